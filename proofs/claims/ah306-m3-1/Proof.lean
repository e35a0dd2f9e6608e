import JvmDerived
import JvmDerived.Pilot.@@N@@Statement
import JvmDerived.Pilot.@@N@@Code
set_option linter.unusedVariables false
set_option linter.unusedSimpArgs false
namespace Jvm.Pilot.@@N@@
open Jvm Jvm.ClassFile Sem Op Lib Jvm.Free Jvm.Stand Jvm.LawKit Jvm.RoadKit Bundle Jvm.Pilot.@@N@@.Jvm.D
/-! own layer: the run from a state ends in a return of which Q holds; one step leads from there to there -/
def own_ishl (x y : Int32) : Int32 := x <<< (y &&& 31)
def own_ishr (x y : Int32) : Int32 := x >>> (y &&& 31)
def own_iushr (x y : Int32) : Int32 := (x.toUInt32 >>> (y &&& 31).toUInt32).toInt32
def own_lshl (x : Int64) (y : Int32) : Int64 := x <<< (y &&& 0x3f).toInt64
def own_lshr (x : Int64) (y : Int32) : Int64 := x >>> (y &&& 0x3f).toInt64
def own_lushr (x : Int64) (y : Int32) : Int64 := (x.toUInt64 >>> (y &&& 0x3f).toInt64.toUInt64).toInt64
def own_i2b (x : Int32) : Int32 := x.toInt8.toInt32
def own_i2c (x : Int32) : Int32 := x.toUInt32.toUInt16.toUInt32.toInt32
def own_Fin (tb : Tables) (e : Env) (below : List Frame) (s : State) (Q : Option Value → Heap → List Loc → Prop) (k n : Nat) (t : State) : Prop :=
  ∃ s₂ o, Steps tb e below t s₂ ∧ s₂.status = .running ∧ Ended s₂ below o ∧ ∃ v L, o = .returned v ∧ Q v s₂.heap L ∧ FrameEnd s o s₂ L k n
theorem own_go {tb : Tables} {e : Env} {below : List Frame} {s : State} {Q : Option Value → Heap → List Loc → Prop} {k n : Nat} {t t' : State}
    (h : ∀ target, Steps tb e below t' target → Steps tb e below t target) (q : own_Fin tb e below s Q k n t') : own_Fin tb e below s Q k n t := by
  obtain ⟨s2, o, h1, h2⟩ := q
  exact ⟨s2, o, h _ h1, h2⟩
def own_QP (r : Option Value) (h0 : Heap) (n0 : Nat) (v : Option Value) (h : Heap) (L : List Loc) : Prop := v = r ∧ Fr n0 L ∧ h = h0
section OwnA
variable {p : Program} {l : Launch} {e : Env} {R : Room} {s : State} {m : MethodId} {args : Array Value} {below : List Frame} {meth : Method} {c : Code} {T : State} {locs : List Loc} {cells slots : Nat}
theorem own_mono (X : Stand p l e R s m args below meth c T locs cells slots) {k n : Nat} (hk : cells ≤ k) (hn : slots ≤ n) : Stand p l e R s m args below meth c T locs k n :=
  { X with same := X.same.mono hk hn }
theorem own_ret (X : Stand p l e R s m args below meth c T locs cells slots) (hx : p.tables.exec = Jvm.exec) (hlk : meth.locks = false) {pc : Nat} {Ls : Array Slot} {w : Value} {t : FieldType} {i : Instr} {rest : List Value} (hret : meth.sig.returnType = some t) (hn : narrow t w = w)
    (hi : (i = .ireturn ∧ (t = .int ∨ t = .boolean ∨ t = .byte ∨ t = .char ∨ t = .short) ∧ ∃ z, w = .int z) ∨ (i = .lreturn ∧ t = .long ∧ ∃ z, w = .long z) ∨ (i = .dreturn ∧ t = .double ∧ ∃ z, w = .double z) ∨ (i = .freturn ∧ t = .float ∧ ∃ z, w = .float z) ∨ (i = .areturn ∧ t.isReference = true ∧ w.isRef = true))
    (hd : decode c.code pc = .ok (i, 1)) {Q : Option Value → Heap → List Loc → Prop} {k n : Nat} (hk : cells ≤ k) (hs : slots ≤ n) (hQ : Q (some w) T.heap locs) :
    own_Fin p.tables e below s Q k n (T.setTop (mkF m pc Ls (w :: rest))) := by
  obtain ⟨fs, hr, hrun, hended, hW, hsame⟩ := X.leave (v := some w) (fun h => by rw [hret] at h; cases h) hlk
  exact ⟨_, _, retOut X hx hret hn hi hd hr, hrun, hended, _, _, rfl, hQ, ⟨_, rfl⟩, hW, hsame.mono hk hs⟩
theorem own_retV (X : Stand p l e R s m args below meth c T locs cells slots) (hx : p.tables.exec = Jvm.exec) (hlk : meth.locks = false) {pc : Nat} {Ls : Array Slot} (hret : meth.sig.returnType = none)
    (hd : decode c.code pc = .ok (.return_, 1)) {Q : Option Value → Heap → List Loc → Prop} {k n : Nat} (hk : cells ≤ k) (hs : slots ≤ n) (hQ : Q none T.heap locs) :
    own_Fin p.tables e below s Q k n (T.setTop (mkF m pc Ls [])) := by
  obtain ⟨fs, hr, hrun, hended, hW, hsame⟩ := X.leave (v := none) (fun _ => rfl) hlk
  exact ⟨_, _, X.returnOut hx hret hd hr, hrun, hended, _, _, rfl, hQ, ⟨_, rfl⟩, hW, hsame.mono hk hs⟩
end OwnA
theorem own_irem {tb : Tables} [Ours tb] {e : Env} {below : List Frame} {T target : State} {m : MethodId} {c : Code} {g : JFrame} (h : At T m c below) (hx : tb.exec = Jvm.exec) (hg : g.method = m) {x y : Int32} {rest : List Value} (hd : decode c.code g.pc = .ok (.irem, 1)) (hs : g.stack = .int y :: .int x :: rest) (hy : y ≠ 0)
    (hr : Steps tb e below (T.setTop { g with pc := g.pc + 1, stack := .int (x % y) :: rest }) target) : Steps tb e below (T.setTop g) target :=
  XS.irem h hx hg hd hs hy (by rw [irem_eq_mod x y]; exact hr)
theorem own_lrem {tb : Tables} [Ours tb] {e : Env} {below : List Frame} {T target : State} {m : MethodId} {c : Code} {g : JFrame} (h : At T m c below) (hx : tb.exec = Jvm.exec) (hg : g.method = m) {x y : Int64} {rest : List Value} (hd : decode c.code g.pc = .ok (.lrem, 1)) (hs : g.stack = .long y :: .long x :: rest) (hy : y ≠ 0)
    (hr : Steps tb e below (T.setTop { g with pc := g.pc + 1, stack := .long (x % y) :: rest }) target) : Steps tb e below (T.setTop g) target :=
  XS.lrem h hx hg hd hs hy (by rw [lrem_mod x y]; exact hr)
/-! arrays by a function of the place -/
def own_set {α : Type} (f : Nat → α) (j : Int32) (v : α) : Nat → α := fun i => if i = j.toNatClampNeg then v else f i
def own_Arf (Z : State) (h : Heap) (a : Addr) (ty : FieldType) (n : Int32) (f : Nat → Value) : Prop :=
  ∃ c : Cell, Arr Z h a c ty ∧ c.slots.size = n.toNatClampNeg ∧ ¬ n < 0 ∧ ∀ i, i < n.toNatClampNeg → c.slots[i]? = some (f i)
section OwnB
variable {Z : State} {h h' : Heap} {a b : Addr} {ty : FieldType} {n j : Int32} {f : Nat → Value} {ws : List Addr} {v : Value} {sl : Nat}
theorem own_Arf.lt (F : own_Arf Z h a ty n f) : a < h.size := by obtain ⟨c, A, -⟩ := F; exact A.lt
theorem own_Arf.ext (F : own_Arf Z h a ty n f) (E : Ext h h') : own_Arf Z h' a ty n f := by obtain ⟨c, A, r⟩ := F; exact ⟨c, A.ext E, r⟩
theorem own_Arf.other (F : own_Arf Z h b ty n f) (W : Wr h h' a sl v) (q : b ≠ a) : own_Arf Z h' b ty n f := by obtain ⟨c, A, r⟩ := F; exact ⟨c, A.other W q, r⟩
theorem own_Arf.keep (F : own_Arf Z h a ty n f) (K : Keep h h' ws) (q : a ∉ ws) : own_Arf Z h' a ty n f := by obtain ⟨c, A, r⟩ := F; exact ⟨c, ⟨K.2.1 a c A.1 q, A.2⟩, r⟩
theorem own_Arf.new {k : ClassId} (A : Arr Z h a (newA k ty n) ty) (q : ¬ n < 0) : own_Arf Z h a ty n (fun _ => defaultValue ty) :=
  ⟨_, A, sz_new _ _ _, q, fun i hi => by simp [newA, hi]⟩
theorem own_Arf.wr (F : own_Arf Z h a ty n f) (W : Wr h h' a j.toNatClampNeg v) : own_Arf Z h' a ty n (fun i => if i = j.toNatClampNeg then v else f i) := by
  obtain ⟨c, A, S, q, H⟩ := F
  refine ⟨_, A.same W, by rw [sz_set]; exact S, q, fun i hi => ?_⟩
  by_cases u : i = j.toNatClampNeg
  · subst u; simp [Cell.setSlot, S, hi]
  · simp only [if_neg u, Cell.setSlot]; rw [Array.getElem?_setIfInBounds_ne (Ne.symm u)]; exact H i hi
theorem own_Arf.fn {g : Nat → Value} (F : own_Arf Z h a ty n f) (q : ∀ i, i < n.toNatClampNeg → f i = g i) : own_Arf Z h a ty n g := by
  obtain ⟨c, A, S, q', H⟩ := F
  exact ⟨c, A, S, q', fun i hi => by rw [← q i hi]; exact H i hi⟩
variable {p : Program} {l : Launch} {e : Env} {R : Room} {s : State} {m : MethodId} {args : Array Value} {below : List Frame} {meth : Method} {c : Code} {T : State} {locs : List Loc} {cells slots : Nat} {g : JFrame} {rest : List Value}
theorem own_alen (X : Stand p l e R s m args below meth c T locs cells slots) (hx : p.tables.exec = Jvm.exec) (hZ : Z.Warmed39 s.vm) (eT : T.heap = h) (F : own_Arf Z h a ty n f) (hg : g.method = m) (hs : g.stack = .ref a :: rest) (hd : decode c.code g.pc = .ok (.arraylength, 1)) (target : State)
    (hr : Steps p.tables e below (T.setTop { g with pc := g.pc + 1, stack := .int n :: rest }) target) : Steps p.tables e below (T.setTop g) target := by
  obtain ⟨cl, A, S, q, H⟩ := F
  refine X.arraylength hx (by rw [eT]; exact A.1) (State.isArrayOf_alike hZ.alike A.2.1) hg hs hd _ ?_
  rw [len_of S q]; exact hr
theorem own_iaload (X : Stand p l e R s m args below meth c T locs cells slots) (hx : p.tables.exec = Jvm.exec) (hZ : Z.Warmed39 s.vm) (eT : T.heap = h) (F : own_Arf Z h a .int n f) (hj : ¬ j < 0 ∧ j < n) {x : Int32} (hv : f j.toNatClampNeg = .int x) (hg : g.method = m) (hs : g.stack = .int j :: .ref a :: rest) (hd : decode c.code g.pc = .ok (.iaload, 1)) (target : State)
    (hr : Steps p.tables e below (T.setTop { g with pc := g.pc + 1, stack := .int x :: rest }) target) : Steps p.tables e below (T.setTop g) target := by
  obtain ⟨cl, A, S, q, H⟩ := F
  have hin := inb_of S hj
  exact X.iaload hx (by rw [eT]; exact A.1) (State.isArrayOf_alike hZ.alike A.2.1) A.2.2 hin (by rw [H _ (by rw [← S]; omega), hv]) hg hs hd _ hr
theorem own_baload (X : Stand p l e R s m args below meth c T locs cells slots) (hx : p.tables.exec = Jvm.exec) (hZ : Z.Warmed39 s.vm) (eT : T.heap = h) (F : own_Arf Z h a .byte n f) (hj : ¬ j < 0 ∧ j < n) {x : Int32} (hv : f j.toNatClampNeg = .int x) (hg : g.method = m) (hs : g.stack = .int j :: .ref a :: rest) (hd : decode c.code g.pc = .ok (.baload, 1)) (target : State)
    (hr : Steps p.tables e below (T.setTop { g with pc := g.pc + 1, stack := .int x :: rest }) target) : Steps p.tables e below (T.setTop g) target := by
  obtain ⟨cl, A, S, q, H⟩ := F
  have hin := inb_of S hj
  exact X.baloadBytes hx (by rw [eT]; exact A.1) (State.isArrayOf_alike hZ.alike A.2.1) A.2.2 hin (by rw [H _ (by rw [← S]; omega), hv]) hg hs hd _ hr
theorem own_laload (X : Stand p l e R s m args below meth c T locs cells slots) (hx : p.tables.exec = Jvm.exec) (hZ : Z.Warmed39 s.vm) (eT : T.heap = h) (F : own_Arf Z h a .long n f) (hj : ¬ j < 0 ∧ j < n) {x : Int64} (hv : f j.toNatClampNeg = .long x) (hg : g.method = m) (hs : g.stack = .int j :: .ref a :: rest) (hd : decode c.code g.pc = .ok (.laload, 1)) (target : State)
    (hr : Steps p.tables e below (T.setTop { g with pc := g.pc + 1, stack := .long x :: rest }) target) : Steps p.tables e below (T.setTop g) target := by
  obtain ⟨cl, A, S, q, H⟩ := F
  have hin := inb_of S hj
  exact X.laload hx (by rw [eT]; exact A.1) (State.isArrayOf_alike hZ.alike A.2.1) A.2.2 hin (by rw [H _ (by rw [← S]; omega), hv]) hg hs hd _ hr
theorem own_stI (X : Stand p l e R s m args below meth c T locs cells slots) (hx : p.tables.exec = Jvm.exec) (hZ : Z.Warmed39 s.vm) (eT : T.heap = h) {q : Nat → Int32} (F : own_Arf Z h a .int n (fun i => .int (q i))) (hj : ¬ j < 0 ∧ j < n) {x : Int32} (hg : g.method = m) (hs : g.stack = .int x :: .int j :: .ref a :: rest) (hd : decode c.code g.pc = .ok (.iastore, 1)) :
    ∃ T' h', Stand p l e R s m args below meth c T' (locs ++ [⟨a, j.toNatClampNeg⟩]) cells slots ∧ T'.heap = h' ∧ Wr h h' a j.toNatClampNeg (.int x) ∧ own_Arf Z h' a .int n (fun i => .int (own_set q j x i)) ∧ ∀ target, Steps p.tables e below (T'.setTop { g with pc := g.pc + 1, stack := rest }) target → Steps p.tables e below (T.setTop g) target := by
  obtain ⟨cl, A, S, q1, H⟩ := F
  obtain ⟨T', h', X', e', W, st⟩ := stI X hx hZ eT A (inb_of S hj) hg hs hd
  refine ⟨T', h', X', e', W, (own_Arf.wr ⟨cl, A, S, q1, H⟩ W).fn fun i hi => ?_, st⟩
  simp only [own_set]; split <;> rfl
theorem own_stB (X : Stand p l e R s m args below meth c T locs cells slots) (hx : p.tables.exec = Jvm.exec) (hZ : Z.Warmed39 s.vm) (eT : T.heap = h) {q : Nat → Int32} (F : own_Arf Z h a .byte n (fun i => .int (q i))) (hj : ¬ j < 0 ∧ j < n) {x : Int32} (hg : g.method = m) (hs : g.stack = .int x :: .int j :: .ref a :: rest) (hd : decode c.code g.pc = .ok (.bastore, 1)) :
    ∃ T' h', Stand p l e R s m args below meth c T' (locs ++ [⟨a, j.toNatClampNeg⟩]) cells slots ∧ T'.heap = h' ∧ Wr h h' a j.toNatClampNeg (.int (own_i2b x)) ∧ own_Arf Z h' a .byte n (fun i => .int (own_set q j (own_i2b x) i)) ∧ ∀ target, Steps p.tables e below (T'.setTop { g with pc := g.pc + 1, stack := rest }) target → Steps p.tables e below (T.setTop g) target := by
  obtain ⟨cl, A, S, q1, H⟩ := F
  obtain ⟨T', h', X', e', W, st⟩ := stB X hx hZ eT A (inb_of S hj) hg hs hd
  refine ⟨T', h', X', e', W, (own_Arf.wr ⟨cl, A, S, q1, H⟩ W).fn fun i hi => ?_, st⟩
  simp only [own_set]; split <;> rfl
theorem own_stJ (X : Stand p l e R s m args below meth c T locs cells slots) (hx : p.tables.exec = Jvm.exec) (hZ : Z.Warmed39 s.vm) (eT : T.heap = h) {q : Nat → Int64} (F : own_Arf Z h a .long n (fun i => .long (q i))) (hj : ¬ j < 0 ∧ j < n) {x : Int64} (hg : g.method = m) (hs : g.stack = .long x :: .int j :: .ref a :: rest) (hd : decode c.code g.pc = .ok (.lastore, 1)) :
    ∃ T' h', Stand p l e R s m args below meth c T' (locs ++ [⟨a, j.toNatClampNeg⟩]) cells slots ∧ T'.heap = h' ∧ Wr h h' a j.toNatClampNeg (.long x) ∧ own_Arf Z h' a .long n (fun i => .long (own_set q j x i)) ∧ ∀ target, Steps p.tables e below (T'.setTop { g with pc := g.pc + 1, stack := rest }) target → Steps p.tables e below (T.setTop g) target := by
  obtain ⟨cl, A, S, q1, H⟩ := F
  obtain ⟨T', h', X', e', W, st⟩ := stJ X hx hZ eT A (inb_of S hj) hg hs hd
  refine ⟨T', h', X', e', W, (own_Arf.wr ⟨cl, A, S, q1, H⟩ W).fn fun i hi => ?_, st⟩
  simp only [own_set]; split <;> rfl
end OwnB
def own_QL (r : Option Value) (n0 : Nat) (v : Option Value) (h : Heap) (L : List Loc) : Prop := v = r ∧ Fr n0 L ∧ True
theorem own_ne_arf {Z : State} {h : Heap} {a b : Addr} {C : String} {ty : FieldType} {n : Int32} {f : Nat → Value} {a0 : Array Value} {k : Nat} (F : Exa Z h a C) (wi : (Cond.instantiable C k).before a0 Z = true) (G : own_Arf Z h b ty n f) : a ≠ b := by
  obtain ⟨c, A, -⟩ := G; exact ne_arr F wi A
def own_Two (a b : Slot) : Prop := (a = .unset ∧ b = .unset) ∨ ∃ x : Int64, a = .val (.long x) ∧ b = .second
theorem d1_0 : decode prog_58_method_4_code 0 = .ok (.aload_n 0, 1) := by decide +kernel
theorem d1_1 : decode prog_58_method_4_code 1 = .ok (.arraylength, 1) := by decide +kernel
theorem d1_2 : decode prog_58_method_4_code 2 = .ok (.ifCond .le 17, 3) := by decide +kernel
theorem d1_5 : decode prog_58_method_4_code 5 = .ok (.aload_n 0, 1) := by decide +kernel
theorem d1_6 : decode prog_58_method_4_code 6 = .ok (.iconst 0, 1) := by decide +kernel
theorem d1_7 : decode prog_58_method_4_code 7 = .ok (.baload, 1) := by decide +kernel
theorem d1_8 : decode prog_58_method_4_code 8 = .ok (.sipush 128, 3) := by decide +kernel
theorem d1_11 : decode prog_58_method_4_code 11 = .ok (.iand, 1) := by decide +kernel
theorem d1_12 : decode prog_58_method_4_code 12 = .ok (.ifCond .eq 7, 3) := by decide +kernel
theorem d1_15 : decode prog_58_method_4_code 15 = .ok (.iconst 1, 1) := by decide +kernel
theorem d1_16 : decode prog_58_method_4_code 16 = .ok (.goto 4, 3) := by decide +kernel
theorem d1_19 : decode prog_58_method_4_code 19 = .ok (.iconst 0, 1) := by decide +kernel
theorem d1_20 : decode prog_58_method_4_code 20 = .ok (.ireturn, 1) := by decide +kernel
theorem pn_1 : plainName "com/example/duanfu/duanfu/model/ExtendedApplicationIndicator" = true := by first | (simp [plainName, overriddenIn]; done) | decide +kernel
theorem ef_1 (m : MethodId) (r0 : Addr) : entryFrame m #[(.ref r0)] 1 = mkF m 0 #[.val (.ref r0)] [] := by first | (simp [entryFrame, mkF, argsToLocals, Value.category]; done) | rfl
def rm1_room : Room := { frames := 0, cells := 0, slots := 0, locals := 0 }
def own_f1 (xn : Int32) (xg : Nat → Int32) : Int32 := (if (0 : Int32) < xn then ((if ((xg 0) &&& (128 : Int32)) = (0 : Int32) then ((0 : Int32)) else ((1 : Int32)))) else ((0 : Int32)))
def Qrm1 (Z : State) (r0 : Addr) (xn : Int32) (xg : Nat → Int32) (h0 : Heap) (n0 : Nat) (v : Option Value) (h : Heap) (L : List Loc) : Prop := v = some (.int (own_f1 xn xg)) ∧ Fr n0 L ∧ h = h0
theorem own_lf_own_f1_1 {xn : Int32} {xg : Nat → Int32} (hc1 : (0 : Int32) < xn) (hc2 : ((xg 0) &&& (128 : Int32)) = (0 : Int32)) : (some (.int (0 : Int32)) : Option Value) = some (.int (own_f1 xn xg)) := by
  first | (simp only [own_f1, if_pos hc1, if_pos hc2]; done) | (simp only [own_f1, if_pos hc1, if_pos hc2]; rfl) | rfl
theorem own_lf_own_f1_2 {xn : Int32} {xg : Nat → Int32} (hc1 : (0 : Int32) < xn) (hc2 : ¬ (((xg 0) &&& (128 : Int32)) = (0 : Int32))) : (some (.int (1 : Int32)) : Option Value) = some (.int (own_f1 xn xg)) := by
  first | (simp only [own_f1, if_pos hc1, if_neg hc2]; done) | (simp only [own_f1, if_pos hc1, if_neg hc2]; rfl) | rfl
theorem own_lf_own_f1_3 {xn : Int32} {xg : Nat → Int32} (hc1 : ¬ ((0 : Int32) < xn)) : (some (.int (0 : Int32)) : Option Value) = some (.int (own_f1 xn xg)) := by
  first | (simp only [own_f1, if_neg hc1]; done) | (simp only [own_f1, if_neg hc1]; rfl) | rfl
set_option maxRecDepth 65536 in
set_option maxHeartbeats 40000000 in
theorem rm1 (l : Launch) (Z : State) (a0 : Array Value) (hw : ∀ d ∈ tables_1, d.before a0 Z = true) (ws : List Jvm.Cond) (r0 : Addr) (xn : Int32) (xg : Nat → Int32) (h0 : Heap) (n0 : Nat) (Z0 : n0 ≤ h0.size) (A_r0_0 : own_Arf Z h0 r0 .byte xn (fun i => .int (xg i))) :
    MetFree l (⟨"com/example/duanfu/duanfu/model/ExtendedApplicationIndicator", "givesRmac", "([B)Z"⟩ : MethodName) (head1 (Jvm.Cond.code (⟨"com/example/duanfu/duanfu/model/ExtendedApplicationIndicator", "givesRmac", "([B)Z"⟩ : MethodName) prog_58_method_4_code 1 (some .boolean) :: ws) rm1_room) (fun a U => a = #[(.ref r0)] ∧ Z.Warmed39 U.vm ∧ U.heap = h0) (fun _ _ _ _ _ => True) (fun _ U o U' => ∃ v L, o = .returned v ∧ Qrm1 Z r0 xn xg h0 n0 v U'.heap L ∧ FrameEnd U o U' L rm1_room.cells rm1_room.slots) := by
  refine MetFree.of_bodySF (plainFor_of_name pn_1) hisR ?_
  intro p e s m args below meth c s₁ Bd hml0 hP hK
  obtain ⟨rfl, hZ, hh⟩ := hP
  have hx := Bd.exec
  have hby := Bd.bytes
  have hml : c.maxLocals = 1 := hml0
  have hown : s.vm.findClass "com/example/duanfu/duanfu/model/ExtendedApplicationIndicator" = some m.cls := findClass_of_methodNamed Bd.named
  have hnm := (name_of_methodNamed Bd.named Bd.method).1
  have hlk : meth.locks = false := BodyLoose.notSynchronized Bd
  have X0 : Stand p l e rm1_room s m #[(.ref r0)] below meth c s₁ [] 0 0 := Stand.of_body Bd
  have e0 : s₁.heap = h0 := by rw [← hh, Bd.state]; rfl
  have N0 := Fr.nil n0
  show own_Fin p.tables e below s (Qrm1 Z r0 xn xg h0 n0) rm1_room.cells rm1_room.slots (s₁.setTop (entryFrame m #[(.ref r0)] 1))
  rw [ef_1]
  show own_Fin _ _ _ _ _ _ _ (s₁.setTop (mkF m 0 #[.val (.ref r0)] []))
  refine own_go (fun _ k => XS.aloadN X0.here hx rfl (hb hby d1_0) rfl rfl k) ?_
  show own_Fin _ _ _ _ _ _ _ (s₁.setTop (mkF m 1 #[.val (.ref r0)] [(.ref r0)]))
  refine own_go (fun tg k => own_alen X0 hx hZ e0 A_r0_0 (g := (mkF m 1 #[.val (.ref r0)] [(.ref r0)])) rfl rfl (hb hby d1_1) tg k) ?_
  show own_Fin _ _ _ _ _ _ _ (s₁.setTop (mkF m 2 #[.val (.ref r0)] [(.int xn)]))
  by_cases hc1 : (0 : Int32) < xn
  · refine own_go (fun _ k => XS.ifNo X0.here hx rfl (hb hby d1_2) rfl ((if0 _ _).trans (tlt hc1).2.2.2) k) ?_
    show own_Fin _ _ _ _ _ _ _ (s₁.setTop (mkF m 5 #[.val (.ref r0)] []))
    refine own_go (fun _ k => XS.aloadN X0.here hx rfl (hb hby d1_5) rfl rfl k) ?_
    show own_Fin _ _ _ _ _ _ _ (s₁.setTop (mkF m 6 #[.val (.ref r0)] [(.ref r0)]))
    refine own_go (fun _ k => XS.iconst X0.here hx rfl (hb hby d1_6) k) ?_
    show own_Fin _ _ _ _ _ _ _ (s₁.setTop (mkF m 7 #[.val (.ref r0)] [(.int (0 : Int32)), (.ref r0)]))
    refine own_go (fun tg k => own_baload X0 hx hZ e0 A_r0_0 (j := (0 : Int32)) ⟨by decide, hc1⟩ (x := (xg 0)) rfl (g := (mkF m 7 #[.val (.ref r0)] [(.int (0 : Int32)), (.ref r0)])) rfl rfl (hb hby d1_7) tg k) ?_
    show own_Fin _ _ _ _ _ _ _ (s₁.setTop (mkF m 8 #[.val (.ref r0)] [(.int (xg 0))]))
    refine own_go (fun _ k => XS.sipush X0.here hx rfl (hb hby d1_8) k) ?_
    show own_Fin _ _ _ _ _ _ _ (s₁.setTop (mkF m 11 #[.val (.ref r0)] [(.int (128 : Int32)), (.int (xg 0))]))
    refine own_go (fun _ k => XS.iand X0.here hx rfl (hb hby d1_11) rfl k) ?_
    show own_Fin _ _ _ _ _ _ _ (s₁.setTop (mkF m 12 #[.val (.ref r0)] [(.int ((xg 0) &&& (128 : Int32)))]))
    by_cases hc2 : ((xg 0) &&& (128 : Int32)) = (0 : Int32)
    · refine own_go (fun _ k => XS.ifYes X0.here hx rfl (pc0 := 12) (pc' := 19) rfl (hb hby d1_12) rfl ((if0 _ _).trans (teq hc2).1) (by decide) (by decide) k) ?_
      show own_Fin _ _ _ _ _ _ _ (s₁.setTop (mkF m 19 #[.val (.ref r0)] []))
      refine own_go (fun _ k => XS.iconst X0.here hx rfl (hb hby d1_19) k) ?_
      show own_Fin _ _ _ _ _ _ _ (s₁.setTop (mkF m 20 #[.val (.ref r0)] [(.int (0 : Int32))]))
      refine own_ret X0 hx hlk Bd.returns rfl (Or.inl ⟨rfl, by simp, _, rfl⟩) (hb hby d1_20) (Nat.le_of_ble_eq_true rfl) (Nat.le_of_ble_eq_true rfl) ?_
      refine ⟨(own_lf_own_f1_1 (xn := xn) (xg := xg) hc1 hc2), N0, e0⟩
    · refine own_go (fun _ k => XS.ifNo X0.here hx rfl (hb hby d1_12) rfl ((if0 _ _).trans (feq hc2).1) k) ?_
      show own_Fin _ _ _ _ _ _ _ (s₁.setTop (mkF m 15 #[.val (.ref r0)] []))
      refine own_go (fun _ k => XS.iconst X0.here hx rfl (hb hby d1_15) k) ?_
      show own_Fin _ _ _ _ _ _ _ (s₁.setTop (mkF m 16 #[.val (.ref r0)] [(.int (1 : Int32))]))
      refine own_go (fun _ k => XS.goto X0.here hx rfl (pc0 := 16) (pc' := 20) rfl (hb hby d1_16) (by decide) (by decide) k) ?_
      show own_Fin _ _ _ _ _ _ _ (s₁.setTop (mkF m 20 #[.val (.ref r0)] [(.int (1 : Int32))]))
      refine own_ret X0 hx hlk Bd.returns rfl (Or.inl ⟨rfl, by simp, _, rfl⟩) (hb hby d1_20) (Nat.le_of_ble_eq_true rfl) (Nat.le_of_ble_eq_true rfl) ?_
      refine ⟨(own_lf_own_f1_2 (xn := xn) (xg := xg) hc1 hc2), N0, e0⟩
  · refine own_go (fun _ k => XS.ifYes X0.here hx rfl (pc0 := 2) (pc' := 19) rfl (hb hby d1_2) rfl ((if0 _ _).trans (flt hc1).2.2.2) (by decide) (by decide) k) ?_
    show own_Fin _ _ _ _ _ _ _ (s₁.setTop (mkF m 19 #[.val (.ref r0)] []))
    refine own_go (fun _ k => XS.iconst X0.here hx rfl (hb hby d1_19) k) ?_
    show own_Fin _ _ _ _ _ _ _ (s₁.setTop (mkF m 20 #[.val (.ref r0)] [(.int (0 : Int32))]))
    refine own_ret X0 hx hlk Bd.returns rfl (Or.inl ⟨rfl, by simp, _, rfl⟩) (hb hby d1_20) (Nat.le_of_ble_eq_true rfl) (Nat.le_of_ble_eq_true rfl) ?_
    refine ⟨(own_lf_own_f1_3 (xn := xn) (xg := xg) hc1), N0, e0⟩
theorem own_n3 (x : Int32) (h0 : ¬ (x &&& (3 : Int32)) = (0 : Int32)) (h1 : ¬ (x &&& (3 : Int32)) = (1 : Int32)) (h2 : ¬ (x &&& (3 : Int32)) = (2 : Int32)) : (x &&& (3 : Int32)) = (3 : Int32) := by
  have a := c_and x 3 (by decide)
  rw [show (3 : Int32).toInt = 3 from by decide] at a
  have q0 : (x &&& 3).toInt ≠ 0 := fun q => h0 (Int32.toInt_inj.mp q)
  have q1 : (x &&& 3).toInt ≠ 1 := fun q => h1 (Int32.toInt_inj.mp q)
  have q2 : (x &&& 3).toInt ≠ 2 := fun q => h2 (Int32.toInt_inj.mp q)
  exact Int32.toInt_inj.mp (by rw [show (3 : Int32).toInt = 3 from by decide]; omega)
theorem own_pd14 : parseMethodDescriptor "([B)Z" = some ⟨[(.array .byte)], some .boolean⟩ := by decide +kernel
theorem pn_0 : plainName "com/example/duanfu/duanfu/model/ExtendedApplicationIndicatorGivesRmacPinLaw" = true := by first | (simp [plainName, overriddenIn]; done) | decide +kernel
theorem ef_0 (m : MethodId) (p0 : Int32) (p1 : Int32) (p2 : Int32) (p3 : Int32) : entryFrame m #[(.int p0), (.int p1), (.int p2), (.int p3)] maxLocals = mkF m 0 #[.val (.int p0), .val (.int p1), .val (.int p2), .val (.int p3), .unset, .unset, .unset] [] := by first | (simp [entryFrame, mkF, argsToLocals, Value.category, maxLocals]; done) | rfl
def own_f0 (p0 : Int32) (p1 : Int32) (p2 : Int32) (p3 : Int32) : Int32 := (if (p0 &&& (3 : Int32)) = (0 : Int32) then ((if (own_f1 (0 : Int32) (fun _ => (0 : Int32))) = (0 : Int32) then ((1 : Int32)) else ((0 : Int32)))) else ((if (p0 &&& (3 : Int32)) = (1 : Int32) then (let f7 := (own_set (fun _ => (0 : Int32)) (0 : Int32) (own_i2b (own_i2b p1))); let z11 := (if (p1 &&& (255 : Int32)) < (128 : Int32) then (0 : Int32) else (1 : Int32)); (if (own_f1 (1 : Int32) f7) = z11 then ((1 : Int32)) else ((0 : Int32)))) else ((if (p0 &&& (3 : Int32)) = (2 : Int32) then (let f16 := (own_set (fun _ => (0 : Int32)) (0 : Int32) (own_i2b (own_i2b p1))); let f17 := (own_set f16 (1 : Int32) (own_i2b (own_i2b p2))); let z21 := (if (p1 &&& (255 : Int32)) < (128 : Int32) then (0 : Int32) else (1 : Int32)); (if (own_f1 (2 : Int32) f17) = z21 then ((1 : Int32)) else ((0 : Int32)))) else (let f26 := (own_set (fun _ => (0 : Int32)) (0 : Int32) (own_i2b (own_i2b p1))); let f27 := (own_set f26 (1 : Int32) (own_i2b (own_i2b p2))); let f28 := (own_set f27 (2 : Int32) (own_i2b (own_i2b p3))); let z32 := (if (p1 &&& (255 : Int32)) < (128 : Int32) then (0 : Int32) else (1 : Int32)); (if (own_f1 (3 : Int32) f28) = z32 then ((1 : Int32)) else ((0 : Int32)))))))))
theorem own_lf_own_f0_1 {p0 : Int32} {p1 : Int32} {p2 : Int32} {p3 : Int32} (hs1 : (p0 &&& (3 : Int32)) = (0 : Int32)) (hc4 : (own_f1 (0 : Int32) (fun _ => (0 : Int32))) = (0 : Int32)) : (some (.int (1 : Int32)) : Option Value) = some (.int (own_f0 p0 p1 p2 p3)) := by
  first | (simp only [own_f0, if_pos hs1, if_pos hc4]; done) | (simp only [own_f0, if_pos hs1, if_pos hc4]; rfl) | rfl
theorem own_lf_own_f0_2 {p0 : Int32} {p1 : Int32} {p2 : Int32} {p3 : Int32} (hs1 : (p0 &&& (3 : Int32)) = (0 : Int32)) (hc4 : ¬ ((own_f1 (0 : Int32) (fun _ => (0 : Int32))) = (0 : Int32))) : (some (.int (0 : Int32)) : Option Value) = some (.int (own_f0 p0 p1 p2 p3)) := by
  first | (simp only [own_f0, if_pos hs1, if_neg hc4]; done) | (simp only [own_f0, if_pos hs1, if_neg hc4]; rfl) | rfl
theorem own_lf_own_f0_3 {p0 : Int32} {p1 : Int32} {p2 : Int32} {p3 : Int32} {f7 : Nat → Int32} {z11 : Int32} (hf7 : f7 = (own_set (fun _ => (0 : Int32)) (0 : Int32) (own_i2b (own_i2b p1)))) (hz11 : (if (p1 &&& (255 : Int32)) < (128 : Int32) then (0 : Int32) else (1 : Int32)) = z11) (hs1 : ¬ ((p0 &&& (3 : Int32)) = (0 : Int32))) (hs5 : (p0 &&& (3 : Int32)) = (1 : Int32)) (hc13 : (own_f1 (1 : Int32) f7) = z11) : (some (.int (1 : Int32)) : Option Value) = some (.int (own_f0 p0 p1 p2 p3)) := by
  subst hz11
  subst hf7
  first | (simp only [own_f0, if_neg hs1, if_pos hs5, if_pos hc13]; done) | (simp only [own_f0, if_neg hs1, if_pos hs5, if_pos hc13]; rfl) | rfl
theorem own_lf_own_f0_4 {p0 : Int32} {p1 : Int32} {p2 : Int32} {p3 : Int32} {f7 : Nat → Int32} {z11 : Int32} (hf7 : f7 = (own_set (fun _ => (0 : Int32)) (0 : Int32) (own_i2b (own_i2b p1)))) (hz11 : (if (p1 &&& (255 : Int32)) < (128 : Int32) then (0 : Int32) else (1 : Int32)) = z11) (hs1 : ¬ ((p0 &&& (3 : Int32)) = (0 : Int32))) (hs5 : (p0 &&& (3 : Int32)) = (1 : Int32)) (hc13 : ¬ ((own_f1 (1 : Int32) f7) = z11)) : (some (.int (0 : Int32)) : Option Value) = some (.int (own_f0 p0 p1 p2 p3)) := by
  subst hz11
  subst hf7
  first | (simp only [own_f0, if_neg hs1, if_pos hs5, if_neg hc13]; done) | (simp only [own_f0, if_neg hs1, if_pos hs5, if_neg hc13]; rfl) | rfl
theorem own_lf_own_f0_5 {p0 : Int32} {p1 : Int32} {p2 : Int32} {p3 : Int32} {f16 : Nat → Int32} {f17 : Nat → Int32} {z21 : Int32} (hf16 : f16 = (own_set (fun _ => (0 : Int32)) (0 : Int32) (own_i2b (own_i2b p1)))) (hf17 : f17 = (own_set f16 (1 : Int32) (own_i2b (own_i2b p2)))) (hz21 : (if (p1 &&& (255 : Int32)) < (128 : Int32) then (0 : Int32) else (1 : Int32)) = z21) (hs1 : ¬ ((p0 &&& (3 : Int32)) = (0 : Int32))) (hs5 : ¬ ((p0 &&& (3 : Int32)) = (1 : Int32))) (hs14 : (p0 &&& (3 : Int32)) = (2 : Int32)) (hc23 : (own_f1 (2 : Int32) f17) = z21) : (some (.int (1 : Int32)) : Option Value) = some (.int (own_f0 p0 p1 p2 p3)) := by
  subst hz21
  subst hf17
  subst hf16
  first | (simp only [own_f0, if_neg hs1, if_neg hs5, if_pos hs14, if_pos hc23]; done) | (simp only [own_f0, if_neg hs1, if_neg hs5, if_pos hs14, if_pos hc23]; rfl) | rfl
theorem own_lf_own_f0_6 {p0 : Int32} {p1 : Int32} {p2 : Int32} {p3 : Int32} {f16 : Nat → Int32} {f17 : Nat → Int32} {z21 : Int32} (hf16 : f16 = (own_set (fun _ => (0 : Int32)) (0 : Int32) (own_i2b (own_i2b p1)))) (hf17 : f17 = (own_set f16 (1 : Int32) (own_i2b (own_i2b p2)))) (hz21 : (if (p1 &&& (255 : Int32)) < (128 : Int32) then (0 : Int32) else (1 : Int32)) = z21) (hs1 : ¬ ((p0 &&& (3 : Int32)) = (0 : Int32))) (hs5 : ¬ ((p0 &&& (3 : Int32)) = (1 : Int32))) (hs14 : (p0 &&& (3 : Int32)) = (2 : Int32)) (hc23 : ¬ ((own_f1 (2 : Int32) f17) = z21)) : (some (.int (0 : Int32)) : Option Value) = some (.int (own_f0 p0 p1 p2 p3)) := by
  subst hz21
  subst hf17
  subst hf16
  first | (simp only [own_f0, if_neg hs1, if_neg hs5, if_pos hs14, if_neg hc23]; done) | (simp only [own_f0, if_neg hs1, if_neg hs5, if_pos hs14, if_neg hc23]; rfl) | rfl
theorem own_lf_own_f0_7 {p0 : Int32} {p1 : Int32} {p2 : Int32} {p3 : Int32} {f26 : Nat → Int32} {f27 : Nat → Int32} {f28 : Nat → Int32} {z32 : Int32} (hf26 : f26 = (own_set (fun _ => (0 : Int32)) (0 : Int32) (own_i2b (own_i2b p1)))) (hf27 : f27 = (own_set f26 (1 : Int32) (own_i2b (own_i2b p2)))) (hf28 : f28 = (own_set f27 (2 : Int32) (own_i2b (own_i2b p3)))) (hz32 : (if (p1 &&& (255 : Int32)) < (128 : Int32) then (0 : Int32) else (1 : Int32)) = z32) (hs1 : ¬ ((p0 &&& (3 : Int32)) = (0 : Int32))) (hs5 : ¬ ((p0 &&& (3 : Int32)) = (1 : Int32))) (hs14 : ¬ ((p0 &&& (3 : Int32)) = (2 : Int32))) (hc34 : (own_f1 (3 : Int32) f28) = z32) : (some (.int (1 : Int32)) : Option Value) = some (.int (own_f0 p0 p1 p2 p3)) := by
  subst hz32
  subst hf28
  subst hf27
  subst hf26
  first | (simp only [own_f0, if_neg hs1, if_neg hs5, if_neg hs14, if_pos hc34]; done) | (simp only [own_f0, if_neg hs1, if_neg hs5, if_neg hs14, if_pos hc34]; rfl) | rfl
theorem own_lf_own_f0_8 {p0 : Int32} {p1 : Int32} {p2 : Int32} {p3 : Int32} {f26 : Nat → Int32} {f27 : Nat → Int32} {f28 : Nat → Int32} {z32 : Int32} (hf26 : f26 = (own_set (fun _ => (0 : Int32)) (0 : Int32) (own_i2b (own_i2b p1)))) (hf27 : f27 = (own_set f26 (1 : Int32) (own_i2b (own_i2b p2)))) (hf28 : f28 = (own_set f27 (2 : Int32) (own_i2b (own_i2b p3)))) (hz32 : (if (p1 &&& (255 : Int32)) < (128 : Int32) then (0 : Int32) else (1 : Int32)) = z32) (hs1 : ¬ ((p0 &&& (3 : Int32)) = (0 : Int32))) (hs5 : ¬ ((p0 &&& (3 : Int32)) = (1 : Int32))) (hs14 : ¬ ((p0 &&& (3 : Int32)) = (2 : Int32))) (hc34 : ¬ ((own_f1 (3 : Int32) f28) = z32)) : (some (.int (0 : Int32)) : Option Value) = some (.int (own_f0 p0 p1 p2 p3)) := by
  subst hz32
  subst hf28
  subst hf27
  subst hf26
  first | (simp only [own_f0, if_neg hs1, if_neg hs5, if_neg hs14, if_neg hc34]; done) | (simp only [own_f0, if_neg hs1, if_neg hs5, if_neg hs14, if_neg hc34]; rfl) | rfl
set_option maxRecDepth 65536 in
set_option maxHeartbeats 40000000 in
theorem rm0 (l : Launch) (Z : State) (a0 : Array Value) (hw : ∀ d ∈ tables_1, d.before a0 Z = true) (ws : List Jvm.Cond) (p0 : Int32) (p1 : Int32) (p2 : Int32) (p3 : Int32) (h0 : Heap) (n0 : Nat) (Z0 : n0 ≤ h0.size) :
    MetFree l x (head1 (Jvm.Cond.code x code maxLocals ret :: ws) room_1) (fun a U => a = #[(.int p0), (.int p1), (.int p2), (.int p3)] ∧ Z.Warmed39 U.vm ∧ U.heap = h0) (fun _ _ _ _ _ => True) (fun _ U o U' => ∃ v L, o = .returned v ∧ own_QL (some (.int (own_f0 p0 p1 p2 p3))) n0 v U'.heap L ∧ FrameEnd U o U' L 16 128) := by
  refine MetFree.of_bodySF (plainFor_of_name pn_0) hisR ?_
  intro p e s m args below meth c s₁ Bd hml0 hP hK
  obtain ⟨rfl, hZ, hh⟩ := hP
  have hx := Bd.exec
  have hby := Bd.bytes
  have hml : c.maxLocals = 7 := hml0
  have hown : s.vm.findClass "com/example/duanfu/duanfu/model/ExtendedApplicationIndicatorGivesRmacPinLaw" = some m.cls := findClass_of_methodNamed Bd.named
  have hnm := (name_of_methodNamed Bd.named Bd.method).1
  have hlk : meth.locks = false := BodyLoose.notSynchronized Bd
  have X0 : Stand p l e room_1 s m #[(.int p0), (.int p1), (.int p2), (.int p3)] below meth c s₁ [] 0 0 := Stand.of_body Bd
  have e0 : s₁.heap = h0 := by rw [← hh, Bd.state]; rfl
  have N0 := Fr.nil n0
  show own_Fin p.tables e below s (own_QL (some (.int (own_f0 p0 p1 p2 p3))) n0) 16 128 (s₁.setTop (entryFrame m #[(.int p0), (.int p1), (.int p2), (.int p3)] maxLocals))
  rw [ef_0]
  show own_Fin _ _ _ _ _ _ _ (s₁.setTop (mkF m 0 #[.val (.int p0), .val (.int p1), .val (.int p2), .val (.int p3), .unset, .unset, .unset] []))
  refine own_go (fun _ k => XS.iloadN X0.here hx rfl (hb hby at_0) rfl k) ?_
  show own_Fin _ _ _ _ _ _ _ (s₁.setTop (mkF m 1 #[.val (.int p0), .val (.int p1), .val (.int p2), .val (.int p3), .unset, .unset, .unset] [(.int p0)]))
  refine own_go (fun _ k => XS.iconst X0.here hx rfl (hb hby at_1) k) ?_
  show own_Fin _ _ _ _ _ _ _ (s₁.setTop (mkF m 2 #[.val (.int p0), .val (.int p1), .val (.int p2), .val (.int p3), .unset, .unset, .unset] [(.int (3 : Int32)), (.int p0)]))
  refine own_go (fun _ k => XS.iand X0.here hx rfl (hb hby at_2) rfl k) ?_
  show own_Fin _ _ _ _ _ _ _ (s₁.setTop (mkF m 3 #[.val (.int p0), .val (.int p1), .val (.int p2), .val (.int p3), .unset, .unset, .unset] [(.int (p0 &&& (3 : Int32)))]))
  refine own_go (fun _ k => XS.istore X0.here hx rfl (hb hby at_3) rfl (l' := #[.val (.int p0), .val (.int p1), .val (.int p2), .val (.int p3), .val (.int (p0 &&& (3 : Int32))), .unset, .unset]) rfl k) ?_
  show own_Fin _ _ _ _ _ _ _ (s₁.setTop (mkF m 5 #[.val (.int p0), .val (.int p1), .val (.int p2), .val (.int p3), .val (.int (p0 &&& (3 : Int32))), .unset, .unset] []))
  by_cases hs1 : (p0 &&& (3 : Int32)) = (0 : Int32)
  · rw [hs1]
    show own_Fin _ _ _ _ _ _ _ (s₁.setTop (mkF m 5 #[.val (.int p0), .val (.int p1), .val (.int p2), .val (.int p3), .val (.int (0 : Int32)), .unset, .unset] []))
    refine own_go (fun _ k => XS.iload X0.here hx rfl (hb hby at_5) rfl k) ?_
    show own_Fin _ _ _ _ _ _ _ (s₁.setTop (mkF m 7 #[.val (.int p0), .val (.int p1), .val (.int p2), .val (.int p3), .val (.int (0 : Int32)), .unset, .unset] [(.int (0 : Int32))]))
    obtain ⟨T2, h2, k2, X2, e2, E2, A2, st2⟩ := newP X0 hx hZ (hw _ (List.mem_of_getElem? (i := 0) rfl)) e0 (g := (mkF m 7 #[.val (.int p0), .val (.int p1), .val (.int p2), .val (.int p3), .val (.int (0 : Int32)), .unset, .unset] [(.int (0 : Int32))])) rfl (hb hby at_7) rfl (by decide) (cap := 0) (by decide) (by decide) (by decide) (by decide)
    obtain ⟨b2, g2⟩ : ∃ z, z = h0.size := ⟨_, rfl⟩
    rw [← g2] at A2 st2
    have ge_b2 : n0 ≤ b2 := Nat.le_trans Z0 (Nat.le_of_eq g2.symm)
    have Z2 : n0 ≤ h2.size := Nat.le_trans Z0 E2.1
    have A_b2_2 : own_Arf Z h2 b2 .byte (0 : Int32) (fun i => .int ((fun _ => (0 : Int32)) i)) := own_Arf.new A2 (by decide)
    refine own_go (fun tg k => st2 tg k) ?_
    show own_Fin _ _ _ _ _ _ _ (T2.setTop (mkF m 9 #[.val (.int p0), .val (.int p1), .val (.int p2), .val (.int p3), .val (.int (0 : Int32)), .unset, .unset] [(.ref b2)]))
    refine own_go (fun _ k => XS.astore X2.here hx rfl (hb hby at_9) rfl rfl (l' := #[.val (.int p0), .val (.int p1), .val (.int p2), .val (.int p3), .val (.int (0 : Int32)), .val (.ref b2), .unset]) rfl k) ?_
    show own_Fin _ _ _ _ _ _ _ (T2.setTop (mkF m 11 #[.val (.int p0), .val (.int p1), .val (.int p2), .val (.int p3), .val (.int (0 : Int32)), .val (.ref b2), .unset] []))
    refine own_go (fun _ k => XS.iload X2.here hx rfl (hb hby at_11) rfl k) ?_
    show own_Fin _ _ _ _ _ _ _ (T2.setTop (mkF m 13 #[.val (.int p0), .val (.int p1), .val (.int p2), .val (.int p3), .val (.int (0 : Int32)), .val (.ref b2), .unset] [(.int (0 : Int32))]))
    refine own_go (fun _ k => XS.ifYes X2.here hx rfl (pc0 := 13) (pc' := 22) rfl (hb hby at_13) rfl ((if0 _ _).trans (flt (by decide)).2.2.2) (by decide) (by decide) k) ?_
    show own_Fin _ _ _ _ _ _ _ (T2.setTop (mkF m 22 #[.val (.int p0), .val (.int p1), .val (.int p2), .val (.int p3), .val (.int (0 : Int32)), .val (.ref b2), .unset] []))
    refine own_go (fun _ k => XS.iload X2.here hx rfl (hb hby at_22) rfl k) ?_
    show own_Fin _ _ _ _ _ _ _ (T2.setTop (mkF m 24 #[.val (.int p0), .val (.int p1), .val (.int p2), .val (.int p3), .val (.int (0 : Int32)), .val (.ref b2), .unset] [(.int (0 : Int32))]))
    refine own_go (fun _ k => XS.iconst X2.here hx rfl (hb hby at_24) k) ?_
    show own_Fin _ _ _ _ _ _ _ (T2.setTop (mkF m 25 #[.val (.int p0), .val (.int p1), .val (.int p2), .val (.int p3), .val (.int (0 : Int32)), .val (.ref b2), .unset] [(.int (1 : Int32)), (.int (0 : Int32))]))
    refine own_go (fun _ k => XS.icmpYes X2.here hx rfl (pc0 := 25) (pc' := 34) rfl (hb hby at_25) rfl (flt (by decide)).2.2.2 (by decide) (by decide) k) ?_
    show own_Fin _ _ _ _ _ _ _ (T2.setTop (mkF m 34 #[.val (.int p0), .val (.int p1), .val (.int p2), .val (.int p3), .val (.int (0 : Int32)), .val (.ref b2), .unset] []))
    refine own_go (fun _ k => XS.iload X2.here hx rfl (hb hby at_34) rfl k) ?_
    show own_Fin _ _ _ _ _ _ _ (T2.setTop (mkF m 36 #[.val (.int p0), .val (.int p1), .val (.int p2), .val (.int p3), .val (.int (0 : Int32)), .val (.ref b2), .unset] [(.int (0 : Int32))]))
    refine own_go (fun _ k => XS.iconst X2.here hx rfl (hb hby at_36) k) ?_
    show own_Fin _ _ _ _ _ _ _ (T2.setTop (mkF m 37 #[.val (.int p0), .val (.int p1), .val (.int p2), .val (.int p3), .val (.int (0 : Int32)), .val (.ref b2), .unset] [(.int (2 : Int32)), (.int (0 : Int32))]))
    refine own_go (fun _ k => XS.icmpYes X2.here hx rfl (pc0 := 37) (pc' := 46) rfl (hb hby at_37) rfl (flt (by decide)).2.2.2 (by decide) (by decide) k) ?_
    show own_Fin _ _ _ _ _ _ _ (T2.setTop (mkF m 46 #[.val (.int p0), .val (.int p1), .val (.int p2), .val (.int p3), .val (.int (0 : Int32)), .val (.ref b2), .unset] []))
    refine own_go (fun _ k => XS.iload X2.here hx rfl (hb hby at_46) rfl k) ?_
    show own_Fin _ _ _ _ _ _ _ (T2.setTop (mkF m 48 #[.val (.int p0), .val (.int p1), .val (.int p2), .val (.int p3), .val (.int (0 : Int32)), .val (.ref b2), .unset] [(.int (0 : Int32))]))
    refine own_go (fun _ k => XS.ifYes X2.here hx rfl (pc0 := 48) (pc' := 66) rfl (hb hby at_48) rfl ((if0 _ _).trans (flt (by decide)).2.2.2) (by decide) (by decide) k) ?_
    show own_Fin _ _ _ _ _ _ _ (T2.setTop (mkF m 66 #[.val (.int p0), .val (.int p1), .val (.int p2), .val (.int p3), .val (.int (0 : Int32)), .val (.ref b2), .unset] []))
    refine own_go (fun _ k => XS.iconst X2.here hx rfl (hb hby at_66) k) ?_
    show own_Fin _ _ _ _ _ _ _ (T2.setTop (mkF m 67 #[.val (.int p0), .val (.int p1), .val (.int p2), .val (.int p3), .val (.int (0 : Int32)), .val (.ref b2), .unset] [(.int (0 : Int32))]))
    refine own_go (fun _ k => XS.istore X2.here hx rfl (hb hby at_67) rfl (l' := #[.val (.int p0), .val (.int p1), .val (.int p2), .val (.int p3), .val (.int (0 : Int32)), .val (.ref b2), .val (.int (0 : Int32))]) rfl k) ?_
    show own_Fin _ _ _ _ _ _ _ (T2.setTop (mkF m 69 #[.val (.int p0), .val (.int p1), .val (.int p2), .val (.int p3), .val (.int (0 : Int32)), .val (.ref b2), .val (.int (0 : Int32))] []))
    refine own_go (fun _ k => XS.aload X2.here hx rfl (hb hby at_69) rfl rfl k) ?_
    show own_Fin _ _ _ _ _ _ _ (T2.setTop (mkF m 71 #[.val (.int p0), .val (.int p1), .val (.int p2), .val (.int p3), .val (.int (0 : Int32)), .val (.ref b2), .val (.int (0 : Int32))] [(.ref b2)]))
    obtain ⟨_, _, ⟨T3, L3, k3, n3⟩, -, X3, ⟨Lc3, hQ3, l3, y3, z3⟩, st3⟩ := Jvm.LawKit.callS X2 hx (y := (⟨"com/example/duanfu/duanfu/model/ExtendedApplicationIndicator", "givesRmac", "([B)Z"⟩ : MethodName)) hown (mvT hZ (hw _ (List.mem_of_getElem? (i := 1) rfl))) (mvT hZ (hw _ (List.mem_of_getElem? (i := 2) rfl))) (mvT hZ (hw _ (List.mem_of_getElem? (i := 3) rfl))) (mvT hZ (hw _ (List.mem_of_getElem? (i := 4) rfl))) (by decide) (backOf (W := 0) (rm1 l Z a0 hw [] b2 (0 : Int32) (fun _ => (0 : Int32)) h2 n0 Z2 A_b2_2) hZ (hw _ (List.mem_of_getElem? (i := 4) rfl)) (hw _ (List.mem_of_getElem? (i := 3) rfl)) (by decide) (by decide)) (g := (mkF m 71 #[.val (.int p0), .val (.int p1), .val (.int p2), .val (.int p3), .val (.int (0 : Int32)), .val (.ref b2), .val (.int (0 : Int32))] [(.ref b2)])) rfl (by rw [hml]; rfl) (argsL := [(.ref b2)]) (rest := []) (lenOf own_pd14 rfl) rfl (by show 2 * 0 + _ ≤ _; exact Nat.le_of_eq rfl) (hb hby at_71) (fun _ _ => ⟨rfl, e2, (by decide : 1 + 0 ≤ _), (by decide : 0 + 0 ≤ _)⟩)
    dsimp only [Pt.U, Pt.locs, Pt.cells, Pt.slots] at X3 l3 y3 z3 st3 hQ3
    replace y3 : 1 = k3 := y3.symm
    replace z3 : 0 = n3 := z3.symm
    subst y3 z3
    obtain ⟨rfl, N3q, e3⟩ := hQ3
    have N3 : Fr n0 L3 := by rw [l3]; exact Fr.app N0 N3q
    refine own_go (fun tg k => st3 tg k) ?_
    show own_Fin _ _ _ _ _ _ _ (T3.setTop (mkF m 74 #[.val (.int p0), .val (.int p1), .val (.int p2), .val (.int p3), .val (.int (0 : Int32)), .val (.ref b2), .val (.int (0 : Int32))] [(.int (own_f1 (0 : Int32) (fun _ => (0 : Int32))))]))
    refine own_go (fun _ k => XS.iload X3.here hx rfl (hb hby at_74) rfl k) ?_
    show own_Fin _ _ _ _ _ _ _ (T3.setTop (mkF m 76 #[.val (.int p0), .val (.int p1), .val (.int p2), .val (.int p3), .val (.int (0 : Int32)), .val (.ref b2), .val (.int (0 : Int32))] [(.int (0 : Int32)), (.int (own_f1 (0 : Int32) (fun _ => (0 : Int32))))]))
    by_cases hc4 : (own_f1 (0 : Int32) (fun _ => (0 : Int32))) = (0 : Int32)
    · refine own_go (fun _ k => XS.icmpNo X3.here hx rfl (hb hby at_76) rfl (teq hc4).2 k) ?_
      show own_Fin _ _ _ _ _ _ _ (T3.setTop (mkF m 79 #[.val (.int p0), .val (.int p1), .val (.int p2), .val (.int p3), .val (.int (0 : Int32)), .val (.ref b2), .val (.int (0 : Int32))] []))
      refine own_go (fun _ k => XS.iconst X3.here hx rfl (hb hby at_79) k) ?_
      show own_Fin _ _ _ _ _ _ _ (T3.setTop (mkF m 80 #[.val (.int p0), .val (.int p1), .val (.int p2), .val (.int p3), .val (.int (0 : Int32)), .val (.ref b2), .val (.int (0 : Int32))] [(.int (1 : Int32))]))
      refine own_go (fun _ k => XS.goto X3.here hx rfl (pc0 := 80) (pc' := 84) rfl (hb hby at_80) (by decide) (by decide) k) ?_
      show own_Fin _ _ _ _ _ _ _ (T3.setTop (mkF m 84 #[.val (.int p0), .val (.int p1), .val (.int p2), .val (.int p3), .val (.int (0 : Int32)), .val (.ref b2), .val (.int (0 : Int32))] [(.int (1 : Int32))]))
      refine own_ret X3 hx hlk Bd.returns rfl (Or.inl ⟨rfl, by simp, _, rfl⟩) (hb hby at_84) (Nat.le_of_ble_eq_true rfl) (Nat.le_of_ble_eq_true rfl) ?_
      exact ⟨(own_lf_own_f0_1 (p0 := p0) (p1 := p1) (p2 := p2) (p3 := p3) hs1 hc4), N3, trivial⟩
    · refine own_go (fun _ k => XS.icmpYes X3.here hx rfl (pc0 := 76) (pc' := 83) rfl (hb hby at_76) rfl (feq hc4).2 (by decide) (by decide) k) ?_
      show own_Fin _ _ _ _ _ _ _ (T3.setTop (mkF m 83 #[.val (.int p0), .val (.int p1), .val (.int p2), .val (.int p3), .val (.int (0 : Int32)), .val (.ref b2), .val (.int (0 : Int32))] []))
      refine own_go (fun _ k => XS.iconst X3.here hx rfl (hb hby at_83) k) ?_
      show own_Fin _ _ _ _ _ _ _ (T3.setTop (mkF m 84 #[.val (.int p0), .val (.int p1), .val (.int p2), .val (.int p3), .val (.int (0 : Int32)), .val (.ref b2), .val (.int (0 : Int32))] [(.int (0 : Int32))]))
      refine own_ret X3 hx hlk Bd.returns rfl (Or.inl ⟨rfl, by simp, _, rfl⟩) (hb hby at_84) (Nat.le_of_ble_eq_true rfl) (Nat.le_of_ble_eq_true rfl) ?_
      exact ⟨(own_lf_own_f0_2 (p0 := p0) (p1 := p1) (p2 := p2) (p3 := p3) hs1 hc4), N3, trivial⟩
  · by_cases hs5 : (p0 &&& (3 : Int32)) = (1 : Int32)
    · rw [hs5]
      show own_Fin _ _ _ _ _ _ _ (s₁.setTop (mkF m 5 #[.val (.int p0), .val (.int p1), .val (.int p2), .val (.int p3), .val (.int (1 : Int32)), .unset, .unset] []))
      refine own_go (fun _ k => XS.iload X0.here hx rfl (hb hby at_5) rfl k) ?_
      show own_Fin _ _ _ _ _ _ _ (s₁.setTop (mkF m 7 #[.val (.int p0), .val (.int p1), .val (.int p2), .val (.int p3), .val (.int (1 : Int32)), .unset, .unset] [(.int (1 : Int32))]))
      obtain ⟨T6, h6, k6, X6, e6, E6, A6, st6⟩ := newP X0 hx hZ (hw _ (List.mem_of_getElem? (i := 0) rfl)) e0 (g := (mkF m 7 #[.val (.int p0), .val (.int p1), .val (.int p2), .val (.int p3), .val (.int (1 : Int32)), .unset, .unset] [(.int (1 : Int32))])) rfl (hb hby at_7) rfl (by decide) (cap := 1) (by decide) (by decide) (by decide) (by decide)
      obtain ⟨b6, g6⟩ : ∃ z, z = h0.size := ⟨_, rfl⟩
      rw [← g6] at A6 st6
      have ge_b6 : n0 ≤ b6 := Nat.le_trans Z0 (Nat.le_of_eq g6.symm)
      have Z6 : n0 ≤ h6.size := Nat.le_trans Z0 E6.1
      have A_b6_6 : own_Arf Z h6 b6 .byte (1 : Int32) (fun i => .int ((fun _ => (0 : Int32)) i)) := own_Arf.new A6 (by decide)
      refine own_go (fun tg k => st6 tg k) ?_
      show own_Fin _ _ _ _ _ _ _ (T6.setTop (mkF m 9 #[.val (.int p0), .val (.int p1), .val (.int p2), .val (.int p3), .val (.int (1 : Int32)), .unset, .unset] [(.ref b6)]))
      refine own_go (fun _ k => XS.astore X6.here hx rfl (hb hby at_9) rfl rfl (l' := #[.val (.int p0), .val (.int p1), .val (.int p2), .val (.int p3), .val (.int (1 : Int32)), .val (.ref b6), .unset]) rfl k) ?_
      show own_Fin _ _ _ _ _ _ _ (T6.setTop (mkF m 11 #[.val (.int p0), .val (.int p1), .val (.int p2), .val (.int p3), .val (.int (1 : Int32)), .val (.ref b6), .unset] []))
      refine own_go (fun _ k => XS.iload X6.here hx rfl (hb hby at_11) rfl k) ?_
      show own_Fin _ _ _ _ _ _ _ (T6.setTop (mkF m 13 #[.val (.int p0), .val (.int p1), .val (.int p2), .val (.int p3), .val (.int (1 : Int32)), .val (.ref b6), .unset] [(.int (1 : Int32))]))
      refine own_go (fun _ k => XS.ifNo X6.here hx rfl (hb hby at_13) rfl ((if0 _ _).trans (tlt (by decide)).2.2.2) k) ?_
      show own_Fin _ _ _ _ _ _ _ (T6.setTop (mkF m 16 #[.val (.int p0), .val (.int p1), .val (.int p2), .val (.int p3), .val (.int (1 : Int32)), .val (.ref b6), .unset] []))
      refine own_go (fun _ k => XS.aload X6.here hx rfl (hb hby at_16) rfl rfl k) ?_
      show own_Fin _ _ _ _ _ _ _ (T6.setTop (mkF m 18 #[.val (.int p0), .val (.int p1), .val (.int p2), .val (.int p3), .val (.int (1 : Int32)), .val (.ref b6), .unset] [(.ref b6)]))
      refine own_go (fun _ k => XS.iconst X6.here hx rfl (hb hby at_18) k) ?_
      show own_Fin _ _ _ _ _ _ _ (T6.setTop (mkF m 19 #[.val (.int p0), .val (.int p1), .val (.int p2), .val (.int p3), .val (.int (1 : Int32)), .val (.ref b6), .unset] [(.int (0 : Int32)), (.ref b6)]))
      refine own_go (fun _ k => XS.iloadN X6.here hx rfl (hb hby at_19) rfl k) ?_
      show own_Fin _ _ _ _ _ _ _ (T6.setTop (mkF m 20 #[.val (.int p0), .val (.int p1), .val (.int p2), .val (.int p3), .val (.int (1 : Int32)), .val (.ref b6), .unset] [(.int p1), (.int (0 : Int32)), (.ref b6)]))
      refine own_go (fun _ k => XS.i2b X6.here hx rfl (hb hby at_20) rfl k) ?_
      show own_Fin _ _ _ _ _ _ _ (T6.setTop (mkF m 21 #[.val (.int p0), .val (.int p1), .val (.int p2), .val (.int p3), .val (.int (1 : Int32)), .val (.ref b6), .unset] [(.int (own_i2b p1)), (.int (0 : Int32)), (.ref b6)]))
      obtain ⟨T7, h7, X7, e7, W7, A_b6_7, st7⟩ := own_stB X6 hx hZ e6 A_b6_6 (j := (0 : Int32)) ⟨by decide, by decide⟩ (g := (mkF m 21 #[.val (.int p0), .val (.int p1), .val (.int p2), .val (.int p3), .val (.int (1 : Int32)), .val (.ref b6), .unset] [(.int (own_i2b p1)), (.int (0 : Int32)), (.ref b6)])) rfl rfl (hb hby at_21)
      have N7 := Fr.snoc X7 N0 ge_b6
      have Z7 : n0 ≤ h7.size := Nat.le_trans Z6 (Keep.of_wr W7).1
      obtain ⟨f7, hf7⟩ : ∃ z, z = (own_set (fun _ => (0 : Int32)) (0 : Int32) (own_i2b (own_i2b p1))) := ⟨_, rfl⟩
      rw [← hf7] at A_b6_7
      refine own_go (fun tg k => st7 tg k) ?_
      show own_Fin _ _ _ _ _ _ _ (T7.setTop (mkF m 22 #[.val (.int p0), .val (.int p1), .val (.int p2), .val (.int p3), .val (.int (1 : Int32)), .val (.ref b6), .unset] []))
      refine own_go (fun _ k => XS.iload X7.here hx rfl (hb hby at_22) rfl k) ?_
      show own_Fin _ _ _ _ _ _ _ (T7.setTop (mkF m 24 #[.val (.int p0), .val (.int p1), .val (.int p2), .val (.int p3), .val (.int (1 : Int32)), .val (.ref b6), .unset] [(.int (1 : Int32))]))
      refine own_go (fun _ k => XS.iconst X7.here hx rfl (hb hby at_24) k) ?_
      show own_Fin _ _ _ _ _ _ _ (T7.setTop (mkF m 25 #[.val (.int p0), .val (.int p1), .val (.int p2), .val (.int p3), .val (.int (1 : Int32)), .val (.ref b6), .unset] [(.int (1 : Int32)), (.int (1 : Int32))]))
      refine own_go (fun _ k => XS.icmpYes X7.here hx rfl (pc0 := 25) (pc' := 34) rfl (hb hby at_25) rfl (flt (by decide)).2.2.2 (by decide) (by decide) k) ?_
      show own_Fin _ _ _ _ _ _ _ (T7.setTop (mkF m 34 #[.val (.int p0), .val (.int p1), .val (.int p2), .val (.int p3), .val (.int (1 : Int32)), .val (.ref b6), .unset] []))
      refine own_go (fun _ k => XS.iload X7.here hx rfl (hb hby at_34) rfl k) ?_
      show own_Fin _ _ _ _ _ _ _ (T7.setTop (mkF m 36 #[.val (.int p0), .val (.int p1), .val (.int p2), .val (.int p3), .val (.int (1 : Int32)), .val (.ref b6), .unset] [(.int (1 : Int32))]))
      refine own_go (fun _ k => XS.iconst X7.here hx rfl (hb hby at_36) k) ?_
      show own_Fin _ _ _ _ _ _ _ (T7.setTop (mkF m 37 #[.val (.int p0), .val (.int p1), .val (.int p2), .val (.int p3), .val (.int (1 : Int32)), .val (.ref b6), .unset] [(.int (2 : Int32)), (.int (1 : Int32))]))
      refine own_go (fun _ k => XS.icmpYes X7.here hx rfl (pc0 := 37) (pc' := 46) rfl (hb hby at_37) rfl (flt (by decide)).2.2.2 (by decide) (by decide) k) ?_
      show own_Fin _ _ _ _ _ _ _ (T7.setTop (mkF m 46 #[.val (.int p0), .val (.int p1), .val (.int p2), .val (.int p3), .val (.int (1 : Int32)), .val (.ref b6), .unset] []))
      refine own_go (fun _ k => XS.iload X7.here hx rfl (hb hby at_46) rfl k) ?_
      show own_Fin _ _ _ _ _ _ _ (T7.setTop (mkF m 48 #[.val (.int p0), .val (.int p1), .val (.int p2), .val (.int p3), .val (.int (1 : Int32)), .val (.ref b6), .unset] [(.int (1 : Int32))]))
      refine own_go (fun _ k => XS.ifNo X7.here hx rfl (hb hby at_48) rfl ((if0 _ _).trans (tlt (by decide)).2.2.2) k) ?_
      show own_Fin _ _ _ _ _ _ _ (T7.setTop (mkF m 51 #[.val (.int p0), .val (.int p1), .val (.int p2), .val (.int p3), .val (.int (1 : Int32)), .val (.ref b6), .unset] []))
      refine own_go (fun _ k => XS.iloadN X7.here hx rfl (hb hby at_51) rfl k) ?_
      show own_Fin _ _ _ _ _ _ _ (T7.setTop (mkF m 52 #[.val (.int p0), .val (.int p1), .val (.int p2), .val (.int p3), .val (.int (1 : Int32)), .val (.ref b6), .unset] [(.int p1)]))
      refine own_go (fun _ k => XS.sipush X7.here hx rfl (hb hby at_52) k) ?_
      show own_Fin _ _ _ _ _ _ _ (T7.setTop (mkF m 55 #[.val (.int p0), .val (.int p1), .val (.int p2), .val (.int p3), .val (.int (1 : Int32)), .val (.ref b6), .unset] [(.int (255 : Int32)), (.int p1)]))
      refine own_go (fun _ k => XS.iand X7.here hx rfl (hb hby at_55) rfl k) ?_
      show own_Fin _ _ _ _ _ _ _ (T7.setTop (mkF m 56 #[.val (.int p0), .val (.int p1), .val (.int p2), .val (.int p3), .val (.int (1 : Int32)), .val (.ref b6), .unset] [(.int (p1 &&& (255 : Int32)))]))
      refine own_go (fun _ k => XS.sipush X7.here hx rfl (hb hby at_56) k) ?_
      show own_Fin _ _ _ _ _ _ _ (T7.setTop (mkF m 59 #[.val (.int p0), .val (.int p1), .val (.int p2), .val (.int p3), .val (.int (1 : Int32)), .val (.ref b6), .unset] [(.int (128 : Int32)), (.int (p1 &&& (255 : Int32)))]))
      have hk9 : ∀ (T' : State) (L' : List Loc), Stand p l e room_1 s m #[(.int p0), (.int p1), (.int p2), (.int p3)] below meth c T' L' 1 1 → Fr n0 L' → T'.heap = h7 → own_Fin p.tables e below s (own_QL (some (.int (own_f0 p0 p1 p2 p3))) n0) 16 128 (T'.setTop (mkF m 67 #[.val (.int p0), .val (.int p1), .val (.int p2), .val (.int p3), .val (.int (1 : Int32)), .val (.ref b6), .unset] [(.int (if (p1 &&& (255 : Int32)) < (128 : Int32) then (0 : Int32) else (1 : Int32)))])) := by
        intro T10 L10 X10 N10 e10
        generalize hz11 : (if (p1 &&& (255 : Int32)) < (128 : Int32) then (0 : Int32) else (1 : Int32)) = z11
        show own_Fin _ _ _ _ _ _ _ (T10.setTop (mkF m 67 #[.val (.int p0), .val (.int p1), .val (.int p2), .val (.int p3), .val (.int (1 : Int32)), .val (.ref b6), .unset] [(.int z11)]))
        refine own_go (fun _ k => XS.istore X10.here hx rfl (hb hby at_67) rfl (l' := #[.val (.int p0), .val (.int p1), .val (.int p2), .val (.int p3), .val (.int (1 : Int32)), .val (.ref b6), .val (.int z11)]) rfl k) ?_
        show own_Fin _ _ _ _ _ _ _ (T10.setTop (mkF m 69 #[.val (.int p0), .val (.int p1), .val (.int p2), .val (.int p3), .val (.int (1 : Int32)), .val (.ref b6), .val (.int z11)] []))
        refine own_go (fun _ k => XS.aload X10.here hx rfl (hb hby at_69) rfl rfl k) ?_
        show own_Fin _ _ _ _ _ _ _ (T10.setTop (mkF m 71 #[.val (.int p0), .val (.int p1), .val (.int p2), .val (.int p3), .val (.int (1 : Int32)), .val (.ref b6), .val (.int z11)] [(.ref b6)]))
        obtain ⟨_, _, ⟨T12, L12, k12, n12⟩, -, X12, ⟨Lc12, hQ12, l12, y12, z12⟩, st12⟩ := Jvm.LawKit.callS X10 hx (y := (⟨"com/example/duanfu/duanfu/model/ExtendedApplicationIndicator", "givesRmac", "([B)Z"⟩ : MethodName)) hown (mvT hZ (hw _ (List.mem_of_getElem? (i := 1) rfl))) (mvT hZ (hw _ (List.mem_of_getElem? (i := 2) rfl))) (mvT hZ (hw _ (List.mem_of_getElem? (i := 3) rfl))) (mvT hZ (hw _ (List.mem_of_getElem? (i := 4) rfl))) (by decide) (backOf (W := 0) (rm1 l Z a0 hw [] b6 (1 : Int32) f7 h7 n0 Z7 A_b6_7) hZ (hw _ (List.mem_of_getElem? (i := 4) rfl)) (hw _ (List.mem_of_getElem? (i := 3) rfl)) (by decide) (by decide)) (g := (mkF m 71 #[.val (.int p0), .val (.int p1), .val (.int p2), .val (.int p3), .val (.int (1 : Int32)), .val (.ref b6), .val (.int z11)] [(.ref b6)])) rfl (by rw [hml]; rfl) (argsL := [(.ref b6)]) (rest := []) (lenOf own_pd14 rfl) rfl (by show 2 * 0 + _ ≤ _; exact Nat.le_of_eq rfl) (hb hby at_71) (fun _ _ => ⟨rfl, e10, (by decide : 1 + 0 ≤ _), (by decide : 1 + 0 ≤ _)⟩)
        dsimp only [Pt.U, Pt.locs, Pt.cells, Pt.slots] at X12 l12 y12 z12 st12 hQ12
        replace y12 : 1 = k12 := y12.symm
        replace z12 : 1 = n12 := z12.symm
        subst y12 z12
        obtain ⟨rfl, N12q, e12⟩ := hQ12
        have N12 : Fr n0 L12 := by rw [l12]; exact Fr.app N10 N12q
        refine own_go (fun tg k => st12 tg k) ?_
        show own_Fin _ _ _ _ _ _ _ (T12.setTop (mkF m 74 #[.val (.int p0), .val (.int p1), .val (.int p2), .val (.int p3), .val (.int (1 : Int32)), .val (.ref b6), .val (.int z11)] [(.int (own_f1 (1 : Int32) f7))]))
        refine own_go (fun _ k => XS.iload X12.here hx rfl (hb hby at_74) rfl k) ?_
        show own_Fin _ _ _ _ _ _ _ (T12.setTop (mkF m 76 #[.val (.int p0), .val (.int p1), .val (.int p2), .val (.int p3), .val (.int (1 : Int32)), .val (.ref b6), .val (.int z11)] [(.int z11), (.int (own_f1 (1 : Int32) f7))]))
        by_cases hc13 : (own_f1 (1 : Int32) f7) = z11
        · refine own_go (fun _ k => XS.icmpNo X12.here hx rfl (hb hby at_76) rfl (teq hc13).2 k) ?_
          show own_Fin _ _ _ _ _ _ _ (T12.setTop (mkF m 79 #[.val (.int p0), .val (.int p1), .val (.int p2), .val (.int p3), .val (.int (1 : Int32)), .val (.ref b6), .val (.int z11)] []))
          refine own_go (fun _ k => XS.iconst X12.here hx rfl (hb hby at_79) k) ?_
          show own_Fin _ _ _ _ _ _ _ (T12.setTop (mkF m 80 #[.val (.int p0), .val (.int p1), .val (.int p2), .val (.int p3), .val (.int (1 : Int32)), .val (.ref b6), .val (.int z11)] [(.int (1 : Int32))]))
          refine own_go (fun _ k => XS.goto X12.here hx rfl (pc0 := 80) (pc' := 84) rfl (hb hby at_80) (by decide) (by decide) k) ?_
          show own_Fin _ _ _ _ _ _ _ (T12.setTop (mkF m 84 #[.val (.int p0), .val (.int p1), .val (.int p2), .val (.int p3), .val (.int (1 : Int32)), .val (.ref b6), .val (.int z11)] [(.int (1 : Int32))]))
          refine own_ret X12 hx hlk Bd.returns rfl (Or.inl ⟨rfl, by simp, _, rfl⟩) (hb hby at_84) (Nat.le_of_ble_eq_true rfl) (Nat.le_of_ble_eq_true rfl) ?_
          exact ⟨(own_lf_own_f0_3 (p0 := p0) (p1 := p1) (p2 := p2) (p3 := p3) hf7 hz11 hs1 hs5 hc13), N12, trivial⟩
        · refine own_go (fun _ k => XS.icmpYes X12.here hx rfl (pc0 := 76) (pc' := 83) rfl (hb hby at_76) rfl (feq hc13).2 (by decide) (by decide) k) ?_
          show own_Fin _ _ _ _ _ _ _ (T12.setTop (mkF m 83 #[.val (.int p0), .val (.int p1), .val (.int p2), .val (.int p3), .val (.int (1 : Int32)), .val (.ref b6), .val (.int z11)] []))
          refine own_go (fun _ k => XS.iconst X12.here hx rfl (hb hby at_83) k) ?_
          show own_Fin _ _ _ _ _ _ _ (T12.setTop (mkF m 84 #[.val (.int p0), .val (.int p1), .val (.int p2), .val (.int p3), .val (.int (1 : Int32)), .val (.ref b6), .val (.int z11)] [(.int (0 : Int32))]))
          refine own_ret X12 hx hlk Bd.returns rfl (Or.inl ⟨rfl, by simp, _, rfl⟩) (hb hby at_84) (Nat.le_of_ble_eq_true rfl) (Nat.le_of_ble_eq_true rfl) ?_
          exact ⟨(own_lf_own_f0_4 (p0 := p0) (p1 := p1) (p2 := p2) (p3 := p3) hf7 hz11 hs1 hs5 hc13), N12, trivial⟩
      by_cases hc8 : (p1 &&& (255 : Int32)) < (128 : Int32)
      · refine own_go (fun _ k => XS.icmpYes X7.here hx rfl (pc0 := 59) (pc' := 66) rfl (hb hby at_59) rfl (tlt hc8).1 (by decide) (by decide) k) ?_
        show own_Fin _ _ _ _ _ _ _ (T7.setTop (mkF m 66 #[.val (.int p0), .val (.int p1), .val (.int p2), .val (.int p3), .val (.int (1 : Int32)), .val (.ref b6), .unset] []))
        refine own_go (fun _ k => XS.iconst X7.here hx rfl (hb hby at_66) k) ?_
        show own_Fin _ _ _ _ _ _ _ (T7.setTop (mkF m 67 #[.val (.int p0), .val (.int p1), .val (.int p2), .val (.int p3), .val (.int (1 : Int32)), .val (.ref b6), .unset] [(.int (0 : Int32))]))
        have kj := hk9 T7 _ (own_mono X7 (by decide) (by decide)) N7 e7
        simpa only [if_pos hc8] using kj
      · refine own_go (fun _ k => XS.icmpNo X7.here hx rfl (hb hby at_59) rfl (flt hc8).1 k) ?_
        show own_Fin _ _ _ _ _ _ _ (T7.setTop (mkF m 62 #[.val (.int p0), .val (.int p1), .val (.int p2), .val (.int p3), .val (.int (1 : Int32)), .val (.ref b6), .unset] []))
        refine own_go (fun _ k => XS.iconst X7.here hx rfl (hb hby at_62) k) ?_
        show own_Fin _ _ _ _ _ _ _ (T7.setTop (mkF m 63 #[.val (.int p0), .val (.int p1), .val (.int p2), .val (.int p3), .val (.int (1 : Int32)), .val (.ref b6), .unset] [(.int (1 : Int32))]))
        refine own_go (fun _ k => XS.goto X7.here hx rfl (pc0 := 63) (pc' := 67) rfl (hb hby at_63) (by decide) (by decide) k) ?_
        show own_Fin _ _ _ _ _ _ _ (T7.setTop (mkF m 67 #[.val (.int p0), .val (.int p1), .val (.int p2), .val (.int p3), .val (.int (1 : Int32)), .val (.ref b6), .unset] [(.int (1 : Int32))]))
        have kj := hk9 T7 _ (own_mono X7 (by decide) (by decide)) N7 e7
        simpa only [if_neg hc8] using kj
    · by_cases hs14 : (p0 &&& (3 : Int32)) = (2 : Int32)
      · rw [hs14]
        show own_Fin _ _ _ _ _ _ _ (s₁.setTop (mkF m 5 #[.val (.int p0), .val (.int p1), .val (.int p2), .val (.int p3), .val (.int (2 : Int32)), .unset, .unset] []))
        refine own_go (fun _ k => XS.iload X0.here hx rfl (hb hby at_5) rfl k) ?_
        show own_Fin _ _ _ _ _ _ _ (s₁.setTop (mkF m 7 #[.val (.int p0), .val (.int p1), .val (.int p2), .val (.int p3), .val (.int (2 : Int32)), .unset, .unset] [(.int (2 : Int32))]))
        obtain ⟨T15, h15, k15, X15, e15, E15, A15, st15⟩ := newP X0 hx hZ (hw _ (List.mem_of_getElem? (i := 0) rfl)) e0 (g := (mkF m 7 #[.val (.int p0), .val (.int p1), .val (.int p2), .val (.int p3), .val (.int (2 : Int32)), .unset, .unset] [(.int (2 : Int32))])) rfl (hb hby at_7) rfl (by decide) (cap := 2) (by decide) (by decide) (by decide) (by decide)
        obtain ⟨b15, g15⟩ : ∃ z, z = h0.size := ⟨_, rfl⟩
        rw [← g15] at A15 st15
        have ge_b15 : n0 ≤ b15 := Nat.le_trans Z0 (Nat.le_of_eq g15.symm)
        have Z15 : n0 ≤ h15.size := Nat.le_trans Z0 E15.1
        have A_b15_15 : own_Arf Z h15 b15 .byte (2 : Int32) (fun i => .int ((fun _ => (0 : Int32)) i)) := own_Arf.new A15 (by decide)
        refine own_go (fun tg k => st15 tg k) ?_
        show own_Fin _ _ _ _ _ _ _ (T15.setTop (mkF m 9 #[.val (.int p0), .val (.int p1), .val (.int p2), .val (.int p3), .val (.int (2 : Int32)), .unset, .unset] [(.ref b15)]))
        refine own_go (fun _ k => XS.astore X15.here hx rfl (hb hby at_9) rfl rfl (l' := #[.val (.int p0), .val (.int p1), .val (.int p2), .val (.int p3), .val (.int (2 : Int32)), .val (.ref b15), .unset]) rfl k) ?_
        show own_Fin _ _ _ _ _ _ _ (T15.setTop (mkF m 11 #[.val (.int p0), .val (.int p1), .val (.int p2), .val (.int p3), .val (.int (2 : Int32)), .val (.ref b15), .unset] []))
        refine own_go (fun _ k => XS.iload X15.here hx rfl (hb hby at_11) rfl k) ?_
        show own_Fin _ _ _ _ _ _ _ (T15.setTop (mkF m 13 #[.val (.int p0), .val (.int p1), .val (.int p2), .val (.int p3), .val (.int (2 : Int32)), .val (.ref b15), .unset] [(.int (2 : Int32))]))
        refine own_go (fun _ k => XS.ifNo X15.here hx rfl (hb hby at_13) rfl ((if0 _ _).trans (tlt (by decide)).2.2.2) k) ?_
        show own_Fin _ _ _ _ _ _ _ (T15.setTop (mkF m 16 #[.val (.int p0), .val (.int p1), .val (.int p2), .val (.int p3), .val (.int (2 : Int32)), .val (.ref b15), .unset] []))
        refine own_go (fun _ k => XS.aload X15.here hx rfl (hb hby at_16) rfl rfl k) ?_
        show own_Fin _ _ _ _ _ _ _ (T15.setTop (mkF m 18 #[.val (.int p0), .val (.int p1), .val (.int p2), .val (.int p3), .val (.int (2 : Int32)), .val (.ref b15), .unset] [(.ref b15)]))
        refine own_go (fun _ k => XS.iconst X15.here hx rfl (hb hby at_18) k) ?_
        show own_Fin _ _ _ _ _ _ _ (T15.setTop (mkF m 19 #[.val (.int p0), .val (.int p1), .val (.int p2), .val (.int p3), .val (.int (2 : Int32)), .val (.ref b15), .unset] [(.int (0 : Int32)), (.ref b15)]))
        refine own_go (fun _ k => XS.iloadN X15.here hx rfl (hb hby at_19) rfl k) ?_
        show own_Fin _ _ _ _ _ _ _ (T15.setTop (mkF m 20 #[.val (.int p0), .val (.int p1), .val (.int p2), .val (.int p3), .val (.int (2 : Int32)), .val (.ref b15), .unset] [(.int p1), (.int (0 : Int32)), (.ref b15)]))
        refine own_go (fun _ k => XS.i2b X15.here hx rfl (hb hby at_20) rfl k) ?_
        show own_Fin _ _ _ _ _ _ _ (T15.setTop (mkF m 21 #[.val (.int p0), .val (.int p1), .val (.int p2), .val (.int p3), .val (.int (2 : Int32)), .val (.ref b15), .unset] [(.int (own_i2b p1)), (.int (0 : Int32)), (.ref b15)]))
        obtain ⟨T16, h16, X16, e16, W16, A_b15_16, st16⟩ := own_stB X15 hx hZ e15 A_b15_15 (j := (0 : Int32)) ⟨by decide, by decide⟩ (g := (mkF m 21 #[.val (.int p0), .val (.int p1), .val (.int p2), .val (.int p3), .val (.int (2 : Int32)), .val (.ref b15), .unset] [(.int (own_i2b p1)), (.int (0 : Int32)), (.ref b15)])) rfl rfl (hb hby at_21)
        have N16 := Fr.snoc X16 N0 ge_b15
        have Z16 : n0 ≤ h16.size := Nat.le_trans Z15 (Keep.of_wr W16).1
        obtain ⟨f16, hf16⟩ : ∃ z, z = (own_set (fun _ => (0 : Int32)) (0 : Int32) (own_i2b (own_i2b p1))) := ⟨_, rfl⟩
        rw [← hf16] at A_b15_16
        refine own_go (fun tg k => st16 tg k) ?_
        show own_Fin _ _ _ _ _ _ _ (T16.setTop (mkF m 22 #[.val (.int p0), .val (.int p1), .val (.int p2), .val (.int p3), .val (.int (2 : Int32)), .val (.ref b15), .unset] []))
        refine own_go (fun _ k => XS.iload X16.here hx rfl (hb hby at_22) rfl k) ?_
        show own_Fin _ _ _ _ _ _ _ (T16.setTop (mkF m 24 #[.val (.int p0), .val (.int p1), .val (.int p2), .val (.int p3), .val (.int (2 : Int32)), .val (.ref b15), .unset] [(.int (2 : Int32))]))
        refine own_go (fun _ k => XS.iconst X16.here hx rfl (hb hby at_24) k) ?_
        show own_Fin _ _ _ _ _ _ _ (T16.setTop (mkF m 25 #[.val (.int p0), .val (.int p1), .val (.int p2), .val (.int p3), .val (.int (2 : Int32)), .val (.ref b15), .unset] [(.int (1 : Int32)), (.int (2 : Int32))]))
        refine own_go (fun _ k => XS.icmpNo X16.here hx rfl (hb hby at_25) rfl (tlt (by decide)).2.2.2 k) ?_
        show own_Fin _ _ _ _ _ _ _ (T16.setTop (mkF m 28 #[.val (.int p0), .val (.int p1), .val (.int p2), .val (.int p3), .val (.int (2 : Int32)), .val (.ref b15), .unset] []))
        refine own_go (fun _ k => XS.aload X16.here hx rfl (hb hby at_28) rfl rfl k) ?_
        show own_Fin _ _ _ _ _ _ _ (T16.setTop (mkF m 30 #[.val (.int p0), .val (.int p1), .val (.int p2), .val (.int p3), .val (.int (2 : Int32)), .val (.ref b15), .unset] [(.ref b15)]))
        refine own_go (fun _ k => XS.iconst X16.here hx rfl (hb hby at_30) k) ?_
        show own_Fin _ _ _ _ _ _ _ (T16.setTop (mkF m 31 #[.val (.int p0), .val (.int p1), .val (.int p2), .val (.int p3), .val (.int (2 : Int32)), .val (.ref b15), .unset] [(.int (1 : Int32)), (.ref b15)]))
        refine own_go (fun _ k => XS.iloadN X16.here hx rfl (hb hby at_31) rfl k) ?_
        show own_Fin _ _ _ _ _ _ _ (T16.setTop (mkF m 32 #[.val (.int p0), .val (.int p1), .val (.int p2), .val (.int p3), .val (.int (2 : Int32)), .val (.ref b15), .unset] [(.int p2), (.int (1 : Int32)), (.ref b15)]))
        refine own_go (fun _ k => XS.i2b X16.here hx rfl (hb hby at_32) rfl k) ?_
        show own_Fin _ _ _ _ _ _ _ (T16.setTop (mkF m 33 #[.val (.int p0), .val (.int p1), .val (.int p2), .val (.int p3), .val (.int (2 : Int32)), .val (.ref b15), .unset] [(.int (own_i2b p2)), (.int (1 : Int32)), (.ref b15)]))
        obtain ⟨T17, h17, X17, e17, W17, A_b15_17, st17⟩ := own_stB X16 hx hZ e16 A_b15_16 (j := (1 : Int32)) ⟨by decide, by decide⟩ (g := (mkF m 33 #[.val (.int p0), .val (.int p1), .val (.int p2), .val (.int p3), .val (.int (2 : Int32)), .val (.ref b15), .unset] [(.int (own_i2b p2)), (.int (1 : Int32)), (.ref b15)])) rfl rfl (hb hby at_33)
        have N17 := Fr.snoc X17 N16 ge_b15
        have Z17 : n0 ≤ h17.size := Nat.le_trans Z16 (Keep.of_wr W17).1
        obtain ⟨f17, hf17⟩ : ∃ z, z = (own_set f16 (1 : Int32) (own_i2b (own_i2b p2))) := ⟨_, rfl⟩
        rw [← hf17] at A_b15_17
        refine own_go (fun tg k => st17 tg k) ?_
        show own_Fin _ _ _ _ _ _ _ (T17.setTop (mkF m 34 #[.val (.int p0), .val (.int p1), .val (.int p2), .val (.int p3), .val (.int (2 : Int32)), .val (.ref b15), .unset] []))
        refine own_go (fun _ k => XS.iload X17.here hx rfl (hb hby at_34) rfl k) ?_
        show own_Fin _ _ _ _ _ _ _ (T17.setTop (mkF m 36 #[.val (.int p0), .val (.int p1), .val (.int p2), .val (.int p3), .val (.int (2 : Int32)), .val (.ref b15), .unset] [(.int (2 : Int32))]))
        refine own_go (fun _ k => XS.iconst X17.here hx rfl (hb hby at_36) k) ?_
        show own_Fin _ _ _ _ _ _ _ (T17.setTop (mkF m 37 #[.val (.int p0), .val (.int p1), .val (.int p2), .val (.int p3), .val (.int (2 : Int32)), .val (.ref b15), .unset] [(.int (2 : Int32)), (.int (2 : Int32))]))
        refine own_go (fun _ k => XS.icmpYes X17.here hx rfl (pc0 := 37) (pc' := 46) rfl (hb hby at_37) rfl (flt (by decide)).2.2.2 (by decide) (by decide) k) ?_
        show own_Fin _ _ _ _ _ _ _ (T17.setTop (mkF m 46 #[.val (.int p0), .val (.int p1), .val (.int p2), .val (.int p3), .val (.int (2 : Int32)), .val (.ref b15), .unset] []))
        refine own_go (fun _ k => XS.iload X17.here hx rfl (hb hby at_46) rfl k) ?_
        show own_Fin _ _ _ _ _ _ _ (T17.setTop (mkF m 48 #[.val (.int p0), .val (.int p1), .val (.int p2), .val (.int p3), .val (.int (2 : Int32)), .val (.ref b15), .unset] [(.int (2 : Int32))]))
        refine own_go (fun _ k => XS.ifNo X17.here hx rfl (hb hby at_48) rfl ((if0 _ _).trans (tlt (by decide)).2.2.2) k) ?_
        show own_Fin _ _ _ _ _ _ _ (T17.setTop (mkF m 51 #[.val (.int p0), .val (.int p1), .val (.int p2), .val (.int p3), .val (.int (2 : Int32)), .val (.ref b15), .unset] []))
        refine own_go (fun _ k => XS.iloadN X17.here hx rfl (hb hby at_51) rfl k) ?_
        show own_Fin _ _ _ _ _ _ _ (T17.setTop (mkF m 52 #[.val (.int p0), .val (.int p1), .val (.int p2), .val (.int p3), .val (.int (2 : Int32)), .val (.ref b15), .unset] [(.int p1)]))
        refine own_go (fun _ k => XS.sipush X17.here hx rfl (hb hby at_52) k) ?_
        show own_Fin _ _ _ _ _ _ _ (T17.setTop (mkF m 55 #[.val (.int p0), .val (.int p1), .val (.int p2), .val (.int p3), .val (.int (2 : Int32)), .val (.ref b15), .unset] [(.int (255 : Int32)), (.int p1)]))
        refine own_go (fun _ k => XS.iand X17.here hx rfl (hb hby at_55) rfl k) ?_
        show own_Fin _ _ _ _ _ _ _ (T17.setTop (mkF m 56 #[.val (.int p0), .val (.int p1), .val (.int p2), .val (.int p3), .val (.int (2 : Int32)), .val (.ref b15), .unset] [(.int (p1 &&& (255 : Int32)))]))
        refine own_go (fun _ k => XS.sipush X17.here hx rfl (hb hby at_56) k) ?_
        show own_Fin _ _ _ _ _ _ _ (T17.setTop (mkF m 59 #[.val (.int p0), .val (.int p1), .val (.int p2), .val (.int p3), .val (.int (2 : Int32)), .val (.ref b15), .unset] [(.int (128 : Int32)), (.int (p1 &&& (255 : Int32)))]))
        have hk19 : ∀ (T' : State) (L' : List Loc), Stand p l e room_1 s m #[(.int p0), (.int p1), (.int p2), (.int p3)] below meth c T' L' 1 2 → Fr n0 L' → T'.heap = h17 → own_Fin p.tables e below s (own_QL (some (.int (own_f0 p0 p1 p2 p3))) n0) 16 128 (T'.setTop (mkF m 67 #[.val (.int p0), .val (.int p1), .val (.int p2), .val (.int p3), .val (.int (2 : Int32)), .val (.ref b15), .unset] [(.int (if (p1 &&& (255 : Int32)) < (128 : Int32) then (0 : Int32) else (1 : Int32)))])) := by
          intro T20 L20 X20 N20 e20
          generalize hz21 : (if (p1 &&& (255 : Int32)) < (128 : Int32) then (0 : Int32) else (1 : Int32)) = z21
          show own_Fin _ _ _ _ _ _ _ (T20.setTop (mkF m 67 #[.val (.int p0), .val (.int p1), .val (.int p2), .val (.int p3), .val (.int (2 : Int32)), .val (.ref b15), .unset] [(.int z21)]))
          refine own_go (fun _ k => XS.istore X20.here hx rfl (hb hby at_67) rfl (l' := #[.val (.int p0), .val (.int p1), .val (.int p2), .val (.int p3), .val (.int (2 : Int32)), .val (.ref b15), .val (.int z21)]) rfl k) ?_
          show own_Fin _ _ _ _ _ _ _ (T20.setTop (mkF m 69 #[.val (.int p0), .val (.int p1), .val (.int p2), .val (.int p3), .val (.int (2 : Int32)), .val (.ref b15), .val (.int z21)] []))
          refine own_go (fun _ k => XS.aload X20.here hx rfl (hb hby at_69) rfl rfl k) ?_
          show own_Fin _ _ _ _ _ _ _ (T20.setTop (mkF m 71 #[.val (.int p0), .val (.int p1), .val (.int p2), .val (.int p3), .val (.int (2 : Int32)), .val (.ref b15), .val (.int z21)] [(.ref b15)]))
          obtain ⟨_, _, ⟨T22, L22, k22, n22⟩, -, X22, ⟨Lc22, hQ22, l22, y22, z22⟩, st22⟩ := Jvm.LawKit.callS X20 hx (y := (⟨"com/example/duanfu/duanfu/model/ExtendedApplicationIndicator", "givesRmac", "([B)Z"⟩ : MethodName)) hown (mvT hZ (hw _ (List.mem_of_getElem? (i := 1) rfl))) (mvT hZ (hw _ (List.mem_of_getElem? (i := 2) rfl))) (mvT hZ (hw _ (List.mem_of_getElem? (i := 3) rfl))) (mvT hZ (hw _ (List.mem_of_getElem? (i := 4) rfl))) (by decide) (backOf (W := 0) (rm1 l Z a0 hw [] b15 (2 : Int32) f17 h17 n0 Z17 A_b15_17) hZ (hw _ (List.mem_of_getElem? (i := 4) rfl)) (hw _ (List.mem_of_getElem? (i := 3) rfl)) (by decide) (by decide)) (g := (mkF m 71 #[.val (.int p0), .val (.int p1), .val (.int p2), .val (.int p3), .val (.int (2 : Int32)), .val (.ref b15), .val (.int z21)] [(.ref b15)])) rfl (by rw [hml]; rfl) (argsL := [(.ref b15)]) (rest := []) (lenOf own_pd14 rfl) rfl (by show 2 * 0 + _ ≤ _; exact Nat.le_of_eq rfl) (hb hby at_71) (fun _ _ => ⟨rfl, e20, (by decide : 1 + 0 ≤ _), (by decide : 2 + 0 ≤ _)⟩)
          dsimp only [Pt.U, Pt.locs, Pt.cells, Pt.slots] at X22 l22 y22 z22 st22 hQ22
          replace y22 : 1 = k22 := y22.symm
          replace z22 : 2 = n22 := z22.symm
          subst y22 z22
          obtain ⟨rfl, N22q, e22⟩ := hQ22
          have N22 : Fr n0 L22 := by rw [l22]; exact Fr.app N20 N22q
          refine own_go (fun tg k => st22 tg k) ?_
          show own_Fin _ _ _ _ _ _ _ (T22.setTop (mkF m 74 #[.val (.int p0), .val (.int p1), .val (.int p2), .val (.int p3), .val (.int (2 : Int32)), .val (.ref b15), .val (.int z21)] [(.int (own_f1 (2 : Int32) f17))]))
          refine own_go (fun _ k => XS.iload X22.here hx rfl (hb hby at_74) rfl k) ?_
          show own_Fin _ _ _ _ _ _ _ (T22.setTop (mkF m 76 #[.val (.int p0), .val (.int p1), .val (.int p2), .val (.int p3), .val (.int (2 : Int32)), .val (.ref b15), .val (.int z21)] [(.int z21), (.int (own_f1 (2 : Int32) f17))]))
          by_cases hc23 : (own_f1 (2 : Int32) f17) = z21
          · refine own_go (fun _ k => XS.icmpNo X22.here hx rfl (hb hby at_76) rfl (teq hc23).2 k) ?_
            show own_Fin _ _ _ _ _ _ _ (T22.setTop (mkF m 79 #[.val (.int p0), .val (.int p1), .val (.int p2), .val (.int p3), .val (.int (2 : Int32)), .val (.ref b15), .val (.int z21)] []))
            refine own_go (fun _ k => XS.iconst X22.here hx rfl (hb hby at_79) k) ?_
            show own_Fin _ _ _ _ _ _ _ (T22.setTop (mkF m 80 #[.val (.int p0), .val (.int p1), .val (.int p2), .val (.int p3), .val (.int (2 : Int32)), .val (.ref b15), .val (.int z21)] [(.int (1 : Int32))]))
            refine own_go (fun _ k => XS.goto X22.here hx rfl (pc0 := 80) (pc' := 84) rfl (hb hby at_80) (by decide) (by decide) k) ?_
            show own_Fin _ _ _ _ _ _ _ (T22.setTop (mkF m 84 #[.val (.int p0), .val (.int p1), .val (.int p2), .val (.int p3), .val (.int (2 : Int32)), .val (.ref b15), .val (.int z21)] [(.int (1 : Int32))]))
            refine own_ret X22 hx hlk Bd.returns rfl (Or.inl ⟨rfl, by simp, _, rfl⟩) (hb hby at_84) (Nat.le_of_ble_eq_true rfl) (Nat.le_of_ble_eq_true rfl) ?_
            exact ⟨(own_lf_own_f0_5 (p0 := p0) (p1 := p1) (p2 := p2) (p3 := p3) hf16 hf17 hz21 hs1 hs5 hs14 hc23), N22, trivial⟩
          · refine own_go (fun _ k => XS.icmpYes X22.here hx rfl (pc0 := 76) (pc' := 83) rfl (hb hby at_76) rfl (feq hc23).2 (by decide) (by decide) k) ?_
            show own_Fin _ _ _ _ _ _ _ (T22.setTop (mkF m 83 #[.val (.int p0), .val (.int p1), .val (.int p2), .val (.int p3), .val (.int (2 : Int32)), .val (.ref b15), .val (.int z21)] []))
            refine own_go (fun _ k => XS.iconst X22.here hx rfl (hb hby at_83) k) ?_
            show own_Fin _ _ _ _ _ _ _ (T22.setTop (mkF m 84 #[.val (.int p0), .val (.int p1), .val (.int p2), .val (.int p3), .val (.int (2 : Int32)), .val (.ref b15), .val (.int z21)] [(.int (0 : Int32))]))
            refine own_ret X22 hx hlk Bd.returns rfl (Or.inl ⟨rfl, by simp, _, rfl⟩) (hb hby at_84) (Nat.le_of_ble_eq_true rfl) (Nat.le_of_ble_eq_true rfl) ?_
            exact ⟨(own_lf_own_f0_6 (p0 := p0) (p1 := p1) (p2 := p2) (p3 := p3) hf16 hf17 hz21 hs1 hs5 hs14 hc23), N22, trivial⟩
        by_cases hc18 : (p1 &&& (255 : Int32)) < (128 : Int32)
        · refine own_go (fun _ k => XS.icmpYes X17.here hx rfl (pc0 := 59) (pc' := 66) rfl (hb hby at_59) rfl (tlt hc18).1 (by decide) (by decide) k) ?_
          show own_Fin _ _ _ _ _ _ _ (T17.setTop (mkF m 66 #[.val (.int p0), .val (.int p1), .val (.int p2), .val (.int p3), .val (.int (2 : Int32)), .val (.ref b15), .unset] []))
          refine own_go (fun _ k => XS.iconst X17.here hx rfl (hb hby at_66) k) ?_
          show own_Fin _ _ _ _ _ _ _ (T17.setTop (mkF m 67 #[.val (.int p0), .val (.int p1), .val (.int p2), .val (.int p3), .val (.int (2 : Int32)), .val (.ref b15), .unset] [(.int (0 : Int32))]))
          have kj := hk19 T17 _ (own_mono X17 (by decide) (by decide)) N17 e17
          simpa only [if_pos hc18] using kj
        · refine own_go (fun _ k => XS.icmpNo X17.here hx rfl (hb hby at_59) rfl (flt hc18).1 k) ?_
          show own_Fin _ _ _ _ _ _ _ (T17.setTop (mkF m 62 #[.val (.int p0), .val (.int p1), .val (.int p2), .val (.int p3), .val (.int (2 : Int32)), .val (.ref b15), .unset] []))
          refine own_go (fun _ k => XS.iconst X17.here hx rfl (hb hby at_62) k) ?_
          show own_Fin _ _ _ _ _ _ _ (T17.setTop (mkF m 63 #[.val (.int p0), .val (.int p1), .val (.int p2), .val (.int p3), .val (.int (2 : Int32)), .val (.ref b15), .unset] [(.int (1 : Int32))]))
          refine own_go (fun _ k => XS.goto X17.here hx rfl (pc0 := 63) (pc' := 67) rfl (hb hby at_63) (by decide) (by decide) k) ?_
          show own_Fin _ _ _ _ _ _ _ (T17.setTop (mkF m 67 #[.val (.int p0), .val (.int p1), .val (.int p2), .val (.int p3), .val (.int (2 : Int32)), .val (.ref b15), .unset] [(.int (1 : Int32))]))
          have kj := hk19 T17 _ (own_mono X17 (by decide) (by decide)) N17 e17
          simpa only [if_neg hc18] using kj
      · have hs24 : (p0 &&& (3 : Int32)) = (3 : Int32) := own_n3 _ hs1 hs5 hs14
        rw [hs24]
        show own_Fin _ _ _ _ _ _ _ (s₁.setTop (mkF m 5 #[.val (.int p0), .val (.int p1), .val (.int p2), .val (.int p3), .val (.int (3 : Int32)), .unset, .unset] []))
        refine own_go (fun _ k => XS.iload X0.here hx rfl (hb hby at_5) rfl k) ?_
        show own_Fin _ _ _ _ _ _ _ (s₁.setTop (mkF m 7 #[.val (.int p0), .val (.int p1), .val (.int p2), .val (.int p3), .val (.int (3 : Int32)), .unset, .unset] [(.int (3 : Int32))]))
        obtain ⟨T25, h25, k25, X25, e25, E25, A25, st25⟩ := newP X0 hx hZ (hw _ (List.mem_of_getElem? (i := 0) rfl)) e0 (g := (mkF m 7 #[.val (.int p0), .val (.int p1), .val (.int p2), .val (.int p3), .val (.int (3 : Int32)), .unset, .unset] [(.int (3 : Int32))])) rfl (hb hby at_7) rfl (by decide) (cap := 3) (by decide) (by decide) (by decide) (by decide)
        obtain ⟨b25, g25⟩ : ∃ z, z = h0.size := ⟨_, rfl⟩
        rw [← g25] at A25 st25
        have ge_b25 : n0 ≤ b25 := Nat.le_trans Z0 (Nat.le_of_eq g25.symm)
        have Z25 : n0 ≤ h25.size := Nat.le_trans Z0 E25.1
        have A_b25_25 : own_Arf Z h25 b25 .byte (3 : Int32) (fun i => .int ((fun _ => (0 : Int32)) i)) := own_Arf.new A25 (by decide)
        refine own_go (fun tg k => st25 tg k) ?_
        show own_Fin _ _ _ _ _ _ _ (T25.setTop (mkF m 9 #[.val (.int p0), .val (.int p1), .val (.int p2), .val (.int p3), .val (.int (3 : Int32)), .unset, .unset] [(.ref b25)]))
        refine own_go (fun _ k => XS.astore X25.here hx rfl (hb hby at_9) rfl rfl (l' := #[.val (.int p0), .val (.int p1), .val (.int p2), .val (.int p3), .val (.int (3 : Int32)), .val (.ref b25), .unset]) rfl k) ?_
        show own_Fin _ _ _ _ _ _ _ (T25.setTop (mkF m 11 #[.val (.int p0), .val (.int p1), .val (.int p2), .val (.int p3), .val (.int (3 : Int32)), .val (.ref b25), .unset] []))
        refine own_go (fun _ k => XS.iload X25.here hx rfl (hb hby at_11) rfl k) ?_
        show own_Fin _ _ _ _ _ _ _ (T25.setTop (mkF m 13 #[.val (.int p0), .val (.int p1), .val (.int p2), .val (.int p3), .val (.int (3 : Int32)), .val (.ref b25), .unset] [(.int (3 : Int32))]))
        refine own_go (fun _ k => XS.ifNo X25.here hx rfl (hb hby at_13) rfl ((if0 _ _).trans (tlt (by decide)).2.2.2) k) ?_
        show own_Fin _ _ _ _ _ _ _ (T25.setTop (mkF m 16 #[.val (.int p0), .val (.int p1), .val (.int p2), .val (.int p3), .val (.int (3 : Int32)), .val (.ref b25), .unset] []))
        refine own_go (fun _ k => XS.aload X25.here hx rfl (hb hby at_16) rfl rfl k) ?_
        show own_Fin _ _ _ _ _ _ _ (T25.setTop (mkF m 18 #[.val (.int p0), .val (.int p1), .val (.int p2), .val (.int p3), .val (.int (3 : Int32)), .val (.ref b25), .unset] [(.ref b25)]))
        refine own_go (fun _ k => XS.iconst X25.here hx rfl (hb hby at_18) k) ?_
        show own_Fin _ _ _ _ _ _ _ (T25.setTop (mkF m 19 #[.val (.int p0), .val (.int p1), .val (.int p2), .val (.int p3), .val (.int (3 : Int32)), .val (.ref b25), .unset] [(.int (0 : Int32)), (.ref b25)]))
        refine own_go (fun _ k => XS.iloadN X25.here hx rfl (hb hby at_19) rfl k) ?_
        show own_Fin _ _ _ _ _ _ _ (T25.setTop (mkF m 20 #[.val (.int p0), .val (.int p1), .val (.int p2), .val (.int p3), .val (.int (3 : Int32)), .val (.ref b25), .unset] [(.int p1), (.int (0 : Int32)), (.ref b25)]))
        refine own_go (fun _ k => XS.i2b X25.here hx rfl (hb hby at_20) rfl k) ?_
        show own_Fin _ _ _ _ _ _ _ (T25.setTop (mkF m 21 #[.val (.int p0), .val (.int p1), .val (.int p2), .val (.int p3), .val (.int (3 : Int32)), .val (.ref b25), .unset] [(.int (own_i2b p1)), (.int (0 : Int32)), (.ref b25)]))
        obtain ⟨T26, h26, X26, e26, W26, A_b25_26, st26⟩ := own_stB X25 hx hZ e25 A_b25_25 (j := (0 : Int32)) ⟨by decide, by decide⟩ (g := (mkF m 21 #[.val (.int p0), .val (.int p1), .val (.int p2), .val (.int p3), .val (.int (3 : Int32)), .val (.ref b25), .unset] [(.int (own_i2b p1)), (.int (0 : Int32)), (.ref b25)])) rfl rfl (hb hby at_21)
        have N26 := Fr.snoc X26 N0 ge_b25
        have Z26 : n0 ≤ h26.size := Nat.le_trans Z25 (Keep.of_wr W26).1
        obtain ⟨f26, hf26⟩ : ∃ z, z = (own_set (fun _ => (0 : Int32)) (0 : Int32) (own_i2b (own_i2b p1))) := ⟨_, rfl⟩
        rw [← hf26] at A_b25_26
        refine own_go (fun tg k => st26 tg k) ?_
        show own_Fin _ _ _ _ _ _ _ (T26.setTop (mkF m 22 #[.val (.int p0), .val (.int p1), .val (.int p2), .val (.int p3), .val (.int (3 : Int32)), .val (.ref b25), .unset] []))
        refine own_go (fun _ k => XS.iload X26.here hx rfl (hb hby at_22) rfl k) ?_
        show own_Fin _ _ _ _ _ _ _ (T26.setTop (mkF m 24 #[.val (.int p0), .val (.int p1), .val (.int p2), .val (.int p3), .val (.int (3 : Int32)), .val (.ref b25), .unset] [(.int (3 : Int32))]))
        refine own_go (fun _ k => XS.iconst X26.here hx rfl (hb hby at_24) k) ?_
        show own_Fin _ _ _ _ _ _ _ (T26.setTop (mkF m 25 #[.val (.int p0), .val (.int p1), .val (.int p2), .val (.int p3), .val (.int (3 : Int32)), .val (.ref b25), .unset] [(.int (1 : Int32)), (.int (3 : Int32))]))
        refine own_go (fun _ k => XS.icmpNo X26.here hx rfl (hb hby at_25) rfl (tlt (by decide)).2.2.2 k) ?_
        show own_Fin _ _ _ _ _ _ _ (T26.setTop (mkF m 28 #[.val (.int p0), .val (.int p1), .val (.int p2), .val (.int p3), .val (.int (3 : Int32)), .val (.ref b25), .unset] []))
        refine own_go (fun _ k => XS.aload X26.here hx rfl (hb hby at_28) rfl rfl k) ?_
        show own_Fin _ _ _ _ _ _ _ (T26.setTop (mkF m 30 #[.val (.int p0), .val (.int p1), .val (.int p2), .val (.int p3), .val (.int (3 : Int32)), .val (.ref b25), .unset] [(.ref b25)]))
        refine own_go (fun _ k => XS.iconst X26.here hx rfl (hb hby at_30) k) ?_
        show own_Fin _ _ _ _ _ _ _ (T26.setTop (mkF m 31 #[.val (.int p0), .val (.int p1), .val (.int p2), .val (.int p3), .val (.int (3 : Int32)), .val (.ref b25), .unset] [(.int (1 : Int32)), (.ref b25)]))
        refine own_go (fun _ k => XS.iloadN X26.here hx rfl (hb hby at_31) rfl k) ?_
        show own_Fin _ _ _ _ _ _ _ (T26.setTop (mkF m 32 #[.val (.int p0), .val (.int p1), .val (.int p2), .val (.int p3), .val (.int (3 : Int32)), .val (.ref b25), .unset] [(.int p2), (.int (1 : Int32)), (.ref b25)]))
        refine own_go (fun _ k => XS.i2b X26.here hx rfl (hb hby at_32) rfl k) ?_
        show own_Fin _ _ _ _ _ _ _ (T26.setTop (mkF m 33 #[.val (.int p0), .val (.int p1), .val (.int p2), .val (.int p3), .val (.int (3 : Int32)), .val (.ref b25), .unset] [(.int (own_i2b p2)), (.int (1 : Int32)), (.ref b25)]))
        obtain ⟨T27, h27, X27, e27, W27, A_b25_27, st27⟩ := own_stB X26 hx hZ e26 A_b25_26 (j := (1 : Int32)) ⟨by decide, by decide⟩ (g := (mkF m 33 #[.val (.int p0), .val (.int p1), .val (.int p2), .val (.int p3), .val (.int (3 : Int32)), .val (.ref b25), .unset] [(.int (own_i2b p2)), (.int (1 : Int32)), (.ref b25)])) rfl rfl (hb hby at_33)
        have N27 := Fr.snoc X27 N26 ge_b25
        have Z27 : n0 ≤ h27.size := Nat.le_trans Z26 (Keep.of_wr W27).1
        obtain ⟨f27, hf27⟩ : ∃ z, z = (own_set f26 (1 : Int32) (own_i2b (own_i2b p2))) := ⟨_, rfl⟩
        rw [← hf27] at A_b25_27
        refine own_go (fun tg k => st27 tg k) ?_
        show own_Fin _ _ _ _ _ _ _ (T27.setTop (mkF m 34 #[.val (.int p0), .val (.int p1), .val (.int p2), .val (.int p3), .val (.int (3 : Int32)), .val (.ref b25), .unset] []))
        refine own_go (fun _ k => XS.iload X27.here hx rfl (hb hby at_34) rfl k) ?_
        show own_Fin _ _ _ _ _ _ _ (T27.setTop (mkF m 36 #[.val (.int p0), .val (.int p1), .val (.int p2), .val (.int p3), .val (.int (3 : Int32)), .val (.ref b25), .unset] [(.int (3 : Int32))]))
        refine own_go (fun _ k => XS.iconst X27.here hx rfl (hb hby at_36) k) ?_
        show own_Fin _ _ _ _ _ _ _ (T27.setTop (mkF m 37 #[.val (.int p0), .val (.int p1), .val (.int p2), .val (.int p3), .val (.int (3 : Int32)), .val (.ref b25), .unset] [(.int (2 : Int32)), (.int (3 : Int32))]))
        refine own_go (fun _ k => XS.icmpNo X27.here hx rfl (hb hby at_37) rfl (tlt (by decide)).2.2.2 k) ?_
        show own_Fin _ _ _ _ _ _ _ (T27.setTop (mkF m 40 #[.val (.int p0), .val (.int p1), .val (.int p2), .val (.int p3), .val (.int (3 : Int32)), .val (.ref b25), .unset] []))
        refine own_go (fun _ k => XS.aload X27.here hx rfl (hb hby at_40) rfl rfl k) ?_
        show own_Fin _ _ _ _ _ _ _ (T27.setTop (mkF m 42 #[.val (.int p0), .val (.int p1), .val (.int p2), .val (.int p3), .val (.int (3 : Int32)), .val (.ref b25), .unset] [(.ref b25)]))
        refine own_go (fun _ k => XS.iconst X27.here hx rfl (hb hby at_42) k) ?_
        show own_Fin _ _ _ _ _ _ _ (T27.setTop (mkF m 43 #[.val (.int p0), .val (.int p1), .val (.int p2), .val (.int p3), .val (.int (3 : Int32)), .val (.ref b25), .unset] [(.int (2 : Int32)), (.ref b25)]))
        refine own_go (fun _ k => XS.iloadN X27.here hx rfl (hb hby at_43) rfl k) ?_
        show own_Fin _ _ _ _ _ _ _ (T27.setTop (mkF m 44 #[.val (.int p0), .val (.int p1), .val (.int p2), .val (.int p3), .val (.int (3 : Int32)), .val (.ref b25), .unset] [(.int p3), (.int (2 : Int32)), (.ref b25)]))
        refine own_go (fun _ k => XS.i2b X27.here hx rfl (hb hby at_44) rfl k) ?_
        show own_Fin _ _ _ _ _ _ _ (T27.setTop (mkF m 45 #[.val (.int p0), .val (.int p1), .val (.int p2), .val (.int p3), .val (.int (3 : Int32)), .val (.ref b25), .unset] [(.int (own_i2b p3)), (.int (2 : Int32)), (.ref b25)]))
        obtain ⟨T28, h28, X28, e28, W28, A_b25_28, st28⟩ := own_stB X27 hx hZ e27 A_b25_27 (j := (2 : Int32)) ⟨by decide, by decide⟩ (g := (mkF m 45 #[.val (.int p0), .val (.int p1), .val (.int p2), .val (.int p3), .val (.int (3 : Int32)), .val (.ref b25), .unset] [(.int (own_i2b p3)), (.int (2 : Int32)), (.ref b25)])) rfl rfl (hb hby at_45)
        have N28 := Fr.snoc X28 N27 ge_b25
        have Z28 : n0 ≤ h28.size := Nat.le_trans Z27 (Keep.of_wr W28).1
        obtain ⟨f28, hf28⟩ : ∃ z, z = (own_set f27 (2 : Int32) (own_i2b (own_i2b p3))) := ⟨_, rfl⟩
        rw [← hf28] at A_b25_28
        refine own_go (fun tg k => st28 tg k) ?_
        show own_Fin _ _ _ _ _ _ _ (T28.setTop (mkF m 46 #[.val (.int p0), .val (.int p1), .val (.int p2), .val (.int p3), .val (.int (3 : Int32)), .val (.ref b25), .unset] []))
        refine own_go (fun _ k => XS.iload X28.here hx rfl (hb hby at_46) rfl k) ?_
        show own_Fin _ _ _ _ _ _ _ (T28.setTop (mkF m 48 #[.val (.int p0), .val (.int p1), .val (.int p2), .val (.int p3), .val (.int (3 : Int32)), .val (.ref b25), .unset] [(.int (3 : Int32))]))
        refine own_go (fun _ k => XS.ifNo X28.here hx rfl (hb hby at_48) rfl ((if0 _ _).trans (tlt (by decide)).2.2.2) k) ?_
        show own_Fin _ _ _ _ _ _ _ (T28.setTop (mkF m 51 #[.val (.int p0), .val (.int p1), .val (.int p2), .val (.int p3), .val (.int (3 : Int32)), .val (.ref b25), .unset] []))
        refine own_go (fun _ k => XS.iloadN X28.here hx rfl (hb hby at_51) rfl k) ?_
        show own_Fin _ _ _ _ _ _ _ (T28.setTop (mkF m 52 #[.val (.int p0), .val (.int p1), .val (.int p2), .val (.int p3), .val (.int (3 : Int32)), .val (.ref b25), .unset] [(.int p1)]))
        refine own_go (fun _ k => XS.sipush X28.here hx rfl (hb hby at_52) k) ?_
        show own_Fin _ _ _ _ _ _ _ (T28.setTop (mkF m 55 #[.val (.int p0), .val (.int p1), .val (.int p2), .val (.int p3), .val (.int (3 : Int32)), .val (.ref b25), .unset] [(.int (255 : Int32)), (.int p1)]))
        refine own_go (fun _ k => XS.iand X28.here hx rfl (hb hby at_55) rfl k) ?_
        show own_Fin _ _ _ _ _ _ _ (T28.setTop (mkF m 56 #[.val (.int p0), .val (.int p1), .val (.int p2), .val (.int p3), .val (.int (3 : Int32)), .val (.ref b25), .unset] [(.int (p1 &&& (255 : Int32)))]))
        refine own_go (fun _ k => XS.sipush X28.here hx rfl (hb hby at_56) k) ?_
        show own_Fin _ _ _ _ _ _ _ (T28.setTop (mkF m 59 #[.val (.int p0), .val (.int p1), .val (.int p2), .val (.int p3), .val (.int (3 : Int32)), .val (.ref b25), .unset] [(.int (128 : Int32)), (.int (p1 &&& (255 : Int32)))]))
        have hk30 : ∀ (T' : State) (L' : List Loc), Stand p l e room_1 s m #[(.int p0), (.int p1), (.int p2), (.int p3)] below meth c T' L' 1 3 → Fr n0 L' → T'.heap = h28 → own_Fin p.tables e below s (own_QL (some (.int (own_f0 p0 p1 p2 p3))) n0) 16 128 (T'.setTop (mkF m 67 #[.val (.int p0), .val (.int p1), .val (.int p2), .val (.int p3), .val (.int (3 : Int32)), .val (.ref b25), .unset] [(.int (if (p1 &&& (255 : Int32)) < (128 : Int32) then (0 : Int32) else (1 : Int32)))])) := by
          intro T31 L31 X31 N31 e31
          generalize hz32 : (if (p1 &&& (255 : Int32)) < (128 : Int32) then (0 : Int32) else (1 : Int32)) = z32
          show own_Fin _ _ _ _ _ _ _ (T31.setTop (mkF m 67 #[.val (.int p0), .val (.int p1), .val (.int p2), .val (.int p3), .val (.int (3 : Int32)), .val (.ref b25), .unset] [(.int z32)]))
          refine own_go (fun _ k => XS.istore X31.here hx rfl (hb hby at_67) rfl (l' := #[.val (.int p0), .val (.int p1), .val (.int p2), .val (.int p3), .val (.int (3 : Int32)), .val (.ref b25), .val (.int z32)]) rfl k) ?_
          show own_Fin _ _ _ _ _ _ _ (T31.setTop (mkF m 69 #[.val (.int p0), .val (.int p1), .val (.int p2), .val (.int p3), .val (.int (3 : Int32)), .val (.ref b25), .val (.int z32)] []))
          refine own_go (fun _ k => XS.aload X31.here hx rfl (hb hby at_69) rfl rfl k) ?_
          show own_Fin _ _ _ _ _ _ _ (T31.setTop (mkF m 71 #[.val (.int p0), .val (.int p1), .val (.int p2), .val (.int p3), .val (.int (3 : Int32)), .val (.ref b25), .val (.int z32)] [(.ref b25)]))
          obtain ⟨_, _, ⟨T33, L33, k33, n33⟩, -, X33, ⟨Lc33, hQ33, l33, y33, z33⟩, st33⟩ := Jvm.LawKit.callS X31 hx (y := (⟨"com/example/duanfu/duanfu/model/ExtendedApplicationIndicator", "givesRmac", "([B)Z"⟩ : MethodName)) hown (mvT hZ (hw _ (List.mem_of_getElem? (i := 1) rfl))) (mvT hZ (hw _ (List.mem_of_getElem? (i := 2) rfl))) (mvT hZ (hw _ (List.mem_of_getElem? (i := 3) rfl))) (mvT hZ (hw _ (List.mem_of_getElem? (i := 4) rfl))) (by decide) (backOf (W := 0) (rm1 l Z a0 hw [] b25 (3 : Int32) f28 h28 n0 Z28 A_b25_28) hZ (hw _ (List.mem_of_getElem? (i := 4) rfl)) (hw _ (List.mem_of_getElem? (i := 3) rfl)) (by decide) (by decide)) (g := (mkF m 71 #[.val (.int p0), .val (.int p1), .val (.int p2), .val (.int p3), .val (.int (3 : Int32)), .val (.ref b25), .val (.int z32)] [(.ref b25)])) rfl (by rw [hml]; rfl) (argsL := [(.ref b25)]) (rest := []) (lenOf own_pd14 rfl) rfl (by show 2 * 0 + _ ≤ _; exact Nat.le_of_eq rfl) (hb hby at_71) (fun _ _ => ⟨rfl, e31, (by decide : 1 + 0 ≤ _), (by decide : 3 + 0 ≤ _)⟩)
          dsimp only [Pt.U, Pt.locs, Pt.cells, Pt.slots] at X33 l33 y33 z33 st33 hQ33
          replace y33 : 1 = k33 := y33.symm
          replace z33 : 3 = n33 := z33.symm
          subst y33 z33
          obtain ⟨rfl, N33q, e33⟩ := hQ33
          have N33 : Fr n0 L33 := by rw [l33]; exact Fr.app N31 N33q
          refine own_go (fun tg k => st33 tg k) ?_
          show own_Fin _ _ _ _ _ _ _ (T33.setTop (mkF m 74 #[.val (.int p0), .val (.int p1), .val (.int p2), .val (.int p3), .val (.int (3 : Int32)), .val (.ref b25), .val (.int z32)] [(.int (own_f1 (3 : Int32) f28))]))
          refine own_go (fun _ k => XS.iload X33.here hx rfl (hb hby at_74) rfl k) ?_
          show own_Fin _ _ _ _ _ _ _ (T33.setTop (mkF m 76 #[.val (.int p0), .val (.int p1), .val (.int p2), .val (.int p3), .val (.int (3 : Int32)), .val (.ref b25), .val (.int z32)] [(.int z32), (.int (own_f1 (3 : Int32) f28))]))
          by_cases hc34 : (own_f1 (3 : Int32) f28) = z32
          · refine own_go (fun _ k => XS.icmpNo X33.here hx rfl (hb hby at_76) rfl (teq hc34).2 k) ?_
            show own_Fin _ _ _ _ _ _ _ (T33.setTop (mkF m 79 #[.val (.int p0), .val (.int p1), .val (.int p2), .val (.int p3), .val (.int (3 : Int32)), .val (.ref b25), .val (.int z32)] []))
            refine own_go (fun _ k => XS.iconst X33.here hx rfl (hb hby at_79) k) ?_
            show own_Fin _ _ _ _ _ _ _ (T33.setTop (mkF m 80 #[.val (.int p0), .val (.int p1), .val (.int p2), .val (.int p3), .val (.int (3 : Int32)), .val (.ref b25), .val (.int z32)] [(.int (1 : Int32))]))
            refine own_go (fun _ k => XS.goto X33.here hx rfl (pc0 := 80) (pc' := 84) rfl (hb hby at_80) (by decide) (by decide) k) ?_
            show own_Fin _ _ _ _ _ _ _ (T33.setTop (mkF m 84 #[.val (.int p0), .val (.int p1), .val (.int p2), .val (.int p3), .val (.int (3 : Int32)), .val (.ref b25), .val (.int z32)] [(.int (1 : Int32))]))
            refine own_ret X33 hx hlk Bd.returns rfl (Or.inl ⟨rfl, by simp, _, rfl⟩) (hb hby at_84) (Nat.le_of_ble_eq_true rfl) (Nat.le_of_ble_eq_true rfl) ?_
            exact ⟨(own_lf_own_f0_7 (p0 := p0) (p1 := p1) (p2 := p2) (p3 := p3) hf26 hf27 hf28 hz32 hs1 hs5 hs14 hc34), N33, trivial⟩
          · refine own_go (fun _ k => XS.icmpYes X33.here hx rfl (pc0 := 76) (pc' := 83) rfl (hb hby at_76) rfl (feq hc34).2 (by decide) (by decide) k) ?_
            show own_Fin _ _ _ _ _ _ _ (T33.setTop (mkF m 83 #[.val (.int p0), .val (.int p1), .val (.int p2), .val (.int p3), .val (.int (3 : Int32)), .val (.ref b25), .val (.int z32)] []))
            refine own_go (fun _ k => XS.iconst X33.here hx rfl (hb hby at_83) k) ?_
            show own_Fin _ _ _ _ _ _ _ (T33.setTop (mkF m 84 #[.val (.int p0), .val (.int p1), .val (.int p2), .val (.int p3), .val (.int (3 : Int32)), .val (.ref b25), .val (.int z32)] [(.int (0 : Int32))]))
            refine own_ret X33 hx hlk Bd.returns rfl (Or.inl ⟨rfl, by simp, _, rfl⟩) (hb hby at_84) (Nat.le_of_ble_eq_true rfl) (Nat.le_of_ble_eq_true rfl) ?_
            exact ⟨(own_lf_own_f0_8 (p0 := p0) (p1 := p1) (p2 := p2) (p3 := p3) hf26 hf27 hf28 hz32 hs1 hs5 hs14 hc34), N33, trivial⟩
        by_cases hc29 : (p1 &&& (255 : Int32)) < (128 : Int32)
        · refine own_go (fun _ k => XS.icmpYes X28.here hx rfl (pc0 := 59) (pc' := 66) rfl (hb hby at_59) rfl (tlt hc29).1 (by decide) (by decide) k) ?_
          show own_Fin _ _ _ _ _ _ _ (T28.setTop (mkF m 66 #[.val (.int p0), .val (.int p1), .val (.int p2), .val (.int p3), .val (.int (3 : Int32)), .val (.ref b25), .unset] []))
          refine own_go (fun _ k => XS.iconst X28.here hx rfl (hb hby at_66) k) ?_
          show own_Fin _ _ _ _ _ _ _ (T28.setTop (mkF m 67 #[.val (.int p0), .val (.int p1), .val (.int p2), .val (.int p3), .val (.int (3 : Int32)), .val (.ref b25), .unset] [(.int (0 : Int32))]))
          have kj := hk30 T28 _ (own_mono X28 (by decide) (by decide)) N28 e28
          simpa only [if_pos hc29] using kj
        · refine own_go (fun _ k => XS.icmpNo X28.here hx rfl (hb hby at_59) rfl (flt hc29).1 k) ?_
          show own_Fin _ _ _ _ _ _ _ (T28.setTop (mkF m 62 #[.val (.int p0), .val (.int p1), .val (.int p2), .val (.int p3), .val (.int (3 : Int32)), .val (.ref b25), .unset] []))
          refine own_go (fun _ k => XS.iconst X28.here hx rfl (hb hby at_62) k) ?_
          show own_Fin _ _ _ _ _ _ _ (T28.setTop (mkF m 63 #[.val (.int p0), .val (.int p1), .val (.int p2), .val (.int p3), .val (.int (3 : Int32)), .val (.ref b25), .unset] [(.int (1 : Int32))]))
          refine own_go (fun _ k => XS.goto X28.here hx rfl (pc0 := 63) (pc' := 67) rfl (hb hby at_63) (by decide) (by decide) k) ?_
          show own_Fin _ _ _ _ _ _ _ (T28.setTop (mkF m 67 #[.val (.int p0), .val (.int p1), .val (.int p2), .val (.int p3), .val (.int (3 : Int32)), .val (.ref b25), .unset] [(.int (1 : Int32))]))
          have kj := hk30 T28 _ (own_mono X28 (by decide) (by decide)) N28 e28
          simpa only [if_neg hc29] using kj
theorem own_sgn0 : ∀ i : Fin 256, ((Int32.ofInt ((i.1 : Int) - 128) &&& (128 : Int32)) = (0 : Int32)) ↔ ¬ (Int32.ofInt ((i.1 : Int) - 128) < (0 : Int32)) := by decide +kernel
theorem own_sgn (y : Int32) (h : -128 ≤ y.toInt ∧ y.toInt < 128) : (y &&& (128 : Int32)) = (0 : Int32) ↔ 0 ≤ y.toInt := by
  have e : y = Int32.ofInt ((((y.toInt + 128).toNat : Nat) : Int) - 128) := by
    apply Int32.toInt_inj.mp
    rw [show ((((y.toInt + 128).toNat : Nat) : Int) - 128) = y.toInt from by omega, Int32.ofInt_toInt]
  have q := own_sgn0 ⟨(y.toInt + 128).toNat, by omega⟩
  simp only at q
  rw [← e, Int32.lt_iff_toInt_lt, show (0 : Int32).toInt = 0 from by decide] at q
  rw [q]; omega
theorem own_i2b_top (x : Int32) : ((own_i2b (own_i2b x)) &&& (128 : Int32)) = (0 : Int32) ↔ (x &&& (255 : Int32)) < (128 : Int32) := by
  have a := c_i2b x
  have b := c_i2b (own_i2b x)
  have h2 := c_mask x 255 8 (by decide) (by decide)
  have e1 : (own_i2b (own_i2b x)).toInt = (own_i2b x).toInt8.toInt32.toInt := rfl
  have e2 : (own_i2b x).toInt = x.toInt8.toInt32.toInt := rfl
  rw [own_sgn _ (by omega), Int32.lt_iff_toInt_lt, h2, show ((2 ^ 8 : Nat) : Int) = 256 from by decide, show (128 : Int32).toInt = 128 from by decide]
  omega
theorem own_plain (p0 p1 p2 p3 : Int32) : own_f0 p0 p1 p2 p3 = 1 := by
  have h := own_i2b_top p1
  simp only [own_f0, own_f1]
  simp only [own_set, show ((0 : Int32) < 0) = False from by simp, show ((0 : Int32) < 1) = True from by simp, show ((0 : Int32) < 2) = True from by decide, show ((0 : Int32) < 3) = True from by decide, if_true, if_false, show (0 : Int32).toNatClampNeg = 0 from rfl, show (1 : Int32).toNatClampNeg = 1 from rfl, show (2 : Int32).toNatClampNeg = 2 from rfl, show ((0 : Nat) = 1) = False from by simp, show ((0 : Nat) = 2) = False from by simp, h]
  split <;> simp

set_option maxRecDepth 65536 in
set_option maxHeartbeats 40000000 in
theorem comes_1 {Post : Tables → Env → Array Value → State → Outcome → State → Prop} (hpost : ∀ tb e args s v u, (limb_1_1.after args s (.returned v) u = true ∧ limb_1_2.after args s (.returned v) u = true ∧ True) → FrameEnd s (.returned v) u (Jvm.fieldLocs frame_1_writes args s ++ Jvm.arrayLocs frame_1_arrays args s ++ Jvm.staticLocs frame_1_statics s) 16 128 → Post tb e args s (.returned v) u) :
    ArmFor flags0 classFile x code maxLocals ret World_1 tables_1 room_1 Calls_1 rest_1 Pre_1 Post := by
  intro l hfl _ _ p e ha hc hk s m args below hf hA hF happ hP
  obtain ⟨hcalls, hrest, hpre⟩ := hP
  obtain ⟨-, -, -, hnamed, -, -, -, hat⟩ := (Spec.applies_iff hf).mp happ
  obtain ⟨hg, hn⟩ := and_e (Cond.before_iff.mp (show (Jvm.Cond.and given_1 narrow_1).before args s = true from hpre))
  obtain ⟨g1, g2⟩ := and_e hg
  obtain ⟨g3, g4⟩ := and_e g2
  obtain ⟨g5, g6⟩ := and_e g4
  obtain ⟨g7, g8⟩ := and_e g6
  obtain ⟨w0, w1, w2, w3, rfl⟩ : ∃ w0 w1 w2 w3 : Value, args = #[w0, w1, w2, w3] := by
    have hs : args.size = 4 := by simpa [Cond.value, given_1] using g1
    obtain ⟨L⟩ := args
    match L, hs with
    | [w0, w1, w2, w3], _ => exact ⟨w0, w1, w2, w3, rfl⟩
  have hw := fun d (hd : d ∈ tables_1) => atoms_spec (ws := Jvm.Cond.code x code maxLocals ret :: tables_1) hat d (List.mem_cons_of_mem _ hd)
  have hfit : Fit s := fun {y c} hc i hi => by
    obtain ⟨ha, rfl⟩ := Array.getElem?_eq_some_iff.mp hc
    have q := List.all_eq_true.mp ((Array.all_eq_true_iff_forall_mem.mp hF) _ (Array.getElem_mem ha)) i (List.mem_range.mpr hi)
    simpa [Array.getElem?_eq_getElem hi] using q
  obtain ⟨i0, ei0⟩ := is_v g3
  obtain rfl : w0 = (.int i0) := Option.some.inj ei0
  obtain ⟨i1, ei1⟩ := is_v g5
  obtain rfl : w1 = (.int i1) := Option.some.inj ei1
  obtain ⟨i2, ei2⟩ := is_v g7
  obtain rfl : w2 = (.int i2) := Option.some.inj ei2
  obtain ⟨i3, ei3⟩ := is_v g8
  obtain rfl : w3 = (.int i3) := Option.some.inj ei3
  obtain ⟨n, o, h1, h2, h3, _, L, rfl, ⟨rfl, N, hrest'⟩, hq⟩ := rm0 l s _ hw tables_1 i0 i1 i2 i3 s.heap s.heap.size (Nat.le_refl _) p e ha hc hk s m _ below hf ((Spec.applies_iff_loose hf).mp happ).1 ⟨rfl, State.Warmed39.refl s, rfl⟩ trivial
  refine ⟨n, _, h1, h2, h3, hpost _ _ _ _ _ _ ⟨Cond.after_iff.mpr rfl, Cond.after_iff.mpr (eq_i res_at (Term.int_eval (1)) (congrArg Value.int (own_plain i0 i1 i2 i3))), trivial⟩ ⟨hq.1, hq.2.1, (hq.2.2.sift fun y hy => Or.inr (N y hy)).mono (by decide) (by decide)⟩⟩
theorem main_1_1 : Claimed_1_1 := comes_1 fun _ _ _ _ _ _ h hF => ⟨h.1, hF⟩
theorem main_1_2 : Claimed_1_2 := comes_1 fun _ _ _ _ _ _ h hF => ⟨h.2.1, hF⟩
end Jvm.Pilot.@@N@@
namespace Jvm.Pilot.@@N@@
open Jvm Jvm.ClassFile Sem Op Lib Jvm.Free Jvm.Stand Jvm.Pilot.@@N@@.Jvm.D
/-! MADE BY PROGRAM (witnessworld.py) out of the Statement's table words and the real class files: 9 classes; the members and pool entries that the words name. The judged class is class 1, her method 1. -/
namespace start1
open Jvm.ClassFile
def u (s : String) : CpInfo := .utf8 (stringToUtf16 s)
/-- a pool by its gaps: so many unusable entries, then the entry; so many at the end -/
def gap : Nat → List CpInfo → List CpInfo
  | 0, r => r
  | n + 1, r => .unusable :: gap n r
def poolList (es : List (Nat × CpInfo)) (last : Nat) : List CpInfo := es.foldr (fun e r => gap e.1 (e.2 :: r)) (gap last [])
def pool (es : List (Nat × CpInfo)) (last : Nat) : Array CpInfo := ⟨poolList es last⟩
def fileOf (pool : Array CpInfo) (this : Nat) (attrs : Array Attribute := #[]) (ms : Array MethodInfo := #[]) (fl : Nat := 33) (sup : Nat := 0) (ifs : Array Nat := #[]) (fds : Array FieldInfo := #[]) : ClassFile where
  minorVersion := 0
  majorVersion := 65
  constantPool := pool
  accessFlags := fl
  thisClass := this
  superClass := sup
  interfaces := ifs
  fields := fds
  methods := ms
  attributes := attrs
def plain (name : String) (sup : Option ClassId) : Class where
  name := name
  kind := .ordinary
  loader := none
  accessFlags := 33
  super := sup
  interfaces := #[]
  cf := none
  fields := #[]
  methods := #[]
  instanceTypes := #[]
  staticTypes := #[]
  resolved := #[]
  callSites := []
  init := .initialized
  statics := none
  mirror := none

def pool0 : Array CpInfo := pool [(5, u "<init>"), (0, u "()V"), (1, .class_ 10), (1, u "java/lang/Object")] 113

def k0m0 : Method := { name := "<init>", desc := "()V", sig := { parameters := [], returnType := none }, accessFlags := 1, code := none }
/-- java/lang/Object -/
def k0 : Class := { plain "java/lang/Object" none with
  accessFlags := 33
  interfaces := #[]
  cf := some (fileOf pool0 8 #[] #[{ accessFlags := 1, nameIndex := 5, descriptorIndex := 6, attributes := #[] }] 33 0 #[] #[])
  fields := #[]
  methods := #[k0m0]
  instanceTypes := #[]
  staticTypes := #[]
  resolved := Array.replicate 124 none
  statics := none }

def pool1 : Array CpInfo := pool [(2, .class_ 4), (1, u "java/lang/Object"), (0, u "<init>"), (0, u "()V"), (0, .methodref 8 9), (0, .class_ 10), (0, .nameAndType 11 12), (0, u "com/example/duanfu/duanfu/model/ExtendedApplicationIndicator"), (0, u "givesRmac"), (0, u "([B)Z"), (0, .class_ 14), (0, u "com/example/duanfu/duanfu/model/ExtendedApplicationIndicatorGivesRmacPinLaw"), (2, u "law"), (0, u "(IIII)Z")] 5

def k1m0 : Method := { name := "<init>", desc := "()V", sig := { parameters := [], returnType := none }, accessFlags := 2, code := none }
def k1c1 : Code := { maxStack := 3, maxLocals := 7, code := code, exceptionTable := #[], attributes := #[] }
def k1m1 : Method := { name := "law", desc := "(IIII)Z", sig := { parameters := [.int, .int, .int, .int], returnType := some .boolean }, accessFlags := 9, code := some k1c1 }
/-- com/example/duanfu/duanfu/model/ExtendedApplicationIndicatorGivesRmacPinLaw -/
def k1 : Class := { plain "com/example/duanfu/duanfu/model/ExtendedApplicationIndicatorGivesRmacPinLaw" (some 0) with
  accessFlags := 49
  interfaces := #[]
  cf := some (fileOf pool1 13 #[] #[{ accessFlags := 2, nameIndex := 5, descriptorIndex := 6, attributes := #[] }, { accessFlags := 9, nameIndex := 17, descriptorIndex := 18, attributes := #[] }] 49 2 #[] #[])
  fields := #[]
  methods := #[k1m0, k1m1]
  instanceTypes := #[]
  staticTypes := #[]
  resolved := Array.replicate 24 none
  statics := none }

def pool2 : Array CpInfo := pool [(2, .class_ 4), (1, u "java/lang/Object"), (0, u "<init>"), (0, u "()V"), (10, .class_ 19), (1, u "com/example/duanfu/duanfu/model/ExtendedApplicationIndicator"), (54, u "GIVES_RMAC"), (0, u "I"), (10, u "givesRmac"), (0, u "([B)Z")] 3

def k2m0 : Method := { name := "<init>", desc := "()V", sig := { parameters := [], returnType := none }, accessFlags := 2, code := none }
def k2c1 : Code := { maxStack := 2, maxLocals := 1, code := prog_58_method_4_code, exceptionTable := #[], attributes := #[] }
def k2m1 : Method := { name := "givesRmac", desc := "([B)Z", sig := { parameters := [(.array .byte)], returnType := some .boolean }, accessFlags := 9, code := some k2c1 }
/-- com/example/duanfu/duanfu/model/ExtendedApplicationIndicator -/
def k2 : Class := { plain "com/example/duanfu/duanfu/model/ExtendedApplicationIndicator" (some 0) with
  accessFlags := 49
  interfaces := #[]
  cf := some (fileOf pool2 17 #[] #[{ accessFlags := 2, nameIndex := 5, descriptorIndex := 6, attributes := #[] }, { accessFlags := 9, nameIndex := 86, descriptorIndex := 87, attributes := #[] }] 49 2 #[] #[{ accessFlags := 26, nameIndex := 74, descriptorIndex := 75, attributes := #[] }])
  fields := #[{ name := "GIVES_RMAC", type := .int, accessFlags := 26, slot := 0, constantValue := 0 }]
  methods := #[k2m0, k2m1]
  instanceTypes := #[]
  staticTypes := #[.int]
  resolved := Array.replicate 91 none
  statics := none }

def pool3 : Array CpInfo := pool [(1, u "java/lang/Cloneable"), (0, .class_ 1), (0, u "java/lang/Object"), (0, .class_ 3)] 3

/-- java/lang/Cloneable -/
def k3 : Class := { plain "java/lang/Cloneable" (some 0) with
  accessFlags := 1537
  interfaces := #[]
  cf := some (fileOf pool3 2 #[] #[] 1537 4 #[] #[])
  fields := #[]
  methods := #[]
  instanceTypes := #[]
  staticTypes := #[]
  resolved := Array.replicate 8 none
  statics := none }

def pool4 : Array CpInfo := pool [(1, u "java/io/Serializable"), (0, .class_ 1), (0, u "java/lang/Object"), (0, .class_ 3)] 3

/-- java/io/Serializable -/
def k4 : Class := { plain "java/io/Serializable" (some 0) with
  accessFlags := 1537
  interfaces := #[]
  cf := some (fileOf pool4 2 #[] #[] 1537 4 #[] #[])
  fields := #[]
  methods := #[]
  instanceTypes := #[]
  staticTypes := #[]
  resolved := Array.replicate 8 none
  statics := none }

/-- the primitive byte -/
def k5 : Class := { plain "byte" none with kind := .primitive 'B', accessFlags := 0x411 }
/-- [B -/
def k6 : Class := { plain "[B" (some 0) with kind := .array 5 .byte, interfaces := #[3, 4], accessFlags := 1041 }

/-- the primitive int -/
def k7 : Class := { plain "int" none with kind := .primitive 'I', accessFlags := 0x411 }
/-- [I -/
def k8 : Class := { plain "[I" (some 0) with kind := .array 7 .int, interfaces := #[3, 4], accessFlags := 1041 }

def heap : Heap := #[]
def classes : Array Class := #[k0, k1, k2, k3, k4, k5, k6, k7, k8]
def interned : List (Array UInt16 × Addr) := []
def slotsUsed : Nat := 0
def theMethod : MethodId := ⟨1, 1⟩
def args0 : Array Value := #[.int 2, .int 6, .int 7, .int 8]
def aboutOver (below : List Frame) : State where
  vm := { classes := classes, interned := interned.toArray }
  heap := heap
  slotsUsed := slotsUsed
  threads := #[{ frames := .invoking theMethod args0 :: below }]
def below0 : List Frame := [.native { method := ⟨0, 0⟩, args := #[] }]
def about1 : State := aboutOver below0
def p0 : Program := .bare "" "" ""
def e0 : Env := launch0.env 0 0 0
theorem w_frames : about1.frames = Frame.invoking theMethod args0 :: below0 := rfl
set_option maxRecDepth 65536 in
theorem w_args : argsFit about1.vm theMethod args0 = true := by decide +kernel
set_option maxRecDepth 65536 in
theorem w_heap : heapFits about1 = true := by decide +kernel
set_option maxRecDepth 65536 in
theorem w_runnable : about1.curStatus? = some .runnable := by decide +kernel
set_option maxRecDepth 65536 in
theorem w_alone : about1.alone = true := by decide +kernel
set_option maxRecDepth 65536 in
theorem w_named : about1.methodNamed? x = some theMethod := by decide +kernel
set_option maxRecDepth 65536 in
theorem w_hears : about1.hears theMethod below0 = true := by decide +kernel
set_option maxRecDepth 65536 in
theorem w_ripe : about1.ripe theMethod args0 below0 = true := by decide +kernel
theorem w_running : about1.status = .running := rfl
set_option maxRecDepth 65536 in
theorem w_room : about1.hasRoom e0.platform room_1 = true :=
  launch0.hasRoom_least _ room_1 (by decide +kernel) (by decide +kernel) (by decide +kernel) (by decide +kernel) (by decide +kernel) (by decide +kernel)
theorem allAtoms_all (ts : List Jvm.Cond) (a : Array Jvm.Value) (st : Jvm.State) : (allAtoms ts).before a st = ts.all (fun c => c.before a st) := by
  induction ts with
  | nil => rfl
  | cons c t ih =>
    show (Jvm.Cond.and c (allAtoms t)).before a st = _
    rw [Jvm.Cond.before_and, ih, List.all_cons]
def words1 : List Jvm.Cond := Jvm.Cond.code x code maxLocals ret :: tables_1
/-- a 'code' word, met by the world's own term for the bytes: nothing is compared byte by byte -/
theorem code_word {y : MethodName} {bytes : ByteArray} {mx : Nat} {rt : Option FieldType} {a : Array Value} {s : State} {m : MethodId} {meth : Method} {c : Code} (h1 : s.methodNamed? y = some m) (h2 : s.vm.method? m = some meth) (h3 : meth.code = some c) (h4 : c.code = bytes)
    (h5 : (c.maxLocals == mx && c.exceptionTable.isEmpty && decide (c.maxStack ≤ mostOperands) && decide (meth.sig.returnType = rt) && !meth.locks && decide (parseMethodDescriptor y.desc = some meth.sig)) = true) : (Jvm.Cond.code y bytes mx rt).before a s = true := by
  simp only [Bool.and_eq_true, beq_iff_eq, Bool.not_eq_true', decide_eq_true_eq] at h5
  obtain ⟨⟨⟨⟨⟨g1, g2⟩, g3⟩, g4⟩, g5⟩, g6⟩ := h5
  simp [Cond.before, Cond.holds, Cond.value, h1, h2, h3, h4, g1, g2, g3, g4, g5, g6]
def isCode : Jvm.Cond → Bool
  | .code _ _ _ _ => true
  | _ => false
theorem all_split {L : List Jvm.Cond} {P : Jvm.Cond → Bool} (h1 : L.all (fun c => isCode c || P c) = true) (h2 : ∀ c ∈ L.filter isCode, P c = true) : L.all P = true := by
  refine List.all_eq_true.mpr fun c hc => ?_
  have h := List.all_eq_true.mp h1 c hc
  rcases Bool.eq_false_or_eq_true (isCode c) with hi | hi
  · exact h2 c (List.mem_filter.mpr ⟨hc, hi⟩)
  · simpa [hi] using h
set_option maxRecDepth 65536 in
theorem w_c0 : (Jvm.Cond.code x code maxLocals ret).before args0 about1 = true := code_word (m := ⟨1, 1⟩) (meth := k1m1) (c := k1c1) (by decide +kernel) rfl rfl rfl (by decide +kernel)
set_option maxRecDepth 65536 in
theorem w_c1 : (Jvm.Cond.code ({ cls := "com/example/duanfu/duanfu/model/ExtendedApplicationIndicator", name := "givesRmac", desc := "([B)Z" } : Jvm.MethodName) prog_58_method_4_code (1 : Nat) (Option.some Jvm.ClassFile.FieldType.boolean)).before args0 about1 = true := code_word (m := ⟨2, 1⟩) (meth := k2m1) (c := k2c1) (by decide +kernel) rfl rfl rfl (by decide +kernel)
def codes1 : List Jvm.Cond := [Jvm.Cond.code x code maxLocals ret, Jvm.Cond.code ({ cls := "com/example/duanfu/duanfu/model/ExtendedApplicationIndicator", name := "givesRmac", desc := "([B)Z" } : Jvm.MethodName) prog_58_method_4_code (1 : Nat) (Option.some Jvm.ClassFile.FieldType.boolean)]
set_option maxRecDepth 65536 in
theorem codes_eq : words1.filter isCode = codes1 := rfl
theorem w_codes : ∀ c ∈ words1.filter isCode, c.before args0 about1 = true := by
  rw [codes_eq]
  intro c hc
  simp only [codes1, List.mem_cons, List.not_mem_nil, or_false] at hc
  rcases hc with rfl | rfl
  · exact w_c0
  · exact w_c1
set_option maxRecDepth 65536 in
theorem w_t1 : words1.all (fun c => isCode c || c.before args0 about1) = true := by decide +kernel
theorem w_tables : (allAtoms (Jvm.Cond.code x code maxLocals ret :: tables_1)).before args0 about1 = true := by
  rw [allAtoms_all]
  show words1.all (fun c => c.before args0 about1) = true
  refine all_split ?_ w_codes
  rw [w_t1]
set_option maxRecDepth 65536 in
theorem w_case : (Jvm.Cond.and given_1 narrow_1).before args0 about1 = true := by decide +kernel
theorem w_applies : (headSpec (Jvm.Cond.code x code maxLocals ret :: tables_1) room_1).applies x e0.platform about1 = true :=
  (Spec.applies_iff w_frames).mpr ⟨w_running, w_runnable, w_alone, w_named, w_hears, w_ripe, w_room, w_tables⟩
theorem atStart : AtStart classFile x code maxLocals ret World_1 tables_1 room_1 Calls_1 rest_1 Pre_1 launch0 p0 e0 about1 theMethod args0 below0 :=
  ⟨lists_1, trivial, launch0.admits_env _ _ _, launch0.least_env, fairChoices_fair.cas, fairChoices_fair.clock, w_frames, w_args, w_heap, w_applies, trivial, trivial, w_case⟩
end start1
theorem witness_1 : WitnessClaimed_1 := ⟨start1.p0, start1.e0, start1.about1, start1.theMethod, start1.args0, start1.below0, start1.atStart⟩
end Jvm.Pilot.@@N@@
