import JvmDerived
import JvmDerived.Pilot.@@N@@Statement
import JvmDerived.Pilot.@@N@@Code
set_option linter.unusedVariables false
set_option linter.unusedSimpArgs false
namespace Jvm.Pilot.@@N@@
open Jvm Jvm.ClassFile Sem Op Lib Jvm.Free Jvm.Stand Jvm.LawKit Jvm.RoadKit Bundle Jvm.Pilot.@@N@@.Jvm.D
/-! own layer: the run from a state ends in a return of which Q holds; one step leads from there to there -/
def own_ishl (x y : Int32) : Int32 := x <<< (y &&& 31)
def own_ishr (x y : Int32) : Int32 := x >>> (y &&& 31)
def own_iushr (x y : Int32) : Int32 := (x.toUInt32 >>> (y &&& 31).toUInt32).toInt32
def own_lshl (x : Int64) (y : Int32) : Int64 := x <<< (y &&& 0x3f).toInt64
def own_lshr (x : Int64) (y : Int32) : Int64 := x >>> (y &&& 0x3f).toInt64
def own_lushr (x : Int64) (y : Int32) : Int64 := (x.toUInt64 >>> (y &&& 0x3f).toInt64.toUInt64).toInt64
def own_i2b (x : Int32) : Int32 := x.toInt8.toInt32
def own_i2c (x : Int32) : Int32 := x.toUInt32.toUInt16.toUInt32.toInt32
def own_Fin (tb : Tables) (e : Env) (below : List Frame) (s : State) (Q : Option Value → Heap → List Loc → Prop) (k n : Nat) (t : State) : Prop :=
  ∃ s₂ o, Steps tb e below t s₂ ∧ s₂.status = .running ∧ Ended s₂ below o ∧ ∃ v L, o = .returned v ∧ Q v s₂.heap L ∧ FrameEnd s o s₂ L k n
theorem own_go {tb : Tables} {e : Env} {below : List Frame} {s : State} {Q : Option Value → Heap → List Loc → Prop} {k n : Nat} {t t' : State}
    (h : ∀ target, Steps tb e below t' target → Steps tb e below t target) (q : own_Fin tb e below s Q k n t') : own_Fin tb e below s Q k n t := by
  obtain ⟨s2, o, h1, h2⟩ := q
  exact ⟨s2, o, h _ h1, h2⟩
def own_QP (r : Option Value) (h0 : Heap) (n0 : Nat) (v : Option Value) (h : Heap) (L : List Loc) : Prop := v = r ∧ Fr n0 L ∧ h = h0
section OwnA
variable {p : Program} {l : Launch} {e : Env} {R : Room} {s : State} {m : MethodId} {args : Array Value} {below : List Frame} {meth : Method} {c : Code} {T : State} {locs : List Loc} {cells slots : Nat}
theorem own_mono (X : Stand p l e R s m args below meth c T locs cells slots) {k n : Nat} (hk : cells ≤ k) (hn : slots ≤ n) : Stand p l e R s m args below meth c T locs k n :=
  { X with same := X.same.mono hk hn }
theorem own_ret (X : Stand p l e R s m args below meth c T locs cells slots) (hx : p.tables.exec = Jvm.exec) (hlk : meth.locks = false) {pc : Nat} {Ls : Array Slot} {w : Value} {t : FieldType} {i : Instr} {rest : List Value} (hret : meth.sig.returnType = some t) (hn : narrow t w = w)
    (hi : (i = .ireturn ∧ (t = .int ∨ t = .boolean ∨ t = .byte ∨ t = .char ∨ t = .short) ∧ ∃ z, w = .int z) ∨ (i = .lreturn ∧ t = .long ∧ ∃ z, w = .long z) ∨ (i = .dreturn ∧ t = .double ∧ ∃ z, w = .double z) ∨ (i = .freturn ∧ t = .float ∧ ∃ z, w = .float z) ∨ (i = .areturn ∧ t.isReference = true ∧ w.isRef = true))
    (hd : decode c.code pc = .ok (i, 1)) {Q : Option Value → Heap → List Loc → Prop} {k n : Nat} (hk : cells ≤ k) (hs : slots ≤ n) (hQ : Q (some w) T.heap locs) :
    own_Fin p.tables e below s Q k n (T.setTop (mkF m pc Ls (w :: rest))) := by
  obtain ⟨fs, hr, hrun, hended, hW, hsame⟩ := X.leave (v := some w) (fun h => by rw [hret] at h; cases h) hlk
  exact ⟨_, _, retOut X hx hret hn hi hd hr, hrun, hended, _, _, rfl, hQ, ⟨_, rfl⟩, hW, hsame.mono hk hs⟩
theorem own_retV (X : Stand p l e R s m args below meth c T locs cells slots) (hx : p.tables.exec = Jvm.exec) (hlk : meth.locks = false) {pc : Nat} {Ls : Array Slot} (hret : meth.sig.returnType = none)
    (hd : decode c.code pc = .ok (.return_, 1)) {Q : Option Value → Heap → List Loc → Prop} {k n : Nat} (hk : cells ≤ k) (hs : slots ≤ n) (hQ : Q none T.heap locs) :
    own_Fin p.tables e below s Q k n (T.setTop (mkF m pc Ls [])) := by
  obtain ⟨fs, hr, hrun, hended, hW, hsame⟩ := X.leave (v := none) (fun _ => rfl) hlk
  exact ⟨_, _, X.returnOut hx hret hd hr, hrun, hended, _, _, rfl, hQ, ⟨_, rfl⟩, hW, hsame.mono hk hs⟩
end OwnA
theorem own_irem {tb : Tables} [Ours tb] {e : Env} {below : List Frame} {T target : State} {m : MethodId} {c : Code} {g : JFrame} (h : At T m c below) (hx : tb.exec = Jvm.exec) (hg : g.method = m) {x y : Int32} {rest : List Value} (hd : decode c.code g.pc = .ok (.irem, 1)) (hs : g.stack = .int y :: .int x :: rest) (hy : y ≠ 0)
    (hr : Steps tb e below (T.setTop { g with pc := g.pc + 1, stack := .int (x % y) :: rest }) target) : Steps tb e below (T.setTop g) target :=
  XS.irem h hx hg hd hs hy (by rw [irem_eq_mod x y]; exact hr)
theorem own_lrem {tb : Tables} [Ours tb] {e : Env} {below : List Frame} {T target : State} {m : MethodId} {c : Code} {g : JFrame} (h : At T m c below) (hx : tb.exec = Jvm.exec) (hg : g.method = m) {x y : Int64} {rest : List Value} (hd : decode c.code g.pc = .ok (.lrem, 1)) (hs : g.stack = .long y :: .long x :: rest) (hy : y ≠ 0)
    (hr : Steps tb e below (T.setTop { g with pc := g.pc + 1, stack := .long (x % y) :: rest }) target) : Steps tb e below (T.setTop g) target :=
  XS.lrem h hx hg hd hs hy (by rw [lrem_mod x y]; exact hr)
/-! arrays by a function of the place -/
def own_set {α : Type} (f : Nat → α) (j : Int32) (v : α) : Nat → α := fun i => if i = j.toNatClampNeg then v else f i
def own_Arf (Z : State) (h : Heap) (a : Addr) (ty : FieldType) (n : Int32) (f : Nat → Value) : Prop :=
  ∃ c : Cell, Arr Z h a c ty ∧ c.slots.size = n.toNatClampNeg ∧ ¬ n < 0 ∧ ∀ i, i < n.toNatClampNeg → c.slots[i]? = some (f i)
section OwnB
variable {Z : State} {h h' : Heap} {a b : Addr} {ty : FieldType} {n j : Int32} {f : Nat → Value} {ws : List Addr} {v : Value} {sl : Nat}
theorem own_Arf.lt (F : own_Arf Z h a ty n f) : a < h.size := by obtain ⟨c, A, -⟩ := F; exact A.lt
theorem own_Arf.ext (F : own_Arf Z h a ty n f) (E : Ext h h') : own_Arf Z h' a ty n f := by obtain ⟨c, A, r⟩ := F; exact ⟨c, A.ext E, r⟩
theorem own_Arf.other (F : own_Arf Z h b ty n f) (W : Wr h h' a sl v) (q : b ≠ a) : own_Arf Z h' b ty n f := by obtain ⟨c, A, r⟩ := F; exact ⟨c, A.other W q, r⟩
theorem own_Arf.keep (F : own_Arf Z h a ty n f) (K : Keep h h' ws) (q : a ∉ ws) : own_Arf Z h' a ty n f := by obtain ⟨c, A, r⟩ := F; exact ⟨c, ⟨K.2.1 a c A.1 q, A.2⟩, r⟩
theorem own_Arf.new {k : ClassId} (A : Arr Z h a (newA k ty n) ty) (q : ¬ n < 0) : own_Arf Z h a ty n (fun _ => defaultValue ty) :=
  ⟨_, A, sz_new _ _ _, q, fun i hi => by simp [newA, hi]⟩
theorem own_Arf.wr (F : own_Arf Z h a ty n f) (W : Wr h h' a j.toNatClampNeg v) : own_Arf Z h' a ty n (fun i => if i = j.toNatClampNeg then v else f i) := by
  obtain ⟨c, A, S, q, H⟩ := F
  refine ⟨_, A.same W, by rw [sz_set]; exact S, q, fun i hi => ?_⟩
  by_cases u : i = j.toNatClampNeg
  · subst u; simp [Cell.setSlot, S, hi]
  · simp only [if_neg u, Cell.setSlot]; rw [Array.getElem?_setIfInBounds_ne (Ne.symm u)]; exact H i hi
theorem own_Arf.fn {g : Nat → Value} (F : own_Arf Z h a ty n f) (q : ∀ i, i < n.toNatClampNeg → f i = g i) : own_Arf Z h a ty n g := by
  obtain ⟨c, A, S, q', H⟩ := F
  exact ⟨c, A, S, q', fun i hi => by rw [← q i hi]; exact H i hi⟩
variable {p : Program} {l : Launch} {e : Env} {R : Room} {s : State} {m : MethodId} {args : Array Value} {below : List Frame} {meth : Method} {c : Code} {T : State} {locs : List Loc} {cells slots : Nat} {g : JFrame} {rest : List Value}
theorem own_alen (X : Stand p l e R s m args below meth c T locs cells slots) (hx : p.tables.exec = Jvm.exec) (hZ : Z.Warmed39 s.vm) (eT : T.heap = h) (F : own_Arf Z h a ty n f) (hg : g.method = m) (hs : g.stack = .ref a :: rest) (hd : decode c.code g.pc = .ok (.arraylength, 1)) (target : State)
    (hr : Steps p.tables e below (T.setTop { g with pc := g.pc + 1, stack := .int n :: rest }) target) : Steps p.tables e below (T.setTop g) target := by
  obtain ⟨cl, A, S, q, H⟩ := F
  refine X.arraylength hx (by rw [eT]; exact A.1) (State.isArrayOf_alike hZ.alike A.2.1) hg hs hd _ ?_
  rw [len_of S q]; exact hr
theorem own_iaload (X : Stand p l e R s m args below meth c T locs cells slots) (hx : p.tables.exec = Jvm.exec) (hZ : Z.Warmed39 s.vm) (eT : T.heap = h) (F : own_Arf Z h a .int n f) (hj : ¬ j < 0 ∧ j < n) {x : Int32} (hv : f j.toNatClampNeg = .int x) (hg : g.method = m) (hs : g.stack = .int j :: .ref a :: rest) (hd : decode c.code g.pc = .ok (.iaload, 1)) (target : State)
    (hr : Steps p.tables e below (T.setTop { g with pc := g.pc + 1, stack := .int x :: rest }) target) : Steps p.tables e below (T.setTop g) target := by
  obtain ⟨cl, A, S, q, H⟩ := F
  have hin := inb_of S hj
  exact X.iaload hx (by rw [eT]; exact A.1) (State.isArrayOf_alike hZ.alike A.2.1) A.2.2 hin (by rw [H _ (by rw [← S]; omega), hv]) hg hs hd _ hr
theorem own_baload (X : Stand p l e R s m args below meth c T locs cells slots) (hx : p.tables.exec = Jvm.exec) (hZ : Z.Warmed39 s.vm) (eT : T.heap = h) (F : own_Arf Z h a .byte n f) (hj : ¬ j < 0 ∧ j < n) {x : Int32} (hv : f j.toNatClampNeg = .int x) (hg : g.method = m) (hs : g.stack = .int j :: .ref a :: rest) (hd : decode c.code g.pc = .ok (.baload, 1)) (target : State)
    (hr : Steps p.tables e below (T.setTop { g with pc := g.pc + 1, stack := .int x :: rest }) target) : Steps p.tables e below (T.setTop g) target := by
  obtain ⟨cl, A, S, q, H⟩ := F
  have hin := inb_of S hj
  exact X.baloadBytes hx (by rw [eT]; exact A.1) (State.isArrayOf_alike hZ.alike A.2.1) A.2.2 hin (by rw [H _ (by rw [← S]; omega), hv]) hg hs hd _ hr
theorem own_laload (X : Stand p l e R s m args below meth c T locs cells slots) (hx : p.tables.exec = Jvm.exec) (hZ : Z.Warmed39 s.vm) (eT : T.heap = h) (F : own_Arf Z h a .long n f) (hj : ¬ j < 0 ∧ j < n) {x : Int64} (hv : f j.toNatClampNeg = .long x) (hg : g.method = m) (hs : g.stack = .int j :: .ref a :: rest) (hd : decode c.code g.pc = .ok (.laload, 1)) (target : State)
    (hr : Steps p.tables e below (T.setTop { g with pc := g.pc + 1, stack := .long x :: rest }) target) : Steps p.tables e below (T.setTop g) target := by
  obtain ⟨cl, A, S, q, H⟩ := F
  have hin := inb_of S hj
  exact X.laload hx (by rw [eT]; exact A.1) (State.isArrayOf_alike hZ.alike A.2.1) A.2.2 hin (by rw [H _ (by rw [← S]; omega), hv]) hg hs hd _ hr
theorem own_stI (X : Stand p l e R s m args below meth c T locs cells slots) (hx : p.tables.exec = Jvm.exec) (hZ : Z.Warmed39 s.vm) (eT : T.heap = h) {q : Nat → Int32} (F : own_Arf Z h a .int n (fun i => .int (q i))) (hj : ¬ j < 0 ∧ j < n) {x : Int32} (hg : g.method = m) (hs : g.stack = .int x :: .int j :: .ref a :: rest) (hd : decode c.code g.pc = .ok (.iastore, 1)) :
    ∃ T' h', Stand p l e R s m args below meth c T' (locs ++ [⟨a, j.toNatClampNeg⟩]) cells slots ∧ T'.heap = h' ∧ Wr h h' a j.toNatClampNeg (.int x) ∧ own_Arf Z h' a .int n (fun i => .int (own_set q j x i)) ∧ ∀ target, Steps p.tables e below (T'.setTop { g with pc := g.pc + 1, stack := rest }) target → Steps p.tables e below (T.setTop g) target := by
  obtain ⟨cl, A, S, q1, H⟩ := F
  obtain ⟨T', h', X', e', W, st⟩ := stI X hx hZ eT A (inb_of S hj) hg hs hd
  refine ⟨T', h', X', e', W, (own_Arf.wr ⟨cl, A, S, q1, H⟩ W).fn fun i hi => ?_, st⟩
  simp only [own_set]; split <;> rfl
theorem own_stB (X : Stand p l e R s m args below meth c T locs cells slots) (hx : p.tables.exec = Jvm.exec) (hZ : Z.Warmed39 s.vm) (eT : T.heap = h) {q : Nat → Int32} (F : own_Arf Z h a .byte n (fun i => .int (q i))) (hj : ¬ j < 0 ∧ j < n) {x : Int32} (hg : g.method = m) (hs : g.stack = .int x :: .int j :: .ref a :: rest) (hd : decode c.code g.pc = .ok (.bastore, 1)) :
    ∃ T' h', Stand p l e R s m args below meth c T' (locs ++ [⟨a, j.toNatClampNeg⟩]) cells slots ∧ T'.heap = h' ∧ Wr h h' a j.toNatClampNeg (.int (own_i2b x)) ∧ own_Arf Z h' a .byte n (fun i => .int (own_set q j (own_i2b x) i)) ∧ ∀ target, Steps p.tables e below (T'.setTop { g with pc := g.pc + 1, stack := rest }) target → Steps p.tables e below (T.setTop g) target := by
  obtain ⟨cl, A, S, q1, H⟩ := F
  obtain ⟨T', h', X', e', W, st⟩ := stB X hx hZ eT A (inb_of S hj) hg hs hd
  refine ⟨T', h', X', e', W, (own_Arf.wr ⟨cl, A, S, q1, H⟩ W).fn fun i hi => ?_, st⟩
  simp only [own_set]; split <;> rfl
theorem own_stJ (X : Stand p l e R s m args below meth c T locs cells slots) (hx : p.tables.exec = Jvm.exec) (hZ : Z.Warmed39 s.vm) (eT : T.heap = h) {q : Nat → Int64} (F : own_Arf Z h a .long n (fun i => .long (q i))) (hj : ¬ j < 0 ∧ j < n) {x : Int64} (hg : g.method = m) (hs : g.stack = .long x :: .int j :: .ref a :: rest) (hd : decode c.code g.pc = .ok (.lastore, 1)) :
    ∃ T' h', Stand p l e R s m args below meth c T' (locs ++ [⟨a, j.toNatClampNeg⟩]) cells slots ∧ T'.heap = h' ∧ Wr h h' a j.toNatClampNeg (.long x) ∧ own_Arf Z h' a .long n (fun i => .long (own_set q j x i)) ∧ ∀ target, Steps p.tables e below (T'.setTop { g with pc := g.pc + 1, stack := rest }) target → Steps p.tables e below (T.setTop g) target := by
  obtain ⟨cl, A, S, q1, H⟩ := F
  obtain ⟨T', h', X', e', W, st⟩ := stJ X hx hZ eT A (inb_of S hj) hg hs hd
  refine ⟨T', h', X', e', W, (own_Arf.wr ⟨cl, A, S, q1, H⟩ W).fn fun i hi => ?_, st⟩
  simp only [own_set]; split <;> rfl
end OwnB
def own_QL (r : Option Value) (n0 : Nat) (v : Option Value) (h : Heap) (L : List Loc) : Prop := v = r ∧ Fr n0 L ∧ True
theorem own_ne_arf {Z : State} {h : Heap} {a b : Addr} {C : String} {ty : FieldType} {n : Int32} {f : Nat → Value} {a0 : Array Value} {k : Nat} (F : Exa Z h a C) (wi : (Cond.instantiable C k).before a0 Z = true) (G : own_Arf Z h b ty n f) : a ≠ b := by
  obtain ⟨c, A, -⟩ := G; exact ne_arr F wi A
def own_Two (a b : Slot) : Prop := (a = .unset ∧ b = .unset) ∨ ∃ x : Int64, a = .val (.long x) ∧ b = .second
theorem d1_0 : decode method_2_code 0 = .ok (.iload_n 0, 1) := by decide +kernel
theorem d1_1 : decode method_2_code 1 = .ok (.iconst 3, 1) := by decide +kernel
theorem d1_2 : decode method_2_code 2 = .ok (.iand, 1) := by decide +kernel
theorem d1_3 : decode method_2_code 3 = .ok (.istore_n 1, 1) := by decide +kernel
theorem d1_4 : decode method_2_code 4 = .ok (.iload_n 1, 1) := by decide +kernel
theorem d1_5 : decode method_2_code 5 = .ok (.ifCond .ne 5, 3) := by decide +kernel
theorem d1_8 : decode method_2_code 8 = .ok (.iconst 0, 1) := by decide +kernel
theorem d1_9 : decode method_2_code 9 = .ok (.ireturn, 1) := by decide +kernel
theorem d1_10 : decode method_2_code 10 = .ok (.iload_n 1, 1) := by decide +kernel
theorem d1_11 : decode method_2_code 11 = .ok (.iconst 1, 1) := by decide +kernel
theorem d1_12 : decode method_2_code 12 = .ok (.if_icmp .ne 5, 3) := by decide +kernel
theorem d1_15 : decode method_2_code 15 = .ok (.iconst 1, 1) := by decide +kernel
theorem d1_16 : decode method_2_code 16 = .ok (.ireturn, 1) := by decide +kernel
theorem d1_17 : decode method_2_code 17 = .ok (.iload_n 1, 1) := by decide +kernel
theorem d1_18 : decode method_2_code 18 = .ok (.iconst 2, 1) := by decide +kernel
theorem d1_19 : decode method_2_code 19 = .ok (.if_icmp .ne 7, 3) := by decide +kernel
theorem d1_22 : decode method_2_code 22 = .ok (.sipush 128, 3) := by decide +kernel
theorem d1_25 : decode method_2_code 25 = .ok (.ireturn, 1) := by decide +kernel
theorem d1_26 : decode method_2_code 26 = .ok (.sipush 255, 3) := by decide +kernel
theorem d1_29 : decode method_2_code 29 = .ok (.ireturn, 1) := by decide +kernel
theorem pn_1 : plainName "com/example/duanfu/duanfu/card/CommandApduMacHeaderPinLaw" = true := by first | (simp [plainName, overriddenIn]; done) | decide +kernel
theorem ef_1 (m : MethodId) (p0 : Int32) : entryFrame m #[(.int p0)] 2 = mkF m 0 #[.val (.int p0), .unset] [] := by first | (simp [entryFrame, mkF, argsToLocals, Value.category]; done) | rfl
def own_rm1_room : Room := { frames := 0, cells := 0, slots := 0, locals := 0 }
def own_f1 (p0 : Int32) : Int32 := (if (p0 &&& (3 : Int32)) = (0 : Int32) then ((0 : Int32)) else ((if (p0 &&& (3 : Int32)) = (1 : Int32) then ((1 : Int32)) else ((if (p0 &&& (3 : Int32)) = (2 : Int32) then ((128 : Int32)) else ((255 : Int32)))))))
set_option maxRecDepth 65536 in
set_option maxHeartbeats 40000000 in
theorem rm1 (l : Launch) (Z : State) (a0 : Array Value) (hw : ∀ d ∈ tables_1, d.before a0 Z = true) (ws : List Jvm.Cond) (p0 : Int32) (h0 : Heap) (n0 : Nat) (Z0 : n0 ≤ h0.size) :
    MetFree l (⟨"com/example/duanfu/duanfu/card/CommandApduMacHeaderPinLaw", "pickLength", "(I)I"⟩ : MethodName) (head1 (Jvm.Cond.code (⟨"com/example/duanfu/duanfu/card/CommandApduMacHeaderPinLaw", "pickLength", "(I)I"⟩ : MethodName) method_2_code 2 (some .int) :: ws) own_rm1_room) (fun a U => a = #[(.int p0)] ∧ Z.Warmed39 U.vm ∧ U.heap = h0) (fun _ _ _ _ _ => True) (fun _ U o U' => ∃ v L, o = .returned v ∧ own_QP (some (.int (own_f1 p0))) h0 n0 v U'.heap L ∧ FrameEnd U o U' L own_rm1_room.cells own_rm1_room.slots) := by
  refine MetFree.of_bodySF (plainFor_of_name pn_1) hisR ?_
  intro p e s m args below meth c s₁ Bd hml0 hP hK
  obtain ⟨rfl, hZ, hh⟩ := hP
  have hx := Bd.exec
  have hby := Bd.bytes
  have hml : c.maxLocals = 2 := hml0
  have hown : s.vm.findClass "com/example/duanfu/duanfu/card/CommandApduMacHeaderPinLaw" = some m.cls := findClass_of_methodNamed Bd.named
  have hnm := (name_of_methodNamed Bd.named Bd.method).1
  have hlk : meth.locks = false := BodyLoose.notSynchronized Bd
  have X0 : Stand p l e own_rm1_room s m #[(.int p0)] below meth c s₁ [] 0 0 := Stand.of_body Bd
  have e0 : s₁.heap = h0 := by rw [← hh, Bd.state]; rfl
  have N0 := Fr.nil n0
  show own_Fin p.tables e below s (own_QP (some (.int (own_f1 p0))) h0 n0) own_rm1_room.cells own_rm1_room.slots (s₁.setTop (entryFrame m #[(.int p0)] 2))
  rw [ef_1]
  show own_Fin _ _ _ _ _ _ _ (s₁.setTop (mkF m 0 #[.val (.int p0), .unset] []))
  refine own_go (fun _ k => XS.iloadN X0.here hx rfl (hb hby d1_0) rfl k) ?_
  show own_Fin _ _ _ _ _ _ _ (s₁.setTop (mkF m 1 #[.val (.int p0), .unset] [(.int p0)]))
  refine own_go (fun _ k => XS.iconst X0.here hx rfl (hb hby d1_1) k) ?_
  show own_Fin _ _ _ _ _ _ _ (s₁.setTop (mkF m 2 #[.val (.int p0), .unset] [(.int (3 : Int32)), (.int p0)]))
  refine own_go (fun _ k => XS.iand X0.here hx rfl (hb hby d1_2) rfl k) ?_
  show own_Fin _ _ _ _ _ _ _ (s₁.setTop (mkF m 3 #[.val (.int p0), .unset] [(.int (p0 &&& (3 : Int32)))]))
  refine own_go (fun _ k => XS.istoreN X0.here hx rfl (hb hby d1_3) rfl (l' := #[.val (.int p0), .val (.int (p0 &&& (3 : Int32)))]) rfl k) ?_
  show own_Fin _ _ _ _ _ _ _ (s₁.setTop (mkF m 4 #[.val (.int p0), .val (.int (p0 &&& (3 : Int32)))] []))
  refine own_go (fun _ k => XS.iloadN X0.here hx rfl (hb hby d1_4) rfl k) ?_
  show own_Fin _ _ _ _ _ _ _ (s₁.setTop (mkF m 5 #[.val (.int p0), .val (.int (p0 &&& (3 : Int32)))] [(.int (p0 &&& (3 : Int32)))]))
  by_cases hc1 : (p0 &&& (3 : Int32)) = (0 : Int32)
  · refine own_go (fun _ k => XS.ifNo X0.here hx rfl (hb hby d1_5) rfl ((if0 _ _).trans (teq hc1).2) k) ?_
    show own_Fin _ _ _ _ _ _ _ (s₁.setTop (mkF m 8 #[.val (.int p0), .val (.int (p0 &&& (3 : Int32)))] []))
    refine own_go (fun _ k => XS.iconst X0.here hx rfl (hb hby d1_8) k) ?_
    show own_Fin _ _ _ _ _ _ _ (s₁.setTop (mkF m 9 #[.val (.int p0), .val (.int (p0 &&& (3 : Int32)))] [(.int (0 : Int32))]))
    refine own_ret X0 hx hlk Bd.returns rfl (Or.inl ⟨rfl, by simp, _, rfl⟩) (hb hby d1_9) (Nat.le_of_ble_eq_true rfl) (Nat.le_of_ble_eq_true rfl) ?_
    refine ⟨?_, N0, e0⟩
    first | rfl | (simp only [own_f1, if_pos hc1]; done) | (simp only [own_f1, if_pos hc1]; rfl)
  · refine own_go (fun _ k => XS.ifYes X0.here hx rfl (pc0 := 5) (pc' := 10) rfl (hb hby d1_5) rfl ((if0 _ _).trans (feq hc1).2) (by decide) (by decide) k) ?_
    show own_Fin _ _ _ _ _ _ _ (s₁.setTop (mkF m 10 #[.val (.int p0), .val (.int (p0 &&& (3 : Int32)))] []))
    refine own_go (fun _ k => XS.iloadN X0.here hx rfl (hb hby d1_10) rfl k) ?_
    show own_Fin _ _ _ _ _ _ _ (s₁.setTop (mkF m 11 #[.val (.int p0), .val (.int (p0 &&& (3 : Int32)))] [(.int (p0 &&& (3 : Int32)))]))
    refine own_go (fun _ k => XS.iconst X0.here hx rfl (hb hby d1_11) k) ?_
    show own_Fin _ _ _ _ _ _ _ (s₁.setTop (mkF m 12 #[.val (.int p0), .val (.int (p0 &&& (3 : Int32)))] [(.int (1 : Int32)), (.int (p0 &&& (3 : Int32)))]))
    by_cases hc2 : (p0 &&& (3 : Int32)) = (1 : Int32)
    · refine own_go (fun _ k => XS.icmpNo X0.here hx rfl (hb hby d1_12) rfl (teq hc2).2 k) ?_
      show own_Fin _ _ _ _ _ _ _ (s₁.setTop (mkF m 15 #[.val (.int p0), .val (.int (p0 &&& (3 : Int32)))] []))
      refine own_go (fun _ k => XS.iconst X0.here hx rfl (hb hby d1_15) k) ?_
      show own_Fin _ _ _ _ _ _ _ (s₁.setTop (mkF m 16 #[.val (.int p0), .val (.int (p0 &&& (3 : Int32)))] [(.int (1 : Int32))]))
      refine own_ret X0 hx hlk Bd.returns rfl (Or.inl ⟨rfl, by simp, _, rfl⟩) (hb hby d1_16) (Nat.le_of_ble_eq_true rfl) (Nat.le_of_ble_eq_true rfl) ?_
      refine ⟨?_, N0, e0⟩
      first | rfl | (simp only [own_f1, if_neg hc1, if_pos hc2]; done) | (simp only [own_f1, if_neg hc1, if_pos hc2]; rfl)
    · refine own_go (fun _ k => XS.icmpYes X0.here hx rfl (pc0 := 12) (pc' := 17) rfl (hb hby d1_12) rfl (feq hc2).2 (by decide) (by decide) k) ?_
      show own_Fin _ _ _ _ _ _ _ (s₁.setTop (mkF m 17 #[.val (.int p0), .val (.int (p0 &&& (3 : Int32)))] []))
      refine own_go (fun _ k => XS.iloadN X0.here hx rfl (hb hby d1_17) rfl k) ?_
      show own_Fin _ _ _ _ _ _ _ (s₁.setTop (mkF m 18 #[.val (.int p0), .val (.int (p0 &&& (3 : Int32)))] [(.int (p0 &&& (3 : Int32)))]))
      refine own_go (fun _ k => XS.iconst X0.here hx rfl (hb hby d1_18) k) ?_
      show own_Fin _ _ _ _ _ _ _ (s₁.setTop (mkF m 19 #[.val (.int p0), .val (.int (p0 &&& (3 : Int32)))] [(.int (2 : Int32)), (.int (p0 &&& (3 : Int32)))]))
      by_cases hc3 : (p0 &&& (3 : Int32)) = (2 : Int32)
      · refine own_go (fun _ k => XS.icmpNo X0.here hx rfl (hb hby d1_19) rfl (teq hc3).2 k) ?_
        show own_Fin _ _ _ _ _ _ _ (s₁.setTop (mkF m 22 #[.val (.int p0), .val (.int (p0 &&& (3 : Int32)))] []))
        refine own_go (fun _ k => XS.sipush X0.here hx rfl (hb hby d1_22) k) ?_
        show own_Fin _ _ _ _ _ _ _ (s₁.setTop (mkF m 25 #[.val (.int p0), .val (.int (p0 &&& (3 : Int32)))] [(.int (128 : Int32))]))
        refine own_ret X0 hx hlk Bd.returns rfl (Or.inl ⟨rfl, by simp, _, rfl⟩) (hb hby d1_25) (Nat.le_of_ble_eq_true rfl) (Nat.le_of_ble_eq_true rfl) ?_
        refine ⟨?_, N0, e0⟩
        first | rfl | (simp only [own_f1, if_neg hc1, if_neg hc2, if_pos hc3]; done) | (simp only [own_f1, if_neg hc1, if_neg hc2, if_pos hc3]; rfl)
      · refine own_go (fun _ k => XS.icmpYes X0.here hx rfl (pc0 := 19) (pc' := 26) rfl (hb hby d1_19) rfl (feq hc3).2 (by decide) (by decide) k) ?_
        show own_Fin _ _ _ _ _ _ _ (s₁.setTop (mkF m 26 #[.val (.int p0), .val (.int (p0 &&& (3 : Int32)))] []))
        refine own_go (fun _ k => XS.sipush X0.here hx rfl (hb hby d1_26) k) ?_
        show own_Fin _ _ _ _ _ _ _ (s₁.setTop (mkF m 29 #[.val (.int p0), .val (.int (p0 &&& (3 : Int32)))] [(.int (255 : Int32))]))
        refine own_ret X0 hx hlk Bd.returns rfl (Or.inl ⟨rfl, by simp, _, rfl⟩) (hb hby d1_29) (Nat.le_of_ble_eq_true rfl) (Nat.le_of_ble_eq_true rfl) ?_
        refine ⟨?_, N0, e0⟩
        first | rfl | (simp only [own_f1, if_neg hc1, if_neg hc2, if_neg hc3]; done) | (simp only [own_f1, if_neg hc1, if_neg hc2, if_neg hc3]; rfl)
theorem d3_0 : decode jdk_30_method_1_code 0 = .ok (.aload_n 0, 1) := by decide +kernel
theorem d3_1 : decode jdk_30_method_1_code 1 = .ok (.invokespecial 1, 3) := by decide +kernel
theorem d3_4 : decode jdk_30_method_1_code 4 = .ok (.return_, 1) := by decide +kernel
theorem pn_3 : plainName "java/lang/Record" = true := by first | (simp [plainName, overriddenIn]; done) | decide +kernel
theorem ef_3 (m : MethodId) (r0 : Addr) : entryFrame m #[(.ref r0)] 1 = mkF m 0 #[.val (.ref r0)] [] := by first | (simp [entryFrame, mkF, argsToLocals, Value.category]; done) | rfl
def own_rm3_room : Room := { frames := 1, cells := 0, slots := 0, locals := 12 }
set_option maxRecDepth 65536 in
set_option maxHeartbeats 40000000 in
theorem rm3 (l : Launch) (Z : State) (a0 : Array Value) (hw : ∀ d ∈ tables_1, d.before a0 Z = true) (ws : List Jvm.Cond) (r0 : Addr) (h0 : Heap) (n0 : Nat) (Z0 : n0 ≤ h0.size) :
    MetFree l (⟨"java/lang/Record", "<init>", "()V"⟩ : MethodName) (head1 (Jvm.Cond.code (⟨"java/lang/Record", "<init>", "()V"⟩ : MethodName) jdk_30_method_1_code 1 none :: ws) own_rm3_room) (fun a U => a = #[(.ref r0)] ∧ Z.Warmed39 U.vm ∧ U.heap = h0) (fun _ _ _ _ _ => True) (fun _ U o U' => ∃ v L, o = .returned v ∧ own_QP (none) h0 n0 v U'.heap L ∧ FrameEnd U o U' L own_rm3_room.cells own_rm3_room.slots) := by
  refine MetFree.of_bodySF (plainFor_of_name pn_3) hisR ?_
  intro p e s m args below meth c s₁ Bd hml0 hP hK
  obtain ⟨rfl, hZ, hh⟩ := hP
  have hx := Bd.exec
  have hby := Bd.bytes
  have hml : c.maxLocals = 1 := hml0
  have hown : s.vm.findClass "java/lang/Record" = some m.cls := findClass_of_methodNamed Bd.named
  have hnm := (name_of_methodNamed Bd.named Bd.method).1
  have hlk : meth.locks = false := BodyLoose.notSynchronized Bd
  have X0 : Stand p l e own_rm3_room s m #[(.ref r0)] below meth c s₁ [] 0 0 := Stand.of_body Bd
  have e0 : s₁.heap = h0 := by rw [← hh, Bd.state]; rfl
  have N0 := Fr.nil n0
  show own_Fin p.tables e below s (own_QP (none) h0 n0) own_rm3_room.cells own_rm3_room.slots (s₁.setTop (entryFrame m #[(.ref r0)] 1))
  rw [ef_3]
  show own_Fin _ _ _ _ _ _ _ (s₁.setTop (mkF m 0 #[.val (.ref r0)] []))
  refine own_go (fun _ k => XS.aloadN X0.here hx rfl (hb hby d3_0) rfl rfl k) ?_
  show own_Fin _ _ _ _ _ _ _ (s₁.setTop (mkF m 1 #[.val (.ref r0)] [(.ref r0)]))
  obtain ⟨T1, X1, e1, st1⟩ := initO X0 hx hZ hown (hw _ (List.mem_of_getElem? (i := 16) rfl)) (hw _ (List.mem_of_getElem? (i := 17) rfl)) (hw _ (List.mem_of_getElem? (i := 18) rfl)) e0 (g := (mkF m 1 #[.val (.ref r0)] [(.ref r0)])) rfl (by rw [hml]; rfl) rfl (hb hby d3_1) (by decide) (W := 0) (by show 2 * 0 + _ ≤ _; exact Nat.le_of_eq rfl) (by decide)
  refine own_go (fun tg k => st1 tg k) ?_
  show own_Fin _ _ _ _ _ _ _ (T1.setTop (mkF m 4 #[.val (.ref r0)] []))
  refine own_retV X1 hx hlk Bd.returns (hb hby d3_4) (Nat.le_of_ble_eq_true rfl) (Nat.le_of_ble_eq_true rfl) ?_
  refine ⟨?_, N0, e1⟩
  first | rfl | (simp only [own_f3]; done) | (simp only [own_f3]; rfl)
theorem own_pd25 : parseMethodDescriptor "()V" = some ⟨[], none⟩ := by decide +kernel
theorem d2_0 : decode prog_6_method_1_code 0 = .ok (.aload_n 0, 1) := by decide +kernel
theorem d2_1 : decode prog_6_method_1_code 1 = .ok (.invokespecial 1, 3) := by decide +kernel
theorem d2_4 : decode prog_6_method_1_code 4 = .ok (.aload_n 0, 1) := by decide +kernel
theorem d2_5 : decode prog_6_method_1_code 5 = .ok (.iload_n 1, 1) := by decide +kernel
theorem d2_6 : decode prog_6_method_1_code 6 = .ok (.putfield 7, 3) := by decide +kernel
theorem d2_9 : decode prog_6_method_1_code 9 = .ok (.aload_n 0, 1) := by decide +kernel
theorem d2_10 : decode prog_6_method_1_code 10 = .ok (.iload_n 2, 1) := by decide +kernel
theorem d2_11 : decode prog_6_method_1_code 11 = .ok (.putfield 13, 3) := by decide +kernel
theorem d2_14 : decode prog_6_method_1_code 14 = .ok (.aload_n 0, 1) := by decide +kernel
theorem d2_15 : decode prog_6_method_1_code 15 = .ok (.iload_n 3, 1) := by decide +kernel
theorem d2_16 : decode prog_6_method_1_code 16 = .ok (.putfield 16, 3) := by decide +kernel
theorem d2_19 : decode prog_6_method_1_code 19 = .ok (.aload_n 0, 1) := by decide +kernel
theorem d2_20 : decode prog_6_method_1_code 20 = .ok (.iload 4, 2) := by decide +kernel
theorem d2_22 : decode prog_6_method_1_code 22 = .ok (.putfield 19, 3) := by decide +kernel
theorem d2_25 : decode prog_6_method_1_code 25 = .ok (.aload_n 0, 1) := by decide +kernel
theorem d2_26 : decode prog_6_method_1_code 26 = .ok (.aload 5, 2) := by decide +kernel
theorem d2_28 : decode prog_6_method_1_code 28 = .ok (.putfield 22, 3) := by decide +kernel
theorem d2_31 : decode prog_6_method_1_code 31 = .ok (.return_, 1) := by decide +kernel
theorem pn_2 : plainName "com/example/duanfu/duanfu/card/CommandApdu" = true := by first | (simp [plainName, overriddenIn]; done) | decide +kernel
theorem ef_2 (m : MethodId) (r0 : Addr) (p1 : Int32) (p2 : Int32) (p3 : Int32) (p4 : Int32) (r5 : Addr) : entryFrame m #[(.ref r0), (.int p1), (.int p2), (.int p3), (.int p4), (.ref r5)] 6 = mkF m 0 #[.val (.ref r0), .val (.int p1), .val (.int p2), .val (.int p3), .val (.int p4), .val (.ref r5)] [] := by first | (simp [entryFrame, mkF, argsToLocals, Value.category]; done) | rfl
def rm2_room : Room := { frames := 2, cells := 0, slots := 0, locals := 24 }
def Qrm2 (Z : State) (r0 : Addr) (p1 : Int32) (p2 : Int32) (p3 : Int32) (p4 : Int32) (r5 : Addr) (h0 : Heap) (n0 : Nat) (v : Option Value) (h : Heap) (L : List Loc) : Prop := v = none ∧ Fr n0 L ∧ Keep h0 h [r0] ∧ Exa Z h r0 "com/example/duanfu/duanfu/card/CommandApdu" ∧ Fld Z h r0 "com/example/duanfu/duanfu/card/CommandApdu" "cla" "I" (.int p1) ∧ Fld Z h r0 "com/example/duanfu/duanfu/card/CommandApdu" "ins" "I" (.int p2) ∧ Fld Z h r0 "com/example/duanfu/duanfu/card/CommandApdu" "p1" "I" (.int p3) ∧ Fld Z h r0 "com/example/duanfu/duanfu/card/CommandApdu" "p2" "I" (.int p4) ∧ Fld Z h r0 "com/example/duanfu/duanfu/card/CommandApdu" "data" "[B" (.ref r5)
set_option maxRecDepth 65536 in
set_option maxHeartbeats 40000000 in
theorem rm2 (l : Launch) (Z : State) (a0 : Array Value) (hw : ∀ d ∈ tables_1, d.before a0 Z = true) (ws : List Jvm.Cond) (r0 : Addr) (p1 : Int32) (p2 : Int32) (p3 : Int32) (p4 : Int32) (r5 : Addr) (h0 : Heap) (n0 : Nat) (Z0 : n0 ≤ h0.size) (E_r0_0 : Exa Z h0 r0 "com/example/duanfu/duanfu/card/CommandApdu") (F_cla_r0_0 : Fld Z h0 r0 "com/example/duanfu/duanfu/card/CommandApdu" "cla" "I" (.int (0 : Int32))) (F_ins_r0_0 : Fld Z h0 r0 "com/example/duanfu/duanfu/card/CommandApdu" "ins" "I" (.int (0 : Int32))) (F_p1_r0_0 : Fld Z h0 r0 "com/example/duanfu/duanfu/card/CommandApdu" "p1" "I" (.int (0 : Int32))) (F_p2_r0_0 : Fld Z h0 r0 "com/example/duanfu/duanfu/card/CommandApdu" "p2" "I" (.int (0 : Int32))) (F_data_r0_0 : Fld Z h0 r0 "com/example/duanfu/duanfu/card/CommandApdu" "data" "[B" .null) (ge_r0 : n0 ≤ r0) :
    MetFree l (⟨"com/example/duanfu/duanfu/card/CommandApdu", "<init>", "(IIII[B)V"⟩ : MethodName) (head1 (Jvm.Cond.code (⟨"com/example/duanfu/duanfu/card/CommandApdu", "<init>", "(IIII[B)V"⟩ : MethodName) prog_6_method_1_code 6 none :: ws) rm2_room) (fun a U => a = #[(.ref r0), (.int p1), (.int p2), (.int p3), (.int p4), (.ref r5)] ∧ Z.Warmed39 U.vm ∧ U.heap = h0) (fun _ _ _ _ _ => True) (fun _ U o U' => ∃ v L, o = .returned v ∧ Qrm2 Z r0 p1 p2 p3 p4 r5 h0 n0 v U'.heap L ∧ FrameEnd U o U' L rm2_room.cells rm2_room.slots) := by
  refine MetFree.of_bodySF (plainFor_of_name pn_2) hisR ?_
  intro p e s m args below meth c s₁ Bd hml0 hP hK
  obtain ⟨rfl, hZ, hh⟩ := hP
  have hx := Bd.exec
  have hby := Bd.bytes
  have hml : c.maxLocals = 6 := hml0
  have hown : s.vm.findClass "com/example/duanfu/duanfu/card/CommandApdu" = some m.cls := findClass_of_methodNamed Bd.named
  have hnm := (name_of_methodNamed Bd.named Bd.method).1
  have hlk : meth.locks = false := BodyLoose.notSynchronized Bd
  have X0 : Stand p l e rm2_room s m #[(.ref r0), (.int p1), (.int p2), (.int p3), (.int p4), (.ref r5)] below meth c s₁ [] 0 0 := Stand.of_body Bd
  have e0 : s₁.heap = h0 := by rw [← hh, Bd.state]; rfl
  have N0 := Fr.nil n0
  show own_Fin p.tables e below s (Qrm2 Z r0 p1 p2 p3 p4 r5 h0 n0) rm2_room.cells rm2_room.slots (s₁.setTop (entryFrame m #[(.ref r0), (.int p1), (.int p2), (.int p3), (.int p4), (.ref r5)] 6))
  rw [ef_2]
  show own_Fin _ _ _ _ _ _ _ (s₁.setTop (mkF m 0 #[.val (.ref r0), .val (.int p1), .val (.int p2), .val (.int p3), .val (.int p4), .val (.ref r5)] []))
  have K0 := Keep.refl h0 [r0]
  refine own_go (fun _ k => XS.aloadN X0.here hx rfl (hb hby d2_0) rfl rfl k) ?_
  show own_Fin _ _ _ _ _ _ _ (s₁.setTop (mkF m 1 #[.val (.ref r0), .val (.int p1), .val (.int p2), .val (.int p3), .val (.int p4), .val (.ref r5)] [(.ref r0)]))
  obtain ⟨_, _, ⟨T1, L1, k1, n1⟩, -, X1, ⟨Lc1, hQ1, l1, y1, z1⟩, st1⟩ := X0.specialBack hx (y := (⟨"java/lang/Record", "<init>", "()V"⟩ : MethodName)) rfl hown (mvT hZ (hw _ (List.mem_of_getElem? (i := 11) rfl))) (mvT hZ (hw _ (List.mem_of_getElem? (i := 12) rfl))) (mvT hZ (hw _ (List.mem_of_getElem? (i := 15) rfl))) (by decide) (backOf (W := 0) (rm3 l Z a0 hw [] r0 h0 n0 Z0) hZ (hw _ (List.mem_of_getElem? (i := 15) rfl)) (hw _ (List.mem_of_getElem? (i := 14) rfl)) (by decide) (by decide)) (g := (mkF m 1 #[.val (.ref r0), .val (.int p1), .val (.int p2), .val (.int p3), .val (.int p4), .val (.ref r5)] [(.ref r0)])) rfl (by rw [hml]; rfl) (Steps.refl _) (a := r0) (argsL := []) (rest := []) (lenOf own_pd25 rfl) rfl (by show 2 * 0 + _ ≤ _; exact Nat.le_of_eq rfl) (hb hby d2_1) (fun _ _ => ⟨rfl, e0, (by decide : 0 + 0 ≤ _), (by decide : 0 + 0 ≤ _)⟩)
  dsimp only [Pt.U, Pt.locs, Pt.cells, Pt.slots] at X1 l1 y1 z1 st1 hQ1
  subst l1 y1 z1
  obtain ⟨rfl, N1q, e1⟩ := hQ1
  have N1 := Fr.app N0 N1q
  refine own_go (fun tg k => st1.trans k) ?_
  show own_Fin _ _ _ _ _ _ _ (T1.setTop (mkF m 4 #[.val (.ref r0), .val (.int p1), .val (.int p2), .val (.int p3), .val (.int p4), .val (.ref r5)] []))
  refine own_go (fun _ k => XS.aloadN X1.here hx rfl (hb hby d2_4) rfl rfl k) ?_
  show own_Fin _ _ _ _ _ _ _ (T1.setTop (mkF m 5 #[.val (.ref r0), .val (.int p1), .val (.int p2), .val (.int p3), .val (.int p4), .val (.ref r5)] [(.ref r0)]))
  refine own_go (fun _ k => XS.iloadN X1.here hx rfl (hb hby d2_5) rfl k) ?_
  show own_Fin _ _ _ _ _ _ _ (T1.setTop (mkF m 6 #[.val (.ref r0), .val (.int p1), .val (.int p2), .val (.int p3), .val (.int p4), .val (.ref r5)] [(.int p1), (.ref r0)]))
  obtain ⟨T2, h2, X2, e2, W2, st2⟩ := putF X1 hx hZ hown (host := "") (Or.inl (hw _ (List.mem_of_getElem? (i := 19) rfl))) Via.refl e1 F_cla_r0_0 E_r0_0 (Or.inr ⟨(hw _ (List.mem_of_getElem? (i := 20) rfl)), rfl, hnm⟩) (hw _ (List.mem_of_getElem? (i := 6) rfl)) (ty := .int) (by decide) rfl rfl (g := (mkF m 6 #[.val (.ref r0), .val (.int p1), .val (.int p2), .val (.int p3), .val (.int p4), .val (.ref r5)] [(.int p1), (.ref r0)])) rfl rfl (hb hby d2_6)
  have E_r0_2 := E_r0_0.wr W2
  have F_ins_r0_2 := F_ins_r0_0.other W2 (Or.inr (slot_ne (Or.inr (hw _ (List.mem_of_getElem? (i := 22) rfl))) (Or.inr (hw _ (List.mem_of_getElem? (i := 20) rfl))) (by decide) (t := .int) (t' := .int) (by decide) (by decide)))
  have F_p1_r0_2 := F_p1_r0_0.other W2 (Or.inr (slot_ne (Or.inr (hw _ (List.mem_of_getElem? (i := 24) rfl))) (Or.inr (hw _ (List.mem_of_getElem? (i := 20) rfl))) (by decide) (t := .int) (t' := .int) (by decide) (by decide)))
  have F_p2_r0_2 := F_p2_r0_0.other W2 (Or.inr (slot_ne (Or.inr (hw _ (List.mem_of_getElem? (i := 26) rfl))) (Or.inr (hw _ (List.mem_of_getElem? (i := 20) rfl))) (by decide) (t := .int) (t' := .int) (by decide) (by decide)))
  have F_data_r0_2 := F_data_r0_0.other W2 (Or.inr (slot_ne (Or.inr (hw _ (List.mem_of_getElem? (i := 28) rfl))) (Or.inr (hw _ (List.mem_of_getElem? (i := 20) rfl))) (by decide) (t := (.array .byte)) (t' := .int) (by decide) (by decide)))
  have K2 := K0.wr W2 (Or.inl (List.mem_of_getElem? (i := 0) rfl))
  have N2 := Fr.snoc X2 N1 ge_r0
  have Z2 : n0 ≤ h2.size := Nat.le_trans Z0 (Keep.of_wr W2).1
  have F_cla_r0_2 := F_cla_r0_0.same W2
  refine own_go (fun tg k => st2 tg k) ?_
  show own_Fin _ _ _ _ _ _ _ (T2.setTop (mkF m 9 #[.val (.ref r0), .val (.int p1), .val (.int p2), .val (.int p3), .val (.int p4), .val (.ref r5)] []))
  refine own_go (fun _ k => XS.aloadN X2.here hx rfl (hb hby d2_9) rfl rfl k) ?_
  show own_Fin _ _ _ _ _ _ _ (T2.setTop (mkF m 10 #[.val (.ref r0), .val (.int p1), .val (.int p2), .val (.int p3), .val (.int p4), .val (.ref r5)] [(.ref r0)]))
  refine own_go (fun _ k => XS.iloadN X2.here hx rfl (hb hby d2_10) rfl k) ?_
  show own_Fin _ _ _ _ _ _ _ (T2.setTop (mkF m 11 #[.val (.ref r0), .val (.int p1), .val (.int p2), .val (.int p3), .val (.int p4), .val (.ref r5)] [(.int p2), (.ref r0)]))
  obtain ⟨T3, h3, X3, e3, W3, st3⟩ := putF X2 hx hZ hown (host := "") (Or.inl (hw _ (List.mem_of_getElem? (i := 21) rfl))) Via.refl e2 F_ins_r0_2 E_r0_2 (Or.inr ⟨(hw _ (List.mem_of_getElem? (i := 22) rfl)), rfl, hnm⟩) (hw _ (List.mem_of_getElem? (i := 6) rfl)) (ty := .int) (by decide) rfl rfl (g := (mkF m 11 #[.val (.ref r0), .val (.int p1), .val (.int p2), .val (.int p3), .val (.int p4), .val (.ref r5)] [(.int p2), (.ref r0)])) rfl rfl (hb hby d2_11)
  have E_r0_3 := E_r0_2.wr W3
  have F_cla_r0_3 := F_cla_r0_2.other W3 (Or.inr (slot_ne (Or.inr (hw _ (List.mem_of_getElem? (i := 20) rfl))) (Or.inr (hw _ (List.mem_of_getElem? (i := 22) rfl))) (by decide) (t := .int) (t' := .int) (by decide) (by decide)))
  have F_p1_r0_3 := F_p1_r0_2.other W3 (Or.inr (slot_ne (Or.inr (hw _ (List.mem_of_getElem? (i := 24) rfl))) (Or.inr (hw _ (List.mem_of_getElem? (i := 22) rfl))) (by decide) (t := .int) (t' := .int) (by decide) (by decide)))
  have F_p2_r0_3 := F_p2_r0_2.other W3 (Or.inr (slot_ne (Or.inr (hw _ (List.mem_of_getElem? (i := 26) rfl))) (Or.inr (hw _ (List.mem_of_getElem? (i := 22) rfl))) (by decide) (t := .int) (t' := .int) (by decide) (by decide)))
  have F_data_r0_3 := F_data_r0_2.other W3 (Or.inr (slot_ne (Or.inr (hw _ (List.mem_of_getElem? (i := 28) rfl))) (Or.inr (hw _ (List.mem_of_getElem? (i := 22) rfl))) (by decide) (t := (.array .byte)) (t' := .int) (by decide) (by decide)))
  have K3 := K2.wr W3 (Or.inl (List.mem_of_getElem? (i := 0) rfl))
  have N3 := Fr.snoc X3 N2 ge_r0
  have Z3 : n0 ≤ h3.size := Nat.le_trans Z2 (Keep.of_wr W3).1
  have F_ins_r0_3 := F_ins_r0_2.same W3
  refine own_go (fun tg k => st3 tg k) ?_
  show own_Fin _ _ _ _ _ _ _ (T3.setTop (mkF m 14 #[.val (.ref r0), .val (.int p1), .val (.int p2), .val (.int p3), .val (.int p4), .val (.ref r5)] []))
  refine own_go (fun _ k => XS.aloadN X3.here hx rfl (hb hby d2_14) rfl rfl k) ?_
  show own_Fin _ _ _ _ _ _ _ (T3.setTop (mkF m 15 #[.val (.ref r0), .val (.int p1), .val (.int p2), .val (.int p3), .val (.int p4), .val (.ref r5)] [(.ref r0)]))
  refine own_go (fun _ k => XS.iloadN X3.here hx rfl (hb hby d2_15) rfl k) ?_
  show own_Fin _ _ _ _ _ _ _ (T3.setTop (mkF m 16 #[.val (.ref r0), .val (.int p1), .val (.int p2), .val (.int p3), .val (.int p4), .val (.ref r5)] [(.int p3), (.ref r0)]))
  obtain ⟨T4, h4, X4, e4, W4, st4⟩ := putF X3 hx hZ hown (host := "") (Or.inl (hw _ (List.mem_of_getElem? (i := 23) rfl))) Via.refl e3 F_p1_r0_3 E_r0_3 (Or.inr ⟨(hw _ (List.mem_of_getElem? (i := 24) rfl)), rfl, hnm⟩) (hw _ (List.mem_of_getElem? (i := 6) rfl)) (ty := .int) (by decide) rfl rfl (g := (mkF m 16 #[.val (.ref r0), .val (.int p1), .val (.int p2), .val (.int p3), .val (.int p4), .val (.ref r5)] [(.int p3), (.ref r0)])) rfl rfl (hb hby d2_16)
  have E_r0_4 := E_r0_3.wr W4
  have F_cla_r0_4 := F_cla_r0_3.other W4 (Or.inr (slot_ne (Or.inr (hw _ (List.mem_of_getElem? (i := 20) rfl))) (Or.inr (hw _ (List.mem_of_getElem? (i := 24) rfl))) (by decide) (t := .int) (t' := .int) (by decide) (by decide)))
  have F_ins_r0_4 := F_ins_r0_3.other W4 (Or.inr (slot_ne (Or.inr (hw _ (List.mem_of_getElem? (i := 22) rfl))) (Or.inr (hw _ (List.mem_of_getElem? (i := 24) rfl))) (by decide) (t := .int) (t' := .int) (by decide) (by decide)))
  have F_p2_r0_4 := F_p2_r0_3.other W4 (Or.inr (slot_ne (Or.inr (hw _ (List.mem_of_getElem? (i := 26) rfl))) (Or.inr (hw _ (List.mem_of_getElem? (i := 24) rfl))) (by decide) (t := .int) (t' := .int) (by decide) (by decide)))
  have F_data_r0_4 := F_data_r0_3.other W4 (Or.inr (slot_ne (Or.inr (hw _ (List.mem_of_getElem? (i := 28) rfl))) (Or.inr (hw _ (List.mem_of_getElem? (i := 24) rfl))) (by decide) (t := (.array .byte)) (t' := .int) (by decide) (by decide)))
  have K4 := K3.wr W4 (Or.inl (List.mem_of_getElem? (i := 0) rfl))
  have N4 := Fr.snoc X4 N3 ge_r0
  have Z4 : n0 ≤ h4.size := Nat.le_trans Z3 (Keep.of_wr W4).1
  have F_p1_r0_4 := F_p1_r0_3.same W4
  refine own_go (fun tg k => st4 tg k) ?_
  show own_Fin _ _ _ _ _ _ _ (T4.setTop (mkF m 19 #[.val (.ref r0), .val (.int p1), .val (.int p2), .val (.int p3), .val (.int p4), .val (.ref r5)] []))
  refine own_go (fun _ k => XS.aloadN X4.here hx rfl (hb hby d2_19) rfl rfl k) ?_
  show own_Fin _ _ _ _ _ _ _ (T4.setTop (mkF m 20 #[.val (.ref r0), .val (.int p1), .val (.int p2), .val (.int p3), .val (.int p4), .val (.ref r5)] [(.ref r0)]))
  refine own_go (fun _ k => XS.iload X4.here hx rfl (hb hby d2_20) rfl k) ?_
  show own_Fin _ _ _ _ _ _ _ (T4.setTop (mkF m 22 #[.val (.ref r0), .val (.int p1), .val (.int p2), .val (.int p3), .val (.int p4), .val (.ref r5)] [(.int p4), (.ref r0)]))
  obtain ⟨T5, h5, X5, e5, W5, st5⟩ := putF X4 hx hZ hown (host := "") (Or.inl (hw _ (List.mem_of_getElem? (i := 25) rfl))) Via.refl e4 F_p2_r0_4 E_r0_4 (Or.inr ⟨(hw _ (List.mem_of_getElem? (i := 26) rfl)), rfl, hnm⟩) (hw _ (List.mem_of_getElem? (i := 6) rfl)) (ty := .int) (by decide) rfl rfl (g := (mkF m 22 #[.val (.ref r0), .val (.int p1), .val (.int p2), .val (.int p3), .val (.int p4), .val (.ref r5)] [(.int p4), (.ref r0)])) rfl rfl (hb hby d2_22)
  have E_r0_5 := E_r0_4.wr W5
  have F_cla_r0_5 := F_cla_r0_4.other W5 (Or.inr (slot_ne (Or.inr (hw _ (List.mem_of_getElem? (i := 20) rfl))) (Or.inr (hw _ (List.mem_of_getElem? (i := 26) rfl))) (by decide) (t := .int) (t' := .int) (by decide) (by decide)))
  have F_ins_r0_5 := F_ins_r0_4.other W5 (Or.inr (slot_ne (Or.inr (hw _ (List.mem_of_getElem? (i := 22) rfl))) (Or.inr (hw _ (List.mem_of_getElem? (i := 26) rfl))) (by decide) (t := .int) (t' := .int) (by decide) (by decide)))
  have F_p1_r0_5 := F_p1_r0_4.other W5 (Or.inr (slot_ne (Or.inr (hw _ (List.mem_of_getElem? (i := 24) rfl))) (Or.inr (hw _ (List.mem_of_getElem? (i := 26) rfl))) (by decide) (t := .int) (t' := .int) (by decide) (by decide)))
  have F_data_r0_5 := F_data_r0_4.other W5 (Or.inr (slot_ne (Or.inr (hw _ (List.mem_of_getElem? (i := 28) rfl))) (Or.inr (hw _ (List.mem_of_getElem? (i := 26) rfl))) (by decide) (t := (.array .byte)) (t' := .int) (by decide) (by decide)))
  have K5 := K4.wr W5 (Or.inl (List.mem_of_getElem? (i := 0) rfl))
  have N5 := Fr.snoc X5 N4 ge_r0
  have Z5 : n0 ≤ h5.size := Nat.le_trans Z4 (Keep.of_wr W5).1
  have F_p2_r0_5 := F_p2_r0_4.same W5
  refine own_go (fun tg k => st5 tg k) ?_
  show own_Fin _ _ _ _ _ _ _ (T5.setTop (mkF m 25 #[.val (.ref r0), .val (.int p1), .val (.int p2), .val (.int p3), .val (.int p4), .val (.ref r5)] []))
  refine own_go (fun _ k => XS.aloadN X5.here hx rfl (hb hby d2_25) rfl rfl k) ?_
  show own_Fin _ _ _ _ _ _ _ (T5.setTop (mkF m 26 #[.val (.ref r0), .val (.int p1), .val (.int p2), .val (.int p3), .val (.int p4), .val (.ref r5)] [(.ref r0)]))
  refine own_go (fun _ k => XS.aload X5.here hx rfl (hb hby d2_26) rfl rfl k) ?_
  show own_Fin _ _ _ _ _ _ _ (T5.setTop (mkF m 28 #[.val (.ref r0), .val (.int p1), .val (.int p2), .val (.int p3), .val (.int p4), .val (.ref r5)] [(.ref r5), (.ref r0)]))
  obtain ⟨T6, h6, X6, e6, W6, st6⟩ := putF X5 hx hZ hown (host := "") (Or.inl (hw _ (List.mem_of_getElem? (i := 27) rfl))) Via.refl e5 F_data_r0_5 E_r0_5 (Or.inr ⟨(hw _ (List.mem_of_getElem? (i := 28) rfl)), rfl, hnm⟩) (hw _ (List.mem_of_getElem? (i := 6) rfl)) (ty := (.array .byte)) (by decide) rfl rfl (g := (mkF m 28 #[.val (.ref r0), .val (.int p1), .val (.int p2), .val (.int p3), .val (.int p4), .val (.ref r5)] [(.ref r5), (.ref r0)])) rfl rfl (hb hby d2_28)
  have E_r0_6 := E_r0_5.wr W6
  have F_cla_r0_6 := F_cla_r0_5.other W6 (Or.inr (slot_ne (Or.inr (hw _ (List.mem_of_getElem? (i := 20) rfl))) (Or.inr (hw _ (List.mem_of_getElem? (i := 28) rfl))) (by decide) (t := .int) (t' := (.array .byte)) (by decide) (by decide)))
  have F_ins_r0_6 := F_ins_r0_5.other W6 (Or.inr (slot_ne (Or.inr (hw _ (List.mem_of_getElem? (i := 22) rfl))) (Or.inr (hw _ (List.mem_of_getElem? (i := 28) rfl))) (by decide) (t := .int) (t' := (.array .byte)) (by decide) (by decide)))
  have F_p1_r0_6 := F_p1_r0_5.other W6 (Or.inr (slot_ne (Or.inr (hw _ (List.mem_of_getElem? (i := 24) rfl))) (Or.inr (hw _ (List.mem_of_getElem? (i := 28) rfl))) (by decide) (t := .int) (t' := (.array .byte)) (by decide) (by decide)))
  have F_p2_r0_6 := F_p2_r0_5.other W6 (Or.inr (slot_ne (Or.inr (hw _ (List.mem_of_getElem? (i := 26) rfl))) (Or.inr (hw _ (List.mem_of_getElem? (i := 28) rfl))) (by decide) (t := .int) (t' := (.array .byte)) (by decide) (by decide)))
  have K6 := K5.wr W6 (Or.inl (List.mem_of_getElem? (i := 0) rfl))
  have N6 := Fr.snoc X6 N5 ge_r0
  have Z6 : n0 ≤ h6.size := Nat.le_trans Z5 (Keep.of_wr W6).1
  have F_data_r0_6 := F_data_r0_5.same W6
  refine own_go (fun tg k => st6 tg k) ?_
  show own_Fin _ _ _ _ _ _ _ (T6.setTop (mkF m 31 #[.val (.ref r0), .val (.int p1), .val (.int p2), .val (.int p3), .val (.int p4), .val (.ref r5)] []))
  refine own_retV X6 hx hlk Bd.returns (hb hby d2_31) (Nat.le_of_ble_eq_true rfl) (Nat.le_of_ble_eq_true rfl) ?_
  rw [e6]
  refine ⟨rfl, N6, K6, E_r0_6, ?_, ?_, ?_, ?_, ?_⟩
  · (exact F_cla_r0_6)
  · (exact F_ins_r0_6)
  · (exact F_p1_r0_6)
  · (exact F_p2_r0_6)
  · (exact F_data_r0_6)
theorem d5_0 : decode prog_6_method_3_code 0 = .ok (.iconst 5, 1) := by decide +kernel
theorem d5_1 : decode prog_6_method_3_code 1 = .ok (.newarray .byte, 2) := by decide +kernel
theorem d5_3 : decode prog_6_method_3_code 3 = .ok (.dup, 1) := by decide +kernel
theorem d5_4 : decode prog_6_method_3_code 4 = .ok (.iconst 0, 1) := by decide +kernel
theorem d5_5 : decode prog_6_method_3_code 5 = .ok (.aload_n 0, 1) := by decide +kernel
theorem d5_6 : decode prog_6_method_3_code 6 = .ok (.getfield 7, 3) := by decide +kernel
theorem d5_9 : decode prog_6_method_3_code 9 = .ok (.i2b, 1) := by decide +kernel
theorem d5_10 : decode prog_6_method_3_code 10 = .ok (.bastore, 1) := by decide +kernel
theorem d5_11 : decode prog_6_method_3_code 11 = .ok (.dup, 1) := by decide +kernel
theorem d5_12 : decode prog_6_method_3_code 12 = .ok (.iconst 1, 1) := by decide +kernel
theorem d5_13 : decode prog_6_method_3_code 13 = .ok (.aload_n 0, 1) := by decide +kernel
theorem d5_14 : decode prog_6_method_3_code 14 = .ok (.getfield 13, 3) := by decide +kernel
theorem d5_17 : decode prog_6_method_3_code 17 = .ok (.i2b, 1) := by decide +kernel
theorem d5_18 : decode prog_6_method_3_code 18 = .ok (.bastore, 1) := by decide +kernel
theorem d5_19 : decode prog_6_method_3_code 19 = .ok (.dup, 1) := by decide +kernel
theorem d5_20 : decode prog_6_method_3_code 20 = .ok (.iconst 2, 1) := by decide +kernel
theorem d5_21 : decode prog_6_method_3_code 21 = .ok (.aload_n 0, 1) := by decide +kernel
theorem d5_22 : decode prog_6_method_3_code 22 = .ok (.getfield 16, 3) := by decide +kernel
theorem d5_25 : decode prog_6_method_3_code 25 = .ok (.i2b, 1) := by decide +kernel
theorem d5_26 : decode prog_6_method_3_code 26 = .ok (.bastore, 1) := by decide +kernel
theorem d5_27 : decode prog_6_method_3_code 27 = .ok (.dup, 1) := by decide +kernel
theorem d5_28 : decode prog_6_method_3_code 28 = .ok (.iconst 3, 1) := by decide +kernel
theorem d5_29 : decode prog_6_method_3_code 29 = .ok (.aload_n 0, 1) := by decide +kernel
theorem d5_30 : decode prog_6_method_3_code 30 = .ok (.getfield 19, 3) := by decide +kernel
theorem d5_33 : decode prog_6_method_3_code 33 = .ok (.i2b, 1) := by decide +kernel
theorem d5_34 : decode prog_6_method_3_code 34 = .ok (.bastore, 1) := by decide +kernel
theorem d5_35 : decode prog_6_method_3_code 35 = .ok (.dup, 1) := by decide +kernel
theorem d5_36 : decode prog_6_method_3_code 36 = .ok (.iconst 4, 1) := by decide +kernel
theorem d5_37 : decode prog_6_method_3_code 37 = .ok (.aload_n 0, 1) := by decide +kernel
theorem d5_38 : decode prog_6_method_3_code 38 = .ok (.getfield 22, 3) := by decide +kernel
theorem d5_41 : decode prog_6_method_3_code 41 = .ok (.arraylength, 1) := by decide +kernel
theorem d5_42 : decode prog_6_method_3_code 42 = .ok (.i2b, 1) := by decide +kernel
theorem d5_43 : decode prog_6_method_3_code 43 = .ok (.bastore, 1) := by decide +kernel
theorem d5_44 : decode prog_6_method_3_code 44 = .ok (.areturn, 1) := by decide +kernel
theorem pn_5 : plainName "com/example/duanfu/duanfu/card/CommandApdu" = true := by first | (simp [plainName, overriddenIn]; done) | decide +kernel
theorem ef_5 (m : MethodId) (r0 : Addr) : entryFrame m #[(.ref r0)] 1 = mkF m 0 #[.val (.ref r0)] [] := by first | (simp [entryFrame, mkF, argsToLocals, Value.category]; done) | rfl
def rm5_room : Room := { frames := 0, cells := 1, slots := 5, locals := 0 }
def Qrm5 (Z : State) (r0 : Addr) (x1 : Int32) (x2 : Int32) (x3 : Int32) (x4 : Int32) (xa : Addr) (xn : Int32) (xg : Nat → Int32) (h0 : Heap) (n0 : Nat) (v : Option Value) (h : Heap) (L : List Loc) : Prop := ∃ rb : Addr, v = some (.ref rb) ∧ Fr n0 L ∧ Keep h0 h [] ∧ h0.size ≤ rb ∧ own_Arf Z h rb .byte (5 : Int32) (fun i => .int ((own_set (own_set (own_set (own_set (own_set (fun _ => (0 : Int32)) (0 : Int32) (own_i2b (own_i2b x1))) (1 : Int32) (own_i2b (own_i2b x2))) (2 : Int32) (own_i2b (own_i2b x3))) (3 : Int32) (own_i2b (own_i2b x4))) (4 : Int32) (own_i2b (own_i2b xn))) i))
set_option maxRecDepth 65536 in
set_option maxHeartbeats 40000000 in
theorem rm5 (l : Launch) (Z : State) (a0 : Array Value) (hw : ∀ d ∈ tables_1, d.before a0 Z = true) (ws : List Jvm.Cond) (r0 : Addr) (x1 : Int32) (x2 : Int32) (x3 : Int32) (x4 : Int32) (xa : Addr) (xn : Int32) (xg : Nat → Int32) (h0 : Heap) (n0 : Nat) (Z0 : n0 ≤ h0.size) (F_cla_r0_0 : Fld Z h0 r0 "com/example/duanfu/duanfu/card/CommandApdu" "cla" "I" (.int x1)) (F_ins_r0_0 : Fld Z h0 r0 "com/example/duanfu/duanfu/card/CommandApdu" "ins" "I" (.int x2)) (F_p1_r0_0 : Fld Z h0 r0 "com/example/duanfu/duanfu/card/CommandApdu" "p1" "I" (.int x3)) (F_p2_r0_0 : Fld Z h0 r0 "com/example/duanfu/duanfu/card/CommandApdu" "p2" "I" (.int x4)) (F_data_r0_0 : Fld Z h0 r0 "com/example/duanfu/duanfu/card/CommandApdu" "data" "[B" (.ref xa)) (A_xa_0 : own_Arf Z h0 xa .byte xn (fun i => .int (xg i))) :
    MetFree l (⟨"com/example/duanfu/duanfu/card/CommandApdu", "macHeader", "()[B"⟩ : MethodName) (head1 (Jvm.Cond.code (⟨"com/example/duanfu/duanfu/card/CommandApdu", "macHeader", "()[B"⟩ : MethodName) prog_6_method_3_code 1 (some (.array .byte)) :: ws) rm5_room) (fun a U => a = #[(.ref r0)] ∧ Z.Warmed39 U.vm ∧ U.heap = h0) (fun _ _ _ _ _ => True) (fun _ U o U' => ∃ v L, o = .returned v ∧ Qrm5 Z r0 x1 x2 x3 x4 xa xn xg h0 n0 v U'.heap L ∧ FrameEnd U o U' L rm5_room.cells rm5_room.slots) := by
  refine MetFree.of_bodySF (plainFor_of_name pn_5) hisR ?_
  intro p e s m args below meth c s₁ Bd hml0 hP hK
  obtain ⟨rfl, hZ, hh⟩ := hP
  have hx := Bd.exec
  have hby := Bd.bytes
  have hml : c.maxLocals = 1 := hml0
  have hown : s.vm.findClass "com/example/duanfu/duanfu/card/CommandApdu" = some m.cls := findClass_of_methodNamed Bd.named
  have hnm := (name_of_methodNamed Bd.named Bd.method).1
  have hlk : meth.locks = false := BodyLoose.notSynchronized Bd
  have X0 : Stand p l e rm5_room s m #[(.ref r0)] below meth c s₁ [] 0 0 := Stand.of_body Bd
  have e0 : s₁.heap = h0 := by rw [← hh, Bd.state]; rfl
  have N0 := Fr.nil n0
  show own_Fin p.tables e below s (Qrm5 Z r0 x1 x2 x3 x4 xa xn xg h0 n0) rm5_room.cells rm5_room.slots (s₁.setTop (entryFrame m #[(.ref r0)] 1))
  rw [ef_5]
  show own_Fin _ _ _ _ _ _ _ (s₁.setTop (mkF m 0 #[.val (.ref r0)] []))
  have K0 := Keep.refl h0 []
  refine own_go (fun _ k => XS.iconst X0.here hx rfl (hb hby d5_0) k) ?_
  show own_Fin _ _ _ _ _ _ _ (s₁.setTop (mkF m 1 #[.val (.ref r0)] [(.int (5 : Int32))]))
  obtain ⟨T1, h1, k1, X1, e1, E1, A1, st1⟩ := newP X0 hx hZ (hw _ (List.mem_of_getElem? (i := 4) rfl)) e0 (g := (mkF m 1 #[.val (.ref r0)] [(.int (5 : Int32))])) rfl (hb hby d5_1) rfl (by decide) (cap := 5) (by decide) (by decide) (by decide) (by decide)
  obtain ⟨b1, g1⟩ : ∃ z, z = h0.size := ⟨_, rfl⟩
  rw [← g1] at A1 st1
  have ne_r0_b1 : r0 ≠ b1 := Nat.ne_of_lt (Nat.lt_of_lt_of_le F_cla_r0_0.lt (Nat.le_of_eq g1.symm))
  have ne_xa_b1 : xa ≠ b1 := Nat.ne_of_lt (Nat.lt_of_lt_of_le A_xa_0.lt (Nat.le_of_eq g1.symm))
  have ge_b1 : n0 ≤ b1 := Nat.le_trans Z0 (Nat.le_of_eq g1.symm)
  have sz_b1 : h0.size ≤ b1 := Nat.le_trans K0.1 (Nat.le_of_eq g1.symm)
  have F_cla_r0_1 := F_cla_r0_0.ext E1
  have F_ins_r0_1 := F_ins_r0_0.ext E1
  have F_p1_r0_1 := F_p1_r0_0.ext E1
  have F_p2_r0_1 := F_p2_r0_0.ext E1
  have F_data_r0_1 := F_data_r0_0.ext E1
  have A_xa_1 := A_xa_0.ext E1
  have K1 := K0.ext E1
  have Z1 : n0 ≤ h1.size := Nat.le_trans Z0 E1.1
  have A_b1_1 : own_Arf Z h1 b1 .byte (5 : Int32) (fun i => .int ((fun _ => (0 : Int32)) i)) := own_Arf.new A1 (by decide)
  refine own_go (fun tg k => st1 tg k) ?_
  show own_Fin _ _ _ _ _ _ _ (T1.setTop (mkF m 3 #[.val (.ref r0)] [(.ref b1)]))
  refine own_go (fun _ k => XS.dup X1.here hx rfl (hb hby d5_3) rfl rfl k) ?_
  show own_Fin _ _ _ _ _ _ _ (T1.setTop (mkF m 4 #[.val (.ref r0)] [(.ref b1), (.ref b1)]))
  refine own_go (fun _ k => XS.iconst X1.here hx rfl (hb hby d5_4) k) ?_
  show own_Fin _ _ _ _ _ _ _ (T1.setTop (mkF m 5 #[.val (.ref r0)] [(.int (0 : Int32)), (.ref b1), (.ref b1)]))
  refine own_go (fun _ k => XS.aloadN X1.here hx rfl (hb hby d5_5) rfl rfl k) ?_
  show own_Fin _ _ _ _ _ _ _ (T1.setTop (mkF m 6 #[.val (.ref r0)] [(.ref r0), (.int (0 : Int32)), (.ref b1), (.ref b1)]))
  obtain ⟨T2, X2, e2, st2⟩ := getF X1 hx hZ hown (host := "") (Or.inl (hw _ (List.mem_of_getElem? (i := 19) rfl))) Via.refl e1 F_cla_r0_1 (g := (mkF m 6 #[.val (.ref r0)] [(.ref r0), (.int (0 : Int32)), (.ref b1), (.ref b1)])) rfl rfl (hb hby d5_6)
  refine own_go (fun tg k => st2 tg k) ?_
  show own_Fin _ _ _ _ _ _ _ (T2.setTop (mkF m 9 #[.val (.ref r0)] [(.int x1), (.int (0 : Int32)), (.ref b1), (.ref b1)]))
  refine own_go (fun _ k => XS.i2b X2.here hx rfl (hb hby d5_9) rfl k) ?_
  show own_Fin _ _ _ _ _ _ _ (T2.setTop (mkF m 10 #[.val (.ref r0)] [(.int (own_i2b x1)), (.int (0 : Int32)), (.ref b1), (.ref b1)]))
  obtain ⟨T3, h3, X3, e3, W3, A_b1_3, st3⟩ := own_stB X2 hx hZ e2 A_b1_1 (j := (0 : Int32)) ⟨by decide, by decide⟩ (g := (mkF m 10 #[.val (.ref r0)] [(.int (own_i2b x1)), (.int (0 : Int32)), (.ref b1), (.ref b1)])) rfl rfl (hb hby d5_10)
  have F_cla_r0_3 := F_cla_r0_1.other W3 (Or.inl ne_r0_b1)
  have F_ins_r0_3 := F_ins_r0_1.other W3 (Or.inl ne_r0_b1)
  have F_p1_r0_3 := F_p1_r0_1.other W3 (Or.inl ne_r0_b1)
  have F_p2_r0_3 := F_p2_r0_1.other W3 (Or.inl ne_r0_b1)
  have F_data_r0_3 := F_data_r0_1.other W3 (Or.inl ne_r0_b1)
  have A_xa_3 := A_xa_1.other W3 ne_xa_b1
  have K3 := K1.wr W3 (Or.inr sz_b1)
  have N3 := Fr.snoc X3 N0 ge_b1
  have Z3 : n0 ≤ h3.size := Nat.le_trans Z1 (Keep.of_wr W3).1
  obtain ⟨f3, hf3⟩ : ∃ z, z = (own_set (fun _ => (0 : Int32)) (0 : Int32) (own_i2b (own_i2b x1))) := ⟨_, rfl⟩
  rw [← hf3] at A_b1_3
  refine own_go (fun tg k => st3 tg k) ?_
  show own_Fin _ _ _ _ _ _ _ (T3.setTop (mkF m 11 #[.val (.ref r0)] [(.ref b1)]))
  refine own_go (fun _ k => XS.dup X3.here hx rfl (hb hby d5_11) rfl rfl k) ?_
  show own_Fin _ _ _ _ _ _ _ (T3.setTop (mkF m 12 #[.val (.ref r0)] [(.ref b1), (.ref b1)]))
  refine own_go (fun _ k => XS.iconst X3.here hx rfl (hb hby d5_12) k) ?_
  show own_Fin _ _ _ _ _ _ _ (T3.setTop (mkF m 13 #[.val (.ref r0)] [(.int (1 : Int32)), (.ref b1), (.ref b1)]))
  refine own_go (fun _ k => XS.aloadN X3.here hx rfl (hb hby d5_13) rfl rfl k) ?_
  show own_Fin _ _ _ _ _ _ _ (T3.setTop (mkF m 14 #[.val (.ref r0)] [(.ref r0), (.int (1 : Int32)), (.ref b1), (.ref b1)]))
  obtain ⟨T4, X4, e4, st4⟩ := getF X3 hx hZ hown (host := "") (Or.inl (hw _ (List.mem_of_getElem? (i := 21) rfl))) Via.refl e3 F_ins_r0_3 (g := (mkF m 14 #[.val (.ref r0)] [(.ref r0), (.int (1 : Int32)), (.ref b1), (.ref b1)])) rfl rfl (hb hby d5_14)
  refine own_go (fun tg k => st4 tg k) ?_
  show own_Fin _ _ _ _ _ _ _ (T4.setTop (mkF m 17 #[.val (.ref r0)] [(.int x2), (.int (1 : Int32)), (.ref b1), (.ref b1)]))
  refine own_go (fun _ k => XS.i2b X4.here hx rfl (hb hby d5_17) rfl k) ?_
  show own_Fin _ _ _ _ _ _ _ (T4.setTop (mkF m 18 #[.val (.ref r0)] [(.int (own_i2b x2)), (.int (1 : Int32)), (.ref b1), (.ref b1)]))
  obtain ⟨T5, h5, X5, e5, W5, A_b1_5, st5⟩ := own_stB X4 hx hZ e4 A_b1_3 (j := (1 : Int32)) ⟨by decide, by decide⟩ (g := (mkF m 18 #[.val (.ref r0)] [(.int (own_i2b x2)), (.int (1 : Int32)), (.ref b1), (.ref b1)])) rfl rfl (hb hby d5_18)
  have F_cla_r0_5 := F_cla_r0_3.other W5 (Or.inl ne_r0_b1)
  have F_ins_r0_5 := F_ins_r0_3.other W5 (Or.inl ne_r0_b1)
  have F_p1_r0_5 := F_p1_r0_3.other W5 (Or.inl ne_r0_b1)
  have F_p2_r0_5 := F_p2_r0_3.other W5 (Or.inl ne_r0_b1)
  have F_data_r0_5 := F_data_r0_3.other W5 (Or.inl ne_r0_b1)
  have A_xa_5 := A_xa_3.other W5 ne_xa_b1
  have K5 := K3.wr W5 (Or.inr sz_b1)
  have N5 := Fr.snoc X5 N3 ge_b1
  have Z5 : n0 ≤ h5.size := Nat.le_trans Z3 (Keep.of_wr W5).1
  obtain ⟨f5, hf5⟩ : ∃ z, z = (own_set f3 (1 : Int32) (own_i2b (own_i2b x2))) := ⟨_, rfl⟩
  rw [← hf5] at A_b1_5
  refine own_go (fun tg k => st5 tg k) ?_
  show own_Fin _ _ _ _ _ _ _ (T5.setTop (mkF m 19 #[.val (.ref r0)] [(.ref b1)]))
  refine own_go (fun _ k => XS.dup X5.here hx rfl (hb hby d5_19) rfl rfl k) ?_
  show own_Fin _ _ _ _ _ _ _ (T5.setTop (mkF m 20 #[.val (.ref r0)] [(.ref b1), (.ref b1)]))
  refine own_go (fun _ k => XS.iconst X5.here hx rfl (hb hby d5_20) k) ?_
  show own_Fin _ _ _ _ _ _ _ (T5.setTop (mkF m 21 #[.val (.ref r0)] [(.int (2 : Int32)), (.ref b1), (.ref b1)]))
  refine own_go (fun _ k => XS.aloadN X5.here hx rfl (hb hby d5_21) rfl rfl k) ?_
  show own_Fin _ _ _ _ _ _ _ (T5.setTop (mkF m 22 #[.val (.ref r0)] [(.ref r0), (.int (2 : Int32)), (.ref b1), (.ref b1)]))
  obtain ⟨T6, X6, e6, st6⟩ := getF X5 hx hZ hown (host := "") (Or.inl (hw _ (List.mem_of_getElem? (i := 23) rfl))) Via.refl e5 F_p1_r0_5 (g := (mkF m 22 #[.val (.ref r0)] [(.ref r0), (.int (2 : Int32)), (.ref b1), (.ref b1)])) rfl rfl (hb hby d5_22)
  refine own_go (fun tg k => st6 tg k) ?_
  show own_Fin _ _ _ _ _ _ _ (T6.setTop (mkF m 25 #[.val (.ref r0)] [(.int x3), (.int (2 : Int32)), (.ref b1), (.ref b1)]))
  refine own_go (fun _ k => XS.i2b X6.here hx rfl (hb hby d5_25) rfl k) ?_
  show own_Fin _ _ _ _ _ _ _ (T6.setTop (mkF m 26 #[.val (.ref r0)] [(.int (own_i2b x3)), (.int (2 : Int32)), (.ref b1), (.ref b1)]))
  obtain ⟨T7, h7, X7, e7, W7, A_b1_7, st7⟩ := own_stB X6 hx hZ e6 A_b1_5 (j := (2 : Int32)) ⟨by decide, by decide⟩ (g := (mkF m 26 #[.val (.ref r0)] [(.int (own_i2b x3)), (.int (2 : Int32)), (.ref b1), (.ref b1)])) rfl rfl (hb hby d5_26)
  have F_cla_r0_7 := F_cla_r0_5.other W7 (Or.inl ne_r0_b1)
  have F_ins_r0_7 := F_ins_r0_5.other W7 (Or.inl ne_r0_b1)
  have F_p1_r0_7 := F_p1_r0_5.other W7 (Or.inl ne_r0_b1)
  have F_p2_r0_7 := F_p2_r0_5.other W7 (Or.inl ne_r0_b1)
  have F_data_r0_7 := F_data_r0_5.other W7 (Or.inl ne_r0_b1)
  have A_xa_7 := A_xa_5.other W7 ne_xa_b1
  have K7 := K5.wr W7 (Or.inr sz_b1)
  have N7 := Fr.snoc X7 N5 ge_b1
  have Z7 : n0 ≤ h7.size := Nat.le_trans Z5 (Keep.of_wr W7).1
  obtain ⟨f7, hf7⟩ : ∃ z, z = (own_set f5 (2 : Int32) (own_i2b (own_i2b x3))) := ⟨_, rfl⟩
  rw [← hf7] at A_b1_7
  refine own_go (fun tg k => st7 tg k) ?_
  show own_Fin _ _ _ _ _ _ _ (T7.setTop (mkF m 27 #[.val (.ref r0)] [(.ref b1)]))
  refine own_go (fun _ k => XS.dup X7.here hx rfl (hb hby d5_27) rfl rfl k) ?_
  show own_Fin _ _ _ _ _ _ _ (T7.setTop (mkF m 28 #[.val (.ref r0)] [(.ref b1), (.ref b1)]))
  refine own_go (fun _ k => XS.iconst X7.here hx rfl (hb hby d5_28) k) ?_
  show own_Fin _ _ _ _ _ _ _ (T7.setTop (mkF m 29 #[.val (.ref r0)] [(.int (3 : Int32)), (.ref b1), (.ref b1)]))
  refine own_go (fun _ k => XS.aloadN X7.here hx rfl (hb hby d5_29) rfl rfl k) ?_
  show own_Fin _ _ _ _ _ _ _ (T7.setTop (mkF m 30 #[.val (.ref r0)] [(.ref r0), (.int (3 : Int32)), (.ref b1), (.ref b1)]))
  obtain ⟨T8, X8, e8, st8⟩ := getF X7 hx hZ hown (host := "") (Or.inl (hw _ (List.mem_of_getElem? (i := 25) rfl))) Via.refl e7 F_p2_r0_7 (g := (mkF m 30 #[.val (.ref r0)] [(.ref r0), (.int (3 : Int32)), (.ref b1), (.ref b1)])) rfl rfl (hb hby d5_30)
  refine own_go (fun tg k => st8 tg k) ?_
  show own_Fin _ _ _ _ _ _ _ (T8.setTop (mkF m 33 #[.val (.ref r0)] [(.int x4), (.int (3 : Int32)), (.ref b1), (.ref b1)]))
  refine own_go (fun _ k => XS.i2b X8.here hx rfl (hb hby d5_33) rfl k) ?_
  show own_Fin _ _ _ _ _ _ _ (T8.setTop (mkF m 34 #[.val (.ref r0)] [(.int (own_i2b x4)), (.int (3 : Int32)), (.ref b1), (.ref b1)]))
  obtain ⟨T9, h9, X9, e9, W9, A_b1_9, st9⟩ := own_stB X8 hx hZ e8 A_b1_7 (j := (3 : Int32)) ⟨by decide, by decide⟩ (g := (mkF m 34 #[.val (.ref r0)] [(.int (own_i2b x4)), (.int (3 : Int32)), (.ref b1), (.ref b1)])) rfl rfl (hb hby d5_34)
  have F_cla_r0_9 := F_cla_r0_7.other W9 (Or.inl ne_r0_b1)
  have F_ins_r0_9 := F_ins_r0_7.other W9 (Or.inl ne_r0_b1)
  have F_p1_r0_9 := F_p1_r0_7.other W9 (Or.inl ne_r0_b1)
  have F_p2_r0_9 := F_p2_r0_7.other W9 (Or.inl ne_r0_b1)
  have F_data_r0_9 := F_data_r0_7.other W9 (Or.inl ne_r0_b1)
  have A_xa_9 := A_xa_7.other W9 ne_xa_b1
  have K9 := K7.wr W9 (Or.inr sz_b1)
  have N9 := Fr.snoc X9 N7 ge_b1
  have Z9 : n0 ≤ h9.size := Nat.le_trans Z7 (Keep.of_wr W9).1
  obtain ⟨f9, hf9⟩ : ∃ z, z = (own_set f7 (3 : Int32) (own_i2b (own_i2b x4))) := ⟨_, rfl⟩
  rw [← hf9] at A_b1_9
  refine own_go (fun tg k => st9 tg k) ?_
  show own_Fin _ _ _ _ _ _ _ (T9.setTop (mkF m 35 #[.val (.ref r0)] [(.ref b1)]))
  refine own_go (fun _ k => XS.dup X9.here hx rfl (hb hby d5_35) rfl rfl k) ?_
  show own_Fin _ _ _ _ _ _ _ (T9.setTop (mkF m 36 #[.val (.ref r0)] [(.ref b1), (.ref b1)]))
  refine own_go (fun _ k => XS.iconst X9.here hx rfl (hb hby d5_36) k) ?_
  show own_Fin _ _ _ _ _ _ _ (T9.setTop (mkF m 37 #[.val (.ref r0)] [(.int (4 : Int32)), (.ref b1), (.ref b1)]))
  refine own_go (fun _ k => XS.aloadN X9.here hx rfl (hb hby d5_37) rfl rfl k) ?_
  show own_Fin _ _ _ _ _ _ _ (T9.setTop (mkF m 38 #[.val (.ref r0)] [(.ref r0), (.int (4 : Int32)), (.ref b1), (.ref b1)]))
  obtain ⟨T10, X10, e10, st10⟩ := getF X9 hx hZ hown (host := "") (Or.inl (hw _ (List.mem_of_getElem? (i := 27) rfl))) Via.refl e9 F_data_r0_9 (g := (mkF m 38 #[.val (.ref r0)] [(.ref r0), (.int (4 : Int32)), (.ref b1), (.ref b1)])) rfl rfl (hb hby d5_38)
  refine own_go (fun tg k => st10 tg k) ?_
  show own_Fin _ _ _ _ _ _ _ (T10.setTop (mkF m 41 #[.val (.ref r0)] [(.ref xa), (.int (4 : Int32)), (.ref b1), (.ref b1)]))
  refine own_go (fun tg k => own_alen X10 hx hZ e10 A_xa_9 (g := (mkF m 41 #[.val (.ref r0)] [(.ref xa), (.int (4 : Int32)), (.ref b1), (.ref b1)])) rfl rfl (hb hby d5_41) tg k) ?_
  show own_Fin _ _ _ _ _ _ _ (T10.setTop (mkF m 42 #[.val (.ref r0)] [(.int xn), (.int (4 : Int32)), (.ref b1), (.ref b1)]))
  refine own_go (fun _ k => XS.i2b X10.here hx rfl (hb hby d5_42) rfl k) ?_
  show own_Fin _ _ _ _ _ _ _ (T10.setTop (mkF m 43 #[.val (.ref r0)] [(.int (own_i2b xn)), (.int (4 : Int32)), (.ref b1), (.ref b1)]))
  obtain ⟨T11, h11, X11, e11, W11, A_b1_11, st11⟩ := own_stB X10 hx hZ e10 A_b1_9 (j := (4 : Int32)) ⟨by decide, by decide⟩ (g := (mkF m 43 #[.val (.ref r0)] [(.int (own_i2b xn)), (.int (4 : Int32)), (.ref b1), (.ref b1)])) rfl rfl (hb hby d5_43)
  have F_cla_r0_11 := F_cla_r0_9.other W11 (Or.inl ne_r0_b1)
  have F_ins_r0_11 := F_ins_r0_9.other W11 (Or.inl ne_r0_b1)
  have F_p1_r0_11 := F_p1_r0_9.other W11 (Or.inl ne_r0_b1)
  have F_p2_r0_11 := F_p2_r0_9.other W11 (Or.inl ne_r0_b1)
  have F_data_r0_11 := F_data_r0_9.other W11 (Or.inl ne_r0_b1)
  have A_xa_11 := A_xa_9.other W11 ne_xa_b1
  have K11 := K9.wr W11 (Or.inr sz_b1)
  have N11 := Fr.snoc X11 N9 ge_b1
  have Z11 : n0 ≤ h11.size := Nat.le_trans Z9 (Keep.of_wr W11).1
  obtain ⟨f11, hf11⟩ : ∃ z, z = (own_set f9 (4 : Int32) (own_i2b (own_i2b xn))) := ⟨_, rfl⟩
  rw [← hf11] at A_b1_11
  refine own_go (fun tg k => st11 tg k) ?_
  show own_Fin _ _ _ _ _ _ _ (T11.setTop (mkF m 44 #[.val (.ref r0)] [(.ref b1)]))
  refine own_ret X11 hx hlk Bd.returns rfl (Or.inr (Or.inr (Or.inr (Or.inr ⟨rfl, rfl, rfl⟩)))) (hb hby d5_44) (Nat.le_of_ble_eq_true rfl) (Nat.le_of_ble_eq_true rfl) ?_
  try subst hf11
  try subst hf9
  try subst hf7
  try subst hf5
  try subst hf3
  rw [e11]
  refine ⟨b1, ?_, N11, K11, sz_b1, ?_⟩
  · rfl
  · (exact A_b1_11)
theorem own_len (x : Int32) : 0 ≤ (own_f1 x).toInt ∧ (own_f1 x).toInt ≤ 255 := by
  simp only [own_f1]
  repeat' split
  all_goals decide
theorem own_len0 (x : Int32) : ¬ own_f1 x < 0 := by
  rw [Int32.lt_iff_toInt_lt, show (0 : Int32).toInt = 0 from by decide]; have := own_len x; omega
theorem own_len1 (x : Int32) : (own_f1 x).toNatClampNeg ≤ 255 := by
  have := own_len x; simp only [Int32.toNatClampNeg]; omega
theorem own_pd80 : parseMethodDescriptor "(I)I" = some ⟨[.int], some .int⟩ := by decide +kernel
theorem own_pd81 : parseMethodDescriptor "(IIII[B)V" = some ⟨[.int, .int, .int, .int, (.array .byte)], none⟩ := by decide +kernel
theorem own_pd82 : parseMethodDescriptor "()[B" = some ⟨[], some (.array .byte)⟩ := by decide +kernel
theorem pn_0 : plainName "com/example/duanfu/duanfu/card/CommandApduMacHeaderPinLaw" = true := by first | (simp [plainName, overriddenIn]; done) | decide +kernel
theorem ef_0 (m : MethodId) (p0 : Int32) (p1 : Int32) (p2 : Int32) (p3 : Int32) (p4 : Int32) : entryFrame m #[(.int p0), (.int p1), (.int p2), (.int p3), (.int p4)] maxLocals = mkF m 0 #[.val (.int p0), .val (.int p1), .val (.int p2), .val (.int p3), .val (.int p4), .unset, .unset, .unset, .unset] [] := by first | (simp [entryFrame, mkF, argsToLocals, Value.category, maxLocals]; done) | rfl
def own_f0 (p0 : Int32) (p1 : Int32) (p2 : Int32) (p3 : Int32) (p4 : Int32) : Int32 := (if (((own_set (own_set (own_set (own_set (own_set (fun _ => (0 : Int32)) (0 : Int32) (own_i2b (own_i2b p0))) (1 : Int32) (own_i2b (own_i2b p1))) (2 : Int32) (own_i2b (own_i2b p2))) (3 : Int32) (own_i2b (own_i2b p3))) (4 : Int32) (own_i2b (own_i2b (own_f1 p4)))) 0) &&& (255 : Int32)) = (p0 &&& (255 : Int32)) then ((if (((own_set (own_set (own_set (own_set (own_set (fun _ => (0 : Int32)) (0 : Int32) (own_i2b (own_i2b p0))) (1 : Int32) (own_i2b (own_i2b p1))) (2 : Int32) (own_i2b (own_i2b p2))) (3 : Int32) (own_i2b (own_i2b p3))) (4 : Int32) (own_i2b (own_i2b (own_f1 p4)))) 1) &&& (255 : Int32)) = (p1 &&& (255 : Int32)) then ((if (((own_set (own_set (own_set (own_set (own_set (fun _ => (0 : Int32)) (0 : Int32) (own_i2b (own_i2b p0))) (1 : Int32) (own_i2b (own_i2b p1))) (2 : Int32) (own_i2b (own_i2b p2))) (3 : Int32) (own_i2b (own_i2b p3))) (4 : Int32) (own_i2b (own_i2b (own_f1 p4)))) 2) &&& (255 : Int32)) = (p2 &&& (255 : Int32)) then ((if (((own_set (own_set (own_set (own_set (own_set (fun _ => (0 : Int32)) (0 : Int32) (own_i2b (own_i2b p0))) (1 : Int32) (own_i2b (own_i2b p1))) (2 : Int32) (own_i2b (own_i2b p2))) (3 : Int32) (own_i2b (own_i2b p3))) (4 : Int32) (own_i2b (own_i2b (own_f1 p4)))) 3) &&& (255 : Int32)) = (p3 &&& (255 : Int32)) then ((if (((own_set (own_set (own_set (own_set (own_set (fun _ => (0 : Int32)) (0 : Int32) (own_i2b (own_i2b p0))) (1 : Int32) (own_i2b (own_i2b p1))) (2 : Int32) (own_i2b (own_i2b p2))) (3 : Int32) (own_i2b (own_i2b p3))) (4 : Int32) (own_i2b (own_i2b (own_f1 p4)))) 4) &&& (255 : Int32)) = (own_f1 p4) then ((1 : Int32)) else ((0 : Int32)))) else ((0 : Int32)))) else ((0 : Int32)))) else ((0 : Int32)))) else ((0 : Int32)))
set_option maxRecDepth 65536 in
set_option maxHeartbeats 40000000 in
theorem rm0 (l : Launch) (Z : State) (a0 : Array Value) (hw : ∀ d ∈ tables_1, d.before a0 Z = true) (ws : List Jvm.Cond) (p0 : Int32) (p1 : Int32) (p2 : Int32) (p3 : Int32) (p4 : Int32) (h0 : Heap) (n0 : Nat) (Z0 : n0 ≤ h0.size) :
    MetFree l x (head1 (Jvm.Cond.code x code maxLocals ret :: ws) room_1) (fun a U => a = #[(.int p0), (.int p1), (.int p2), (.int p3), (.int p4)] ∧ Z.Warmed39 U.vm ∧ U.heap = h0) (fun _ _ _ _ _ => True) (fun _ U o U' => ∃ v L, o = .returned v ∧ own_QL (some (.int (own_f0 p0 p1 p2 p3 p4))) n0 v U'.heap L ∧ FrameEnd U o U' L 16 640) := by
  refine MetFree.of_bodySF (plainFor_of_name pn_0) hisR ?_
  intro p e s m args below meth c s₁ Bd hml0 hP hK
  obtain ⟨rfl, hZ, hh⟩ := hP
  have hx := Bd.exec
  have hby := Bd.bytes
  have hml : c.maxLocals = 9 := hml0
  have hown : s.vm.findClass "com/example/duanfu/duanfu/card/CommandApduMacHeaderPinLaw" = some m.cls := findClass_of_methodNamed Bd.named
  have hnm := (name_of_methodNamed Bd.named Bd.method).1
  have hlk : meth.locks = false := BodyLoose.notSynchronized Bd
  have X0 : Stand p l e room_1 s m #[(.int p0), (.int p1), (.int p2), (.int p3), (.int p4)] below meth c s₁ [] 0 0 := Stand.of_body Bd
  have e0 : s₁.heap = h0 := by rw [← hh, Bd.state]; rfl
  have N0 := Fr.nil n0
  show own_Fin p.tables e below s (own_QL (some (.int (own_f0 p0 p1 p2 p3 p4))) n0) 16 640 (s₁.setTop (entryFrame m #[(.int p0), (.int p1), (.int p2), (.int p3), (.int p4)] maxLocals))
  rw [ef_0]
  show own_Fin _ _ _ _ _ _ _ (s₁.setTop (mkF m 0 #[.val (.int p0), .val (.int p1), .val (.int p2), .val (.int p3), .val (.int p4), .unset, .unset, .unset, .unset] []))
  refine own_go (fun _ k => XS.iload X0.here hx rfl (hb hby at_0) rfl k) ?_
  show own_Fin _ _ _ _ _ _ _ (s₁.setTop (mkF m 2 #[.val (.int p0), .val (.int p1), .val (.int p2), .val (.int p3), .val (.int p4), .unset, .unset, .unset, .unset] [(.int p4)]))
  obtain ⟨_, _, ⟨T1, L1, k1, n1⟩, -, X1, ⟨Lc1, hQ1, l1, y1, z1⟩, st1⟩ := Jvm.LawKit.callS X0 hx (y := (⟨"com/example/duanfu/duanfu/card/CommandApduMacHeaderPinLaw", "pickLength", "(I)I"⟩ : MethodName)) hown (mvT hZ (hw _ (List.mem_of_getElem? (i := 0) rfl))) (mvT hZ (hw _ (List.mem_of_getElem? (i := 1) rfl))) (mvT hZ (hw _ (List.mem_of_getElem? (i := 2) rfl))) (mvT hZ (hw _ (List.mem_of_getElem? (i := 3) rfl))) (by decide) (backOf (W := 0) (rm1 l Z a0 hw [] p4 h0 n0 Z0) hZ (hw _ (List.mem_of_getElem? (i := 3) rfl)) (hw _ (List.mem_of_getElem? (i := 2) rfl)) (by decide) (by decide)) (g := (mkF m 2 #[.val (.int p0), .val (.int p1), .val (.int p2), .val (.int p3), .val (.int p4), .unset, .unset, .unset, .unset] [(.int p4)])) rfl (by rw [hml]; rfl) (argsL := [(.int p4)]) (rest := []) (lenOf own_pd80 rfl) rfl (by show 2 * 0 + _ ≤ _; exact Nat.le_of_eq rfl) (hb hby at_2) (fun _ _ => ⟨rfl, e0, (by decide : 0 + 0 ≤ _), (by decide : 0 + 0 ≤ _)⟩)
  dsimp only [Pt.U, Pt.locs, Pt.cells, Pt.slots] at X1 l1 y1 z1 st1 hQ1
  subst l1 y1 z1
  obtain ⟨rfl, N1q, e1⟩ := hQ1
  have N1 := Fr.app N0 N1q
  refine own_go (fun tg k => st1 tg k) ?_
  show own_Fin _ _ _ _ _ _ _ (T1.setTop (mkF m 5 #[.val (.int p0), .val (.int p1), .val (.int p2), .val (.int p3), .val (.int p4), .unset, .unset, .unset, .unset] [(.int (own_f1 p4))]))
  refine own_go (fun _ k => XS.istore X1.here hx rfl (hb hby at_5) rfl (l' := #[.val (.int p0), .val (.int p1), .val (.int p2), .val (.int p3), .val (.int p4), .val (.int (own_f1 p4)), .unset, .unset, .unset]) rfl k) ?_
  show own_Fin _ _ _ _ _ _ _ (T1.setTop (mkF m 7 #[.val (.int p0), .val (.int p1), .val (.int p2), .val (.int p3), .val (.int p4), .val (.int (own_f1 p4)), .unset, .unset, .unset] []))
  refine own_go (fun _ k => XS.iload X1.here hx rfl (hb hby at_7) rfl k) ?_
  show own_Fin _ _ _ _ _ _ _ (T1.setTop (mkF m 9 #[.val (.int p0), .val (.int p1), .val (.int p2), .val (.int p3), .val (.int p4), .val (.int (own_f1 p4)), .unset, .unset, .unset] [(.int (own_f1 p4))]))
  obtain ⟨T2, h2, k2, X2, e2, E2, A2, st2⟩ := newP X1 hx hZ (hw _ (List.mem_of_getElem? (i := 4) rfl)) e1 (g := (mkF m 9 #[.val (.int p0), .val (.int p1), .val (.int p2), .val (.int p3), .val (.int p4), .val (.int (own_f1 p4)), .unset, .unset, .unset] [(.int (own_f1 p4))])) rfl (hb hby at_9) rfl (own_len0 _) (cap := 255) (own_len1 _) (by decide) (by decide) (by decide)
  obtain ⟨b2, g2⟩ : ∃ z, z = h0.size := ⟨_, rfl⟩
  rw [← g2] at A2 st2
  have ge_b2 : n0 ≤ b2 := Nat.le_trans Z0 (Nat.le_of_eq g2.symm)
  have Z2 : n0 ≤ h2.size := Nat.le_trans Z0 E2.1
  have A_b2_2 : own_Arf Z h2 b2 .byte (own_f1 p4) (fun i => .int ((fun _ => (0 : Int32)) i)) := own_Arf.new A2 (own_len0 _)
  refine own_go (fun tg k => st2 tg k) ?_
  show own_Fin _ _ _ _ _ _ _ (T2.setTop (mkF m 11 #[.val (.int p0), .val (.int p1), .val (.int p2), .val (.int p3), .val (.int p4), .val (.int (own_f1 p4)), .unset, .unset, .unset] [(.ref b2)]))
  refine own_go (fun _ k => XS.astore X2.here hx rfl (hb hby at_11) rfl rfl (l' := #[.val (.int p0), .val (.int p1), .val (.int p2), .val (.int p3), .val (.int p4), .val (.int (own_f1 p4)), .val (.ref b2), .unset, .unset]) rfl k) ?_
  show own_Fin _ _ _ _ _ _ _ (T2.setTop (mkF m 13 #[.val (.int p0), .val (.int p1), .val (.int p2), .val (.int p3), .val (.int p4), .val (.int (own_f1 p4)), .val (.ref b2), .unset, .unset] []))
  obtain ⟨T3, h3, X3, e3, E3, A3, D3, -, st3⟩ := newO X2 hx hZ hown (hw _ (List.mem_of_getElem? (i := 5) rfl)) (hw _ (List.mem_of_getElem? (i := 6) rfl)) (hw _ (List.mem_of_getElem? (i := 7) rfl)) e2 (g := (mkF m 13 #[.val (.int p0), .val (.int p1), .val (.int p2), .val (.int p3), .val (.int p4), .val (.int (own_f1 p4)), .val (.ref b2), .unset, .unset] [])) rfl (hb hby at_13) (by decide) (by decide)
  obtain ⟨b3, g3⟩ : ∃ z, z = h2.size := ⟨_, rfl⟩
  rw [← g3] at A3 D3 st3
  have ne_b2_b3 : b2 ≠ b3 := Nat.ne_of_lt (Nat.lt_of_lt_of_le A_b2_2.lt (Nat.le_of_eq g3.symm))
  have ge_b3 : n0 ≤ b3 := Nat.le_trans Z2 (Nat.le_of_eq g3.symm)
  have A_b2_3 := A_b2_2.ext E3
  have Z3 : n0 ≤ h3.size := Nat.le_trans Z2 E3.1
  have E_b3_3 : Exa Z h3 b3 "com/example/duanfu/duanfu/card/CommandApdu" := A3
  have F_cla_b3_3 : Fld Z h3 b3 "com/example/duanfu/duanfu/card/CommandApdu" "cla" "I" (.int (0 : Int32)) := D3 (Or.inr (hw _ (List.mem_of_getElem? (i := 20) rfl))) (ty := .int) (by decide)
  have F_ins_b3_3 : Fld Z h3 b3 "com/example/duanfu/duanfu/card/CommandApdu" "ins" "I" (.int (0 : Int32)) := D3 (Or.inr (hw _ (List.mem_of_getElem? (i := 22) rfl))) (ty := .int) (by decide)
  have F_p1_b3_3 : Fld Z h3 b3 "com/example/duanfu/duanfu/card/CommandApdu" "p1" "I" (.int (0 : Int32)) := D3 (Or.inr (hw _ (List.mem_of_getElem? (i := 24) rfl))) (ty := .int) (by decide)
  have F_p2_b3_3 : Fld Z h3 b3 "com/example/duanfu/duanfu/card/CommandApdu" "p2" "I" (.int (0 : Int32)) := D3 (Or.inr (hw _ (List.mem_of_getElem? (i := 26) rfl))) (ty := .int) (by decide)
  have F_data_b3_3 : Fld Z h3 b3 "com/example/duanfu/duanfu/card/CommandApdu" "data" "[B" .null := D3 (Or.inr (hw _ (List.mem_of_getElem? (i := 28) rfl))) (ty := (.array .byte)) (by decide)
  refine own_go (fun tg k => st3 tg k) ?_
  show own_Fin _ _ _ _ _ _ _ (T3.setTop (mkF m 16 #[.val (.int p0), .val (.int p1), .val (.int p2), .val (.int p3), .val (.int p4), .val (.int (own_f1 p4)), .val (.ref b2), .unset, .unset] [(.ref b3)]))
  refine own_go (fun _ k => XS.dup X3.here hx rfl (hb hby at_16) rfl rfl k) ?_
  show own_Fin _ _ _ _ _ _ _ (T3.setTop (mkF m 17 #[.val (.int p0), .val (.int p1), .val (.int p2), .val (.int p3), .val (.int p4), .val (.int (own_f1 p4)), .val (.ref b2), .unset, .unset] [(.ref b3), (.ref b3)]))
  refine own_go (fun _ k => XS.iloadN X3.here hx rfl (hb hby at_17) rfl k) ?_
  show own_Fin _ _ _ _ _ _ _ (T3.setTop (mkF m 18 #[.val (.int p0), .val (.int p1), .val (.int p2), .val (.int p3), .val (.int p4), .val (.int (own_f1 p4)), .val (.ref b2), .unset, .unset] [(.int p0), (.ref b3), (.ref b3)]))
  refine own_go (fun _ k => XS.iloadN X3.here hx rfl (hb hby at_18) rfl k) ?_
  show own_Fin _ _ _ _ _ _ _ (T3.setTop (mkF m 19 #[.val (.int p0), .val (.int p1), .val (.int p2), .val (.int p3), .val (.int p4), .val (.int (own_f1 p4)), .val (.ref b2), .unset, .unset] [(.int p1), (.int p0), (.ref b3), (.ref b3)]))
  refine own_go (fun _ k => XS.iloadN X3.here hx rfl (hb hby at_19) rfl k) ?_
  show own_Fin _ _ _ _ _ _ _ (T3.setTop (mkF m 20 #[.val (.int p0), .val (.int p1), .val (.int p2), .val (.int p3), .val (.int p4), .val (.int (own_f1 p4)), .val (.ref b2), .unset, .unset] [(.int p2), (.int p1), (.int p0), (.ref b3), (.ref b3)]))
  refine own_go (fun _ k => XS.iloadN X3.here hx rfl (hb hby at_20) rfl k) ?_
  show own_Fin _ _ _ _ _ _ _ (T3.setTop (mkF m 21 #[.val (.int p0), .val (.int p1), .val (.int p2), .val (.int p3), .val (.int p4), .val (.int (own_f1 p4)), .val (.ref b2), .unset, .unset] [(.int p3), (.int p2), (.int p1), (.int p0), (.ref b3), (.ref b3)]))
  refine own_go (fun _ k => XS.aload X3.here hx rfl (hb hby at_21) rfl rfl k) ?_
  show own_Fin _ _ _ _ _ _ _ (T3.setTop (mkF m 23 #[.val (.int p0), .val (.int p1), .val (.int p2), .val (.int p3), .val (.int p4), .val (.int (own_f1 p4)), .val (.ref b2), .unset, .unset] [(.ref b2), (.int p3), (.int p2), (.int p1), (.int p0), (.ref b3), (.ref b3)]))
  obtain ⟨_, _, ⟨T4, L4, k4, n4⟩, -, X4, ⟨Lc4, hQ4, l4, y4, z4⟩, st4⟩ := X3.specialBack hx (y := (⟨"com/example/duanfu/duanfu/card/CommandApdu", "<init>", "(IIII[B)V"⟩ : MethodName)) rfl hown (mvT hZ (hw _ (List.mem_of_getElem? (i := 8) rfl))) (mvT hZ (hw _ (List.mem_of_getElem? (i := 9) rfl))) (mvT hZ (hw _ (List.mem_of_getElem? (i := 10) rfl))) (by decide) (backOf (W := 1) (rm2 l Z a0 hw [] b3 p0 p1 p2 p3 b2 h3 n0 Z3 E_b3_3 F_cla_b3_3 F_ins_b3_3 F_p1_b3_3 F_p2_b3_3 F_data_b3_3 ge_b3) hZ (hw _ (List.mem_of_getElem? (i := 10) rfl)) (hw _ (List.mem_of_getElem? (i := 7) rfl)) (by decide) (by decide)) (g := (mkF m 23 #[.val (.int p0), .val (.int p1), .val (.int p2), .val (.int p3), .val (.int p4), .val (.int (own_f1 p4)), .val (.ref b2), .unset, .unset] [(.ref b2), (.int p3), (.int p2), (.int p1), (.int p0), (.ref b3), (.ref b3)])) rfl (by rw [hml]; rfl) (Steps.refl _) (a := b3) (argsL := [(.int p0), (.int p1), (.int p2), (.int p3), (.ref b2)]) (rest := [(.ref b3)]) (lenOf own_pd81 rfl) rfl (by show 2 * 0 + _ ≤ _; exact Nat.le_of_eq rfl) (hb hby at_23) (fun _ _ => ⟨rfl, e3, (by decide : 2 + 0 ≤ _), (by decide : 260 + 0 ≤ _)⟩)
  dsimp only [Pt.U, Pt.locs, Pt.cells, Pt.slots] at X4 l4 y4 z4 st4 hQ4
  subst l4 y4 z4
  obtain ⟨rfl, N4q, Kq4, E_b3_4, F_cla_b3_4, F_ins_b3_4, F_p1_b3_4, F_p2_b3_4, F_data_b3_4⟩ := hQ4
  have N4 := Fr.app N1 N4q
  have A_b2_4 := A_b2_3.keep Kq4 (ninS ne_b2_b3 nin0)
  have Z4 : n0 ≤ T4.heap.size := Nat.le_trans Z3 Kq4.1
  refine own_go (fun tg k => st4.trans k) ?_
  show own_Fin _ _ _ _ _ _ _ (T4.setTop (mkF m 26 #[.val (.int p0), .val (.int p1), .val (.int p2), .val (.int p3), .val (.int p4), .val (.int (own_f1 p4)), .val (.ref b2), .unset, .unset] [(.ref b3)]))
  refine own_go (fun _ k => XS.astore X4.here hx rfl (hb hby at_26) rfl rfl (l' := #[.val (.int p0), .val (.int p1), .val (.int p2), .val (.int p3), .val (.int p4), .val (.int (own_f1 p4)), .val (.ref b2), .val (.ref b3), .unset]) rfl k) ?_
  show own_Fin _ _ _ _ _ _ _ (T4.setTop (mkF m 28 #[.val (.int p0), .val (.int p1), .val (.int p2), .val (.int p3), .val (.int p4), .val (.int (own_f1 p4)), .val (.ref b2), .val (.ref b3), .unset] []))
  refine own_go (fun _ k => XS.aload X4.here hx rfl (hb hby at_28) rfl rfl k) ?_
  show own_Fin _ _ _ _ _ _ _ (T4.setTop (mkF m 30 #[.val (.int p0), .val (.int p1), .val (.int p2), .val (.int p3), .val (.int p4), .val (.int (own_f1 p4)), .val (.ref b2), .val (.ref b3), .unset] [(.ref b3)]))
  obtain ⟨cq5, kq5, q5a, q5b, q5c⟩ := isOf hZ rfl E_b3_4
  obtain ⟨_, _, ⟨T5, L5, k5, n5⟩, -, X5, ⟨Lc5, hQ5, l5, y5, z5⟩, st5⟩ := X4.virtualBack hx (y := (⟨"com/example/duanfu/duanfu/card/CommandApdu", "macHeader", "()[B"⟩ : MethodName)) (z := (⟨"com/example/duanfu/duanfu/card/CommandApdu", "macHeader", "()[B"⟩ : MethodName)) hown (mvT hZ (hw _ (List.mem_of_getElem? (i := 29) rfl))) (mvT hZ (hw _ (List.mem_of_getElem? (i := 30) rfl))) (notFace_of_selects (args := #[]) (mvT hZ (hw _ (List.mem_of_getElem? (i := 32) rfl)))) (mvT hZ (hw _ (List.mem_of_getElem? (i := 32) rfl))) (mvT hZ (hw _ (List.mem_of_getElem? (i := 31) rfl))) (by decide) (backOf (W := 0) (rm5 l Z a0 hw [] b3 p0 p1 p2 p3 b2 (own_f1 p4) (fun _ => (0 : Int32)) T4.heap n0 Z4 F_cla_b3_4 F_ins_b3_4 F_p1_b3_4 F_p2_b3_4 F_data_b3_4 A_b2_4) hZ (hw _ (List.mem_of_getElem? (i := 33) rfl)) (hw _ (List.mem_of_getElem? (i := 7) rfl)) (by decide) (by decide)) q5a q5c (g := (mkF m 30 #[.val (.int p0), .val (.int p1), .val (.int p2), .val (.int p3), .val (.int p4), .val (.int (own_f1 p4)), .val (.ref b2), .val (.ref b3), .unset] [(.ref b3)])) rfl (by rw [hml]; rfl) (Steps.refl _) (argsL := []) (rest := []) (lenOf own_pd82 rfl) rfl (by show 2 * 0 + _ ≤ _; exact Nat.le_of_eq rfl) (hb hby at_30) (fun _ _ => ⟨rfl, rfl, (by decide : 2 + 1 ≤ _), (by decide : 260 + 5 ≤ _)⟩)
  dsimp only [Pt.U, Pt.locs, Pt.cells, Pt.slots] at X5 l5 y5 z5 st5 hQ5
  subst l5 y5 z5
  obtain ⟨b5rb, rfl, N5q, Kq5, szq_b5rb, A_b5rb_5⟩ := hQ5
  have N5 := Fr.app N4 N5q
  have ne_b2_b5rb : b2 ≠ b5rb := Nat.ne_of_lt (Nat.lt_of_lt_of_le A_b2_4.lt szq_b5rb)
  have ne_b3_b5rb : b3 ≠ b5rb := Nat.ne_of_lt (Nat.lt_of_lt_of_le E_b3_4.lt szq_b5rb)
  have ge_b5rb : n0 ≤ b5rb := Nat.le_trans Z4 szq_b5rb
  have A_b2_5 := A_b2_4.keep Kq5 nin0
  have E_b3_5 := E_b3_4.keep Kq5
  have F_cla_b3_5 := F_cla_b3_4.keep Kq5 nin0
  have F_ins_b3_5 := F_ins_b3_4.keep Kq5 nin0
  have F_p1_b3_5 := F_p1_b3_4.keep Kq5 nin0
  have F_p2_b3_5 := F_p2_b3_4.keep Kq5 nin0
  have F_data_b3_5 := F_data_b3_4.keep Kq5 nin0
  have Z5 : n0 ≤ T5.heap.size := Nat.le_trans Z4 Kq5.1
  refine own_go (fun tg k => st5.trans k) ?_
  show own_Fin _ _ _ _ _ _ _ (T5.setTop (mkF m 33 #[.val (.int p0), .val (.int p1), .val (.int p2), .val (.int p3), .val (.int p4), .val (.int (own_f1 p4)), .val (.ref b2), .val (.ref b3), .unset] [(.ref b5rb)]))
  refine own_go (fun _ k => XS.astore X5.here hx rfl (hb hby at_33) rfl rfl (l' := #[.val (.int p0), .val (.int p1), .val (.int p2), .val (.int p3), .val (.int p4), .val (.int (own_f1 p4)), .val (.ref b2), .val (.ref b3), .val (.ref b5rb)]) rfl k) ?_
  show own_Fin _ _ _ _ _ _ _ (T5.setTop (mkF m 35 #[.val (.int p0), .val (.int p1), .val (.int p2), .val (.int p3), .val (.int p4), .val (.int (own_f1 p4)), .val (.ref b2), .val (.ref b3), .val (.ref b5rb)] []))
  refine own_go (fun _ k => XS.aload X5.here hx rfl (hb hby at_35) rfl rfl k) ?_
  show own_Fin _ _ _ _ _ _ _ (T5.setTop (mkF m 37 #[.val (.int p0), .val (.int p1), .val (.int p2), .val (.int p3), .val (.int p4), .val (.int (own_f1 p4)), .val (.ref b2), .val (.ref b3), .val (.ref b5rb)] [(.ref b5rb)]))
  refine own_go (fun _ k => XS.ifnullNo X5.here hx rfl (hb hby at_37) rfl k) ?_
  show own_Fin _ _ _ _ _ _ _ (T5.setTop (mkF m 40 #[.val (.int p0), .val (.int p1), .val (.int p2), .val (.int p3), .val (.int p4), .val (.int (own_f1 p4)), .val (.ref b2), .val (.ref b3), .val (.ref b5rb)] []))
  refine own_go (fun _ k => XS.aload X5.here hx rfl (hb hby at_40) rfl rfl k) ?_
  show own_Fin _ _ _ _ _ _ _ (T5.setTop (mkF m 42 #[.val (.int p0), .val (.int p1), .val (.int p2), .val (.int p3), .val (.int p4), .val (.int (own_f1 p4)), .val (.ref b2), .val (.ref b3), .val (.ref b5rb)] [(.ref b5rb)]))
  refine own_go (fun tg k => own_alen X5 hx hZ rfl A_b5rb_5 (g := (mkF m 42 #[.val (.int p0), .val (.int p1), .val (.int p2), .val (.int p3), .val (.int p4), .val (.int (own_f1 p4)), .val (.ref b2), .val (.ref b3), .val (.ref b5rb)] [(.ref b5rb)])) rfl rfl (hb hby at_42) tg k) ?_
  show own_Fin _ _ _ _ _ _ _ (T5.setTop (mkF m 43 #[.val (.int p0), .val (.int p1), .val (.int p2), .val (.int p3), .val (.int p4), .val (.int (own_f1 p4)), .val (.ref b2), .val (.ref b3), .val (.ref b5rb)] [(.int (5 : Int32))]))
  refine own_go (fun _ k => XS.iconst X5.here hx rfl (hb hby at_43) k) ?_
  show own_Fin _ _ _ _ _ _ _ (T5.setTop (mkF m 44 #[.val (.int p0), .val (.int p1), .val (.int p2), .val (.int p3), .val (.int p4), .val (.int (own_f1 p4)), .val (.ref b2), .val (.ref b3), .val (.ref b5rb)] [(.int (5 : Int32)), (.int (5 : Int32))]))
  refine own_go (fun _ k => XS.icmpYes X5.here hx rfl (pc0 := 44) (pc' := 49) rfl (hb hby at_44) rfl (teq (by decide)).1 (by decide) (by decide) k) ?_
  show own_Fin _ _ _ _ _ _ _ (T5.setTop (mkF m 49 #[.val (.int p0), .val (.int p1), .val (.int p2), .val (.int p3), .val (.int p4), .val (.int (own_f1 p4)), .val (.ref b2), .val (.ref b3), .val (.ref b5rb)] []))
  refine own_go (fun _ k => XS.aload X5.here hx rfl (hb hby at_49) rfl rfl k) ?_
  show own_Fin _ _ _ _ _ _ _ (T5.setTop (mkF m 51 #[.val (.int p0), .val (.int p1), .val (.int p2), .val (.int p3), .val (.int p4), .val (.int (own_f1 p4)), .val (.ref b2), .val (.ref b3), .val (.ref b5rb)] [(.ref b5rb)]))
  refine own_go (fun _ k => XS.iconst X5.here hx rfl (hb hby at_51) k) ?_
  show own_Fin _ _ _ _ _ _ _ (T5.setTop (mkF m 52 #[.val (.int p0), .val (.int p1), .val (.int p2), .val (.int p3), .val (.int p4), .val (.int (own_f1 p4)), .val (.ref b2), .val (.ref b3), .val (.ref b5rb)] [(.int (0 : Int32)), (.ref b5rb)]))
  refine own_go (fun tg k => own_baload X5 hx hZ rfl A_b5rb_5 (j := (0 : Int32)) ⟨by decide, by decide⟩ (x := ((own_set (own_set (own_set (own_set (own_set (fun _ => (0 : Int32)) (0 : Int32) (own_i2b (own_i2b p0))) (1 : Int32) (own_i2b (own_i2b p1))) (2 : Int32) (own_i2b (own_i2b p2))) (3 : Int32) (own_i2b (own_i2b p3))) (4 : Int32) (own_i2b (own_i2b (own_f1 p4)))) 0)) rfl (g := (mkF m 52 #[.val (.int p0), .val (.int p1), .val (.int p2), .val (.int p3), .val (.int p4), .val (.int (own_f1 p4)), .val (.ref b2), .val (.ref b3), .val (.ref b5rb)] [(.int (0 : Int32)), (.ref b5rb)])) rfl rfl (hb hby at_52) tg k) ?_
  show own_Fin _ _ _ _ _ _ _ (T5.setTop (mkF m 53 #[.val (.int p0), .val (.int p1), .val (.int p2), .val (.int p3), .val (.int p4), .val (.int (own_f1 p4)), .val (.ref b2), .val (.ref b3), .val (.ref b5rb)] [(.int ((own_set (own_set (own_set (own_set (own_set (fun _ => (0 : Int32)) (0 : Int32) (own_i2b (own_i2b p0))) (1 : Int32) (own_i2b (own_i2b p1))) (2 : Int32) (own_i2b (own_i2b p2))) (3 : Int32) (own_i2b (own_i2b p3))) (4 : Int32) (own_i2b (own_i2b (own_f1 p4)))) 0))]))
  refine own_go (fun _ k => XS.sipush X5.here hx rfl (hb hby at_53) k) ?_
  show own_Fin _ _ _ _ _ _ _ (T5.setTop (mkF m 56 #[.val (.int p0), .val (.int p1), .val (.int p2), .val (.int p3), .val (.int p4), .val (.int (own_f1 p4)), .val (.ref b2), .val (.ref b3), .val (.ref b5rb)] [(.int (255 : Int32)), (.int ((own_set (own_set (own_set (own_set (own_set (fun _ => (0 : Int32)) (0 : Int32) (own_i2b (own_i2b p0))) (1 : Int32) (own_i2b (own_i2b p1))) (2 : Int32) (own_i2b (own_i2b p2))) (3 : Int32) (own_i2b (own_i2b p3))) (4 : Int32) (own_i2b (own_i2b (own_f1 p4)))) 0))]))
  refine own_go (fun _ k => XS.iand X5.here hx rfl (hb hby at_56) rfl k) ?_
  show own_Fin _ _ _ _ _ _ _ (T5.setTop (mkF m 57 #[.val (.int p0), .val (.int p1), .val (.int p2), .val (.int p3), .val (.int p4), .val (.int (own_f1 p4)), .val (.ref b2), .val (.ref b3), .val (.ref b5rb)] [(.int (((own_set (own_set (own_set (own_set (own_set (fun _ => (0 : Int32)) (0 : Int32) (own_i2b (own_i2b p0))) (1 : Int32) (own_i2b (own_i2b p1))) (2 : Int32) (own_i2b (own_i2b p2))) (3 : Int32) (own_i2b (own_i2b p3))) (4 : Int32) (own_i2b (own_i2b (own_f1 p4)))) 0) &&& (255 : Int32)))]))
  refine own_go (fun _ k => XS.iloadN X5.here hx rfl (hb hby at_57) rfl k) ?_
  show own_Fin _ _ _ _ _ _ _ (T5.setTop (mkF m 58 #[.val (.int p0), .val (.int p1), .val (.int p2), .val (.int p3), .val (.int p4), .val (.int (own_f1 p4)), .val (.ref b2), .val (.ref b3), .val (.ref b5rb)] [(.int p0), (.int (((own_set (own_set (own_set (own_set (own_set (fun _ => (0 : Int32)) (0 : Int32) (own_i2b (own_i2b p0))) (1 : Int32) (own_i2b (own_i2b p1))) (2 : Int32) (own_i2b (own_i2b p2))) (3 : Int32) (own_i2b (own_i2b p3))) (4 : Int32) (own_i2b (own_i2b (own_f1 p4)))) 0) &&& (255 : Int32)))]))
  refine own_go (fun _ k => XS.sipush X5.here hx rfl (hb hby at_58) k) ?_
  show own_Fin _ _ _ _ _ _ _ (T5.setTop (mkF m 61 #[.val (.int p0), .val (.int p1), .val (.int p2), .val (.int p3), .val (.int p4), .val (.int (own_f1 p4)), .val (.ref b2), .val (.ref b3), .val (.ref b5rb)] [(.int (255 : Int32)), (.int p0), (.int (((own_set (own_set (own_set (own_set (own_set (fun _ => (0 : Int32)) (0 : Int32) (own_i2b (own_i2b p0))) (1 : Int32) (own_i2b (own_i2b p1))) (2 : Int32) (own_i2b (own_i2b p2))) (3 : Int32) (own_i2b (own_i2b p3))) (4 : Int32) (own_i2b (own_i2b (own_f1 p4)))) 0) &&& (255 : Int32)))]))
  refine own_go (fun _ k => XS.iand X5.here hx rfl (hb hby at_61) rfl k) ?_
  show own_Fin _ _ _ _ _ _ _ (T5.setTop (mkF m 62 #[.val (.int p0), .val (.int p1), .val (.int p2), .val (.int p3), .val (.int p4), .val (.int (own_f1 p4)), .val (.ref b2), .val (.ref b3), .val (.ref b5rb)] [(.int (p0 &&& (255 : Int32))), (.int (((own_set (own_set (own_set (own_set (own_set (fun _ => (0 : Int32)) (0 : Int32) (own_i2b (own_i2b p0))) (1 : Int32) (own_i2b (own_i2b p1))) (2 : Int32) (own_i2b (own_i2b p2))) (3 : Int32) (own_i2b (own_i2b p3))) (4 : Int32) (own_i2b (own_i2b (own_f1 p4)))) 0) &&& (255 : Int32)))]))
  by_cases hc6 : (((own_set (own_set (own_set (own_set (own_set (fun _ => (0 : Int32)) (0 : Int32) (own_i2b (own_i2b p0))) (1 : Int32) (own_i2b (own_i2b p1))) (2 : Int32) (own_i2b (own_i2b p2))) (3 : Int32) (own_i2b (own_i2b p3))) (4 : Int32) (own_i2b (own_i2b (own_f1 p4)))) 0) &&& (255 : Int32)) = (p0 &&& (255 : Int32))
  · refine own_go (fun _ k => XS.icmpNo X5.here hx rfl (hb hby at_62) rfl (teq hc6).2 k) ?_
    show own_Fin _ _ _ _ _ _ _ (T5.setTop (mkF m 65 #[.val (.int p0), .val (.int p1), .val (.int p2), .val (.int p3), .val (.int p4), .val (.int (own_f1 p4)), .val (.ref b2), .val (.ref b3), .val (.ref b5rb)] []))
    refine own_go (fun _ k => XS.aload X5.here hx rfl (hb hby at_65) rfl rfl k) ?_
    show own_Fin _ _ _ _ _ _ _ (T5.setTop (mkF m 67 #[.val (.int p0), .val (.int p1), .val (.int p2), .val (.int p3), .val (.int p4), .val (.int (own_f1 p4)), .val (.ref b2), .val (.ref b3), .val (.ref b5rb)] [(.ref b5rb)]))
    refine own_go (fun _ k => XS.iconst X5.here hx rfl (hb hby at_67) k) ?_
    show own_Fin _ _ _ _ _ _ _ (T5.setTop (mkF m 68 #[.val (.int p0), .val (.int p1), .val (.int p2), .val (.int p3), .val (.int p4), .val (.int (own_f1 p4)), .val (.ref b2), .val (.ref b3), .val (.ref b5rb)] [(.int (1 : Int32)), (.ref b5rb)]))
    refine own_go (fun tg k => own_baload X5 hx hZ rfl A_b5rb_5 (j := (1 : Int32)) ⟨by decide, by decide⟩ (x := ((own_set (own_set (own_set (own_set (own_set (fun _ => (0 : Int32)) (0 : Int32) (own_i2b (own_i2b p0))) (1 : Int32) (own_i2b (own_i2b p1))) (2 : Int32) (own_i2b (own_i2b p2))) (3 : Int32) (own_i2b (own_i2b p3))) (4 : Int32) (own_i2b (own_i2b (own_f1 p4)))) 1)) rfl (g := (mkF m 68 #[.val (.int p0), .val (.int p1), .val (.int p2), .val (.int p3), .val (.int p4), .val (.int (own_f1 p4)), .val (.ref b2), .val (.ref b3), .val (.ref b5rb)] [(.int (1 : Int32)), (.ref b5rb)])) rfl rfl (hb hby at_68) tg k) ?_
    show own_Fin _ _ _ _ _ _ _ (T5.setTop (mkF m 69 #[.val (.int p0), .val (.int p1), .val (.int p2), .val (.int p3), .val (.int p4), .val (.int (own_f1 p4)), .val (.ref b2), .val (.ref b3), .val (.ref b5rb)] [(.int ((own_set (own_set (own_set (own_set (own_set (fun _ => (0 : Int32)) (0 : Int32) (own_i2b (own_i2b p0))) (1 : Int32) (own_i2b (own_i2b p1))) (2 : Int32) (own_i2b (own_i2b p2))) (3 : Int32) (own_i2b (own_i2b p3))) (4 : Int32) (own_i2b (own_i2b (own_f1 p4)))) 1))]))
    refine own_go (fun _ k => XS.sipush X5.here hx rfl (hb hby at_69) k) ?_
    show own_Fin _ _ _ _ _ _ _ (T5.setTop (mkF m 72 #[.val (.int p0), .val (.int p1), .val (.int p2), .val (.int p3), .val (.int p4), .val (.int (own_f1 p4)), .val (.ref b2), .val (.ref b3), .val (.ref b5rb)] [(.int (255 : Int32)), (.int ((own_set (own_set (own_set (own_set (own_set (fun _ => (0 : Int32)) (0 : Int32) (own_i2b (own_i2b p0))) (1 : Int32) (own_i2b (own_i2b p1))) (2 : Int32) (own_i2b (own_i2b p2))) (3 : Int32) (own_i2b (own_i2b p3))) (4 : Int32) (own_i2b (own_i2b (own_f1 p4)))) 1))]))
    refine own_go (fun _ k => XS.iand X5.here hx rfl (hb hby at_72) rfl k) ?_
    show own_Fin _ _ _ _ _ _ _ (T5.setTop (mkF m 73 #[.val (.int p0), .val (.int p1), .val (.int p2), .val (.int p3), .val (.int p4), .val (.int (own_f1 p4)), .val (.ref b2), .val (.ref b3), .val (.ref b5rb)] [(.int (((own_set (own_set (own_set (own_set (own_set (fun _ => (0 : Int32)) (0 : Int32) (own_i2b (own_i2b p0))) (1 : Int32) (own_i2b (own_i2b p1))) (2 : Int32) (own_i2b (own_i2b p2))) (3 : Int32) (own_i2b (own_i2b p3))) (4 : Int32) (own_i2b (own_i2b (own_f1 p4)))) 1) &&& (255 : Int32)))]))
    refine own_go (fun _ k => XS.iloadN X5.here hx rfl (hb hby at_73) rfl k) ?_
    show own_Fin _ _ _ _ _ _ _ (T5.setTop (mkF m 74 #[.val (.int p0), .val (.int p1), .val (.int p2), .val (.int p3), .val (.int p4), .val (.int (own_f1 p4)), .val (.ref b2), .val (.ref b3), .val (.ref b5rb)] [(.int p1), (.int (((own_set (own_set (own_set (own_set (own_set (fun _ => (0 : Int32)) (0 : Int32) (own_i2b (own_i2b p0))) (1 : Int32) (own_i2b (own_i2b p1))) (2 : Int32) (own_i2b (own_i2b p2))) (3 : Int32) (own_i2b (own_i2b p3))) (4 : Int32) (own_i2b (own_i2b (own_f1 p4)))) 1) &&& (255 : Int32)))]))
    refine own_go (fun _ k => XS.sipush X5.here hx rfl (hb hby at_74) k) ?_
    show own_Fin _ _ _ _ _ _ _ (T5.setTop (mkF m 77 #[.val (.int p0), .val (.int p1), .val (.int p2), .val (.int p3), .val (.int p4), .val (.int (own_f1 p4)), .val (.ref b2), .val (.ref b3), .val (.ref b5rb)] [(.int (255 : Int32)), (.int p1), (.int (((own_set (own_set (own_set (own_set (own_set (fun _ => (0 : Int32)) (0 : Int32) (own_i2b (own_i2b p0))) (1 : Int32) (own_i2b (own_i2b p1))) (2 : Int32) (own_i2b (own_i2b p2))) (3 : Int32) (own_i2b (own_i2b p3))) (4 : Int32) (own_i2b (own_i2b (own_f1 p4)))) 1) &&& (255 : Int32)))]))
    refine own_go (fun _ k => XS.iand X5.here hx rfl (hb hby at_77) rfl k) ?_
    show own_Fin _ _ _ _ _ _ _ (T5.setTop (mkF m 78 #[.val (.int p0), .val (.int p1), .val (.int p2), .val (.int p3), .val (.int p4), .val (.int (own_f1 p4)), .val (.ref b2), .val (.ref b3), .val (.ref b5rb)] [(.int (p1 &&& (255 : Int32))), (.int (((own_set (own_set (own_set (own_set (own_set (fun _ => (0 : Int32)) (0 : Int32) (own_i2b (own_i2b p0))) (1 : Int32) (own_i2b (own_i2b p1))) (2 : Int32) (own_i2b (own_i2b p2))) (3 : Int32) (own_i2b (own_i2b p3))) (4 : Int32) (own_i2b (own_i2b (own_f1 p4)))) 1) &&& (255 : Int32)))]))
    by_cases hc7 : (((own_set (own_set (own_set (own_set (own_set (fun _ => (0 : Int32)) (0 : Int32) (own_i2b (own_i2b p0))) (1 : Int32) (own_i2b (own_i2b p1))) (2 : Int32) (own_i2b (own_i2b p2))) (3 : Int32) (own_i2b (own_i2b p3))) (4 : Int32) (own_i2b (own_i2b (own_f1 p4)))) 1) &&& (255 : Int32)) = (p1 &&& (255 : Int32))
    · refine own_go (fun _ k => XS.icmpNo X5.here hx rfl (hb hby at_78) rfl (teq hc7).2 k) ?_
      show own_Fin _ _ _ _ _ _ _ (T5.setTop (mkF m 81 #[.val (.int p0), .val (.int p1), .val (.int p2), .val (.int p3), .val (.int p4), .val (.int (own_f1 p4)), .val (.ref b2), .val (.ref b3), .val (.ref b5rb)] []))
      refine own_go (fun _ k => XS.aload X5.here hx rfl (hb hby at_81) rfl rfl k) ?_
      show own_Fin _ _ _ _ _ _ _ (T5.setTop (mkF m 83 #[.val (.int p0), .val (.int p1), .val (.int p2), .val (.int p3), .val (.int p4), .val (.int (own_f1 p4)), .val (.ref b2), .val (.ref b3), .val (.ref b5rb)] [(.ref b5rb)]))
      refine own_go (fun _ k => XS.iconst X5.here hx rfl (hb hby at_83) k) ?_
      show own_Fin _ _ _ _ _ _ _ (T5.setTop (mkF m 84 #[.val (.int p0), .val (.int p1), .val (.int p2), .val (.int p3), .val (.int p4), .val (.int (own_f1 p4)), .val (.ref b2), .val (.ref b3), .val (.ref b5rb)] [(.int (2 : Int32)), (.ref b5rb)]))
      refine own_go (fun tg k => own_baload X5 hx hZ rfl A_b5rb_5 (j := (2 : Int32)) ⟨by decide, by decide⟩ (x := ((own_set (own_set (own_set (own_set (own_set (fun _ => (0 : Int32)) (0 : Int32) (own_i2b (own_i2b p0))) (1 : Int32) (own_i2b (own_i2b p1))) (2 : Int32) (own_i2b (own_i2b p2))) (3 : Int32) (own_i2b (own_i2b p3))) (4 : Int32) (own_i2b (own_i2b (own_f1 p4)))) 2)) rfl (g := (mkF m 84 #[.val (.int p0), .val (.int p1), .val (.int p2), .val (.int p3), .val (.int p4), .val (.int (own_f1 p4)), .val (.ref b2), .val (.ref b3), .val (.ref b5rb)] [(.int (2 : Int32)), (.ref b5rb)])) rfl rfl (hb hby at_84) tg k) ?_
      show own_Fin _ _ _ _ _ _ _ (T5.setTop (mkF m 85 #[.val (.int p0), .val (.int p1), .val (.int p2), .val (.int p3), .val (.int p4), .val (.int (own_f1 p4)), .val (.ref b2), .val (.ref b3), .val (.ref b5rb)] [(.int ((own_set (own_set (own_set (own_set (own_set (fun _ => (0 : Int32)) (0 : Int32) (own_i2b (own_i2b p0))) (1 : Int32) (own_i2b (own_i2b p1))) (2 : Int32) (own_i2b (own_i2b p2))) (3 : Int32) (own_i2b (own_i2b p3))) (4 : Int32) (own_i2b (own_i2b (own_f1 p4)))) 2))]))
      refine own_go (fun _ k => XS.sipush X5.here hx rfl (hb hby at_85) k) ?_
      show own_Fin _ _ _ _ _ _ _ (T5.setTop (mkF m 88 #[.val (.int p0), .val (.int p1), .val (.int p2), .val (.int p3), .val (.int p4), .val (.int (own_f1 p4)), .val (.ref b2), .val (.ref b3), .val (.ref b5rb)] [(.int (255 : Int32)), (.int ((own_set (own_set (own_set (own_set (own_set (fun _ => (0 : Int32)) (0 : Int32) (own_i2b (own_i2b p0))) (1 : Int32) (own_i2b (own_i2b p1))) (2 : Int32) (own_i2b (own_i2b p2))) (3 : Int32) (own_i2b (own_i2b p3))) (4 : Int32) (own_i2b (own_i2b (own_f1 p4)))) 2))]))
      refine own_go (fun _ k => XS.iand X5.here hx rfl (hb hby at_88) rfl k) ?_
      show own_Fin _ _ _ _ _ _ _ (T5.setTop (mkF m 89 #[.val (.int p0), .val (.int p1), .val (.int p2), .val (.int p3), .val (.int p4), .val (.int (own_f1 p4)), .val (.ref b2), .val (.ref b3), .val (.ref b5rb)] [(.int (((own_set (own_set (own_set (own_set (own_set (fun _ => (0 : Int32)) (0 : Int32) (own_i2b (own_i2b p0))) (1 : Int32) (own_i2b (own_i2b p1))) (2 : Int32) (own_i2b (own_i2b p2))) (3 : Int32) (own_i2b (own_i2b p3))) (4 : Int32) (own_i2b (own_i2b (own_f1 p4)))) 2) &&& (255 : Int32)))]))
      refine own_go (fun _ k => XS.iloadN X5.here hx rfl (hb hby at_89) rfl k) ?_
      show own_Fin _ _ _ _ _ _ _ (T5.setTop (mkF m 90 #[.val (.int p0), .val (.int p1), .val (.int p2), .val (.int p3), .val (.int p4), .val (.int (own_f1 p4)), .val (.ref b2), .val (.ref b3), .val (.ref b5rb)] [(.int p2), (.int (((own_set (own_set (own_set (own_set (own_set (fun _ => (0 : Int32)) (0 : Int32) (own_i2b (own_i2b p0))) (1 : Int32) (own_i2b (own_i2b p1))) (2 : Int32) (own_i2b (own_i2b p2))) (3 : Int32) (own_i2b (own_i2b p3))) (4 : Int32) (own_i2b (own_i2b (own_f1 p4)))) 2) &&& (255 : Int32)))]))
      refine own_go (fun _ k => XS.sipush X5.here hx rfl (hb hby at_90) k) ?_
      show own_Fin _ _ _ _ _ _ _ (T5.setTop (mkF m 93 #[.val (.int p0), .val (.int p1), .val (.int p2), .val (.int p3), .val (.int p4), .val (.int (own_f1 p4)), .val (.ref b2), .val (.ref b3), .val (.ref b5rb)] [(.int (255 : Int32)), (.int p2), (.int (((own_set (own_set (own_set (own_set (own_set (fun _ => (0 : Int32)) (0 : Int32) (own_i2b (own_i2b p0))) (1 : Int32) (own_i2b (own_i2b p1))) (2 : Int32) (own_i2b (own_i2b p2))) (3 : Int32) (own_i2b (own_i2b p3))) (4 : Int32) (own_i2b (own_i2b (own_f1 p4)))) 2) &&& (255 : Int32)))]))
      refine own_go (fun _ k => XS.iand X5.here hx rfl (hb hby at_93) rfl k) ?_
      show own_Fin _ _ _ _ _ _ _ (T5.setTop (mkF m 94 #[.val (.int p0), .val (.int p1), .val (.int p2), .val (.int p3), .val (.int p4), .val (.int (own_f1 p4)), .val (.ref b2), .val (.ref b3), .val (.ref b5rb)] [(.int (p2 &&& (255 : Int32))), (.int (((own_set (own_set (own_set (own_set (own_set (fun _ => (0 : Int32)) (0 : Int32) (own_i2b (own_i2b p0))) (1 : Int32) (own_i2b (own_i2b p1))) (2 : Int32) (own_i2b (own_i2b p2))) (3 : Int32) (own_i2b (own_i2b p3))) (4 : Int32) (own_i2b (own_i2b (own_f1 p4)))) 2) &&& (255 : Int32)))]))
      by_cases hc8 : (((own_set (own_set (own_set (own_set (own_set (fun _ => (0 : Int32)) (0 : Int32) (own_i2b (own_i2b p0))) (1 : Int32) (own_i2b (own_i2b p1))) (2 : Int32) (own_i2b (own_i2b p2))) (3 : Int32) (own_i2b (own_i2b p3))) (4 : Int32) (own_i2b (own_i2b (own_f1 p4)))) 2) &&& (255 : Int32)) = (p2 &&& (255 : Int32))
      · refine own_go (fun _ k => XS.icmpNo X5.here hx rfl (hb hby at_94) rfl (teq hc8).2 k) ?_
        show own_Fin _ _ _ _ _ _ _ (T5.setTop (mkF m 97 #[.val (.int p0), .val (.int p1), .val (.int p2), .val (.int p3), .val (.int p4), .val (.int (own_f1 p4)), .val (.ref b2), .val (.ref b3), .val (.ref b5rb)] []))
        refine own_go (fun _ k => XS.aload X5.here hx rfl (hb hby at_97) rfl rfl k) ?_
        show own_Fin _ _ _ _ _ _ _ (T5.setTop (mkF m 99 #[.val (.int p0), .val (.int p1), .val (.int p2), .val (.int p3), .val (.int p4), .val (.int (own_f1 p4)), .val (.ref b2), .val (.ref b3), .val (.ref b5rb)] [(.ref b5rb)]))
        refine own_go (fun _ k => XS.iconst X5.here hx rfl (hb hby at_99) k) ?_
        show own_Fin _ _ _ _ _ _ _ (T5.setTop (mkF m 100 #[.val (.int p0), .val (.int p1), .val (.int p2), .val (.int p3), .val (.int p4), .val (.int (own_f1 p4)), .val (.ref b2), .val (.ref b3), .val (.ref b5rb)] [(.int (3 : Int32)), (.ref b5rb)]))
        refine own_go (fun tg k => own_baload X5 hx hZ rfl A_b5rb_5 (j := (3 : Int32)) ⟨by decide, by decide⟩ (x := ((own_set (own_set (own_set (own_set (own_set (fun _ => (0 : Int32)) (0 : Int32) (own_i2b (own_i2b p0))) (1 : Int32) (own_i2b (own_i2b p1))) (2 : Int32) (own_i2b (own_i2b p2))) (3 : Int32) (own_i2b (own_i2b p3))) (4 : Int32) (own_i2b (own_i2b (own_f1 p4)))) 3)) rfl (g := (mkF m 100 #[.val (.int p0), .val (.int p1), .val (.int p2), .val (.int p3), .val (.int p4), .val (.int (own_f1 p4)), .val (.ref b2), .val (.ref b3), .val (.ref b5rb)] [(.int (3 : Int32)), (.ref b5rb)])) rfl rfl (hb hby at_100) tg k) ?_
        show own_Fin _ _ _ _ _ _ _ (T5.setTop (mkF m 101 #[.val (.int p0), .val (.int p1), .val (.int p2), .val (.int p3), .val (.int p4), .val (.int (own_f1 p4)), .val (.ref b2), .val (.ref b3), .val (.ref b5rb)] [(.int ((own_set (own_set (own_set (own_set (own_set (fun _ => (0 : Int32)) (0 : Int32) (own_i2b (own_i2b p0))) (1 : Int32) (own_i2b (own_i2b p1))) (2 : Int32) (own_i2b (own_i2b p2))) (3 : Int32) (own_i2b (own_i2b p3))) (4 : Int32) (own_i2b (own_i2b (own_f1 p4)))) 3))]))
        refine own_go (fun _ k => XS.sipush X5.here hx rfl (hb hby at_101) k) ?_
        show own_Fin _ _ _ _ _ _ _ (T5.setTop (mkF m 104 #[.val (.int p0), .val (.int p1), .val (.int p2), .val (.int p3), .val (.int p4), .val (.int (own_f1 p4)), .val (.ref b2), .val (.ref b3), .val (.ref b5rb)] [(.int (255 : Int32)), (.int ((own_set (own_set (own_set (own_set (own_set (fun _ => (0 : Int32)) (0 : Int32) (own_i2b (own_i2b p0))) (1 : Int32) (own_i2b (own_i2b p1))) (2 : Int32) (own_i2b (own_i2b p2))) (3 : Int32) (own_i2b (own_i2b p3))) (4 : Int32) (own_i2b (own_i2b (own_f1 p4)))) 3))]))
        refine own_go (fun _ k => XS.iand X5.here hx rfl (hb hby at_104) rfl k) ?_
        show own_Fin _ _ _ _ _ _ _ (T5.setTop (mkF m 105 #[.val (.int p0), .val (.int p1), .val (.int p2), .val (.int p3), .val (.int p4), .val (.int (own_f1 p4)), .val (.ref b2), .val (.ref b3), .val (.ref b5rb)] [(.int (((own_set (own_set (own_set (own_set (own_set (fun _ => (0 : Int32)) (0 : Int32) (own_i2b (own_i2b p0))) (1 : Int32) (own_i2b (own_i2b p1))) (2 : Int32) (own_i2b (own_i2b p2))) (3 : Int32) (own_i2b (own_i2b p3))) (4 : Int32) (own_i2b (own_i2b (own_f1 p4)))) 3) &&& (255 : Int32)))]))
        refine own_go (fun _ k => XS.iloadN X5.here hx rfl (hb hby at_105) rfl k) ?_
        show own_Fin _ _ _ _ _ _ _ (T5.setTop (mkF m 106 #[.val (.int p0), .val (.int p1), .val (.int p2), .val (.int p3), .val (.int p4), .val (.int (own_f1 p4)), .val (.ref b2), .val (.ref b3), .val (.ref b5rb)] [(.int p3), (.int (((own_set (own_set (own_set (own_set (own_set (fun _ => (0 : Int32)) (0 : Int32) (own_i2b (own_i2b p0))) (1 : Int32) (own_i2b (own_i2b p1))) (2 : Int32) (own_i2b (own_i2b p2))) (3 : Int32) (own_i2b (own_i2b p3))) (4 : Int32) (own_i2b (own_i2b (own_f1 p4)))) 3) &&& (255 : Int32)))]))
        refine own_go (fun _ k => XS.sipush X5.here hx rfl (hb hby at_106) k) ?_
        show own_Fin _ _ _ _ _ _ _ (T5.setTop (mkF m 109 #[.val (.int p0), .val (.int p1), .val (.int p2), .val (.int p3), .val (.int p4), .val (.int (own_f1 p4)), .val (.ref b2), .val (.ref b3), .val (.ref b5rb)] [(.int (255 : Int32)), (.int p3), (.int (((own_set (own_set (own_set (own_set (own_set (fun _ => (0 : Int32)) (0 : Int32) (own_i2b (own_i2b p0))) (1 : Int32) (own_i2b (own_i2b p1))) (2 : Int32) (own_i2b (own_i2b p2))) (3 : Int32) (own_i2b (own_i2b p3))) (4 : Int32) (own_i2b (own_i2b (own_f1 p4)))) 3) &&& (255 : Int32)))]))
        refine own_go (fun _ k => XS.iand X5.here hx rfl (hb hby at_109) rfl k) ?_
        show own_Fin _ _ _ _ _ _ _ (T5.setTop (mkF m 110 #[.val (.int p0), .val (.int p1), .val (.int p2), .val (.int p3), .val (.int p4), .val (.int (own_f1 p4)), .val (.ref b2), .val (.ref b3), .val (.ref b5rb)] [(.int (p3 &&& (255 : Int32))), (.int (((own_set (own_set (own_set (own_set (own_set (fun _ => (0 : Int32)) (0 : Int32) (own_i2b (own_i2b p0))) (1 : Int32) (own_i2b (own_i2b p1))) (2 : Int32) (own_i2b (own_i2b p2))) (3 : Int32) (own_i2b (own_i2b p3))) (4 : Int32) (own_i2b (own_i2b (own_f1 p4)))) 3) &&& (255 : Int32)))]))
        by_cases hc9 : (((own_set (own_set (own_set (own_set (own_set (fun _ => (0 : Int32)) (0 : Int32) (own_i2b (own_i2b p0))) (1 : Int32) (own_i2b (own_i2b p1))) (2 : Int32) (own_i2b (own_i2b p2))) (3 : Int32) (own_i2b (own_i2b p3))) (4 : Int32) (own_i2b (own_i2b (own_f1 p4)))) 3) &&& (255 : Int32)) = (p3 &&& (255 : Int32))
        · refine own_go (fun _ k => XS.icmpNo X5.here hx rfl (hb hby at_110) rfl (teq hc9).2 k) ?_
          show own_Fin _ _ _ _ _ _ _ (T5.setTop (mkF m 113 #[.val (.int p0), .val (.int p1), .val (.int p2), .val (.int p3), .val (.int p4), .val (.int (own_f1 p4)), .val (.ref b2), .val (.ref b3), .val (.ref b5rb)] []))
          refine own_go (fun _ k => XS.aload X5.here hx rfl (hb hby at_113) rfl rfl k) ?_
          show own_Fin _ _ _ _ _ _ _ (T5.setTop (mkF m 115 #[.val (.int p0), .val (.int p1), .val (.int p2), .val (.int p3), .val (.int p4), .val (.int (own_f1 p4)), .val (.ref b2), .val (.ref b3), .val (.ref b5rb)] [(.ref b5rb)]))
          refine own_go (fun _ k => XS.iconst X5.here hx rfl (hb hby at_115) k) ?_
          show own_Fin _ _ _ _ _ _ _ (T5.setTop (mkF m 116 #[.val (.int p0), .val (.int p1), .val (.int p2), .val (.int p3), .val (.int p4), .val (.int (own_f1 p4)), .val (.ref b2), .val (.ref b3), .val (.ref b5rb)] [(.int (4 : Int32)), (.ref b5rb)]))
          refine own_go (fun tg k => own_baload X5 hx hZ rfl A_b5rb_5 (j := (4 : Int32)) ⟨by decide, by decide⟩ (x := ((own_set (own_set (own_set (own_set (own_set (fun _ => (0 : Int32)) (0 : Int32) (own_i2b (own_i2b p0))) (1 : Int32) (own_i2b (own_i2b p1))) (2 : Int32) (own_i2b (own_i2b p2))) (3 : Int32) (own_i2b (own_i2b p3))) (4 : Int32) (own_i2b (own_i2b (own_f1 p4)))) 4)) rfl (g := (mkF m 116 #[.val (.int p0), .val (.int p1), .val (.int p2), .val (.int p3), .val (.int p4), .val (.int (own_f1 p4)), .val (.ref b2), .val (.ref b3), .val (.ref b5rb)] [(.int (4 : Int32)), (.ref b5rb)])) rfl rfl (hb hby at_116) tg k) ?_
          show own_Fin _ _ _ _ _ _ _ (T5.setTop (mkF m 117 #[.val (.int p0), .val (.int p1), .val (.int p2), .val (.int p3), .val (.int p4), .val (.int (own_f1 p4)), .val (.ref b2), .val (.ref b3), .val (.ref b5rb)] [(.int ((own_set (own_set (own_set (own_set (own_set (fun _ => (0 : Int32)) (0 : Int32) (own_i2b (own_i2b p0))) (1 : Int32) (own_i2b (own_i2b p1))) (2 : Int32) (own_i2b (own_i2b p2))) (3 : Int32) (own_i2b (own_i2b p3))) (4 : Int32) (own_i2b (own_i2b (own_f1 p4)))) 4))]))
          refine own_go (fun _ k => XS.sipush X5.here hx rfl (hb hby at_117) k) ?_
          show own_Fin _ _ _ _ _ _ _ (T5.setTop (mkF m 120 #[.val (.int p0), .val (.int p1), .val (.int p2), .val (.int p3), .val (.int p4), .val (.int (own_f1 p4)), .val (.ref b2), .val (.ref b3), .val (.ref b5rb)] [(.int (255 : Int32)), (.int ((own_set (own_set (own_set (own_set (own_set (fun _ => (0 : Int32)) (0 : Int32) (own_i2b (own_i2b p0))) (1 : Int32) (own_i2b (own_i2b p1))) (2 : Int32) (own_i2b (own_i2b p2))) (3 : Int32) (own_i2b (own_i2b p3))) (4 : Int32) (own_i2b (own_i2b (own_f1 p4)))) 4))]))
          refine own_go (fun _ k => XS.iand X5.here hx rfl (hb hby at_120) rfl k) ?_
          show own_Fin _ _ _ _ _ _ _ (T5.setTop (mkF m 121 #[.val (.int p0), .val (.int p1), .val (.int p2), .val (.int p3), .val (.int p4), .val (.int (own_f1 p4)), .val (.ref b2), .val (.ref b3), .val (.ref b5rb)] [(.int (((own_set (own_set (own_set (own_set (own_set (fun _ => (0 : Int32)) (0 : Int32) (own_i2b (own_i2b p0))) (1 : Int32) (own_i2b (own_i2b p1))) (2 : Int32) (own_i2b (own_i2b p2))) (3 : Int32) (own_i2b (own_i2b p3))) (4 : Int32) (own_i2b (own_i2b (own_f1 p4)))) 4) &&& (255 : Int32)))]))
          refine own_go (fun _ k => XS.iload X5.here hx rfl (hb hby at_121) rfl k) ?_
          show own_Fin _ _ _ _ _ _ _ (T5.setTop (mkF m 123 #[.val (.int p0), .val (.int p1), .val (.int p2), .val (.int p3), .val (.int p4), .val (.int (own_f1 p4)), .val (.ref b2), .val (.ref b3), .val (.ref b5rb)] [(.int (own_f1 p4)), (.int (((own_set (own_set (own_set (own_set (own_set (fun _ => (0 : Int32)) (0 : Int32) (own_i2b (own_i2b p0))) (1 : Int32) (own_i2b (own_i2b p1))) (2 : Int32) (own_i2b (own_i2b p2))) (3 : Int32) (own_i2b (own_i2b p3))) (4 : Int32) (own_i2b (own_i2b (own_f1 p4)))) 4) &&& (255 : Int32)))]))
          by_cases hc10 : (((own_set (own_set (own_set (own_set (own_set (fun _ => (0 : Int32)) (0 : Int32) (own_i2b (own_i2b p0))) (1 : Int32) (own_i2b (own_i2b p1))) (2 : Int32) (own_i2b (own_i2b p2))) (3 : Int32) (own_i2b (own_i2b p3))) (4 : Int32) (own_i2b (own_i2b (own_f1 p4)))) 4) &&& (255 : Int32)) = (own_f1 p4)
          · refine own_go (fun _ k => XS.icmpNo X5.here hx rfl (hb hby at_123) rfl (teq hc10).2 k) ?_
            show own_Fin _ _ _ _ _ _ _ (T5.setTop (mkF m 126 #[.val (.int p0), .val (.int p1), .val (.int p2), .val (.int p3), .val (.int p4), .val (.int (own_f1 p4)), .val (.ref b2), .val (.ref b3), .val (.ref b5rb)] []))
            refine own_go (fun _ k => XS.iconst X5.here hx rfl (hb hby at_126) k) ?_
            show own_Fin _ _ _ _ _ _ _ (T5.setTop (mkF m 127 #[.val (.int p0), .val (.int p1), .val (.int p2), .val (.int p3), .val (.int p4), .val (.int (own_f1 p4)), .val (.ref b2), .val (.ref b3), .val (.ref b5rb)] [(.int (1 : Int32))]))
            refine own_go (fun _ k => XS.goto X5.here hx rfl (pc0 := 127) (pc' := 131) rfl (hb hby at_127) (by decide) (by decide) k) ?_
            show own_Fin _ _ _ _ _ _ _ (T5.setTop (mkF m 131 #[.val (.int p0), .val (.int p1), .val (.int p2), .val (.int p3), .val (.int p4), .val (.int (own_f1 p4)), .val (.ref b2), .val (.ref b3), .val (.ref b5rb)] [(.int (1 : Int32))]))
            refine own_ret X5 hx hlk Bd.returns rfl (Or.inl ⟨rfl, by simp, _, rfl⟩) (hb hby at_131) (Nat.le_of_ble_eq_true rfl) (Nat.le_of_ble_eq_true rfl) ?_
            refine ⟨?_, N5, trivial⟩
            first | rfl | (simp only [own_f0, if_pos hc6, if_pos hc7, if_pos hc8, if_pos hc9, if_pos hc10]; done) | (simp only [own_f0, if_pos hc6, if_pos hc7, if_pos hc8, if_pos hc9, if_pos hc10]; rfl)
          · refine own_go (fun _ k => XS.icmpYes X5.here hx rfl (pc0 := 123) (pc' := 130) rfl (hb hby at_123) rfl (feq hc10).2 (by decide) (by decide) k) ?_
            show own_Fin _ _ _ _ _ _ _ (T5.setTop (mkF m 130 #[.val (.int p0), .val (.int p1), .val (.int p2), .val (.int p3), .val (.int p4), .val (.int (own_f1 p4)), .val (.ref b2), .val (.ref b3), .val (.ref b5rb)] []))
            refine own_go (fun _ k => XS.iconst X5.here hx rfl (hb hby at_130) k) ?_
            show own_Fin _ _ _ _ _ _ _ (T5.setTop (mkF m 131 #[.val (.int p0), .val (.int p1), .val (.int p2), .val (.int p3), .val (.int p4), .val (.int (own_f1 p4)), .val (.ref b2), .val (.ref b3), .val (.ref b5rb)] [(.int (0 : Int32))]))
            refine own_ret X5 hx hlk Bd.returns rfl (Or.inl ⟨rfl, by simp, _, rfl⟩) (hb hby at_131) (Nat.le_of_ble_eq_true rfl) (Nat.le_of_ble_eq_true rfl) ?_
            refine ⟨?_, N5, trivial⟩
            first | rfl | (simp only [own_f0, if_pos hc6, if_pos hc7, if_pos hc8, if_pos hc9, if_neg hc10]; done) | (simp only [own_f0, if_pos hc6, if_pos hc7, if_pos hc8, if_pos hc9, if_neg hc10]; rfl)
        · refine own_go (fun _ k => XS.icmpYes X5.here hx rfl (pc0 := 110) (pc' := 130) rfl (hb hby at_110) rfl (feq hc9).2 (by decide) (by decide) k) ?_
          show own_Fin _ _ _ _ _ _ _ (T5.setTop (mkF m 130 #[.val (.int p0), .val (.int p1), .val (.int p2), .val (.int p3), .val (.int p4), .val (.int (own_f1 p4)), .val (.ref b2), .val (.ref b3), .val (.ref b5rb)] []))
          refine own_go (fun _ k => XS.iconst X5.here hx rfl (hb hby at_130) k) ?_
          show own_Fin _ _ _ _ _ _ _ (T5.setTop (mkF m 131 #[.val (.int p0), .val (.int p1), .val (.int p2), .val (.int p3), .val (.int p4), .val (.int (own_f1 p4)), .val (.ref b2), .val (.ref b3), .val (.ref b5rb)] [(.int (0 : Int32))]))
          refine own_ret X5 hx hlk Bd.returns rfl (Or.inl ⟨rfl, by simp, _, rfl⟩) (hb hby at_131) (Nat.le_of_ble_eq_true rfl) (Nat.le_of_ble_eq_true rfl) ?_
          refine ⟨?_, N5, trivial⟩
          first | rfl | (simp only [own_f0, if_pos hc6, if_pos hc7, if_pos hc8, if_neg hc9]; done) | (simp only [own_f0, if_pos hc6, if_pos hc7, if_pos hc8, if_neg hc9]; rfl)
      · refine own_go (fun _ k => XS.icmpYes X5.here hx rfl (pc0 := 94) (pc' := 130) rfl (hb hby at_94) rfl (feq hc8).2 (by decide) (by decide) k) ?_
        show own_Fin _ _ _ _ _ _ _ (T5.setTop (mkF m 130 #[.val (.int p0), .val (.int p1), .val (.int p2), .val (.int p3), .val (.int p4), .val (.int (own_f1 p4)), .val (.ref b2), .val (.ref b3), .val (.ref b5rb)] []))
        refine own_go (fun _ k => XS.iconst X5.here hx rfl (hb hby at_130) k) ?_
        show own_Fin _ _ _ _ _ _ _ (T5.setTop (mkF m 131 #[.val (.int p0), .val (.int p1), .val (.int p2), .val (.int p3), .val (.int p4), .val (.int (own_f1 p4)), .val (.ref b2), .val (.ref b3), .val (.ref b5rb)] [(.int (0 : Int32))]))
        refine own_ret X5 hx hlk Bd.returns rfl (Or.inl ⟨rfl, by simp, _, rfl⟩) (hb hby at_131) (Nat.le_of_ble_eq_true rfl) (Nat.le_of_ble_eq_true rfl) ?_
        refine ⟨?_, N5, trivial⟩
        first | rfl | (simp only [own_f0, if_pos hc6, if_pos hc7, if_neg hc8]; done) | (simp only [own_f0, if_pos hc6, if_pos hc7, if_neg hc8]; rfl)
    · refine own_go (fun _ k => XS.icmpYes X5.here hx rfl (pc0 := 78) (pc' := 130) rfl (hb hby at_78) rfl (feq hc7).2 (by decide) (by decide) k) ?_
      show own_Fin _ _ _ _ _ _ _ (T5.setTop (mkF m 130 #[.val (.int p0), .val (.int p1), .val (.int p2), .val (.int p3), .val (.int p4), .val (.int (own_f1 p4)), .val (.ref b2), .val (.ref b3), .val (.ref b5rb)] []))
      refine own_go (fun _ k => XS.iconst X5.here hx rfl (hb hby at_130) k) ?_
      show own_Fin _ _ _ _ _ _ _ (T5.setTop (mkF m 131 #[.val (.int p0), .val (.int p1), .val (.int p2), .val (.int p3), .val (.int p4), .val (.int (own_f1 p4)), .val (.ref b2), .val (.ref b3), .val (.ref b5rb)] [(.int (0 : Int32))]))
      refine own_ret X5 hx hlk Bd.returns rfl (Or.inl ⟨rfl, by simp, _, rfl⟩) (hb hby at_131) (Nat.le_of_ble_eq_true rfl) (Nat.le_of_ble_eq_true rfl) ?_
      refine ⟨?_, N5, trivial⟩
      first | rfl | (simp only [own_f0, if_pos hc6, if_neg hc7]; done) | (simp only [own_f0, if_pos hc6, if_neg hc7]; rfl)
  · refine own_go (fun _ k => XS.icmpYes X5.here hx rfl (pc0 := 62) (pc' := 130) rfl (hb hby at_62) rfl (feq hc6).2 (by decide) (by decide) k) ?_
    show own_Fin _ _ _ _ _ _ _ (T5.setTop (mkF m 130 #[.val (.int p0), .val (.int p1), .val (.int p2), .val (.int p3), .val (.int p4), .val (.int (own_f1 p4)), .val (.ref b2), .val (.ref b3), .val (.ref b5rb)] []))
    refine own_go (fun _ k => XS.iconst X5.here hx rfl (hb hby at_130) k) ?_
    show own_Fin _ _ _ _ _ _ _ (T5.setTop (mkF m 131 #[.val (.int p0), .val (.int p1), .val (.int p2), .val (.int p3), .val (.int p4), .val (.int (own_f1 p4)), .val (.ref b2), .val (.ref b3), .val (.ref b5rb)] [(.int (0 : Int32))]))
    refine own_ret X5 hx hlk Bd.returns rfl (Or.inl ⟨rfl, by simp, _, rfl⟩) (hb hby at_131) (Nat.le_of_ble_eq_true rfl) (Nat.le_of_ble_eq_true rfl) ?_
    refine ⟨?_, N5, trivial⟩
    first | rfl | (simp only [own_f0, if_neg hc6]; done) | (simp only [own_f0, if_neg hc6]; rfl)
theorem own_i2b255 (x : Int32) : (own_i2b (own_i2b x)) &&& (255 : Int32) = x &&& (255 : Int32) := by
  have a := c_i2b x
  have b := c_i2b (own_i2b x)
  have h1 := c_mask (own_i2b (own_i2b x)) 255 8 (by decide) (by decide)
  have h2 := c_mask x 255 8 (by decide) (by decide)
  have e1 : (own_i2b (own_i2b x)).toInt = (own_i2b x).toInt8.toInt32.toInt := rfl
  have e2 : (own_i2b x).toInt = x.toInt8.toInt32.toInt := rfl
  apply Int32.toInt_inj.mp
  rw [h1, h2, show ((2 ^ 8 : Nat) : Int) = 256 from by decide]
  omega
theorem own_m255 (x : Int32) (h : 0 ≤ x.toInt ∧ x.toInt ≤ 255) : x &&& (255 : Int32) = x := by
  have h2 := c_mask x 255 8 (by decide) (by decide)
  apply Int32.toInt_inj.mp
  rw [h2, show ((2 ^ 8 : Nat) : Int) = 256 from by decide]
  omega
theorem own_plain (p0 p1 p2 p3 p4 : Int32) : own_f0 p0 p1 p2 p3 p4 = 1 := by
  have h := own_m255 _ (own_len p4)
  simp [own_f0, own_set, own_i2b255, h]
set_option maxRecDepth 65536 in
set_option maxHeartbeats 40000000 in
theorem comes_1 {Post : Tables → Env → Array Value → State → Outcome → State → Prop} (hpost : ∀ tb e args s v u, (limb_1_1.after args s (.returned v) u = true ∧ limb_1_2.after args s (.returned v) u = true ∧ True) → FrameEnd s (.returned v) u (Jvm.fieldLocs frame_1_writes args s ++ Jvm.arrayLocs frame_1_arrays args s ++ Jvm.staticLocs frame_1_statics s) 16 640 → Post tb e args s (.returned v) u) :
    ArmFor flags0 classFile x code maxLocals ret World_1 tables_1 room_1 Calls_1 rest_1 Pre_1 Post := by
  intro l hfl _ _ p e ha hc hk s m args below hf hA hF happ hP
  obtain ⟨hcalls, hrest, hpre⟩ := hP
  obtain ⟨-, -, -, hnamed, -, -, -, hat⟩ := (Spec.applies_iff hf).mp happ
  obtain ⟨hg, hn⟩ := and_e (Cond.before_iff.mp (show (Jvm.Cond.and given_1 narrow_1).before args s = true from hpre))
  obtain ⟨g1, g2⟩ := and_e hg
  obtain ⟨g3, g4⟩ := and_e g2
  obtain ⟨g5, g6⟩ := and_e g4
  obtain ⟨g7, g8⟩ := and_e g6
  obtain ⟨g9, g10⟩ := and_e g8
  obtain ⟨w0, w1, w2, w3, w4, rfl⟩ : ∃ w0 w1 w2 w3 w4 : Value, args = #[w0, w1, w2, w3, w4] := by
    have hs : args.size = 5 := by simpa [Cond.value, given_1] using g1
    obtain ⟨L⟩ := args
    match L, hs with
    | [w0, w1, w2, w3, w4], _ => exact ⟨w0, w1, w2, w3, w4, rfl⟩
  have hw := fun d (hd : d ∈ tables_1) => atoms_spec (ws := Jvm.Cond.code x code maxLocals ret :: tables_1) hat d (List.mem_cons_of_mem _ hd)
  have hfit : Fit s := fun {y c} hc i hi => by
    obtain ⟨ha, rfl⟩ := Array.getElem?_eq_some_iff.mp hc
    have q := List.all_eq_true.mp ((Array.all_eq_true_iff_forall_mem.mp hF) _ (Array.getElem_mem ha)) i (List.mem_range.mpr hi)
    simpa [Array.getElem?_eq_getElem hi] using q
  obtain ⟨i0, ei0⟩ := is_v g3
  obtain rfl : w0 = (.int i0) := Option.some.inj ei0
  obtain ⟨i1, ei1⟩ := is_v g5
  obtain rfl : w1 = (.int i1) := Option.some.inj ei1
  obtain ⟨i2, ei2⟩ := is_v g7
  obtain rfl : w2 = (.int i2) := Option.some.inj ei2
  obtain ⟨i3, ei3⟩ := is_v g9
  obtain rfl : w3 = (.int i3) := Option.some.inj ei3
  obtain ⟨i4, ei4⟩ := is_v g10
  obtain rfl : w4 = (.int i4) := Option.some.inj ei4
  obtain ⟨n, o, h1, h2, h3, _, L, rfl, ⟨rfl, N, hrest'⟩, hq⟩ := rm0 l s _ hw tables_1 i0 i1 i2 i3 i4 s.heap s.heap.size (Nat.le_refl _) p e ha hc hk s m _ below hf ((Spec.applies_iff_loose hf).mp happ).1 ⟨rfl, State.Warmed39.refl s, rfl⟩ trivial
  refine ⟨n, _, h1, h2, h3, hpost _ _ _ _ _ _ ⟨Cond.after_iff.mpr rfl, Cond.after_iff.mpr (eq_i res_at (Term.int_eval (1)) (congrArg Value.int (own_plain i0 i1 i2 i3 i4))), trivial⟩ ⟨hq.1, hq.2.1, (hq.2.2.sift fun y hy => Or.inr (N y hy)).mono (by decide) (by decide)⟩⟩
theorem main_1_1 : Claimed_1_1 := comes_1 fun _ _ _ _ _ _ h hF => ⟨h.1, hF⟩
theorem main_1_2 : Claimed_1_2 := comes_1 fun _ _ _ _ _ _ h hF => ⟨h.2.1, hF⟩
end Jvm.Pilot.@@N@@
namespace Jvm.Pilot.@@N@@
open Jvm Jvm.ClassFile Sem Op Lib Jvm.Free Jvm.Stand Jvm.Pilot.@@N@@.Jvm.D
/-! MADE BY PROGRAM (witnessworld.py) out of the Statement's table words and the real class files: 10 classes; the members and pool entries that the words name. The judged class is class 1, her method 2. -/
namespace start1
open Jvm.ClassFile
def u (s : String) : CpInfo := .utf8 (stringToUtf16 s)
/-- a pool by its gaps: so many unusable entries, then the entry; so many at the end -/
def gap : Nat → List CpInfo → List CpInfo
  | 0, r => r
  | n + 1, r => .unusable :: gap n r
def poolList (es : List (Nat × CpInfo)) (last : Nat) : List CpInfo := es.foldr (fun e r => gap e.1 (e.2 :: r)) (gap last [])
def pool (es : List (Nat × CpInfo)) (last : Nat) : Array CpInfo := ⟨poolList es last⟩
def fileOf (pool : Array CpInfo) (this : Nat) (attrs : Array Attribute := #[]) (ms : Array MethodInfo := #[]) (fl : Nat := 33) (sup : Nat := 0) (ifs : Array Nat := #[]) (fds : Array FieldInfo := #[]) : ClassFile where
  minorVersion := 0
  majorVersion := 65
  constantPool := pool
  accessFlags := fl
  thisClass := this
  superClass := sup
  interfaces := ifs
  fields := fds
  methods := ms
  attributes := attrs
def plain (name : String) (sup : Option ClassId) : Class where
  name := name
  kind := .ordinary
  loader := none
  accessFlags := 33
  super := sup
  interfaces := #[]
  cf := none
  fields := #[]
  methods := #[]
  instanceTypes := #[]
  staticTypes := #[]
  resolved := #[]
  callSites := []
  init := .initialized
  statics := none
  mirror := none

def pool0 : Array CpInfo := pool [(5, u "<init>"), (0, u "()V"), (1, .class_ 10), (1, u "java/lang/Object")] 113

def k0c0 : Code := { maxStack := 0, maxLocals := 1, code := object_method_1_code, exceptionTable := #[], attributes := #[] }
def k0m0 : Method := { name := "<init>", desc := "()V", sig := { parameters := [], returnType := none }, accessFlags := 1, code := some k0c0 }
/-- java/lang/Object -/
def k0 : Class := { plain "java/lang/Object" none with
  accessFlags := 33
  interfaces := #[]
  cf := some (fileOf pool0 8 #[] #[{ accessFlags := 1, nameIndex := 5, descriptorIndex := 6, attributes := #[] }] 33 0 #[] #[])
  fields := #[]
  methods := #[k0m0]
  instanceTypes := #[]
  staticTypes := #[]
  resolved := Array.replicate 124 none
  statics := none }

def pool1 : Array CpInfo := pool [(2, .class_ 4), (1, u "java/lang/Object"), (0, u "<init>"), (0, u "()V"), (0, .methodref 8 9), (0, .class_ 10), (0, .nameAndType 11 12), (0, u "com/example/duanfu/duanfu/card/CommandApduMacHeaderPinLaw"), (0, u "pickLength"), (0, u "(I)I"), (0, .class_ 14), (0, u "com/example/duanfu/duanfu/card/CommandApdu"), (0, .methodref 13 16), (0, .nameAndType 5 17), (0, u "(IIII[B)V"), (0, .methodref 13 19), (0, .nameAndType 20 21), (0, u "macHeader"), (0, u "()[B"), (3, u "law"), (0, u "(IIIII)Z")] 4

def k1m0 : Method := { name := "<init>", desc := "()V", sig := { parameters := [], returnType := none }, accessFlags := 1, code := none }
def k1c1 : Code := { maxStack := 2, maxLocals := 2, code := method_2_code, exceptionTable := #[], attributes := #[] }
def k1m1 : Method := { name := "pickLength", desc := "(I)I", sig := { parameters := [.int], returnType := some .int }, accessFlags := 10, code := some k1c1 }
def k1c2 : Code := { maxStack := 7, maxLocals := 9, code := code, exceptionTable := #[], attributes := #[] }
def k1m2 : Method := { name := "law", desc := "(IIIII)Z", sig := { parameters := [.int, .int, .int, .int, .int], returnType := some .boolean }, accessFlags := 9, code := some k1c2 }
/-- com/example/duanfu/duanfu/card/CommandApduMacHeaderPinLaw -/
def k1 : Class := { plain "com/example/duanfu/duanfu/card/CommandApduMacHeaderPinLaw" (some 0) with
  accessFlags := 49
  interfaces := #[]
  cf := some (fileOf pool1 8 #[] #[{ accessFlags := 1, nameIndex := 5, descriptorIndex := 6, attributes := #[] }, { accessFlags := 10, nameIndex := 11, descriptorIndex := 12, attributes := #[] }, { accessFlags := 9, nameIndex := 25, descriptorIndex := 26, attributes := #[] }] 49 2 #[] #[])
  fields := #[]
  methods := #[k1m0, k1m1, k1m2]
  instanceTypes := #[]
  staticTypes := #[]
  resolved := Array.replicate 31 none
  statics := none }

def pool2 : Array CpInfo := pool [(1, .methodref 2 3), (0, .class_ 4), (0, .nameAndType 5 6), (0, u "java/lang/Object"), (0, u "<init>"), (0, u "()V"), (0, .class_ 8), (0, u "java/lang/Record")] 13

def k2c0 : Code := { maxStack := 1, maxLocals := 1, code := jdk_30_method_1_code, exceptionTable := #[], attributes := #[] }
def k2m0 : Method := { name := "<init>", desc := "()V", sig := { parameters := [], returnType := none }, accessFlags := 4, code := some k2c0 }
/-- java/lang/Record -/
def k2 : Class := { plain "java/lang/Record" (some 0) with
  accessFlags := 1057
  interfaces := #[]
  cf := some (fileOf pool2 7 #[] #[{ accessFlags := 4, nameIndex := 5, descriptorIndex := 6, attributes := #[] }] 1057 2 #[] #[])
  fields := #[]
  methods := #[k2m0]
  instanceTypes := #[]
  staticTypes := #[]
  resolved := Array.replicate 22 none
  statics := none }

def pool3 : Array CpInfo := pool [(1, .methodref 2 3), (0, .class_ 4), (0, .nameAndType 5 6), (0, u "java/lang/Record"), (0, u "<init>"), (0, u "()V"), (0, .fieldref 8 9), (0, .class_ 10), (0, .nameAndType 11 12), (0, u "com/example/duanfu/duanfu/card/CommandApdu"), (0, u "cla"), (0, u "I"), (0, .fieldref 8 14), (0, .nameAndType 15 12), (0, u "ins"), (0, .fieldref 8 17), (0, .nameAndType 18 12), (0, u "p1"), (0, .fieldref 8 20), (0, .nameAndType 21 12), (0, u "p2"), (0, .fieldref 8 23), (0, .nameAndType 24 25), (0, u "data"), (0, u "[B"), (14, u "(IIII[B)V"), (16, u "HEADER"), (11, u "macHeader"), (0, u "()[B")] 27

def k3c0 : Code := { maxStack := 2, maxLocals := 6, code := prog_6_method_1_code, exceptionTable := #[], attributes := #[] }
def k3m0 : Method := { name := "<init>", desc := "(IIII[B)V", sig := { parameters := [.int, .int, .int, .int, (.array .byte)], returnType := none }, accessFlags := 0, code := some k3c0 }
def k3c1 : Code := { maxStack := 4, maxLocals := 1, code := prog_6_method_3_code, exceptionTable := #[], attributes := #[] }
def k3m1 : Method := { name := "macHeader", desc := "()[B", sig := { parameters := [], returnType := some (.array .byte) }, accessFlags := 0, code := some k3c1 }
/-- com/example/duanfu/duanfu/card/CommandApdu -/
def k3 : Class := { plain "com/example/duanfu/duanfu/card/CommandApdu" (some 2) with
  accessFlags := 48
  interfaces := #[]
  cf := some (fileOf pool3 8 #[] #[{ accessFlags := 0, nameIndex := 5, descriptorIndex := 40, attributes := #[] }, { accessFlags := 0, nameIndex := 69, descriptorIndex := 70, attributes := #[] }] 48 2 #[] #[{ accessFlags := 18, nameIndex := 11, descriptorIndex := 12, attributes := #[] }, { accessFlags := 18, nameIndex := 15, descriptorIndex := 12, attributes := #[] }, { accessFlags := 18, nameIndex := 18, descriptorIndex := 12, attributes := #[] }, { accessFlags := 18, nameIndex := 21, descriptorIndex := 12, attributes := #[] }, { accessFlags := 18, nameIndex := 24, descriptorIndex := 25, attributes := #[] }, { accessFlags := 26, nameIndex := 57, descriptorIndex := 12, attributes := #[] }])
  fields := #[{ name := "cla", type := .int, accessFlags := 18, slot := 0, constantValue := 0 }, { name := "ins", type := .int, accessFlags := 18, slot := 1, constantValue := 0 }, { name := "p1", type := .int, accessFlags := 18, slot := 2, constantValue := 0 }, { name := "p2", type := .int, accessFlags := 18, slot := 3, constantValue := 0 }, { name := "data", type := (.array .byte), accessFlags := 18, slot := 4, constantValue := 0 }, { name := "HEADER", type := .int, accessFlags := 26, slot := 0, constantValue := 0 }]
  methods := #[k3m0, k3m1]
  instanceTypes := #[.int, .int, .int, .int, (.array .byte)]
  staticTypes := #[.int]
  resolved := Array.replicate 98 none
  statics := none }

def pool4 : Array CpInfo := pool [(1, u "java/lang/Cloneable"), (0, .class_ 1), (0, u "java/lang/Object"), (0, .class_ 3)] 3

/-- java/lang/Cloneable -/
def k4 : Class := { plain "java/lang/Cloneable" (some 0) with
  accessFlags := 1537
  interfaces := #[]
  cf := some (fileOf pool4 2 #[] #[] 1537 4 #[] #[])
  fields := #[]
  methods := #[]
  instanceTypes := #[]
  staticTypes := #[]
  resolved := Array.replicate 8 none
  statics := none }

def pool5 : Array CpInfo := pool [(1, u "java/io/Serializable"), (0, .class_ 1), (0, u "java/lang/Object"), (0, .class_ 3)] 3

/-- java/io/Serializable -/
def k5 : Class := { plain "java/io/Serializable" (some 0) with
  accessFlags := 1537
  interfaces := #[]
  cf := some (fileOf pool5 2 #[] #[] 1537 4 #[] #[])
  fields := #[]
  methods := #[]
  instanceTypes := #[]
  staticTypes := #[]
  resolved := Array.replicate 8 none
  statics := none }

/-- the primitive byte -/
def k6 : Class := { plain "byte" none with kind := .primitive 'B', accessFlags := 0x411 }
/-- [B -/
def k7 : Class := { plain "[B" (some 0) with kind := .array 6 .byte, interfaces := #[4, 5], accessFlags := 1041 }

/-- the primitive int -/
def k8 : Class := { plain "int" none with kind := .primitive 'I', accessFlags := 0x411 }
/-- [I -/
def k9 : Class := { plain "[I" (some 0) with kind := .array 8 .int, interfaces := #[4, 5], accessFlags := 1041 }

def heap : Heap := #[]
def classes : Array Class := #[k0, k1, k2, k3, k4, k5, k6, k7, k8, k9]
def interned : List (Array UInt16 × Addr) := []
def slotsUsed : Nat := 0
def theMethod : MethodId := ⟨1, 2⟩
def args0 : Array Value := #[.int 2, .int 6, .int 7, .int 8, .int 2]
def aboutOver (below : List Frame) : State where
  vm := { classes := classes, interned := interned.toArray }
  heap := heap
  slotsUsed := slotsUsed
  threads := #[{ frames := .invoking theMethod args0 :: below }]
def below0 : List Frame := [.native { method := ⟨0, 0⟩, args := #[] }]
def about1 : State := aboutOver below0
def p0 : Program := .bare "" "" ""
def e0 : Env := launch0.env 0 0 0
theorem w_frames : about1.frames = Frame.invoking theMethod args0 :: below0 := rfl
set_option maxRecDepth 65536 in
theorem w_args : argsFit about1.vm theMethod args0 = true := by decide +kernel
set_option maxRecDepth 65536 in
theorem w_heap : heapFits about1 = true := by decide +kernel
set_option maxRecDepth 65536 in
theorem w_runnable : about1.curStatus? = some .runnable := by decide +kernel
set_option maxRecDepth 65536 in
theorem w_alone : about1.alone = true := by decide +kernel
set_option maxRecDepth 65536 in
theorem w_named : about1.methodNamed? x = some theMethod := by decide +kernel
set_option maxRecDepth 65536 in
theorem w_hears : about1.hears theMethod below0 = true := by decide +kernel
set_option maxRecDepth 65536 in
theorem w_ripe : about1.ripe theMethod args0 below0 = true := by decide +kernel
theorem w_running : about1.status = .running := rfl
set_option maxRecDepth 65536 in
theorem w_room : about1.hasRoom e0.platform room_1 = true :=
  launch0.hasRoom_least _ room_1 (by decide +kernel) (by decide +kernel) (by decide +kernel) (by decide +kernel) (by decide +kernel) (by decide +kernel)
theorem allAtoms_all (ts : List Jvm.Cond) (a : Array Jvm.Value) (st : Jvm.State) : (allAtoms ts).before a st = ts.all (fun c => c.before a st) := by
  induction ts with
  | nil => rfl
  | cons c t ih =>
    show (Jvm.Cond.and c (allAtoms t)).before a st = _
    rw [Jvm.Cond.before_and, ih, List.all_cons]
def words1 : List Jvm.Cond := Jvm.Cond.code x code maxLocals ret :: tables_1
/-- a 'code' word, met by the world's own term for the bytes: nothing is compared byte by byte -/
theorem code_word {y : MethodName} {bytes : ByteArray} {mx : Nat} {rt : Option FieldType} {a : Array Value} {s : State} {m : MethodId} {meth : Method} {c : Code} (h1 : s.methodNamed? y = some m) (h2 : s.vm.method? m = some meth) (h3 : meth.code = some c) (h4 : c.code = bytes)
    (h5 : (c.maxLocals == mx && c.exceptionTable.isEmpty && decide (c.maxStack ≤ mostOperands) && decide (meth.sig.returnType = rt) && !meth.locks && decide (parseMethodDescriptor y.desc = some meth.sig)) = true) : (Jvm.Cond.code y bytes mx rt).before a s = true := by
  simp only [Bool.and_eq_true, beq_iff_eq, Bool.not_eq_true', decide_eq_true_eq] at h5
  obtain ⟨⟨⟨⟨⟨g1, g2⟩, g3⟩, g4⟩, g5⟩, g6⟩ := h5
  simp [Cond.before, Cond.holds, Cond.value, h1, h2, h3, h4, g1, g2, g3, g4, g5, g6]
def isCode : Jvm.Cond → Bool
  | .code _ _ _ _ => true
  | _ => false
theorem all_split {L : List Jvm.Cond} {P : Jvm.Cond → Bool} (h1 : L.all (fun c => isCode c || P c) = true) (h2 : ∀ c ∈ L.filter isCode, P c = true) : L.all P = true := by
  refine List.all_eq_true.mpr fun c hc => ?_
  have h := List.all_eq_true.mp h1 c hc
  rcases Bool.eq_false_or_eq_true (isCode c) with hi | hi
  · exact h2 c (List.mem_filter.mpr ⟨hc, hi⟩)
  · simpa [hi] using h
set_option maxRecDepth 65536 in
theorem w_c0 : (Jvm.Cond.code x code maxLocals ret).before args0 about1 = true := code_word (m := ⟨1, 2⟩) (meth := k1m2) (c := k1c2) (by decide +kernel) rfl rfl rfl (by decide +kernel)
set_option maxRecDepth 65536 in
theorem w_c1 : (Jvm.Cond.code ({ cls := "com/example/duanfu/duanfu/card/CommandApduMacHeaderPinLaw", name := "pickLength", desc := "(I)I" } : Jvm.MethodName) method_2_code (2 : Nat) (Option.some Jvm.ClassFile.FieldType.int)).before args0 about1 = true := code_word (m := ⟨1, 1⟩) (meth := k1m1) (c := k1c1) (by decide +kernel) rfl rfl rfl (by decide +kernel)
set_option maxRecDepth 65536 in
theorem w_c2 : (Jvm.Cond.code ({ cls := "com/example/duanfu/duanfu/card/CommandApdu", name := "<init>", desc := "(IIII[B)V" } : Jvm.MethodName) prog_6_method_1_code (6 : Nat) (Option.none : Option Jvm.ClassFile.FieldType)).before args0 about1 = true := code_word (m := ⟨3, 0⟩) (meth := k3m0) (c := k3c0) (by decide +kernel) rfl rfl rfl (by decide +kernel)
set_option maxRecDepth 65536 in
theorem w_c3 : (Jvm.Cond.code ({ cls := "java/lang/Record", name := "<init>", desc := "()V" } : Jvm.MethodName) jdk_30_method_1_code (1 : Nat) (Option.none : Option Jvm.ClassFile.FieldType)).before args0 about1 = true := code_word (m := ⟨2, 0⟩) (meth := k2m0) (c := k2c0) (by decide +kernel) rfl rfl rfl (by decide +kernel)
set_option maxRecDepth 65536 in
theorem w_c4 : (Jvm.Cond.code ({ cls := "java/lang/Object", name := "<init>", desc := "()V" } : Jvm.MethodName) object_method_1_code (1 : Nat) (Option.none : Option Jvm.ClassFile.FieldType)).before args0 about1 = true := code_word (m := ⟨0, 0⟩) (meth := k0m0) (c := k0c0) (by decide +kernel) rfl rfl rfl (by decide +kernel)
set_option maxRecDepth 65536 in
theorem w_c5 : (Jvm.Cond.code ({ cls := "com/example/duanfu/duanfu/card/CommandApdu", name := "macHeader", desc := "()[B" } : Jvm.MethodName) prog_6_method_3_code (1 : Nat) (Option.some (Jvm.ClassFile.FieldType.array Jvm.ClassFile.FieldType.byte))).before args0 about1 = true := code_word (m := ⟨3, 1⟩) (meth := k3m1) (c := k3c1) (by decide +kernel) rfl rfl rfl (by decide +kernel)
def codes1 : List Jvm.Cond := [Jvm.Cond.code x code maxLocals ret, Jvm.Cond.code ({ cls := "com/example/duanfu/duanfu/card/CommandApduMacHeaderPinLaw", name := "pickLength", desc := "(I)I" } : Jvm.MethodName) method_2_code (2 : Nat) (Option.some Jvm.ClassFile.FieldType.int), Jvm.Cond.code ({ cls := "com/example/duanfu/duanfu/card/CommandApdu", name := "<init>", desc := "(IIII[B)V" } : Jvm.MethodName) prog_6_method_1_code (6 : Nat) (Option.none : Option Jvm.ClassFile.FieldType), Jvm.Cond.code ({ cls := "java/lang/Record", name := "<init>", desc := "()V" } : Jvm.MethodName) jdk_30_method_1_code (1 : Nat) (Option.none : Option Jvm.ClassFile.FieldType), Jvm.Cond.code ({ cls := "java/lang/Object", name := "<init>", desc := "()V" } : Jvm.MethodName) object_method_1_code (1 : Nat) (Option.none : Option Jvm.ClassFile.FieldType), Jvm.Cond.code ({ cls := "com/example/duanfu/duanfu/card/CommandApdu", name := "macHeader", desc := "()[B" } : Jvm.MethodName) prog_6_method_3_code (1 : Nat) (Option.some (Jvm.ClassFile.FieldType.array Jvm.ClassFile.FieldType.byte))]
set_option maxRecDepth 65536 in
theorem codes_eq : words1.filter isCode = codes1 := rfl
theorem w_codes : ∀ c ∈ words1.filter isCode, c.before args0 about1 = true := by
  rw [codes_eq]
  intro c hc
  simp only [codes1, List.mem_cons, List.not_mem_nil, or_false] at hc
  rcases hc with rfl | rfl | rfl | rfl | rfl | rfl
  · exact w_c0
  · exact w_c1
  · exact w_c2
  · exact w_c3
  · exact w_c4
  · exact w_c5
set_option maxRecDepth 65536 in
theorem w_t1 : (words1.take 24).all (fun c => isCode c || c.before args0 about1) = true := by decide +kernel
set_option maxRecDepth 65536 in
theorem w_t2 : (words1.drop 24).all (fun c => isCode c || c.before args0 about1) = true := by decide +kernel
theorem w_tables : (allAtoms (Jvm.Cond.code x code maxLocals ret :: tables_1)).before args0 about1 = true := by
  rw [allAtoms_all]
  show words1.all (fun c => c.before args0 about1) = true
  refine all_split ?_ w_codes
  rw [← List.take_append_drop 24 words1, List.all_append, w_t1, w_t2]
  rfl
set_option maxRecDepth 65536 in
theorem w_case : (Jvm.Cond.and given_1 narrow_1).before args0 about1 = true := by decide +kernel
theorem w_applies : (headSpec (Jvm.Cond.code x code maxLocals ret :: tables_1) room_1).applies x e0.platform about1 = true :=
  (Spec.applies_iff w_frames).mpr ⟨w_running, w_runnable, w_alone, w_named, w_hears, w_ripe, w_room, w_tables⟩
theorem atStart : AtStart classFile x code maxLocals ret World_1 tables_1 room_1 Calls_1 rest_1 Pre_1 launch0 p0 e0 about1 theMethod args0 below0 :=
  ⟨lists_1, trivial, launch0.admits_env _ _ _, launch0.least_env, fairChoices_fair.cas, fairChoices_fair.clock, w_frames, w_args, w_heap, w_applies, trivial, trivial, w_case⟩
end start1
theorem witness_1 : WitnessClaimed_1 := ⟨start1.p0, start1.e0, start1.about1, start1.theMethod, start1.args0, start1.below0, start1.atStart⟩
end Jvm.Pilot.@@N@@
