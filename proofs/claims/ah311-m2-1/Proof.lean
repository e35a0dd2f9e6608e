import JvmDerived
import JvmDerived.Pilot.@@N@@Statement
import JvmDerived.Pilot.@@N@@Code
set_option linter.unusedVariables false
set_option linter.unusedSimpArgs false
namespace Jvm.Pilot.@@N@@
open Jvm Jvm.ClassFile Sem Op Lib Jvm.Free Jvm.Stand Jvm.LawKit Jvm.RoadKit Bundle Jvm.Pilot.@@N@@.Jvm.D
/-! own layer: the run from a state ends in a return of which Q holds; one step leads from there to there -/
def own_ishl (x y : Int32) : Int32 := x <<< (y &&& 31)
def own_ishr (x y : Int32) : Int32 := x >>> (y &&& 31)
def own_iushr (x y : Int32) : Int32 := (x.toUInt32 >>> (y &&& 31).toUInt32).toInt32
def own_lshl (x : Int64) (y : Int32) : Int64 := x <<< (y &&& 0x3f).toInt64
def own_lshr (x : Int64) (y : Int32) : Int64 := x >>> (y &&& 0x3f).toInt64
def own_lushr (x : Int64) (y : Int32) : Int64 := (x.toUInt64 >>> (y &&& 0x3f).toInt64.toUInt64).toInt64
def own_i2b (x : Int32) : Int32 := x.toInt8.toInt32
def own_i2c (x : Int32) : Int32 := x.toUInt32.toUInt16.toUInt32.toInt32
def own_Fin (tb : Tables) (e : Env) (below : List Frame) (s : State) (Q : Option Value → Heap → List Loc → Prop) (k n : Nat) (t : State) : Prop :=
  ∃ s₂ o, Steps tb e below t s₂ ∧ s₂.status = .running ∧ Ended s₂ below o ∧ ∃ v L, o = .returned v ∧ Q v s₂.heap L ∧ FrameEnd s o s₂ L k n
theorem own_go {tb : Tables} {e : Env} {below : List Frame} {s : State} {Q : Option Value → Heap → List Loc → Prop} {k n : Nat} {t t' : State}
    (h : ∀ target, Steps tb e below t' target → Steps tb e below t target) (q : own_Fin tb e below s Q k n t') : own_Fin tb e below s Q k n t := by
  obtain ⟨s2, o, h1, h2⟩ := q
  exact ⟨s2, o, h _ h1, h2⟩
def own_QP (r : Option Value) (h0 : Heap) (n0 : Nat) (v : Option Value) (h : Heap) (L : List Loc) : Prop := v = r ∧ Fr n0 L ∧ h = h0
section OwnA
variable {p : Program} {l : Launch} {e : Env} {R : Room} {s : State} {m : MethodId} {args : Array Value} {below : List Frame} {meth : Method} {c : Code} {T : State} {locs : List Loc} {cells slots : Nat}
theorem own_mono (X : Stand p l e R s m args below meth c T locs cells slots) {k n : Nat} (hk : cells ≤ k) (hn : slots ≤ n) : Stand p l e R s m args below meth c T locs k n :=
  { X with same := X.same.mono hk hn }
theorem own_ret (X : Stand p l e R s m args below meth c T locs cells slots) (hx : p.tables.exec = Jvm.exec) (hlk : meth.locks = false) {pc : Nat} {Ls : Array Slot} {w : Value} {t : FieldType} {i : Instr} {rest : List Value} (hret : meth.sig.returnType = some t) (hn : narrow t w = w)
    (hi : (i = .ireturn ∧ (t = .int ∨ t = .boolean ∨ t = .byte ∨ t = .char ∨ t = .short) ∧ ∃ z, w = .int z) ∨ (i = .lreturn ∧ t = .long ∧ ∃ z, w = .long z) ∨ (i = .dreturn ∧ t = .double ∧ ∃ z, w = .double z) ∨ (i = .freturn ∧ t = .float ∧ ∃ z, w = .float z) ∨ (i = .areturn ∧ t.isReference = true ∧ w.isRef = true))
    (hd : decode c.code pc = .ok (i, 1)) {Q : Option Value → Heap → List Loc → Prop} {k n : Nat} (hk : cells ≤ k) (hs : slots ≤ n) (hQ : Q (some w) T.heap locs) :
    own_Fin p.tables e below s Q k n (T.setTop (mkF m pc Ls (w :: rest))) := by
  obtain ⟨fs, hr, hrun, hended, hW, hsame⟩ := X.leave (v := some w) (fun h => by rw [hret] at h; cases h) hlk
  exact ⟨_, _, retOut X hx hret hn hi hd hr, hrun, hended, _, _, rfl, hQ, ⟨_, rfl⟩, hW, hsame.mono hk hs⟩
theorem own_retV (X : Stand p l e R s m args below meth c T locs cells slots) (hx : p.tables.exec = Jvm.exec) (hlk : meth.locks = false) {pc : Nat} {Ls : Array Slot} (hret : meth.sig.returnType = none)
    (hd : decode c.code pc = .ok (.return_, 1)) {Q : Option Value → Heap → List Loc → Prop} {k n : Nat} (hk : cells ≤ k) (hs : slots ≤ n) (hQ : Q none T.heap locs) :
    own_Fin p.tables e below s Q k n (T.setTop (mkF m pc Ls [])) := by
  obtain ⟨fs, hr, hrun, hended, hW, hsame⟩ := X.leave (v := none) (fun _ => rfl) hlk
  exact ⟨_, _, X.returnOut hx hret hd hr, hrun, hended, _, _, rfl, hQ, ⟨_, rfl⟩, hW, hsame.mono hk hs⟩
end OwnA
theorem own_irem {tb : Tables} [Ours tb] {e : Env} {below : List Frame} {T target : State} {m : MethodId} {c : Code} {g : JFrame} (h : At T m c below) (hx : tb.exec = Jvm.exec) (hg : g.method = m) {x y : Int32} {rest : List Value} (hd : decode c.code g.pc = .ok (.irem, 1)) (hs : g.stack = .int y :: .int x :: rest) (hy : y ≠ 0)
    (hr : Steps tb e below (T.setTop { g with pc := g.pc + 1, stack := .int (x % y) :: rest }) target) : Steps tb e below (T.setTop g) target :=
  XS.irem h hx hg hd hs hy (by rw [irem_eq_mod x y]; exact hr)
theorem own_lrem {tb : Tables} [Ours tb] {e : Env} {below : List Frame} {T target : State} {m : MethodId} {c : Code} {g : JFrame} (h : At T m c below) (hx : tb.exec = Jvm.exec) (hg : g.method = m) {x y : Int64} {rest : List Value} (hd : decode c.code g.pc = .ok (.lrem, 1)) (hs : g.stack = .long y :: .long x :: rest) (hy : y ≠ 0)
    (hr : Steps tb e below (T.setTop { g with pc := g.pc + 1, stack := .long (x % y) :: rest }) target) : Steps tb e below (T.setTop g) target :=
  XS.lrem h hx hg hd hs hy (by rw [lrem_mod x y]; exact hr)
/-! arrays by a function of the place -/
def own_set {α : Type} (f : Nat → α) (j : Int32) (v : α) : Nat → α := fun i => if i = j.toNatClampNeg then v else f i
def own_Arf (Z : State) (h : Heap) (a : Addr) (ty : FieldType) (n : Int32) (f : Nat → Value) : Prop :=
  ∃ c : Cell, Arr Z h a c ty ∧ c.slots.size = n.toNatClampNeg ∧ ¬ n < 0 ∧ ∀ i, i < n.toNatClampNeg → c.slots[i]? = some (f i)
section OwnB
variable {Z : State} {h h' : Heap} {a b : Addr} {ty : FieldType} {n j : Int32} {f : Nat → Value} {ws : List Addr} {v : Value} {sl : Nat}
theorem own_Arf.lt (F : own_Arf Z h a ty n f) : a < h.size := by obtain ⟨c, A, -⟩ := F; exact A.lt
theorem own_Arf.ext (F : own_Arf Z h a ty n f) (E : Ext h h') : own_Arf Z h' a ty n f := by obtain ⟨c, A, r⟩ := F; exact ⟨c, A.ext E, r⟩
theorem own_Arf.other (F : own_Arf Z h b ty n f) (W : Wr h h' a sl v) (q : b ≠ a) : own_Arf Z h' b ty n f := by obtain ⟨c, A, r⟩ := F; exact ⟨c, A.other W q, r⟩
theorem own_Arf.keep (F : own_Arf Z h a ty n f) (K : Keep h h' ws) (q : a ∉ ws) : own_Arf Z h' a ty n f := by obtain ⟨c, A, r⟩ := F; exact ⟨c, ⟨K.2.1 a c A.1 q, A.2⟩, r⟩
theorem own_Arf.new {k : ClassId} (A : Arr Z h a (newA k ty n) ty) (q : ¬ n < 0) : own_Arf Z h a ty n (fun _ => defaultValue ty) :=
  ⟨_, A, sz_new _ _ _, q, fun i hi => by simp [newA, hi]⟩
theorem own_Arf.wr (F : own_Arf Z h a ty n f) (W : Wr h h' a j.toNatClampNeg v) : own_Arf Z h' a ty n (fun i => if i = j.toNatClampNeg then v else f i) := by
  obtain ⟨c, A, S, q, H⟩ := F
  refine ⟨_, A.same W, by rw [sz_set]; exact S, q, fun i hi => ?_⟩
  by_cases u : i = j.toNatClampNeg
  · subst u; simp [Cell.setSlot, S, hi]
  · simp only [if_neg u, Cell.setSlot]; rw [Array.getElem?_setIfInBounds_ne (Ne.symm u)]; exact H i hi
theorem own_Arf.fn {g : Nat → Value} (F : own_Arf Z h a ty n f) (q : ∀ i, i < n.toNatClampNeg → f i = g i) : own_Arf Z h a ty n g := by
  obtain ⟨c, A, S, q', H⟩ := F
  exact ⟨c, A, S, q', fun i hi => by rw [← q i hi]; exact H i hi⟩
variable {p : Program} {l : Launch} {e : Env} {R : Room} {s : State} {m : MethodId} {args : Array Value} {below : List Frame} {meth : Method} {c : Code} {T : State} {locs : List Loc} {cells slots : Nat} {g : JFrame} {rest : List Value}
theorem own_alen (X : Stand p l e R s m args below meth c T locs cells slots) (hx : p.tables.exec = Jvm.exec) (hZ : Z.Warmed39 s.vm) (eT : T.heap = h) (F : own_Arf Z h a ty n f) (hg : g.method = m) (hs : g.stack = .ref a :: rest) (hd : decode c.code g.pc = .ok (.arraylength, 1)) (target : State)
    (hr : Steps p.tables e below (T.setTop { g with pc := g.pc + 1, stack := .int n :: rest }) target) : Steps p.tables e below (T.setTop g) target := by
  obtain ⟨cl, A, S, q, H⟩ := F
  refine X.arraylength hx (by rw [eT]; exact A.1) (State.isArrayOf_alike hZ.alike A.2.1) hg hs hd _ ?_
  rw [len_of S q]; exact hr
theorem own_iaload (X : Stand p l e R s m args below meth c T locs cells slots) (hx : p.tables.exec = Jvm.exec) (hZ : Z.Warmed39 s.vm) (eT : T.heap = h) (F : own_Arf Z h a .int n f) (hj : ¬ j < 0 ∧ j < n) {x : Int32} (hv : f j.toNatClampNeg = .int x) (hg : g.method = m) (hs : g.stack = .int j :: .ref a :: rest) (hd : decode c.code g.pc = .ok (.iaload, 1)) (target : State)
    (hr : Steps p.tables e below (T.setTop { g with pc := g.pc + 1, stack := .int x :: rest }) target) : Steps p.tables e below (T.setTop g) target := by
  obtain ⟨cl, A, S, q, H⟩ := F
  have hin := inb_of S hj
  exact X.iaload hx (by rw [eT]; exact A.1) (State.isArrayOf_alike hZ.alike A.2.1) A.2.2 hin (by rw [H _ (by rw [← S]; omega), hv]) hg hs hd _ hr
theorem own_baload (X : Stand p l e R s m args below meth c T locs cells slots) (hx : p.tables.exec = Jvm.exec) (hZ : Z.Warmed39 s.vm) (eT : T.heap = h) (F : own_Arf Z h a .byte n f) (hj : ¬ j < 0 ∧ j < n) {x : Int32} (hv : f j.toNatClampNeg = .int x) (hg : g.method = m) (hs : g.stack = .int j :: .ref a :: rest) (hd : decode c.code g.pc = .ok (.baload, 1)) (target : State)
    (hr : Steps p.tables e below (T.setTop { g with pc := g.pc + 1, stack := .int x :: rest }) target) : Steps p.tables e below (T.setTop g) target := by
  obtain ⟨cl, A, S, q, H⟩ := F
  have hin := inb_of S hj
  exact X.baloadBytes hx (by rw [eT]; exact A.1) (State.isArrayOf_alike hZ.alike A.2.1) A.2.2 hin (by rw [H _ (by rw [← S]; omega), hv]) hg hs hd _ hr
theorem own_laload (X : Stand p l e R s m args below meth c T locs cells slots) (hx : p.tables.exec = Jvm.exec) (hZ : Z.Warmed39 s.vm) (eT : T.heap = h) (F : own_Arf Z h a .long n f) (hj : ¬ j < 0 ∧ j < n) {x : Int64} (hv : f j.toNatClampNeg = .long x) (hg : g.method = m) (hs : g.stack = .int j :: .ref a :: rest) (hd : decode c.code g.pc = .ok (.laload, 1)) (target : State)
    (hr : Steps p.tables e below (T.setTop { g with pc := g.pc + 1, stack := .long x :: rest }) target) : Steps p.tables e below (T.setTop g) target := by
  obtain ⟨cl, A, S, q, H⟩ := F
  have hin := inb_of S hj
  exact X.laload hx (by rw [eT]; exact A.1) (State.isArrayOf_alike hZ.alike A.2.1) A.2.2 hin (by rw [H _ (by rw [← S]; omega), hv]) hg hs hd _ hr
theorem own_stI (X : Stand p l e R s m args below meth c T locs cells slots) (hx : p.tables.exec = Jvm.exec) (hZ : Z.Warmed39 s.vm) (eT : T.heap = h) {q : Nat → Int32} (F : own_Arf Z h a .int n (fun i => .int (q i))) (hj : ¬ j < 0 ∧ j < n) {x : Int32} (hg : g.method = m) (hs : g.stack = .int x :: .int j :: .ref a :: rest) (hd : decode c.code g.pc = .ok (.iastore, 1)) :
    ∃ T' h', Stand p l e R s m args below meth c T' (locs ++ [⟨a, j.toNatClampNeg⟩]) cells slots ∧ T'.heap = h' ∧ Wr h h' a j.toNatClampNeg (.int x) ∧ own_Arf Z h' a .int n (fun i => .int (own_set q j x i)) ∧ ∀ target, Steps p.tables e below (T'.setTop { g with pc := g.pc + 1, stack := rest }) target → Steps p.tables e below (T.setTop g) target := by
  obtain ⟨cl, A, S, q1, H⟩ := F
  obtain ⟨T', h', X', e', W, st⟩ := stI X hx hZ eT A (inb_of S hj) hg hs hd
  refine ⟨T', h', X', e', W, (own_Arf.wr ⟨cl, A, S, q1, H⟩ W).fn fun i hi => ?_, st⟩
  simp only [own_set]; split <;> rfl
theorem own_stB (X : Stand p l e R s m args below meth c T locs cells slots) (hx : p.tables.exec = Jvm.exec) (hZ : Z.Warmed39 s.vm) (eT : T.heap = h) {q : Nat → Int32} (F : own_Arf Z h a .byte n (fun i => .int (q i))) (hj : ¬ j < 0 ∧ j < n) {x : Int32} (hg : g.method = m) (hs : g.stack = .int x :: .int j :: .ref a :: rest) (hd : decode c.code g.pc = .ok (.bastore, 1)) :
    ∃ T' h', Stand p l e R s m args below meth c T' (locs ++ [⟨a, j.toNatClampNeg⟩]) cells slots ∧ T'.heap = h' ∧ Wr h h' a j.toNatClampNeg (.int (own_i2b x)) ∧ own_Arf Z h' a .byte n (fun i => .int (own_set q j (own_i2b x) i)) ∧ ∀ target, Steps p.tables e below (T'.setTop { g with pc := g.pc + 1, stack := rest }) target → Steps p.tables e below (T.setTop g) target := by
  obtain ⟨cl, A, S, q1, H⟩ := F
  obtain ⟨T', h', X', e', W, st⟩ := stB X hx hZ eT A (inb_of S hj) hg hs hd
  refine ⟨T', h', X', e', W, (own_Arf.wr ⟨cl, A, S, q1, H⟩ W).fn fun i hi => ?_, st⟩
  simp only [own_set]; split <;> rfl
theorem own_stJ (X : Stand p l e R s m args below meth c T locs cells slots) (hx : p.tables.exec = Jvm.exec) (hZ : Z.Warmed39 s.vm) (eT : T.heap = h) {q : Nat → Int64} (F : own_Arf Z h a .long n (fun i => .long (q i))) (hj : ¬ j < 0 ∧ j < n) {x : Int64} (hg : g.method = m) (hs : g.stack = .long x :: .int j :: .ref a :: rest) (hd : decode c.code g.pc = .ok (.lastore, 1)) :
    ∃ T' h', Stand p l e R s m args below meth c T' (locs ++ [⟨a, j.toNatClampNeg⟩]) cells slots ∧ T'.heap = h' ∧ Wr h h' a j.toNatClampNeg (.long x) ∧ own_Arf Z h' a .long n (fun i => .long (own_set q j x i)) ∧ ∀ target, Steps p.tables e below (T'.setTop { g with pc := g.pc + 1, stack := rest }) target → Steps p.tables e below (T.setTop g) target := by
  obtain ⟨cl, A, S, q1, H⟩ := F
  obtain ⟨T', h', X', e', W, st⟩ := stJ X hx hZ eT A (inb_of S hj) hg hs hd
  refine ⟨T', h', X', e', W, (own_Arf.wr ⟨cl, A, S, q1, H⟩ W).fn fun i hi => ?_, st⟩
  simp only [own_set]; split <;> rfl
end OwnB
def own_QL (r : Option Value) (n0 : Nat) (v : Option Value) (h : Heap) (L : List Loc) : Prop := v = r ∧ Fr n0 L ∧ True
theorem own_ne_arf {Z : State} {h : Heap} {a b : Addr} {C : String} {ty : FieldType} {n : Int32} {f : Nat → Value} {a0 : Array Value} {k : Nat} (F : Exa Z h a C) (wi : (Cond.instantiable C k).before a0 Z = true) (G : own_Arf Z h b ty n f) : a ≠ b := by
  obtain ⟨c, A, -⟩ := G; exact ne_arr F wi A
def own_Two (a b : Slot) : Prop := (a = .unset ∧ b = .unset) ∨ ∃ x : Int64, a = .val (.long x) ∧ b = .second
theorem own_nb (x : Int32) : narrow .byte (.int (own_i2b x)) = .int (own_i2b x) := by
  show Value.int ((own_i2b x).toInt8.toInt32) = _
  simp [own_i2b]
theorem d1_0 : decode method_2_code 0 = .ok (.iload_n 0, 1) := by decide +kernel
theorem d1_1 : decode method_2_code 1 = .ok (.iconst 1, 1) := by decide +kernel
theorem d1_2 : decode method_2_code 2 = .ok (.iand, 1) := by decide +kernel
theorem d1_3 : decode method_2_code 3 = .ok (.ifCond .eq 14, 3) := by decide +kernel
theorem d1_6 : decode method_2_code 6 = .ok (.bipush 47, 2) := by decide +kernel
theorem d1_8 : decode method_2_code 8 = .ok (.iload_n 0, 1) := by decide +kernel
theorem d1_9 : decode method_2_code 9 = .ok (.iconst 1, 1) := by decide +kernel
theorem d1_10 : decode method_2_code 10 = .ok (.iushr, 1) := by decide +kernel
theorem d1_11 : decode method_2_code 11 = .ok (.bipush 12, 2) := by decide +kernel
theorem d1_13 : decode method_2_code 13 = .ok (.irem, 1) := by decide +kernel
theorem d1_14 : decode method_2_code 14 = .ok (.iadd, 1) := by decide +kernel
theorem d1_15 : decode method_2_code 15 = .ok (.i2b, 1) := by decide +kernel
theorem d1_16 : decode method_2_code 16 = .ok (.ireturn, 1) := by decide +kernel
theorem d1_17 : decode method_2_code 17 = .ok (.iload_n 0, 1) := by decide +kernel
theorem d1_18 : decode method_2_code 18 = .ok (.iconst 1, 1) := by decide +kernel
theorem d1_19 : decode method_2_code 19 = .ok (.ishr, 1) := by decide +kernel
theorem d1_20 : decode method_2_code 20 = .ok (.i2b, 1) := by decide +kernel
theorem d1_21 : decode method_2_code 21 = .ok (.ireturn, 1) := by decide +kernel
theorem pn_1 : plainName "com/example/plain_tariff/plaintariff/OffsetInstantDigitsPinLaw" = true := by first | (simp [plainName, overriddenIn]; done) | decide +kernel
theorem ef_1 (m : MethodId) (p0 : Int32) : entryFrame m #[(.int p0)] 1 = mkF m 0 #[.val (.int p0)] [] := by first | (simp [entryFrame, mkF, argsToLocals, Value.category]; done) | rfl
def own_rm1_room : Room := { frames := 0, cells := 0, slots := 0, locals := 0 }
def own_f1 (p0 : Int32) : Int32 := (if (p0 &&& (1 : Int32)) = (0 : Int32) then ((own_i2b (own_ishr p0 (1 : Int32)))) else ((own_i2b ((47 : Int32) + ((own_iushr p0 (1 : Int32)) % (12 : Int32))))))
theorem own_lf_own_f1_1 {p0 : Int32} (hc1 : (p0 &&& (1 : Int32)) = (0 : Int32)) : (some (.int (own_i2b (own_ishr p0 (1 : Int32)))) : Option Value) = some (.int (own_f1 p0)) := by
  first | (simp only [own_f1, if_pos hc1]; done) | (simp only [own_f1, if_pos hc1]; rfl) | rfl
theorem own_lf_own_f1_2 {p0 : Int32} (hc1 : ¬ ((p0 &&& (1 : Int32)) = (0 : Int32))) : (some (.int (own_i2b ((47 : Int32) + ((own_iushr p0 (1 : Int32)) % (12 : Int32))))) : Option Value) = some (.int (own_f1 p0)) := by
  first | (simp only [own_f1, if_neg hc1]; done) | (simp only [own_f1, if_neg hc1]; rfl) | rfl
set_option maxRecDepth 65536 in
set_option maxHeartbeats 40000000 in
theorem rm1 (l : Launch) (Z : State) (a0 : Array Value) (hw : ∀ d ∈ tables_1, d.before a0 Z = true) (ws : List Jvm.Cond) (p0 : Int32) (h0 : Heap) (n0 : Nat) (Z0 : n0 ≤ h0.size) :
    MetFree l (⟨"com/example/plain_tariff/plaintariff/OffsetInstantDigitsPinLaw", "b", "(I)B"⟩ : MethodName) (head1 (Jvm.Cond.code (⟨"com/example/plain_tariff/plaintariff/OffsetInstantDigitsPinLaw", "b", "(I)B"⟩ : MethodName) method_2_code 1 (some .byte) :: ws) own_rm1_room) (fun a U => a = #[(.int p0)] ∧ Z.Warmed39 U.vm ∧ U.heap = h0) (fun _ _ _ _ _ => True) (fun _ U o U' => ∃ v L, o = .returned v ∧ own_QP (some (.int (own_f1 p0))) h0 n0 v U'.heap L ∧ FrameEnd U o U' L own_rm1_room.cells own_rm1_room.slots) := by
  refine MetFree.of_bodySF (plainFor_of_name pn_1) hisR ?_
  intro p e s m args below meth c s₁ Bd hml0 hP hK
  obtain ⟨rfl, hZ, hh⟩ := hP
  have hx := Bd.exec
  have hby := Bd.bytes
  have hml : c.maxLocals = 1 := hml0
  have hown : s.vm.findClass "com/example/plain_tariff/plaintariff/OffsetInstantDigitsPinLaw" = some m.cls := findClass_of_methodNamed Bd.named
  have hnm := (name_of_methodNamed Bd.named Bd.method).1
  have hlk : meth.locks = false := BodyLoose.notSynchronized Bd
  have X0 : Stand p l e own_rm1_room s m #[(.int p0)] below meth c s₁ [] 0 0 := Stand.of_body Bd
  have e0 : s₁.heap = h0 := by rw [← hh, Bd.state]; rfl
  have N0 := Fr.nil n0
  show own_Fin p.tables e below s (own_QP (some (.int (own_f1 p0))) h0 n0) own_rm1_room.cells own_rm1_room.slots (s₁.setTop (entryFrame m #[(.int p0)] 1))
  rw [ef_1]
  show own_Fin _ _ _ _ _ _ _ (s₁.setTop (mkF m 0 #[.val (.int p0)] []))
  refine own_go (fun _ k => XS.iloadN X0.here hx rfl (hb hby d1_0) rfl k) ?_
  show own_Fin _ _ _ _ _ _ _ (s₁.setTop (mkF m 1 #[.val (.int p0)] [(.int p0)]))
  refine own_go (fun _ k => XS.iconst X0.here hx rfl (hb hby d1_1) k) ?_
  show own_Fin _ _ _ _ _ _ _ (s₁.setTop (mkF m 2 #[.val (.int p0)] [(.int (1 : Int32)), (.int p0)]))
  refine own_go (fun _ k => XS.iand X0.here hx rfl (hb hby d1_2) rfl k) ?_
  show own_Fin _ _ _ _ _ _ _ (s₁.setTop (mkF m 3 #[.val (.int p0)] [(.int (p0 &&& (1 : Int32)))]))
  by_cases hc1 : (p0 &&& (1 : Int32)) = (0 : Int32)
  · refine own_go (fun _ k => XS.ifYes X0.here hx rfl (pc0 := 3) (pc' := 17) rfl (hb hby d1_3) rfl ((if0 _ _).trans (teq hc1).1) (by decide) (by decide) k) ?_
    show own_Fin _ _ _ _ _ _ _ (s₁.setTop (mkF m 17 #[.val (.int p0)] []))
    refine own_go (fun _ k => XS.iloadN X0.here hx rfl (hb hby d1_17) rfl k) ?_
    show own_Fin _ _ _ _ _ _ _ (s₁.setTop (mkF m 18 #[.val (.int p0)] [(.int p0)]))
    refine own_go (fun _ k => XS.iconst X0.here hx rfl (hb hby d1_18) k) ?_
    show own_Fin _ _ _ _ _ _ _ (s₁.setTop (mkF m 19 #[.val (.int p0)] [(.int (1 : Int32)), (.int p0)]))
    refine own_go (fun _ k => XS.ishr X0.here hx rfl (hb hby d1_19) rfl k) ?_
    show own_Fin _ _ _ _ _ _ _ (s₁.setTop (mkF m 20 #[.val (.int p0)] [(.int (own_ishr p0 (1 : Int32)))]))
    refine own_go (fun _ k => XS.i2b X0.here hx rfl (hb hby d1_20) rfl k) ?_
    show own_Fin _ _ _ _ _ _ _ (s₁.setTop (mkF m 21 #[.val (.int p0)] [(.int (own_i2b (own_ishr p0 (1 : Int32))))]))
    refine own_ret X0 hx hlk Bd.returns (own_nb _) (Or.inl ⟨rfl, by simp, _, rfl⟩) (hb hby d1_21) (Nat.le_of_ble_eq_true rfl) (Nat.le_of_ble_eq_true rfl) ?_
    exact ⟨(own_lf_own_f1_1 (p0 := p0) hc1), N0, e0⟩
  · refine own_go (fun _ k => XS.ifNo X0.here hx rfl (hb hby d1_3) rfl ((if0 _ _).trans (feq hc1).1) k) ?_
    show own_Fin _ _ _ _ _ _ _ (s₁.setTop (mkF m 6 #[.val (.int p0)] []))
    refine own_go (fun _ k => XS.bipush X0.here hx rfl (hb hby d1_6) k) ?_
    show own_Fin _ _ _ _ _ _ _ (s₁.setTop (mkF m 8 #[.val (.int p0)] [(.int (47 : Int32))]))
    refine own_go (fun _ k => XS.iloadN X0.here hx rfl (hb hby d1_8) rfl k) ?_
    show own_Fin _ _ _ _ _ _ _ (s₁.setTop (mkF m 9 #[.val (.int p0)] [(.int p0), (.int (47 : Int32))]))
    refine own_go (fun _ k => XS.iconst X0.here hx rfl (hb hby d1_9) k) ?_
    show own_Fin _ _ _ _ _ _ _ (s₁.setTop (mkF m 10 #[.val (.int p0)] [(.int (1 : Int32)), (.int p0), (.int (47 : Int32))]))
    refine own_go (fun _ k => XS.iushr X0.here hx rfl (hb hby d1_10) rfl k) ?_
    show own_Fin _ _ _ _ _ _ _ (s₁.setTop (mkF m 11 #[.val (.int p0)] [(.int (own_iushr p0 (1 : Int32))), (.int (47 : Int32))]))
    refine own_go (fun _ k => XS.bipush X0.here hx rfl (hb hby d1_11) k) ?_
    show own_Fin _ _ _ _ _ _ _ (s₁.setTop (mkF m 13 #[.val (.int p0)] [(.int (12 : Int32)), (.int (own_iushr p0 (1 : Int32))), (.int (47 : Int32))]))
    refine own_go (fun _ k => own_irem X0.here hx rfl (hb hby d1_13) rfl (by decide) k) ?_
    show own_Fin _ _ _ _ _ _ _ (s₁.setTop (mkF m 14 #[.val (.int p0)] [(.int ((own_iushr p0 (1 : Int32)) % (12 : Int32))), (.int (47 : Int32))]))
    refine own_go (fun _ k => XS.iadd X0.here hx rfl (hb hby d1_14) rfl k) ?_
    show own_Fin _ _ _ _ _ _ _ (s₁.setTop (mkF m 15 #[.val (.int p0)] [(.int ((47 : Int32) + ((own_iushr p0 (1 : Int32)) % (12 : Int32))))]))
    refine own_go (fun _ k => XS.i2b X0.here hx rfl (hb hby d1_15) rfl k) ?_
    show own_Fin _ _ _ _ _ _ _ (s₁.setTop (mkF m 16 #[.val (.int p0)] [(.int (own_i2b ((47 : Int32) + ((own_iushr p0 (1 : Int32)) % (12 : Int32)))))]))
    refine own_ret X0 hx hlk Bd.returns (own_nb _) (Or.inl ⟨rfl, by simp, _, rfl⟩) (hb hby d1_16) (Nat.le_of_ble_eq_true rfl) (Nat.le_of_ble_eq_true rfl) ?_
    exact ⟨(own_lf_own_f1_2 (p0 := p0) hc1), N0, e0⟩
theorem d5_0 : decode method_3_code 0 = .ok (.iload_n 0, 1) := by decide +kernel
theorem d5_1 : decode method_3_code 1 = .ok (.bipush 48, 2) := by decide +kernel
theorem d5_3 : decode method_3_code 3 = .ok (.if_icmp .lt 14, 3) := by decide +kernel
theorem d5_6 : decode method_3_code 6 = .ok (.iload_n 0, 1) := by decide +kernel
theorem d5_7 : decode method_3_code 7 = .ok (.bipush 57, 2) := by decide +kernel
theorem d5_9 : decode method_3_code 9 = .ok (.if_icmp .gt 8, 3) := by decide +kernel
theorem d5_12 : decode method_3_code 12 = .ok (.iload_n 0, 1) := by decide +kernel
theorem d5_13 : decode method_3_code 13 = .ok (.bipush 48, 2) := by decide +kernel
theorem d5_15 : decode method_3_code 15 = .ok (.isub, 1) := by decide +kernel
theorem d5_16 : decode method_3_code 16 = .ok (.ireturn, 1) := by decide +kernel
theorem d5_17 : decode method_3_code 17 = .ok (.iconst (-1), 1) := by decide +kernel
theorem d5_18 : decode method_3_code 18 = .ok (.ireturn, 1) := by decide +kernel
theorem pn_5 : plainName "com/example/plain_tariff/plaintariff/OffsetInstantDigitsPinLaw" = true := by first | (simp [plainName, overriddenIn]; done) | decide +kernel
theorem ef_5 (m : MethodId) (p0 : Int32) : entryFrame m #[(.int p0)] 1 = mkF m 0 #[.val (.int p0)] [] := by first | (simp [entryFrame, mkF, argsToLocals, Value.category]; done) | rfl
def own_rm5_room : Room := { frames := 0, cells := 0, slots := 0, locals := 0 }
def own_f5 (p0 : Int32) : Int32 := (if p0 < (48 : Int32) then ((-1 : Int32)) else ((if (57 : Int32) < p0 then ((-1 : Int32)) else ((p0 - (48 : Int32))))))
theorem own_lf_own_f5_1 {p0 : Int32} (hc1 : p0 < (48 : Int32)) : (some (.int (-1 : Int32)) : Option Value) = some (.int (own_f5 p0)) := by
  first | (simp only [own_f5, if_pos hc1]; done) | (simp only [own_f5, if_pos hc1]; rfl) | rfl
theorem own_lf_own_f5_2 {p0 : Int32} (hc1 : ¬ (p0 < (48 : Int32))) (hc2 : (57 : Int32) < p0) : (some (.int (-1 : Int32)) : Option Value) = some (.int (own_f5 p0)) := by
  first | (simp only [own_f5, if_neg hc1, if_pos hc2]; done) | (simp only [own_f5, if_neg hc1, if_pos hc2]; rfl) | rfl
theorem own_lf_own_f5_3 {p0 : Int32} (hc1 : ¬ (p0 < (48 : Int32))) (hc2 : ¬ ((57 : Int32) < p0)) : (some (.int (p0 - (48 : Int32))) : Option Value) = some (.int (own_f5 p0)) := by
  first | (simp only [own_f5, if_neg hc1, if_neg hc2]; done) | (simp only [own_f5, if_neg hc1, if_neg hc2]; rfl) | rfl
set_option maxRecDepth 65536 in
set_option maxHeartbeats 40000000 in
theorem rm5 (l : Launch) (Z : State) (a0 : Array Value) (hw : ∀ d ∈ tables_1, d.before a0 Z = true) (ws : List Jvm.Cond) (p0 : Int32) (h0 : Heap) (n0 : Nat) (Z0 : n0 ≤ h0.size) :
    MetFree l (⟨"com/example/plain_tariff/plaintariff/OffsetInstantDigitsPinLaw", "val", "(B)I"⟩ : MethodName) (head1 (Jvm.Cond.code (⟨"com/example/plain_tariff/plaintariff/OffsetInstantDigitsPinLaw", "val", "(B)I"⟩ : MethodName) method_3_code 1 (some .int) :: ws) own_rm5_room) (fun a U => a = #[(.int p0)] ∧ Z.Warmed39 U.vm ∧ U.heap = h0) (fun _ _ _ _ _ => True) (fun _ U o U' => ∃ v L, o = .returned v ∧ own_QP (some (.int (own_f5 p0))) h0 n0 v U'.heap L ∧ FrameEnd U o U' L own_rm5_room.cells own_rm5_room.slots) := by
  refine MetFree.of_bodySF (plainFor_of_name pn_5) hisR ?_
  intro p e s m args below meth c s₁ Bd hml0 hP hK
  obtain ⟨rfl, hZ, hh⟩ := hP
  have hx := Bd.exec
  have hby := Bd.bytes
  have hml : c.maxLocals = 1 := hml0
  have hown : s.vm.findClass "com/example/plain_tariff/plaintariff/OffsetInstantDigitsPinLaw" = some m.cls := findClass_of_methodNamed Bd.named
  have hnm := (name_of_methodNamed Bd.named Bd.method).1
  have hlk : meth.locks = false := BodyLoose.notSynchronized Bd
  have X0 : Stand p l e own_rm5_room s m #[(.int p0)] below meth c s₁ [] 0 0 := Stand.of_body Bd
  have e0 : s₁.heap = h0 := by rw [← hh, Bd.state]; rfl
  have N0 := Fr.nil n0
  show own_Fin p.tables e below s (own_QP (some (.int (own_f5 p0))) h0 n0) own_rm5_room.cells own_rm5_room.slots (s₁.setTop (entryFrame m #[(.int p0)] 1))
  rw [ef_5]
  show own_Fin _ _ _ _ _ _ _ (s₁.setTop (mkF m 0 #[.val (.int p0)] []))
  refine own_go (fun _ k => XS.iloadN X0.here hx rfl (hb hby d5_0) rfl k) ?_
  show own_Fin _ _ _ _ _ _ _ (s₁.setTop (mkF m 1 #[.val (.int p0)] [(.int p0)]))
  refine own_go (fun _ k => XS.bipush X0.here hx rfl (hb hby d5_1) k) ?_
  show own_Fin _ _ _ _ _ _ _ (s₁.setTop (mkF m 3 #[.val (.int p0)] [(.int (48 : Int32)), (.int p0)]))
  by_cases hc1 : p0 < (48 : Int32)
  · refine own_go (fun _ k => XS.icmpYes X0.here hx rfl (pc0 := 3) (pc' := 17) rfl (hb hby d5_3) rfl (tlt hc1).1 (by decide) (by decide) k) ?_
    show own_Fin _ _ _ _ _ _ _ (s₁.setTop (mkF m 17 #[.val (.int p0)] []))
    refine own_go (fun _ k => XS.iconst X0.here hx rfl (hb hby d5_17) k) ?_
    show own_Fin _ _ _ _ _ _ _ (s₁.setTop (mkF m 18 #[.val (.int p0)] [(.int (-1 : Int32))]))
    refine own_ret X0 hx hlk Bd.returns rfl (Or.inl ⟨rfl, by simp, _, rfl⟩) (hb hby d5_18) (Nat.le_of_ble_eq_true rfl) (Nat.le_of_ble_eq_true rfl) ?_
    exact ⟨(own_lf_own_f5_1 (p0 := p0) hc1), N0, e0⟩
  · refine own_go (fun _ k => XS.icmpNo X0.here hx rfl (hb hby d5_3) rfl (flt hc1).1 k) ?_
    show own_Fin _ _ _ _ _ _ _ (s₁.setTop (mkF m 6 #[.val (.int p0)] []))
    refine own_go (fun _ k => XS.iloadN X0.here hx rfl (hb hby d5_6) rfl k) ?_
    show own_Fin _ _ _ _ _ _ _ (s₁.setTop (mkF m 7 #[.val (.int p0)] [(.int p0)]))
    refine own_go (fun _ k => XS.bipush X0.here hx rfl (hb hby d5_7) k) ?_
    show own_Fin _ _ _ _ _ _ _ (s₁.setTop (mkF m 9 #[.val (.int p0)] [(.int (57 : Int32)), (.int p0)]))
    by_cases hc2 : (57 : Int32) < p0
    · refine own_go (fun _ k => XS.icmpYes X0.here hx rfl (pc0 := 9) (pc' := 17) rfl (hb hby d5_9) rfl (tlt hc2).2.2.1 (by decide) (by decide) k) ?_
      show own_Fin _ _ _ _ _ _ _ (s₁.setTop (mkF m 17 #[.val (.int p0)] []))
      refine own_go (fun _ k => XS.iconst X0.here hx rfl (hb hby d5_17) k) ?_
      show own_Fin _ _ _ _ _ _ _ (s₁.setTop (mkF m 18 #[.val (.int p0)] [(.int (-1 : Int32))]))
      refine own_ret X0 hx hlk Bd.returns rfl (Or.inl ⟨rfl, by simp, _, rfl⟩) (hb hby d5_18) (Nat.le_of_ble_eq_true rfl) (Nat.le_of_ble_eq_true rfl) ?_
      exact ⟨(own_lf_own_f5_2 (p0 := p0) hc1 hc2), N0, e0⟩
    · refine own_go (fun _ k => XS.icmpNo X0.here hx rfl (hb hby d5_9) rfl (flt hc2).2.2.1 k) ?_
      show own_Fin _ _ _ _ _ _ _ (s₁.setTop (mkF m 12 #[.val (.int p0)] []))
      refine own_go (fun _ k => XS.iloadN X0.here hx rfl (hb hby d5_12) rfl k) ?_
      show own_Fin _ _ _ _ _ _ _ (s₁.setTop (mkF m 13 #[.val (.int p0)] [(.int p0)]))
      refine own_go (fun _ k => XS.bipush X0.here hx rfl (hb hby d5_13) k) ?_
      show own_Fin _ _ _ _ _ _ _ (s₁.setTop (mkF m 15 #[.val (.int p0)] [(.int (48 : Int32)), (.int p0)]))
      refine own_go (fun _ k => XS.isub X0.here hx rfl (hb hby d5_15) rfl k) ?_
      show own_Fin _ _ _ _ _ _ _ (s₁.setTop (mkF m 16 #[.val (.int p0)] [(.int (p0 - (48 : Int32)))]))
      refine own_ret X0 hx hlk Bd.returns rfl (Or.inl ⟨rfl, by simp, _, rfl⟩) (hb hby d5_16) (Nat.le_of_ble_eq_true rfl) (Nat.le_of_ble_eq_true rfl) ?_
      exact ⟨(own_lf_own_f5_3 (p0 := p0) hc1 hc2), N0, e0⟩
theorem d6_0 : decode method_4_code 0 = .ok (.iload_n 0, 1) := by decide +kernel
theorem d6_1 : decode method_4_code 1 = .ok (.ifCond .ne 5, 3) := by decide +kernel
theorem d6_4 : decode method_4_code 4 = .ok (.iconst 1, 1) := by decide +kernel
theorem d6_5 : decode method_4_code 5 = .ok (.ireturn, 1) := by decide +kernel
theorem d6_6 : decode method_4_code 6 = .ok (.iload_n 0, 1) := by decide +kernel
theorem d6_7 : decode method_4_code 7 = .ok (.iconst 1, 1) := by decide +kernel
theorem d6_8 : decode method_4_code 8 = .ok (.if_icmp .ne 6, 3) := by decide +kernel
theorem d6_11 : decode method_4_code 11 = .ok (.bipush 10, 2) := by decide +kernel
theorem d6_13 : decode method_4_code 13 = .ok (.ireturn, 1) := by decide +kernel
theorem d6_14 : decode method_4_code 14 = .ok (.iload_n 0, 1) := by decide +kernel
theorem d6_15 : decode method_4_code 15 = .ok (.iconst 2, 1) := by decide +kernel
theorem d6_16 : decode method_4_code 16 = .ok (.if_icmp .ne 6, 3) := by decide +kernel
theorem d6_19 : decode method_4_code 19 = .ok (.bipush 100, 2) := by decide +kernel
theorem d6_21 : decode method_4_code 21 = .ok (.ireturn, 1) := by decide +kernel
theorem d6_22 : decode method_4_code 22 = .ok (.sipush 1000, 3) := by decide +kernel
theorem d6_25 : decode method_4_code 25 = .ok (.ireturn, 1) := by decide +kernel
theorem pn_6 : plainName "com/example/plain_tariff/plaintariff/OffsetInstantDigitsPinLaw" = true := by first | (simp [plainName, overriddenIn]; done) | decide +kernel
theorem ef_6 (m : MethodId) (p0 : Int32) : entryFrame m #[(.int p0)] 1 = mkF m 0 #[.val (.int p0)] [] := by first | (simp [entryFrame, mkF, argsToLocals, Value.category]; done) | rfl
def own_rm6_room : Room := { frames := 0, cells := 0, slots := 0, locals := 0 }
def own_f6 (p0 : Int32) : Int32 := (if p0 = (0 : Int32) then ((1 : Int32)) else ((if p0 = (1 : Int32) then ((10 : Int32)) else ((if p0 = (2 : Int32) then ((100 : Int32)) else ((1000 : Int32)))))))
theorem own_lf_own_f6_1 {p0 : Int32} (hc1 : p0 = (0 : Int32)) : (some (.int (1 : Int32)) : Option Value) = some (.int (own_f6 p0)) := by
  first | (simp only [own_f6, if_pos hc1]; done) | (simp only [own_f6, if_pos hc1]; rfl) | rfl
theorem own_lf_own_f6_2 {p0 : Int32} (hc1 : ¬ (p0 = (0 : Int32))) (hc2 : p0 = (1 : Int32)) : (some (.int (10 : Int32)) : Option Value) = some (.int (own_f6 p0)) := by
  first | (simp only [own_f6, if_neg hc1, if_pos hc2]; done) | (simp only [own_f6, if_neg hc1, if_pos hc2]; rfl) | rfl
theorem own_lf_own_f6_3 {p0 : Int32} (hc1 : ¬ (p0 = (0 : Int32))) (hc2 : ¬ (p0 = (1 : Int32))) (hc3 : p0 = (2 : Int32)) : (some (.int (100 : Int32)) : Option Value) = some (.int (own_f6 p0)) := by
  first | (simp only [own_f6, if_neg hc1, if_neg hc2, if_pos hc3]; done) | (simp only [own_f6, if_neg hc1, if_neg hc2, if_pos hc3]; rfl) | rfl
theorem own_lf_own_f6_4 {p0 : Int32} (hc1 : ¬ (p0 = (0 : Int32))) (hc2 : ¬ (p0 = (1 : Int32))) (hc3 : ¬ (p0 = (2 : Int32))) : (some (.int (1000 : Int32)) : Option Value) = some (.int (own_f6 p0)) := by
  first | (simp only [own_f6, if_neg hc1, if_neg hc2, if_neg hc3]; done) | (simp only [own_f6, if_neg hc1, if_neg hc2, if_neg hc3]; rfl) | rfl
set_option maxRecDepth 65536 in
set_option maxHeartbeats 40000000 in
theorem rm6 (l : Launch) (Z : State) (a0 : Array Value) (hw : ∀ d ∈ tables_1, d.before a0 Z = true) (ws : List Jvm.Cond) (p0 : Int32) (h0 : Heap) (n0 : Nat) (Z0 : n0 ≤ h0.size) :
    MetFree l (⟨"com/example/plain_tariff/plaintariff/OffsetInstantDigitsPinLaw", "pow10", "(I)I"⟩ : MethodName) (head1 (Jvm.Cond.code (⟨"com/example/plain_tariff/plaintariff/OffsetInstantDigitsPinLaw", "pow10", "(I)I"⟩ : MethodName) method_4_code 1 (some .int) :: ws) own_rm6_room) (fun a U => a = #[(.int p0)] ∧ Z.Warmed39 U.vm ∧ U.heap = h0) (fun _ _ _ _ _ => True) (fun _ U o U' => ∃ v L, o = .returned v ∧ own_QP (some (.int (own_f6 p0))) h0 n0 v U'.heap L ∧ FrameEnd U o U' L own_rm6_room.cells own_rm6_room.slots) := by
  refine MetFree.of_bodySF (plainFor_of_name pn_6) hisR ?_
  intro p e s m args below meth c s₁ Bd hml0 hP hK
  obtain ⟨rfl, hZ, hh⟩ := hP
  have hx := Bd.exec
  have hby := Bd.bytes
  have hml : c.maxLocals = 1 := hml0
  have hown : s.vm.findClass "com/example/plain_tariff/plaintariff/OffsetInstantDigitsPinLaw" = some m.cls := findClass_of_methodNamed Bd.named
  have hnm := (name_of_methodNamed Bd.named Bd.method).1
  have hlk : meth.locks = false := BodyLoose.notSynchronized Bd
  have X0 : Stand p l e own_rm6_room s m #[(.int p0)] below meth c s₁ [] 0 0 := Stand.of_body Bd
  have e0 : s₁.heap = h0 := by rw [← hh, Bd.state]; rfl
  have N0 := Fr.nil n0
  show own_Fin p.tables e below s (own_QP (some (.int (own_f6 p0))) h0 n0) own_rm6_room.cells own_rm6_room.slots (s₁.setTop (entryFrame m #[(.int p0)] 1))
  rw [ef_6]
  show own_Fin _ _ _ _ _ _ _ (s₁.setTop (mkF m 0 #[.val (.int p0)] []))
  refine own_go (fun _ k => XS.iloadN X0.here hx rfl (hb hby d6_0) rfl k) ?_
  show own_Fin _ _ _ _ _ _ _ (s₁.setTop (mkF m 1 #[.val (.int p0)] [(.int p0)]))
  by_cases hc1 : p0 = (0 : Int32)
  · refine own_go (fun _ k => XS.ifNo X0.here hx rfl (hb hby d6_1) rfl ((if0 _ _).trans (teq hc1).2) k) ?_
    show own_Fin _ _ _ _ _ _ _ (s₁.setTop (mkF m 4 #[.val (.int p0)] []))
    refine own_go (fun _ k => XS.iconst X0.here hx rfl (hb hby d6_4) k) ?_
    show own_Fin _ _ _ _ _ _ _ (s₁.setTop (mkF m 5 #[.val (.int p0)] [(.int (1 : Int32))]))
    refine own_ret X0 hx hlk Bd.returns rfl (Or.inl ⟨rfl, by simp, _, rfl⟩) (hb hby d6_5) (Nat.le_of_ble_eq_true rfl) (Nat.le_of_ble_eq_true rfl) ?_
    exact ⟨(own_lf_own_f6_1 (p0 := p0) hc1), N0, e0⟩
  · refine own_go (fun _ k => XS.ifYes X0.here hx rfl (pc0 := 1) (pc' := 6) rfl (hb hby d6_1) rfl ((if0 _ _).trans (feq hc1).2) (by decide) (by decide) k) ?_
    show own_Fin _ _ _ _ _ _ _ (s₁.setTop (mkF m 6 #[.val (.int p0)] []))
    refine own_go (fun _ k => XS.iloadN X0.here hx rfl (hb hby d6_6) rfl k) ?_
    show own_Fin _ _ _ _ _ _ _ (s₁.setTop (mkF m 7 #[.val (.int p0)] [(.int p0)]))
    refine own_go (fun _ k => XS.iconst X0.here hx rfl (hb hby d6_7) k) ?_
    show own_Fin _ _ _ _ _ _ _ (s₁.setTop (mkF m 8 #[.val (.int p0)] [(.int (1 : Int32)), (.int p0)]))
    by_cases hc2 : p0 = (1 : Int32)
    · refine own_go (fun _ k => XS.icmpNo X0.here hx rfl (hb hby d6_8) rfl (teq hc2).2 k) ?_
      show own_Fin _ _ _ _ _ _ _ (s₁.setTop (mkF m 11 #[.val (.int p0)] []))
      refine own_go (fun _ k => XS.bipush X0.here hx rfl (hb hby d6_11) k) ?_
      show own_Fin _ _ _ _ _ _ _ (s₁.setTop (mkF m 13 #[.val (.int p0)] [(.int (10 : Int32))]))
      refine own_ret X0 hx hlk Bd.returns rfl (Or.inl ⟨rfl, by simp, _, rfl⟩) (hb hby d6_13) (Nat.le_of_ble_eq_true rfl) (Nat.le_of_ble_eq_true rfl) ?_
      exact ⟨(own_lf_own_f6_2 (p0 := p0) hc1 hc2), N0, e0⟩
    · refine own_go (fun _ k => XS.icmpYes X0.here hx rfl (pc0 := 8) (pc' := 14) rfl (hb hby d6_8) rfl (feq hc2).2 (by decide) (by decide) k) ?_
      show own_Fin _ _ _ _ _ _ _ (s₁.setTop (mkF m 14 #[.val (.int p0)] []))
      refine own_go (fun _ k => XS.iloadN X0.here hx rfl (hb hby d6_14) rfl k) ?_
      show own_Fin _ _ _ _ _ _ _ (s₁.setTop (mkF m 15 #[.val (.int p0)] [(.int p0)]))
      refine own_go (fun _ k => XS.iconst X0.here hx rfl (hb hby d6_15) k) ?_
      show own_Fin _ _ _ _ _ _ _ (s₁.setTop (mkF m 16 #[.val (.int p0)] [(.int (2 : Int32)), (.int p0)]))
      by_cases hc3 : p0 = (2 : Int32)
      · refine own_go (fun _ k => XS.icmpNo X0.here hx rfl (hb hby d6_16) rfl (teq hc3).2 k) ?_
        show own_Fin _ _ _ _ _ _ _ (s₁.setTop (mkF m 19 #[.val (.int p0)] []))
        refine own_go (fun _ k => XS.bipush X0.here hx rfl (hb hby d6_19) k) ?_
        show own_Fin _ _ _ _ _ _ _ (s₁.setTop (mkF m 21 #[.val (.int p0)] [(.int (100 : Int32))]))
        refine own_ret X0 hx hlk Bd.returns rfl (Or.inl ⟨rfl, by simp, _, rfl⟩) (hb hby d6_21) (Nat.le_of_ble_eq_true rfl) (Nat.le_of_ble_eq_true rfl) ?_
        exact ⟨(own_lf_own_f6_3 (p0 := p0) hc1 hc2 hc3), N0, e0⟩
      · refine own_go (fun _ k => XS.icmpYes X0.here hx rfl (pc0 := 16) (pc' := 22) rfl (hb hby d6_16) rfl (feq hc3).2 (by decide) (by decide) k) ?_
        show own_Fin _ _ _ _ _ _ _ (s₁.setTop (mkF m 22 #[.val (.int p0)] []))
        refine own_go (fun _ k => XS.sipush X0.here hx rfl (hb hby d6_22) k) ?_
        show own_Fin _ _ _ _ _ _ _ (s₁.setTop (mkF m 25 #[.val (.int p0)] [(.int (1000 : Int32))]))
        refine own_ret X0 hx hlk Bd.returns rfl (Or.inl ⟨rfl, by simp, _, rfl⟩) (hb hby d6_25) (Nat.le_of_ble_eq_true rfl) (Nat.le_of_ble_eq_true rfl) ?_
        exact ⟨(own_lf_own_f6_4 (p0 := p0) hc1 hc2 hc3), N0, e0⟩
theorem own_pd49 : parseMethodDescriptor "(B)I" = some ⟨[.byte], some .int⟩ := by decide +kernel
theorem d2_0 : decode method_5_code 0 = .ok (.iload_n 1, 1) := by decide +kernel
theorem d2_1 : decode method_5_code 1 = .ok (.iload_n 2, 1) := by decide +kernel
theorem d2_2 : decode method_5_code 2 = .ok (.if_icmp .lt 15, 3) := by decide +kernel
theorem d2_5 : decode method_5_code 5 = .ok (.iload_n 1, 1) := by decide +kernel
theorem d2_6 : decode method_5_code 6 = .ok (.iload_n 3, 1) := by decide +kernel
theorem d2_7 : decode method_5_code 7 = .ok (.if_icmp .ge 10, 3) := by decide +kernel
theorem d2_10 : decode method_5_code 10 = .ok (.iload_n 0, 1) := by decide +kernel
theorem d2_11 : decode method_5_code 11 = .ok (.invokestatic 7, 3) := by decide +kernel
theorem d2_14 : decode method_5_code 14 = .ok (.ifCond .lt 7, 3) := by decide +kernel
theorem d2_17 : decode method_5_code 17 = .ok (.iconst 1, 1) := by decide +kernel
theorem d2_18 : decode method_5_code 18 = .ok (.goto 4, 3) := by decide +kernel
theorem d2_21 : decode method_5_code 21 = .ok (.iconst 0, 1) := by decide +kernel
theorem d2_22 : decode method_5_code 22 = .ok (.ireturn, 1) := by decide +kernel
theorem pn_2 : plainName "com/example/plain_tariff/plaintariff/OffsetInstantDigitsPinLaw" = true := by first | (simp [plainName, overriddenIn]; done) | decide +kernel
theorem ef_2 (m : MethodId) (p0 : Int32) (p1 : Int32) (p2 : Int32) (p3 : Int32) : entryFrame m #[(.int p0), (.int p1), (.int p2), (.int p3)] 4 = mkF m 0 #[.val (.int p0), .val (.int p1), .val (.int p2), .val (.int p3)] [] := by first | (simp [entryFrame, mkF, argsToLocals, Value.category]; done) | rfl
def own_rm2_room : Room := { frames := 1, cells := 0, slots := 0, locals := 12 }
def own_f2 (p0 : Int32) (p1 : Int32) (p2 : Int32) (p3 : Int32) : Int32 := (if p1 < p2 then ((1 : Int32)) else ((if p1 < p3 then ((if (own_f5 p0) < (0 : Int32) then ((0 : Int32)) else ((1 : Int32)))) else ((1 : Int32)))))
theorem own_lf_own_f2_1 {p0 : Int32} {p1 : Int32} {p2 : Int32} {p3 : Int32} (hc1 : p1 < p2) : (some (.int (1 : Int32)) : Option Value) = some (.int (own_f2 p0 p1 p2 p3)) := by
  first | (simp only [own_f2, if_pos hc1]; done) | (simp only [own_f2, if_pos hc1]; rfl) | rfl
theorem own_lf_own_f2_2 {p0 : Int32} {p1 : Int32} {p2 : Int32} {p3 : Int32} (hc1 : ¬ (p1 < p2)) (hc2 : p1 < p3) (hc4 : (own_f5 p0) < (0 : Int32)) : (some (.int (0 : Int32)) : Option Value) = some (.int (own_f2 p0 p1 p2 p3)) := by
  first | (simp only [own_f2, if_neg hc1, if_pos hc2, if_pos hc4]; done) | (simp only [own_f2, if_neg hc1, if_pos hc2, if_pos hc4]; rfl) | rfl
theorem own_lf_own_f2_3 {p0 : Int32} {p1 : Int32} {p2 : Int32} {p3 : Int32} (hc1 : ¬ (p1 < p2)) (hc2 : p1 < p3) (hc4 : ¬ ((own_f5 p0) < (0 : Int32))) : (some (.int (1 : Int32)) : Option Value) = some (.int (own_f2 p0 p1 p2 p3)) := by
  first | (simp only [own_f2, if_neg hc1, if_pos hc2, if_neg hc4]; done) | (simp only [own_f2, if_neg hc1, if_pos hc2, if_neg hc4]; rfl) | rfl
theorem own_lf_own_f2_4 {p0 : Int32} {p1 : Int32} {p2 : Int32} {p3 : Int32} (hc1 : ¬ (p1 < p2)) (hc2 : ¬ (p1 < p3)) : (some (.int (1 : Int32)) : Option Value) = some (.int (own_f2 p0 p1 p2 p3)) := by
  first | (simp only [own_f2, if_neg hc1, if_neg hc2]; done) | (simp only [own_f2, if_neg hc1, if_neg hc2]; rfl) | rfl
set_option maxRecDepth 65536 in
set_option maxHeartbeats 40000000 in
theorem rm2 (l : Launch) (Z : State) (a0 : Array Value) (hw : ∀ d ∈ tables_1, d.before a0 Z = true) (ws : List Jvm.Cond) (p0 : Int32) (p1 : Int32) (p2 : Int32) (p3 : Int32) (h0 : Heap) (n0 : Nat) (Z0 : n0 ≤ h0.size) :
    MetFree l (⟨"com/example/plain_tariff/plaintariff/OffsetInstantDigitsPinLaw", "digitOk", "(BIII)Z"⟩ : MethodName) (head1 (Jvm.Cond.code (⟨"com/example/plain_tariff/plaintariff/OffsetInstantDigitsPinLaw", "digitOk", "(BIII)Z"⟩ : MethodName) method_5_code 4 (some .boolean) :: ws) own_rm2_room) (fun a U => a = #[(.int p0), (.int p1), (.int p2), (.int p3)] ∧ Z.Warmed39 U.vm ∧ U.heap = h0) (fun _ _ _ _ _ => True) (fun _ U o U' => ∃ v L, o = .returned v ∧ own_QP (some (.int (own_f2 p0 p1 p2 p3))) h0 n0 v U'.heap L ∧ FrameEnd U o U' L own_rm2_room.cells own_rm2_room.slots) := by
  refine MetFree.of_bodySF (plainFor_of_name pn_2) hisR ?_
  intro p e s m args below meth c s₁ Bd hml0 hP hK
  obtain ⟨rfl, hZ, hh⟩ := hP
  have hx := Bd.exec
  have hby := Bd.bytes
  have hml : c.maxLocals = 4 := hml0
  have hown : s.vm.findClass "com/example/plain_tariff/plaintariff/OffsetInstantDigitsPinLaw" = some m.cls := findClass_of_methodNamed Bd.named
  have hnm := (name_of_methodNamed Bd.named Bd.method).1
  have hlk : meth.locks = false := BodyLoose.notSynchronized Bd
  have X0 : Stand p l e own_rm2_room s m #[(.int p0), (.int p1), (.int p2), (.int p3)] below meth c s₁ [] 0 0 := Stand.of_body Bd
  have e0 : s₁.heap = h0 := by rw [← hh, Bd.state]; rfl
  have N0 := Fr.nil n0
  show own_Fin p.tables e below s (own_QP (some (.int (own_f2 p0 p1 p2 p3))) h0 n0) own_rm2_room.cells own_rm2_room.slots (s₁.setTop (entryFrame m #[(.int p0), (.int p1), (.int p2), (.int p3)] 4))
  rw [ef_2]
  show own_Fin _ _ _ _ _ _ _ (s₁.setTop (mkF m 0 #[.val (.int p0), .val (.int p1), .val (.int p2), .val (.int p3)] []))
  refine own_go (fun _ k => XS.iloadN X0.here hx rfl (hb hby d2_0) rfl k) ?_
  show own_Fin _ _ _ _ _ _ _ (s₁.setTop (mkF m 1 #[.val (.int p0), .val (.int p1), .val (.int p2), .val (.int p3)] [(.int p1)]))
  refine own_go (fun _ k => XS.iloadN X0.here hx rfl (hb hby d2_1) rfl k) ?_
  show own_Fin _ _ _ _ _ _ _ (s₁.setTop (mkF m 2 #[.val (.int p0), .val (.int p1), .val (.int p2), .val (.int p3)] [(.int p2), (.int p1)]))
  by_cases hc1 : p1 < p2
  · refine own_go (fun _ k => XS.icmpYes X0.here hx rfl (pc0 := 2) (pc' := 17) rfl (hb hby d2_2) rfl (tlt hc1).1 (by decide) (by decide) k) ?_
    show own_Fin _ _ _ _ _ _ _ (s₁.setTop (mkF m 17 #[.val (.int p0), .val (.int p1), .val (.int p2), .val (.int p3)] []))
    refine own_go (fun _ k => XS.iconst X0.here hx rfl (hb hby d2_17) k) ?_
    show own_Fin _ _ _ _ _ _ _ (s₁.setTop (mkF m 18 #[.val (.int p0), .val (.int p1), .val (.int p2), .val (.int p3)] [(.int (1 : Int32))]))
    refine own_go (fun _ k => XS.goto X0.here hx rfl (pc0 := 18) (pc' := 22) rfl (hb hby d2_18) (by decide) (by decide) k) ?_
    show own_Fin _ _ _ _ _ _ _ (s₁.setTop (mkF m 22 #[.val (.int p0), .val (.int p1), .val (.int p2), .val (.int p3)] [(.int (1 : Int32))]))
    refine own_ret X0 hx hlk Bd.returns rfl (Or.inl ⟨rfl, by simp, _, rfl⟩) (hb hby d2_22) (Nat.le_of_ble_eq_true rfl) (Nat.le_of_ble_eq_true rfl) ?_
    exact ⟨(own_lf_own_f2_1 (p0 := p0) (p1 := p1) (p2 := p2) (p3 := p3) hc1), N0, e0⟩
  · refine own_go (fun _ k => XS.icmpNo X0.here hx rfl (hb hby d2_2) rfl (flt hc1).1 k) ?_
    show own_Fin _ _ _ _ _ _ _ (s₁.setTop (mkF m 5 #[.val (.int p0), .val (.int p1), .val (.int p2), .val (.int p3)] []))
    refine own_go (fun _ k => XS.iloadN X0.here hx rfl (hb hby d2_5) rfl k) ?_
    show own_Fin _ _ _ _ _ _ _ (s₁.setTop (mkF m 6 #[.val (.int p0), .val (.int p1), .val (.int p2), .val (.int p3)] [(.int p1)]))
    refine own_go (fun _ k => XS.iloadN X0.here hx rfl (hb hby d2_6) rfl k) ?_
    show own_Fin _ _ _ _ _ _ _ (s₁.setTop (mkF m 7 #[.val (.int p0), .val (.int p1), .val (.int p2), .val (.int p3)] [(.int p3), (.int p1)]))
    by_cases hc2 : p1 < p3
    · refine own_go (fun _ k => XS.icmpNo X0.here hx rfl (hb hby d2_7) rfl (tlt hc2).2.1 k) ?_
      show own_Fin _ _ _ _ _ _ _ (s₁.setTop (mkF m 10 #[.val (.int p0), .val (.int p1), .val (.int p2), .val (.int p3)] []))
      refine own_go (fun _ k => XS.iloadN X0.here hx rfl (hb hby d2_10) rfl k) ?_
      show own_Fin _ _ _ _ _ _ _ (s₁.setTop (mkF m 11 #[.val (.int p0), .val (.int p1), .val (.int p2), .val (.int p3)] [(.int p0)]))
      obtain ⟨_, _, ⟨T3, L3, k3, n3⟩, -, X3, ⟨Lc3, hQ3, l3, y3, z3⟩, st3⟩ := Jvm.LawKit.callS X0 hx (y := (⟨"com/example/plain_tariff/plaintariff/OffsetInstantDigitsPinLaw", "val", "(B)I"⟩ : MethodName)) hown (mvT hZ (hw _ (List.mem_of_getElem? (i := 16) rfl))) (mvT hZ (hw _ (List.mem_of_getElem? (i := 17) rfl))) (mvT hZ (hw _ (List.mem_of_getElem? (i := 3) rfl))) (mvT hZ (hw _ (List.mem_of_getElem? (i := 18) rfl))) (by decide) (backOf (W := 0) (rm5 l Z a0 hw [] p0 h0 n0 Z0) hZ (hw _ (List.mem_of_getElem? (i := 18) rfl)) (hw _ (List.mem_of_getElem? (i := 3) rfl)) (by decide) (by decide)) (g := (mkF m 11 #[.val (.int p0), .val (.int p1), .val (.int p2), .val (.int p3)] [(.int p0)])) rfl (by rw [hml]; rfl) (argsL := [(.int p0)]) (rest := []) (lenOf own_pd49 rfl) rfl (by show 2 * 0 + _ ≤ _; exact Nat.le_of_eq rfl) (hb hby d2_11) (fun _ _ => ⟨rfl, e0, (by decide : 0 + 0 ≤ _), (by decide : 0 + 0 ≤ _)⟩)
      dsimp only [Pt.U, Pt.locs, Pt.cells, Pt.slots] at X3 l3 y3 z3 st3 hQ3
      replace y3 : 0 = k3 := y3.symm
      replace z3 : 0 = n3 := z3.symm
      subst y3 z3
      obtain ⟨rfl, N3q, e3⟩ := hQ3
      have N3 : Fr n0 L3 := by rw [l3]; exact Fr.app N0 N3q
      refine own_go (fun tg k => st3 tg k) ?_
      show own_Fin _ _ _ _ _ _ _ (T3.setTop (mkF m 14 #[.val (.int p0), .val (.int p1), .val (.int p2), .val (.int p3)] [(.int (own_f5 p0))]))
      by_cases hc4 : (own_f5 p0) < (0 : Int32)
      · refine own_go (fun _ k => XS.ifYes X3.here hx rfl (pc0 := 14) (pc' := 21) rfl (hb hby d2_14) rfl ((if0 _ _).trans (tlt hc4).1) (by decide) (by decide) k) ?_
        show own_Fin _ _ _ _ _ _ _ (T3.setTop (mkF m 21 #[.val (.int p0), .val (.int p1), .val (.int p2), .val (.int p3)] []))
        refine own_go (fun _ k => XS.iconst X3.here hx rfl (hb hby d2_21) k) ?_
        show own_Fin _ _ _ _ _ _ _ (T3.setTop (mkF m 22 #[.val (.int p0), .val (.int p1), .val (.int p2), .val (.int p3)] [(.int (0 : Int32))]))
        refine own_ret X3 hx hlk Bd.returns rfl (Or.inl ⟨rfl, by simp, _, rfl⟩) (hb hby d2_22) (Nat.le_of_ble_eq_true rfl) (Nat.le_of_ble_eq_true rfl) ?_
        exact ⟨(own_lf_own_f2_2 (p0 := p0) (p1 := p1) (p2 := p2) (p3 := p3) hc1 hc2 hc4), N3, e3⟩
      · refine own_go (fun _ k => XS.ifNo X3.here hx rfl (hb hby d2_14) rfl ((if0 _ _).trans (flt hc4).1) k) ?_
        show own_Fin _ _ _ _ _ _ _ (T3.setTop (mkF m 17 #[.val (.int p0), .val (.int p1), .val (.int p2), .val (.int p3)] []))
        refine own_go (fun _ k => XS.iconst X3.here hx rfl (hb hby d2_17) k) ?_
        show own_Fin _ _ _ _ _ _ _ (T3.setTop (mkF m 18 #[.val (.int p0), .val (.int p1), .val (.int p2), .val (.int p3)] [(.int (1 : Int32))]))
        refine own_go (fun _ k => XS.goto X3.here hx rfl (pc0 := 18) (pc' := 22) rfl (hb hby d2_18) (by decide) (by decide) k) ?_
        show own_Fin _ _ _ _ _ _ _ (T3.setTop (mkF m 22 #[.val (.int p0), .val (.int p1), .val (.int p2), .val (.int p3)] [(.int (1 : Int32))]))
        refine own_ret X3 hx hlk Bd.returns rfl (Or.inl ⟨rfl, by simp, _, rfl⟩) (hb hby d2_22) (Nat.le_of_ble_eq_true rfl) (Nat.le_of_ble_eq_true rfl) ?_
        exact ⟨(own_lf_own_f2_3 (p0 := p0) (p1 := p1) (p2 := p2) (p3 := p3) hc1 hc2 hc4), N3, e3⟩
    · refine own_go (fun _ k => XS.icmpYes X0.here hx rfl (pc0 := 7) (pc' := 17) rfl (hb hby d2_7) rfl (flt hc2).2.1 (by decide) (by decide) k) ?_
      show own_Fin _ _ _ _ _ _ _ (s₁.setTop (mkF m 17 #[.val (.int p0), .val (.int p1), .val (.int p2), .val (.int p3)] []))
      refine own_go (fun _ k => XS.iconst X0.here hx rfl (hb hby d2_17) k) ?_
      show own_Fin _ _ _ _ _ _ _ (s₁.setTop (mkF m 18 #[.val (.int p0), .val (.int p1), .val (.int p2), .val (.int p3)] [(.int (1 : Int32))]))
      refine own_go (fun _ k => XS.goto X0.here hx rfl (pc0 := 18) (pc' := 22) rfl (hb hby d2_18) (by decide) (by decide) k) ?_
      show own_Fin _ _ _ _ _ _ _ (s₁.setTop (mkF m 22 #[.val (.int p0), .val (.int p1), .val (.int p2), .val (.int p3)] [(.int (1 : Int32))]))
      refine own_ret X0 hx hlk Bd.returns rfl (Or.inl ⟨rfl, by simp, _, rfl⟩) (hb hby d2_22) (Nat.le_of_ble_eq_true rfl) (Nat.le_of_ble_eq_true rfl) ?_
      exact ⟨(own_lf_own_f2_4 (p0 := p0) (p1 := p1) (p2 := p2) (p3 := p3) hc1 hc2), N0, e0⟩
theorem own_pd64 : parseMethodDescriptor "(I)I" = some ⟨[.int], some .int⟩ := by decide +kernel
theorem d3_0 : decode method_6_code 0 = .ok (.iload_n 1, 1) := by decide +kernel
theorem d3_1 : decode method_6_code 1 = .ok (.iload_n 2, 1) := by decide +kernel
theorem d3_2 : decode method_6_code 2 = .ok (.if_icmp .lt 8, 3) := by decide +kernel
theorem d3_5 : decode method_6_code 5 = .ok (.iload_n 1, 1) := by decide +kernel
theorem d3_6 : decode method_6_code 6 = .ok (.iload_n 3, 1) := by decide +kernel
theorem d3_7 : decode method_6_code 7 = .ok (.if_icmp .lt 5, 3) := by decide +kernel
theorem d3_10 : decode method_6_code 10 = .ok (.iconst 0, 1) := by decide +kernel
theorem d3_11 : decode method_6_code 11 = .ok (.ireturn, 1) := by decide +kernel
theorem d3_12 : decode method_6_code 12 = .ok (.iload_n 0, 1) := by decide +kernel
theorem d3_13 : decode method_6_code 13 = .ok (.invokestatic 7, 3) := by decide +kernel
theorem d3_16 : decode method_6_code 16 = .ok (.iload_n 3, 1) := by decide +kernel
theorem d3_17 : decode method_6_code 17 = .ok (.iconst 1, 1) := by decide +kernel
theorem d3_18 : decode method_6_code 18 = .ok (.isub, 1) := by decide +kernel
theorem d3_19 : decode method_6_code 19 = .ok (.iload_n 1, 1) := by decide +kernel
theorem d3_20 : decode method_6_code 20 = .ok (.isub, 1) := by decide +kernel
theorem d3_21 : decode method_6_code 21 = .ok (.invokestatic 13, 3) := by decide +kernel
theorem d3_24 : decode method_6_code 24 = .ok (.imul, 1) := by decide +kernel
theorem d3_25 : decode method_6_code 25 = .ok (.ireturn, 1) := by decide +kernel
theorem pn_3 : plainName "com/example/plain_tariff/plaintariff/OffsetInstantDigitsPinLaw" = true := by first | (simp [plainName, overriddenIn]; done) | decide +kernel
theorem ef_3 (m : MethodId) (p0 : Int32) (p1 : Int32) (p2 : Int32) (p3 : Int32) : entryFrame m #[(.int p0), (.int p1), (.int p2), (.int p3)] 4 = mkF m 0 #[.val (.int p0), .val (.int p1), .val (.int p2), .val (.int p3)] [] := by first | (simp [entryFrame, mkF, argsToLocals, Value.category]; done) | rfl
def own_rm3_room : Room := { frames := 1, cells := 0, slots := 0, locals := 13 }
def own_f3 (p0 : Int32) (p1 : Int32) (p2 : Int32) (p3 : Int32) : Int32 := (if p1 < p2 then ((0 : Int32)) else ((if p1 < p3 then (((own_f5 p0) * (own_f6 ((p3 - (1 : Int32)) - p1)))) else ((0 : Int32)))))
theorem own_lf_own_f3_1 {p0 : Int32} {p1 : Int32} {p2 : Int32} {p3 : Int32} (hc1 : p1 < p2) : (some (.int (0 : Int32)) : Option Value) = some (.int (own_f3 p0 p1 p2 p3)) := by
  first | (simp only [own_f3, if_pos hc1]; done) | (simp only [own_f3, if_pos hc1]; rfl) | rfl
theorem own_lf_own_f3_2 {p0 : Int32} {p1 : Int32} {p2 : Int32} {p3 : Int32} (hc1 : ¬ (p1 < p2)) (hc2 : p1 < p3) : (some (.int ((own_f5 p0) * (own_f6 ((p3 - (1 : Int32)) - p1)))) : Option Value) = some (.int (own_f3 p0 p1 p2 p3)) := by
  first | (simp only [own_f3, if_neg hc1, if_pos hc2]; done) | (simp only [own_f3, if_neg hc1, if_pos hc2]; rfl) | rfl
theorem own_lf_own_f3_3 {p0 : Int32} {p1 : Int32} {p2 : Int32} {p3 : Int32} (hc1 : ¬ (p1 < p2)) (hc2 : ¬ (p1 < p3)) : (some (.int (0 : Int32)) : Option Value) = some (.int (own_f3 p0 p1 p2 p3)) := by
  first | (simp only [own_f3, if_neg hc1, if_neg hc2]; done) | (simp only [own_f3, if_neg hc1, if_neg hc2]; rfl) | rfl
set_option maxRecDepth 65536 in
set_option maxHeartbeats 40000000 in
theorem rm3 (l : Launch) (Z : State) (a0 : Array Value) (hw : ∀ d ∈ tables_1, d.before a0 Z = true) (ws : List Jvm.Cond) (p0 : Int32) (p1 : Int32) (p2 : Int32) (p3 : Int32) (h0 : Heap) (n0 : Nat) (Z0 : n0 ≤ h0.size) :
    MetFree l (⟨"com/example/plain_tariff/plaintariff/OffsetInstantDigitsPinLaw", "term", "(BIII)I"⟩ : MethodName) (head1 (Jvm.Cond.code (⟨"com/example/plain_tariff/plaintariff/OffsetInstantDigitsPinLaw", "term", "(BIII)I"⟩ : MethodName) method_6_code 4 (some .int) :: ws) own_rm3_room) (fun a U => a = #[(.int p0), (.int p1), (.int p2), (.int p3)] ∧ Z.Warmed39 U.vm ∧ U.heap = h0) (fun _ _ _ _ _ => True) (fun _ U o U' => ∃ v L, o = .returned v ∧ own_QP (some (.int (own_f3 p0 p1 p2 p3))) h0 n0 v U'.heap L ∧ FrameEnd U o U' L own_rm3_room.cells own_rm3_room.slots) := by
  refine MetFree.of_bodySF (plainFor_of_name pn_3) hisR ?_
  intro p e s m args below meth c s₁ Bd hml0 hP hK
  obtain ⟨rfl, hZ, hh⟩ := hP
  have hx := Bd.exec
  have hby := Bd.bytes
  have hml : c.maxLocals = 4 := hml0
  have hown : s.vm.findClass "com/example/plain_tariff/plaintariff/OffsetInstantDigitsPinLaw" = some m.cls := findClass_of_methodNamed Bd.named
  have hnm := (name_of_methodNamed Bd.named Bd.method).1
  have hlk : meth.locks = false := BodyLoose.notSynchronized Bd
  have X0 : Stand p l e own_rm3_room s m #[(.int p0), (.int p1), (.int p2), (.int p3)] below meth c s₁ [] 0 0 := Stand.of_body Bd
  have e0 : s₁.heap = h0 := by rw [← hh, Bd.state]; rfl
  have N0 := Fr.nil n0
  show own_Fin p.tables e below s (own_QP (some (.int (own_f3 p0 p1 p2 p3))) h0 n0) own_rm3_room.cells own_rm3_room.slots (s₁.setTop (entryFrame m #[(.int p0), (.int p1), (.int p2), (.int p3)] 4))
  rw [ef_3]
  show own_Fin _ _ _ _ _ _ _ (s₁.setTop (mkF m 0 #[.val (.int p0), .val (.int p1), .val (.int p2), .val (.int p3)] []))
  refine own_go (fun _ k => XS.iloadN X0.here hx rfl (hb hby d3_0) rfl k) ?_
  show own_Fin _ _ _ _ _ _ _ (s₁.setTop (mkF m 1 #[.val (.int p0), .val (.int p1), .val (.int p2), .val (.int p3)] [(.int p1)]))
  refine own_go (fun _ k => XS.iloadN X0.here hx rfl (hb hby d3_1) rfl k) ?_
  show own_Fin _ _ _ _ _ _ _ (s₁.setTop (mkF m 2 #[.val (.int p0), .val (.int p1), .val (.int p2), .val (.int p3)] [(.int p2), (.int p1)]))
  by_cases hc1 : p1 < p2
  · refine own_go (fun _ k => XS.icmpYes X0.here hx rfl (pc0 := 2) (pc' := 10) rfl (hb hby d3_2) rfl (tlt hc1).1 (by decide) (by decide) k) ?_
    show own_Fin _ _ _ _ _ _ _ (s₁.setTop (mkF m 10 #[.val (.int p0), .val (.int p1), .val (.int p2), .val (.int p3)] []))
    refine own_go (fun _ k => XS.iconst X0.here hx rfl (hb hby d3_10) k) ?_
    show own_Fin _ _ _ _ _ _ _ (s₁.setTop (mkF m 11 #[.val (.int p0), .val (.int p1), .val (.int p2), .val (.int p3)] [(.int (0 : Int32))]))
    refine own_ret X0 hx hlk Bd.returns rfl (Or.inl ⟨rfl, by simp, _, rfl⟩) (hb hby d3_11) (Nat.le_of_ble_eq_true rfl) (Nat.le_of_ble_eq_true rfl) ?_
    exact ⟨(own_lf_own_f3_1 (p0 := p0) (p1 := p1) (p2 := p2) (p3 := p3) hc1), N0, e0⟩
  · refine own_go (fun _ k => XS.icmpNo X0.here hx rfl (hb hby d3_2) rfl (flt hc1).1 k) ?_
    show own_Fin _ _ _ _ _ _ _ (s₁.setTop (mkF m 5 #[.val (.int p0), .val (.int p1), .val (.int p2), .val (.int p3)] []))
    refine own_go (fun _ k => XS.iloadN X0.here hx rfl (hb hby d3_5) rfl k) ?_
    show own_Fin _ _ _ _ _ _ _ (s₁.setTop (mkF m 6 #[.val (.int p0), .val (.int p1), .val (.int p2), .val (.int p3)] [(.int p1)]))
    refine own_go (fun _ k => XS.iloadN X0.here hx rfl (hb hby d3_6) rfl k) ?_
    show own_Fin _ _ _ _ _ _ _ (s₁.setTop (mkF m 7 #[.val (.int p0), .val (.int p1), .val (.int p2), .val (.int p3)] [(.int p3), (.int p1)]))
    by_cases hc2 : p1 < p3
    · refine own_go (fun _ k => XS.icmpYes X0.here hx rfl (pc0 := 7) (pc' := 12) rfl (hb hby d3_7) rfl (tlt hc2).1 (by decide) (by decide) k) ?_
      show own_Fin _ _ _ _ _ _ _ (s₁.setTop (mkF m 12 #[.val (.int p0), .val (.int p1), .val (.int p2), .val (.int p3)] []))
      refine own_go (fun _ k => XS.iloadN X0.here hx rfl (hb hby d3_12) rfl k) ?_
      show own_Fin _ _ _ _ _ _ _ (s₁.setTop (mkF m 13 #[.val (.int p0), .val (.int p1), .val (.int p2), .val (.int p3)] [(.int p0)]))
      obtain ⟨_, _, ⟨T3, L3, k3, n3⟩, -, X3, ⟨Lc3, hQ3, l3, y3, z3⟩, st3⟩ := Jvm.LawKit.callS X0 hx (y := (⟨"com/example/plain_tariff/plaintariff/OffsetInstantDigitsPinLaw", "val", "(B)I"⟩ : MethodName)) hown (mvT hZ (hw _ (List.mem_of_getElem? (i := 16) rfl))) (mvT hZ (hw _ (List.mem_of_getElem? (i := 17) rfl))) (mvT hZ (hw _ (List.mem_of_getElem? (i := 3) rfl))) (mvT hZ (hw _ (List.mem_of_getElem? (i := 18) rfl))) (by decide) (backOf (W := 0) (rm5 l Z a0 hw [] p0 h0 n0 Z0) hZ (hw _ (List.mem_of_getElem? (i := 18) rfl)) (hw _ (List.mem_of_getElem? (i := 3) rfl)) (by decide) (by decide)) (g := (mkF m 13 #[.val (.int p0), .val (.int p1), .val (.int p2), .val (.int p3)] [(.int p0)])) rfl (by rw [hml]; rfl) (argsL := [(.int p0)]) (rest := []) (lenOf own_pd49 rfl) rfl (by show 2 * 0 + _ ≤ _; exact Nat.le_of_eq rfl) (hb hby d3_13) (fun _ _ => ⟨rfl, e0, (by decide : 0 + 0 ≤ _), (by decide : 0 + 0 ≤ _)⟩)
      dsimp only [Pt.U, Pt.locs, Pt.cells, Pt.slots] at X3 l3 y3 z3 st3 hQ3
      replace y3 : 0 = k3 := y3.symm
      replace z3 : 0 = n3 := z3.symm
      subst y3 z3
      obtain ⟨rfl, N3q, e3⟩ := hQ3
      have N3 : Fr n0 L3 := by rw [l3]; exact Fr.app N0 N3q
      refine own_go (fun tg k => st3 tg k) ?_
      show own_Fin _ _ _ _ _ _ _ (T3.setTop (mkF m 16 #[.val (.int p0), .val (.int p1), .val (.int p2), .val (.int p3)] [(.int (own_f5 p0))]))
      refine own_go (fun _ k => XS.iloadN X3.here hx rfl (hb hby d3_16) rfl k) ?_
      show own_Fin _ _ _ _ _ _ _ (T3.setTop (mkF m 17 #[.val (.int p0), .val (.int p1), .val (.int p2), .val (.int p3)] [(.int p3), (.int (own_f5 p0))]))
      refine own_go (fun _ k => XS.iconst X3.here hx rfl (hb hby d3_17) k) ?_
      show own_Fin _ _ _ _ _ _ _ (T3.setTop (mkF m 18 #[.val (.int p0), .val (.int p1), .val (.int p2), .val (.int p3)] [(.int (1 : Int32)), (.int p3), (.int (own_f5 p0))]))
      refine own_go (fun _ k => XS.isub X3.here hx rfl (hb hby d3_18) rfl k) ?_
      show own_Fin _ _ _ _ _ _ _ (T3.setTop (mkF m 19 #[.val (.int p0), .val (.int p1), .val (.int p2), .val (.int p3)] [(.int (p3 - (1 : Int32))), (.int (own_f5 p0))]))
      refine own_go (fun _ k => XS.iloadN X3.here hx rfl (hb hby d3_19) rfl k) ?_
      show own_Fin _ _ _ _ _ _ _ (T3.setTop (mkF m 20 #[.val (.int p0), .val (.int p1), .val (.int p2), .val (.int p3)] [(.int p1), (.int (p3 - (1 : Int32))), (.int (own_f5 p0))]))
      refine own_go (fun _ k => XS.isub X3.here hx rfl (hb hby d3_20) rfl k) ?_
      show own_Fin _ _ _ _ _ _ _ (T3.setTop (mkF m 21 #[.val (.int p0), .val (.int p1), .val (.int p2), .val (.int p3)] [(.int ((p3 - (1 : Int32)) - p1)), (.int (own_f5 p0))]))
      obtain ⟨_, _, ⟨T4, L4, k4, n4⟩, -, X4, ⟨Lc4, hQ4, l4, y4, z4⟩, st4⟩ := Jvm.LawKit.callS X3 hx (y := (⟨"com/example/plain_tariff/plaintariff/OffsetInstantDigitsPinLaw", "pow10", "(I)I"⟩ : MethodName)) hown (mvT hZ (hw _ (List.mem_of_getElem? (i := 19) rfl))) (mvT hZ (hw _ (List.mem_of_getElem? (i := 20) rfl))) (mvT hZ (hw _ (List.mem_of_getElem? (i := 3) rfl))) (mvT hZ (hw _ (List.mem_of_getElem? (i := 21) rfl))) (by decide) (backOf (W := 1) (rm6 l Z a0 hw [] ((p3 - (1 : Int32)) - p1) h0 n0 Z0) hZ (hw _ (List.mem_of_getElem? (i := 21) rfl)) (hw _ (List.mem_of_getElem? (i := 3) rfl)) (by decide) (by decide)) (g := (mkF m 21 #[.val (.int p0), .val (.int p1), .val (.int p2), .val (.int p3)] [(.int ((p3 - (1 : Int32)) - p1)), (.int (own_f5 p0))])) rfl (by rw [hml]; rfl) (argsL := [(.int ((p3 - (1 : Int32)) - p1))]) (rest := [(.int (own_f5 p0))]) (lenOf own_pd64 rfl) rfl (by show 2 * 0 + _ ≤ _; exact Nat.le_of_eq rfl) (hb hby d3_21) (fun _ _ => ⟨rfl, e3, (by decide : 0 + 0 ≤ _), (by decide : 0 + 0 ≤ _)⟩)
      dsimp only [Pt.U, Pt.locs, Pt.cells, Pt.slots] at X4 l4 y4 z4 st4 hQ4
      replace y4 : 0 = k4 := y4.symm
      replace z4 : 0 = n4 := z4.symm
      subst y4 z4
      obtain ⟨rfl, N4q, e4⟩ := hQ4
      have N4 : Fr n0 L4 := by rw [l4]; exact Fr.app N3 N4q
      refine own_go (fun tg k => st4 tg k) ?_
      show own_Fin _ _ _ _ _ _ _ (T4.setTop (mkF m 24 #[.val (.int p0), .val (.int p1), .val (.int p2), .val (.int p3)] [(.int (own_f6 ((p3 - (1 : Int32)) - p1))), (.int (own_f5 p0))]))
      refine own_go (fun _ k => XS.imul X4.here hx rfl (hb hby d3_24) rfl k) ?_
      show own_Fin _ _ _ _ _ _ _ (T4.setTop (mkF m 25 #[.val (.int p0), .val (.int p1), .val (.int p2), .val (.int p3)] [(.int ((own_f5 p0) * (own_f6 ((p3 - (1 : Int32)) - p1))))]))
      refine own_ret X4 hx hlk Bd.returns rfl (Or.inl ⟨rfl, by simp, _, rfl⟩) (hb hby d3_25) (Nat.le_of_ble_eq_true rfl) (Nat.le_of_ble_eq_true rfl) ?_
      exact ⟨(own_lf_own_f3_2 (p0 := p0) (p1 := p1) (p2 := p2) (p3 := p3) hc1 hc2), N4, e4⟩
    · refine own_go (fun _ k => XS.icmpNo X0.here hx rfl (hb hby d3_7) rfl (flt hc2).1 k) ?_
      show own_Fin _ _ _ _ _ _ _ (s₁.setTop (mkF m 10 #[.val (.int p0), .val (.int p1), .val (.int p2), .val (.int p3)] []))
      refine own_go (fun _ k => XS.iconst X0.here hx rfl (hb hby d3_10) k) ?_
      show own_Fin _ _ _ _ _ _ _ (s₁.setTop (mkF m 11 #[.val (.int p0), .val (.int p1), .val (.int p2), .val (.int p3)] [(.int (0 : Int32))]))
      refine own_ret X0 hx hlk Bd.returns rfl (Or.inl ⟨rfl, by simp, _, rfl⟩) (hb hby d3_11) (Nat.le_of_ble_eq_true rfl) (Nat.le_of_ble_eq_true rfl) ?_
      exact ⟨(own_lf_own_f3_3 (p0 := p0) (p1 := p1) (p2 := p2) (p3 := p3) hc1 hc2), N0, e0⟩
def own_bad (c : Int32) : Prop := c < (48 : Int32) ∨ (57 : Int32) < c
instance (c : Int32) : Decidable (own_bad c) := inferInstanceAs (Decidable (_ ∨ _))
def own_dig (g : Nat → Int32) : Nat → Int32 → Int32 → Int32
  | 0, _, acc => acc
  | k + 1, i, acc => if own_bad (g i.toNatClampNeg) then (-1) else own_dig g k (i + 1) ((acc * 10) + (g i.toNatClampNeg - 48))
def own_digE (g : Nat → Int32) (i e acc : Int32) : Int32 := own_dig g (e.toInt - i.toInt).toNat i acc
theorem own_dig0 {g : Nat → Int32} {i e acc : Int32} (h : ¬ i < e) : own_digE g i e acc = acc := by
  rw [Int32.lt_iff_toInt_lt] at h
  unfold own_digE
  rw [show (e.toInt - i.toInt).toNat = 0 from by omega]; rfl
theorem own_dig1 {g : Nat → Int32} {i e acc : Int32} (h : i < e) : own_digE g i e acc = if own_bad (g i.toNatClampNeg) then (-1) else own_digE g (i + 1) e ((acc * 10) + (g i.toNatClampNeg - 48)) := by
  rw [Int32.lt_iff_toInt_lt] at h
  have a := c_iadd i 1
  have r := rng32 (i + 1); have r1 := rng32 i; have r2 := rng32 e
  rw [show (1 : Int32).toInt = 1 from by decide] at a
  unfold own_digE
  rw [show (e.toInt - i.toInt).toNat = (e.toInt - (i + 1).toInt).toNat + 1 from by omega]; rfl
theorem own_dec {i e : Int32} (h : i < e) : (e.toInt - (i + 1).toInt).toNat < (e.toInt - i.toInt).toNat := by
  rw [Int32.lt_iff_toInt_lt] at h
  have a := c_iadd i 1
  have r := rng32 (i + 1); have r1 := rng32 i; have r2 := rng32 e
  rw [show (1 : Int32).toInt = 1 from by decide] at a
  omega
theorem own_inc {a i e : Int32} (h : i < e) (q : a ≤ i) : a ≤ i + 1 := by
  rw [Int32.lt_iff_toInt_lt] at h
  rw [Int32.le_iff_toInt_le] at *
  have b := c_iadd i 1
  have r := rng32 (i + 1); have r1 := rng32 i; have r2 := rng32 e
  rw [show (1 : Int32).toInt = 1 from by decide] at b
  omega
theorem own_ix {p1 i e : Int32} (hp : ¬ p1 < (0 : Int32) ∧ e ≤ (4 : Int32)) (q : p1 ≤ i) (h : i < e) : ¬ i < 0 ∧ i < (4 : Int32) := by
  simp only [Int32.lt_iff_toInt_lt, Int32.le_iff_toInt_le] at *
  omega
theorem d4_0 : decode prog_38_method_12_code 0 = .ok (.iconst 0, 1) := by decide +kernel
theorem d4_1 : decode prog_38_method_12_code 1 = .ok (.istore_n 3, 1) := by decide +kernel
theorem d4_2 : decode prog_38_method_12_code 2 = .ok (.iload_n 1, 1) := by decide +kernel
theorem d4_3 : decode prog_38_method_12_code 3 = .ok (.istore 4, 2) := by decide +kernel
theorem d4_5 : decode prog_38_method_12_code 5 = .ok (.iload 4, 2) := by decide +kernel
theorem d4_7 : decode prog_38_method_12_code 7 = .ok (.iload_n 1, 1) := by decide +kernel
theorem d4_8 : decode prog_38_method_12_code 8 = .ok (.iload_n 2, 1) := by decide +kernel
theorem d4_9 : decode prog_38_method_12_code 9 = .ok (.iadd, 1) := by decide +kernel
theorem d4_10 : decode prog_38_method_12_code 10 = .ok (.if_icmp .ge 42, 3) := by decide +kernel
theorem d4_13 : decode prog_38_method_12_code 13 = .ok (.aload_n 0, 1) := by decide +kernel
theorem d4_14 : decode prog_38_method_12_code 14 = .ok (.iload 4, 2) := by decide +kernel
theorem d4_16 : decode prog_38_method_12_code 16 = .ok (.baload, 1) := by decide +kernel
theorem d4_17 : decode prog_38_method_12_code 17 = .ok (.istore 5, 2) := by decide +kernel
theorem d4_19 : decode prog_38_method_12_code 19 = .ok (.iload 5, 2) := by decide +kernel
theorem d4_21 : decode prog_38_method_12_code 21 = .ok (.bipush 48, 2) := by decide +kernel
theorem d4_23 : decode prog_38_method_12_code 23 = .ok (.if_icmp .lt 10, 3) := by decide +kernel
theorem d4_26 : decode prog_38_method_12_code 26 = .ok (.iload 5, 2) := by decide +kernel
theorem d4_28 : decode prog_38_method_12_code 28 = .ok (.bipush 57, 2) := by decide +kernel
theorem d4_30 : decode prog_38_method_12_code 30 = .ok (.if_icmp .le 5, 3) := by decide +kernel
theorem d4_33 : decode prog_38_method_12_code 33 = .ok (.iconst (-1), 1) := by decide +kernel
theorem d4_34 : decode prog_38_method_12_code 34 = .ok (.ireturn, 1) := by decide +kernel
theorem d4_35 : decode prog_38_method_12_code 35 = .ok (.iload_n 3, 1) := by decide +kernel
theorem d4_36 : decode prog_38_method_12_code 36 = .ok (.bipush 10, 2) := by decide +kernel
theorem d4_38 : decode prog_38_method_12_code 38 = .ok (.imul, 1) := by decide +kernel
theorem d4_39 : decode prog_38_method_12_code 39 = .ok (.iload 5, 2) := by decide +kernel
theorem d4_41 : decode prog_38_method_12_code 41 = .ok (.bipush 48, 2) := by decide +kernel
theorem d4_43 : decode prog_38_method_12_code 43 = .ok (.isub, 1) := by decide +kernel
theorem d4_44 : decode prog_38_method_12_code 44 = .ok (.iadd, 1) := by decide +kernel
theorem d4_45 : decode prog_38_method_12_code 45 = .ok (.istore_n 3, 1) := by decide +kernel
theorem d4_46 : decode prog_38_method_12_code 46 = .ok (.iinc 4 1, 3) := by decide +kernel
theorem d4_49 : decode prog_38_method_12_code 49 = .ok (.goto (-44), 3) := by decide +kernel
theorem d4_52 : decode prog_38_method_12_code 52 = .ok (.iload_n 3, 1) := by decide +kernel
theorem d4_53 : decode prog_38_method_12_code 53 = .ok (.ireturn, 1) := by decide +kernel
theorem pn_4 : plainName "com/example/plain_tariff/plaintariff/OffsetInstant" = true := by first | (simp [plainName, overriddenIn]; done) | decide +kernel
theorem ef_4 (m : MethodId) (r0 : Addr) (p1 : Int32) (p2 : Int32) : entryFrame m #[(.ref r0), (.int p1), (.int p2)] 6 = mkF m 0 #[.val (.ref r0), .val (.int p1), .val (.int p2), .unset, .unset, .unset] [] := by first | (simp [entryFrame, mkF, argsToLocals, Value.category]; done) | rfl
def rm4_room : Room := { frames := 0, cells := 0, slots := 0, locals := 0 }
def Qrm4 (Z : State) (r0 : Addr) (p1 : Int32) (p2 : Int32) (xg : Nat → Int32) (h0 : Heap) (n0 : Nat) (v : Option Value) (h : Heap) (L : List Loc) : Prop := v = some (.int (own_digE xg p1 (p1 + p2) (0 : Int32))) ∧ Fr n0 L ∧ h = h0
set_option maxRecDepth 65536 in
set_option maxHeartbeats 40000000 in
theorem rm4 (l : Launch) (Z : State) (a0 : Array Value) (hw : ∀ d ∈ tables_1, d.before a0 Z = true) (ws : List Jvm.Cond) (r0 : Addr) (p1 : Int32) (p2 : Int32) (xg : Nat → Int32) (h0 : Heap) (n0 : Nat) (Z0 : n0 ≤ h0.size) (A_r0_0 : own_Arf Z h0 r0 .byte (4 : Int32) (fun i => .int (xg i))) (hp : ¬ p1 < (0 : Int32) ∧ (p1 + p2) ≤ (4 : Int32)) :
    MetFree l (⟨"com/example/plain_tariff/plaintariff/OffsetInstant", "digits", "([BII)I"⟩ : MethodName) (head1 (Jvm.Cond.code (⟨"com/example/plain_tariff/plaintariff/OffsetInstant", "digits", "([BII)I"⟩ : MethodName) prog_38_method_12_code 6 (some .int) :: ws) rm4_room) (fun a U => a = #[(.ref r0), (.int p1), (.int p2)] ∧ Z.Warmed39 U.vm ∧ U.heap = h0) (fun _ _ _ _ _ => True) (fun _ U o U' => ∃ v L, o = .returned v ∧ Qrm4 Z r0 p1 p2 xg h0 n0 v U'.heap L ∧ FrameEnd U o U' L rm4_room.cells rm4_room.slots) := by
  refine MetFree.of_bodySF (plainFor_of_name pn_4) hisR ?_
  intro p e s m args below meth c s₁ Bd hml0 hP hK
  obtain ⟨rfl, hZ, hh⟩ := hP
  have hx := Bd.exec
  have hby := Bd.bytes
  have hml : c.maxLocals = 6 := hml0
  have hown : s.vm.findClass "com/example/plain_tariff/plaintariff/OffsetInstant" = some m.cls := findClass_of_methodNamed Bd.named
  have hnm := (name_of_methodNamed Bd.named Bd.method).1
  have hlk : meth.locks = false := BodyLoose.notSynchronized Bd
  have X0 : Stand p l e rm4_room s m #[(.ref r0), (.int p1), (.int p2)] below meth c s₁ [] 0 0 := Stand.of_body Bd
  have e0 : s₁.heap = h0 := by rw [← hh, Bd.state]; rfl
  have N0 := Fr.nil n0
  show own_Fin p.tables e below s (Qrm4 Z r0 p1 p2 xg h0 n0) rm4_room.cells rm4_room.slots (s₁.setTop (entryFrame m #[(.ref r0), (.int p1), (.int p2)] 6))
  rw [ef_4]
  show own_Fin _ _ _ _ _ _ _ (s₁.setTop (mkF m 0 #[.val (.ref r0), .val (.int p1), .val (.int p2), .unset, .unset, .unset] []))
  refine own_go (fun _ k => XS.iconst X0.here hx rfl (hb hby d4_0) k) ?_
  show own_Fin _ _ _ _ _ _ _ (s₁.setTop (mkF m 1 #[.val (.ref r0), .val (.int p1), .val (.int p2), .unset, .unset, .unset] [(.int (0 : Int32))]))
  refine own_go (fun _ k => XS.istoreN X0.here hx rfl (hb hby d4_1) rfl (l' := #[.val (.ref r0), .val (.int p1), .val (.int p2), .val (.int (0 : Int32)), .unset, .unset]) rfl k) ?_
  show own_Fin _ _ _ _ _ _ _ (s₁.setTop (mkF m 2 #[.val (.ref r0), .val (.int p1), .val (.int p2), .val (.int (0 : Int32)), .unset, .unset] []))
  refine own_go (fun _ k => XS.iloadN X0.here hx rfl (hb hby d4_2) rfl k) ?_
  show own_Fin _ _ _ _ _ _ _ (s₁.setTop (mkF m 3 #[.val (.ref r0), .val (.int p1), .val (.int p2), .val (.int (0 : Int32)), .unset, .unset] [(.int p1)]))
  refine own_go (fun _ k => XS.istore X0.here hx rfl (hb hby d4_3) rfl (l' := #[.val (.ref r0), .val (.int p1), .val (.int p2), .val (.int (0 : Int32)), .val (.int p1), .unset]) rfl k) ?_
  show own_Fin _ _ _ _ _ _ _ (s₁.setTop (mkF m 5 #[.val (.ref r0), .val (.int p1), .val (.int p2), .val (.int (0 : Int32)), .val (.int p1), .unset] []))
  have loopA : ∀ (kA : Nat) (acc : Int32) (i : Int32) (j5A : Slot) (TAL : State) (LAL : List Loc), kA = ((p1 + p2).toInt - i.toInt).toNat → own_digE xg i (p1 + p2) acc = own_digE xg p1 (p1 + p2) (0 : Int32) → p1 ≤ i → Stand p l e rm4_room s m #[(.ref r0), (.int p1), (.int p2)] below meth c TAL LAL 0 0 → Fr n0 LAL → TAL.heap = h0 → One j5A → own_Fin p.tables e below s (Qrm4 Z r0 p1 p2 xg h0 n0) rm4_room.cells rm4_room.slots (TAL.setTop (mkF m 5 #[.val (.ref r0), .val (.int p1), .val (.int p2), .val (.int acc), .val (.int i), j5A] [])) := by
    intro kA
    induction kA using Nat.strongRecOn with
    | _ kA ihA =>
      intro acc i j5A TAL LAL hkA hinv hi XAL NAL eAL hj5A
      show own_Fin _ _ _ _ _ _ _ (TAL.setTop (mkF m 5 #[.val (.ref r0), .val (.int p1), .val (.int p2), .val (.int acc), .val (.int i), j5A] []))
      refine own_go (fun _ k => XS.iload XAL.here hx rfl (hb hby d4_5) rfl k) ?_
      show own_Fin _ _ _ _ _ _ _ (TAL.setTop (mkF m 7 #[.val (.ref r0), .val (.int p1), .val (.int p2), .val (.int acc), .val (.int i), j5A] [(.int i)]))
      refine own_go (fun _ k => XS.iloadN XAL.here hx rfl (hb hby d4_7) rfl k) ?_
      show own_Fin _ _ _ _ _ _ _ (TAL.setTop (mkF m 8 #[.val (.ref r0), .val (.int p1), .val (.int p2), .val (.int acc), .val (.int i), j5A] [(.int p1), (.int i)]))
      refine own_go (fun _ k => XS.iloadN XAL.here hx rfl (hb hby d4_8) rfl k) ?_
      show own_Fin _ _ _ _ _ _ _ (TAL.setTop (mkF m 9 #[.val (.ref r0), .val (.int p1), .val (.int p2), .val (.int acc), .val (.int i), j5A] [(.int p2), (.int p1), (.int i)]))
      refine own_go (fun _ k => XS.iadd XAL.here hx rfl (hb hby d4_9) rfl k) ?_
      show own_Fin _ _ _ _ _ _ _ (TAL.setTop (mkF m 10 #[.val (.ref r0), .val (.int p1), .val (.int p2), .val (.int acc), .val (.int i), j5A] [(.int (p1 + p2)), (.int i)]))
      by_cases hc1 : i < (p1 + p2)
      · refine own_go (fun _ k => XS.icmpNo XAL.here hx rfl (hb hby d4_10) rfl (tlt hc1).2.1 k) ?_
        show own_Fin _ _ _ _ _ _ _ (TAL.setTop (mkF m 13 #[.val (.ref r0), .val (.int p1), .val (.int p2), .val (.int acc), .val (.int i), j5A] []))
        refine own_go (fun _ k => XS.aloadN XAL.here hx rfl (hb hby d4_13) rfl rfl k) ?_
        show own_Fin _ _ _ _ _ _ _ (TAL.setTop (mkF m 14 #[.val (.ref r0), .val (.int p1), .val (.int p2), .val (.int acc), .val (.int i), j5A] [(.ref r0)]))
        refine own_go (fun _ k => XS.iload XAL.here hx rfl (hb hby d4_14) rfl k) ?_
        show own_Fin _ _ _ _ _ _ _ (TAL.setTop (mkF m 16 #[.val (.ref r0), .val (.int p1), .val (.int p2), .val (.int acc), .val (.int i), j5A] [(.int i), (.ref r0)]))
        refine own_go (fun tg k => own_baload XAL hx hZ eAL A_r0_0 (j := i) (own_ix hp hi hc1) (x := (xg i.toNatClampNeg)) rfl (g := (mkF m 16 #[.val (.ref r0), .val (.int p1), .val (.int p2), .val (.int acc), .val (.int i), j5A] [(.int i), (.ref r0)])) rfl rfl (hb hby d4_16) tg k) ?_
        show own_Fin _ _ _ _ _ _ _ (TAL.setTop (mkF m 17 #[.val (.ref r0), .val (.int p1), .val (.int p2), .val (.int acc), .val (.int i), j5A] [(.int (xg i.toNatClampNeg))]))
        refine own_go (fun _ k => XS.istoreS XAL.here hx rfl (hb hby d4_17) rfl rfl hj5A k) ?_
        show own_Fin _ _ _ _ _ _ _ (TAL.setTop (mkF m 19 #[.val (.ref r0), .val (.int p1), .val (.int p2), .val (.int acc), .val (.int i), .val (.int (xg i.toNatClampNeg))] []))
        refine own_go (fun _ k => XS.iload XAL.here hx rfl (hb hby d4_19) rfl k) ?_
        show own_Fin _ _ _ _ _ _ _ (TAL.setTop (mkF m 21 #[.val (.ref r0), .val (.int p1), .val (.int p2), .val (.int acc), .val (.int i), .val (.int (xg i.toNatClampNeg))] [(.int (xg i.toNatClampNeg))]))
        refine own_go (fun _ k => XS.bipush XAL.here hx rfl (hb hby d4_21) k) ?_
        show own_Fin _ _ _ _ _ _ _ (TAL.setTop (mkF m 23 #[.val (.ref r0), .val (.int p1), .val (.int p2), .val (.int acc), .val (.int i), .val (.int (xg i.toNatClampNeg))] [(.int (48 : Int32)), (.int (xg i.toNatClampNeg))]))
        by_cases hc2 : (xg i.toNatClampNeg) < (48 : Int32)
        · refine own_go (fun _ k => XS.icmpYes XAL.here hx rfl (pc0 := 23) (pc' := 33) rfl (hb hby d4_23) rfl (tlt hc2).1 (by decide) (by decide) k) ?_
          show own_Fin _ _ _ _ _ _ _ (TAL.setTop (mkF m 33 #[.val (.ref r0), .val (.int p1), .val (.int p2), .val (.int acc), .val (.int i), .val (.int (xg i.toNatClampNeg))] []))
          refine own_go (fun _ k => XS.iconst XAL.here hx rfl (hb hby d4_33) k) ?_
          show own_Fin _ _ _ _ _ _ _ (TAL.setTop (mkF m 34 #[.val (.ref r0), .val (.int p1), .val (.int p2), .val (.int acc), .val (.int i), .val (.int (xg i.toNatClampNeg))] [(.int (-1 : Int32))]))
          refine own_ret XAL hx hlk Bd.returns rfl (Or.inl ⟨rfl, by simp, _, rfl⟩) (hb hby d4_34) (Nat.le_of_ble_eq_true rfl) (Nat.le_of_ble_eq_true rfl) ?_
          refine ⟨?_, NAL, eAL⟩
          · rw [← hinv, own_dig1 hc1, if_pos (show own_bad _ from Or.inl hc2)]
        · refine own_go (fun _ k => XS.icmpNo XAL.here hx rfl (hb hby d4_23) rfl (flt hc2).1 k) ?_
          show own_Fin _ _ _ _ _ _ _ (TAL.setTop (mkF m 26 #[.val (.ref r0), .val (.int p1), .val (.int p2), .val (.int acc), .val (.int i), .val (.int (xg i.toNatClampNeg))] []))
          refine own_go (fun _ k => XS.iload XAL.here hx rfl (hb hby d4_26) rfl k) ?_
          show own_Fin _ _ _ _ _ _ _ (TAL.setTop (mkF m 28 #[.val (.ref r0), .val (.int p1), .val (.int p2), .val (.int acc), .val (.int i), .val (.int (xg i.toNatClampNeg))] [(.int (xg i.toNatClampNeg))]))
          refine own_go (fun _ k => XS.bipush XAL.here hx rfl (hb hby d4_28) k) ?_
          show own_Fin _ _ _ _ _ _ _ (TAL.setTop (mkF m 30 #[.val (.ref r0), .val (.int p1), .val (.int p2), .val (.int acc), .val (.int i), .val (.int (xg i.toNatClampNeg))] [(.int (57 : Int32)), (.int (xg i.toNatClampNeg))]))
          by_cases hc3 : (57 : Int32) < (xg i.toNatClampNeg)
          · refine own_go (fun _ k => XS.icmpNo XAL.here hx rfl (hb hby d4_30) rfl (tlt hc3).2.2.2 k) ?_
            show own_Fin _ _ _ _ _ _ _ (TAL.setTop (mkF m 33 #[.val (.ref r0), .val (.int p1), .val (.int p2), .val (.int acc), .val (.int i), .val (.int (xg i.toNatClampNeg))] []))
            refine own_go (fun _ k => XS.iconst XAL.here hx rfl (hb hby d4_33) k) ?_
            show own_Fin _ _ _ _ _ _ _ (TAL.setTop (mkF m 34 #[.val (.ref r0), .val (.int p1), .val (.int p2), .val (.int acc), .val (.int i), .val (.int (xg i.toNatClampNeg))] [(.int (-1 : Int32))]))
            refine own_ret XAL hx hlk Bd.returns rfl (Or.inl ⟨rfl, by simp, _, rfl⟩) (hb hby d4_34) (Nat.le_of_ble_eq_true rfl) (Nat.le_of_ble_eq_true rfl) ?_
            refine ⟨?_, NAL, eAL⟩
            · rw [← hinv, own_dig1 hc1, if_pos (show own_bad _ from Or.inr hc3)]
          · refine own_go (fun _ k => XS.icmpYes XAL.here hx rfl (pc0 := 30) (pc' := 35) rfl (hb hby d4_30) rfl (flt hc3).2.2.2 (by decide) (by decide) k) ?_
            show own_Fin _ _ _ _ _ _ _ (TAL.setTop (mkF m 35 #[.val (.ref r0), .val (.int p1), .val (.int p2), .val (.int acc), .val (.int i), .val (.int (xg i.toNatClampNeg))] []))
            refine own_go (fun _ k => XS.iloadN XAL.here hx rfl (hb hby d4_35) rfl k) ?_
            show own_Fin _ _ _ _ _ _ _ (TAL.setTop (mkF m 36 #[.val (.ref r0), .val (.int p1), .val (.int p2), .val (.int acc), .val (.int i), .val (.int (xg i.toNatClampNeg))] [(.int acc)]))
            refine own_go (fun _ k => XS.bipush XAL.here hx rfl (hb hby d4_36) k) ?_
            show own_Fin _ _ _ _ _ _ _ (TAL.setTop (mkF m 38 #[.val (.ref r0), .val (.int p1), .val (.int p2), .val (.int acc), .val (.int i), .val (.int (xg i.toNatClampNeg))] [(.int (10 : Int32)), (.int acc)]))
            refine own_go (fun _ k => XS.imul XAL.here hx rfl (hb hby d4_38) rfl k) ?_
            show own_Fin _ _ _ _ _ _ _ (TAL.setTop (mkF m 39 #[.val (.ref r0), .val (.int p1), .val (.int p2), .val (.int acc), .val (.int i), .val (.int (xg i.toNatClampNeg))] [(.int (acc * (10 : Int32)))]))
            refine own_go (fun _ k => XS.iload XAL.here hx rfl (hb hby d4_39) rfl k) ?_
            show own_Fin _ _ _ _ _ _ _ (TAL.setTop (mkF m 41 #[.val (.ref r0), .val (.int p1), .val (.int p2), .val (.int acc), .val (.int i), .val (.int (xg i.toNatClampNeg))] [(.int (xg i.toNatClampNeg)), (.int (acc * (10 : Int32)))]))
            refine own_go (fun _ k => XS.bipush XAL.here hx rfl (hb hby d4_41) k) ?_
            show own_Fin _ _ _ _ _ _ _ (TAL.setTop (mkF m 43 #[.val (.ref r0), .val (.int p1), .val (.int p2), .val (.int acc), .val (.int i), .val (.int (xg i.toNatClampNeg))] [(.int (48 : Int32)), (.int (xg i.toNatClampNeg)), (.int (acc * (10 : Int32)))]))
            refine own_go (fun _ k => XS.isub XAL.here hx rfl (hb hby d4_43) rfl k) ?_
            show own_Fin _ _ _ _ _ _ _ (TAL.setTop (mkF m 44 #[.val (.ref r0), .val (.int p1), .val (.int p2), .val (.int acc), .val (.int i), .val (.int (xg i.toNatClampNeg))] [(.int ((xg i.toNatClampNeg) - (48 : Int32))), (.int (acc * (10 : Int32)))]))
            refine own_go (fun _ k => XS.iadd XAL.here hx rfl (hb hby d4_44) rfl k) ?_
            show own_Fin _ _ _ _ _ _ _ (TAL.setTop (mkF m 45 #[.val (.ref r0), .val (.int p1), .val (.int p2), .val (.int acc), .val (.int i), .val (.int (xg i.toNatClampNeg))] [(.int ((acc * (10 : Int32)) + ((xg i.toNatClampNeg) - (48 : Int32))))]))
            refine own_go (fun _ k => XS.istoreN XAL.here hx rfl (hb hby d4_45) rfl (l' := #[.val (.ref r0), .val (.int p1), .val (.int p2), .val (.int ((acc * (10 : Int32)) + ((xg i.toNatClampNeg) - (48 : Int32)))), .val (.int i), .val (.int (xg i.toNatClampNeg))]) rfl k) ?_
            show own_Fin _ _ _ _ _ _ _ (TAL.setTop (mkF m 46 #[.val (.ref r0), .val (.int p1), .val (.int p2), .val (.int ((acc * (10 : Int32)) + ((xg i.toNatClampNeg) - (48 : Int32)))), .val (.int i), .val (.int (xg i.toNatClampNeg))] []))
            refine own_go (fun _ k => XS.iinc XAL.here hx rfl (hb hby d4_46) rfl (l' := #[.val (.ref r0), .val (.int p1), .val (.int p2), .val (.int ((acc * (10 : Int32)) + ((xg i.toNatClampNeg) - (48 : Int32)))), .val (.int (i + (1 : Int32))), .val (.int (xg i.toNatClampNeg))]) rfl k) ?_
            show own_Fin _ _ _ _ _ _ _ (TAL.setTop (mkF m 49 #[.val (.ref r0), .val (.int p1), .val (.int p2), .val (.int ((acc * (10 : Int32)) + ((xg i.toNatClampNeg) - (48 : Int32)))), .val (.int (i + (1 : Int32))), .val (.int (xg i.toNatClampNeg))] []))
            refine own_go (fun _ k => XS.goto XAL.here hx rfl (pc0 := 49) (pc' := 5) rfl (hb hby d4_49) (by decide) (by decide) k) ?_
            show own_Fin _ _ _ _ _ _ _ (TAL.setTop (mkF m 5 #[.val (.ref r0), .val (.int p1), .val (.int p2), .val (.int ((acc * (10 : Int32)) + ((xg i.toNatClampNeg) - (48 : Int32)))), .val (.int (i + (1 : Int32))), .val (.int (xg i.toNatClampNeg))] []))
            exact ihA _ (by subst hkA; exact own_dec hc1) (((acc * (10 : Int32)) + ((xg i.toNatClampNeg) - (48 : Int32)))) ((i + (1 : Int32))) (.val (.int (xg i.toNatClampNeg))) TAL _ rfl (by rw [← hinv, own_dig1 hc1, if_neg (show ¬ own_bad _ from fun q => q.elim hc2 hc3)]) (own_inc hc1 hi) (own_mono XAL (by decide) (by decide)) NAL eAL (One.val rfl)
      · refine own_go (fun _ k => XS.icmpYes XAL.here hx rfl (pc0 := 10) (pc' := 52) rfl (hb hby d4_10) rfl (flt hc1).2.1 (by decide) (by decide) k) ?_
        show own_Fin _ _ _ _ _ _ _ (TAL.setTop (mkF m 52 #[.val (.ref r0), .val (.int p1), .val (.int p2), .val (.int acc), .val (.int i), j5A] []))
        refine own_go (fun _ k => XS.iloadN XAL.here hx rfl (hb hby d4_52) rfl k) ?_
        show own_Fin _ _ _ _ _ _ _ (TAL.setTop (mkF m 53 #[.val (.ref r0), .val (.int p1), .val (.int p2), .val (.int acc), .val (.int i), j5A] [(.int acc)]))
        refine own_ret XAL hx hlk Bd.returns rfl (Or.inl ⟨rfl, by simp, _, rfl⟩) (hb hby d4_53) (Nat.le_of_ble_eq_true rfl) (Nat.le_of_ble_eq_true rfl) ?_
        refine ⟨?_, NAL, eAL⟩
        · rw [← hinv, own_dig0 hc1]
  exact loopA _ ((0 : Int32)) (p1) (.unset) s₁ _ rfl rfl (Int32.le_refl _) (own_mono X0 (by decide) (by decide)) N0 e0 One.u
theorem own_v0 {c : Int32} (h : own_bad c) : own_f5 c = (-1 : Int32) := by
  simp only [own_f5]
  rcases h with h | h
  · rw [if_pos h]
  · rw [if_pos h]; split <;> rfl
theorem own_v1 {c : Int32} (h : ¬ own_bad c) : own_f5 c = c - 48 ∧ ¬ own_f5 c < (0 : Int32) := by
  have h1 : ¬ c < (48 : Int32) := fun q => h (Or.inl q)
  have h2 : ¬ (57 : Int32) < c := fun q => h (Or.inr q)
  have e : own_f5 c = c - 48 := by simp only [own_f5, if_neg h1, if_neg h2]
  refine ⟨e, ?_⟩
  rw [e]
  rw [Int32.lt_iff_toInt_lt] at *
  have a := c_isub c 48
  have r := rng32 (c - 48)
  rw [show (48 : Int32).toInt = 48 from by decide] at a h1
  rw [show (57 : Int32).toInt = 57 from by decide] at h2
  rw [show (0 : Int32).toInt = 0 from by decide]
  omega
def own_ok (c k a e : Int32) : Bool := decide (k < a) || decide (¬ k < e) || decide (¬ own_bad c)
theorem own_okv (c k a e : Int32) : own_f2 c k a e = if own_ok c k a e then (1 : Int32) else (0 : Int32) := by
  simp only [own_f2, own_ok]
  by_cases h1 : k < a
  · simp [h1]
  · by_cases h2 : k < e
    · by_cases h3 : own_bad c
      · rw [own_v0 h3]; simp [h1, h2, h3]
      · have := (own_v1 h3).2; simp [h1, h2, h3, this]
    · simp [h1, h2]
theorem own_case (a : Int32) (h : 0 ≤ a.toInt ∧ a.toInt ≤ 4) : a = 0 ∨ a = 1 ∨ a = 2 ∨ a = 3 ∨ a = 4 := by
  rcases (show a.toInt = 0 ∨ a.toInt = 1 ∨ a.toInt = 2 ∨ a.toInt = 3 ∨ a.toInt = 4 by omega) with q | q | q | q | q
  · exact Or.inl (Int32.toInt_inj.mp q)
  · exact Or.inr (Or.inl (Int32.toInt_inj.mp q))
  · exact Or.inr (Or.inr (Or.inl (Int32.toInt_inj.mp q)))
  · exact Or.inr (Or.inr (Or.inr (Or.inl (Int32.toInt_inj.mp q))))
  · exact Or.inr (Or.inr (Or.inr (Or.inr (Int32.toInt_inj.mp q))))
theorem own_digx (g : Nat → Int32) (k : Nat) (i acc : Int32) : own_dig g (k + 1) i acc = if own_bad (g i.toNatClampNeg) then (-1) else own_dig g k (i + 1) ((acc * 10) + (g i.toNatClampNeg - 48)) := rfl
theorem own_digy (g : Nat → Int32) (i acc : Int32) : own_dig g 0 i acc = acc := rfl
theorem own_w1 {c : Int32} (h : ¬ own_bad c) : own_f5 c = c - 48 := (own_v1 h).1
theorem own_n10 : ((1 : Int32) = 0) = False := by decide
theorem own_n20 : ((2 : Int32) = 0) = False := by decide
theorem own_n21 : ((2 : Int32) = 1) = False := by decide
theorem own_n30 : ((3 : Int32) = 0) = False := by decide
theorem own_n31 : ((3 : Int32) = 1) = False := by decide
theorem own_n32 : ((3 : Int32) = 2) = False := by decide
theorem own_dl (f : Nat → Int32) (a e : Int32) (ha : 0 ≤ a.toInt) (he : a.toInt ≤ e.toInt ∧ e.toInt ≤ 4) :
    own_digE f a e 0 = (if (own_ok (f 0) 0 a e && own_ok (f 1) 1 a e && own_ok (f 2) 2 a e && own_ok (f 3) 3 a e) then (own_f3 (f 0) 0 a e + own_f3 (f 1) 1 a e + own_f3 (f 2) 2 a e + own_f3 (f 3) 3 a e) else (-1 : Int32)) := by
  rcases own_case a (by omega) with rfl | rfl | rfl | rfl | rfl <;> rcases own_case e (by omega) with rfl | rfl | rfl | rfl | rfl <;> first | (exfalso; revert he; decide) | skip
  all_goals simp only [own_digE, own_ok, own_f3, own_f6, Int32.reduceToInt, Int32.reduceLT, Int32.reduceSub, Int.reduceSub, Int.reduceToNat, Int.toNat_zero, Int.sub_self, own_digx, own_digy, Int32.reduceAdd, Int32.reduceToNatClampNeg, decide_true, decide_false, not_true_eq_false, not_false_eq_true, if_true, if_false, Bool.or_true, Bool.true_or, Bool.or_false, Bool.false_or, Bool.and_true, Bool.true_and]
  all_goals (try by_cases b0 : own_bad (f 0)) <;> (try by_cases b1 : own_bad (f 1)) <;> (try by_cases b2 : own_bad (f 2)) <;> (try by_cases b3 : own_bad (f 3))
  all_goals simp only [*, own_w1, not_true_eq_false, not_false_eq_true, decide_true, decide_false, if_true, if_false, Bool.and_true, Bool.and_false, Bool.false_and, Bool.true_and, Bool.false_eq_true, ite_true, ite_false, own_n10, own_n20, own_n21, own_n30, own_n31, own_n32]
  all_goals try generalize f 0 - 48 = d0
  all_goals try generalize f 1 - 48 = d1
  all_goals try generalize f 2 - 48 = d2
  all_goals try generalize f 3 - 48 = d3
  all_goals try grind
theorem own_rest (p4 : Int32) : 0 ≤ ((p4 &&& (2147483647 : Int32)) % (5 : Int32)).toInt ∧ ((p4 &&& (2147483647 : Int32)) % (5 : Int32)).toInt ≤ 4 ∧ 1 ≤ ((5 : Int32) - ((p4 &&& (2147483647 : Int32)) % (5 : Int32))).toInt ∧ ((5 : Int32) - ((p4 &&& (2147483647 : Int32)) % (5 : Int32))).toInt = 5 - ((p4 &&& (2147483647 : Int32)) % (5 : Int32)).toInt ∧
    0 ≤ ((own_iushr p4 (3 : Int32)) % ((5 : Int32) - ((p4 &&& (2147483647 : Int32)) % (5 : Int32)))).toInt ∧ ((own_iushr p4 (3 : Int32)) % ((5 : Int32) - ((p4 &&& (2147483647 : Int32)) % (5 : Int32)))).toInt ≤ 4 - ((p4 &&& (2147483647 : Int32)) % (5 : Int32)).toInt ∧
    (((p4 &&& (2147483647 : Int32)) % (5 : Int32)) + ((own_iushr p4 (3 : Int32)) % ((5 : Int32) - ((p4 &&& (2147483647 : Int32)) % (5 : Int32))))).toInt = ((p4 &&& (2147483647 : Int32)) % (5 : Int32)).toInt + ((own_iushr p4 (3 : Int32)) % ((5 : Int32) - ((p4 &&& (2147483647 : Int32)) % (5 : Int32)))).toInt := by
  have m0 := c_mask p4 2147483647 31 (by decide) (by decide)
  rw [show ((2 ^ 31 : Nat) : Int) = 2147483648 from by decide] at m0
  have d0 := (c_irem (p4 &&& 2147483647) 5 5 (by decide)).1 (by omega)
  have s : (own_iushr p4 (3 : Int32)).toInt = (p4.toInt % 4294967296) / (2 ^ 3 : Nat) := c_iushr p4 3 3 (by decide) (by decide)
  rw [show ((2 ^ 3 : Nat) : Int) = 8 from by decide] at s
  generalize (p4 &&& (2147483647 : Int32)) % (5 : Int32) = a at *
  have b := c_isub 5 a
  have r := rng32 (5 - a)
  rw [show (5 : Int32).toInt = 5 from by decide] at b
  have v := (c_iremV (own_iushr p4 3) (5 - a)).1 (by omega) (by omega)
  have k := c_iadd a (own_iushr p4 3 % (5 - a))
  have r2 := rng32 (a + own_iushr p4 3 % (5 - a))
  omega
theorem own_nz (x : Int32) : ((5 : Int32) - ((x &&& (2147483647 : Int32)) % (5 : Int32))) ≠ 0 := by
  have h := own_rest x
  intro q
  rw [q] at h
  have := h.2.2.1
  revert this; decide
theorem own_pay (x : Int32) : ¬ ((x &&& (2147483647 : Int32)) % (5 : Int32)) < (0 : Int32) ∧ (((x &&& (2147483647 : Int32)) % (5 : Int32)) + ((own_iushr x (3 : Int32)) % ((5 : Int32) - ((x &&& (2147483647 : Int32)) % (5 : Int32))))) ≤ (4 : Int32) := by
  have h := own_rest x
  rw [Int32.lt_iff_toInt_lt, Int32.le_iff_toInt_le, show (0 : Int32).toInt = 0 from by decide, show (4 : Int32).toInt = 4 from by decide]
  omega

theorem own_pd118 : parseMethodDescriptor "(I)B" = some ⟨[.int], some .byte⟩ := by decide +kernel
theorem own_pd119 : parseMethodDescriptor "(BIII)Z" = some ⟨[.byte, .int, .int, .int], some .boolean⟩ := by decide +kernel
theorem own_pd120 : parseMethodDescriptor "(BIII)I" = some ⟨[.byte, .int, .int, .int], some .int⟩ := by decide +kernel
theorem own_pd121 : parseMethodDescriptor "([BII)I" = some ⟨[(.array .byte), .int, .int], some .int⟩ := by decide +kernel
theorem pn_0 : plainName "com/example/plain_tariff/plaintariff/OffsetInstantDigitsPinLaw" = true := by first | (simp [plainName, overriddenIn]; done) | decide +kernel
theorem ef_0 (m : MethodId) (p0 : Int32) (p1 : Int32) (p2 : Int32) (p3 : Int32) (p4 : Int32) : entryFrame m #[(.int p0), (.int p1), (.int p2), (.int p3), (.int p4)] maxLocals = mkF m 0 #[.val (.int p0), .val (.int p1), .val (.int p2), .val (.int p3), .val (.int p4), .unset, .unset, .unset, .unset, .unset, .unset, .unset] [] := by first | (simp [entryFrame, mkF, argsToLocals, Value.category, maxLocals]; done) | rfl
def own_f0 (p0 : Int32) (p1 : Int32) (p2 : Int32) (p3 : Int32) (p4 : Int32) : Int32 := let f3 := (own_set (fun _ => (0 : Int32)) (0 : Int32) (own_i2b (own_f1 p0))); let f5 := (own_set f3 (1 : Int32) (own_i2b (own_f1 p1))); let f7 := (own_set f5 (2 : Int32) (own_i2b (own_f1 p2))); let f9 := (own_set f7 (3 : Int32) (own_i2b (own_f1 p3))); let z10 := ((own_iushr p4 (3 : Int32)) % ((5 : Int32) - ((p4 &&& (2147483647 : Int32)) % (5 : Int32)))); let z11 := (((p4 &&& (2147483647 : Int32)) % (5 : Int32)) + z10); let z22 := (if (own_f2 (f9 0) (0 : Int32) ((p4 &&& (2147483647 : Int32)) % (5 : Int32)) z11) = (0 : Int32) then (0 : Int32) else (if (own_f2 (f9 1) (1 : Int32) ((p4 &&& (2147483647 : Int32)) % (5 : Int32)) z11) = (0 : Int32) then (0 : Int32) else (if (own_f2 (f9 2) (2 : Int32) ((p4 &&& (2147483647 : Int32)) % (5 : Int32)) z11) = (0 : Int32) then (0 : Int32) else (if (own_f2 (f9 3) (3 : Int32) ((p4 &&& (2147483647 : Int32)) % (5 : Int32)) z11) = (0 : Int32) then (0 : Int32) else (1 : Int32))))); let z25 := ((own_f3 (f9 0) (0 : Int32) ((p4 &&& (2147483647 : Int32)) % (5 : Int32)) z11) + (own_f3 (f9 1) (1 : Int32) ((p4 &&& (2147483647 : Int32)) % (5 : Int32)) z11)); let z28 := ((z25 + (own_f3 (f9 2) (2 : Int32) ((p4 &&& (2147483647 : Int32)) % (5 : Int32)) z11)) + (own_f3 (f9 3) (3 : Int32) ((p4 &&& (2147483647 : Int32)) % (5 : Int32)) z11)); let z32 := (if z22 = (0 : Int32) then (-1 : Int32) else z28); (if (own_digE f9 ((p4 &&& (2147483647 : Int32)) % (5 : Int32)) (((p4 &&& (2147483647 : Int32)) % (5 : Int32)) + z10) (0 : Int32)) = z32 then ((1 : Int32)) else ((0 : Int32)))
theorem own_lf_own_f0_1 {p0 : Int32} {p1 : Int32} {p2 : Int32} {p3 : Int32} {p4 : Int32} {f3 : Nat → Int32} {f5 : Nat → Int32} {f7 : Nat → Int32} {f9 : Nat → Int32} {z10 : Int32} {z11 : Int32} {z22 : Int32} {z25 : Int32} {z28 : Int32} {z32 : Int32} (hf3 : f3 = (own_set (fun _ => (0 : Int32)) (0 : Int32) (own_i2b (own_f1 p0)))) (hf5 : f5 = (own_set f3 (1 : Int32) (own_i2b (own_f1 p1)))) (hf7 : f7 = (own_set f5 (2 : Int32) (own_i2b (own_f1 p2)))) (hf9 : f9 = (own_set f7 (3 : Int32) (own_i2b (own_f1 p3)))) (hz10 : ((own_iushr p4 (3 : Int32)) % ((5 : Int32) - ((p4 &&& (2147483647 : Int32)) % (5 : Int32)))) = z10) (hz11 : (((p4 &&& (2147483647 : Int32)) % (5 : Int32)) + z10) = z11) (hz22 : (if (own_f2 (f9 0) (0 : Int32) ((p4 &&& (2147483647 : Int32)) % (5 : Int32)) z11) = (0 : Int32) then (0 : Int32) else (if (own_f2 (f9 1) (1 : Int32) ((p4 &&& (2147483647 : Int32)) % (5 : Int32)) z11) = (0 : Int32) then (0 : Int32) else (if (own_f2 (f9 2) (2 : Int32) ((p4 &&& (2147483647 : Int32)) % (5 : Int32)) z11) = (0 : Int32) then (0 : Int32) else (if (own_f2 (f9 3) (3 : Int32) ((p4 &&& (2147483647 : Int32)) % (5 : Int32)) z11) = (0 : Int32) then (0 : Int32) else (1 : Int32))))) = z22) (hz25 : ((own_f3 (f9 0) (0 : Int32) ((p4 &&& (2147483647 : Int32)) % (5 : Int32)) z11) + (own_f3 (f9 1) (1 : Int32) ((p4 &&& (2147483647 : Int32)) % (5 : Int32)) z11)) = z25) (hz28 : ((z25 + (own_f3 (f9 2) (2 : Int32) ((p4 &&& (2147483647 : Int32)) % (5 : Int32)) z11)) + (own_f3 (f9 3) (3 : Int32) ((p4 &&& (2147483647 : Int32)) % (5 : Int32)) z11)) = z28) (hz32 : (if z22 = (0 : Int32) then (-1 : Int32) else z28) = z32) (hc34 : (own_digE f9 ((p4 &&& (2147483647 : Int32)) % (5 : Int32)) (((p4 &&& (2147483647 : Int32)) % (5 : Int32)) + z10) (0 : Int32)) = z32) : (some (.int (1 : Int32)) : Option Value) = some (.int (own_f0 p0 p1 p2 p3 p4)) := by
  subst hz32
  subst hz28
  subst hz25
  subst hz22
  subst hz11
  subst hz10
  subst hf9
  subst hf7
  subst hf5
  subst hf3
  first | (simp only [own_f0, if_pos hc34]; done) | (simp only [own_f0, if_pos hc34]; rfl) | rfl
theorem own_lf_own_f0_2 {p0 : Int32} {p1 : Int32} {p2 : Int32} {p3 : Int32} {p4 : Int32} {f3 : Nat → Int32} {f5 : Nat → Int32} {f7 : Nat → Int32} {f9 : Nat → Int32} {z10 : Int32} {z11 : Int32} {z22 : Int32} {z25 : Int32} {z28 : Int32} {z32 : Int32} (hf3 : f3 = (own_set (fun _ => (0 : Int32)) (0 : Int32) (own_i2b (own_f1 p0)))) (hf5 : f5 = (own_set f3 (1 : Int32) (own_i2b (own_f1 p1)))) (hf7 : f7 = (own_set f5 (2 : Int32) (own_i2b (own_f1 p2)))) (hf9 : f9 = (own_set f7 (3 : Int32) (own_i2b (own_f1 p3)))) (hz10 : ((own_iushr p4 (3 : Int32)) % ((5 : Int32) - ((p4 &&& (2147483647 : Int32)) % (5 : Int32)))) = z10) (hz11 : (((p4 &&& (2147483647 : Int32)) % (5 : Int32)) + z10) = z11) (hz22 : (if (own_f2 (f9 0) (0 : Int32) ((p4 &&& (2147483647 : Int32)) % (5 : Int32)) z11) = (0 : Int32) then (0 : Int32) else (if (own_f2 (f9 1) (1 : Int32) ((p4 &&& (2147483647 : Int32)) % (5 : Int32)) z11) = (0 : Int32) then (0 : Int32) else (if (own_f2 (f9 2) (2 : Int32) ((p4 &&& (2147483647 : Int32)) % (5 : Int32)) z11) = (0 : Int32) then (0 : Int32) else (if (own_f2 (f9 3) (3 : Int32) ((p4 &&& (2147483647 : Int32)) % (5 : Int32)) z11) = (0 : Int32) then (0 : Int32) else (1 : Int32))))) = z22) (hz25 : ((own_f3 (f9 0) (0 : Int32) ((p4 &&& (2147483647 : Int32)) % (5 : Int32)) z11) + (own_f3 (f9 1) (1 : Int32) ((p4 &&& (2147483647 : Int32)) % (5 : Int32)) z11)) = z25) (hz28 : ((z25 + (own_f3 (f9 2) (2 : Int32) ((p4 &&& (2147483647 : Int32)) % (5 : Int32)) z11)) + (own_f3 (f9 3) (3 : Int32) ((p4 &&& (2147483647 : Int32)) % (5 : Int32)) z11)) = z28) (hz32 : (if z22 = (0 : Int32) then (-1 : Int32) else z28) = z32) (hc34 : ¬ ((own_digE f9 ((p4 &&& (2147483647 : Int32)) % (5 : Int32)) (((p4 &&& (2147483647 : Int32)) % (5 : Int32)) + z10) (0 : Int32)) = z32)) : (some (.int (0 : Int32)) : Option Value) = some (.int (own_f0 p0 p1 p2 p3 p4)) := by
  subst hz32
  subst hz28
  subst hz25
  subst hz22
  subst hz11
  subst hz10
  subst hf9
  subst hf7
  subst hf5
  subst hf3
  first | (simp only [own_f0, if_neg hc34]; done) | (simp only [own_f0, if_neg hc34]; rfl) | rfl
set_option maxRecDepth 65536 in
set_option maxHeartbeats 40000000 in
theorem rm0 (l : Launch) (Z : State) (a0 : Array Value) (hw : ∀ d ∈ tables_1, d.before a0 Z = true) (ws : List Jvm.Cond) (p0 : Int32) (p1 : Int32) (p2 : Int32) (p3 : Int32) (p4 : Int32) (h0 : Heap) (n0 : Nat) (Z0 : n0 ≤ h0.size) :
    MetFree l x (head1 (Jvm.Cond.code x code maxLocals ret :: ws) room_1) (fun a U => a = #[(.int p0), (.int p1), (.int p2), (.int p3), (.int p4)] ∧ Z.Warmed39 U.vm ∧ U.heap = h0) (fun _ _ _ _ _ => True) (fun _ U o U' => ∃ v L, o = .returned v ∧ own_QL (some (.int (own_f0 p0 p1 p2 p3 p4))) n0 v U'.heap L ∧ FrameEnd U o U' L 16 128) := by
  refine MetFree.of_bodySF (plainFor_of_name pn_0) hisR ?_
  intro p e s m args below meth c s₁ Bd hml0 hP hK
  obtain ⟨rfl, hZ, hh⟩ := hP
  have hx := Bd.exec
  have hby := Bd.bytes
  have hml : c.maxLocals = 12 := hml0
  have hown : s.vm.findClass "com/example/plain_tariff/plaintariff/OffsetInstantDigitsPinLaw" = some m.cls := findClass_of_methodNamed Bd.named
  have hnm := (name_of_methodNamed Bd.named Bd.method).1
  have hlk : meth.locks = false := BodyLoose.notSynchronized Bd
  have X0 : Stand p l e room_1 s m #[(.int p0), (.int p1), (.int p2), (.int p3), (.int p4)] below meth c s₁ [] 0 0 := Stand.of_body Bd
  have e0 : s₁.heap = h0 := by rw [← hh, Bd.state]; rfl
  have N0 := Fr.nil n0
  show own_Fin p.tables e below s (own_QL (some (.int (own_f0 p0 p1 p2 p3 p4))) n0) 16 128 (s₁.setTop (entryFrame m #[(.int p0), (.int p1), (.int p2), (.int p3), (.int p4)] maxLocals))
  rw [ef_0]
  show own_Fin _ _ _ _ _ _ _ (s₁.setTop (mkF m 0 #[.val (.int p0), .val (.int p1), .val (.int p2), .val (.int p3), .val (.int p4), .unset, .unset, .unset, .unset, .unset, .unset, .unset] []))
  refine own_go (fun _ k => XS.iconst X0.here hx rfl (hb hby at_0) k) ?_
  show own_Fin _ _ _ _ _ _ _ (s₁.setTop (mkF m 1 #[.val (.int p0), .val (.int p1), .val (.int p2), .val (.int p3), .val (.int p4), .unset, .unset, .unset, .unset, .unset, .unset, .unset] [(.int (4 : Int32))]))
  obtain ⟨T1, h1, k1, X1, e1, E1, A1, st1⟩ := newP X0 hx hZ (hw _ (List.mem_of_getElem? (i := 0) rfl)) e0 (g := (mkF m 1 #[.val (.int p0), .val (.int p1), .val (.int p2), .val (.int p3), .val (.int p4), .unset, .unset, .unset, .unset, .unset, .unset, .unset] [(.int (4 : Int32))])) rfl (hb hby at_1) rfl (by decide) (cap := 4) (by decide) (by decide) (by decide) (by decide)
  obtain ⟨b1, g1⟩ : ∃ z, z = h0.size := ⟨_, rfl⟩
  rw [← g1] at A1 st1
  have ge_b1 : n0 ≤ b1 := Nat.le_trans Z0 (Nat.le_of_eq g1.symm)
  have Z1 : n0 ≤ h1.size := Nat.le_trans Z0 E1.1
  have A_b1_1 : own_Arf Z h1 b1 .byte (4 : Int32) (fun i => .int ((fun _ => (0 : Int32)) i)) := own_Arf.new A1 (by decide)
  refine own_go (fun tg k => st1 tg k) ?_
  show own_Fin _ _ _ _ _ _ _ (T1.setTop (mkF m 3 #[.val (.int p0), .val (.int p1), .val (.int p2), .val (.int p3), .val (.int p4), .unset, .unset, .unset, .unset, .unset, .unset, .unset] [(.ref b1)]))
  refine own_go (fun _ k => XS.dup X1.here hx rfl (hb hby at_3) rfl rfl k) ?_
  show own_Fin _ _ _ _ _ _ _ (T1.setTop (mkF m 4 #[.val (.int p0), .val (.int p1), .val (.int p2), .val (.int p3), .val (.int p4), .unset, .unset, .unset, .unset, .unset, .unset, .unset] [(.ref b1), (.ref b1)]))
  refine own_go (fun _ k => XS.iconst X1.here hx rfl (hb hby at_4) k) ?_
  show own_Fin _ _ _ _ _ _ _ (T1.setTop (mkF m 5 #[.val (.int p0), .val (.int p1), .val (.int p2), .val (.int p3), .val (.int p4), .unset, .unset, .unset, .unset, .unset, .unset, .unset] [(.int (0 : Int32)), (.ref b1), (.ref b1)]))
  refine own_go (fun _ k => XS.iloadN X1.here hx rfl (hb hby at_5) rfl k) ?_
  show own_Fin _ _ _ _ _ _ _ (T1.setTop (mkF m 6 #[.val (.int p0), .val (.int p1), .val (.int p2), .val (.int p3), .val (.int p4), .unset, .unset, .unset, .unset, .unset, .unset, .unset] [(.int p0), (.int (0 : Int32)), (.ref b1), (.ref b1)]))
  obtain ⟨_, _, ⟨T2, L2, k2, n2⟩, -, X2, ⟨Lc2, hQ2, l2, y2, z2⟩, st2⟩ := Jvm.LawKit.callS X1 hx (y := (⟨"com/example/plain_tariff/plaintariff/OffsetInstantDigitsPinLaw", "b", "(I)B"⟩ : MethodName)) hown (mvT hZ (hw _ (List.mem_of_getElem? (i := 1) rfl))) (mvT hZ (hw _ (List.mem_of_getElem? (i := 2) rfl))) (mvT hZ (hw _ (List.mem_of_getElem? (i := 3) rfl))) (mvT hZ (hw _ (List.mem_of_getElem? (i := 4) rfl))) (by decide) (backOf (W := 3) (rm1 l Z a0 hw [] p0 h1 n0 Z1) hZ (hw _ (List.mem_of_getElem? (i := 4) rfl)) (hw _ (List.mem_of_getElem? (i := 3) rfl)) (by decide) (by decide)) (g := (mkF m 6 #[.val (.int p0), .val (.int p1), .val (.int p2), .val (.int p3), .val (.int p4), .unset, .unset, .unset, .unset, .unset, .unset, .unset] [(.int p0), (.int (0 : Int32)), (.ref b1), (.ref b1)])) rfl (by rw [hml]; rfl) (argsL := [(.int p0)]) (rest := [(.int (0 : Int32)), (.ref b1), (.ref b1)]) (lenOf own_pd118 rfl) rfl (by show 2 * 0 + _ ≤ _; exact Nat.le_of_eq rfl) (hb hby at_6) (fun _ _ => ⟨rfl, e1, (by decide : 1 + 0 ≤ _), (by decide : 4 + 0 ≤ _)⟩)
  dsimp only [Pt.U, Pt.locs, Pt.cells, Pt.slots] at X2 l2 y2 z2 st2 hQ2
  replace y2 : 1 = k2 := y2.symm
  replace z2 : 4 = n2 := z2.symm
  subst y2 z2
  obtain ⟨rfl, N2q, e2⟩ := hQ2
  have N2 : Fr n0 L2 := by rw [l2]; exact Fr.app N0 N2q
  refine own_go (fun tg k => st2 tg k) ?_
  show own_Fin _ _ _ _ _ _ _ (T2.setTop (mkF m 9 #[.val (.int p0), .val (.int p1), .val (.int p2), .val (.int p3), .val (.int p4), .unset, .unset, .unset, .unset, .unset, .unset, .unset] [(.int (own_f1 p0)), (.int (0 : Int32)), (.ref b1), (.ref b1)]))
  obtain ⟨T3, h3, X3, e3, W3, A_b1_3, st3⟩ := own_stB X2 hx hZ e2 A_b1_1 (j := (0 : Int32)) ⟨by decide, by decide⟩ (g := (mkF m 9 #[.val (.int p0), .val (.int p1), .val (.int p2), .val (.int p3), .val (.int p4), .unset, .unset, .unset, .unset, .unset, .unset, .unset] [(.int (own_f1 p0)), (.int (0 : Int32)), (.ref b1), (.ref b1)])) rfl rfl (hb hby at_9)
  have N3 := Fr.snoc X3 N2 ge_b1
  have Z3 : n0 ≤ h3.size := Nat.le_trans Z1 (Keep.of_wr W3).1
  obtain ⟨f3, hf3⟩ : ∃ z, z = (own_set (fun _ => (0 : Int32)) (0 : Int32) (own_i2b (own_f1 p0))) := ⟨_, rfl⟩
  rw [← hf3] at A_b1_3
  refine own_go (fun tg k => st3 tg k) ?_
  show own_Fin _ _ _ _ _ _ _ (T3.setTop (mkF m 10 #[.val (.int p0), .val (.int p1), .val (.int p2), .val (.int p3), .val (.int p4), .unset, .unset, .unset, .unset, .unset, .unset, .unset] [(.ref b1)]))
  refine own_go (fun _ k => XS.dup X3.here hx rfl (hb hby at_10) rfl rfl k) ?_
  show own_Fin _ _ _ _ _ _ _ (T3.setTop (mkF m 11 #[.val (.int p0), .val (.int p1), .val (.int p2), .val (.int p3), .val (.int p4), .unset, .unset, .unset, .unset, .unset, .unset, .unset] [(.ref b1), (.ref b1)]))
  refine own_go (fun _ k => XS.iconst X3.here hx rfl (hb hby at_11) k) ?_
  show own_Fin _ _ _ _ _ _ _ (T3.setTop (mkF m 12 #[.val (.int p0), .val (.int p1), .val (.int p2), .val (.int p3), .val (.int p4), .unset, .unset, .unset, .unset, .unset, .unset, .unset] [(.int (1 : Int32)), (.ref b1), (.ref b1)]))
  refine own_go (fun _ k => XS.iloadN X3.here hx rfl (hb hby at_12) rfl k) ?_
  show own_Fin _ _ _ _ _ _ _ (T3.setTop (mkF m 13 #[.val (.int p0), .val (.int p1), .val (.int p2), .val (.int p3), .val (.int p4), .unset, .unset, .unset, .unset, .unset, .unset, .unset] [(.int p1), (.int (1 : Int32)), (.ref b1), (.ref b1)]))
  obtain ⟨_, _, ⟨T4, L4, k4, n4⟩, -, X4, ⟨Lc4, hQ4, l4, y4, z4⟩, st4⟩ := Jvm.LawKit.callS X3 hx (y := (⟨"com/example/plain_tariff/plaintariff/OffsetInstantDigitsPinLaw", "b", "(I)B"⟩ : MethodName)) hown (mvT hZ (hw _ (List.mem_of_getElem? (i := 1) rfl))) (mvT hZ (hw _ (List.mem_of_getElem? (i := 2) rfl))) (mvT hZ (hw _ (List.mem_of_getElem? (i := 3) rfl))) (mvT hZ (hw _ (List.mem_of_getElem? (i := 4) rfl))) (by decide) (backOf (W := 3) (rm1 l Z a0 hw [] p1 h3 n0 Z3) hZ (hw _ (List.mem_of_getElem? (i := 4) rfl)) (hw _ (List.mem_of_getElem? (i := 3) rfl)) (by decide) (by decide)) (g := (mkF m 13 #[.val (.int p0), .val (.int p1), .val (.int p2), .val (.int p3), .val (.int p4), .unset, .unset, .unset, .unset, .unset, .unset, .unset] [(.int p1), (.int (1 : Int32)), (.ref b1), (.ref b1)])) rfl (by rw [hml]; rfl) (argsL := [(.int p1)]) (rest := [(.int (1 : Int32)), (.ref b1), (.ref b1)]) (lenOf own_pd118 rfl) rfl (by show 2 * 0 + _ ≤ _; exact Nat.le_of_eq rfl) (hb hby at_13) (fun _ _ => ⟨rfl, e3, (by decide : 1 + 0 ≤ _), (by decide : 4 + 0 ≤ _)⟩)
  dsimp only [Pt.U, Pt.locs, Pt.cells, Pt.slots] at X4 l4 y4 z4 st4 hQ4
  replace y4 : 1 = k4 := y4.symm
  replace z4 : 4 = n4 := z4.symm
  subst y4 z4
  obtain ⟨rfl, N4q, e4⟩ := hQ4
  have N4 : Fr n0 L4 := by rw [l4]; exact Fr.app N3 N4q
  refine own_go (fun tg k => st4 tg k) ?_
  show own_Fin _ _ _ _ _ _ _ (T4.setTop (mkF m 16 #[.val (.int p0), .val (.int p1), .val (.int p2), .val (.int p3), .val (.int p4), .unset, .unset, .unset, .unset, .unset, .unset, .unset] [(.int (own_f1 p1)), (.int (1 : Int32)), (.ref b1), (.ref b1)]))
  obtain ⟨T5, h5, X5, e5, W5, A_b1_5, st5⟩ := own_stB X4 hx hZ e4 A_b1_3 (j := (1 : Int32)) ⟨by decide, by decide⟩ (g := (mkF m 16 #[.val (.int p0), .val (.int p1), .val (.int p2), .val (.int p3), .val (.int p4), .unset, .unset, .unset, .unset, .unset, .unset, .unset] [(.int (own_f1 p1)), (.int (1 : Int32)), (.ref b1), (.ref b1)])) rfl rfl (hb hby at_16)
  have N5 := Fr.snoc X5 N4 ge_b1
  have Z5 : n0 ≤ h5.size := Nat.le_trans Z3 (Keep.of_wr W5).1
  obtain ⟨f5, hf5⟩ : ∃ z, z = (own_set f3 (1 : Int32) (own_i2b (own_f1 p1))) := ⟨_, rfl⟩
  rw [← hf5] at A_b1_5
  refine own_go (fun tg k => st5 tg k) ?_
  show own_Fin _ _ _ _ _ _ _ (T5.setTop (mkF m 17 #[.val (.int p0), .val (.int p1), .val (.int p2), .val (.int p3), .val (.int p4), .unset, .unset, .unset, .unset, .unset, .unset, .unset] [(.ref b1)]))
  refine own_go (fun _ k => XS.dup X5.here hx rfl (hb hby at_17) rfl rfl k) ?_
  show own_Fin _ _ _ _ _ _ _ (T5.setTop (mkF m 18 #[.val (.int p0), .val (.int p1), .val (.int p2), .val (.int p3), .val (.int p4), .unset, .unset, .unset, .unset, .unset, .unset, .unset] [(.ref b1), (.ref b1)]))
  refine own_go (fun _ k => XS.iconst X5.here hx rfl (hb hby at_18) k) ?_
  show own_Fin _ _ _ _ _ _ _ (T5.setTop (mkF m 19 #[.val (.int p0), .val (.int p1), .val (.int p2), .val (.int p3), .val (.int p4), .unset, .unset, .unset, .unset, .unset, .unset, .unset] [(.int (2 : Int32)), (.ref b1), (.ref b1)]))
  refine own_go (fun _ k => XS.iloadN X5.here hx rfl (hb hby at_19) rfl k) ?_
  show own_Fin _ _ _ _ _ _ _ (T5.setTop (mkF m 20 #[.val (.int p0), .val (.int p1), .val (.int p2), .val (.int p3), .val (.int p4), .unset, .unset, .unset, .unset, .unset, .unset, .unset] [(.int p2), (.int (2 : Int32)), (.ref b1), (.ref b1)]))
  obtain ⟨_, _, ⟨T6, L6, k6, n6⟩, -, X6, ⟨Lc6, hQ6, l6, y6, z6⟩, st6⟩ := Jvm.LawKit.callS X5 hx (y := (⟨"com/example/plain_tariff/plaintariff/OffsetInstantDigitsPinLaw", "b", "(I)B"⟩ : MethodName)) hown (mvT hZ (hw _ (List.mem_of_getElem? (i := 1) rfl))) (mvT hZ (hw _ (List.mem_of_getElem? (i := 2) rfl))) (mvT hZ (hw _ (List.mem_of_getElem? (i := 3) rfl))) (mvT hZ (hw _ (List.mem_of_getElem? (i := 4) rfl))) (by decide) (backOf (W := 3) (rm1 l Z a0 hw [] p2 h5 n0 Z5) hZ (hw _ (List.mem_of_getElem? (i := 4) rfl)) (hw _ (List.mem_of_getElem? (i := 3) rfl)) (by decide) (by decide)) (g := (mkF m 20 #[.val (.int p0), .val (.int p1), .val (.int p2), .val (.int p3), .val (.int p4), .unset, .unset, .unset, .unset, .unset, .unset, .unset] [(.int p2), (.int (2 : Int32)), (.ref b1), (.ref b1)])) rfl (by rw [hml]; rfl) (argsL := [(.int p2)]) (rest := [(.int (2 : Int32)), (.ref b1), (.ref b1)]) (lenOf own_pd118 rfl) rfl (by show 2 * 0 + _ ≤ _; exact Nat.le_of_eq rfl) (hb hby at_20) (fun _ _ => ⟨rfl, e5, (by decide : 1 + 0 ≤ _), (by decide : 4 + 0 ≤ _)⟩)
  dsimp only [Pt.U, Pt.locs, Pt.cells, Pt.slots] at X6 l6 y6 z6 st6 hQ6
  replace y6 : 1 = k6 := y6.symm
  replace z6 : 4 = n6 := z6.symm
  subst y6 z6
  obtain ⟨rfl, N6q, e6⟩ := hQ6
  have N6 : Fr n0 L6 := by rw [l6]; exact Fr.app N5 N6q
  refine own_go (fun tg k => st6 tg k) ?_
  show own_Fin _ _ _ _ _ _ _ (T6.setTop (mkF m 23 #[.val (.int p0), .val (.int p1), .val (.int p2), .val (.int p3), .val (.int p4), .unset, .unset, .unset, .unset, .unset, .unset, .unset] [(.int (own_f1 p2)), (.int (2 : Int32)), (.ref b1), (.ref b1)]))
  obtain ⟨T7, h7, X7, e7, W7, A_b1_7, st7⟩ := own_stB X6 hx hZ e6 A_b1_5 (j := (2 : Int32)) ⟨by decide, by decide⟩ (g := (mkF m 23 #[.val (.int p0), .val (.int p1), .val (.int p2), .val (.int p3), .val (.int p4), .unset, .unset, .unset, .unset, .unset, .unset, .unset] [(.int (own_f1 p2)), (.int (2 : Int32)), (.ref b1), (.ref b1)])) rfl rfl (hb hby at_23)
  have N7 := Fr.snoc X7 N6 ge_b1
  have Z7 : n0 ≤ h7.size := Nat.le_trans Z5 (Keep.of_wr W7).1
  obtain ⟨f7, hf7⟩ : ∃ z, z = (own_set f5 (2 : Int32) (own_i2b (own_f1 p2))) := ⟨_, rfl⟩
  rw [← hf7] at A_b1_7
  refine own_go (fun tg k => st7 tg k) ?_
  show own_Fin _ _ _ _ _ _ _ (T7.setTop (mkF m 24 #[.val (.int p0), .val (.int p1), .val (.int p2), .val (.int p3), .val (.int p4), .unset, .unset, .unset, .unset, .unset, .unset, .unset] [(.ref b1)]))
  refine own_go (fun _ k => XS.dup X7.here hx rfl (hb hby at_24) rfl rfl k) ?_
  show own_Fin _ _ _ _ _ _ _ (T7.setTop (mkF m 25 #[.val (.int p0), .val (.int p1), .val (.int p2), .val (.int p3), .val (.int p4), .unset, .unset, .unset, .unset, .unset, .unset, .unset] [(.ref b1), (.ref b1)]))
  refine own_go (fun _ k => XS.iconst X7.here hx rfl (hb hby at_25) k) ?_
  show own_Fin _ _ _ _ _ _ _ (T7.setTop (mkF m 26 #[.val (.int p0), .val (.int p1), .val (.int p2), .val (.int p3), .val (.int p4), .unset, .unset, .unset, .unset, .unset, .unset, .unset] [(.int (3 : Int32)), (.ref b1), (.ref b1)]))
  refine own_go (fun _ k => XS.iloadN X7.here hx rfl (hb hby at_26) rfl k) ?_
  show own_Fin _ _ _ _ _ _ _ (T7.setTop (mkF m 27 #[.val (.int p0), .val (.int p1), .val (.int p2), .val (.int p3), .val (.int p4), .unset, .unset, .unset, .unset, .unset, .unset, .unset] [(.int p3), (.int (3 : Int32)), (.ref b1), (.ref b1)]))
  obtain ⟨_, _, ⟨T8, L8, k8, n8⟩, -, X8, ⟨Lc8, hQ8, l8, y8, z8⟩, st8⟩ := Jvm.LawKit.callS X7 hx (y := (⟨"com/example/plain_tariff/plaintariff/OffsetInstantDigitsPinLaw", "b", "(I)B"⟩ : MethodName)) hown (mvT hZ (hw _ (List.mem_of_getElem? (i := 1) rfl))) (mvT hZ (hw _ (List.mem_of_getElem? (i := 2) rfl))) (mvT hZ (hw _ (List.mem_of_getElem? (i := 3) rfl))) (mvT hZ (hw _ (List.mem_of_getElem? (i := 4) rfl))) (by decide) (backOf (W := 3) (rm1 l Z a0 hw [] p3 h7 n0 Z7) hZ (hw _ (List.mem_of_getElem? (i := 4) rfl)) (hw _ (List.mem_of_getElem? (i := 3) rfl)) (by decide) (by decide)) (g := (mkF m 27 #[.val (.int p0), .val (.int p1), .val (.int p2), .val (.int p3), .val (.int p4), .unset, .unset, .unset, .unset, .unset, .unset, .unset] [(.int p3), (.int (3 : Int32)), (.ref b1), (.ref b1)])) rfl (by rw [hml]; rfl) (argsL := [(.int p3)]) (rest := [(.int (3 : Int32)), (.ref b1), (.ref b1)]) (lenOf own_pd118 rfl) rfl (by show 2 * 0 + _ ≤ _; exact Nat.le_of_eq rfl) (hb hby at_27) (fun _ _ => ⟨rfl, e7, (by decide : 1 + 0 ≤ _), (by decide : 4 + 0 ≤ _)⟩)
  dsimp only [Pt.U, Pt.locs, Pt.cells, Pt.slots] at X8 l8 y8 z8 st8 hQ8
  replace y8 : 1 = k8 := y8.symm
  replace z8 : 4 = n8 := z8.symm
  subst y8 z8
  obtain ⟨rfl, N8q, e8⟩ := hQ8
  have N8 : Fr n0 L8 := by rw [l8]; exact Fr.app N7 N8q
  refine own_go (fun tg k => st8 tg k) ?_
  show own_Fin _ _ _ _ _ _ _ (T8.setTop (mkF m 30 #[.val (.int p0), .val (.int p1), .val (.int p2), .val (.int p3), .val (.int p4), .unset, .unset, .unset, .unset, .unset, .unset, .unset] [(.int (own_f1 p3)), (.int (3 : Int32)), (.ref b1), (.ref b1)]))
  obtain ⟨T9, h9, X9, e9, W9, A_b1_9, st9⟩ := own_stB X8 hx hZ e8 A_b1_7 (j := (3 : Int32)) ⟨by decide, by decide⟩ (g := (mkF m 30 #[.val (.int p0), .val (.int p1), .val (.int p2), .val (.int p3), .val (.int p4), .unset, .unset, .unset, .unset, .unset, .unset, .unset] [(.int (own_f1 p3)), (.int (3 : Int32)), (.ref b1), (.ref b1)])) rfl rfl (hb hby at_30)
  have N9 := Fr.snoc X9 N8 ge_b1
  have Z9 : n0 ≤ h9.size := Nat.le_trans Z7 (Keep.of_wr W9).1
  obtain ⟨f9, hf9⟩ : ∃ z, z = (own_set f7 (3 : Int32) (own_i2b (own_f1 p3))) := ⟨_, rfl⟩
  rw [← hf9] at A_b1_9
  refine own_go (fun tg k => st9 tg k) ?_
  show own_Fin _ _ _ _ _ _ _ (T9.setTop (mkF m 31 #[.val (.int p0), .val (.int p1), .val (.int p2), .val (.int p3), .val (.int p4), .unset, .unset, .unset, .unset, .unset, .unset, .unset] [(.ref b1)]))
  refine own_go (fun _ k => XS.astore X9.here hx rfl (hb hby at_31) rfl rfl (l' := #[.val (.int p0), .val (.int p1), .val (.int p2), .val (.int p3), .val (.int p4), .val (.ref b1), .unset, .unset, .unset, .unset, .unset, .unset]) rfl k) ?_
  show own_Fin _ _ _ _ _ _ _ (T9.setTop (mkF m 33 #[.val (.int p0), .val (.int p1), .val (.int p2), .val (.int p3), .val (.int p4), .val (.ref b1), .unset, .unset, .unset, .unset, .unset, .unset] []))
  refine own_go (fun _ k => XS.iload X9.here hx rfl (hb hby at_33) rfl k) ?_
  show own_Fin _ _ _ _ _ _ _ (T9.setTop (mkF m 35 #[.val (.int p0), .val (.int p1), .val (.int p2), .val (.int p3), .val (.int p4), .val (.ref b1), .unset, .unset, .unset, .unset, .unset, .unset] [(.int p4)]))
  refine own_go (fun _ k => X9.ldcInt hx hown (mvT hZ (hw _ (List.mem_of_getElem? (i := 5) rfl))) (g := (mkF m 35 #[.val (.int p0), .val (.int p1), .val (.int p2), .val (.int p3), .val (.int p4), .val (.ref b1), .unset, .unset, .unset, .unset, .unset, .unset] [(.int p4)])) rfl (hb hby at_35) _ k) ?_
  show own_Fin _ _ _ _ _ _ _ (T9.setTop (mkF m 37 #[.val (.int p0), .val (.int p1), .val (.int p2), .val (.int p3), .val (.int p4), .val (.ref b1), .unset, .unset, .unset, .unset, .unset, .unset] [(.int (2147483647 : Int32)), (.int p4)]))
  refine own_go (fun _ k => XS.iand X9.here hx rfl (hb hby at_37) rfl k) ?_
  show own_Fin _ _ _ _ _ _ _ (T9.setTop (mkF m 38 #[.val (.int p0), .val (.int p1), .val (.int p2), .val (.int p3), .val (.int p4), .val (.ref b1), .unset, .unset, .unset, .unset, .unset, .unset] [(.int (p4 &&& (2147483647 : Int32)))]))
  refine own_go (fun _ k => XS.iconst X9.here hx rfl (hb hby at_38) k) ?_
  show own_Fin _ _ _ _ _ _ _ (T9.setTop (mkF m 39 #[.val (.int p0), .val (.int p1), .val (.int p2), .val (.int p3), .val (.int p4), .val (.ref b1), .unset, .unset, .unset, .unset, .unset, .unset] [(.int (5 : Int32)), (.int (p4 &&& (2147483647 : Int32)))]))
  refine own_go (fun _ k => own_irem X9.here hx rfl (hb hby at_39) rfl (by decide) k) ?_
  show own_Fin _ _ _ _ _ _ _ (T9.setTop (mkF m 40 #[.val (.int p0), .val (.int p1), .val (.int p2), .val (.int p3), .val (.int p4), .val (.ref b1), .unset, .unset, .unset, .unset, .unset, .unset] [(.int ((p4 &&& (2147483647 : Int32)) % (5 : Int32)))]))
  refine own_go (fun _ k => XS.istore X9.here hx rfl (hb hby at_40) rfl (l' := #[.val (.int p0), .val (.int p1), .val (.int p2), .val (.int p3), .val (.int p4), .val (.ref b1), .val (.int ((p4 &&& (2147483647 : Int32)) % (5 : Int32))), .unset, .unset, .unset, .unset, .unset]) rfl k) ?_
  show own_Fin _ _ _ _ _ _ _ (T9.setTop (mkF m 42 #[.val (.int p0), .val (.int p1), .val (.int p2), .val (.int p3), .val (.int p4), .val (.ref b1), .val (.int ((p4 &&& (2147483647 : Int32)) % (5 : Int32))), .unset, .unset, .unset, .unset, .unset] []))
  refine own_go (fun _ k => XS.iload X9.here hx rfl (hb hby at_42) rfl k) ?_
  show own_Fin _ _ _ _ _ _ _ (T9.setTop (mkF m 44 #[.val (.int p0), .val (.int p1), .val (.int p2), .val (.int p3), .val (.int p4), .val (.ref b1), .val (.int ((p4 &&& (2147483647 : Int32)) % (5 : Int32))), .unset, .unset, .unset, .unset, .unset] [(.int p4)]))
  refine own_go (fun _ k => XS.iconst X9.here hx rfl (hb hby at_44) k) ?_
  show own_Fin _ _ _ _ _ _ _ (T9.setTop (mkF m 45 #[.val (.int p0), .val (.int p1), .val (.int p2), .val (.int p3), .val (.int p4), .val (.ref b1), .val (.int ((p4 &&& (2147483647 : Int32)) % (5 : Int32))), .unset, .unset, .unset, .unset, .unset] [(.int (3 : Int32)), (.int p4)]))
  refine own_go (fun _ k => XS.iushr X9.here hx rfl (hb hby at_45) rfl k) ?_
  show own_Fin _ _ _ _ _ _ _ (T9.setTop (mkF m 46 #[.val (.int p0), .val (.int p1), .val (.int p2), .val (.int p3), .val (.int p4), .val (.ref b1), .val (.int ((p4 &&& (2147483647 : Int32)) % (5 : Int32))), .unset, .unset, .unset, .unset, .unset] [(.int (own_iushr p4 (3 : Int32)))]))
  refine own_go (fun _ k => XS.iconst X9.here hx rfl (hb hby at_46) k) ?_
  show own_Fin _ _ _ _ _ _ _ (T9.setTop (mkF m 47 #[.val (.int p0), .val (.int p1), .val (.int p2), .val (.int p3), .val (.int p4), .val (.ref b1), .val (.int ((p4 &&& (2147483647 : Int32)) % (5 : Int32))), .unset, .unset, .unset, .unset, .unset] [(.int (5 : Int32)), (.int (own_iushr p4 (3 : Int32)))]))
  refine own_go (fun _ k => XS.iload X9.here hx rfl (hb hby at_47) rfl k) ?_
  show own_Fin _ _ _ _ _ _ _ (T9.setTop (mkF m 49 #[.val (.int p0), .val (.int p1), .val (.int p2), .val (.int p3), .val (.int p4), .val (.ref b1), .val (.int ((p4 &&& (2147483647 : Int32)) % (5 : Int32))), .unset, .unset, .unset, .unset, .unset] [(.int ((p4 &&& (2147483647 : Int32)) % (5 : Int32))), (.int (5 : Int32)), (.int (own_iushr p4 (3 : Int32)))]))
  refine own_go (fun _ k => XS.isub X9.here hx rfl (hb hby at_49) rfl k) ?_
  show own_Fin _ _ _ _ _ _ _ (T9.setTop (mkF m 50 #[.val (.int p0), .val (.int p1), .val (.int p2), .val (.int p3), .val (.int p4), .val (.ref b1), .val (.int ((p4 &&& (2147483647 : Int32)) % (5 : Int32))), .unset, .unset, .unset, .unset, .unset] [(.int ((5 : Int32) - ((p4 &&& (2147483647 : Int32)) % (5 : Int32)))), (.int (own_iushr p4 (3 : Int32)))]))
  refine own_go (fun _ k => own_irem X9.here hx rfl (hb hby at_50) rfl (own_nz _) k) ?_
  show own_Fin _ _ _ _ _ _ _ (T9.setTop (mkF m 51 #[.val (.int p0), .val (.int p1), .val (.int p2), .val (.int p3), .val (.int p4), .val (.ref b1), .val (.int ((p4 &&& (2147483647 : Int32)) % (5 : Int32))), .unset, .unset, .unset, .unset, .unset] [(.int ((own_iushr p4 (3 : Int32)) % ((5 : Int32) - ((p4 &&& (2147483647 : Int32)) % (5 : Int32)))))]))
  refine own_go (fun _ k => XS.istore X9.here hx rfl (hb hby at_51) rfl (l' := #[.val (.int p0), .val (.int p1), .val (.int p2), .val (.int p3), .val (.int p4), .val (.ref b1), .val (.int ((p4 &&& (2147483647 : Int32)) % (5 : Int32))), .val (.int ((own_iushr p4 (3 : Int32)) % ((5 : Int32) - ((p4 &&& (2147483647 : Int32)) % (5 : Int32))))), .unset, .unset, .unset, .unset]) rfl k) ?_
  show own_Fin _ _ _ _ _ _ _ (T9.setTop (mkF m 53 #[.val (.int p0), .val (.int p1), .val (.int p2), .val (.int p3), .val (.int p4), .val (.ref b1), .val (.int ((p4 &&& (2147483647 : Int32)) % (5 : Int32))), .val (.int ((own_iushr p4 (3 : Int32)) % ((5 : Int32) - ((p4 &&& (2147483647 : Int32)) % (5 : Int32))))), .unset, .unset, .unset, .unset] []))
  generalize hz10 : ((own_iushr p4 (3 : Int32)) % ((5 : Int32) - ((p4 &&& (2147483647 : Int32)) % (5 : Int32)))) = z10
  show own_Fin _ _ _ _ _ _ _ (T9.setTop (mkF m 53 #[.val (.int p0), .val (.int p1), .val (.int p2), .val (.int p3), .val (.int p4), .val (.ref b1), .val (.int ((p4 &&& (2147483647 : Int32)) % (5 : Int32))), .val (.int z10), .unset, .unset, .unset, .unset] []))
  refine own_go (fun _ k => XS.iload X9.here hx rfl (hb hby at_53) rfl k) ?_
  show own_Fin _ _ _ _ _ _ _ (T9.setTop (mkF m 55 #[.val (.int p0), .val (.int p1), .val (.int p2), .val (.int p3), .val (.int p4), .val (.ref b1), .val (.int ((p4 &&& (2147483647 : Int32)) % (5 : Int32))), .val (.int z10), .unset, .unset, .unset, .unset] [(.int ((p4 &&& (2147483647 : Int32)) % (5 : Int32)))]))
  refine own_go (fun _ k => XS.iload X9.here hx rfl (hb hby at_55) rfl k) ?_
  show own_Fin _ _ _ _ _ _ _ (T9.setTop (mkF m 57 #[.val (.int p0), .val (.int p1), .val (.int p2), .val (.int p3), .val (.int p4), .val (.ref b1), .val (.int ((p4 &&& (2147483647 : Int32)) % (5 : Int32))), .val (.int z10), .unset, .unset, .unset, .unset] [(.int z10), (.int ((p4 &&& (2147483647 : Int32)) % (5 : Int32)))]))
  refine own_go (fun _ k => XS.iadd X9.here hx rfl (hb hby at_57) rfl k) ?_
  show own_Fin _ _ _ _ _ _ _ (T9.setTop (mkF m 58 #[.val (.int p0), .val (.int p1), .val (.int p2), .val (.int p3), .val (.int p4), .val (.ref b1), .val (.int ((p4 &&& (2147483647 : Int32)) % (5 : Int32))), .val (.int z10), .unset, .unset, .unset, .unset] [(.int (((p4 &&& (2147483647 : Int32)) % (5 : Int32)) + z10))]))
  refine own_go (fun _ k => XS.istore X9.here hx rfl (hb hby at_58) rfl (l' := #[.val (.int p0), .val (.int p1), .val (.int p2), .val (.int p3), .val (.int p4), .val (.ref b1), .val (.int ((p4 &&& (2147483647 : Int32)) % (5 : Int32))), .val (.int z10), .val (.int (((p4 &&& (2147483647 : Int32)) % (5 : Int32)) + z10)), .unset, .unset, .unset]) rfl k) ?_
  show own_Fin _ _ _ _ _ _ _ (T9.setTop (mkF m 60 #[.val (.int p0), .val (.int p1), .val (.int p2), .val (.int p3), .val (.int p4), .val (.ref b1), .val (.int ((p4 &&& (2147483647 : Int32)) % (5 : Int32))), .val (.int z10), .val (.int (((p4 &&& (2147483647 : Int32)) % (5 : Int32)) + z10)), .unset, .unset, .unset] []))
  generalize hz11 : (((p4 &&& (2147483647 : Int32)) % (5 : Int32)) + z10) = z11
  show own_Fin _ _ _ _ _ _ _ (T9.setTop (mkF m 60 #[.val (.int p0), .val (.int p1), .val (.int p2), .val (.int p3), .val (.int p4), .val (.ref b1), .val (.int ((p4 &&& (2147483647 : Int32)) % (5 : Int32))), .val (.int z10), .val (.int z11), .unset, .unset, .unset] []))
  refine own_go (fun _ k => XS.aload X9.here hx rfl (hb hby at_60) rfl rfl k) ?_
  show own_Fin _ _ _ _ _ _ _ (T9.setTop (mkF m 62 #[.val (.int p0), .val (.int p1), .val (.int p2), .val (.int p3), .val (.int p4), .val (.ref b1), .val (.int ((p4 &&& (2147483647 : Int32)) % (5 : Int32))), .val (.int z10), .val (.int z11), .unset, .unset, .unset] [(.ref b1)]))
  refine own_go (fun _ k => XS.iconst X9.here hx rfl (hb hby at_62) k) ?_
  show own_Fin _ _ _ _ _ _ _ (T9.setTop (mkF m 63 #[.val (.int p0), .val (.int p1), .val (.int p2), .val (.int p3), .val (.int p4), .val (.ref b1), .val (.int ((p4 &&& (2147483647 : Int32)) % (5 : Int32))), .val (.int z10), .val (.int z11), .unset, .unset, .unset] [(.int (0 : Int32)), (.ref b1)]))
  refine own_go (fun tg k => own_baload X9 hx hZ e9 A_b1_9 (j := (0 : Int32)) ⟨by decide, by decide⟩ (x := (f9 0)) rfl (g := (mkF m 63 #[.val (.int p0), .val (.int p1), .val (.int p2), .val (.int p3), .val (.int p4), .val (.ref b1), .val (.int ((p4 &&& (2147483647 : Int32)) % (5 : Int32))), .val (.int z10), .val (.int z11), .unset, .unset, .unset] [(.int (0 : Int32)), (.ref b1)])) rfl rfl (hb hby at_63) tg k) ?_
  show own_Fin _ _ _ _ _ _ _ (T9.setTop (mkF m 64 #[.val (.int p0), .val (.int p1), .val (.int p2), .val (.int p3), .val (.int p4), .val (.ref b1), .val (.int ((p4 &&& (2147483647 : Int32)) % (5 : Int32))), .val (.int z10), .val (.int z11), .unset, .unset, .unset] [(.int (f9 0))]))
  refine own_go (fun _ k => XS.iconst X9.here hx rfl (hb hby at_64) k) ?_
  show own_Fin _ _ _ _ _ _ _ (T9.setTop (mkF m 65 #[.val (.int p0), .val (.int p1), .val (.int p2), .val (.int p3), .val (.int p4), .val (.ref b1), .val (.int ((p4 &&& (2147483647 : Int32)) % (5 : Int32))), .val (.int z10), .val (.int z11), .unset, .unset, .unset] [(.int (0 : Int32)), (.int (f9 0))]))
  refine own_go (fun _ k => XS.iload X9.here hx rfl (hb hby at_65) rfl k) ?_
  show own_Fin _ _ _ _ _ _ _ (T9.setTop (mkF m 67 #[.val (.int p0), .val (.int p1), .val (.int p2), .val (.int p3), .val (.int p4), .val (.ref b1), .val (.int ((p4 &&& (2147483647 : Int32)) % (5 : Int32))), .val (.int z10), .val (.int z11), .unset, .unset, .unset] [(.int ((p4 &&& (2147483647 : Int32)) % (5 : Int32))), (.int (0 : Int32)), (.int (f9 0))]))
  refine own_go (fun _ k => XS.iload X9.here hx rfl (hb hby at_67) rfl k) ?_
  show own_Fin _ _ _ _ _ _ _ (T9.setTop (mkF m 69 #[.val (.int p0), .val (.int p1), .val (.int p2), .val (.int p3), .val (.int p4), .val (.ref b1), .val (.int ((p4 &&& (2147483647 : Int32)) % (5 : Int32))), .val (.int z10), .val (.int z11), .unset, .unset, .unset] [(.int z11), (.int ((p4 &&& (2147483647 : Int32)) % (5 : Int32))), (.int (0 : Int32)), (.int (f9 0))]))
  obtain ⟨_, _, ⟨T12, L12, k12, n12⟩, -, X12, ⟨Lc12, hQ12, l12, y12, z12⟩, st12⟩ := Jvm.LawKit.callS X9 hx (y := (⟨"com/example/plain_tariff/plaintariff/OffsetInstantDigitsPinLaw", "digitOk", "(BIII)Z"⟩ : MethodName)) hown (mvT hZ (hw _ (List.mem_of_getElem? (i := 6) rfl))) (mvT hZ (hw _ (List.mem_of_getElem? (i := 7) rfl))) (mvT hZ (hw _ (List.mem_of_getElem? (i := 3) rfl))) (mvT hZ (hw _ (List.mem_of_getElem? (i := 8) rfl))) (by decide) (backOf (W := 0) (rm2 l Z a0 hw [] (f9 0) (0 : Int32) ((p4 &&& (2147483647 : Int32)) % (5 : Int32)) z11 h9 n0 Z9) hZ (hw _ (List.mem_of_getElem? (i := 8) rfl)) (hw _ (List.mem_of_getElem? (i := 3) rfl)) (by decide) (by decide)) (g := (mkF m 69 #[.val (.int p0), .val (.int p1), .val (.int p2), .val (.int p3), .val (.int p4), .val (.ref b1), .val (.int ((p4 &&& (2147483647 : Int32)) % (5 : Int32))), .val (.int z10), .val (.int z11), .unset, .unset, .unset] [(.int z11), (.int ((p4 &&& (2147483647 : Int32)) % (5 : Int32))), (.int (0 : Int32)), (.int (f9 0))])) rfl (by rw [hml]; rfl) (argsL := [(.int (f9 0)), (.int (0 : Int32)), (.int ((p4 &&& (2147483647 : Int32)) % (5 : Int32))), (.int z11)]) (rest := []) (lenOf own_pd119 rfl) rfl (by show 2 * 0 + _ ≤ _; exact Nat.le_of_eq rfl) (hb hby at_69) (fun _ _ => ⟨rfl, e9, (by decide : 1 + 0 ≤ _), (by decide : 4 + 0 ≤ _)⟩)
  dsimp only [Pt.U, Pt.locs, Pt.cells, Pt.slots] at X12 l12 y12 z12 st12 hQ12
  replace y12 : 1 = k12 := y12.symm
  replace z12 : 4 = n12 := z12.symm
  subst y12 z12
  obtain ⟨rfl, N12q, e12⟩ := hQ12
  have N12 : Fr n0 L12 := by rw [l12]; exact Fr.app N9 N12q
  refine own_go (fun tg k => st12 tg k) ?_
  show own_Fin _ _ _ _ _ _ _ (T12.setTop (mkF m 72 #[.val (.int p0), .val (.int p1), .val (.int p2), .val (.int p3), .val (.int p4), .val (.ref b1), .val (.int ((p4 &&& (2147483647 : Int32)) % (5 : Int32))), .val (.int z10), .val (.int z11), .unset, .unset, .unset] [(.int (own_f2 (f9 0) (0 : Int32) ((p4 &&& (2147483647 : Int32)) % (5 : Int32)) z11))]))
  have hk14 : ∀ (T' : State) (L' : List Loc), Stand p l e room_1 s m #[(.int p0), (.int p1), (.int p2), (.int p3), (.int p4)] below meth c T' L' 1 4 → Fr n0 L' → T'.heap = h9 → own_Fin p.tables e below s (own_QL (some (.int (own_f0 p0 p1 p2 p3 p4))) n0) 16 128 (T'.setTop (mkF m 125 #[.val (.int p0), .val (.int p1), .val (.int p2), .val (.int p3), .val (.int p4), .val (.ref b1), .val (.int ((p4 &&& (2147483647 : Int32)) % (5 : Int32))), .val (.int z10), .val (.int z11), .unset, .unset, .unset] [(.int (if (own_f2 (f9 0) (0 : Int32) ((p4 &&& (2147483647 : Int32)) % (5 : Int32)) z11) = (0 : Int32) then (0 : Int32) else (if (own_f2 (f9 1) (1 : Int32) ((p4 &&& (2147483647 : Int32)) % (5 : Int32)) z11) = (0 : Int32) then (0 : Int32) else (if (own_f2 (f9 2) (2 : Int32) ((p4 &&& (2147483647 : Int32)) % (5 : Int32)) z11) = (0 : Int32) then (0 : Int32) else (if (own_f2 (f9 3) (3 : Int32) ((p4 &&& (2147483647 : Int32)) % (5 : Int32)) z11) = (0 : Int32) then (0 : Int32) else (1 : Int32))))))])) := by
    intro T21 L21 X21 N21 e21
    generalize hz22 : (if (own_f2 (f9 0) (0 : Int32) ((p4 &&& (2147483647 : Int32)) % (5 : Int32)) z11) = (0 : Int32) then (0 : Int32) else (if (own_f2 (f9 1) (1 : Int32) ((p4 &&& (2147483647 : Int32)) % (5 : Int32)) z11) = (0 : Int32) then (0 : Int32) else (if (own_f2 (f9 2) (2 : Int32) ((p4 &&& (2147483647 : Int32)) % (5 : Int32)) z11) = (0 : Int32) then (0 : Int32) else (if (own_f2 (f9 3) (3 : Int32) ((p4 &&& (2147483647 : Int32)) % (5 : Int32)) z11) = (0 : Int32) then (0 : Int32) else (1 : Int32))))) = z22
    show own_Fin _ _ _ _ _ _ _ (T21.setTop (mkF m 125 #[.val (.int p0), .val (.int p1), .val (.int p2), .val (.int p3), .val (.int p4), .val (.ref b1), .val (.int ((p4 &&& (2147483647 : Int32)) % (5 : Int32))), .val (.int z10), .val (.int z11), .unset, .unset, .unset] [(.int z22)]))
    refine own_go (fun _ k => XS.istore X21.here hx rfl (hb hby at_125) rfl (l' := #[.val (.int p0), .val (.int p1), .val (.int p2), .val (.int p3), .val (.int p4), .val (.ref b1), .val (.int ((p4 &&& (2147483647 : Int32)) % (5 : Int32))), .val (.int z10), .val (.int z11), .val (.int z22), .unset, .unset]) rfl k) ?_
    show own_Fin _ _ _ _ _ _ _ (T21.setTop (mkF m 127 #[.val (.int p0), .val (.int p1), .val (.int p2), .val (.int p3), .val (.int p4), .val (.ref b1), .val (.int ((p4 &&& (2147483647 : Int32)) % (5 : Int32))), .val (.int z10), .val (.int z11), .val (.int z22), .unset, .unset] []))
    refine own_go (fun _ k => XS.aload X21.here hx rfl (hb hby at_127) rfl rfl k) ?_
    show own_Fin _ _ _ _ _ _ _ (T21.setTop (mkF m 129 #[.val (.int p0), .val (.int p1), .val (.int p2), .val (.int p3), .val (.int p4), .val (.ref b1), .val (.int ((p4 &&& (2147483647 : Int32)) % (5 : Int32))), .val (.int z10), .val (.int z11), .val (.int z22), .unset, .unset] [(.ref b1)]))
    refine own_go (fun _ k => XS.iconst X21.here hx rfl (hb hby at_129) k) ?_
    show own_Fin _ _ _ _ _ _ _ (T21.setTop (mkF m 130 #[.val (.int p0), .val (.int p1), .val (.int p2), .val (.int p3), .val (.int p4), .val (.ref b1), .val (.int ((p4 &&& (2147483647 : Int32)) % (5 : Int32))), .val (.int z10), .val (.int z11), .val (.int z22), .unset, .unset] [(.int (0 : Int32)), (.ref b1)]))
    refine own_go (fun tg k => own_baload X21 hx hZ e21 A_b1_9 (j := (0 : Int32)) ⟨by decide, by decide⟩ (x := (f9 0)) rfl (g := (mkF m 130 #[.val (.int p0), .val (.int p1), .val (.int p2), .val (.int p3), .val (.int p4), .val (.ref b1), .val (.int ((p4 &&& (2147483647 : Int32)) % (5 : Int32))), .val (.int z10), .val (.int z11), .val (.int z22), .unset, .unset] [(.int (0 : Int32)), (.ref b1)])) rfl rfl (hb hby at_130) tg k) ?_
    show own_Fin _ _ _ _ _ _ _ (T21.setTop (mkF m 131 #[.val (.int p0), .val (.int p1), .val (.int p2), .val (.int p3), .val (.int p4), .val (.ref b1), .val (.int ((p4 &&& (2147483647 : Int32)) % (5 : Int32))), .val (.int z10), .val (.int z11), .val (.int z22), .unset, .unset] [(.int (f9 0))]))
    refine own_go (fun _ k => XS.iconst X21.here hx rfl (hb hby at_131) k) ?_
    show own_Fin _ _ _ _ _ _ _ (T21.setTop (mkF m 132 #[.val (.int p0), .val (.int p1), .val (.int p2), .val (.int p3), .val (.int p4), .val (.ref b1), .val (.int ((p4 &&& (2147483647 : Int32)) % (5 : Int32))), .val (.int z10), .val (.int z11), .val (.int z22), .unset, .unset] [(.int (0 : Int32)), (.int (f9 0))]))
    refine own_go (fun _ k => XS.iload X21.here hx rfl (hb hby at_132) rfl k) ?_
    show own_Fin _ _ _ _ _ _ _ (T21.setTop (mkF m 134 #[.val (.int p0), .val (.int p1), .val (.int p2), .val (.int p3), .val (.int p4), .val (.ref b1), .val (.int ((p4 &&& (2147483647 : Int32)) % (5 : Int32))), .val (.int z10), .val (.int z11), .val (.int z22), .unset, .unset] [(.int ((p4 &&& (2147483647 : Int32)) % (5 : Int32))), (.int (0 : Int32)), (.int (f9 0))]))
    refine own_go (fun _ k => XS.iload X21.here hx rfl (hb hby at_134) rfl k) ?_
    show own_Fin _ _ _ _ _ _ _ (T21.setTop (mkF m 136 #[.val (.int p0), .val (.int p1), .val (.int p2), .val (.int p3), .val (.int p4), .val (.ref b1), .val (.int ((p4 &&& (2147483647 : Int32)) % (5 : Int32))), .val (.int z10), .val (.int z11), .val (.int z22), .unset, .unset] [(.int z11), (.int ((p4 &&& (2147483647 : Int32)) % (5 : Int32))), (.int (0 : Int32)), (.int (f9 0))]))
    obtain ⟨_, _, ⟨T23, L23, k23, n23⟩, -, X23, ⟨Lc23, hQ23, l23, y23, z23⟩, st23⟩ := Jvm.LawKit.callS X21 hx (y := (⟨"com/example/plain_tariff/plaintariff/OffsetInstantDigitsPinLaw", "term", "(BIII)I"⟩ : MethodName)) hown (mvT hZ (hw _ (List.mem_of_getElem? (i := 9) rfl))) (mvT hZ (hw _ (List.mem_of_getElem? (i := 10) rfl))) (mvT hZ (hw _ (List.mem_of_getElem? (i := 3) rfl))) (mvT hZ (hw _ (List.mem_of_getElem? (i := 11) rfl))) (by decide) (backOf (W := 0) (rm3 l Z a0 hw [] (f9 0) (0 : Int32) ((p4 &&& (2147483647 : Int32)) % (5 : Int32)) z11 h9 n0 Z9) hZ (hw _ (List.mem_of_getElem? (i := 11) rfl)) (hw _ (List.mem_of_getElem? (i := 3) rfl)) (by decide) (by decide)) (g := (mkF m 136 #[.val (.int p0), .val (.int p1), .val (.int p2), .val (.int p3), .val (.int p4), .val (.ref b1), .val (.int ((p4 &&& (2147483647 : Int32)) % (5 : Int32))), .val (.int z10), .val (.int z11), .val (.int z22), .unset, .unset] [(.int z11), (.int ((p4 &&& (2147483647 : Int32)) % (5 : Int32))), (.int (0 : Int32)), (.int (f9 0))])) rfl (by rw [hml]; rfl) (argsL := [(.int (f9 0)), (.int (0 : Int32)), (.int ((p4 &&& (2147483647 : Int32)) % (5 : Int32))), (.int z11)]) (rest := []) (lenOf own_pd120 rfl) rfl (by show 2 * 0 + _ ≤ _; exact Nat.le_of_eq rfl) (hb hby at_136) (fun _ _ => ⟨rfl, e21, (by decide : 1 + 0 ≤ _), (by decide : 4 + 0 ≤ _)⟩)
    dsimp only [Pt.U, Pt.locs, Pt.cells, Pt.slots] at X23 l23 y23 z23 st23 hQ23
    replace y23 : 1 = k23 := y23.symm
    replace z23 : 4 = n23 := z23.symm
    subst y23 z23
    obtain ⟨rfl, N23q, e23⟩ := hQ23
    have N23 : Fr n0 L23 := by rw [l23]; exact Fr.app N21 N23q
    refine own_go (fun tg k => st23 tg k) ?_
    show own_Fin _ _ _ _ _ _ _ (T23.setTop (mkF m 139 #[.val (.int p0), .val (.int p1), .val (.int p2), .val (.int p3), .val (.int p4), .val (.ref b1), .val (.int ((p4 &&& (2147483647 : Int32)) % (5 : Int32))), .val (.int z10), .val (.int z11), .val (.int z22), .unset, .unset] [(.int (own_f3 (f9 0) (0 : Int32) ((p4 &&& (2147483647 : Int32)) % (5 : Int32)) z11))]))
    refine own_go (fun _ k => XS.aload X23.here hx rfl (hb hby at_139) rfl rfl k) ?_
    show own_Fin _ _ _ _ _ _ _ (T23.setTop (mkF m 141 #[.val (.int p0), .val (.int p1), .val (.int p2), .val (.int p3), .val (.int p4), .val (.ref b1), .val (.int ((p4 &&& (2147483647 : Int32)) % (5 : Int32))), .val (.int z10), .val (.int z11), .val (.int z22), .unset, .unset] [(.ref b1), (.int (own_f3 (f9 0) (0 : Int32) ((p4 &&& (2147483647 : Int32)) % (5 : Int32)) z11))]))
    refine own_go (fun _ k => XS.iconst X23.here hx rfl (hb hby at_141) k) ?_
    show own_Fin _ _ _ _ _ _ _ (T23.setTop (mkF m 142 #[.val (.int p0), .val (.int p1), .val (.int p2), .val (.int p3), .val (.int p4), .val (.ref b1), .val (.int ((p4 &&& (2147483647 : Int32)) % (5 : Int32))), .val (.int z10), .val (.int z11), .val (.int z22), .unset, .unset] [(.int (1 : Int32)), (.ref b1), (.int (own_f3 (f9 0) (0 : Int32) ((p4 &&& (2147483647 : Int32)) % (5 : Int32)) z11))]))
    refine own_go (fun tg k => own_baload X23 hx hZ e23 A_b1_9 (j := (1 : Int32)) ⟨by decide, by decide⟩ (x := (f9 1)) rfl (g := (mkF m 142 #[.val (.int p0), .val (.int p1), .val (.int p2), .val (.int p3), .val (.int p4), .val (.ref b1), .val (.int ((p4 &&& (2147483647 : Int32)) % (5 : Int32))), .val (.int z10), .val (.int z11), .val (.int z22), .unset, .unset] [(.int (1 : Int32)), (.ref b1), (.int (own_f3 (f9 0) (0 : Int32) ((p4 &&& (2147483647 : Int32)) % (5 : Int32)) z11))])) rfl rfl (hb hby at_142) tg k) ?_
    show own_Fin _ _ _ _ _ _ _ (T23.setTop (mkF m 143 #[.val (.int p0), .val (.int p1), .val (.int p2), .val (.int p3), .val (.int p4), .val (.ref b1), .val (.int ((p4 &&& (2147483647 : Int32)) % (5 : Int32))), .val (.int z10), .val (.int z11), .val (.int z22), .unset, .unset] [(.int (f9 1)), (.int (own_f3 (f9 0) (0 : Int32) ((p4 &&& (2147483647 : Int32)) % (5 : Int32)) z11))]))
    refine own_go (fun _ k => XS.iconst X23.here hx rfl (hb hby at_143) k) ?_
    show own_Fin _ _ _ _ _ _ _ (T23.setTop (mkF m 144 #[.val (.int p0), .val (.int p1), .val (.int p2), .val (.int p3), .val (.int p4), .val (.ref b1), .val (.int ((p4 &&& (2147483647 : Int32)) % (5 : Int32))), .val (.int z10), .val (.int z11), .val (.int z22), .unset, .unset] [(.int (1 : Int32)), (.int (f9 1)), (.int (own_f3 (f9 0) (0 : Int32) ((p4 &&& (2147483647 : Int32)) % (5 : Int32)) z11))]))
    refine own_go (fun _ k => XS.iload X23.here hx rfl (hb hby at_144) rfl k) ?_
    show own_Fin _ _ _ _ _ _ _ (T23.setTop (mkF m 146 #[.val (.int p0), .val (.int p1), .val (.int p2), .val (.int p3), .val (.int p4), .val (.ref b1), .val (.int ((p4 &&& (2147483647 : Int32)) % (5 : Int32))), .val (.int z10), .val (.int z11), .val (.int z22), .unset, .unset] [(.int ((p4 &&& (2147483647 : Int32)) % (5 : Int32))), (.int (1 : Int32)), (.int (f9 1)), (.int (own_f3 (f9 0) (0 : Int32) ((p4 &&& (2147483647 : Int32)) % (5 : Int32)) z11))]))
    refine own_go (fun _ k => XS.iload X23.here hx rfl (hb hby at_146) rfl k) ?_
    show own_Fin _ _ _ _ _ _ _ (T23.setTop (mkF m 148 #[.val (.int p0), .val (.int p1), .val (.int p2), .val (.int p3), .val (.int p4), .val (.ref b1), .val (.int ((p4 &&& (2147483647 : Int32)) % (5 : Int32))), .val (.int z10), .val (.int z11), .val (.int z22), .unset, .unset] [(.int z11), (.int ((p4 &&& (2147483647 : Int32)) % (5 : Int32))), (.int (1 : Int32)), (.int (f9 1)), (.int (own_f3 (f9 0) (0 : Int32) ((p4 &&& (2147483647 : Int32)) % (5 : Int32)) z11))]))
    obtain ⟨_, _, ⟨T24, L24, k24, n24⟩, -, X24, ⟨Lc24, hQ24, l24, y24, z24⟩, st24⟩ := Jvm.LawKit.callS X23 hx (y := (⟨"com/example/plain_tariff/plaintariff/OffsetInstantDigitsPinLaw", "term", "(BIII)I"⟩ : MethodName)) hown (mvT hZ (hw _ (List.mem_of_getElem? (i := 9) rfl))) (mvT hZ (hw _ (List.mem_of_getElem? (i := 10) rfl))) (mvT hZ (hw _ (List.mem_of_getElem? (i := 3) rfl))) (mvT hZ (hw _ (List.mem_of_getElem? (i := 11) rfl))) (by decide) (backOf (W := 1) (rm3 l Z a0 hw [] (f9 1) (1 : Int32) ((p4 &&& (2147483647 : Int32)) % (5 : Int32)) z11 h9 n0 Z9) hZ (hw _ (List.mem_of_getElem? (i := 11) rfl)) (hw _ (List.mem_of_getElem? (i := 3) rfl)) (by decide) (by decide)) (g := (mkF m 148 #[.val (.int p0), .val (.int p1), .val (.int p2), .val (.int p3), .val (.int p4), .val (.ref b1), .val (.int ((p4 &&& (2147483647 : Int32)) % (5 : Int32))), .val (.int z10), .val (.int z11), .val (.int z22), .unset, .unset] [(.int z11), (.int ((p4 &&& (2147483647 : Int32)) % (5 : Int32))), (.int (1 : Int32)), (.int (f9 1)), (.int (own_f3 (f9 0) (0 : Int32) ((p4 &&& (2147483647 : Int32)) % (5 : Int32)) z11))])) rfl (by rw [hml]; rfl) (argsL := [(.int (f9 1)), (.int (1 : Int32)), (.int ((p4 &&& (2147483647 : Int32)) % (5 : Int32))), (.int z11)]) (rest := [(.int (own_f3 (f9 0) (0 : Int32) ((p4 &&& (2147483647 : Int32)) % (5 : Int32)) z11))]) (lenOf own_pd120 rfl) rfl (by show 2 * 0 + _ ≤ _; exact Nat.le_of_eq rfl) (hb hby at_148) (fun _ _ => ⟨rfl, e23, (by decide : 1 + 0 ≤ _), (by decide : 4 + 0 ≤ _)⟩)
    dsimp only [Pt.U, Pt.locs, Pt.cells, Pt.slots] at X24 l24 y24 z24 st24 hQ24
    replace y24 : 1 = k24 := y24.symm
    replace z24 : 4 = n24 := z24.symm
    subst y24 z24
    obtain ⟨rfl, N24q, e24⟩ := hQ24
    have N24 : Fr n0 L24 := by rw [l24]; exact Fr.app N23 N24q
    refine own_go (fun tg k => st24 tg k) ?_
    show own_Fin _ _ _ _ _ _ _ (T24.setTop (mkF m 151 #[.val (.int p0), .val (.int p1), .val (.int p2), .val (.int p3), .val (.int p4), .val (.ref b1), .val (.int ((p4 &&& (2147483647 : Int32)) % (5 : Int32))), .val (.int z10), .val (.int z11), .val (.int z22), .unset, .unset] [(.int (own_f3 (f9 1) (1 : Int32) ((p4 &&& (2147483647 : Int32)) % (5 : Int32)) z11)), (.int (own_f3 (f9 0) (0 : Int32) ((p4 &&& (2147483647 : Int32)) % (5 : Int32)) z11))]))
    refine own_go (fun _ k => XS.iadd X24.here hx rfl (hb hby at_151) rfl k) ?_
    show own_Fin _ _ _ _ _ _ _ (T24.setTop (mkF m 152 #[.val (.int p0), .val (.int p1), .val (.int p2), .val (.int p3), .val (.int p4), .val (.ref b1), .val (.int ((p4 &&& (2147483647 : Int32)) % (5 : Int32))), .val (.int z10), .val (.int z11), .val (.int z22), .unset, .unset] [(.int ((own_f3 (f9 0) (0 : Int32) ((p4 &&& (2147483647 : Int32)) % (5 : Int32)) z11) + (own_f3 (f9 1) (1 : Int32) ((p4 &&& (2147483647 : Int32)) % (5 : Int32)) z11)))]))
    generalize hz25 : ((own_f3 (f9 0) (0 : Int32) ((p4 &&& (2147483647 : Int32)) % (5 : Int32)) z11) + (own_f3 (f9 1) (1 : Int32) ((p4 &&& (2147483647 : Int32)) % (5 : Int32)) z11)) = z25
    show own_Fin _ _ _ _ _ _ _ (T24.setTop (mkF m 152 #[.val (.int p0), .val (.int p1), .val (.int p2), .val (.int p3), .val (.int p4), .val (.ref b1), .val (.int ((p4 &&& (2147483647 : Int32)) % (5 : Int32))), .val (.int z10), .val (.int z11), .val (.int z22), .unset, .unset] [(.int z25)]))
    refine own_go (fun _ k => XS.aload X24.here hx rfl (hb hby at_152) rfl rfl k) ?_
    show own_Fin _ _ _ _ _ _ _ (T24.setTop (mkF m 154 #[.val (.int p0), .val (.int p1), .val (.int p2), .val (.int p3), .val (.int p4), .val (.ref b1), .val (.int ((p4 &&& (2147483647 : Int32)) % (5 : Int32))), .val (.int z10), .val (.int z11), .val (.int z22), .unset, .unset] [(.ref b1), (.int z25)]))
    refine own_go (fun _ k => XS.iconst X24.here hx rfl (hb hby at_154) k) ?_
    show own_Fin _ _ _ _ _ _ _ (T24.setTop (mkF m 155 #[.val (.int p0), .val (.int p1), .val (.int p2), .val (.int p3), .val (.int p4), .val (.ref b1), .val (.int ((p4 &&& (2147483647 : Int32)) % (5 : Int32))), .val (.int z10), .val (.int z11), .val (.int z22), .unset, .unset] [(.int (2 : Int32)), (.ref b1), (.int z25)]))
    refine own_go (fun tg k => own_baload X24 hx hZ e24 A_b1_9 (j := (2 : Int32)) ⟨by decide, by decide⟩ (x := (f9 2)) rfl (g := (mkF m 155 #[.val (.int p0), .val (.int p1), .val (.int p2), .val (.int p3), .val (.int p4), .val (.ref b1), .val (.int ((p4 &&& (2147483647 : Int32)) % (5 : Int32))), .val (.int z10), .val (.int z11), .val (.int z22), .unset, .unset] [(.int (2 : Int32)), (.ref b1), (.int z25)])) rfl rfl (hb hby at_155) tg k) ?_
    show own_Fin _ _ _ _ _ _ _ (T24.setTop (mkF m 156 #[.val (.int p0), .val (.int p1), .val (.int p2), .val (.int p3), .val (.int p4), .val (.ref b1), .val (.int ((p4 &&& (2147483647 : Int32)) % (5 : Int32))), .val (.int z10), .val (.int z11), .val (.int z22), .unset, .unset] [(.int (f9 2)), (.int z25)]))
    refine own_go (fun _ k => XS.iconst X24.here hx rfl (hb hby at_156) k) ?_
    show own_Fin _ _ _ _ _ _ _ (T24.setTop (mkF m 157 #[.val (.int p0), .val (.int p1), .val (.int p2), .val (.int p3), .val (.int p4), .val (.ref b1), .val (.int ((p4 &&& (2147483647 : Int32)) % (5 : Int32))), .val (.int z10), .val (.int z11), .val (.int z22), .unset, .unset] [(.int (2 : Int32)), (.int (f9 2)), (.int z25)]))
    refine own_go (fun _ k => XS.iload X24.here hx rfl (hb hby at_157) rfl k) ?_
    show own_Fin _ _ _ _ _ _ _ (T24.setTop (mkF m 159 #[.val (.int p0), .val (.int p1), .val (.int p2), .val (.int p3), .val (.int p4), .val (.ref b1), .val (.int ((p4 &&& (2147483647 : Int32)) % (5 : Int32))), .val (.int z10), .val (.int z11), .val (.int z22), .unset, .unset] [(.int ((p4 &&& (2147483647 : Int32)) % (5 : Int32))), (.int (2 : Int32)), (.int (f9 2)), (.int z25)]))
    refine own_go (fun _ k => XS.iload X24.here hx rfl (hb hby at_159) rfl k) ?_
    show own_Fin _ _ _ _ _ _ _ (T24.setTop (mkF m 161 #[.val (.int p0), .val (.int p1), .val (.int p2), .val (.int p3), .val (.int p4), .val (.ref b1), .val (.int ((p4 &&& (2147483647 : Int32)) % (5 : Int32))), .val (.int z10), .val (.int z11), .val (.int z22), .unset, .unset] [(.int z11), (.int ((p4 &&& (2147483647 : Int32)) % (5 : Int32))), (.int (2 : Int32)), (.int (f9 2)), (.int z25)]))
    obtain ⟨_, _, ⟨T26, L26, k26, n26⟩, -, X26, ⟨Lc26, hQ26, l26, y26, z26⟩, st26⟩ := Jvm.LawKit.callS X24 hx (y := (⟨"com/example/plain_tariff/plaintariff/OffsetInstantDigitsPinLaw", "term", "(BIII)I"⟩ : MethodName)) hown (mvT hZ (hw _ (List.mem_of_getElem? (i := 9) rfl))) (mvT hZ (hw _ (List.mem_of_getElem? (i := 10) rfl))) (mvT hZ (hw _ (List.mem_of_getElem? (i := 3) rfl))) (mvT hZ (hw _ (List.mem_of_getElem? (i := 11) rfl))) (by decide) (backOf (W := 1) (rm3 l Z a0 hw [] (f9 2) (2 : Int32) ((p4 &&& (2147483647 : Int32)) % (5 : Int32)) z11 h9 n0 Z9) hZ (hw _ (List.mem_of_getElem? (i := 11) rfl)) (hw _ (List.mem_of_getElem? (i := 3) rfl)) (by decide) (by decide)) (g := (mkF m 161 #[.val (.int p0), .val (.int p1), .val (.int p2), .val (.int p3), .val (.int p4), .val (.ref b1), .val (.int ((p4 &&& (2147483647 : Int32)) % (5 : Int32))), .val (.int z10), .val (.int z11), .val (.int z22), .unset, .unset] [(.int z11), (.int ((p4 &&& (2147483647 : Int32)) % (5 : Int32))), (.int (2 : Int32)), (.int (f9 2)), (.int z25)])) rfl (by rw [hml]; rfl) (argsL := [(.int (f9 2)), (.int (2 : Int32)), (.int ((p4 &&& (2147483647 : Int32)) % (5 : Int32))), (.int z11)]) (rest := [(.int z25)]) (lenOf own_pd120 rfl) rfl (by show 2 * 0 + _ ≤ _; exact Nat.le_of_eq rfl) (hb hby at_161) (fun _ _ => ⟨rfl, e24, (by decide : 1 + 0 ≤ _), (by decide : 4 + 0 ≤ _)⟩)
    dsimp only [Pt.U, Pt.locs, Pt.cells, Pt.slots] at X26 l26 y26 z26 st26 hQ26
    replace y26 : 1 = k26 := y26.symm
    replace z26 : 4 = n26 := z26.symm
    subst y26 z26
    obtain ⟨rfl, N26q, e26⟩ := hQ26
    have N26 : Fr n0 L26 := by rw [l26]; exact Fr.app N24 N26q
    refine own_go (fun tg k => st26 tg k) ?_
    show own_Fin _ _ _ _ _ _ _ (T26.setTop (mkF m 164 #[.val (.int p0), .val (.int p1), .val (.int p2), .val (.int p3), .val (.int p4), .val (.ref b1), .val (.int ((p4 &&& (2147483647 : Int32)) % (5 : Int32))), .val (.int z10), .val (.int z11), .val (.int z22), .unset, .unset] [(.int (own_f3 (f9 2) (2 : Int32) ((p4 &&& (2147483647 : Int32)) % (5 : Int32)) z11)), (.int z25)]))
    refine own_go (fun _ k => XS.iadd X26.here hx rfl (hb hby at_164) rfl k) ?_
    show own_Fin _ _ _ _ _ _ _ (T26.setTop (mkF m 165 #[.val (.int p0), .val (.int p1), .val (.int p2), .val (.int p3), .val (.int p4), .val (.ref b1), .val (.int ((p4 &&& (2147483647 : Int32)) % (5 : Int32))), .val (.int z10), .val (.int z11), .val (.int z22), .unset, .unset] [(.int (z25 + (own_f3 (f9 2) (2 : Int32) ((p4 &&& (2147483647 : Int32)) % (5 : Int32)) z11)))]))
    refine own_go (fun _ k => XS.aload X26.here hx rfl (hb hby at_165) rfl rfl k) ?_
    show own_Fin _ _ _ _ _ _ _ (T26.setTop (mkF m 167 #[.val (.int p0), .val (.int p1), .val (.int p2), .val (.int p3), .val (.int p4), .val (.ref b1), .val (.int ((p4 &&& (2147483647 : Int32)) % (5 : Int32))), .val (.int z10), .val (.int z11), .val (.int z22), .unset, .unset] [(.ref b1), (.int (z25 + (own_f3 (f9 2) (2 : Int32) ((p4 &&& (2147483647 : Int32)) % (5 : Int32)) z11)))]))
    refine own_go (fun _ k => XS.iconst X26.here hx rfl (hb hby at_167) k) ?_
    show own_Fin _ _ _ _ _ _ _ (T26.setTop (mkF m 168 #[.val (.int p0), .val (.int p1), .val (.int p2), .val (.int p3), .val (.int p4), .val (.ref b1), .val (.int ((p4 &&& (2147483647 : Int32)) % (5 : Int32))), .val (.int z10), .val (.int z11), .val (.int z22), .unset, .unset] [(.int (3 : Int32)), (.ref b1), (.int (z25 + (own_f3 (f9 2) (2 : Int32) ((p4 &&& (2147483647 : Int32)) % (5 : Int32)) z11)))]))
    refine own_go (fun tg k => own_baload X26 hx hZ e26 A_b1_9 (j := (3 : Int32)) ⟨by decide, by decide⟩ (x := (f9 3)) rfl (g := (mkF m 168 #[.val (.int p0), .val (.int p1), .val (.int p2), .val (.int p3), .val (.int p4), .val (.ref b1), .val (.int ((p4 &&& (2147483647 : Int32)) % (5 : Int32))), .val (.int z10), .val (.int z11), .val (.int z22), .unset, .unset] [(.int (3 : Int32)), (.ref b1), (.int (z25 + (own_f3 (f9 2) (2 : Int32) ((p4 &&& (2147483647 : Int32)) % (5 : Int32)) z11)))])) rfl rfl (hb hby at_168) tg k) ?_
    show own_Fin _ _ _ _ _ _ _ (T26.setTop (mkF m 169 #[.val (.int p0), .val (.int p1), .val (.int p2), .val (.int p3), .val (.int p4), .val (.ref b1), .val (.int ((p4 &&& (2147483647 : Int32)) % (5 : Int32))), .val (.int z10), .val (.int z11), .val (.int z22), .unset, .unset] [(.int (f9 3)), (.int (z25 + (own_f3 (f9 2) (2 : Int32) ((p4 &&& (2147483647 : Int32)) % (5 : Int32)) z11)))]))
    refine own_go (fun _ k => XS.iconst X26.here hx rfl (hb hby at_169) k) ?_
    show own_Fin _ _ _ _ _ _ _ (T26.setTop (mkF m 170 #[.val (.int p0), .val (.int p1), .val (.int p2), .val (.int p3), .val (.int p4), .val (.ref b1), .val (.int ((p4 &&& (2147483647 : Int32)) % (5 : Int32))), .val (.int z10), .val (.int z11), .val (.int z22), .unset, .unset] [(.int (3 : Int32)), (.int (f9 3)), (.int (z25 + (own_f3 (f9 2) (2 : Int32) ((p4 &&& (2147483647 : Int32)) % (5 : Int32)) z11)))]))
    refine own_go (fun _ k => XS.iload X26.here hx rfl (hb hby at_170) rfl k) ?_
    show own_Fin _ _ _ _ _ _ _ (T26.setTop (mkF m 172 #[.val (.int p0), .val (.int p1), .val (.int p2), .val (.int p3), .val (.int p4), .val (.ref b1), .val (.int ((p4 &&& (2147483647 : Int32)) % (5 : Int32))), .val (.int z10), .val (.int z11), .val (.int z22), .unset, .unset] [(.int ((p4 &&& (2147483647 : Int32)) % (5 : Int32))), (.int (3 : Int32)), (.int (f9 3)), (.int (z25 + (own_f3 (f9 2) (2 : Int32) ((p4 &&& (2147483647 : Int32)) % (5 : Int32)) z11)))]))
    refine own_go (fun _ k => XS.iload X26.here hx rfl (hb hby at_172) rfl k) ?_
    show own_Fin _ _ _ _ _ _ _ (T26.setTop (mkF m 174 #[.val (.int p0), .val (.int p1), .val (.int p2), .val (.int p3), .val (.int p4), .val (.ref b1), .val (.int ((p4 &&& (2147483647 : Int32)) % (5 : Int32))), .val (.int z10), .val (.int z11), .val (.int z22), .unset, .unset] [(.int z11), (.int ((p4 &&& (2147483647 : Int32)) % (5 : Int32))), (.int (3 : Int32)), (.int (f9 3)), (.int (z25 + (own_f3 (f9 2) (2 : Int32) ((p4 &&& (2147483647 : Int32)) % (5 : Int32)) z11)))]))
    obtain ⟨_, _, ⟨T27, L27, k27, n27⟩, -, X27, ⟨Lc27, hQ27, l27, y27, z27⟩, st27⟩ := Jvm.LawKit.callS X26 hx (y := (⟨"com/example/plain_tariff/plaintariff/OffsetInstantDigitsPinLaw", "term", "(BIII)I"⟩ : MethodName)) hown (mvT hZ (hw _ (List.mem_of_getElem? (i := 9) rfl))) (mvT hZ (hw _ (List.mem_of_getElem? (i := 10) rfl))) (mvT hZ (hw _ (List.mem_of_getElem? (i := 3) rfl))) (mvT hZ (hw _ (List.mem_of_getElem? (i := 11) rfl))) (by decide) (backOf (W := 1) (rm3 l Z a0 hw [] (f9 3) (3 : Int32) ((p4 &&& (2147483647 : Int32)) % (5 : Int32)) z11 h9 n0 Z9) hZ (hw _ (List.mem_of_getElem? (i := 11) rfl)) (hw _ (List.mem_of_getElem? (i := 3) rfl)) (by decide) (by decide)) (g := (mkF m 174 #[.val (.int p0), .val (.int p1), .val (.int p2), .val (.int p3), .val (.int p4), .val (.ref b1), .val (.int ((p4 &&& (2147483647 : Int32)) % (5 : Int32))), .val (.int z10), .val (.int z11), .val (.int z22), .unset, .unset] [(.int z11), (.int ((p4 &&& (2147483647 : Int32)) % (5 : Int32))), (.int (3 : Int32)), (.int (f9 3)), (.int (z25 + (own_f3 (f9 2) (2 : Int32) ((p4 &&& (2147483647 : Int32)) % (5 : Int32)) z11)))])) rfl (by rw [hml]; rfl) (argsL := [(.int (f9 3)), (.int (3 : Int32)), (.int ((p4 &&& (2147483647 : Int32)) % (5 : Int32))), (.int z11)]) (rest := [(.int (z25 + (own_f3 (f9 2) (2 : Int32) ((p4 &&& (2147483647 : Int32)) % (5 : Int32)) z11)))]) (lenOf own_pd120 rfl) rfl (by show 2 * 0 + _ ≤ _; exact Nat.le_of_eq rfl) (hb hby at_174) (fun _ _ => ⟨rfl, e26, (by decide : 1 + 0 ≤ _), (by decide : 4 + 0 ≤ _)⟩)
    dsimp only [Pt.U, Pt.locs, Pt.cells, Pt.slots] at X27 l27 y27 z27 st27 hQ27
    replace y27 : 1 = k27 := y27.symm
    replace z27 : 4 = n27 := z27.symm
    subst y27 z27
    obtain ⟨rfl, N27q, e27⟩ := hQ27
    have N27 : Fr n0 L27 := by rw [l27]; exact Fr.app N26 N27q
    refine own_go (fun tg k => st27 tg k) ?_
    show own_Fin _ _ _ _ _ _ _ (T27.setTop (mkF m 177 #[.val (.int p0), .val (.int p1), .val (.int p2), .val (.int p3), .val (.int p4), .val (.ref b1), .val (.int ((p4 &&& (2147483647 : Int32)) % (5 : Int32))), .val (.int z10), .val (.int z11), .val (.int z22), .unset, .unset] [(.int (own_f3 (f9 3) (3 : Int32) ((p4 &&& (2147483647 : Int32)) % (5 : Int32)) z11)), (.int (z25 + (own_f3 (f9 2) (2 : Int32) ((p4 &&& (2147483647 : Int32)) % (5 : Int32)) z11)))]))
    refine own_go (fun _ k => XS.iadd X27.here hx rfl (hb hby at_177) rfl k) ?_
    show own_Fin _ _ _ _ _ _ _ (T27.setTop (mkF m 178 #[.val (.int p0), .val (.int p1), .val (.int p2), .val (.int p3), .val (.int p4), .val (.ref b1), .val (.int ((p4 &&& (2147483647 : Int32)) % (5 : Int32))), .val (.int z10), .val (.int z11), .val (.int z22), .unset, .unset] [(.int ((z25 + (own_f3 (f9 2) (2 : Int32) ((p4 &&& (2147483647 : Int32)) % (5 : Int32)) z11)) + (own_f3 (f9 3) (3 : Int32) ((p4 &&& (2147483647 : Int32)) % (5 : Int32)) z11)))]))
    generalize hz28 : ((z25 + (own_f3 (f9 2) (2 : Int32) ((p4 &&& (2147483647 : Int32)) % (5 : Int32)) z11)) + (own_f3 (f9 3) (3 : Int32) ((p4 &&& (2147483647 : Int32)) % (5 : Int32)) z11)) = z28
    show own_Fin _ _ _ _ _ _ _ (T27.setTop (mkF m 178 #[.val (.int p0), .val (.int p1), .val (.int p2), .val (.int p3), .val (.int p4), .val (.ref b1), .val (.int ((p4 &&& (2147483647 : Int32)) % (5 : Int32))), .val (.int z10), .val (.int z11), .val (.int z22), .unset, .unset] [(.int z28)]))
    refine own_go (fun _ k => XS.istore X27.here hx rfl (hb hby at_178) rfl (l' := #[.val (.int p0), .val (.int p1), .val (.int p2), .val (.int p3), .val (.int p4), .val (.ref b1), .val (.int ((p4 &&& (2147483647 : Int32)) % (5 : Int32))), .val (.int z10), .val (.int z11), .val (.int z22), .val (.int z28), .unset]) rfl k) ?_
    show own_Fin _ _ _ _ _ _ _ (T27.setTop (mkF m 180 #[.val (.int p0), .val (.int p1), .val (.int p2), .val (.int p3), .val (.int p4), .val (.ref b1), .val (.int ((p4 &&& (2147483647 : Int32)) % (5 : Int32))), .val (.int z10), .val (.int z11), .val (.int z22), .val (.int z28), .unset] []))
    refine own_go (fun _ k => XS.iload X27.here hx rfl (hb hby at_180) rfl k) ?_
    show own_Fin _ _ _ _ _ _ _ (T27.setTop (mkF m 182 #[.val (.int p0), .val (.int p1), .val (.int p2), .val (.int p3), .val (.int p4), .val (.ref b1), .val (.int ((p4 &&& (2147483647 : Int32)) % (5 : Int32))), .val (.int z10), .val (.int z11), .val (.int z22), .val (.int z28), .unset] [(.int z22)]))
    have hk30 : ∀ (T' : State) (L' : List Loc), Stand p l e room_1 s m #[(.int p0), (.int p1), (.int p2), (.int p3), (.int p4)] below meth c T' L' 1 4 → Fr n0 L' → T'.heap = h9 → own_Fin p.tables e below s (own_QL (some (.int (own_f0 p0 p1 p2 p3 p4))) n0) 16 128 (T'.setTop (mkF m 191 #[.val (.int p0), .val (.int p1), .val (.int p2), .val (.int p3), .val (.int p4), .val (.ref b1), .val (.int ((p4 &&& (2147483647 : Int32)) % (5 : Int32))), .val (.int z10), .val (.int z11), .val (.int z22), .val (.int z28), .unset] [(.int (if z22 = (0 : Int32) then (-1 : Int32) else z28))])) := by
      intro T31 L31 X31 N31 e31
      generalize hz32 : (if z22 = (0 : Int32) then (-1 : Int32) else z28) = z32
      show own_Fin _ _ _ _ _ _ _ (T31.setTop (mkF m 191 #[.val (.int p0), .val (.int p1), .val (.int p2), .val (.int p3), .val (.int p4), .val (.ref b1), .val (.int ((p4 &&& (2147483647 : Int32)) % (5 : Int32))), .val (.int z10), .val (.int z11), .val (.int z22), .val (.int z28), .unset] [(.int z32)]))
      refine own_go (fun _ k => XS.istore X31.here hx rfl (hb hby at_191) rfl (l' := #[.val (.int p0), .val (.int p1), .val (.int p2), .val (.int p3), .val (.int p4), .val (.ref b1), .val (.int ((p4 &&& (2147483647 : Int32)) % (5 : Int32))), .val (.int z10), .val (.int z11), .val (.int z22), .val (.int z28), .val (.int z32)]) rfl k) ?_
      show own_Fin _ _ _ _ _ _ _ (T31.setTop (mkF m 193 #[.val (.int p0), .val (.int p1), .val (.int p2), .val (.int p3), .val (.int p4), .val (.ref b1), .val (.int ((p4 &&& (2147483647 : Int32)) % (5 : Int32))), .val (.int z10), .val (.int z11), .val (.int z22), .val (.int z28), .val (.int z32)] []))
      refine own_go (fun _ k => XS.aload X31.here hx rfl (hb hby at_193) rfl rfl k) ?_
      show own_Fin _ _ _ _ _ _ _ (T31.setTop (mkF m 195 #[.val (.int p0), .val (.int p1), .val (.int p2), .val (.int p3), .val (.int p4), .val (.ref b1), .val (.int ((p4 &&& (2147483647 : Int32)) % (5 : Int32))), .val (.int z10), .val (.int z11), .val (.int z22), .val (.int z28), .val (.int z32)] [(.ref b1)]))
      refine own_go (fun _ k => XS.iload X31.here hx rfl (hb hby at_195) rfl k) ?_
      show own_Fin _ _ _ _ _ _ _ (T31.setTop (mkF m 197 #[.val (.int p0), .val (.int p1), .val (.int p2), .val (.int p3), .val (.int p4), .val (.ref b1), .val (.int ((p4 &&& (2147483647 : Int32)) % (5 : Int32))), .val (.int z10), .val (.int z11), .val (.int z22), .val (.int z28), .val (.int z32)] [(.int ((p4 &&& (2147483647 : Int32)) % (5 : Int32))), (.ref b1)]))
      refine own_go (fun _ k => XS.iload X31.here hx rfl (hb hby at_197) rfl k) ?_
      show own_Fin _ _ _ _ _ _ _ (T31.setTop (mkF m 199 #[.val (.int p0), .val (.int p1), .val (.int p2), .val (.int p3), .val (.int p4), .val (.ref b1), .val (.int ((p4 &&& (2147483647 : Int32)) % (5 : Int32))), .val (.int z10), .val (.int z11), .val (.int z22), .val (.int z28), .val (.int z32)] [(.int z10), (.int ((p4 &&& (2147483647 : Int32)) % (5 : Int32))), (.ref b1)]))
      obtain ⟨_, _, ⟨T33, L33, k33, n33⟩, -, X33, ⟨Lc33, hQ33, l33, y33, z33⟩, st33⟩ := Jvm.LawKit.callS X31 hx (y := (⟨"com/example/plain_tariff/plaintariff/OffsetInstant", "digits", "([BII)I"⟩ : MethodName)) hown (mvT hZ (hw _ (List.mem_of_getElem? (i := 12) rfl))) (mvT hZ (hw _ (List.mem_of_getElem? (i := 13) rfl))) (mvT hZ (hw _ (List.mem_of_getElem? (i := 14) rfl))) (mvT hZ (hw _ (List.mem_of_getElem? (i := 15) rfl))) (by decide) (backOf (W := 0) (rm4 l Z a0 hw [] b1 ((p4 &&& (2147483647 : Int32)) % (5 : Int32)) z10 f9 h9 n0 Z9 A_b1_9 (by rw [← hz10]; exact own_pay _)) hZ (hw _ (List.mem_of_getElem? (i := 15) rfl)) (hw _ (List.mem_of_getElem? (i := 14) rfl)) (by decide) (by decide)) (g := (mkF m 199 #[.val (.int p0), .val (.int p1), .val (.int p2), .val (.int p3), .val (.int p4), .val (.ref b1), .val (.int ((p4 &&& (2147483647 : Int32)) % (5 : Int32))), .val (.int z10), .val (.int z11), .val (.int z22), .val (.int z28), .val (.int z32)] [(.int z10), (.int ((p4 &&& (2147483647 : Int32)) % (5 : Int32))), (.ref b1)])) rfl (by rw [hml]; rfl) (argsL := [(.ref b1), (.int ((p4 &&& (2147483647 : Int32)) % (5 : Int32))), (.int z10)]) (rest := []) (lenOf own_pd121 rfl) rfl (by show 2 * 0 + _ ≤ _; exact Nat.le_of_eq rfl) (hb hby at_199) (fun _ _ => ⟨rfl, e31, (by decide : 1 + 0 ≤ _), (by decide : 4 + 0 ≤ _)⟩)
      dsimp only [Pt.U, Pt.locs, Pt.cells, Pt.slots] at X33 l33 y33 z33 st33 hQ33
      replace y33 : 1 = k33 := y33.symm
      replace z33 : 4 = n33 := z33.symm
      subst y33 z33
      obtain ⟨rfl, N33q, e33⟩ := hQ33
      have N33 : Fr n0 L33 := by rw [l33]; exact Fr.app N31 N33q
      refine own_go (fun tg k => st33 tg k) ?_
      show own_Fin _ _ _ _ _ _ _ (T33.setTop (mkF m 202 #[.val (.int p0), .val (.int p1), .val (.int p2), .val (.int p3), .val (.int p4), .val (.ref b1), .val (.int ((p4 &&& (2147483647 : Int32)) % (5 : Int32))), .val (.int z10), .val (.int z11), .val (.int z22), .val (.int z28), .val (.int z32)] [(.int (own_digE f9 ((p4 &&& (2147483647 : Int32)) % (5 : Int32)) (((p4 &&& (2147483647 : Int32)) % (5 : Int32)) + z10) (0 : Int32)))]))
      refine own_go (fun _ k => XS.iload X33.here hx rfl (hb hby at_202) rfl k) ?_
      show own_Fin _ _ _ _ _ _ _ (T33.setTop (mkF m 204 #[.val (.int p0), .val (.int p1), .val (.int p2), .val (.int p3), .val (.int p4), .val (.ref b1), .val (.int ((p4 &&& (2147483647 : Int32)) % (5 : Int32))), .val (.int z10), .val (.int z11), .val (.int z22), .val (.int z28), .val (.int z32)] [(.int z32), (.int (own_digE f9 ((p4 &&& (2147483647 : Int32)) % (5 : Int32)) (((p4 &&& (2147483647 : Int32)) % (5 : Int32)) + z10) (0 : Int32)))]))
      by_cases hc34 : (own_digE f9 ((p4 &&& (2147483647 : Int32)) % (5 : Int32)) (((p4 &&& (2147483647 : Int32)) % (5 : Int32)) + z10) (0 : Int32)) = z32
      · refine own_go (fun _ k => XS.icmpNo X33.here hx rfl (hb hby at_204) rfl (teq hc34).2 k) ?_
        show own_Fin _ _ _ _ _ _ _ (T33.setTop (mkF m 207 #[.val (.int p0), .val (.int p1), .val (.int p2), .val (.int p3), .val (.int p4), .val (.ref b1), .val (.int ((p4 &&& (2147483647 : Int32)) % (5 : Int32))), .val (.int z10), .val (.int z11), .val (.int z22), .val (.int z28), .val (.int z32)] []))
        refine own_go (fun _ k => XS.iconst X33.here hx rfl (hb hby at_207) k) ?_
        show own_Fin _ _ _ _ _ _ _ (T33.setTop (mkF m 208 #[.val (.int p0), .val (.int p1), .val (.int p2), .val (.int p3), .val (.int p4), .val (.ref b1), .val (.int ((p4 &&& (2147483647 : Int32)) % (5 : Int32))), .val (.int z10), .val (.int z11), .val (.int z22), .val (.int z28), .val (.int z32)] [(.int (1 : Int32))]))
        refine own_go (fun _ k => XS.goto X33.here hx rfl (pc0 := 208) (pc' := 212) rfl (hb hby at_208) (by decide) (by decide) k) ?_
        show own_Fin _ _ _ _ _ _ _ (T33.setTop (mkF m 212 #[.val (.int p0), .val (.int p1), .val (.int p2), .val (.int p3), .val (.int p4), .val (.ref b1), .val (.int ((p4 &&& (2147483647 : Int32)) % (5 : Int32))), .val (.int z10), .val (.int z11), .val (.int z22), .val (.int z28), .val (.int z32)] [(.int (1 : Int32))]))
        refine own_ret X33 hx hlk Bd.returns rfl (Or.inl ⟨rfl, by simp, _, rfl⟩) (hb hby at_212) (Nat.le_of_ble_eq_true rfl) (Nat.le_of_ble_eq_true rfl) ?_
        exact ⟨(own_lf_own_f0_1 (p0 := p0) (p1 := p1) (p2 := p2) (p3 := p3) (p4 := p4) hf3 hf5 hf7 hf9 hz10 hz11 hz22 hz25 hz28 hz32 hc34), N33, trivial⟩
      · refine own_go (fun _ k => XS.icmpYes X33.here hx rfl (pc0 := 204) (pc' := 211) rfl (hb hby at_204) rfl (feq hc34).2 (by decide) (by decide) k) ?_
        show own_Fin _ _ _ _ _ _ _ (T33.setTop (mkF m 211 #[.val (.int p0), .val (.int p1), .val (.int p2), .val (.int p3), .val (.int p4), .val (.ref b1), .val (.int ((p4 &&& (2147483647 : Int32)) % (5 : Int32))), .val (.int z10), .val (.int z11), .val (.int z22), .val (.int z28), .val (.int z32)] []))
        refine own_go (fun _ k => XS.iconst X33.here hx rfl (hb hby at_211) k) ?_
        show own_Fin _ _ _ _ _ _ _ (T33.setTop (mkF m 212 #[.val (.int p0), .val (.int p1), .val (.int p2), .val (.int p3), .val (.int p4), .val (.ref b1), .val (.int ((p4 &&& (2147483647 : Int32)) % (5 : Int32))), .val (.int z10), .val (.int z11), .val (.int z22), .val (.int z28), .val (.int z32)] [(.int (0 : Int32))]))
        refine own_ret X33 hx hlk Bd.returns rfl (Or.inl ⟨rfl, by simp, _, rfl⟩) (hb hby at_212) (Nat.le_of_ble_eq_true rfl) (Nat.le_of_ble_eq_true rfl) ?_
        exact ⟨(own_lf_own_f0_2 (p0 := p0) (p1 := p1) (p2 := p2) (p3 := p3) (p4 := p4) hf3 hf5 hf7 hf9 hz10 hz11 hz22 hz25 hz28 hz32 hc34), N33, trivial⟩
    by_cases hc29 : z22 = (0 : Int32)
    · refine own_go (fun _ k => XS.ifYes X27.here hx rfl (pc0 := 182) (pc' := 190) rfl (hb hby at_182) rfl ((if0 _ _).trans (teq hc29).1) (by decide) (by decide) k) ?_
      show own_Fin _ _ _ _ _ _ _ (T27.setTop (mkF m 190 #[.val (.int p0), .val (.int p1), .val (.int p2), .val (.int p3), .val (.int p4), .val (.ref b1), .val (.int ((p4 &&& (2147483647 : Int32)) % (5 : Int32))), .val (.int z10), .val (.int z11), .val (.int z22), .val (.int z28), .unset] []))
      refine own_go (fun _ k => XS.iconst X27.here hx rfl (hb hby at_190) k) ?_
      show own_Fin _ _ _ _ _ _ _ (T27.setTop (mkF m 191 #[.val (.int p0), .val (.int p1), .val (.int p2), .val (.int p3), .val (.int p4), .val (.ref b1), .val (.int ((p4 &&& (2147483647 : Int32)) % (5 : Int32))), .val (.int z10), .val (.int z11), .val (.int z22), .val (.int z28), .unset] [(.int (-1 : Int32))]))
      have kj := hk30 T27 _ (own_mono X27 (by decide) (by decide)) N27 e27
      simpa only [if_pos hc29] using kj
    · refine own_go (fun _ k => XS.ifNo X27.here hx rfl (hb hby at_182) rfl ((if0 _ _).trans (feq hc29).1) k) ?_
      show own_Fin _ _ _ _ _ _ _ (T27.setTop (mkF m 185 #[.val (.int p0), .val (.int p1), .val (.int p2), .val (.int p3), .val (.int p4), .val (.ref b1), .val (.int ((p4 &&& (2147483647 : Int32)) % (5 : Int32))), .val (.int z10), .val (.int z11), .val (.int z22), .val (.int z28), .unset] []))
      refine own_go (fun _ k => XS.iload X27.here hx rfl (hb hby at_185) rfl k) ?_
      show own_Fin _ _ _ _ _ _ _ (T27.setTop (mkF m 187 #[.val (.int p0), .val (.int p1), .val (.int p2), .val (.int p3), .val (.int p4), .val (.ref b1), .val (.int ((p4 &&& (2147483647 : Int32)) % (5 : Int32))), .val (.int z10), .val (.int z11), .val (.int z22), .val (.int z28), .unset] [(.int z28)]))
      refine own_go (fun _ k => XS.goto X27.here hx rfl (pc0 := 187) (pc' := 191) rfl (hb hby at_187) (by decide) (by decide) k) ?_
      show own_Fin _ _ _ _ _ _ _ (T27.setTop (mkF m 191 #[.val (.int p0), .val (.int p1), .val (.int p2), .val (.int p3), .val (.int p4), .val (.ref b1), .val (.int ((p4 &&& (2147483647 : Int32)) % (5 : Int32))), .val (.int z10), .val (.int z11), .val (.int z22), .val (.int z28), .unset] [(.int z28)]))
      have kj := hk30 T27 _ (own_mono X27 (by decide) (by decide)) N27 e27
      simpa only [if_neg hc29] using kj
  by_cases hc13 : (own_f2 (f9 0) (0 : Int32) ((p4 &&& (2147483647 : Int32)) % (5 : Int32)) z11) = (0 : Int32)
  · refine own_go (fun _ k => XS.ifYes X12.here hx rfl (pc0 := 72) (pc' := 124) rfl (hb hby at_72) rfl ((if0 _ _).trans (teq hc13).1) (by decide) (by decide) k) ?_
    show own_Fin _ _ _ _ _ _ _ (T12.setTop (mkF m 124 #[.val (.int p0), .val (.int p1), .val (.int p2), .val (.int p3), .val (.int p4), .val (.ref b1), .val (.int ((p4 &&& (2147483647 : Int32)) % (5 : Int32))), .val (.int z10), .val (.int z11), .unset, .unset, .unset] []))
    refine own_go (fun _ k => XS.iconst X12.here hx rfl (hb hby at_124) k) ?_
    show own_Fin _ _ _ _ _ _ _ (T12.setTop (mkF m 125 #[.val (.int p0), .val (.int p1), .val (.int p2), .val (.int p3), .val (.int p4), .val (.ref b1), .val (.int ((p4 &&& (2147483647 : Int32)) % (5 : Int32))), .val (.int z10), .val (.int z11), .unset, .unset, .unset] [(.int (0 : Int32))]))
    have kj := hk14 T12 _ (own_mono X12 (by decide) (by decide)) N12 e12
    simpa only [if_pos hc13] using kj
  · refine own_go (fun _ k => XS.ifNo X12.here hx rfl (hb hby at_72) rfl ((if0 _ _).trans (feq hc13).1) k) ?_
    show own_Fin _ _ _ _ _ _ _ (T12.setTop (mkF m 75 #[.val (.int p0), .val (.int p1), .val (.int p2), .val (.int p3), .val (.int p4), .val (.ref b1), .val (.int ((p4 &&& (2147483647 : Int32)) % (5 : Int32))), .val (.int z10), .val (.int z11), .unset, .unset, .unset] []))
    refine own_go (fun _ k => XS.aload X12.here hx rfl (hb hby at_75) rfl rfl k) ?_
    show own_Fin _ _ _ _ _ _ _ (T12.setTop (mkF m 77 #[.val (.int p0), .val (.int p1), .val (.int p2), .val (.int p3), .val (.int p4), .val (.ref b1), .val (.int ((p4 &&& (2147483647 : Int32)) % (5 : Int32))), .val (.int z10), .val (.int z11), .unset, .unset, .unset] [(.ref b1)]))
    refine own_go (fun _ k => XS.iconst X12.here hx rfl (hb hby at_77) k) ?_
    show own_Fin _ _ _ _ _ _ _ (T12.setTop (mkF m 78 #[.val (.int p0), .val (.int p1), .val (.int p2), .val (.int p3), .val (.int p4), .val (.ref b1), .val (.int ((p4 &&& (2147483647 : Int32)) % (5 : Int32))), .val (.int z10), .val (.int z11), .unset, .unset, .unset] [(.int (1 : Int32)), (.ref b1)]))
    refine own_go (fun tg k => own_baload X12 hx hZ e12 A_b1_9 (j := (1 : Int32)) ⟨by decide, by decide⟩ (x := (f9 1)) rfl (g := (mkF m 78 #[.val (.int p0), .val (.int p1), .val (.int p2), .val (.int p3), .val (.int p4), .val (.ref b1), .val (.int ((p4 &&& (2147483647 : Int32)) % (5 : Int32))), .val (.int z10), .val (.int z11), .unset, .unset, .unset] [(.int (1 : Int32)), (.ref b1)])) rfl rfl (hb hby at_78) tg k) ?_
    show own_Fin _ _ _ _ _ _ _ (T12.setTop (mkF m 79 #[.val (.int p0), .val (.int p1), .val (.int p2), .val (.int p3), .val (.int p4), .val (.ref b1), .val (.int ((p4 &&& (2147483647 : Int32)) % (5 : Int32))), .val (.int z10), .val (.int z11), .unset, .unset, .unset] [(.int (f9 1))]))
    refine own_go (fun _ k => XS.iconst X12.here hx rfl (hb hby at_79) k) ?_
    show own_Fin _ _ _ _ _ _ _ (T12.setTop (mkF m 80 #[.val (.int p0), .val (.int p1), .val (.int p2), .val (.int p3), .val (.int p4), .val (.ref b1), .val (.int ((p4 &&& (2147483647 : Int32)) % (5 : Int32))), .val (.int z10), .val (.int z11), .unset, .unset, .unset] [(.int (1 : Int32)), (.int (f9 1))]))
    refine own_go (fun _ k => XS.iload X12.here hx rfl (hb hby at_80) rfl k) ?_
    show own_Fin _ _ _ _ _ _ _ (T12.setTop (mkF m 82 #[.val (.int p0), .val (.int p1), .val (.int p2), .val (.int p3), .val (.int p4), .val (.ref b1), .val (.int ((p4 &&& (2147483647 : Int32)) % (5 : Int32))), .val (.int z10), .val (.int z11), .unset, .unset, .unset] [(.int ((p4 &&& (2147483647 : Int32)) % (5 : Int32))), (.int (1 : Int32)), (.int (f9 1))]))
    refine own_go (fun _ k => XS.iload X12.here hx rfl (hb hby at_82) rfl k) ?_
    show own_Fin _ _ _ _ _ _ _ (T12.setTop (mkF m 84 #[.val (.int p0), .val (.int p1), .val (.int p2), .val (.int p3), .val (.int p4), .val (.ref b1), .val (.int ((p4 &&& (2147483647 : Int32)) % (5 : Int32))), .val (.int z10), .val (.int z11), .unset, .unset, .unset] [(.int z11), (.int ((p4 &&& (2147483647 : Int32)) % (5 : Int32))), (.int (1 : Int32)), (.int (f9 1))]))
    obtain ⟨_, _, ⟨T15, L15, k15, n15⟩, -, X15, ⟨Lc15, hQ15, l15, y15, z15⟩, st15⟩ := Jvm.LawKit.callS X12 hx (y := (⟨"com/example/plain_tariff/plaintariff/OffsetInstantDigitsPinLaw", "digitOk", "(BIII)Z"⟩ : MethodName)) hown (mvT hZ (hw _ (List.mem_of_getElem? (i := 6) rfl))) (mvT hZ (hw _ (List.mem_of_getElem? (i := 7) rfl))) (mvT hZ (hw _ (List.mem_of_getElem? (i := 3) rfl))) (mvT hZ (hw _ (List.mem_of_getElem? (i := 8) rfl))) (by decide) (backOf (W := 0) (rm2 l Z a0 hw [] (f9 1) (1 : Int32) ((p4 &&& (2147483647 : Int32)) % (5 : Int32)) z11 h9 n0 Z9) hZ (hw _ (List.mem_of_getElem? (i := 8) rfl)) (hw _ (List.mem_of_getElem? (i := 3) rfl)) (by decide) (by decide)) (g := (mkF m 84 #[.val (.int p0), .val (.int p1), .val (.int p2), .val (.int p3), .val (.int p4), .val (.ref b1), .val (.int ((p4 &&& (2147483647 : Int32)) % (5 : Int32))), .val (.int z10), .val (.int z11), .unset, .unset, .unset] [(.int z11), (.int ((p4 &&& (2147483647 : Int32)) % (5 : Int32))), (.int (1 : Int32)), (.int (f9 1))])) rfl (by rw [hml]; rfl) (argsL := [(.int (f9 1)), (.int (1 : Int32)), (.int ((p4 &&& (2147483647 : Int32)) % (5 : Int32))), (.int z11)]) (rest := []) (lenOf own_pd119 rfl) rfl (by show 2 * 0 + _ ≤ _; exact Nat.le_of_eq rfl) (hb hby at_84) (fun _ _ => ⟨rfl, e12, (by decide : 1 + 0 ≤ _), (by decide : 4 + 0 ≤ _)⟩)
    dsimp only [Pt.U, Pt.locs, Pt.cells, Pt.slots] at X15 l15 y15 z15 st15 hQ15
    replace y15 : 1 = k15 := y15.symm
    replace z15 : 4 = n15 := z15.symm
    subst y15 z15
    obtain ⟨rfl, N15q, e15⟩ := hQ15
    have N15 : Fr n0 L15 := by rw [l15]; exact Fr.app N12 N15q
    refine own_go (fun tg k => st15 tg k) ?_
    show own_Fin _ _ _ _ _ _ _ (T15.setTop (mkF m 87 #[.val (.int p0), .val (.int p1), .val (.int p2), .val (.int p3), .val (.int p4), .val (.ref b1), .val (.int ((p4 &&& (2147483647 : Int32)) % (5 : Int32))), .val (.int z10), .val (.int z11), .unset, .unset, .unset] [(.int (own_f2 (f9 1) (1 : Int32) ((p4 &&& (2147483647 : Int32)) % (5 : Int32)) z11))]))
    by_cases hc16 : (own_f2 (f9 1) (1 : Int32) ((p4 &&& (2147483647 : Int32)) % (5 : Int32)) z11) = (0 : Int32)
    · refine own_go (fun _ k => XS.ifYes X15.here hx rfl (pc0 := 87) (pc' := 124) rfl (hb hby at_87) rfl ((if0 _ _).trans (teq hc16).1) (by decide) (by decide) k) ?_
      show own_Fin _ _ _ _ _ _ _ (T15.setTop (mkF m 124 #[.val (.int p0), .val (.int p1), .val (.int p2), .val (.int p3), .val (.int p4), .val (.ref b1), .val (.int ((p4 &&& (2147483647 : Int32)) % (5 : Int32))), .val (.int z10), .val (.int z11), .unset, .unset, .unset] []))
      refine own_go (fun _ k => XS.iconst X15.here hx rfl (hb hby at_124) k) ?_
      show own_Fin _ _ _ _ _ _ _ (T15.setTop (mkF m 125 #[.val (.int p0), .val (.int p1), .val (.int p2), .val (.int p3), .val (.int p4), .val (.ref b1), .val (.int ((p4 &&& (2147483647 : Int32)) % (5 : Int32))), .val (.int z10), .val (.int z11), .unset, .unset, .unset] [(.int (0 : Int32))]))
      have kj := hk14 T15 _ (own_mono X15 (by decide) (by decide)) N15 e15
      simpa only [if_neg hc13, if_pos hc16] using kj
    · refine own_go (fun _ k => XS.ifNo X15.here hx rfl (hb hby at_87) rfl ((if0 _ _).trans (feq hc16).1) k) ?_
      show own_Fin _ _ _ _ _ _ _ (T15.setTop (mkF m 90 #[.val (.int p0), .val (.int p1), .val (.int p2), .val (.int p3), .val (.int p4), .val (.ref b1), .val (.int ((p4 &&& (2147483647 : Int32)) % (5 : Int32))), .val (.int z10), .val (.int z11), .unset, .unset, .unset] []))
      refine own_go (fun _ k => XS.aload X15.here hx rfl (hb hby at_90) rfl rfl k) ?_
      show own_Fin _ _ _ _ _ _ _ (T15.setTop (mkF m 92 #[.val (.int p0), .val (.int p1), .val (.int p2), .val (.int p3), .val (.int p4), .val (.ref b1), .val (.int ((p4 &&& (2147483647 : Int32)) % (5 : Int32))), .val (.int z10), .val (.int z11), .unset, .unset, .unset] [(.ref b1)]))
      refine own_go (fun _ k => XS.iconst X15.here hx rfl (hb hby at_92) k) ?_
      show own_Fin _ _ _ _ _ _ _ (T15.setTop (mkF m 93 #[.val (.int p0), .val (.int p1), .val (.int p2), .val (.int p3), .val (.int p4), .val (.ref b1), .val (.int ((p4 &&& (2147483647 : Int32)) % (5 : Int32))), .val (.int z10), .val (.int z11), .unset, .unset, .unset] [(.int (2 : Int32)), (.ref b1)]))
      refine own_go (fun tg k => own_baload X15 hx hZ e15 A_b1_9 (j := (2 : Int32)) ⟨by decide, by decide⟩ (x := (f9 2)) rfl (g := (mkF m 93 #[.val (.int p0), .val (.int p1), .val (.int p2), .val (.int p3), .val (.int p4), .val (.ref b1), .val (.int ((p4 &&& (2147483647 : Int32)) % (5 : Int32))), .val (.int z10), .val (.int z11), .unset, .unset, .unset] [(.int (2 : Int32)), (.ref b1)])) rfl rfl (hb hby at_93) tg k) ?_
      show own_Fin _ _ _ _ _ _ _ (T15.setTop (mkF m 94 #[.val (.int p0), .val (.int p1), .val (.int p2), .val (.int p3), .val (.int p4), .val (.ref b1), .val (.int ((p4 &&& (2147483647 : Int32)) % (5 : Int32))), .val (.int z10), .val (.int z11), .unset, .unset, .unset] [(.int (f9 2))]))
      refine own_go (fun _ k => XS.iconst X15.here hx rfl (hb hby at_94) k) ?_
      show own_Fin _ _ _ _ _ _ _ (T15.setTop (mkF m 95 #[.val (.int p0), .val (.int p1), .val (.int p2), .val (.int p3), .val (.int p4), .val (.ref b1), .val (.int ((p4 &&& (2147483647 : Int32)) % (5 : Int32))), .val (.int z10), .val (.int z11), .unset, .unset, .unset] [(.int (2 : Int32)), (.int (f9 2))]))
      refine own_go (fun _ k => XS.iload X15.here hx rfl (hb hby at_95) rfl k) ?_
      show own_Fin _ _ _ _ _ _ _ (T15.setTop (mkF m 97 #[.val (.int p0), .val (.int p1), .val (.int p2), .val (.int p3), .val (.int p4), .val (.ref b1), .val (.int ((p4 &&& (2147483647 : Int32)) % (5 : Int32))), .val (.int z10), .val (.int z11), .unset, .unset, .unset] [(.int ((p4 &&& (2147483647 : Int32)) % (5 : Int32))), (.int (2 : Int32)), (.int (f9 2))]))
      refine own_go (fun _ k => XS.iload X15.here hx rfl (hb hby at_97) rfl k) ?_
      show own_Fin _ _ _ _ _ _ _ (T15.setTop (mkF m 99 #[.val (.int p0), .val (.int p1), .val (.int p2), .val (.int p3), .val (.int p4), .val (.ref b1), .val (.int ((p4 &&& (2147483647 : Int32)) % (5 : Int32))), .val (.int z10), .val (.int z11), .unset, .unset, .unset] [(.int z11), (.int ((p4 &&& (2147483647 : Int32)) % (5 : Int32))), (.int (2 : Int32)), (.int (f9 2))]))
      obtain ⟨_, _, ⟨T17, L17, k17, n17⟩, -, X17, ⟨Lc17, hQ17, l17, y17, z17⟩, st17⟩ := Jvm.LawKit.callS X15 hx (y := (⟨"com/example/plain_tariff/plaintariff/OffsetInstantDigitsPinLaw", "digitOk", "(BIII)Z"⟩ : MethodName)) hown (mvT hZ (hw _ (List.mem_of_getElem? (i := 6) rfl))) (mvT hZ (hw _ (List.mem_of_getElem? (i := 7) rfl))) (mvT hZ (hw _ (List.mem_of_getElem? (i := 3) rfl))) (mvT hZ (hw _ (List.mem_of_getElem? (i := 8) rfl))) (by decide) (backOf (W := 0) (rm2 l Z a0 hw [] (f9 2) (2 : Int32) ((p4 &&& (2147483647 : Int32)) % (5 : Int32)) z11 h9 n0 Z9) hZ (hw _ (List.mem_of_getElem? (i := 8) rfl)) (hw _ (List.mem_of_getElem? (i := 3) rfl)) (by decide) (by decide)) (g := (mkF m 99 #[.val (.int p0), .val (.int p1), .val (.int p2), .val (.int p3), .val (.int p4), .val (.ref b1), .val (.int ((p4 &&& (2147483647 : Int32)) % (5 : Int32))), .val (.int z10), .val (.int z11), .unset, .unset, .unset] [(.int z11), (.int ((p4 &&& (2147483647 : Int32)) % (5 : Int32))), (.int (2 : Int32)), (.int (f9 2))])) rfl (by rw [hml]; rfl) (argsL := [(.int (f9 2)), (.int (2 : Int32)), (.int ((p4 &&& (2147483647 : Int32)) % (5 : Int32))), (.int z11)]) (rest := []) (lenOf own_pd119 rfl) rfl (by show 2 * 0 + _ ≤ _; exact Nat.le_of_eq rfl) (hb hby at_99) (fun _ _ => ⟨rfl, e15, (by decide : 1 + 0 ≤ _), (by decide : 4 + 0 ≤ _)⟩)
      dsimp only [Pt.U, Pt.locs, Pt.cells, Pt.slots] at X17 l17 y17 z17 st17 hQ17
      replace y17 : 1 = k17 := y17.symm
      replace z17 : 4 = n17 := z17.symm
      subst y17 z17
      obtain ⟨rfl, N17q, e17⟩ := hQ17
      have N17 : Fr n0 L17 := by rw [l17]; exact Fr.app N15 N17q
      refine own_go (fun tg k => st17 tg k) ?_
      show own_Fin _ _ _ _ _ _ _ (T17.setTop (mkF m 102 #[.val (.int p0), .val (.int p1), .val (.int p2), .val (.int p3), .val (.int p4), .val (.ref b1), .val (.int ((p4 &&& (2147483647 : Int32)) % (5 : Int32))), .val (.int z10), .val (.int z11), .unset, .unset, .unset] [(.int (own_f2 (f9 2) (2 : Int32) ((p4 &&& (2147483647 : Int32)) % (5 : Int32)) z11))]))
      by_cases hc18 : (own_f2 (f9 2) (2 : Int32) ((p4 &&& (2147483647 : Int32)) % (5 : Int32)) z11) = (0 : Int32)
      · refine own_go (fun _ k => XS.ifYes X17.here hx rfl (pc0 := 102) (pc' := 124) rfl (hb hby at_102) rfl ((if0 _ _).trans (teq hc18).1) (by decide) (by decide) k) ?_
        show own_Fin _ _ _ _ _ _ _ (T17.setTop (mkF m 124 #[.val (.int p0), .val (.int p1), .val (.int p2), .val (.int p3), .val (.int p4), .val (.ref b1), .val (.int ((p4 &&& (2147483647 : Int32)) % (5 : Int32))), .val (.int z10), .val (.int z11), .unset, .unset, .unset] []))
        refine own_go (fun _ k => XS.iconst X17.here hx rfl (hb hby at_124) k) ?_
        show own_Fin _ _ _ _ _ _ _ (T17.setTop (mkF m 125 #[.val (.int p0), .val (.int p1), .val (.int p2), .val (.int p3), .val (.int p4), .val (.ref b1), .val (.int ((p4 &&& (2147483647 : Int32)) % (5 : Int32))), .val (.int z10), .val (.int z11), .unset, .unset, .unset] [(.int (0 : Int32))]))
        have kj := hk14 T17 _ (own_mono X17 (by decide) (by decide)) N17 e17
        simpa only [if_neg hc13, if_neg hc16, if_pos hc18] using kj
      · refine own_go (fun _ k => XS.ifNo X17.here hx rfl (hb hby at_102) rfl ((if0 _ _).trans (feq hc18).1) k) ?_
        show own_Fin _ _ _ _ _ _ _ (T17.setTop (mkF m 105 #[.val (.int p0), .val (.int p1), .val (.int p2), .val (.int p3), .val (.int p4), .val (.ref b1), .val (.int ((p4 &&& (2147483647 : Int32)) % (5 : Int32))), .val (.int z10), .val (.int z11), .unset, .unset, .unset] []))
        refine own_go (fun _ k => XS.aload X17.here hx rfl (hb hby at_105) rfl rfl k) ?_
        show own_Fin _ _ _ _ _ _ _ (T17.setTop (mkF m 107 #[.val (.int p0), .val (.int p1), .val (.int p2), .val (.int p3), .val (.int p4), .val (.ref b1), .val (.int ((p4 &&& (2147483647 : Int32)) % (5 : Int32))), .val (.int z10), .val (.int z11), .unset, .unset, .unset] [(.ref b1)]))
        refine own_go (fun _ k => XS.iconst X17.here hx rfl (hb hby at_107) k) ?_
        show own_Fin _ _ _ _ _ _ _ (T17.setTop (mkF m 108 #[.val (.int p0), .val (.int p1), .val (.int p2), .val (.int p3), .val (.int p4), .val (.ref b1), .val (.int ((p4 &&& (2147483647 : Int32)) % (5 : Int32))), .val (.int z10), .val (.int z11), .unset, .unset, .unset] [(.int (3 : Int32)), (.ref b1)]))
        refine own_go (fun tg k => own_baload X17 hx hZ e17 A_b1_9 (j := (3 : Int32)) ⟨by decide, by decide⟩ (x := (f9 3)) rfl (g := (mkF m 108 #[.val (.int p0), .val (.int p1), .val (.int p2), .val (.int p3), .val (.int p4), .val (.ref b1), .val (.int ((p4 &&& (2147483647 : Int32)) % (5 : Int32))), .val (.int z10), .val (.int z11), .unset, .unset, .unset] [(.int (3 : Int32)), (.ref b1)])) rfl rfl (hb hby at_108) tg k) ?_
        show own_Fin _ _ _ _ _ _ _ (T17.setTop (mkF m 109 #[.val (.int p0), .val (.int p1), .val (.int p2), .val (.int p3), .val (.int p4), .val (.ref b1), .val (.int ((p4 &&& (2147483647 : Int32)) % (5 : Int32))), .val (.int z10), .val (.int z11), .unset, .unset, .unset] [(.int (f9 3))]))
        refine own_go (fun _ k => XS.iconst X17.here hx rfl (hb hby at_109) k) ?_
        show own_Fin _ _ _ _ _ _ _ (T17.setTop (mkF m 110 #[.val (.int p0), .val (.int p1), .val (.int p2), .val (.int p3), .val (.int p4), .val (.ref b1), .val (.int ((p4 &&& (2147483647 : Int32)) % (5 : Int32))), .val (.int z10), .val (.int z11), .unset, .unset, .unset] [(.int (3 : Int32)), (.int (f9 3))]))
        refine own_go (fun _ k => XS.iload X17.here hx rfl (hb hby at_110) rfl k) ?_
        show own_Fin _ _ _ _ _ _ _ (T17.setTop (mkF m 112 #[.val (.int p0), .val (.int p1), .val (.int p2), .val (.int p3), .val (.int p4), .val (.ref b1), .val (.int ((p4 &&& (2147483647 : Int32)) % (5 : Int32))), .val (.int z10), .val (.int z11), .unset, .unset, .unset] [(.int ((p4 &&& (2147483647 : Int32)) % (5 : Int32))), (.int (3 : Int32)), (.int (f9 3))]))
        refine own_go (fun _ k => XS.iload X17.here hx rfl (hb hby at_112) rfl k) ?_
        show own_Fin _ _ _ _ _ _ _ (T17.setTop (mkF m 114 #[.val (.int p0), .val (.int p1), .val (.int p2), .val (.int p3), .val (.int p4), .val (.ref b1), .val (.int ((p4 &&& (2147483647 : Int32)) % (5 : Int32))), .val (.int z10), .val (.int z11), .unset, .unset, .unset] [(.int z11), (.int ((p4 &&& (2147483647 : Int32)) % (5 : Int32))), (.int (3 : Int32)), (.int (f9 3))]))
        obtain ⟨_, _, ⟨T19, L19, k19, n19⟩, -, X19, ⟨Lc19, hQ19, l19, y19, z19⟩, st19⟩ := Jvm.LawKit.callS X17 hx (y := (⟨"com/example/plain_tariff/plaintariff/OffsetInstantDigitsPinLaw", "digitOk", "(BIII)Z"⟩ : MethodName)) hown (mvT hZ (hw _ (List.mem_of_getElem? (i := 6) rfl))) (mvT hZ (hw _ (List.mem_of_getElem? (i := 7) rfl))) (mvT hZ (hw _ (List.mem_of_getElem? (i := 3) rfl))) (mvT hZ (hw _ (List.mem_of_getElem? (i := 8) rfl))) (by decide) (backOf (W := 0) (rm2 l Z a0 hw [] (f9 3) (3 : Int32) ((p4 &&& (2147483647 : Int32)) % (5 : Int32)) z11 h9 n0 Z9) hZ (hw _ (List.mem_of_getElem? (i := 8) rfl)) (hw _ (List.mem_of_getElem? (i := 3) rfl)) (by decide) (by decide)) (g := (mkF m 114 #[.val (.int p0), .val (.int p1), .val (.int p2), .val (.int p3), .val (.int p4), .val (.ref b1), .val (.int ((p4 &&& (2147483647 : Int32)) % (5 : Int32))), .val (.int z10), .val (.int z11), .unset, .unset, .unset] [(.int z11), (.int ((p4 &&& (2147483647 : Int32)) % (5 : Int32))), (.int (3 : Int32)), (.int (f9 3))])) rfl (by rw [hml]; rfl) (argsL := [(.int (f9 3)), (.int (3 : Int32)), (.int ((p4 &&& (2147483647 : Int32)) % (5 : Int32))), (.int z11)]) (rest := []) (lenOf own_pd119 rfl) rfl (by show 2 * 0 + _ ≤ _; exact Nat.le_of_eq rfl) (hb hby at_114) (fun _ _ => ⟨rfl, e17, (by decide : 1 + 0 ≤ _), (by decide : 4 + 0 ≤ _)⟩)
        dsimp only [Pt.U, Pt.locs, Pt.cells, Pt.slots] at X19 l19 y19 z19 st19 hQ19
        replace y19 : 1 = k19 := y19.symm
        replace z19 : 4 = n19 := z19.symm
        subst y19 z19
        obtain ⟨rfl, N19q, e19⟩ := hQ19
        have N19 : Fr n0 L19 := by rw [l19]; exact Fr.app N17 N19q
        refine own_go (fun tg k => st19 tg k) ?_
        show own_Fin _ _ _ _ _ _ _ (T19.setTop (mkF m 117 #[.val (.int p0), .val (.int p1), .val (.int p2), .val (.int p3), .val (.int p4), .val (.ref b1), .val (.int ((p4 &&& (2147483647 : Int32)) % (5 : Int32))), .val (.int z10), .val (.int z11), .unset, .unset, .unset] [(.int (own_f2 (f9 3) (3 : Int32) ((p4 &&& (2147483647 : Int32)) % (5 : Int32)) z11))]))
        by_cases hc20 : (own_f2 (f9 3) (3 : Int32) ((p4 &&& (2147483647 : Int32)) % (5 : Int32)) z11) = (0 : Int32)
        · refine own_go (fun _ k => XS.ifYes X19.here hx rfl (pc0 := 117) (pc' := 124) rfl (hb hby at_117) rfl ((if0 _ _).trans (teq hc20).1) (by decide) (by decide) k) ?_
          show own_Fin _ _ _ _ _ _ _ (T19.setTop (mkF m 124 #[.val (.int p0), .val (.int p1), .val (.int p2), .val (.int p3), .val (.int p4), .val (.ref b1), .val (.int ((p4 &&& (2147483647 : Int32)) % (5 : Int32))), .val (.int z10), .val (.int z11), .unset, .unset, .unset] []))
          refine own_go (fun _ k => XS.iconst X19.here hx rfl (hb hby at_124) k) ?_
          show own_Fin _ _ _ _ _ _ _ (T19.setTop (mkF m 125 #[.val (.int p0), .val (.int p1), .val (.int p2), .val (.int p3), .val (.int p4), .val (.ref b1), .val (.int ((p4 &&& (2147483647 : Int32)) % (5 : Int32))), .val (.int z10), .val (.int z11), .unset, .unset, .unset] [(.int (0 : Int32))]))
          have kj := hk14 T19 _ (own_mono X19 (by decide) (by decide)) N19 e19
          simpa only [if_neg hc13, if_neg hc16, if_neg hc18, if_pos hc20] using kj
        · refine own_go (fun _ k => XS.ifNo X19.here hx rfl (hb hby at_117) rfl ((if0 _ _).trans (feq hc20).1) k) ?_
          show own_Fin _ _ _ _ _ _ _ (T19.setTop (mkF m 120 #[.val (.int p0), .val (.int p1), .val (.int p2), .val (.int p3), .val (.int p4), .val (.ref b1), .val (.int ((p4 &&& (2147483647 : Int32)) % (5 : Int32))), .val (.int z10), .val (.int z11), .unset, .unset, .unset] []))
          refine own_go (fun _ k => XS.iconst X19.here hx rfl (hb hby at_120) k) ?_
          show own_Fin _ _ _ _ _ _ _ (T19.setTop (mkF m 121 #[.val (.int p0), .val (.int p1), .val (.int p2), .val (.int p3), .val (.int p4), .val (.ref b1), .val (.int ((p4 &&& (2147483647 : Int32)) % (5 : Int32))), .val (.int z10), .val (.int z11), .unset, .unset, .unset] [(.int (1 : Int32))]))
          refine own_go (fun _ k => XS.goto X19.here hx rfl (pc0 := 121) (pc' := 125) rfl (hb hby at_121) (by decide) (by decide) k) ?_
          show own_Fin _ _ _ _ _ _ _ (T19.setTop (mkF m 125 #[.val (.int p0), .val (.int p1), .val (.int p2), .val (.int p3), .val (.int p4), .val (.ref b1), .val (.int ((p4 &&& (2147483647 : Int32)) % (5 : Int32))), .val (.int z10), .val (.int z11), .unset, .unset, .unset] [(.int (1 : Int32))]))
          have kj := hk14 T19 _ (own_mono X19 (by decide) (by decide)) N19 e19
          simpa only [if_neg hc13, if_neg hc16, if_neg hc18, if_neg hc20] using kj
theorem own_plain (p0 p1 p2 p3 p4 : Int32) : own_f0 p0 p1 p2 p3 p4 = 1 := by
  have h := own_rest p4
  simp only [own_f0]
  generalize own_set _ (3 : Int32) _ = f
  generalize ((own_iushr p4 (3 : Int32)) % ((5 : Int32) - ((p4 &&& (2147483647 : Int32)) % (5 : Int32)))) = c at *
  generalize (p4 &&& (2147483647 : Int32)) % (5 : Int32) = a at *
  generalize a + c = e at *
  rw [own_dl f a e (by omega) (by omega)]
  simp only [own_okv]
  cases own_ok (f 0) 0 a e <;> cases own_ok (f 1) 1 a e <;> cases own_ok (f 2) 2 a e <;> cases own_ok (f 3) 3 a e <;> simp

set_option maxRecDepth 65536 in
set_option maxHeartbeats 40000000 in
theorem comes_1 {Post : Tables → Env → Array Value → State → Outcome → State → Prop} (hpost : ∀ tb e args s v u, (limb_1_1.after args s (.returned v) u = true ∧ limb_1_2.after args s (.returned v) u = true ∧ True) → FrameEnd s (.returned v) u (Jvm.fieldLocs frame_1_writes args s ++ Jvm.arrayLocs frame_1_arrays args s ++ Jvm.staticLocs frame_1_statics s) 16 128 → Post tb e args s (.returned v) u) :
    ArmFor flags0 classFile x code maxLocals ret World_1 tables_1 room_1 Calls_1 rest_1 Pre_1 Post := by
  intro l hfl _ _ p e ha hc hk s m args below hf hA hF happ hP
  obtain ⟨hcalls, hrest, hpre⟩ := hP
  obtain ⟨-, -, -, hnamed, -, -, -, hat⟩ := (Spec.applies_iff hf).mp happ
  obtain ⟨hg, hn⟩ := and_e (Cond.before_iff.mp (show (Jvm.Cond.and given_1 narrow_1).before args s = true from hpre))
  obtain ⟨g1, g2⟩ := and_e hg
  obtain ⟨g3, g4⟩ := and_e g2
  obtain ⟨g5, g6⟩ := and_e g4
  obtain ⟨g7, g8⟩ := and_e g6
  obtain ⟨g9, g10⟩ := and_e g8
  obtain ⟨w0, w1, w2, w3, w4, rfl⟩ : ∃ w0 w1 w2 w3 w4 : Value, args = #[w0, w1, w2, w3, w4] := by
    have hs : args.size = 5 := by simpa [Cond.value, given_1] using g1
    obtain ⟨L⟩ := args
    match L, hs with
    | [w0, w1, w2, w3, w4], _ => exact ⟨w0, w1, w2, w3, w4, rfl⟩
  have hw := fun d (hd : d ∈ tables_1) => atoms_spec (ws := Jvm.Cond.code x code maxLocals ret :: tables_1) hat d (List.mem_cons_of_mem _ hd)
  have hfit : Fit s := fun {y c} hc i hi => by
    obtain ⟨ha, rfl⟩ := Array.getElem?_eq_some_iff.mp hc
    have q := List.all_eq_true.mp ((Array.all_eq_true_iff_forall_mem.mp hF) _ (Array.getElem_mem ha)) i (List.mem_range.mpr hi)
    simpa [Array.getElem?_eq_getElem hi] using q
  obtain ⟨i0, ei0⟩ := is_v g3
  obtain rfl : w0 = (.int i0) := Option.some.inj ei0
  obtain ⟨i1, ei1⟩ := is_v g5
  obtain rfl : w1 = (.int i1) := Option.some.inj ei1
  obtain ⟨i2, ei2⟩ := is_v g7
  obtain rfl : w2 = (.int i2) := Option.some.inj ei2
  obtain ⟨i3, ei3⟩ := is_v g9
  obtain rfl : w3 = (.int i3) := Option.some.inj ei3
  obtain ⟨i4, ei4⟩ := is_v g10
  obtain rfl : w4 = (.int i4) := Option.some.inj ei4
  obtain ⟨n, o, h1, h2, h3, _, L, rfl, ⟨rfl, N, hrest'⟩, hq⟩ := rm0 l s _ hw tables_1 i0 i1 i2 i3 i4 s.heap s.heap.size (Nat.le_refl _) p e ha hc hk s m _ below hf ((Spec.applies_iff_loose hf).mp happ).1 ⟨rfl, State.Warmed39.refl s, rfl⟩ trivial
  refine ⟨n, _, h1, h2, h3, hpost _ _ _ _ _ _ ⟨Cond.after_iff.mpr rfl, Cond.after_iff.mpr (eq_i res_at (Term.int_eval (1)) (congrArg Value.int (own_plain i0 i1 i2 i3 i4))), trivial⟩ ⟨hq.1, hq.2.1, (hq.2.2.sift fun y hy => Or.inr (N y hy)).mono (by decide) (by decide)⟩⟩
theorem main_1_1 : Claimed_1_1 := comes_1 fun _ _ _ _ _ _ h hF => ⟨h.1, hF⟩
theorem main_1_2 : Claimed_1_2 := comes_1 fun _ _ _ _ _ _ h hF => ⟨h.2.1, hF⟩
end Jvm.Pilot.@@N@@
namespace Jvm.Pilot.@@N@@
open Jvm Jvm.ClassFile Sem Op Lib Jvm.Free Jvm.Stand Jvm.Pilot.@@N@@.Jvm.D
/-! MADE BY PROGRAM (witnessworld.py) out of the Statement's table words and the real class files: 10 classes; the members and pool entries that the words name. The judged class is class 1, her method 6. -/
namespace start1
open Jvm.ClassFile
def u (s : String) : CpInfo := .utf8 (stringToUtf16 s)
/-- a pool by its gaps: so many unusable entries, then the entry; so many at the end -/
def gap : Nat → List CpInfo → List CpInfo
  | 0, r => r
  | n + 1, r => .unusable :: gap n r
def poolList (es : List (Nat × CpInfo)) (last : Nat) : List CpInfo := es.foldr (fun e r => gap e.1 (e.2 :: r)) (gap last [])
def pool (es : List (Nat × CpInfo)) (last : Nat) : Array CpInfo := ⟨poolList es last⟩
def fileOf (pool : Array CpInfo) (this : Nat) (attrs : Array Attribute := #[]) (ms : Array MethodInfo := #[]) (fl : Nat := 33) (sup : Nat := 0) (ifs : Array Nat := #[]) (fds : Array FieldInfo := #[]) : ClassFile where
  minorVersion := 0
  majorVersion := 65
  constantPool := pool
  accessFlags := fl
  thisClass := this
  superClass := sup
  interfaces := ifs
  fields := fds
  methods := ms
  attributes := attrs
def plain (name : String) (sup : Option ClassId) : Class where
  name := name
  kind := .ordinary
  loader := none
  accessFlags := 33
  super := sup
  interfaces := #[]
  cf := none
  fields := #[]
  methods := #[]
  instanceTypes := #[]
  staticTypes := #[]
  resolved := #[]
  callSites := []
  init := .initialized
  statics := none
  mirror := none

def pool0 : Array CpInfo := pool [(5, u "<init>"), (0, u "()V"), (1, .class_ 10), (1, u "java/lang/Object")] 113

def k0m0 : Method := { name := "<init>", desc := "()V", sig := { parameters := [], returnType := none }, accessFlags := 1, code := none }
/-- java/lang/Object -/
def k0 : Class := { plain "java/lang/Object" none with
  accessFlags := 33
  interfaces := #[]
  cf := some (fileOf pool0 8 #[] #[{ accessFlags := 1, nameIndex := 5, descriptorIndex := 6, attributes := #[] }] 33 0 #[] #[])
  fields := #[]
  methods := #[k0m0]
  instanceTypes := #[]
  staticTypes := #[]
  resolved := Array.replicate 124 none
  statics := none }

def pool1 : Array CpInfo := pool [(2, .class_ 4), (1, u "java/lang/Object"), (0, u "<init>"), (0, u "()V"), (0, .methodref 8 9), (0, .class_ 10), (0, .nameAndType 11 12), (0, u "com/example/plain_tariff/plaintariff/OffsetInstantDigitsPinLaw"), (0, u "val"), (0, u "(B)I"), (0, .methodref 8 14), (0, .nameAndType 15 16), (0, u "pow10"), (0, u "(I)I"), (0, .methodref 8 18), (0, .nameAndType 19 20), (0, u "b"), (0, u "(I)B"), (0, .integer 2147483647), (0, .methodref 8 23), (0, .nameAndType 24 25), (0, u "digitOk"), (0, u "(BIII)Z"), (0, .methodref 8 27), (0, .nameAndType 28 29), (0, u "term"), (0, u "(BIII)I"), (0, .methodref 31 32), (0, .class_ 33), (0, .nameAndType 34 35), (0, u "com/example/plain_tariff/plaintariff/OffsetInstant"), (0, u "digits"), (0, u "([BII)I"), (3, u "law"), (0, u "(IIIII)Z")] 4

def k1m0 : Method := { name := "<init>", desc := "()V", sig := { parameters := [], returnType := none }, accessFlags := 2, code := none }
def k1c1 : Code := { maxStack := 3, maxLocals := 1, code := method_2_code, exceptionTable := #[], attributes := #[] }
def k1m1 : Method := { name := "b", desc := "(I)B", sig := { parameters := [.int], returnType := some .byte }, accessFlags := 10, code := some k1c1 }
def k1c2 : Code := { maxStack := 2, maxLocals := 1, code := method_3_code, exceptionTable := #[], attributes := #[] }
def k1m2 : Method := { name := "val", desc := "(B)I", sig := { parameters := [.byte], returnType := some .int }, accessFlags := 10, code := some k1c2 }
def k1c3 : Code := { maxStack := 2, maxLocals := 1, code := method_4_code, exceptionTable := #[], attributes := #[] }
def k1m3 : Method := { name := "pow10", desc := "(I)I", sig := { parameters := [.int], returnType := some .int }, accessFlags := 10, code := some k1c3 }
def k1c4 : Code := { maxStack := 2, maxLocals := 4, code := method_5_code, exceptionTable := #[], attributes := #[] }
def k1m4 : Method := { name := "digitOk", desc := "(BIII)Z", sig := { parameters := [.byte, .int, .int, .int], returnType := some .boolean }, accessFlags := 10, code := some k1c4 }
def k1c5 : Code := { maxStack := 3, maxLocals := 4, code := method_6_code, exceptionTable := #[], attributes := #[] }
def k1m5 : Method := { name := "term", desc := "(BIII)I", sig := { parameters := [.byte, .int, .int, .int], returnType := some .int }, accessFlags := 10, code := some k1c5 }
def k1c6 : Code := { maxStack := 5, maxLocals := 12, code := code, exceptionTable := #[], attributes := #[] }
def k1m6 : Method := { name := "law", desc := "(IIIII)Z", sig := { parameters := [.int, .int, .int, .int, .int], returnType := some .boolean }, accessFlags := 9, code := some k1c6 }
/-- com/example/plain_tariff/plaintariff/OffsetInstantDigitsPinLaw -/
def k1 : Class := { plain "com/example/plain_tariff/plaintariff/OffsetInstantDigitsPinLaw" (some 0) with
  accessFlags := 49
  interfaces := #[]
  cf := some (fileOf pool1 8 #[] #[{ accessFlags := 2, nameIndex := 5, descriptorIndex := 6, attributes := #[] }, { accessFlags := 10, nameIndex := 19, descriptorIndex := 20, attributes := #[] }, { accessFlags := 10, nameIndex := 11, descriptorIndex := 12, attributes := #[] }, { accessFlags := 10, nameIndex := 15, descriptorIndex := 16, attributes := #[] }, { accessFlags := 10, nameIndex := 24, descriptorIndex := 25, attributes := #[] }, { accessFlags := 10, nameIndex := 28, descriptorIndex := 29, attributes := #[] }, { accessFlags := 9, nameIndex := 39, descriptorIndex := 40, attributes := #[] }] 49 2 #[] #[])
  fields := #[]
  methods := #[k1m0, k1m1, k1m2, k1m3, k1m4, k1m5, k1m6]
  instanceTypes := #[]
  staticTypes := #[]
  resolved := Array.replicate 45 none
  statics := none }

def pool2 : Array CpInfo := pool [(2, .class_ 4), (1, u "java/lang/Object"), (0, u "<init>"), (0, u "()V"), (0, .class_ 8), (0, u "java/lang/Record")] 13

def k2m0 : Method := { name := "<init>", desc := "()V", sig := { parameters := [], returnType := none }, accessFlags := 4, code := none }
/-- java/lang/Record -/
def k2 : Class := { plain "java/lang/Record" (some 0) with
  accessFlags := 1057
  interfaces := #[]
  cf := some (fileOf pool2 7 #[] #[{ accessFlags := 4, nameIndex := 5, descriptorIndex := 6, attributes := #[] }] 1057 2 #[] #[])
  fields := #[]
  methods := #[k2m0]
  instanceTypes := #[]
  staticTypes := #[]
  resolved := Array.replicate 22 none
  statics := none }

def pool3 : Array CpInfo := pool [(4, .class_ 6), (1, u "java/lang/Record"), (3, .class_ 12), (1, u "com/example/plain_tariff/plaintariff/OffsetInstant"), (0, u "epochSecond"), (0, u "J"), (2, u "offsetSeconds"), (0, u "I"), (104, u "([BII)I"), (8, u "digits"), (46, u "SECONDS_PER_DAY"), (2, u "SECONDS_PER_HOUR"), (1, u "SECONDS_PER_MINUTE"), (1, u "MAX_OFFSET_MINUTES"), (1, u "NO_OFFSET"), (0, u "DATE_LENGTH"), (1, u "OFFSET_AT"), (1, u "SECONDS_LENGTH"), (1, u "DAY"), (2, u "HOUR_AND_MINUTE"), (13, .class_ 213), (0, u "com/example/plain_tariff/plaintariff/OffsetInstant$Reader")] 20

def k3c0 : Code := { maxStack := 3, maxLocals := 6, code := prog_38_method_12_code, exceptionTable := #[], attributes := #[] }
def k3m0 : Method := { name := "digits", desc := "([BII)I", sig := { parameters := [(.array .byte), .int, .int], returnType := some .int }, accessFlags := 8, code := some k3c0 }
/-- com/example/plain_tariff/plaintariff/OffsetInstant -/
def k3 : Class := { plain "com/example/plain_tariff/plaintariff/OffsetInstant" (some 2) with
  accessFlags := 49
  interfaces := #[]
  cf := some (fileOf pool3 10 #[.nestMembers #[212]] #[{ accessFlags := 8, nameIndex := 132, descriptorIndex := 123, attributes := #[] }] 49 4 #[] #[{ accessFlags := 18, nameIndex := 13, descriptorIndex := 14, attributes := #[] }, { accessFlags := 18, nameIndex := 17, descriptorIndex := 18, attributes := #[] }, { accessFlags := 26, nameIndex := 179, descriptorIndex := 18, attributes := #[] }, { accessFlags := 26, nameIndex := 182, descriptorIndex := 18, attributes := #[] }, { accessFlags := 26, nameIndex := 184, descriptorIndex := 18, attributes := #[] }, { accessFlags := 26, nameIndex := 186, descriptorIndex := 18, attributes := #[] }, { accessFlags := 26, nameIndex := 188, descriptorIndex := 18, attributes := #[] }, { accessFlags := 26, nameIndex := 189, descriptorIndex := 18, attributes := #[] }, { accessFlags := 26, nameIndex := 191, descriptorIndex := 18, attributes := #[] }, { accessFlags := 26, nameIndex := 193, descriptorIndex := 18, attributes := #[] }, { accessFlags := 26, nameIndex := 195, descriptorIndex := 14, attributes := #[] }, { accessFlags := 26, nameIndex := 198, descriptorIndex := 14, attributes := #[] }])
  fields := #[{ name := "epochSecond", type := .long, accessFlags := 18, slot := 0, constantValue := 0 }, { name := "offsetSeconds", type := .int, accessFlags := 18, slot := 1, constantValue := 0 }, { name := "SECONDS_PER_DAY", type := .int, accessFlags := 26, slot := 0, constantValue := 0 }, { name := "SECONDS_PER_HOUR", type := .int, accessFlags := 26, slot := 1, constantValue := 0 }, { name := "SECONDS_PER_MINUTE", type := .int, accessFlags := 26, slot := 2, constantValue := 0 }, { name := "MAX_OFFSET_MINUTES", type := .int, accessFlags := 26, slot := 3, constantValue := 0 }, { name := "NO_OFFSET", type := .int, accessFlags := 26, slot := 4, constantValue := 0 }, { name := "DATE_LENGTH", type := .int, accessFlags := 26, slot := 5, constantValue := 0 }, { name := "OFFSET_AT", type := .int, accessFlags := 26, slot := 6, constantValue := 0 }, { name := "SECONDS_LENGTH", type := .int, accessFlags := 26, slot := 7, constantValue := 0 }, { name := "DAY", type := .long, accessFlags := 26, slot := 8, constantValue := 0 }, { name := "HOUR_AND_MINUTE", type := .long, accessFlags := 26, slot := 9, constantValue := 0 }]
  methods := #[k3m0]
  instanceTypes := #[.long, .int]
  staticTypes := #[.int, .int, .int, .int, .int, .int, .int, .int, .long, .long]
  resolved := Array.replicate 234 none
  statics := none }

def pool4 : Array CpInfo := pool [(1, u "java/lang/Cloneable"), (0, .class_ 1), (0, u "java/lang/Object"), (0, .class_ 3)] 3

/-- java/lang/Cloneable -/
def k4 : Class := { plain "java/lang/Cloneable" (some 0) with
  accessFlags := 1537
  interfaces := #[]
  cf := some (fileOf pool4 2 #[] #[] 1537 4 #[] #[])
  fields := #[]
  methods := #[]
  instanceTypes := #[]
  staticTypes := #[]
  resolved := Array.replicate 8 none
  statics := none }

def pool5 : Array CpInfo := pool [(1, u "java/io/Serializable"), (0, .class_ 1), (0, u "java/lang/Object"), (0, .class_ 3)] 3

/-- java/io/Serializable -/
def k5 : Class := { plain "java/io/Serializable" (some 0) with
  accessFlags := 1537
  interfaces := #[]
  cf := some (fileOf pool5 2 #[] #[] 1537 4 #[] #[])
  fields := #[]
  methods := #[]
  instanceTypes := #[]
  staticTypes := #[]
  resolved := Array.replicate 8 none
  statics := none }

/-- the primitive byte -/
def k6 : Class := { plain "byte" none with kind := .primitive 'B', accessFlags := 0x411 }
/-- [B -/
def k7 : Class := { plain "[B" (some 0) with kind := .array 6 .byte, interfaces := #[4, 5], accessFlags := 1041 }

/-- the primitive int -/
def k8 : Class := { plain "int" none with kind := .primitive 'I', accessFlags := 0x411 }
/-- [I -/
def k9 : Class := { plain "[I" (some 0) with kind := .array 8 .int, interfaces := #[4, 5], accessFlags := 1041 }

def heap : Heap := #[]
def classes : Array Class := #[k0, k1, k2, k3, k4, k5, k6, k7, k8, k9]
def interned : List (Array UInt16 × Addr) := []
def slotsUsed : Nat := 0
def theMethod : MethodId := ⟨1, 6⟩
def args0 : Array Value := #[.int 2, .int 6, .int 7, .int 8, .int 2]
def aboutOver (below : List Frame) : State where
  vm := { classes := classes, interned := interned.toArray }
  heap := heap
  slotsUsed := slotsUsed
  threads := #[{ frames := .invoking theMethod args0 :: below }]
def below0 : List Frame := [.native { method := ⟨0, 0⟩, args := #[] }]
def about1 : State := aboutOver below0
def p0 : Program := .bare "" "" ""
def e0 : Env := launch0.env 0 0 0
theorem w_frames : about1.frames = Frame.invoking theMethod args0 :: below0 := rfl
set_option maxRecDepth 65536 in
theorem w_args : argsFit about1.vm theMethod args0 = true := by decide +kernel
set_option maxRecDepth 65536 in
theorem w_heap : heapFits about1 = true := by decide +kernel
set_option maxRecDepth 65536 in
theorem w_runnable : about1.curStatus? = some .runnable := by decide +kernel
set_option maxRecDepth 65536 in
theorem w_alone : about1.alone = true := by decide +kernel
set_option maxRecDepth 65536 in
theorem w_named : about1.methodNamed? x = some theMethod := by decide +kernel
set_option maxRecDepth 65536 in
theorem w_hears : about1.hears theMethod below0 = true := by decide +kernel
set_option maxRecDepth 65536 in
theorem w_ripe : about1.ripe theMethod args0 below0 = true := by decide +kernel
theorem w_running : about1.status = .running := rfl
set_option maxRecDepth 65536 in
theorem w_room : about1.hasRoom e0.platform room_1 = true :=
  launch0.hasRoom_least _ room_1 (by decide +kernel) (by decide +kernel) (by decide +kernel) (by decide +kernel) (by decide +kernel) (by decide +kernel)
theorem allAtoms_all (ts : List Jvm.Cond) (a : Array Jvm.Value) (st : Jvm.State) : (allAtoms ts).before a st = ts.all (fun c => c.before a st) := by
  induction ts with
  | nil => rfl
  | cons c t ih =>
    show (Jvm.Cond.and c (allAtoms t)).before a st = _
    rw [Jvm.Cond.before_and, ih, List.all_cons]
def words1 : List Jvm.Cond := Jvm.Cond.code x code maxLocals ret :: tables_1
/-- a 'code' word, met by the world's own term for the bytes: nothing is compared byte by byte -/
theorem code_word {y : MethodName} {bytes : ByteArray} {mx : Nat} {rt : Option FieldType} {a : Array Value} {s : State} {m : MethodId} {meth : Method} {c : Code} (h1 : s.methodNamed? y = some m) (h2 : s.vm.method? m = some meth) (h3 : meth.code = some c) (h4 : c.code = bytes)
    (h5 : (c.maxLocals == mx && c.exceptionTable.isEmpty && decide (c.maxStack ≤ mostOperands) && decide (meth.sig.returnType = rt) && !meth.locks && decide (parseMethodDescriptor y.desc = some meth.sig)) = true) : (Jvm.Cond.code y bytes mx rt).before a s = true := by
  simp only [Bool.and_eq_true, beq_iff_eq, Bool.not_eq_true', decide_eq_true_eq] at h5
  obtain ⟨⟨⟨⟨⟨g1, g2⟩, g3⟩, g4⟩, g5⟩, g6⟩ := h5
  simp [Cond.before, Cond.holds, Cond.value, h1, h2, h3, h4, g1, g2, g3, g4, g5, g6]
def isCode : Jvm.Cond → Bool
  | .code _ _ _ _ => true
  | _ => false
theorem all_split {L : List Jvm.Cond} {P : Jvm.Cond → Bool} (h1 : L.all (fun c => isCode c || P c) = true) (h2 : ∀ c ∈ L.filter isCode, P c = true) : L.all P = true := by
  refine List.all_eq_true.mpr fun c hc => ?_
  have h := List.all_eq_true.mp h1 c hc
  rcases Bool.eq_false_or_eq_true (isCode c) with hi | hi
  · exact h2 c (List.mem_filter.mpr ⟨hc, hi⟩)
  · simpa [hi] using h
set_option maxRecDepth 65536 in
theorem w_c0 : (Jvm.Cond.code x code maxLocals ret).before args0 about1 = true := code_word (m := ⟨1, 6⟩) (meth := k1m6) (c := k1c6) (by decide +kernel) rfl rfl rfl (by decide +kernel)
set_option maxRecDepth 65536 in
theorem w_c1 : (Jvm.Cond.code ({ cls := "com/example/plain_tariff/plaintariff/OffsetInstantDigitsPinLaw", name := "b", desc := "(I)B" } : Jvm.MethodName) method_2_code (1 : Nat) (Option.some Jvm.ClassFile.FieldType.byte)).before args0 about1 = true := code_word (m := ⟨1, 1⟩) (meth := k1m1) (c := k1c1) (by decide +kernel) rfl rfl rfl (by decide +kernel)
set_option maxRecDepth 65536 in
theorem w_c2 : (Jvm.Cond.code ({ cls := "com/example/plain_tariff/plaintariff/OffsetInstantDigitsPinLaw", name := "digitOk", desc := "(BIII)Z" } : Jvm.MethodName) method_5_code (4 : Nat) (Option.some Jvm.ClassFile.FieldType.boolean)).before args0 about1 = true := code_word (m := ⟨1, 4⟩) (meth := k1m4) (c := k1c4) (by decide +kernel) rfl rfl rfl (by decide +kernel)
set_option maxRecDepth 65536 in
theorem w_c3 : (Jvm.Cond.code ({ cls := "com/example/plain_tariff/plaintariff/OffsetInstantDigitsPinLaw", name := "term", desc := "(BIII)I" } : Jvm.MethodName) method_6_code (4 : Nat) (Option.some Jvm.ClassFile.FieldType.int)).before args0 about1 = true := code_word (m := ⟨1, 5⟩) (meth := k1m5) (c := k1c5) (by decide +kernel) rfl rfl rfl (by decide +kernel)
set_option maxRecDepth 65536 in
theorem w_c4 : (Jvm.Cond.code ({ cls := "com/example/plain_tariff/plaintariff/OffsetInstant", name := "digits", desc := "([BII)I" } : Jvm.MethodName) prog_38_method_12_code (6 : Nat) (Option.some Jvm.ClassFile.FieldType.int)).before args0 about1 = true := code_word (m := ⟨3, 0⟩) (meth := k3m0) (c := k3c0) (by decide +kernel) rfl rfl rfl (by decide +kernel)
set_option maxRecDepth 65536 in
theorem w_c5 : (Jvm.Cond.code ({ cls := "com/example/plain_tariff/plaintariff/OffsetInstantDigitsPinLaw", name := "val", desc := "(B)I" } : Jvm.MethodName) method_3_code (1 : Nat) (Option.some Jvm.ClassFile.FieldType.int)).before args0 about1 = true := code_word (m := ⟨1, 2⟩) (meth := k1m2) (c := k1c2) (by decide +kernel) rfl rfl rfl (by decide +kernel)
set_option maxRecDepth 65536 in
theorem w_c6 : (Jvm.Cond.code ({ cls := "com/example/plain_tariff/plaintariff/OffsetInstantDigitsPinLaw", name := "pow10", desc := "(I)I" } : Jvm.MethodName) method_4_code (1 : Nat) (Option.some Jvm.ClassFile.FieldType.int)).before args0 about1 = true := code_word (m := ⟨1, 3⟩) (meth := k1m3) (c := k1c3) (by decide +kernel) rfl rfl rfl (by decide +kernel)
def codes1 : List Jvm.Cond := [Jvm.Cond.code x code maxLocals ret, Jvm.Cond.code ({ cls := "com/example/plain_tariff/plaintariff/OffsetInstantDigitsPinLaw", name := "b", desc := "(I)B" } : Jvm.MethodName) method_2_code (1 : Nat) (Option.some Jvm.ClassFile.FieldType.byte), Jvm.Cond.code ({ cls := "com/example/plain_tariff/plaintariff/OffsetInstantDigitsPinLaw", name := "digitOk", desc := "(BIII)Z" } : Jvm.MethodName) method_5_code (4 : Nat) (Option.some Jvm.ClassFile.FieldType.boolean), Jvm.Cond.code ({ cls := "com/example/plain_tariff/plaintariff/OffsetInstantDigitsPinLaw", name := "term", desc := "(BIII)I" } : Jvm.MethodName) method_6_code (4 : Nat) (Option.some Jvm.ClassFile.FieldType.int), Jvm.Cond.code ({ cls := "com/example/plain_tariff/plaintariff/OffsetInstant", name := "digits", desc := "([BII)I" } : Jvm.MethodName) prog_38_method_12_code (6 : Nat) (Option.some Jvm.ClassFile.FieldType.int), Jvm.Cond.code ({ cls := "com/example/plain_tariff/plaintariff/OffsetInstantDigitsPinLaw", name := "val", desc := "(B)I" } : Jvm.MethodName) method_3_code (1 : Nat) (Option.some Jvm.ClassFile.FieldType.int), Jvm.Cond.code ({ cls := "com/example/plain_tariff/plaintariff/OffsetInstantDigitsPinLaw", name := "pow10", desc := "(I)I" } : Jvm.MethodName) method_4_code (1 : Nat) (Option.some Jvm.ClassFile.FieldType.int)]
set_option maxRecDepth 65536 in
theorem codes_eq : words1.filter isCode = codes1 := rfl
theorem w_codes : ∀ c ∈ words1.filter isCode, c.before args0 about1 = true := by
  rw [codes_eq]
  intro c hc
  simp only [codes1, List.mem_cons, List.not_mem_nil, or_false] at hc
  rcases hc with rfl | rfl | rfl | rfl | rfl | rfl | rfl
  · exact w_c0
  · exact w_c1
  · exact w_c2
  · exact w_c3
  · exact w_c4
  · exact w_c5
  · exact w_c6
set_option maxRecDepth 65536 in
theorem w_t1 : words1.all (fun c => isCode c || c.before args0 about1) = true := by decide +kernel
theorem w_tables : (allAtoms (Jvm.Cond.code x code maxLocals ret :: tables_1)).before args0 about1 = true := by
  rw [allAtoms_all]
  show words1.all (fun c => c.before args0 about1) = true
  refine all_split ?_ w_codes
  rw [w_t1]
set_option maxRecDepth 65536 in
theorem w_case : (Jvm.Cond.and given_1 narrow_1).before args0 about1 = true := by decide +kernel
theorem w_applies : (headSpec (Jvm.Cond.code x code maxLocals ret :: tables_1) room_1).applies x e0.platform about1 = true :=
  (Spec.applies_iff w_frames).mpr ⟨w_running, w_runnable, w_alone, w_named, w_hears, w_ripe, w_room, w_tables⟩
theorem atStart : AtStart classFile x code maxLocals ret World_1 tables_1 room_1 Calls_1 rest_1 Pre_1 launch0 p0 e0 about1 theMethod args0 below0 :=
  ⟨lists_1, trivial, launch0.admits_env _ _ _, launch0.least_env, fairChoices_fair.cas, fairChoices_fair.clock, w_frames, w_args, w_heap, w_applies, trivial, trivial, w_case⟩
end start1
theorem witness_1 : WitnessClaimed_1 := ⟨start1.p0, start1.e0, start1.about1, start1.theMethod, start1.args0, start1.below0, start1.atStart⟩
end Jvm.Pilot.@@N@@
