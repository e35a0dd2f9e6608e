import JvmDerived
import JvmDerived.Pilot.@@N@@Statement
import JvmDerived.Pilot.@@N@@Code
set_option linter.unusedVariables false
set_option linter.unusedSimpArgs false
namespace Jvm.Pilot.@@N@@
open Jvm Jvm.ClassFile Sem Op Lib Jvm.Free Jvm.Stand Jvm.LawKit Jvm.RoadKit Bundle Jvm.Pilot.@@N@@.Jvm.D
/-! own layer: the run from a state ends in a return of which Q holds; one step leads from there to there -/
def own_ishl (x y : Int32) : Int32 := x <<< (y &&& 31)
def own_ishr (x y : Int32) : Int32 := x >>> (y &&& 31)
def own_iushr (x y : Int32) : Int32 := (x.toUInt32 >>> (y &&& 31).toUInt32).toInt32
def own_lshl (x : Int64) (y : Int32) : Int64 := x <<< (y &&& 0x3f).toInt64
def own_lshr (x : Int64) (y : Int32) : Int64 := x >>> (y &&& 0x3f).toInt64
def own_lushr (x : Int64) (y : Int32) : Int64 := (x.toUInt64 >>> (y &&& 0x3f).toInt64.toUInt64).toInt64
def own_i2b (x : Int32) : Int32 := x.toInt8.toInt32
def own_i2c (x : Int32) : Int32 := x.toUInt32.toUInt16.toUInt32.toInt32
def own_Fin (tb : Tables) (e : Env) (below : List Frame) (s : State) (Q : Option Value → Heap → List Loc → Prop) (k n : Nat) (t : State) : Prop :=
  ∃ s₂ o, Steps tb e below t s₂ ∧ s₂.status = .running ∧ Ended s₂ below o ∧ ∃ v L, o = .returned v ∧ Q v s₂.heap L ∧ FrameEnd s o s₂ L k n
theorem own_go {tb : Tables} {e : Env} {below : List Frame} {s : State} {Q : Option Value → Heap → List Loc → Prop} {k n : Nat} {t t' : State}
    (h : ∀ target, Steps tb e below t' target → Steps tb e below t target) (q : own_Fin tb e below s Q k n t') : own_Fin tb e below s Q k n t := by
  obtain ⟨s2, o, h1, h2⟩ := q
  exact ⟨s2, o, h _ h1, h2⟩
def own_QP (r : Option Value) (h0 : Heap) (n0 : Nat) (v : Option Value) (h : Heap) (L : List Loc) : Prop := v = r ∧ Fr n0 L ∧ h = h0
section OwnA
variable {p : Program} {l : Launch} {e : Env} {R : Room} {s : State} {m : MethodId} {args : Array Value} {below : List Frame} {meth : Method} {c : Code} {T : State} {locs : List Loc} {cells slots : Nat}
theorem own_mono (X : Stand p l e R s m args below meth c T locs cells slots) {k n : Nat} (hk : cells ≤ k) (hn : slots ≤ n) : Stand p l e R s m args below meth c T locs k n :=
  { X with same := X.same.mono hk hn }
theorem own_ret (X : Stand p l e R s m args below meth c T locs cells slots) (hx : p.tables.exec = Jvm.exec) (hlk : meth.locks = false) {pc : Nat} {Ls : Array Slot} {w : Value} {t : FieldType} {i : Instr} {rest : List Value} (hret : meth.sig.returnType = some t) (hn : narrow t w = w)
    (hi : (i = .ireturn ∧ (t = .int ∨ t = .boolean ∨ t = .byte ∨ t = .char ∨ t = .short) ∧ ∃ z, w = .int z) ∨ (i = .lreturn ∧ t = .long ∧ ∃ z, w = .long z) ∨ (i = .dreturn ∧ t = .double ∧ ∃ z, w = .double z) ∨ (i = .freturn ∧ t = .float ∧ ∃ z, w = .float z) ∨ (i = .areturn ∧ t.isReference = true ∧ w.isRef = true))
    (hd : decode c.code pc = .ok (i, 1)) {Q : Option Value → Heap → List Loc → Prop} {k n : Nat} (hk : cells ≤ k) (hs : slots ≤ n) (hQ : Q (some w) T.heap locs) :
    own_Fin p.tables e below s Q k n (T.setTop (mkF m pc Ls (w :: rest))) := by
  obtain ⟨fs, hr, hrun, hended, hW, hsame⟩ := X.leave (v := some w) (fun h => by rw [hret] at h; cases h) hlk
  exact ⟨_, _, retOut X hx hret hn hi hd hr, hrun, hended, _, _, rfl, hQ, ⟨_, rfl⟩, hW, hsame.mono hk hs⟩
theorem own_retV (X : Stand p l e R s m args below meth c T locs cells slots) (hx : p.tables.exec = Jvm.exec) (hlk : meth.locks = false) {pc : Nat} {Ls : Array Slot} (hret : meth.sig.returnType = none)
    (hd : decode c.code pc = .ok (.return_, 1)) {Q : Option Value → Heap → List Loc → Prop} {k n : Nat} (hk : cells ≤ k) (hs : slots ≤ n) (hQ : Q none T.heap locs) :
    own_Fin p.tables e below s Q k n (T.setTop (mkF m pc Ls [])) := by
  obtain ⟨fs, hr, hrun, hended, hW, hsame⟩ := X.leave (v := none) (fun _ => rfl) hlk
  exact ⟨_, _, X.returnOut hx hret hd hr, hrun, hended, _, _, rfl, hQ, ⟨_, rfl⟩, hW, hsame.mono hk hs⟩
end OwnA
theorem own_irem {tb : Tables} [Ours tb] {e : Env} {below : List Frame} {T target : State} {m : MethodId} {c : Code} {g : JFrame} (h : At T m c below) (hx : tb.exec = Jvm.exec) (hg : g.method = m) {x y : Int32} {rest : List Value} (hd : decode c.code g.pc = .ok (.irem, 1)) (hs : g.stack = .int y :: .int x :: rest) (hy : y ≠ 0)
    (hr : Steps tb e below (T.setTop { g with pc := g.pc + 1, stack := .int (x % y) :: rest }) target) : Steps tb e below (T.setTop g) target :=
  XS.irem h hx hg hd hs hy (by rw [irem_eq_mod x y]; exact hr)
theorem own_lrem {tb : Tables} [Ours tb] {e : Env} {below : List Frame} {T target : State} {m : MethodId} {c : Code} {g : JFrame} (h : At T m c below) (hx : tb.exec = Jvm.exec) (hg : g.method = m) {x y : Int64} {rest : List Value} (hd : decode c.code g.pc = .ok (.lrem, 1)) (hs : g.stack = .long y :: .long x :: rest) (hy : y ≠ 0)
    (hr : Steps tb e below (T.setTop { g with pc := g.pc + 1, stack := .long (x % y) :: rest }) target) : Steps tb e below (T.setTop g) target :=
  XS.lrem h hx hg hd hs hy (by rw [lrem_mod x y]; exact hr)
/-! arrays by a function of the place -/
def own_set {α : Type} (f : Nat → α) (j : Int32) (v : α) : Nat → α := fun i => if i = j.toNatClampNeg then v else f i
def own_Arf (Z : State) (h : Heap) (a : Addr) (ty : FieldType) (n : Int32) (f : Nat → Value) : Prop :=
  ∃ c : Cell, Arr Z h a c ty ∧ c.slots.size = n.toNatClampNeg ∧ ¬ n < 0 ∧ ∀ i, i < n.toNatClampNeg → c.slots[i]? = some (f i)
section OwnB
variable {Z : State} {h h' : Heap} {a b : Addr} {ty : FieldType} {n j : Int32} {f : Nat → Value} {ws : List Addr} {v : Value} {sl : Nat}
theorem own_Arf.lt (F : own_Arf Z h a ty n f) : a < h.size := by obtain ⟨c, A, -⟩ := F; exact A.lt
theorem own_Arf.ext (F : own_Arf Z h a ty n f) (E : Ext h h') : own_Arf Z h' a ty n f := by obtain ⟨c, A, r⟩ := F; exact ⟨c, A.ext E, r⟩
theorem own_Arf.other (F : own_Arf Z h b ty n f) (W : Wr h h' a sl v) (q : b ≠ a) : own_Arf Z h' b ty n f := by obtain ⟨c, A, r⟩ := F; exact ⟨c, A.other W q, r⟩
theorem own_Arf.keep (F : own_Arf Z h a ty n f) (K : Keep h h' ws) (q : a ∉ ws) : own_Arf Z h' a ty n f := by obtain ⟨c, A, r⟩ := F; exact ⟨c, ⟨K.2.1 a c A.1 q, A.2⟩, r⟩
theorem own_Arf.new {k : ClassId} (A : Arr Z h a (newA k ty n) ty) (q : ¬ n < 0) : own_Arf Z h a ty n (fun _ => defaultValue ty) :=
  ⟨_, A, sz_new _ _ _, q, fun i hi => by simp [newA, hi]⟩
theorem own_Arf.wr (F : own_Arf Z h a ty n f) (W : Wr h h' a j.toNatClampNeg v) : own_Arf Z h' a ty n (fun i => if i = j.toNatClampNeg then v else f i) := by
  obtain ⟨c, A, S, q, H⟩ := F
  refine ⟨_, A.same W, by rw [sz_set]; exact S, q, fun i hi => ?_⟩
  by_cases u : i = j.toNatClampNeg
  · subst u; simp [Cell.setSlot, S, hi]
  · simp only [if_neg u, Cell.setSlot]; rw [Array.getElem?_setIfInBounds_ne (Ne.symm u)]; exact H i hi
theorem own_Arf.fn {g : Nat → Value} (F : own_Arf Z h a ty n f) (q : ∀ i, i < n.toNatClampNeg → f i = g i) : own_Arf Z h a ty n g := by
  obtain ⟨c, A, S, q', H⟩ := F
  exact ⟨c, A, S, q', fun i hi => by rw [← q i hi]; exact H i hi⟩
variable {p : Program} {l : Launch} {e : Env} {R : Room} {s : State} {m : MethodId} {args : Array Value} {below : List Frame} {meth : Method} {c : Code} {T : State} {locs : List Loc} {cells slots : Nat} {g : JFrame} {rest : List Value}
theorem own_alen (X : Stand p l e R s m args below meth c T locs cells slots) (hx : p.tables.exec = Jvm.exec) (hZ : Z.Warmed39 s.vm) (eT : T.heap = h) (F : own_Arf Z h a ty n f) (hg : g.method = m) (hs : g.stack = .ref a :: rest) (hd : decode c.code g.pc = .ok (.arraylength, 1)) (target : State)
    (hr : Steps p.tables e below (T.setTop { g with pc := g.pc + 1, stack := .int n :: rest }) target) : Steps p.tables e below (T.setTop g) target := by
  obtain ⟨cl, A, S, q, H⟩ := F
  refine X.arraylength hx (by rw [eT]; exact A.1) (State.isArrayOf_alike hZ.alike A.2.1) hg hs hd _ ?_
  rw [len_of S q]; exact hr
theorem own_iaload (X : Stand p l e R s m args below meth c T locs cells slots) (hx : p.tables.exec = Jvm.exec) (hZ : Z.Warmed39 s.vm) (eT : T.heap = h) (F : own_Arf Z h a .int n f) (hj : ¬ j < 0 ∧ j < n) {x : Int32} (hv : f j.toNatClampNeg = .int x) (hg : g.method = m) (hs : g.stack = .int j :: .ref a :: rest) (hd : decode c.code g.pc = .ok (.iaload, 1)) (target : State)
    (hr : Steps p.tables e below (T.setTop { g with pc := g.pc + 1, stack := .int x :: rest }) target) : Steps p.tables e below (T.setTop g) target := by
  obtain ⟨cl, A, S, q, H⟩ := F
  have hin := inb_of S hj
  exact X.iaload hx (by rw [eT]; exact A.1) (State.isArrayOf_alike hZ.alike A.2.1) A.2.2 hin (by rw [H _ (by rw [← S]; omega), hv]) hg hs hd _ hr
theorem own_baload (X : Stand p l e R s m args below meth c T locs cells slots) (hx : p.tables.exec = Jvm.exec) (hZ : Z.Warmed39 s.vm) (eT : T.heap = h) (F : own_Arf Z h a .byte n f) (hj : ¬ j < 0 ∧ j < n) {x : Int32} (hv : f j.toNatClampNeg = .int x) (hg : g.method = m) (hs : g.stack = .int j :: .ref a :: rest) (hd : decode c.code g.pc = .ok (.baload, 1)) (target : State)
    (hr : Steps p.tables e below (T.setTop { g with pc := g.pc + 1, stack := .int x :: rest }) target) : Steps p.tables e below (T.setTop g) target := by
  obtain ⟨cl, A, S, q, H⟩ := F
  have hin := inb_of S hj
  exact X.baloadBytes hx (by rw [eT]; exact A.1) (State.isArrayOf_alike hZ.alike A.2.1) A.2.2 hin (by rw [H _ (by rw [← S]; omega), hv]) hg hs hd _ hr
theorem own_laload (X : Stand p l e R s m args below meth c T locs cells slots) (hx : p.tables.exec = Jvm.exec) (hZ : Z.Warmed39 s.vm) (eT : T.heap = h) (F : own_Arf Z h a .long n f) (hj : ¬ j < 0 ∧ j < n) {x : Int64} (hv : f j.toNatClampNeg = .long x) (hg : g.method = m) (hs : g.stack = .int j :: .ref a :: rest) (hd : decode c.code g.pc = .ok (.laload, 1)) (target : State)
    (hr : Steps p.tables e below (T.setTop { g with pc := g.pc + 1, stack := .long x :: rest }) target) : Steps p.tables e below (T.setTop g) target := by
  obtain ⟨cl, A, S, q, H⟩ := F
  have hin := inb_of S hj
  exact X.laload hx (by rw [eT]; exact A.1) (State.isArrayOf_alike hZ.alike A.2.1) A.2.2 hin (by rw [H _ (by rw [← S]; omega), hv]) hg hs hd _ hr
theorem own_stI (X : Stand p l e R s m args below meth c T locs cells slots) (hx : p.tables.exec = Jvm.exec) (hZ : Z.Warmed39 s.vm) (eT : T.heap = h) {q : Nat → Int32} (F : own_Arf Z h a .int n (fun i => .int (q i))) (hj : ¬ j < 0 ∧ j < n) {x : Int32} (hg : g.method = m) (hs : g.stack = .int x :: .int j :: .ref a :: rest) (hd : decode c.code g.pc = .ok (.iastore, 1)) :
    ∃ T' h', Stand p l e R s m args below meth c T' (locs ++ [⟨a, j.toNatClampNeg⟩]) cells slots ∧ T'.heap = h' ∧ Wr h h' a j.toNatClampNeg (.int x) ∧ own_Arf Z h' a .int n (fun i => .int (own_set q j x i)) ∧ ∀ target, Steps p.tables e below (T'.setTop { g with pc := g.pc + 1, stack := rest }) target → Steps p.tables e below (T.setTop g) target := by
  obtain ⟨cl, A, S, q1, H⟩ := F
  obtain ⟨T', h', X', e', W, st⟩ := stI X hx hZ eT A (inb_of S hj) hg hs hd
  refine ⟨T', h', X', e', W, (own_Arf.wr ⟨cl, A, S, q1, H⟩ W).fn fun i hi => ?_, st⟩
  simp only [own_set]; split <;> rfl
theorem own_stB (X : Stand p l e R s m args below meth c T locs cells slots) (hx : p.tables.exec = Jvm.exec) (hZ : Z.Warmed39 s.vm) (eT : T.heap = h) {q : Nat → Int32} (F : own_Arf Z h a .byte n (fun i => .int (q i))) (hj : ¬ j < 0 ∧ j < n) {x : Int32} (hg : g.method = m) (hs : g.stack = .int x :: .int j :: .ref a :: rest) (hd : decode c.code g.pc = .ok (.bastore, 1)) :
    ∃ T' h', Stand p l e R s m args below meth c T' (locs ++ [⟨a, j.toNatClampNeg⟩]) cells slots ∧ T'.heap = h' ∧ Wr h h' a j.toNatClampNeg (.int (own_i2b x)) ∧ own_Arf Z h' a .byte n (fun i => .int (own_set q j (own_i2b x) i)) ∧ ∀ target, Steps p.tables e below (T'.setTop { g with pc := g.pc + 1, stack := rest }) target → Steps p.tables e below (T.setTop g) target := by
  obtain ⟨cl, A, S, q1, H⟩ := F
  obtain ⟨T', h', X', e', W, st⟩ := stB X hx hZ eT A (inb_of S hj) hg hs hd
  refine ⟨T', h', X', e', W, (own_Arf.wr ⟨cl, A, S, q1, H⟩ W).fn fun i hi => ?_, st⟩
  simp only [own_set]; split <;> rfl
theorem own_stJ (X : Stand p l e R s m args below meth c T locs cells slots) (hx : p.tables.exec = Jvm.exec) (hZ : Z.Warmed39 s.vm) (eT : T.heap = h) {q : Nat → Int64} (F : own_Arf Z h a .long n (fun i => .long (q i))) (hj : ¬ j < 0 ∧ j < n) {x : Int64} (hg : g.method = m) (hs : g.stack = .long x :: .int j :: .ref a :: rest) (hd : decode c.code g.pc = .ok (.lastore, 1)) :
    ∃ T' h', Stand p l e R s m args below meth c T' (locs ++ [⟨a, j.toNatClampNeg⟩]) cells slots ∧ T'.heap = h' ∧ Wr h h' a j.toNatClampNeg (.long x) ∧ own_Arf Z h' a .long n (fun i => .long (own_set q j x i)) ∧ ∀ target, Steps p.tables e below (T'.setTop { g with pc := g.pc + 1, stack := rest }) target → Steps p.tables e below (T.setTop g) target := by
  obtain ⟨cl, A, S, q1, H⟩ := F
  obtain ⟨T', h', X', e', W, st⟩ := stJ X hx hZ eT A (inb_of S hj) hg hs hd
  refine ⟨T', h', X', e', W, (own_Arf.wr ⟨cl, A, S, q1, H⟩ W).fn fun i hi => ?_, st⟩
  simp only [own_set]; split <;> rfl
end OwnB
def own_QL (r : Option Value) (n0 : Nat) (v : Option Value) (h : Heap) (L : List Loc) : Prop := v = r ∧ Fr n0 L ∧ True
theorem own_ne_arf {Z : State} {h : Heap} {a b : Addr} {C : String} {ty : FieldType} {n : Int32} {f : Nat → Value} {a0 : Array Value} {k : Nat} (F : Exa Z h a C) (wi : (Cond.instantiable C k).before a0 Z = true) (G : own_Arf Z h b ty n f) : a ≠ b := by
  obtain ⟨c, A, -⟩ := G; exact ne_arr F wi A
def own_Two (a b : Slot) : Prop := (a = .unset ∧ b = .unset) ∨ ∃ x : Int64, a = .val (.long x) ∧ b = .second
theorem own_lushr_bv (x : Int64) (y : Int32) (k : Nat) (hk : y.toBitVec.toNat % 64 = k) : (own_lushr x y).toBitVec = x.toBitVec >>> k := by
  show x.toBitVec >>> ((y &&& 0x3f).toInt64.toBitVec % 64) = _
  have h5 := (sm64 y k hk).2
  rw [BitVec.ushiftRight_eq', BitVec.toNat_umod, (sm64 y k hk).1, BitVec.toNat_ofNat]
  congr 1; show k % 2 ^ 64 % 64 = k; omega
theorem own_lshl_bv (x : Int64) (y : Int32) (k : Nat) (hk : y.toBitVec.toNat % 64 = k) : (own_lshl x y).toBitVec = x.toBitVec <<< k := by
  show x.toBitVec <<< ((y &&& 0x3f).toInt64.toBitVec.smod 64) = _
  rw [BitVec.shiftLeft_eq', (sm64 y k hk).1, smod64 k (sm64 y k hk).2]
theorem own_sh {y : Int32} {k : Nat} (h : y.toInt = k) (hk : k < 64) : y.toBitVec.toNat % 64 = k := by
  have e : y.toBitVec.toInt = k := h
  have := y.toBitVec.isLt
  rw [BitVec.toInt_eq_toNat_cond] at e
  split at e <;> omega
def own_bit (x : Int64) (k : Nat) : Bool := x.toBitVec.getLsbD k
theorem own_bit_and (x y : Int64) (k : Nat) : own_bit (x &&& y) k = (own_bit x k && own_bit y k) := BitVec.getLsbD_and ..
theorem own_bit_or (x y : Int64) (k : Nat) : own_bit (x ||| y) k = (own_bit x k || own_bit y k) := BitVec.getLsbD_or ..
theorem own_bit_xor (x y : Int64) (k : Nat) : own_bit (x ^^^ y) k = (own_bit x k ^^ own_bit y k) := BitVec.getLsbD_xor ..
theorem own_bit_shr (x : Int64) {y : Int32} {k : Nat} (h : y.toInt = k) (hk : k < 64) (i : Nat) : own_bit (own_lushr x y) i = own_bit x (k + i) := by
  simp only [own_bit, own_lushr_bv x y k (own_sh h hk), BitVec.getLsbD_ushiftRight]
theorem own_bit_shl (x : Int64) {y : Int32} {k : Nat} (h : y.toInt = k) (hk : k < 64) (i : Nat) : own_bit (own_lshl x y) i = (decide (i < 64) && !decide (i < k) && own_bit x (i - k)) := by
  simp only [own_bit, own_lshl_bv x y k (own_sh h hk), BitVec.getLsbD_shiftLeft]
theorem own_bit_hi (x : Int64) {k : Nat} (h : 64 ≤ k) : own_bit x k = false := BitVec.getLsbD_of_ge _ _ h
theorem own_bit_one (i : Nat) : own_bit 1 i = decide (i = 0) := by
  show (1#64).getLsbD i = _
  rw [BitVec.getLsbD_one]; cases i <;> rfl
theorem own_bit_m1 (i : Nat) : own_bit (-1) i = decide (i < 64) := by
  show (BitVec.allOnes 64).getLsbD i = _
  rw [BitVec.getLsbD_allOnes]
theorem own_and1 (x : Int64) : x &&& (1 : Int64) = if own_bit x 0 then (1 : Int64) else (0 : Int64) := by
  have h : (x &&& 1).toBitVec = x.toBitVec &&& 1#64 := rfl
  cases hb : own_bit x 0
  · rw [if_neg (by simp)]
    apply Int64.toBitVec_inj.mp; rw [h]
    apply BitVec.eq_of_getLsbD_eq; intro i hi
    rw [BitVec.getLsbD_and, BitVec.getLsbD_one]
    show _ = (0#64).getLsbD i
    cases i with
    | zero => simp only [own_bit] at hb; rw [hb]; rfl
    | succ n => simp
  · rw [if_pos rfl]
    apply Int64.toBitVec_inj.mp; rw [h]
    apply BitVec.eq_of_getLsbD_eq; intro i hi
    rw [BitVec.getLsbD_and, BitVec.getLsbD_one]
    show _ = (1#64).getLsbD i
    rw [BitVec.getLsbD_one]
    cases i with
    | zero => simp only [own_bit] at hb; rw [hb]; rfl
    | succ n => simp
theorem own_pick (x : Int64) {y : Int32} {k : Nat} (h : y.toInt = k) (hk : k < 64) : (own_lushr x y) &&& (1 : Int64) = if own_bit x k then (1 : Int64) else (0 : Int64) := by
  rw [own_and1, own_bit_shr x h hk]; rfl
theorem own_maskall : ∀ w i : Fin 64, own_bit ((own_lshl (1 : Int64) (Int32.ofNat w.1)) - (1 : Int64)) i.1 = decide (i.1 < w.1) := by decide +kernel
theorem own_i32n {y : Int32} {k : Nat} (h : y.toInt = k) : y = Int32.ofNat k := by
  have r := rng32 y
  apply Int32.toInt_inj.mp
  rw [Int32.toInt_ofNat_small (by omega), h]
theorem own_mask {w : Int32} {k : Nat} (h : w.toInt = k) (hk : k < 64) (i : Nat) : own_bit ((own_lshl (1 : Int64) w) - (1 : Int64)) i = decide (i < k) := by
  by_cases hi : i < 64
  · rw [own_i32n h]; exact own_maskall ⟨k, hk⟩ ⟨i, hi⟩
  · rw [own_bit_hi _ (by omega)]; symm; simp; omega
theorem own_word (q : Int64) (h0 : ¬ q < (0 : Int64)) (h1 : q < (4096 : Int64)) : ((own_lushr q (6 : Int32)).toInt32).toInt = q.toInt / 64 := by
  rw [Int64.lt_iff_toInt_lt, show (0 : Int64).toInt = 0 from by decide] at h0
  rw [Int64.lt_iff_toInt_lt, show (4096 : Int64).toInt = 4096 from by decide] at h1
  have h := c_lushr q 6 6 (by decide) (by decide)
  have h' : (own_lushr q 6).toInt = (q.toInt % 18446744073709551616) / (2 ^ 6 : Nat) := h
  have g := c_l2i (own_lushr q 6)
  have r := rng32 (own_lushr q 6).toInt32
  have e : ((2 ^ 6 : Nat) : Int) = 64 := by decide
  rw [e] at h'
  omega
theorem own_low6 (q : Int64) (h0 : ¬ q < (0 : Int64)) (h1 : q < (4096 : Int64)) : ((q &&& (63 : Int64)).toInt32).toInt = q.toInt % 64 := by
  rw [Int64.lt_iff_toInt_lt, show (0 : Int64).toInt = 0 from by decide] at h0
  have h := c_maskL q 63 6 (by decide) (by decide)
  rw [show ((2 ^ 6 : Nat) : Int) = 64 from by decide] at h
  have g := c_l2i (q &&& 63)
  have r := rng32 (q &&& 63).toInt32
  omega

theorem own_b0 (x : Int64) : ¬ (x &&& (127 : Int64)) < (0 : Int64) := by
  have h := c_maskL x 127 7 (by decide) (by decide)
  rw [Int64.lt_iff_toInt_lt, h, show (0 : Int64).toInt = 0 from by decide]; omega
theorem own_b1 (x : Int64) : (x &&& (127 : Int64)) < (128 : Int64) := by
  have h := c_maskL x 127 7 (by decide) (by decide)
  rw [Int64.lt_iff_toInt_lt, h, show (128 : Int64).toInt = 128 from by decide]; omega
theorem own_ib (q : Int64) (h0 : ¬ q < (0 : Int64)) (h1 : q < (128 : Int64)) : (¬ ((own_lushr q (6 : Int32)).toInt32) < 0 ∧ ((own_lushr q (6 : Int32)).toInt32) < (3 : Int32)) ∧ ¬ (((own_lushr q (6 : Int32)).toInt32) + (1 : Int32)) < 0 ∧ (((own_lushr q (6 : Int32)).toInt32) + (1 : Int32)) < (3 : Int32) := by
  have e := own_word q h0 (by rw [Int64.lt_iff_toInt_lt] at h1 ⊢; rw [show (128 : Int64).toInt = 128 from by decide] at h1; rw [show (4096 : Int64).toInt = 4096 from by decide]; omega)
  rw [Int64.lt_iff_toInt_lt, show (0 : Int64).toInt = 0 from by decide] at h0
  rw [Int64.lt_iff_toInt_lt, show (128 : Int64).toInt = 128 from by decide] at h1
  have a := c_iadd ((own_lushr q (6 : Int32)).toInt32) 1
  have r := rng32 (((own_lushr q (6 : Int32)).toInt32) + 1)
  rw [show (1 : Int32).toInt = 1 from by decide] at a
  simp only [Int32.lt_iff_toInt_lt, show (0 : Int32).toInt = 0 from by decide, show (3 : Int32).toInt = 3 from by decide]
  omega
theorem d1_0 : decode prog_13_method_1_code 0 = .ok (.aload_n 0, 1) := by decide +kernel
theorem d1_1 : decode prog_13_method_1_code 1 = .ok (.invokespecial 1, 3) := by decide +kernel
theorem d1_4 : decode prog_13_method_1_code 4 = .ok (.aload_n 0, 1) := by decide +kernel
theorem d1_5 : decode prog_13_method_1_code 5 = .ok (.aload_n 1, 1) := by decide +kernel
theorem d1_6 : decode prog_13_method_1_code 6 = .ok (.putfield 7, 3) := by decide +kernel
theorem d1_9 : decode prog_13_method_1_code 9 = .ok (.return_, 1) := by decide +kernel
theorem pn_1 : plainName "com/example/slim_filter/slimfilter/cuckoo/TableBits$InWords" = true := by first | (simp [plainName, overriddenIn]; done) | decide +kernel
theorem ef_1 (m : MethodId) (r0 : Addr) (r1 : Addr) : entryFrame m #[(.ref r0), (.ref r1)] 2 = mkF m 0 #[.val (.ref r0), .val (.ref r1)] [] := by first | (simp [entryFrame, mkF, argsToLocals, Value.category]; done) | rfl
def rm1_room : Room := { frames := 1, cells := 0, slots := 0, locals := 12 }
def Qrm1 (Z : State) (r0 : Addr) (r1 : Addr) (h0 : Heap) (n0 : Nat) (v : Option Value) (h : Heap) (L : List Loc) : Prop := v = none ∧ Fr n0 L ∧ Keep h0 h [r0] ∧ Exa Z h r0 "com/example/slim_filter/slimfilter/cuckoo/TableBits$InWords" ∧ Fld Z h r0 "com/example/slim_filter/slimfilter/cuckoo/TableBits$InWords" "words" "[J" (.ref r1)
set_option maxRecDepth 65536 in
set_option maxHeartbeats 40000000 in
theorem rm1 (l : Launch) (Z : State) (a0 : Array Value) (hw : ∀ d ∈ tables_1, d.before a0 Z = true) (ws : List Jvm.Cond) (r0 : Addr) (r1 : Addr) (h0 : Heap) (n0 : Nat) (Z0 : n0 ≤ h0.size) (E_r0_0 : Exa Z h0 r0 "com/example/slim_filter/slimfilter/cuckoo/TableBits$InWords") (F_words_r0_0 : Fld Z h0 r0 "com/example/slim_filter/slimfilter/cuckoo/TableBits$InWords" "words" "[J" .null) (ge_r0 : n0 ≤ r0) :
    MetFree l (⟨"com/example/slim_filter/slimfilter/cuckoo/TableBits$InWords", "<init>", "([J)V"⟩ : MethodName) (head1 (Jvm.Cond.code (⟨"com/example/slim_filter/slimfilter/cuckoo/TableBits$InWords", "<init>", "([J)V"⟩ : MethodName) prog_13_method_1_code 2 none :: ws) rm1_room) (fun a U => a = #[(.ref r0), (.ref r1)] ∧ Z.Warmed39 U.vm ∧ U.heap = h0) (fun _ _ _ _ _ => True) (fun _ U o U' => ∃ v L, o = .returned v ∧ Qrm1 Z r0 r1 h0 n0 v U'.heap L ∧ FrameEnd U o U' L rm1_room.cells rm1_room.slots) := by
  refine MetFree.of_bodySF (plainFor_of_name pn_1) hisR ?_
  intro p e s m args below meth c s₁ Bd hml0 hP hK
  obtain ⟨rfl, hZ, hh⟩ := hP
  have hx := Bd.exec
  have hby := Bd.bytes
  have hml : c.maxLocals = 2 := hml0
  have hown : s.vm.findClass "com/example/slim_filter/slimfilter/cuckoo/TableBits$InWords" = some m.cls := findClass_of_methodNamed Bd.named
  have hnm := (name_of_methodNamed Bd.named Bd.method).1
  have hlk : meth.locks = false := BodyLoose.notSynchronized Bd
  have X0 : Stand p l e rm1_room s m #[(.ref r0), (.ref r1)] below meth c s₁ [] 0 0 := Stand.of_body Bd
  have e0 : s₁.heap = h0 := by rw [← hh, Bd.state]; rfl
  have N0 := Fr.nil n0
  show own_Fin p.tables e below s (Qrm1 Z r0 r1 h0 n0) rm1_room.cells rm1_room.slots (s₁.setTop (entryFrame m #[(.ref r0), (.ref r1)] 2))
  rw [ef_1]
  show own_Fin _ _ _ _ _ _ _ (s₁.setTop (mkF m 0 #[.val (.ref r0), .val (.ref r1)] []))
  have K0 := Keep.refl h0 [r0]
  refine own_go (fun _ k => XS.aloadN X0.here hx rfl (hb hby d1_0) rfl rfl k) ?_
  show own_Fin _ _ _ _ _ _ _ (s₁.setTop (mkF m 1 #[.val (.ref r0), .val (.ref r1)] [(.ref r0)]))
  obtain ⟨T1, X1, e1, st1⟩ := initO X0 hx hZ hown (hw _ (List.mem_of_getElem? (i := 7) rfl)) (hw _ (List.mem_of_getElem? (i := 8) rfl)) (hw _ (List.mem_of_getElem? (i := 9) rfl)) e0 (g := (mkF m 1 #[.val (.ref r0), .val (.ref r1)] [(.ref r0)])) rfl (by rw [hml]; rfl) rfl (hb hby d1_1) (by decide) (W := 0) (by show 2 * 0 + _ ≤ _; exact Nat.le_of_eq rfl) (by decide)
  refine own_go (fun tg k => st1 tg k) ?_
  show own_Fin _ _ _ _ _ _ _ (T1.setTop (mkF m 4 #[.val (.ref r0), .val (.ref r1)] []))
  refine own_go (fun _ k => XS.aloadN X1.here hx rfl (hb hby d1_4) rfl rfl k) ?_
  show own_Fin _ _ _ _ _ _ _ (T1.setTop (mkF m 5 #[.val (.ref r0), .val (.ref r1)] [(.ref r0)]))
  refine own_go (fun _ k => XS.aloadN X1.here hx rfl (hb hby d1_5) rfl rfl k) ?_
  show own_Fin _ _ _ _ _ _ _ (T1.setTop (mkF m 6 #[.val (.ref r0), .val (.ref r1)] [(.ref r1), (.ref r0)]))
  obtain ⟨T2, h2, X2, e2, W2, st2⟩ := putF X1 hx hZ hown (host := "") (Or.inl (hw _ (List.mem_of_getElem? (i := 10) rfl))) Via.refl e1 F_words_r0_0 E_r0_0 (Or.inr ⟨(hw _ (List.mem_of_getElem? (i := 11) rfl)), rfl, hnm⟩) (hw _ (List.mem_of_getElem? (i := 2) rfl)) (ty := (.array .long)) (by decide) rfl rfl (g := (mkF m 6 #[.val (.ref r0), .val (.ref r1)] [(.ref r1), (.ref r0)])) rfl rfl (hb hby d1_6)
  have E_r0_2 := E_r0_0.wr W2
  have K2 := K0.wr W2 (Or.inl (List.mem_of_getElem? (i := 0) rfl))
  have N2 := Fr.snoc X2 N0 ge_r0
  have Z2 : n0 ≤ h2.size := Nat.le_trans Z0 (Keep.of_wr W2).1
  have F_words_r0_2 := F_words_r0_0.same W2
  refine own_go (fun tg k => st2 tg k) ?_
  show own_Fin _ _ _ _ _ _ _ (T2.setTop (mkF m 9 #[.val (.ref r0), .val (.ref r1)] []))
  refine own_retV X2 hx hlk Bd.returns (hb hby d1_9) (Nat.le_of_ble_eq_true rfl) (Nat.le_of_ble_eq_true rfl) ?_
  rw [e2]
  refine ⟨rfl, N2, K2, E_r0_2, ?_⟩
  · (exact F_words_r0_2)
theorem d3_0 : decode prog_13_method_2_code 0 = .ok (.lload_n 1, 1) := by decide +kernel
theorem d3_1 : decode prog_13_method_2_code 1 = .ok (.bipush 6, 2) := by decide +kernel
theorem d3_3 : decode prog_13_method_2_code 3 = .ok (.lushr, 1) := by decide +kernel
theorem d3_4 : decode prog_13_method_2_code 4 = .ok (.l2i, 1) := by decide +kernel
theorem d3_5 : decode prog_13_method_2_code 5 = .ok (.istore 4, 2) := by decide +kernel
theorem d3_7 : decode prog_13_method_2_code 7 = .ok (.lload_n 1, 1) := by decide +kernel
theorem d3_8 : decode prog_13_method_2_code 8 = .ok (.ldc2_w 13, 3) := by decide +kernel
theorem d3_11 : decode prog_13_method_2_code 11 = .ok (.land, 1) := by decide +kernel
theorem d3_12 : decode prog_13_method_2_code 12 = .ok (.l2i, 1) := by decide +kernel
theorem d3_13 : decode prog_13_method_2_code 13 = .ok (.istore 5, 2) := by decide +kernel
theorem d3_15 : decode prog_13_method_2_code 15 = .ok (.aload_n 0, 1) := by decide +kernel
theorem d3_16 : decode prog_13_method_2_code 16 = .ok (.getfield 7, 3) := by decide +kernel
theorem d3_19 : decode prog_13_method_2_code 19 = .ok (.iload 4, 2) := by decide +kernel
theorem d3_21 : decode prog_13_method_2_code 21 = .ok (.laload, 1) := by decide +kernel
theorem d3_22 : decode prog_13_method_2_code 22 = .ok (.iload 5, 2) := by decide +kernel
theorem d3_24 : decode prog_13_method_2_code 24 = .ok (.lushr, 1) := by decide +kernel
theorem d3_25 : decode prog_13_method_2_code 25 = .ok (.lstore 6, 2) := by decide +kernel
theorem d3_27 : decode prog_13_method_2_code 27 = .ok (.iload 5, 2) := by decide +kernel
theorem d3_29 : decode prog_13_method_2_code 29 = .ok (.iload_n 3, 1) := by decide +kernel
theorem d3_30 : decode prog_13_method_2_code 30 = .ok (.iadd, 1) := by decide +kernel
theorem d3_31 : decode prog_13_method_2_code 31 = .ok (.bipush 64, 2) := by decide +kernel
theorem d3_33 : decode prog_13_method_2_code 33 = .ok (.if_icmp .le 23, 3) := by decide +kernel
theorem d3_36 : decode prog_13_method_2_code 36 = .ok (.lload 6, 2) := by decide +kernel
theorem d3_38 : decode prog_13_method_2_code 38 = .ok (.aload_n 0, 1) := by decide +kernel
theorem d3_39 : decode prog_13_method_2_code 39 = .ok (.getfield 7, 3) := by decide +kernel
theorem d3_42 : decode prog_13_method_2_code 42 = .ok (.iload 4, 2) := by decide +kernel
theorem d3_44 : decode prog_13_method_2_code 44 = .ok (.iconst 1, 1) := by decide +kernel
theorem d3_45 : decode prog_13_method_2_code 45 = .ok (.iadd, 1) := by decide +kernel
theorem d3_46 : decode prog_13_method_2_code 46 = .ok (.laload, 1) := by decide +kernel
theorem d3_47 : decode prog_13_method_2_code 47 = .ok (.bipush 64, 2) := by decide +kernel
theorem d3_49 : decode prog_13_method_2_code 49 = .ok (.iload 5, 2) := by decide +kernel
theorem d3_51 : decode prog_13_method_2_code 51 = .ok (.isub, 1) := by decide +kernel
theorem d3_52 : decode prog_13_method_2_code 52 = .ok (.lshl, 1) := by decide +kernel
theorem d3_53 : decode prog_13_method_2_code 53 = .ok (.lor, 1) := by decide +kernel
theorem d3_54 : decode prog_13_method_2_code 54 = .ok (.lstore 6, 2) := by decide +kernel
theorem d3_56 : decode prog_13_method_2_code 56 = .ok (.lload 6, 2) := by decide +kernel
theorem d3_58 : decode prog_13_method_2_code 58 = .ok (.lconst 1, 1) := by decide +kernel
theorem d3_59 : decode prog_13_method_2_code 59 = .ok (.iload_n 3, 1) := by decide +kernel
theorem d3_60 : decode prog_13_method_2_code 60 = .ok (.lshl, 1) := by decide +kernel
theorem d3_61 : decode prog_13_method_2_code 61 = .ok (.lconst 1, 1) := by decide +kernel
theorem d3_62 : decode prog_13_method_2_code 62 = .ok (.lsub, 1) := by decide +kernel
theorem d3_63 : decode prog_13_method_2_code 63 = .ok (.land, 1) := by decide +kernel
theorem d3_64 : decode prog_13_method_2_code 64 = .ok (.lreturn, 1) := by decide +kernel
theorem pn_3 : plainName "com/example/slim_filter/slimfilter/cuckoo/TableBits$InWords" = true := by first | (simp [plainName, overriddenIn]; done) | decide +kernel
theorem ef_3 (m : MethodId) (r0 : Addr) (q1 : Int64) (p2 : Int32) : entryFrame m #[(.ref r0), (.long q1), (.int p2)] 8 = mkF m 0 #[.val (.ref r0), .val (.long q1), .second, .val (.int p2), .unset, .unset, .unset, .unset] [] := by first | (simp [entryFrame, mkF, argsToLocals, Value.category]; done) | rfl
def rm3_room : Room := { frames := 0, cells := 0, slots := 0, locals := 0 }
def own_f3 (q1 : Int64) (p2 : Int32) (xg : Nat → Int64) : Int64 := let z6 := (if (64 : Int32) < (((q1 &&& (63 : Int64)).toInt32) + p2) then ((own_lushr (xg ((own_lushr q1 (6 : Int32)).toInt32).toNatClampNeg) ((q1 &&& (63 : Int64)).toInt32)) ||| (own_lshl (xg (((own_lushr q1 (6 : Int32)).toInt32) + (1 : Int32)).toNatClampNeg) ((64 : Int32) - ((q1 &&& (63 : Int64)).toInt32)))) else (own_lushr (xg ((own_lushr q1 (6 : Int32)).toInt32).toNatClampNeg) ((q1 &&& (63 : Int64)).toInt32))); (z6 &&& ((own_lshl (1 : Int64) p2) - (1 : Int64)))
def Qrm3 (Z : State) (r0 : Addr) (q1 : Int64) (p2 : Int32) (xa : Addr) (xg : Nat → Int64) (h0 : Heap) (n0 : Nat) (v : Option Value) (h : Heap) (L : List Loc) : Prop := v = some (.long (own_f3 q1 p2 xg)) ∧ Fr n0 L ∧ h = h0
set_option maxRecDepth 65536 in
set_option maxHeartbeats 40000000 in
theorem rm3 (l : Launch) (Z : State) (a0 : Array Value) (hw : ∀ d ∈ tables_1, d.before a0 Z = true) (ws : List Jvm.Cond) (r0 : Addr) (q1 : Int64) (p2 : Int32) (xa : Addr) (xg : Nat → Int64) (h0 : Heap) (n0 : Nat) (Z0 : n0 ≤ h0.size) (F_words_r0_0 : Fld Z h0 r0 "com/example/slim_filter/slimfilter/cuckoo/TableBits$InWords" "words" "[J" (.ref xa)) (A_xa_0 : own_Arf Z h0 xa .long (3 : Int32) (fun i => .long (xg i))) (hp0 : ¬ q1 < (0 : Int64)) (hp1 : q1 < (128 : Int64)) :
    MetFree l (⟨"com/example/slim_filter/slimfilter/cuckoo/TableBits$InWords", "read", "(JI)J"⟩ : MethodName) (head1 (Jvm.Cond.code (⟨"com/example/slim_filter/slimfilter/cuckoo/TableBits$InWords", "read", "(JI)J"⟩ : MethodName) prog_13_method_2_code 8 (some .long) :: ws) rm3_room) (fun a U => a = #[(.ref r0), (.long q1), (.int p2)] ∧ Z.Warmed39 U.vm ∧ U.heap = h0) (fun _ _ _ _ _ => True) (fun _ U o U' => ∃ v L, o = .returned v ∧ Qrm3 Z r0 q1 p2 xa xg h0 n0 v U'.heap L ∧ FrameEnd U o U' L rm3_room.cells rm3_room.slots) := by
  refine MetFree.of_bodySF (plainFor_of_name pn_3) hisR ?_
  intro p e s m args below meth c s₁ Bd hml0 hP hK
  obtain ⟨rfl, hZ, hh⟩ := hP
  have hx := Bd.exec
  have hby := Bd.bytes
  have hml : c.maxLocals = 8 := hml0
  have hown : s.vm.findClass "com/example/slim_filter/slimfilter/cuckoo/TableBits$InWords" = some m.cls := findClass_of_methodNamed Bd.named
  have hnm := (name_of_methodNamed Bd.named Bd.method).1
  have hlk : meth.locks = false := BodyLoose.notSynchronized Bd
  have X0 : Stand p l e rm3_room s m #[(.ref r0), (.long q1), (.int p2)] below meth c s₁ [] 0 0 := Stand.of_body Bd
  have e0 : s₁.heap = h0 := by rw [← hh, Bd.state]; rfl
  have N0 := Fr.nil n0
  show own_Fin p.tables e below s (Qrm3 Z r0 q1 p2 xa xg h0 n0) rm3_room.cells rm3_room.slots (s₁.setTop (entryFrame m #[(.ref r0), (.long q1), (.int p2)] 8))
  rw [ef_3]
  show own_Fin _ _ _ _ _ _ _ (s₁.setTop (mkF m 0 #[.val (.ref r0), .val (.long q1), .second, .val (.int p2), .unset, .unset, .unset, .unset] []))
  refine own_go (fun _ k => XS.lloadN X0.here hx rfl (hb hby d3_0) rfl k) ?_
  show own_Fin _ _ _ _ _ _ _ (s₁.setTop (mkF m 1 #[.val (.ref r0), .val (.long q1), .second, .val (.int p2), .unset, .unset, .unset, .unset] [(.long q1)]))
  refine own_go (fun _ k => XS.bipush X0.here hx rfl (hb hby d3_1) k) ?_
  show own_Fin _ _ _ _ _ _ _ (s₁.setTop (mkF m 3 #[.val (.ref r0), .val (.long q1), .second, .val (.int p2), .unset, .unset, .unset, .unset] [(.int (6 : Int32)), (.long q1)]))
  refine own_go (fun _ k => XS.lushr X0.here hx rfl (hb hby d3_3) rfl k) ?_
  show own_Fin _ _ _ _ _ _ _ (s₁.setTop (mkF m 4 #[.val (.ref r0), .val (.long q1), .second, .val (.int p2), .unset, .unset, .unset, .unset] [(.long (own_lushr q1 (6 : Int32)))]))
  refine own_go (fun _ k => XS.l2i X0.here hx rfl (hb hby d3_4) rfl k) ?_
  show own_Fin _ _ _ _ _ _ _ (s₁.setTop (mkF m 5 #[.val (.ref r0), .val (.long q1), .second, .val (.int p2), .unset, .unset, .unset, .unset] [(.int ((own_lushr q1 (6 : Int32)).toInt32))]))
  refine own_go (fun _ k => XS.istore X0.here hx rfl (hb hby d3_5) rfl (l' := #[.val (.ref r0), .val (.long q1), .second, .val (.int p2), .val (.int ((own_lushr q1 (6 : Int32)).toInt32)), .unset, .unset, .unset]) rfl k) ?_
  show own_Fin _ _ _ _ _ _ _ (s₁.setTop (mkF m 7 #[.val (.ref r0), .val (.long q1), .second, .val (.int p2), .val (.int ((own_lushr q1 (6 : Int32)).toInt32)), .unset, .unset, .unset] []))
  refine own_go (fun _ k => XS.lloadN X0.here hx rfl (hb hby d3_7) rfl k) ?_
  show own_Fin _ _ _ _ _ _ _ (s₁.setTop (mkF m 8 #[.val (.ref r0), .val (.long q1), .second, .val (.int p2), .val (.int ((own_lushr q1 (6 : Int32)).toInt32)), .unset, .unset, .unset] [(.long q1)]))
  refine own_go (fun _ k => X0.ldc2Long hx hown (mvT hZ (hw _ (List.mem_of_getElem? (i := 19) rfl))) (g := (mkF m 8 #[.val (.ref r0), .val (.long q1), .second, .val (.int p2), .val (.int ((own_lushr q1 (6 : Int32)).toInt32)), .unset, .unset, .unset] [(.long q1)])) rfl (hb hby d3_8) _ k) ?_
  show own_Fin _ _ _ _ _ _ _ (s₁.setTop (mkF m 11 #[.val (.ref r0), .val (.long q1), .second, .val (.int p2), .val (.int ((own_lushr q1 (6 : Int32)).toInt32)), .unset, .unset, .unset] [(.long (63 : Int64)), (.long q1)]))
  refine own_go (fun _ k => XS.land X0.here hx rfl (hb hby d3_11) rfl k) ?_
  show own_Fin _ _ _ _ _ _ _ (s₁.setTop (mkF m 12 #[.val (.ref r0), .val (.long q1), .second, .val (.int p2), .val (.int ((own_lushr q1 (6 : Int32)).toInt32)), .unset, .unset, .unset] [(.long (q1 &&& (63 : Int64)))]))
  refine own_go (fun _ k => XS.l2i X0.here hx rfl (hb hby d3_12) rfl k) ?_
  show own_Fin _ _ _ _ _ _ _ (s₁.setTop (mkF m 13 #[.val (.ref r0), .val (.long q1), .second, .val (.int p2), .val (.int ((own_lushr q1 (6 : Int32)).toInt32)), .unset, .unset, .unset] [(.int ((q1 &&& (63 : Int64)).toInt32))]))
  refine own_go (fun _ k => XS.istore X0.here hx rfl (hb hby d3_13) rfl (l' := #[.val (.ref r0), .val (.long q1), .second, .val (.int p2), .val (.int ((own_lushr q1 (6 : Int32)).toInt32)), .val (.int ((q1 &&& (63 : Int64)).toInt32)), .unset, .unset]) rfl k) ?_
  show own_Fin _ _ _ _ _ _ _ (s₁.setTop (mkF m 15 #[.val (.ref r0), .val (.long q1), .second, .val (.int p2), .val (.int ((own_lushr q1 (6 : Int32)).toInt32)), .val (.int ((q1 &&& (63 : Int64)).toInt32)), .unset, .unset] []))
  refine own_go (fun _ k => XS.aloadN X0.here hx rfl (hb hby d3_15) rfl rfl k) ?_
  show own_Fin _ _ _ _ _ _ _ (s₁.setTop (mkF m 16 #[.val (.ref r0), .val (.long q1), .second, .val (.int p2), .val (.int ((own_lushr q1 (6 : Int32)).toInt32)), .val (.int ((q1 &&& (63 : Int64)).toInt32)), .unset, .unset] [(.ref r0)]))
  obtain ⟨T1, X1, e1, st1⟩ := getF X0 hx hZ hown (host := "") (Or.inl (hw _ (List.mem_of_getElem? (i := 10) rfl))) Via.refl e0 F_words_r0_0 (g := (mkF m 16 #[.val (.ref r0), .val (.long q1), .second, .val (.int p2), .val (.int ((own_lushr q1 (6 : Int32)).toInt32)), .val (.int ((q1 &&& (63 : Int64)).toInt32)), .unset, .unset] [(.ref r0)])) rfl rfl (hb hby d3_16)
  refine own_go (fun tg k => st1 tg k) ?_
  show own_Fin _ _ _ _ _ _ _ (T1.setTop (mkF m 19 #[.val (.ref r0), .val (.long q1), .second, .val (.int p2), .val (.int ((own_lushr q1 (6 : Int32)).toInt32)), .val (.int ((q1 &&& (63 : Int64)).toInt32)), .unset, .unset] [(.ref xa)]))
  refine own_go (fun _ k => XS.iload X1.here hx rfl (hb hby d3_19) rfl k) ?_
  show own_Fin _ _ _ _ _ _ _ (T1.setTop (mkF m 21 #[.val (.ref r0), .val (.long q1), .second, .val (.int p2), .val (.int ((own_lushr q1 (6 : Int32)).toInt32)), .val (.int ((q1 &&& (63 : Int64)).toInt32)), .unset, .unset] [(.int ((own_lushr q1 (6 : Int32)).toInt32)), (.ref xa)]))
  refine own_go (fun tg k => own_laload X1 hx hZ e1 A_xa_0 (j := ((own_lushr q1 (6 : Int32)).toInt32)) (own_ib q1 hp0 hp1).1 (x := (xg ((own_lushr q1 (6 : Int32)).toInt32).toNatClampNeg)) rfl (g := (mkF m 21 #[.val (.ref r0), .val (.long q1), .second, .val (.int p2), .val (.int ((own_lushr q1 (6 : Int32)).toInt32)), .val (.int ((q1 &&& (63 : Int64)).toInt32)), .unset, .unset] [(.int ((own_lushr q1 (6 : Int32)).toInt32)), (.ref xa)])) rfl rfl (hb hby d3_21) tg k) ?_
  show own_Fin _ _ _ _ _ _ _ (T1.setTop (mkF m 22 #[.val (.ref r0), .val (.long q1), .second, .val (.int p2), .val (.int ((own_lushr q1 (6 : Int32)).toInt32)), .val (.int ((q1 &&& (63 : Int64)).toInt32)), .unset, .unset] [(.long (xg ((own_lushr q1 (6 : Int32)).toInt32).toNatClampNeg))]))
  refine own_go (fun _ k => XS.iload X1.here hx rfl (hb hby d3_22) rfl k) ?_
  show own_Fin _ _ _ _ _ _ _ (T1.setTop (mkF m 24 #[.val (.ref r0), .val (.long q1), .second, .val (.int p2), .val (.int ((own_lushr q1 (6 : Int32)).toInt32)), .val (.int ((q1 &&& (63 : Int64)).toInt32)), .unset, .unset] [(.int ((q1 &&& (63 : Int64)).toInt32)), (.long (xg ((own_lushr q1 (6 : Int32)).toInt32).toNatClampNeg))]))
  refine own_go (fun _ k => XS.lushr X1.here hx rfl (hb hby d3_24) rfl k) ?_
  show own_Fin _ _ _ _ _ _ _ (T1.setTop (mkF m 25 #[.val (.ref r0), .val (.long q1), .second, .val (.int p2), .val (.int ((own_lushr q1 (6 : Int32)).toInt32)), .val (.int ((q1 &&& (63 : Int64)).toInt32)), .unset, .unset] [(.long (own_lushr (xg ((own_lushr q1 (6 : Int32)).toInt32).toNatClampNeg) ((q1 &&& (63 : Int64)).toInt32)))]))
  refine own_go (fun _ k => XS.lstore X1.here hx rfl (hb hby d3_25) rfl (l' := #[.val (.ref r0), .val (.long q1), .second, .val (.int p2), .val (.int ((own_lushr q1 (6 : Int32)).toInt32)), .val (.int ((q1 &&& (63 : Int64)).toInt32)), .val (.long (own_lushr (xg ((own_lushr q1 (6 : Int32)).toInt32).toNatClampNeg) ((q1 &&& (63 : Int64)).toInt32))), .second]) rfl k) ?_
  show own_Fin _ _ _ _ _ _ _ (T1.setTop (mkF m 27 #[.val (.ref r0), .val (.long q1), .second, .val (.int p2), .val (.int ((own_lushr q1 (6 : Int32)).toInt32)), .val (.int ((q1 &&& (63 : Int64)).toInt32)), .val (.long (own_lushr (xg ((own_lushr q1 (6 : Int32)).toInt32).toNatClampNeg) ((q1 &&& (63 : Int64)).toInt32))), .second] []))
  refine own_go (fun _ k => XS.iload X1.here hx rfl (hb hby d3_27) rfl k) ?_
  show own_Fin _ _ _ _ _ _ _ (T1.setTop (mkF m 29 #[.val (.ref r0), .val (.long q1), .second, .val (.int p2), .val (.int ((own_lushr q1 (6 : Int32)).toInt32)), .val (.int ((q1 &&& (63 : Int64)).toInt32)), .val (.long (own_lushr (xg ((own_lushr q1 (6 : Int32)).toInt32).toNatClampNeg) ((q1 &&& (63 : Int64)).toInt32))), .second] [(.int ((q1 &&& (63 : Int64)).toInt32))]))
  refine own_go (fun _ k => XS.iloadN X1.here hx rfl (hb hby d3_29) rfl k) ?_
  show own_Fin _ _ _ _ _ _ _ (T1.setTop (mkF m 30 #[.val (.ref r0), .val (.long q1), .second, .val (.int p2), .val (.int ((own_lushr q1 (6 : Int32)).toInt32)), .val (.int ((q1 &&& (63 : Int64)).toInt32)), .val (.long (own_lushr (xg ((own_lushr q1 (6 : Int32)).toInt32).toNatClampNeg) ((q1 &&& (63 : Int64)).toInt32))), .second] [(.int p2), (.int ((q1 &&& (63 : Int64)).toInt32))]))
  refine own_go (fun _ k => XS.iadd X1.here hx rfl (hb hby d3_30) rfl k) ?_
  show own_Fin _ _ _ _ _ _ _ (T1.setTop (mkF m 31 #[.val (.ref r0), .val (.long q1), .second, .val (.int p2), .val (.int ((own_lushr q1 (6 : Int32)).toInt32)), .val (.int ((q1 &&& (63 : Int64)).toInt32)), .val (.long (own_lushr (xg ((own_lushr q1 (6 : Int32)).toInt32).toNatClampNeg) ((q1 &&& (63 : Int64)).toInt32))), .second] [(.int (((q1 &&& (63 : Int64)).toInt32) + p2))]))
  refine own_go (fun _ k => XS.bipush X1.here hx rfl (hb hby d3_31) k) ?_
  show own_Fin _ _ _ _ _ _ _ (T1.setTop (mkF m 33 #[.val (.ref r0), .val (.long q1), .second, .val (.int p2), .val (.int ((own_lushr q1 (6 : Int32)).toInt32)), .val (.int ((q1 &&& (63 : Int64)).toInt32)), .val (.long (own_lushr (xg ((own_lushr q1 (6 : Int32)).toInt32).toNatClampNeg) ((q1 &&& (63 : Int64)).toInt32))), .second] [(.int (64 : Int32)), (.int (((q1 &&& (63 : Int64)).toInt32) + p2))]))
  have hk3 : ∀ (T' : State) (L' : List Loc), Stand p l e rm3_room s m #[(.ref r0), (.long q1), (.int p2)] below meth c T' L' 0 0 → Fr n0 L' → T'.heap = h0 → own_Fin p.tables e below s (Qrm3 Z r0 q1 p2 xa xg h0 n0) rm3_room.cells rm3_room.slots (T'.setTop (mkF m 56 #[.val (.ref r0), .val (.long q1), .second, .val (.int p2), .val (.int ((own_lushr q1 (6 : Int32)).toInt32)), .val (.int ((q1 &&& (63 : Int64)).toInt32)), .val (.long (if (64 : Int32) < (((q1 &&& (63 : Int64)).toInt32) + p2) then ((own_lushr (xg ((own_lushr q1 (6 : Int32)).toInt32).toNatClampNeg) ((q1 &&& (63 : Int64)).toInt32)) ||| (own_lshl (xg (((own_lushr q1 (6 : Int32)).toInt32) + (1 : Int32)).toNatClampNeg) ((64 : Int32) - ((q1 &&& (63 : Int64)).toInt32)))) else (own_lushr (xg ((own_lushr q1 (6 : Int32)).toInt32).toNatClampNeg) ((q1 &&& (63 : Int64)).toInt32)))), .second] [])) := by
    intro T5 L5 X5 N5 e5
    generalize hz6 : (if (64 : Int32) < (((q1 &&& (63 : Int64)).toInt32) + p2) then ((own_lushr (xg ((own_lushr q1 (6 : Int32)).toInt32).toNatClampNeg) ((q1 &&& (63 : Int64)).toInt32)) ||| (own_lshl (xg (((own_lushr q1 (6 : Int32)).toInt32) + (1 : Int32)).toNatClampNeg) ((64 : Int32) - ((q1 &&& (63 : Int64)).toInt32)))) else (own_lushr (xg ((own_lushr q1 (6 : Int32)).toInt32).toNatClampNeg) ((q1 &&& (63 : Int64)).toInt32))) = z6
    show own_Fin _ _ _ _ _ _ _ (T5.setTop (mkF m 56 #[.val (.ref r0), .val (.long q1), .second, .val (.int p2), .val (.int ((own_lushr q1 (6 : Int32)).toInt32)), .val (.int ((q1 &&& (63 : Int64)).toInt32)), .val (.long z6), .second] []))
    refine own_go (fun _ k => XS.lload X5.here hx rfl (hb hby d3_56) rfl k) ?_
    show own_Fin _ _ _ _ _ _ _ (T5.setTop (mkF m 58 #[.val (.ref r0), .val (.long q1), .second, .val (.int p2), .val (.int ((own_lushr q1 (6 : Int32)).toInt32)), .val (.int ((q1 &&& (63 : Int64)).toInt32)), .val (.long z6), .second] [(.long z6)]))
    refine own_go (fun _ k => XS.lconst X5.here hx rfl (hb hby d3_58) k) ?_
    show own_Fin _ _ _ _ _ _ _ (T5.setTop (mkF m 59 #[.val (.ref r0), .val (.long q1), .second, .val (.int p2), .val (.int ((own_lushr q1 (6 : Int32)).toInt32)), .val (.int ((q1 &&& (63 : Int64)).toInt32)), .val (.long z6), .second] [(.long (1 : Int64)), (.long z6)]))
    refine own_go (fun _ k => XS.iloadN X5.here hx rfl (hb hby d3_59) rfl k) ?_
    show own_Fin _ _ _ _ _ _ _ (T5.setTop (mkF m 60 #[.val (.ref r0), .val (.long q1), .second, .val (.int p2), .val (.int ((own_lushr q1 (6 : Int32)).toInt32)), .val (.int ((q1 &&& (63 : Int64)).toInt32)), .val (.long z6), .second] [(.int p2), (.long (1 : Int64)), (.long z6)]))
    refine own_go (fun _ k => XS.lshl X5.here hx rfl (hb hby d3_60) rfl k) ?_
    show own_Fin _ _ _ _ _ _ _ (T5.setTop (mkF m 61 #[.val (.ref r0), .val (.long q1), .second, .val (.int p2), .val (.int ((own_lushr q1 (6 : Int32)).toInt32)), .val (.int ((q1 &&& (63 : Int64)).toInt32)), .val (.long z6), .second] [(.long (own_lshl (1 : Int64) p2)), (.long z6)]))
    refine own_go (fun _ k => XS.lconst X5.here hx rfl (hb hby d3_61) k) ?_
    show own_Fin _ _ _ _ _ _ _ (T5.setTop (mkF m 62 #[.val (.ref r0), .val (.long q1), .second, .val (.int p2), .val (.int ((own_lushr q1 (6 : Int32)).toInt32)), .val (.int ((q1 &&& (63 : Int64)).toInt32)), .val (.long z6), .second] [(.long (1 : Int64)), (.long (own_lshl (1 : Int64) p2)), (.long z6)]))
    refine own_go (fun _ k => XS.lsub X5.here hx rfl (hb hby d3_62) rfl k) ?_
    show own_Fin _ _ _ _ _ _ _ (T5.setTop (mkF m 63 #[.val (.ref r0), .val (.long q1), .second, .val (.int p2), .val (.int ((own_lushr q1 (6 : Int32)).toInt32)), .val (.int ((q1 &&& (63 : Int64)).toInt32)), .val (.long z6), .second] [(.long ((own_lshl (1 : Int64) p2) - (1 : Int64))), (.long z6)]))
    refine own_go (fun _ k => XS.land X5.here hx rfl (hb hby d3_63) rfl k) ?_
    show own_Fin _ _ _ _ _ _ _ (T5.setTop (mkF m 64 #[.val (.ref r0), .val (.long q1), .second, .val (.int p2), .val (.int ((own_lushr q1 (6 : Int32)).toInt32)), .val (.int ((q1 &&& (63 : Int64)).toInt32)), .val (.long z6), .second] [(.long (z6 &&& ((own_lshl (1 : Int64) p2) - (1 : Int64))))]))
    refine own_ret X5 hx hlk Bd.returns rfl (Or.inr (Or.inl ⟨rfl, rfl, _, rfl⟩)) (hb hby d3_64) (Nat.le_of_ble_eq_true rfl) (Nat.le_of_ble_eq_true rfl) ?_
    try subst hz6
    refine ⟨?_, N5, e5⟩
    · first | rfl | (simp only [own_f3]; done) | (simp only [own_f3]; rfl)
  by_cases hc2 : (64 : Int32) < (((q1 &&& (63 : Int64)).toInt32) + p2)
  · refine own_go (fun _ k => XS.icmpNo X1.here hx rfl (hb hby d3_33) rfl (tlt hc2).2.2.2 k) ?_
    show own_Fin _ _ _ _ _ _ _ (T1.setTop (mkF m 36 #[.val (.ref r0), .val (.long q1), .second, .val (.int p2), .val (.int ((own_lushr q1 (6 : Int32)).toInt32)), .val (.int ((q1 &&& (63 : Int64)).toInt32)), .val (.long (own_lushr (xg ((own_lushr q1 (6 : Int32)).toInt32).toNatClampNeg) ((q1 &&& (63 : Int64)).toInt32))), .second] []))
    refine own_go (fun _ k => XS.lload X1.here hx rfl (hb hby d3_36) rfl k) ?_
    show own_Fin _ _ _ _ _ _ _ (T1.setTop (mkF m 38 #[.val (.ref r0), .val (.long q1), .second, .val (.int p2), .val (.int ((own_lushr q1 (6 : Int32)).toInt32)), .val (.int ((q1 &&& (63 : Int64)).toInt32)), .val (.long (own_lushr (xg ((own_lushr q1 (6 : Int32)).toInt32).toNatClampNeg) ((q1 &&& (63 : Int64)).toInt32))), .second] [(.long (own_lushr (xg ((own_lushr q1 (6 : Int32)).toInt32).toNatClampNeg) ((q1 &&& (63 : Int64)).toInt32)))]))
    refine own_go (fun _ k => XS.aloadN X1.here hx rfl (hb hby d3_38) rfl rfl k) ?_
    show own_Fin _ _ _ _ _ _ _ (T1.setTop (mkF m 39 #[.val (.ref r0), .val (.long q1), .second, .val (.int p2), .val (.int ((own_lushr q1 (6 : Int32)).toInt32)), .val (.int ((q1 &&& (63 : Int64)).toInt32)), .val (.long (own_lushr (xg ((own_lushr q1 (6 : Int32)).toInt32).toNatClampNeg) ((q1 &&& (63 : Int64)).toInt32))), .second] [(.ref r0), (.long (own_lushr (xg ((own_lushr q1 (6 : Int32)).toInt32).toNatClampNeg) ((q1 &&& (63 : Int64)).toInt32)))]))
    obtain ⟨T4, X4, e4, st4⟩ := getF X1 hx hZ hown (host := "") (Or.inl (hw _ (List.mem_of_getElem? (i := 10) rfl))) Via.refl e1 F_words_r0_0 (g := (mkF m 39 #[.val (.ref r0), .val (.long q1), .second, .val (.int p2), .val (.int ((own_lushr q1 (6 : Int32)).toInt32)), .val (.int ((q1 &&& (63 : Int64)).toInt32)), .val (.long (own_lushr (xg ((own_lushr q1 (6 : Int32)).toInt32).toNatClampNeg) ((q1 &&& (63 : Int64)).toInt32))), .second] [(.ref r0), (.long (own_lushr (xg ((own_lushr q1 (6 : Int32)).toInt32).toNatClampNeg) ((q1 &&& (63 : Int64)).toInt32)))])) rfl rfl (hb hby d3_39)
    refine own_go (fun tg k => st4 tg k) ?_
    show own_Fin _ _ _ _ _ _ _ (T4.setTop (mkF m 42 #[.val (.ref r0), .val (.long q1), .second, .val (.int p2), .val (.int ((own_lushr q1 (6 : Int32)).toInt32)), .val (.int ((q1 &&& (63 : Int64)).toInt32)), .val (.long (own_lushr (xg ((own_lushr q1 (6 : Int32)).toInt32).toNatClampNeg) ((q1 &&& (63 : Int64)).toInt32))), .second] [(.ref xa), (.long (own_lushr (xg ((own_lushr q1 (6 : Int32)).toInt32).toNatClampNeg) ((q1 &&& (63 : Int64)).toInt32)))]))
    refine own_go (fun _ k => XS.iload X4.here hx rfl (hb hby d3_42) rfl k) ?_
    show own_Fin _ _ _ _ _ _ _ (T4.setTop (mkF m 44 #[.val (.ref r0), .val (.long q1), .second, .val (.int p2), .val (.int ((own_lushr q1 (6 : Int32)).toInt32)), .val (.int ((q1 &&& (63 : Int64)).toInt32)), .val (.long (own_lushr (xg ((own_lushr q1 (6 : Int32)).toInt32).toNatClampNeg) ((q1 &&& (63 : Int64)).toInt32))), .second] [(.int ((own_lushr q1 (6 : Int32)).toInt32)), (.ref xa), (.long (own_lushr (xg ((own_lushr q1 (6 : Int32)).toInt32).toNatClampNeg) ((q1 &&& (63 : Int64)).toInt32)))]))
    refine own_go (fun _ k => XS.iconst X4.here hx rfl (hb hby d3_44) k) ?_
    show own_Fin _ _ _ _ _ _ _ (T4.setTop (mkF m 45 #[.val (.ref r0), .val (.long q1), .second, .val (.int p2), .val (.int ((own_lushr q1 (6 : Int32)).toInt32)), .val (.int ((q1 &&& (63 : Int64)).toInt32)), .val (.long (own_lushr (xg ((own_lushr q1 (6 : Int32)).toInt32).toNatClampNeg) ((q1 &&& (63 : Int64)).toInt32))), .second] [(.int (1 : Int32)), (.int ((own_lushr q1 (6 : Int32)).toInt32)), (.ref xa), (.long (own_lushr (xg ((own_lushr q1 (6 : Int32)).toInt32).toNatClampNeg) ((q1 &&& (63 : Int64)).toInt32)))]))
    refine own_go (fun _ k => XS.iadd X4.here hx rfl (hb hby d3_45) rfl k) ?_
    show own_Fin _ _ _ _ _ _ _ (T4.setTop (mkF m 46 #[.val (.ref r0), .val (.long q1), .second, .val (.int p2), .val (.int ((own_lushr q1 (6 : Int32)).toInt32)), .val (.int ((q1 &&& (63 : Int64)).toInt32)), .val (.long (own_lushr (xg ((own_lushr q1 (6 : Int32)).toInt32).toNatClampNeg) ((q1 &&& (63 : Int64)).toInt32))), .second] [(.int (((own_lushr q1 (6 : Int32)).toInt32) + (1 : Int32))), (.ref xa), (.long (own_lushr (xg ((own_lushr q1 (6 : Int32)).toInt32).toNatClampNeg) ((q1 &&& (63 : Int64)).toInt32)))]))
    refine own_go (fun tg k => own_laload X4 hx hZ e4 A_xa_0 (j := (((own_lushr q1 (6 : Int32)).toInt32) + (1 : Int32))) (own_ib q1 hp0 hp1).2 (x := (xg (((own_lushr q1 (6 : Int32)).toInt32) + (1 : Int32)).toNatClampNeg)) rfl (g := (mkF m 46 #[.val (.ref r0), .val (.long q1), .second, .val (.int p2), .val (.int ((own_lushr q1 (6 : Int32)).toInt32)), .val (.int ((q1 &&& (63 : Int64)).toInt32)), .val (.long (own_lushr (xg ((own_lushr q1 (6 : Int32)).toInt32).toNatClampNeg) ((q1 &&& (63 : Int64)).toInt32))), .second] [(.int (((own_lushr q1 (6 : Int32)).toInt32) + (1 : Int32))), (.ref xa), (.long (own_lushr (xg ((own_lushr q1 (6 : Int32)).toInt32).toNatClampNeg) ((q1 &&& (63 : Int64)).toInt32)))])) rfl rfl (hb hby d3_46) tg k) ?_
    show own_Fin _ _ _ _ _ _ _ (T4.setTop (mkF m 47 #[.val (.ref r0), .val (.long q1), .second, .val (.int p2), .val (.int ((own_lushr q1 (6 : Int32)).toInt32)), .val (.int ((q1 &&& (63 : Int64)).toInt32)), .val (.long (own_lushr (xg ((own_lushr q1 (6 : Int32)).toInt32).toNatClampNeg) ((q1 &&& (63 : Int64)).toInt32))), .second] [(.long (xg (((own_lushr q1 (6 : Int32)).toInt32) + (1 : Int32)).toNatClampNeg)), (.long (own_lushr (xg ((own_lushr q1 (6 : Int32)).toInt32).toNatClampNeg) ((q1 &&& (63 : Int64)).toInt32)))]))
    refine own_go (fun _ k => XS.bipush X4.here hx rfl (hb hby d3_47) k) ?_
    show own_Fin _ _ _ _ _ _ _ (T4.setTop (mkF m 49 #[.val (.ref r0), .val (.long q1), .second, .val (.int p2), .val (.int ((own_lushr q1 (6 : Int32)).toInt32)), .val (.int ((q1 &&& (63 : Int64)).toInt32)), .val (.long (own_lushr (xg ((own_lushr q1 (6 : Int32)).toInt32).toNatClampNeg) ((q1 &&& (63 : Int64)).toInt32))), .second] [(.int (64 : Int32)), (.long (xg (((own_lushr q1 (6 : Int32)).toInt32) + (1 : Int32)).toNatClampNeg)), (.long (own_lushr (xg ((own_lushr q1 (6 : Int32)).toInt32).toNatClampNeg) ((q1 &&& (63 : Int64)).toInt32)))]))
    refine own_go (fun _ k => XS.iload X4.here hx rfl (hb hby d3_49) rfl k) ?_
    show own_Fin _ _ _ _ _ _ _ (T4.setTop (mkF m 51 #[.val (.ref r0), .val (.long q1), .second, .val (.int p2), .val (.int ((own_lushr q1 (6 : Int32)).toInt32)), .val (.int ((q1 &&& (63 : Int64)).toInt32)), .val (.long (own_lushr (xg ((own_lushr q1 (6 : Int32)).toInt32).toNatClampNeg) ((q1 &&& (63 : Int64)).toInt32))), .second] [(.int ((q1 &&& (63 : Int64)).toInt32)), (.int (64 : Int32)), (.long (xg (((own_lushr q1 (6 : Int32)).toInt32) + (1 : Int32)).toNatClampNeg)), (.long (own_lushr (xg ((own_lushr q1 (6 : Int32)).toInt32).toNatClampNeg) ((q1 &&& (63 : Int64)).toInt32)))]))
    refine own_go (fun _ k => XS.isub X4.here hx rfl (hb hby d3_51) rfl k) ?_
    show own_Fin _ _ _ _ _ _ _ (T4.setTop (mkF m 52 #[.val (.ref r0), .val (.long q1), .second, .val (.int p2), .val (.int ((own_lushr q1 (6 : Int32)).toInt32)), .val (.int ((q1 &&& (63 : Int64)).toInt32)), .val (.long (own_lushr (xg ((own_lushr q1 (6 : Int32)).toInt32).toNatClampNeg) ((q1 &&& (63 : Int64)).toInt32))), .second] [(.int ((64 : Int32) - ((q1 &&& (63 : Int64)).toInt32))), (.long (xg (((own_lushr q1 (6 : Int32)).toInt32) + (1 : Int32)).toNatClampNeg)), (.long (own_lushr (xg ((own_lushr q1 (6 : Int32)).toInt32).toNatClampNeg) ((q1 &&& (63 : Int64)).toInt32)))]))
    refine own_go (fun _ k => XS.lshl X4.here hx rfl (hb hby d3_52) rfl k) ?_
    show own_Fin _ _ _ _ _ _ _ (T4.setTop (mkF m 53 #[.val (.ref r0), .val (.long q1), .second, .val (.int p2), .val (.int ((own_lushr q1 (6 : Int32)).toInt32)), .val (.int ((q1 &&& (63 : Int64)).toInt32)), .val (.long (own_lushr (xg ((own_lushr q1 (6 : Int32)).toInt32).toNatClampNeg) ((q1 &&& (63 : Int64)).toInt32))), .second] [(.long (own_lshl (xg (((own_lushr q1 (6 : Int32)).toInt32) + (1 : Int32)).toNatClampNeg) ((64 : Int32) - ((q1 &&& (63 : Int64)).toInt32)))), (.long (own_lushr (xg ((own_lushr q1 (6 : Int32)).toInt32).toNatClampNeg) ((q1 &&& (63 : Int64)).toInt32)))]))
    refine own_go (fun _ k => XS.lor X4.here hx rfl (hb hby d3_53) rfl k) ?_
    show own_Fin _ _ _ _ _ _ _ (T4.setTop (mkF m 54 #[.val (.ref r0), .val (.long q1), .second, .val (.int p2), .val (.int ((own_lushr q1 (6 : Int32)).toInt32)), .val (.int ((q1 &&& (63 : Int64)).toInt32)), .val (.long (own_lushr (xg ((own_lushr q1 (6 : Int32)).toInt32).toNatClampNeg) ((q1 &&& (63 : Int64)).toInt32))), .second] [(.long ((own_lushr (xg ((own_lushr q1 (6 : Int32)).toInt32).toNatClampNeg) ((q1 &&& (63 : Int64)).toInt32)) ||| (own_lshl (xg (((own_lushr q1 (6 : Int32)).toInt32) + (1 : Int32)).toNatClampNeg) ((64 : Int32) - ((q1 &&& (63 : Int64)).toInt32)))))]))
    refine own_go (fun _ k => XS.lstore X4.here hx rfl (hb hby d3_54) rfl (l' := #[.val (.ref r0), .val (.long q1), .second, .val (.int p2), .val (.int ((own_lushr q1 (6 : Int32)).toInt32)), .val (.int ((q1 &&& (63 : Int64)).toInt32)), .val (.long ((own_lushr (xg ((own_lushr q1 (6 : Int32)).toInt32).toNatClampNeg) ((q1 &&& (63 : Int64)).toInt32)) ||| (own_lshl (xg (((own_lushr q1 (6 : Int32)).toInt32) + (1 : Int32)).toNatClampNeg) ((64 : Int32) - ((q1 &&& (63 : Int64)).toInt32))))), .second]) rfl k) ?_
    show own_Fin _ _ _ _ _ _ _ (T4.setTop (mkF m 56 #[.val (.ref r0), .val (.long q1), .second, .val (.int p2), .val (.int ((own_lushr q1 (6 : Int32)).toInt32)), .val (.int ((q1 &&& (63 : Int64)).toInt32)), .val (.long ((own_lushr (xg ((own_lushr q1 (6 : Int32)).toInt32).toNatClampNeg) ((q1 &&& (63 : Int64)).toInt32)) ||| (own_lshl (xg (((own_lushr q1 (6 : Int32)).toInt32) + (1 : Int32)).toNatClampNeg) ((64 : Int32) - ((q1 &&& (63 : Int64)).toInt32))))), .second] []))
    have kj := hk3 T4 _ (own_mono X4 (by decide) (by decide)) N0 e4
    simpa only [if_pos hc2] using kj
  · refine own_go (fun _ k => XS.icmpYes X1.here hx rfl (pc0 := 33) (pc' := 56) rfl (hb hby d3_33) rfl (flt hc2).2.2.2 (by decide) (by decide) k) ?_
    show own_Fin _ _ _ _ _ _ _ (T1.setTop (mkF m 56 #[.val (.ref r0), .val (.long q1), .second, .val (.int p2), .val (.int ((own_lushr q1 (6 : Int32)).toInt32)), .val (.int ((q1 &&& (63 : Int64)).toInt32)), .val (.long (own_lushr (xg ((own_lushr q1 (6 : Int32)).toInt32).toNatClampNeg) ((q1 &&& (63 : Int64)).toInt32))), .second] []))
    have kj := hk3 T1 _ (own_mono X1 (by decide) (by decide)) N0 e1
    simpa only [if_neg hc2] using kj
theorem d4_0 : decode method_3_code 0 = .ok (.lload 6, 2) := by decide +kernel
theorem d4_2 : decode method_3_code 2 = .ok (.ldc2_w 25, 3) := by decide +kernel
theorem d4_5 : decode method_3_code 5 = .ok (.lcmp, 1) := by decide +kernel
theorem d4_6 : decode method_3_code 6 = .ok (.ifCond .ge 9, 3) := by decide +kernel
theorem d4_9 : decode method_3_code 9 = .ok (.lload_n 0, 1) := by decide +kernel
theorem d4_10 : decode method_3_code 10 = .ok (.lstore 8, 2) := by decide +kernel
theorem d4_12 : decode method_3_code 12 = .ok (.goto 22, 3) := by decide +kernel
theorem d4_15 : decode method_3_code 15 = .ok (.lload 6, 2) := by decide +kernel
theorem d4_17 : decode method_3_code 17 = .ok (.ldc2_w 27, 3) := by decide +kernel
theorem d4_20 : decode method_3_code 20 = .ok (.lcmp, 1) := by decide +kernel
theorem d4_21 : decode method_3_code 21 = .ok (.ifCond .ge 9, 3) := by decide +kernel
theorem d4_24 : decode method_3_code 24 = .ok (.lload_n 2, 1) := by decide +kernel
theorem d4_25 : decode method_3_code 25 = .ok (.lstore 8, 2) := by decide +kernel
theorem d4_27 : decode method_3_code 27 = .ok (.goto 7, 3) := by decide +kernel
theorem d4_30 : decode method_3_code 30 = .ok (.lload 4, 2) := by decide +kernel
theorem d4_32 : decode method_3_code 32 = .ok (.lstore 8, 2) := by decide +kernel
theorem d4_34 : decode method_3_code 34 = .ok (.lload 6, 2) := by decide +kernel
theorem d4_36 : decode method_3_code 36 = .ok (.ldc2_w 25, 3) := by decide +kernel
theorem d4_39 : decode method_3_code 39 = .ok (.lrem, 1) := by decide +kernel
theorem d4_40 : decode method_3_code 40 = .ok (.l2i, 1) := by decide +kernel
theorem d4_41 : decode method_3_code 41 = .ok (.istore 10, 2) := by decide +kernel
theorem d4_43 : decode method_3_code 43 = .ok (.lload 8, 2) := by decide +kernel
theorem d4_45 : decode method_3_code 45 = .ok (.iload 10, 2) := by decide +kernel
theorem d4_47 : decode method_3_code 47 = .ok (.lushr, 1) := by decide +kernel
theorem d4_48 : decode method_3_code 48 = .ok (.lconst 1, 1) := by decide +kernel
theorem d4_49 : decode method_3_code 49 = .ok (.land, 1) := by decide +kernel
theorem d4_50 : decode method_3_code 50 = .ok (.lreturn, 1) := by decide +kernel
theorem pn_4 : plainName "com/example/slim_filter/slimfilter/cuckoo/InWordsReadPinLaw" = true := by first | (simp [plainName, overriddenIn]; done) | decide +kernel
theorem ef_4 (m : MethodId) (q0 : Int64) (q1 : Int64) (q2 : Int64) (q3 : Int64) : entryFrame m #[(.long q0), (.long q1), (.long q2), (.long q3)] 11 = mkF m 0 #[.val (.long q0), .second, .val (.long q1), .second, .val (.long q2), .second, .val (.long q3), .second, .unset, .unset, .unset] [] := by first | (simp [entryFrame, mkF, argsToLocals, Value.category]; done) | rfl
def own_rm4_room : Room := { frames := 0, cells := 0, slots := 0, locals := 0 }
def own_f4 (q0 : Int64) (q1 : Int64) (q2 : Int64) (q3 : Int64) : Int64 := let z5 := (if q3 < (64 : Int64) then q0 else (if q3 < (128 : Int64) then q1 else q2)); ((own_lushr z5 ((q3 % (64 : Int64)).toInt32)) &&& (1 : Int64))
set_option maxRecDepth 65536 in
set_option maxHeartbeats 40000000 in
theorem rm4 (l : Launch) (Z : State) (a0 : Array Value) (hw : ∀ d ∈ tables_1, d.before a0 Z = true) (ws : List Jvm.Cond) (q0 : Int64) (q1 : Int64) (q2 : Int64) (q3 : Int64) (h0 : Heap) (n0 : Nat) (Z0 : n0 ≤ h0.size) :
    MetFree l (⟨"com/example/slim_filter/slimfilter/cuckoo/InWordsReadPinLaw", "tableBit", "(JJJJ)J"⟩ : MethodName) (head1 (Jvm.Cond.code (⟨"com/example/slim_filter/slimfilter/cuckoo/InWordsReadPinLaw", "tableBit", "(JJJJ)J"⟩ : MethodName) method_3_code 11 (some .long) :: ws) own_rm4_room) (fun a U => a = #[(.long q0), (.long q1), (.long q2), (.long q3)] ∧ Z.Warmed39 U.vm ∧ U.heap = h0) (fun _ _ _ _ _ => True) (fun _ U o U' => ∃ v L, o = .returned v ∧ own_QP (some (.long (own_f4 q0 q1 q2 q3))) h0 n0 v U'.heap L ∧ FrameEnd U o U' L own_rm4_room.cells own_rm4_room.slots) := by
  refine MetFree.of_bodySF (plainFor_of_name pn_4) hisR ?_
  intro p e s m args below meth c s₁ Bd hml0 hP hK
  obtain ⟨rfl, hZ, hh⟩ := hP
  have hx := Bd.exec
  have hby := Bd.bytes
  have hml : c.maxLocals = 11 := hml0
  have hown : s.vm.findClass "com/example/slim_filter/slimfilter/cuckoo/InWordsReadPinLaw" = some m.cls := findClass_of_methodNamed Bd.named
  have hnm := (name_of_methodNamed Bd.named Bd.method).1
  have hlk : meth.locks = false := BodyLoose.notSynchronized Bd
  have X0 : Stand p l e own_rm4_room s m #[(.long q0), (.long q1), (.long q2), (.long q3)] below meth c s₁ [] 0 0 := Stand.of_body Bd
  have e0 : s₁.heap = h0 := by rw [← hh, Bd.state]; rfl
  have N0 := Fr.nil n0
  show own_Fin p.tables e below s (own_QP (some (.long (own_f4 q0 q1 q2 q3))) h0 n0) own_rm4_room.cells own_rm4_room.slots (s₁.setTop (entryFrame m #[(.long q0), (.long q1), (.long q2), (.long q3)] 11))
  rw [ef_4]
  show own_Fin _ _ _ _ _ _ _ (s₁.setTop (mkF m 0 #[.val (.long q0), .second, .val (.long q1), .second, .val (.long q2), .second, .val (.long q3), .second, .unset, .unset, .unset] []))
  refine own_go (fun _ k => XS.lload X0.here hx rfl (hb hby d4_0) rfl k) ?_
  show own_Fin _ _ _ _ _ _ _ (s₁.setTop (mkF m 2 #[.val (.long q0), .second, .val (.long q1), .second, .val (.long q2), .second, .val (.long q3), .second, .unset, .unset, .unset] [(.long q3)]))
  refine own_go (fun _ k => X0.ldc2Long hx hown (mvT hZ (hw _ (List.mem_of_getElem? (i := 24) rfl))) (g := (mkF m 2 #[.val (.long q0), .second, .val (.long q1), .second, .val (.long q2), .second, .val (.long q3), .second, .unset, .unset, .unset] [(.long q3)])) rfl (hb hby d4_2) _ k) ?_
  show own_Fin _ _ _ _ _ _ _ (s₁.setTop (mkF m 5 #[.val (.long q0), .second, .val (.long q1), .second, .val (.long q2), .second, .val (.long q3), .second, .unset, .unset, .unset] [(.long (64 : Int64)), (.long q3)]))
  refine own_go (fun _ k => XS.lcmp X0.here hx rfl (hb hby d4_5) rfl k) ?_
  show own_Fin _ _ _ _ _ _ _ (s₁.setTop (mkF m 6 #[.val (.long q0), .second, .val (.long q1), .second, .val (.long q2), .second, .val (.long q3), .second, .unset, .unset, .unset] [(.int (lcmpW q3 (64 : Int64)))]))
  have hk2 : ∀ (T' : State) (L' : List Loc), Stand p l e own_rm4_room s m #[(.long q0), (.long q1), (.long q2), (.long q3)] below meth c T' L' 0 0 → Fr n0 L' → T'.heap = h0 → own_Fin p.tables e below s (own_QP (some (.long (own_f4 q0 q1 q2 q3))) h0 n0) own_rm4_room.cells own_rm4_room.slots (T'.setTop (mkF m 34 #[.val (.long q0), .second, .val (.long q1), .second, .val (.long q2), .second, .val (.long q3), .second, .val (.long (if q3 < (64 : Int64) then q0 else (if q3 < (128 : Int64) then q1 else q2))), .second, .unset] [])) := by
    intro T4 L4 X4 N4 e4
    generalize hz5 : (if q3 < (64 : Int64) then q0 else (if q3 < (128 : Int64) then q1 else q2)) = z5
    show own_Fin _ _ _ _ _ _ _ (T4.setTop (mkF m 34 #[.val (.long q0), .second, .val (.long q1), .second, .val (.long q2), .second, .val (.long q3), .second, .val (.long z5), .second, .unset] []))
    refine own_go (fun _ k => XS.lload X4.here hx rfl (hb hby d4_34) rfl k) ?_
    show own_Fin _ _ _ _ _ _ _ (T4.setTop (mkF m 36 #[.val (.long q0), .second, .val (.long q1), .second, .val (.long q2), .second, .val (.long q3), .second, .val (.long z5), .second, .unset] [(.long q3)]))
    refine own_go (fun _ k => X4.ldc2Long hx hown (mvT hZ (hw _ (List.mem_of_getElem? (i := 24) rfl))) (g := (mkF m 36 #[.val (.long q0), .second, .val (.long q1), .second, .val (.long q2), .second, .val (.long q3), .second, .val (.long z5), .second, .unset] [(.long q3)])) rfl (hb hby d4_36) _ k) ?_
    show own_Fin _ _ _ _ _ _ _ (T4.setTop (mkF m 39 #[.val (.long q0), .second, .val (.long q1), .second, .val (.long q2), .second, .val (.long q3), .second, .val (.long z5), .second, .unset] [(.long (64 : Int64)), (.long q3)]))
    refine own_go (fun _ k => own_lrem X4.here hx rfl (hb hby d4_39) rfl (by decide) k) ?_
    show own_Fin _ _ _ _ _ _ _ (T4.setTop (mkF m 40 #[.val (.long q0), .second, .val (.long q1), .second, .val (.long q2), .second, .val (.long q3), .second, .val (.long z5), .second, .unset] [(.long (q3 % (64 : Int64)))]))
    refine own_go (fun _ k => XS.l2i X4.here hx rfl (hb hby d4_40) rfl k) ?_
    show own_Fin _ _ _ _ _ _ _ (T4.setTop (mkF m 41 #[.val (.long q0), .second, .val (.long q1), .second, .val (.long q2), .second, .val (.long q3), .second, .val (.long z5), .second, .unset] [(.int ((q3 % (64 : Int64)).toInt32))]))
    refine own_go (fun _ k => XS.istore X4.here hx rfl (hb hby d4_41) rfl (l' := #[.val (.long q0), .second, .val (.long q1), .second, .val (.long q2), .second, .val (.long q3), .second, .val (.long z5), .second, .val (.int ((q3 % (64 : Int64)).toInt32))]) rfl k) ?_
    show own_Fin _ _ _ _ _ _ _ (T4.setTop (mkF m 43 #[.val (.long q0), .second, .val (.long q1), .second, .val (.long q2), .second, .val (.long q3), .second, .val (.long z5), .second, .val (.int ((q3 % (64 : Int64)).toInt32))] []))
    refine own_go (fun _ k => XS.lload X4.here hx rfl (hb hby d4_43) rfl k) ?_
    show own_Fin _ _ _ _ _ _ _ (T4.setTop (mkF m 45 #[.val (.long q0), .second, .val (.long q1), .second, .val (.long q2), .second, .val (.long q3), .second, .val (.long z5), .second, .val (.int ((q3 % (64 : Int64)).toInt32))] [(.long z5)]))
    refine own_go (fun _ k => XS.iload X4.here hx rfl (hb hby d4_45) rfl k) ?_
    show own_Fin _ _ _ _ _ _ _ (T4.setTop (mkF m 47 #[.val (.long q0), .second, .val (.long q1), .second, .val (.long q2), .second, .val (.long q3), .second, .val (.long z5), .second, .val (.int ((q3 % (64 : Int64)).toInt32))] [(.int ((q3 % (64 : Int64)).toInt32)), (.long z5)]))
    refine own_go (fun _ k => XS.lushr X4.here hx rfl (hb hby d4_47) rfl k) ?_
    show own_Fin _ _ _ _ _ _ _ (T4.setTop (mkF m 48 #[.val (.long q0), .second, .val (.long q1), .second, .val (.long q2), .second, .val (.long q3), .second, .val (.long z5), .second, .val (.int ((q3 % (64 : Int64)).toInt32))] [(.long (own_lushr z5 ((q3 % (64 : Int64)).toInt32)))]))
    refine own_go (fun _ k => XS.lconst X4.here hx rfl (hb hby d4_48) k) ?_
    show own_Fin _ _ _ _ _ _ _ (T4.setTop (mkF m 49 #[.val (.long q0), .second, .val (.long q1), .second, .val (.long q2), .second, .val (.long q3), .second, .val (.long z5), .second, .val (.int ((q3 % (64 : Int64)).toInt32))] [(.long (1 : Int64)), (.long (own_lushr z5 ((q3 % (64 : Int64)).toInt32)))]))
    refine own_go (fun _ k => XS.land X4.here hx rfl (hb hby d4_49) rfl k) ?_
    show own_Fin _ _ _ _ _ _ _ (T4.setTop (mkF m 50 #[.val (.long q0), .second, .val (.long q1), .second, .val (.long q2), .second, .val (.long q3), .second, .val (.long z5), .second, .val (.int ((q3 % (64 : Int64)).toInt32))] [(.long ((own_lushr z5 ((q3 % (64 : Int64)).toInt32)) &&& (1 : Int64)))]))
    refine own_ret X4 hx hlk Bd.returns rfl (Or.inr (Or.inl ⟨rfl, rfl, _, rfl⟩)) (hb hby d4_50) (Nat.le_of_ble_eq_true rfl) (Nat.le_of_ble_eq_true rfl) ?_
    refine ⟨?_, N4, e4⟩
    try subst hz5
    first | rfl | (simp only [own_f4]; done) | (simp only [own_f4]; rfl)
  by_cases hc1 : q3 < (64 : Int64)
  · refine own_go (fun _ k => XS.ifNo X0.here hx rfl (hb hby d4_6) rfl ((if0 _ _).trans (tlt ((lw_lt _ _).mpr hc1)).2.1) k) ?_
    show own_Fin _ _ _ _ _ _ _ (s₁.setTop (mkF m 9 #[.val (.long q0), .second, .val (.long q1), .second, .val (.long q2), .second, .val (.long q3), .second, .unset, .unset, .unset] []))
    refine own_go (fun _ k => XS.lloadN X0.here hx rfl (hb hby d4_9) rfl k) ?_
    show own_Fin _ _ _ _ _ _ _ (s₁.setTop (mkF m 10 #[.val (.long q0), .second, .val (.long q1), .second, .val (.long q2), .second, .val (.long q3), .second, .unset, .unset, .unset] [(.long q0)]))
    refine own_go (fun _ k => XS.lstore X0.here hx rfl (hb hby d4_10) rfl (l' := #[.val (.long q0), .second, .val (.long q1), .second, .val (.long q2), .second, .val (.long q3), .second, .val (.long q0), .second, .unset]) rfl k) ?_
    show own_Fin _ _ _ _ _ _ _ (s₁.setTop (mkF m 12 #[.val (.long q0), .second, .val (.long q1), .second, .val (.long q2), .second, .val (.long q3), .second, .val (.long q0), .second, .unset] []))
    refine own_go (fun _ k => XS.goto X0.here hx rfl (pc0 := 12) (pc' := 34) rfl (hb hby d4_12) (by decide) (by decide) k) ?_
    show own_Fin _ _ _ _ _ _ _ (s₁.setTop (mkF m 34 #[.val (.long q0), .second, .val (.long q1), .second, .val (.long q2), .second, .val (.long q3), .second, .val (.long q0), .second, .unset] []))
    have kj := hk2 s₁ _ (own_mono X0 (by decide) (by decide)) N0 e0
    simpa only [if_pos hc1] using kj
  · refine own_go (fun _ k => XS.ifYes X0.here hx rfl (pc0 := 6) (pc' := 15) rfl (hb hby d4_6) rfl ((if0 _ _).trans (flt (mt (lw_lt _ _).mp hc1)).2.1) (by decide) (by decide) k) ?_
    show own_Fin _ _ _ _ _ _ _ (s₁.setTop (mkF m 15 #[.val (.long q0), .second, .val (.long q1), .second, .val (.long q2), .second, .val (.long q3), .second, .unset, .unset, .unset] []))
    refine own_go (fun _ k => XS.lload X0.here hx rfl (hb hby d4_15) rfl k) ?_
    show own_Fin _ _ _ _ _ _ _ (s₁.setTop (mkF m 17 #[.val (.long q0), .second, .val (.long q1), .second, .val (.long q2), .second, .val (.long q3), .second, .unset, .unset, .unset] [(.long q3)]))
    refine own_go (fun _ k => X0.ldc2Long hx hown (mvT hZ (hw _ (List.mem_of_getElem? (i := 25) rfl))) (g := (mkF m 17 #[.val (.long q0), .second, .val (.long q1), .second, .val (.long q2), .second, .val (.long q3), .second, .unset, .unset, .unset] [(.long q3)])) rfl (hb hby d4_17) _ k) ?_
    show own_Fin _ _ _ _ _ _ _ (s₁.setTop (mkF m 20 #[.val (.long q0), .second, .val (.long q1), .second, .val (.long q2), .second, .val (.long q3), .second, .unset, .unset, .unset] [(.long (128 : Int64)), (.long q3)]))
    refine own_go (fun _ k => XS.lcmp X0.here hx rfl (hb hby d4_20) rfl k) ?_
    show own_Fin _ _ _ _ _ _ _ (s₁.setTop (mkF m 21 #[.val (.long q0), .second, .val (.long q1), .second, .val (.long q2), .second, .val (.long q3), .second, .unset, .unset, .unset] [(.int (lcmpW q3 (128 : Int64)))]))
    by_cases hc3 : q3 < (128 : Int64)
    · refine own_go (fun _ k => XS.ifNo X0.here hx rfl (hb hby d4_21) rfl ((if0 _ _).trans (tlt ((lw_lt _ _).mpr hc3)).2.1) k) ?_
      show own_Fin _ _ _ _ _ _ _ (s₁.setTop (mkF m 24 #[.val (.long q0), .second, .val (.long q1), .second, .val (.long q2), .second, .val (.long q3), .second, .unset, .unset, .unset] []))
      refine own_go (fun _ k => XS.lloadN X0.here hx rfl (hb hby d4_24) rfl k) ?_
      show own_Fin _ _ _ _ _ _ _ (s₁.setTop (mkF m 25 #[.val (.long q0), .second, .val (.long q1), .second, .val (.long q2), .second, .val (.long q3), .second, .unset, .unset, .unset] [(.long q1)]))
      refine own_go (fun _ k => XS.lstore X0.here hx rfl (hb hby d4_25) rfl (l' := #[.val (.long q0), .second, .val (.long q1), .second, .val (.long q2), .second, .val (.long q3), .second, .val (.long q1), .second, .unset]) rfl k) ?_
      show own_Fin _ _ _ _ _ _ _ (s₁.setTop (mkF m 27 #[.val (.long q0), .second, .val (.long q1), .second, .val (.long q2), .second, .val (.long q3), .second, .val (.long q1), .second, .unset] []))
      refine own_go (fun _ k => XS.goto X0.here hx rfl (pc0 := 27) (pc' := 34) rfl (hb hby d4_27) (by decide) (by decide) k) ?_
      show own_Fin _ _ _ _ _ _ _ (s₁.setTop (mkF m 34 #[.val (.long q0), .second, .val (.long q1), .second, .val (.long q2), .second, .val (.long q3), .second, .val (.long q1), .second, .unset] []))
      have kj := hk2 s₁ _ (own_mono X0 (by decide) (by decide)) N0 e0
      simpa only [if_neg hc1, if_pos hc3] using kj
    · refine own_go (fun _ k => XS.ifYes X0.here hx rfl (pc0 := 21) (pc' := 30) rfl (hb hby d4_21) rfl ((if0 _ _).trans (flt (mt (lw_lt _ _).mp hc3)).2.1) (by decide) (by decide) k) ?_
      show own_Fin _ _ _ _ _ _ _ (s₁.setTop (mkF m 30 #[.val (.long q0), .second, .val (.long q1), .second, .val (.long q2), .second, .val (.long q3), .second, .unset, .unset, .unset] []))
      refine own_go (fun _ k => XS.lload X0.here hx rfl (hb hby d4_30) rfl k) ?_
      show own_Fin _ _ _ _ _ _ _ (s₁.setTop (mkF m 32 #[.val (.long q0), .second, .val (.long q1), .second, .val (.long q2), .second, .val (.long q3), .second, .unset, .unset, .unset] [(.long q2)]))
      refine own_go (fun _ k => XS.lstore X0.here hx rfl (hb hby d4_32) rfl (l' := #[.val (.long q0), .second, .val (.long q1), .second, .val (.long q2), .second, .val (.long q3), .second, .val (.long q2), .second, .unset]) rfl k) ?_
      show own_Fin _ _ _ _ _ _ _ (s₁.setTop (mkF m 34 #[.val (.long q0), .second, .val (.long q1), .second, .val (.long q2), .second, .val (.long q3), .second, .val (.long q2), .second, .unset] []))
      have kj := hk2 s₁ _ (own_mono X0 (by decide) (by decide)) N0 e0
      simpa only [if_neg hc1, if_neg hc3] using kj
theorem own_pd79 : parseMethodDescriptor "([J)V" = some ⟨[(.array .long)], none⟩ := by decide +kernel
theorem own_pd80 : parseMethodDescriptor "(JI)J" = some ⟨[.long, .int], some .long⟩ := by decide +kernel
theorem own_pd81 : parseMethodDescriptor "(JJJJ)J" = some ⟨[.long, .long, .long, .long], some .long⟩ := by decide +kernel
theorem pn_0 : plainName "com/example/slim_filter/slimfilter/cuckoo/InWordsReadPinLaw" = true := by first | (simp [plainName, overriddenIn]; done) | decide +kernel
theorem ef_0 (m : MethodId) (q0 : Int64) (q1 : Int64) (q2 : Int64) (q3 : Int64) (p4 : Int32) (p5 : Int32) : entryFrame m #[(.long q0), (.long q1), (.long q2), (.long q3), (.int p4), (.int p5)] maxLocals = mkF m 0 #[.val (.long q0), .second, .val (.long q1), .second, .val (.long q2), .second, .val (.long q3), .second, .val (.int p4), .val (.int p5), .unset, .unset, .unset, .unset, .unset, .unset, .unset, .unset, .unset, .unset, .unset, .unset] [] := by first | (simp [entryFrame, mkF, argsToLocals, Value.category, maxLocals]; done) | rfl
def own_f0 (q0 : Int64) (q1 : Int64) (q2 : Int64) (q3 : Int64) (p4 : Int32) (p5 : Int32) : Int32 := let f2 := (own_set (fun _ => (0 : Int64)) (0 : Int32) q0); let f3 := (own_set f2 (1 : Int32) q1); let f4 := (own_set f3 (2 : Int32) q2); let z7 := (((p4 &&& (2147483647 : Int32)) % (63 : Int32)) + (1 : Int32)); let z9 := (own_f3 (q3 &&& (127 : Int64)) z7 f4); let z10 := ((own_lushr z9 (p5 &&& (63 : Int32))) &&& (1 : Int64)); let z16 := (if (p5 &&& (63 : Int32)) < z7 then (own_f4 q0 q1 q2 ((q3 &&& (127 : Int64)) + ((p5 &&& (63 : Int32)).toInt64))) else (0 : Int64)); (if z10 = z16 then ((1 : Int32)) else ((0 : Int32)))
set_option maxRecDepth 65536 in
set_option maxHeartbeats 40000000 in
theorem rm0 (l : Launch) (Z : State) (a0 : Array Value) (hw : ∀ d ∈ tables_1, d.before a0 Z = true) (ws : List Jvm.Cond) (q0 : Int64) (q1 : Int64) (q2 : Int64) (q3 : Int64) (p4 : Int32) (p5 : Int32) (h0 : Heap) (n0 : Nat) (Z0 : n0 ≤ h0.size) :
    MetFree l x (head1 (Jvm.Cond.code x code maxLocals ret :: ws) room_1) (fun a U => a = #[(.long q0), (.long q1), (.long q2), (.long q3), (.int p4), (.int p5)] ∧ Z.Warmed39 U.vm ∧ U.heap = h0) (fun _ _ _ _ _ => True) (fun _ U o U' => ∃ v L, o = .returned v ∧ own_QL (some (.int (own_f0 q0 q1 q2 q3 p4 p5))) n0 v U'.heap L ∧ FrameEnd U o U' L 16 128) := by
  refine MetFree.of_bodySF (plainFor_of_name pn_0) hisR ?_
  intro p e s m args below meth c s₁ Bd hml0 hP hK
  obtain ⟨rfl, hZ, hh⟩ := hP
  have hx := Bd.exec
  have hby := Bd.bytes
  have hml : c.maxLocals = 22 := hml0
  have hown : s.vm.findClass "com/example/slim_filter/slimfilter/cuckoo/InWordsReadPinLaw" = some m.cls := findClass_of_methodNamed Bd.named
  have hnm := (name_of_methodNamed Bd.named Bd.method).1
  have hlk : meth.locks = false := BodyLoose.notSynchronized Bd
  have X0 : Stand p l e room_1 s m #[(.long q0), (.long q1), (.long q2), (.long q3), (.int p4), (.int p5)] below meth c s₁ [] 0 0 := Stand.of_body Bd
  have e0 : s₁.heap = h0 := by rw [← hh, Bd.state]; rfl
  have N0 := Fr.nil n0
  show own_Fin p.tables e below s (own_QL (some (.int (own_f0 q0 q1 q2 q3 p4 p5))) n0) 16 128 (s₁.setTop (entryFrame m #[(.long q0), (.long q1), (.long q2), (.long q3), (.int p4), (.int p5)] maxLocals))
  rw [ef_0]
  show own_Fin _ _ _ _ _ _ _ (s₁.setTop (mkF m 0 #[.val (.long q0), .second, .val (.long q1), .second, .val (.long q2), .second, .val (.long q3), .second, .val (.int p4), .val (.int p5), .unset, .unset, .unset, .unset, .unset, .unset, .unset, .unset, .unset, .unset, .unset, .unset] []))
  refine own_go (fun _ k => XS.iconst X0.here hx rfl (hb hby at_0) k) ?_
  show own_Fin _ _ _ _ _ _ _ (s₁.setTop (mkF m 1 #[.val (.long q0), .second, .val (.long q1), .second, .val (.long q2), .second, .val (.long q3), .second, .val (.int p4), .val (.int p5), .unset, .unset, .unset, .unset, .unset, .unset, .unset, .unset, .unset, .unset, .unset, .unset] [(.int (3 : Int32))]))
  obtain ⟨T1, h1, k1, X1, e1, E1, A1, st1⟩ := newP X0 hx hZ (hw _ (List.mem_of_getElem? (i := 0) rfl)) e0 (g := (mkF m 1 #[.val (.long q0), .second, .val (.long q1), .second, .val (.long q2), .second, .val (.long q3), .second, .val (.int p4), .val (.int p5), .unset, .unset, .unset, .unset, .unset, .unset, .unset, .unset, .unset, .unset, .unset, .unset] [(.int (3 : Int32))])) rfl (hb hby at_1) rfl (by decide) (cap := 3) (by decide) (by decide) (by decide) (by decide)
  obtain ⟨b1, g1⟩ : ∃ z, z = h0.size := ⟨_, rfl⟩
  rw [← g1] at A1 st1
  have ge_b1 : n0 ≤ b1 := Nat.le_trans Z0 (Nat.le_of_eq g1.symm)
  have Z1 : n0 ≤ h1.size := Nat.le_trans Z0 E1.1
  have A_b1_1 : own_Arf Z h1 b1 .long (3 : Int32) (fun i => .long ((fun _ => (0 : Int64)) i)) := own_Arf.new A1 (by decide)
  refine own_go (fun tg k => st1 tg k) ?_
  show own_Fin _ _ _ _ _ _ _ (T1.setTop (mkF m 3 #[.val (.long q0), .second, .val (.long q1), .second, .val (.long q2), .second, .val (.long q3), .second, .val (.int p4), .val (.int p5), .unset, .unset, .unset, .unset, .unset, .unset, .unset, .unset, .unset, .unset, .unset, .unset] [(.ref b1)]))
  refine own_go (fun _ k => XS.astore X1.here hx rfl (hb hby at_3) rfl rfl (l' := #[.val (.long q0), .second, .val (.long q1), .second, .val (.long q2), .second, .val (.long q3), .second, .val (.int p4), .val (.int p5), .val (.ref b1), .unset, .unset, .unset, .unset, .unset, .unset, .unset, .unset, .unset, .unset, .unset]) rfl k) ?_
  show own_Fin _ _ _ _ _ _ _ (T1.setTop (mkF m 5 #[.val (.long q0), .second, .val (.long q1), .second, .val (.long q2), .second, .val (.long q3), .second, .val (.int p4), .val (.int p5), .val (.ref b1), .unset, .unset, .unset, .unset, .unset, .unset, .unset, .unset, .unset, .unset, .unset] []))
  refine own_go (fun _ k => XS.aload X1.here hx rfl (hb hby at_5) rfl rfl k) ?_
  show own_Fin _ _ _ _ _ _ _ (T1.setTop (mkF m 7 #[.val (.long q0), .second, .val (.long q1), .second, .val (.long q2), .second, .val (.long q3), .second, .val (.int p4), .val (.int p5), .val (.ref b1), .unset, .unset, .unset, .unset, .unset, .unset, .unset, .unset, .unset, .unset, .unset] [(.ref b1)]))
  refine own_go (fun _ k => XS.iconst X1.here hx rfl (hb hby at_7) k) ?_
  show own_Fin _ _ _ _ _ _ _ (T1.setTop (mkF m 8 #[.val (.long q0), .second, .val (.long q1), .second, .val (.long q2), .second, .val (.long q3), .second, .val (.int p4), .val (.int p5), .val (.ref b1), .unset, .unset, .unset, .unset, .unset, .unset, .unset, .unset, .unset, .unset, .unset] [(.int (0 : Int32)), (.ref b1)]))
  refine own_go (fun _ k => XS.lloadN X1.here hx rfl (hb hby at_8) rfl k) ?_
  show own_Fin _ _ _ _ _ _ _ (T1.setTop (mkF m 9 #[.val (.long q0), .second, .val (.long q1), .second, .val (.long q2), .second, .val (.long q3), .second, .val (.int p4), .val (.int p5), .val (.ref b1), .unset, .unset, .unset, .unset, .unset, .unset, .unset, .unset, .unset, .unset, .unset] [(.long q0), (.int (0 : Int32)), (.ref b1)]))
  obtain ⟨T2, h2, X2, e2, W2, A_b1_2, st2⟩ := own_stJ X1 hx hZ e1 A_b1_1 (j := (0 : Int32)) ⟨by decide, by decide⟩ (g := (mkF m 9 #[.val (.long q0), .second, .val (.long q1), .second, .val (.long q2), .second, .val (.long q3), .second, .val (.int p4), .val (.int p5), .val (.ref b1), .unset, .unset, .unset, .unset, .unset, .unset, .unset, .unset, .unset, .unset, .unset] [(.long q0), (.int (0 : Int32)), (.ref b1)])) rfl rfl (hb hby at_9)
  have N2 := Fr.snoc X2 N0 ge_b1
  have Z2 : n0 ≤ h2.size := Nat.le_trans Z1 (Keep.of_wr W2).1
  obtain ⟨f2, hf2⟩ : ∃ z, z = (own_set (fun _ => (0 : Int64)) (0 : Int32) q0) := ⟨_, rfl⟩
  rw [← hf2] at A_b1_2
  refine own_go (fun tg k => st2 tg k) ?_
  show own_Fin _ _ _ _ _ _ _ (T2.setTop (mkF m 10 #[.val (.long q0), .second, .val (.long q1), .second, .val (.long q2), .second, .val (.long q3), .second, .val (.int p4), .val (.int p5), .val (.ref b1), .unset, .unset, .unset, .unset, .unset, .unset, .unset, .unset, .unset, .unset, .unset] []))
  refine own_go (fun _ k => XS.aload X2.here hx rfl (hb hby at_10) rfl rfl k) ?_
  show own_Fin _ _ _ _ _ _ _ (T2.setTop (mkF m 12 #[.val (.long q0), .second, .val (.long q1), .second, .val (.long q2), .second, .val (.long q3), .second, .val (.int p4), .val (.int p5), .val (.ref b1), .unset, .unset, .unset, .unset, .unset, .unset, .unset, .unset, .unset, .unset, .unset] [(.ref b1)]))
  refine own_go (fun _ k => XS.iconst X2.here hx rfl (hb hby at_12) k) ?_
  show own_Fin _ _ _ _ _ _ _ (T2.setTop (mkF m 13 #[.val (.long q0), .second, .val (.long q1), .second, .val (.long q2), .second, .val (.long q3), .second, .val (.int p4), .val (.int p5), .val (.ref b1), .unset, .unset, .unset, .unset, .unset, .unset, .unset, .unset, .unset, .unset, .unset] [(.int (1 : Int32)), (.ref b1)]))
  refine own_go (fun _ k => XS.lloadN X2.here hx rfl (hb hby at_13) rfl k) ?_
  show own_Fin _ _ _ _ _ _ _ (T2.setTop (mkF m 14 #[.val (.long q0), .second, .val (.long q1), .second, .val (.long q2), .second, .val (.long q3), .second, .val (.int p4), .val (.int p5), .val (.ref b1), .unset, .unset, .unset, .unset, .unset, .unset, .unset, .unset, .unset, .unset, .unset] [(.long q1), (.int (1 : Int32)), (.ref b1)]))
  obtain ⟨T3, h3, X3, e3, W3, A_b1_3, st3⟩ := own_stJ X2 hx hZ e2 A_b1_2 (j := (1 : Int32)) ⟨by decide, by decide⟩ (g := (mkF m 14 #[.val (.long q0), .second, .val (.long q1), .second, .val (.long q2), .second, .val (.long q3), .second, .val (.int p4), .val (.int p5), .val (.ref b1), .unset, .unset, .unset, .unset, .unset, .unset, .unset, .unset, .unset, .unset, .unset] [(.long q1), (.int (1 : Int32)), (.ref b1)])) rfl rfl (hb hby at_14)
  have N3 := Fr.snoc X3 N2 ge_b1
  have Z3 : n0 ≤ h3.size := Nat.le_trans Z2 (Keep.of_wr W3).1
  obtain ⟨f3, hf3⟩ : ∃ z, z = (own_set f2 (1 : Int32) q1) := ⟨_, rfl⟩
  rw [← hf3] at A_b1_3
  refine own_go (fun tg k => st3 tg k) ?_
  show own_Fin _ _ _ _ _ _ _ (T3.setTop (mkF m 15 #[.val (.long q0), .second, .val (.long q1), .second, .val (.long q2), .second, .val (.long q3), .second, .val (.int p4), .val (.int p5), .val (.ref b1), .unset, .unset, .unset, .unset, .unset, .unset, .unset, .unset, .unset, .unset, .unset] []))
  refine own_go (fun _ k => XS.aload X3.here hx rfl (hb hby at_15) rfl rfl k) ?_
  show own_Fin _ _ _ _ _ _ _ (T3.setTop (mkF m 17 #[.val (.long q0), .second, .val (.long q1), .second, .val (.long q2), .second, .val (.long q3), .second, .val (.int p4), .val (.int p5), .val (.ref b1), .unset, .unset, .unset, .unset, .unset, .unset, .unset, .unset, .unset, .unset, .unset] [(.ref b1)]))
  refine own_go (fun _ k => XS.iconst X3.here hx rfl (hb hby at_17) k) ?_
  show own_Fin _ _ _ _ _ _ _ (T3.setTop (mkF m 18 #[.val (.long q0), .second, .val (.long q1), .second, .val (.long q2), .second, .val (.long q3), .second, .val (.int p4), .val (.int p5), .val (.ref b1), .unset, .unset, .unset, .unset, .unset, .unset, .unset, .unset, .unset, .unset, .unset] [(.int (2 : Int32)), (.ref b1)]))
  refine own_go (fun _ k => XS.lload X3.here hx rfl (hb hby at_18) rfl k) ?_
  show own_Fin _ _ _ _ _ _ _ (T3.setTop (mkF m 20 #[.val (.long q0), .second, .val (.long q1), .second, .val (.long q2), .second, .val (.long q3), .second, .val (.int p4), .val (.int p5), .val (.ref b1), .unset, .unset, .unset, .unset, .unset, .unset, .unset, .unset, .unset, .unset, .unset] [(.long q2), (.int (2 : Int32)), (.ref b1)]))
  obtain ⟨T4, h4, X4, e4, W4, A_b1_4, st4⟩ := own_stJ X3 hx hZ e3 A_b1_3 (j := (2 : Int32)) ⟨by decide, by decide⟩ (g := (mkF m 20 #[.val (.long q0), .second, .val (.long q1), .second, .val (.long q2), .second, .val (.long q3), .second, .val (.int p4), .val (.int p5), .val (.ref b1), .unset, .unset, .unset, .unset, .unset, .unset, .unset, .unset, .unset, .unset, .unset] [(.long q2), (.int (2 : Int32)), (.ref b1)])) rfl rfl (hb hby at_20)
  have N4 := Fr.snoc X4 N3 ge_b1
  have Z4 : n0 ≤ h4.size := Nat.le_trans Z3 (Keep.of_wr W4).1
  obtain ⟨f4, hf4⟩ : ∃ z, z = (own_set f3 (2 : Int32) q2) := ⟨_, rfl⟩
  rw [← hf4] at A_b1_4
  refine own_go (fun tg k => st4 tg k) ?_
  show own_Fin _ _ _ _ _ _ _ (T4.setTop (mkF m 21 #[.val (.long q0), .second, .val (.long q1), .second, .val (.long q2), .second, .val (.long q3), .second, .val (.int p4), .val (.int p5), .val (.ref b1), .unset, .unset, .unset, .unset, .unset, .unset, .unset, .unset, .unset, .unset, .unset] []))
  obtain ⟨T5, h5, X5, e5, E5, A5, D5, -, st5⟩ := newO X4 hx hZ hown (hw _ (List.mem_of_getElem? (i := 1) rfl)) (hw _ (List.mem_of_getElem? (i := 2) rfl)) (hw _ (List.mem_of_getElem? (i := 3) rfl)) e4 (g := (mkF m 21 #[.val (.long q0), .second, .val (.long q1), .second, .val (.long q2), .second, .val (.long q3), .second, .val (.int p4), .val (.int p5), .val (.ref b1), .unset, .unset, .unset, .unset, .unset, .unset, .unset, .unset, .unset, .unset, .unset] [])) rfl (hb hby at_21) (by decide) (by decide)
  obtain ⟨b5, g5⟩ : ∃ z, z = h4.size := ⟨_, rfl⟩
  rw [← g5] at A5 D5 st5
  have ne_b1_b5 : b1 ≠ b5 := Nat.ne_of_lt (Nat.lt_of_lt_of_le A_b1_4.lt (Nat.le_of_eq g5.symm))
  have ge_b5 : n0 ≤ b5 := Nat.le_trans Z4 (Nat.le_of_eq g5.symm)
  have A_b1_5 := A_b1_4.ext E5
  have Z5 : n0 ≤ h5.size := Nat.le_trans Z4 E5.1
  have E_b5_5 : Exa Z h5 b5 "com/example/slim_filter/slimfilter/cuckoo/TableBits$InWords" := A5
  have F_words_b5_5 : Fld Z h5 b5 "com/example/slim_filter/slimfilter/cuckoo/TableBits$InWords" "words" "[J" .null := D5 (Or.inr (hw _ (List.mem_of_getElem? (i := 11) rfl))) (ty := (.array .long)) (by decide)
  refine own_go (fun tg k => st5 tg k) ?_
  show own_Fin _ _ _ _ _ _ _ (T5.setTop (mkF m 24 #[.val (.long q0), .second, .val (.long q1), .second, .val (.long q2), .second, .val (.long q3), .second, .val (.int p4), .val (.int p5), .val (.ref b1), .unset, .unset, .unset, .unset, .unset, .unset, .unset, .unset, .unset, .unset, .unset] [(.ref b5)]))
  refine own_go (fun _ k => XS.dup X5.here hx rfl (hb hby at_24) rfl rfl k) ?_
  show own_Fin _ _ _ _ _ _ _ (T5.setTop (mkF m 25 #[.val (.long q0), .second, .val (.long q1), .second, .val (.long q2), .second, .val (.long q3), .second, .val (.int p4), .val (.int p5), .val (.ref b1), .unset, .unset, .unset, .unset, .unset, .unset, .unset, .unset, .unset, .unset, .unset] [(.ref b5), (.ref b5)]))
  refine own_go (fun _ k => XS.aload X5.here hx rfl (hb hby at_25) rfl rfl k) ?_
  show own_Fin _ _ _ _ _ _ _ (T5.setTop (mkF m 27 #[.val (.long q0), .second, .val (.long q1), .second, .val (.long q2), .second, .val (.long q3), .second, .val (.int p4), .val (.int p5), .val (.ref b1), .unset, .unset, .unset, .unset, .unset, .unset, .unset, .unset, .unset, .unset, .unset] [(.ref b1), (.ref b5), (.ref b5)]))
  obtain ⟨_, _, ⟨T6, L6, k6, n6⟩, -, X6, ⟨Lc6, hQ6, l6, y6, z6⟩, st6⟩ := X5.specialBack hx (y := (⟨"com/example/slim_filter/slimfilter/cuckoo/TableBits$InWords", "<init>", "([J)V"⟩ : MethodName)) rfl hown (mvT hZ (hw _ (List.mem_of_getElem? (i := 4) rfl))) (mvT hZ (hw _ (List.mem_of_getElem? (i := 5) rfl))) (mvT hZ (hw _ (List.mem_of_getElem? (i := 6) rfl))) (by decide) (backOf (W := 1) (rm1 l Z a0 hw [] b5 b1 h5 n0 Z5 E_b5_5 F_words_b5_5 ge_b5) hZ (hw _ (List.mem_of_getElem? (i := 6) rfl)) (hw _ (List.mem_of_getElem? (i := 3) rfl)) (by decide) (by decide)) (g := (mkF m 27 #[.val (.long q0), .second, .val (.long q1), .second, .val (.long q2), .second, .val (.long q3), .second, .val (.int p4), .val (.int p5), .val (.ref b1), .unset, .unset, .unset, .unset, .unset, .unset, .unset, .unset, .unset, .unset, .unset] [(.ref b1), (.ref b5), (.ref b5)])) rfl (by rw [hml]; rfl) (Steps.refl _) (a := b5) (argsL := [(.ref b1)]) (rest := [(.ref b5)]) (lenOf own_pd79 rfl) rfl (by show 2 * 0 + _ ≤ _; exact Nat.le_of_eq rfl) (hb hby at_27) (fun _ _ => ⟨rfl, e5, (by decide : 2 + 0 ≤ _), (by decide : 4 + 0 ≤ _)⟩)
  dsimp only [Pt.U, Pt.locs, Pt.cells, Pt.slots] at X6 l6 y6 z6 st6 hQ6
  subst l6 y6 z6
  obtain ⟨rfl, N6q, Kq6, E_b5_6, F_words_b5_6⟩ := hQ6
  have N6 := Fr.app N4 N6q
  have A_b1_6 := A_b1_5.keep Kq6 (ninS ne_b1_b5 nin0)
  have Z6 : n0 ≤ T6.heap.size := Nat.le_trans Z5 Kq6.1
  refine own_go (fun tg k => st6.trans k) ?_
  show own_Fin _ _ _ _ _ _ _ (T6.setTop (mkF m 30 #[.val (.long q0), .second, .val (.long q1), .second, .val (.long q2), .second, .val (.long q3), .second, .val (.int p4), .val (.int p5), .val (.ref b1), .unset, .unset, .unset, .unset, .unset, .unset, .unset, .unset, .unset, .unset, .unset] [(.ref b5)]))
  refine own_go (fun _ k => XS.astore X6.here hx rfl (hb hby at_30) rfl rfl (l' := #[.val (.long q0), .second, .val (.long q1), .second, .val (.long q2), .second, .val (.long q3), .second, .val (.int p4), .val (.int p5), .val (.ref b1), .val (.ref b5), .unset, .unset, .unset, .unset, .unset, .unset, .unset, .unset, .unset, .unset]) rfl k) ?_
  show own_Fin _ _ _ _ _ _ _ (T6.setTop (mkF m 32 #[.val (.long q0), .second, .val (.long q1), .second, .val (.long q2), .second, .val (.long q3), .second, .val (.int p4), .val (.int p5), .val (.ref b1), .val (.ref b5), .unset, .unset, .unset, .unset, .unset, .unset, .unset, .unset, .unset, .unset] []))
  refine own_go (fun _ k => XS.lload X6.here hx rfl (hb hby at_32) rfl k) ?_
  show own_Fin _ _ _ _ _ _ _ (T6.setTop (mkF m 34 #[.val (.long q0), .second, .val (.long q1), .second, .val (.long q2), .second, .val (.long q3), .second, .val (.int p4), .val (.int p5), .val (.ref b1), .val (.ref b5), .unset, .unset, .unset, .unset, .unset, .unset, .unset, .unset, .unset, .unset] [(.long q3)]))
  refine own_go (fun _ k => X6.ldc2Long hx hown (mvT hZ (hw _ (List.mem_of_getElem? (i := 12) rfl))) (g := (mkF m 34 #[.val (.long q0), .second, .val (.long q1), .second, .val (.long q2), .second, .val (.long q3), .second, .val (.int p4), .val (.int p5), .val (.ref b1), .val (.ref b5), .unset, .unset, .unset, .unset, .unset, .unset, .unset, .unset, .unset, .unset] [(.long q3)])) rfl (hb hby at_34) _ k) ?_
  show own_Fin _ _ _ _ _ _ _ (T6.setTop (mkF m 37 #[.val (.long q0), .second, .val (.long q1), .second, .val (.long q2), .second, .val (.long q3), .second, .val (.int p4), .val (.int p5), .val (.ref b1), .val (.ref b5), .unset, .unset, .unset, .unset, .unset, .unset, .unset, .unset, .unset, .unset] [(.long (127 : Int64)), (.long q3)]))
  refine own_go (fun _ k => XS.land X6.here hx rfl (hb hby at_37) rfl k) ?_
  show own_Fin _ _ _ _ _ _ _ (T6.setTop (mkF m 38 #[.val (.long q0), .second, .val (.long q1), .second, .val (.long q2), .second, .val (.long q3), .second, .val (.int p4), .val (.int p5), .val (.ref b1), .val (.ref b5), .unset, .unset, .unset, .unset, .unset, .unset, .unset, .unset, .unset, .unset] [(.long (q3 &&& (127 : Int64)))]))
  refine own_go (fun _ k => XS.lstore X6.here hx rfl (hb hby at_38) rfl (l' := #[.val (.long q0), .second, .val (.long q1), .second, .val (.long q2), .second, .val (.long q3), .second, .val (.int p4), .val (.int p5), .val (.ref b1), .val (.ref b5), .val (.long (q3 &&& (127 : Int64))), .second, .unset, .unset, .unset, .unset, .unset, .unset, .unset, .unset]) rfl k) ?_
  show own_Fin _ _ _ _ _ _ _ (T6.setTop (mkF m 40 #[.val (.long q0), .second, .val (.long q1), .second, .val (.long q2), .second, .val (.long q3), .second, .val (.int p4), .val (.int p5), .val (.ref b1), .val (.ref b5), .val (.long (q3 &&& (127 : Int64))), .second, .unset, .unset, .unset, .unset, .unset, .unset, .unset, .unset] []))
  refine own_go (fun _ k => XS.iload X6.here hx rfl (hb hby at_40) rfl k) ?_
  show own_Fin _ _ _ _ _ _ _ (T6.setTop (mkF m 42 #[.val (.long q0), .second, .val (.long q1), .second, .val (.long q2), .second, .val (.long q3), .second, .val (.int p4), .val (.int p5), .val (.ref b1), .val (.ref b5), .val (.long (q3 &&& (127 : Int64))), .second, .unset, .unset, .unset, .unset, .unset, .unset, .unset, .unset] [(.int p4)]))
  refine own_go (fun _ k => X6.ldcInt hx hown (mvT hZ (hw _ (List.mem_of_getElem? (i := 13) rfl))) (g := (mkF m 42 #[.val (.long q0), .second, .val (.long q1), .second, .val (.long q2), .second, .val (.long q3), .second, .val (.int p4), .val (.int p5), .val (.ref b1), .val (.ref b5), .val (.long (q3 &&& (127 : Int64))), .second, .unset, .unset, .unset, .unset, .unset, .unset, .unset, .unset] [(.int p4)])) rfl (hb hby at_42) _ k) ?_
  show own_Fin _ _ _ _ _ _ _ (T6.setTop (mkF m 44 #[.val (.long q0), .second, .val (.long q1), .second, .val (.long q2), .second, .val (.long q3), .second, .val (.int p4), .val (.int p5), .val (.ref b1), .val (.ref b5), .val (.long (q3 &&& (127 : Int64))), .second, .unset, .unset, .unset, .unset, .unset, .unset, .unset, .unset] [(.int (2147483647 : Int32)), (.int p4)]))
  refine own_go (fun _ k => XS.iand X6.here hx rfl (hb hby at_44) rfl k) ?_
  show own_Fin _ _ _ _ _ _ _ (T6.setTop (mkF m 45 #[.val (.long q0), .second, .val (.long q1), .second, .val (.long q2), .second, .val (.long q3), .second, .val (.int p4), .val (.int p5), .val (.ref b1), .val (.ref b5), .val (.long (q3 &&& (127 : Int64))), .second, .unset, .unset, .unset, .unset, .unset, .unset, .unset, .unset] [(.int (p4 &&& (2147483647 : Int32)))]))
  refine own_go (fun _ k => XS.bipush X6.here hx rfl (hb hby at_45) k) ?_
  show own_Fin _ _ _ _ _ _ _ (T6.setTop (mkF m 47 #[.val (.long q0), .second, .val (.long q1), .second, .val (.long q2), .second, .val (.long q3), .second, .val (.int p4), .val (.int p5), .val (.ref b1), .val (.ref b5), .val (.long (q3 &&& (127 : Int64))), .second, .unset, .unset, .unset, .unset, .unset, .unset, .unset, .unset] [(.int (63 : Int32)), (.int (p4 &&& (2147483647 : Int32)))]))
  refine own_go (fun _ k => own_irem X6.here hx rfl (hb hby at_47) rfl (by decide) k) ?_
  show own_Fin _ _ _ _ _ _ _ (T6.setTop (mkF m 48 #[.val (.long q0), .second, .val (.long q1), .second, .val (.long q2), .second, .val (.long q3), .second, .val (.int p4), .val (.int p5), .val (.ref b1), .val (.ref b5), .val (.long (q3 &&& (127 : Int64))), .second, .unset, .unset, .unset, .unset, .unset, .unset, .unset, .unset] [(.int ((p4 &&& (2147483647 : Int32)) % (63 : Int32)))]))
  refine own_go (fun _ k => XS.iconst X6.here hx rfl (hb hby at_48) k) ?_
  show own_Fin _ _ _ _ _ _ _ (T6.setTop (mkF m 49 #[.val (.long q0), .second, .val (.long q1), .second, .val (.long q2), .second, .val (.long q3), .second, .val (.int p4), .val (.int p5), .val (.ref b1), .val (.ref b5), .val (.long (q3 &&& (127 : Int64))), .second, .unset, .unset, .unset, .unset, .unset, .unset, .unset, .unset] [(.int (1 : Int32)), (.int ((p4 &&& (2147483647 : Int32)) % (63 : Int32)))]))
  refine own_go (fun _ k => XS.iadd X6.here hx rfl (hb hby at_49) rfl k) ?_
  show own_Fin _ _ _ _ _ _ _ (T6.setTop (mkF m 50 #[.val (.long q0), .second, .val (.long q1), .second, .val (.long q2), .second, .val (.long q3), .second, .val (.int p4), .val (.int p5), .val (.ref b1), .val (.ref b5), .val (.long (q3 &&& (127 : Int64))), .second, .unset, .unset, .unset, .unset, .unset, .unset, .unset, .unset] [(.int (((p4 &&& (2147483647 : Int32)) % (63 : Int32)) + (1 : Int32)))]))
  refine own_go (fun _ k => XS.istore X6.here hx rfl (hb hby at_50) rfl (l' := #[.val (.long q0), .second, .val (.long q1), .second, .val (.long q2), .second, .val (.long q3), .second, .val (.int p4), .val (.int p5), .val (.ref b1), .val (.ref b5), .val (.long (q3 &&& (127 : Int64))), .second, .val (.int (((p4 &&& (2147483647 : Int32)) % (63 : Int32)) + (1 : Int32))), .unset, .unset, .unset, .unset, .unset, .unset, .unset]) rfl k) ?_
  show own_Fin _ _ _ _ _ _ _ (T6.setTop (mkF m 52 #[.val (.long q0), .second, .val (.long q1), .second, .val (.long q2), .second, .val (.long q3), .second, .val (.int p4), .val (.int p5), .val (.ref b1), .val (.ref b5), .val (.long (q3 &&& (127 : Int64))), .second, .val (.int (((p4 &&& (2147483647 : Int32)) % (63 : Int32)) + (1 : Int32))), .unset, .unset, .unset, .unset, .unset, .unset, .unset] []))
  generalize hz7 : (((p4 &&& (2147483647 : Int32)) % (63 : Int32)) + (1 : Int32)) = z7
  show own_Fin _ _ _ _ _ _ _ (T6.setTop (mkF m 52 #[.val (.long q0), .second, .val (.long q1), .second, .val (.long q2), .second, .val (.long q3), .second, .val (.int p4), .val (.int p5), .val (.ref b1), .val (.ref b5), .val (.long (q3 &&& (127 : Int64))), .second, .val (.int z7), .unset, .unset, .unset, .unset, .unset, .unset, .unset] []))
  refine own_go (fun _ k => XS.iload X6.here hx rfl (hb hby at_52) rfl k) ?_
  show own_Fin _ _ _ _ _ _ _ (T6.setTop (mkF m 54 #[.val (.long q0), .second, .val (.long q1), .second, .val (.long q2), .second, .val (.long q3), .second, .val (.int p4), .val (.int p5), .val (.ref b1), .val (.ref b5), .val (.long (q3 &&& (127 : Int64))), .second, .val (.int z7), .unset, .unset, .unset, .unset, .unset, .unset, .unset] [(.int p5)]))
  refine own_go (fun _ k => XS.bipush X6.here hx rfl (hb hby at_54) k) ?_
  show own_Fin _ _ _ _ _ _ _ (T6.setTop (mkF m 56 #[.val (.long q0), .second, .val (.long q1), .second, .val (.long q2), .second, .val (.long q3), .second, .val (.int p4), .val (.int p5), .val (.ref b1), .val (.ref b5), .val (.long (q3 &&& (127 : Int64))), .second, .val (.int z7), .unset, .unset, .unset, .unset, .unset, .unset, .unset] [(.int (63 : Int32)), (.int p5)]))
  refine own_go (fun _ k => XS.iand X6.here hx rfl (hb hby at_56) rfl k) ?_
  show own_Fin _ _ _ _ _ _ _ (T6.setTop (mkF m 57 #[.val (.long q0), .second, .val (.long q1), .second, .val (.long q2), .second, .val (.long q3), .second, .val (.int p4), .val (.int p5), .val (.ref b1), .val (.ref b5), .val (.long (q3 &&& (127 : Int64))), .second, .val (.int z7), .unset, .unset, .unset, .unset, .unset, .unset, .unset] [(.int (p5 &&& (63 : Int32)))]))
  refine own_go (fun _ k => XS.istore X6.here hx rfl (hb hby at_57) rfl (l' := #[.val (.long q0), .second, .val (.long q1), .second, .val (.long q2), .second, .val (.long q3), .second, .val (.int p4), .val (.int p5), .val (.ref b1), .val (.ref b5), .val (.long (q3 &&& (127 : Int64))), .second, .val (.int z7), .val (.int (p5 &&& (63 : Int32))), .unset, .unset, .unset, .unset, .unset, .unset]) rfl k) ?_
  show own_Fin _ _ _ _ _ _ _ (T6.setTop (mkF m 59 #[.val (.long q0), .second, .val (.long q1), .second, .val (.long q2), .second, .val (.long q3), .second, .val (.int p4), .val (.int p5), .val (.ref b1), .val (.ref b5), .val (.long (q3 &&& (127 : Int64))), .second, .val (.int z7), .val (.int (p5 &&& (63 : Int32))), .unset, .unset, .unset, .unset, .unset, .unset] []))
  refine own_go (fun _ k => XS.aload X6.here hx rfl (hb hby at_59) rfl rfl k) ?_
  show own_Fin _ _ _ _ _ _ _ (T6.setTop (mkF m 61 #[.val (.long q0), .second, .val (.long q1), .second, .val (.long q2), .second, .val (.long q3), .second, .val (.int p4), .val (.int p5), .val (.ref b1), .val (.ref b5), .val (.long (q3 &&& (127 : Int64))), .second, .val (.int z7), .val (.int (p5 &&& (63 : Int32))), .unset, .unset, .unset, .unset, .unset, .unset] [(.ref b5)]))
  refine own_go (fun _ k => XS.lload X6.here hx rfl (hb hby at_61) rfl k) ?_
  show own_Fin _ _ _ _ _ _ _ (T6.setTop (mkF m 63 #[.val (.long q0), .second, .val (.long q1), .second, .val (.long q2), .second, .val (.long q3), .second, .val (.int p4), .val (.int p5), .val (.ref b1), .val (.ref b5), .val (.long (q3 &&& (127 : Int64))), .second, .val (.int z7), .val (.int (p5 &&& (63 : Int32))), .unset, .unset, .unset, .unset, .unset, .unset] [(.long (q3 &&& (127 : Int64))), (.ref b5)]))
  refine own_go (fun _ k => XS.iload X6.here hx rfl (hb hby at_63) rfl k) ?_
  show own_Fin _ _ _ _ _ _ _ (T6.setTop (mkF m 65 #[.val (.long q0), .second, .val (.long q1), .second, .val (.long q2), .second, .val (.long q3), .second, .val (.int p4), .val (.int p5), .val (.ref b1), .val (.ref b5), .val (.long (q3 &&& (127 : Int64))), .second, .val (.int z7), .val (.int (p5 &&& (63 : Int32))), .unset, .unset, .unset, .unset, .unset, .unset] [(.int z7), (.long (q3 &&& (127 : Int64))), (.ref b5)]))
  obtain ⟨cq8, kq8, q8a, q8b, q8c⟩ := isOf hZ rfl E_b5_6
  obtain ⟨_, _, ⟨T8, L8, k8, n8⟩, -, X8, ⟨Lc8, hQ8, l8, y8, z8⟩, st8⟩ := X6.virtualBack hx (y := (⟨"com/example/slim_filter/slimfilter/cuckoo/TableBits$InWords", "read", "(JI)J"⟩ : MethodName)) (z := (⟨"com/example/slim_filter/slimfilter/cuckoo/TableBits$InWords", "read", "(JI)J"⟩ : MethodName)) hown (mvT hZ (hw _ (List.mem_of_getElem? (i := 14) rfl))) (mvT hZ (hw _ (List.mem_of_getElem? (i := 15) rfl))) (notFace_of_selects (args := #[]) (mvT hZ (hw _ (List.mem_of_getElem? (i := 17) rfl)))) (mvT hZ (hw _ (List.mem_of_getElem? (i := 17) rfl))) (mvT hZ (hw _ (List.mem_of_getElem? (i := 16) rfl))) (by decide) (backOf (W := 0) (rm3 l Z a0 hw [] b5 (q3 &&& (127 : Int64)) z7 b1 f4 T6.heap n0 Z6 F_words_b5_6 A_b1_6 (by first | exact own_b0 _ | (subst_vars; exact own_b0 _)) (by first | exact own_b1 _ | (subst_vars; exact own_b1 _))) hZ (hw _ (List.mem_of_getElem? (i := 18) rfl)) (hw _ (List.mem_of_getElem? (i := 3) rfl)) (by decide) (by decide)) q8a q8c (g := (mkF m 65 #[.val (.long q0), .second, .val (.long q1), .second, .val (.long q2), .second, .val (.long q3), .second, .val (.int p4), .val (.int p5), .val (.ref b1), .val (.ref b5), .val (.long (q3 &&& (127 : Int64))), .second, .val (.int z7), .val (.int (p5 &&& (63 : Int32))), .unset, .unset, .unset, .unset, .unset, .unset] [(.int z7), (.long (q3 &&& (127 : Int64))), (.ref b5)])) rfl (by rw [hml]; rfl) (Steps.refl _) (argsL := [(.long (q3 &&& (127 : Int64))), (.int z7)]) (rest := []) (lenOf own_pd80 rfl) rfl (by show 2 * 0 + _ ≤ _; exact Nat.le_of_eq rfl) (hb hby at_65) (fun _ _ => ⟨rfl, rfl, (by decide : 2 + 0 ≤ _), (by decide : 4 + 0 ≤ _)⟩)
  dsimp only [Pt.U, Pt.locs, Pt.cells, Pt.slots] at X8 l8 y8 z8 st8 hQ8
  subst l8 y8 z8
  obtain ⟨rfl, N8q, e8⟩ := hQ8
  have N8 := Fr.app N6 N8q
  refine own_go (fun tg k => st8.trans k) ?_
  show own_Fin _ _ _ _ _ _ _ (T8.setTop (mkF m 68 #[.val (.long q0), .second, .val (.long q1), .second, .val (.long q2), .second, .val (.long q3), .second, .val (.int p4), .val (.int p5), .val (.ref b1), .val (.ref b5), .val (.long (q3 &&& (127 : Int64))), .second, .val (.int z7), .val (.int (p5 &&& (63 : Int32))), .unset, .unset, .unset, .unset, .unset, .unset] [(.long (own_f3 (q3 &&& (127 : Int64)) z7 f4))]))
  refine own_go (fun _ k => XS.lstore X8.here hx rfl (hb hby at_68) rfl (l' := #[.val (.long q0), .second, .val (.long q1), .second, .val (.long q2), .second, .val (.long q3), .second, .val (.int p4), .val (.int p5), .val (.ref b1), .val (.ref b5), .val (.long (q3 &&& (127 : Int64))), .second, .val (.int z7), .val (.int (p5 &&& (63 : Int32))), .val (.long (own_f3 (q3 &&& (127 : Int64)) z7 f4)), .second, .unset, .unset, .unset, .unset]) rfl k) ?_
  show own_Fin _ _ _ _ _ _ _ (T8.setTop (mkF m 70 #[.val (.long q0), .second, .val (.long q1), .second, .val (.long q2), .second, .val (.long q3), .second, .val (.int p4), .val (.int p5), .val (.ref b1), .val (.ref b5), .val (.long (q3 &&& (127 : Int64))), .second, .val (.int z7), .val (.int (p5 &&& (63 : Int32))), .val (.long (own_f3 (q3 &&& (127 : Int64)) z7 f4)), .second, .unset, .unset, .unset, .unset] []))
  generalize hz9 : (own_f3 (q3 &&& (127 : Int64)) z7 f4) = z9
  show own_Fin _ _ _ _ _ _ _ (T8.setTop (mkF m 70 #[.val (.long q0), .second, .val (.long q1), .second, .val (.long q2), .second, .val (.long q3), .second, .val (.int p4), .val (.int p5), .val (.ref b1), .val (.ref b5), .val (.long (q3 &&& (127 : Int64))), .second, .val (.int z7), .val (.int (p5 &&& (63 : Int32))), .val (.long z9), .second, .unset, .unset, .unset, .unset] []))
  refine own_go (fun _ k => XS.lload X8.here hx rfl (hb hby at_70) rfl k) ?_
  show own_Fin _ _ _ _ _ _ _ (T8.setTop (mkF m 72 #[.val (.long q0), .second, .val (.long q1), .second, .val (.long q2), .second, .val (.long q3), .second, .val (.int p4), .val (.int p5), .val (.ref b1), .val (.ref b5), .val (.long (q3 &&& (127 : Int64))), .second, .val (.int z7), .val (.int (p5 &&& (63 : Int32))), .val (.long z9), .second, .unset, .unset, .unset, .unset] [(.long z9)]))
  refine own_go (fun _ k => XS.iload X8.here hx rfl (hb hby at_72) rfl k) ?_
  show own_Fin _ _ _ _ _ _ _ (T8.setTop (mkF m 74 #[.val (.long q0), .second, .val (.long q1), .second, .val (.long q2), .second, .val (.long q3), .second, .val (.int p4), .val (.int p5), .val (.ref b1), .val (.ref b5), .val (.long (q3 &&& (127 : Int64))), .second, .val (.int z7), .val (.int (p5 &&& (63 : Int32))), .val (.long z9), .second, .unset, .unset, .unset, .unset] [(.int (p5 &&& (63 : Int32))), (.long z9)]))
  refine own_go (fun _ k => XS.lushr X8.here hx rfl (hb hby at_74) rfl k) ?_
  show own_Fin _ _ _ _ _ _ _ (T8.setTop (mkF m 75 #[.val (.long q0), .second, .val (.long q1), .second, .val (.long q2), .second, .val (.long q3), .second, .val (.int p4), .val (.int p5), .val (.ref b1), .val (.ref b5), .val (.long (q3 &&& (127 : Int64))), .second, .val (.int z7), .val (.int (p5 &&& (63 : Int32))), .val (.long z9), .second, .unset, .unset, .unset, .unset] [(.long (own_lushr z9 (p5 &&& (63 : Int32))))]))
  refine own_go (fun _ k => XS.lconst X8.here hx rfl (hb hby at_75) k) ?_
  show own_Fin _ _ _ _ _ _ _ (T8.setTop (mkF m 76 #[.val (.long q0), .second, .val (.long q1), .second, .val (.long q2), .second, .val (.long q3), .second, .val (.int p4), .val (.int p5), .val (.ref b1), .val (.ref b5), .val (.long (q3 &&& (127 : Int64))), .second, .val (.int z7), .val (.int (p5 &&& (63 : Int32))), .val (.long z9), .second, .unset, .unset, .unset, .unset] [(.long (1 : Int64)), (.long (own_lushr z9 (p5 &&& (63 : Int32))))]))
  refine own_go (fun _ k => XS.land X8.here hx rfl (hb hby at_76) rfl k) ?_
  show own_Fin _ _ _ _ _ _ _ (T8.setTop (mkF m 77 #[.val (.long q0), .second, .val (.long q1), .second, .val (.long q2), .second, .val (.long q3), .second, .val (.int p4), .val (.int p5), .val (.ref b1), .val (.ref b5), .val (.long (q3 &&& (127 : Int64))), .second, .val (.int z7), .val (.int (p5 &&& (63 : Int32))), .val (.long z9), .second, .unset, .unset, .unset, .unset] [(.long ((own_lushr z9 (p5 &&& (63 : Int32))) &&& (1 : Int64)))]))
  refine own_go (fun _ k => XS.lstore X8.here hx rfl (hb hby at_77) rfl (l' := #[.val (.long q0), .second, .val (.long q1), .second, .val (.long q2), .second, .val (.long q3), .second, .val (.int p4), .val (.int p5), .val (.ref b1), .val (.ref b5), .val (.long (q3 &&& (127 : Int64))), .second, .val (.int z7), .val (.int (p5 &&& (63 : Int32))), .val (.long z9), .second, .val (.long ((own_lushr z9 (p5 &&& (63 : Int32))) &&& (1 : Int64))), .second, .unset, .unset]) rfl k) ?_
  show own_Fin _ _ _ _ _ _ _ (T8.setTop (mkF m 79 #[.val (.long q0), .second, .val (.long q1), .second, .val (.long q2), .second, .val (.long q3), .second, .val (.int p4), .val (.int p5), .val (.ref b1), .val (.ref b5), .val (.long (q3 &&& (127 : Int64))), .second, .val (.int z7), .val (.int (p5 &&& (63 : Int32))), .val (.long z9), .second, .val (.long ((own_lushr z9 (p5 &&& (63 : Int32))) &&& (1 : Int64))), .second, .unset, .unset] []))
  generalize hz10 : ((own_lushr z9 (p5 &&& (63 : Int32))) &&& (1 : Int64)) = z10
  show own_Fin _ _ _ _ _ _ _ (T8.setTop (mkF m 79 #[.val (.long q0), .second, .val (.long q1), .second, .val (.long q2), .second, .val (.long q3), .second, .val (.int p4), .val (.int p5), .val (.ref b1), .val (.ref b5), .val (.long (q3 &&& (127 : Int64))), .second, .val (.int z7), .val (.int (p5 &&& (63 : Int32))), .val (.long z9), .second, .val (.long z10), .second, .unset, .unset] []))
  refine own_go (fun _ k => XS.lconst X8.here hx rfl (hb hby at_79) k) ?_
  show own_Fin _ _ _ _ _ _ _ (T8.setTop (mkF m 80 #[.val (.long q0), .second, .val (.long q1), .second, .val (.long q2), .second, .val (.long q3), .second, .val (.int p4), .val (.int p5), .val (.ref b1), .val (.ref b5), .val (.long (q3 &&& (127 : Int64))), .second, .val (.int z7), .val (.int (p5 &&& (63 : Int32))), .val (.long z9), .second, .val (.long z10), .second, .unset, .unset] [(.long (0 : Int64))]))
  refine own_go (fun _ k => XS.lstore X8.here hx rfl (hb hby at_80) rfl (l' := #[.val (.long q0), .second, .val (.long q1), .second, .val (.long q2), .second, .val (.long q3), .second, .val (.int p4), .val (.int p5), .val (.ref b1), .val (.ref b5), .val (.long (q3 &&& (127 : Int64))), .second, .val (.int z7), .val (.int (p5 &&& (63 : Int32))), .val (.long z9), .second, .val (.long z10), .second, .val (.long (0 : Int64)), .second]) rfl k) ?_
  show own_Fin _ _ _ _ _ _ _ (T8.setTop (mkF m 82 #[.val (.long q0), .second, .val (.long q1), .second, .val (.long q2), .second, .val (.long q3), .second, .val (.int p4), .val (.int p5), .val (.ref b1), .val (.ref b5), .val (.long (q3 &&& (127 : Int64))), .second, .val (.int z7), .val (.int (p5 &&& (63 : Int32))), .val (.long z9), .second, .val (.long z10), .second, .val (.long (0 : Int64)), .second] []))
  refine own_go (fun _ k => XS.iload X8.here hx rfl (hb hby at_82) rfl k) ?_
  show own_Fin _ _ _ _ _ _ _ (T8.setTop (mkF m 84 #[.val (.long q0), .second, .val (.long q1), .second, .val (.long q2), .second, .val (.long q3), .second, .val (.int p4), .val (.int p5), .val (.ref b1), .val (.ref b5), .val (.long (q3 &&& (127 : Int64))), .second, .val (.int z7), .val (.int (p5 &&& (63 : Int32))), .val (.long z9), .second, .val (.long z10), .second, .val (.long (0 : Int64)), .second] [(.int (p5 &&& (63 : Int32)))]))
  refine own_go (fun _ k => XS.iload X8.here hx rfl (hb hby at_84) rfl k) ?_
  show own_Fin _ _ _ _ _ _ _ (T8.setTop (mkF m 86 #[.val (.long q0), .second, .val (.long q1), .second, .val (.long q2), .second, .val (.long q3), .second, .val (.int p4), .val (.int p5), .val (.ref b1), .val (.ref b5), .val (.long (q3 &&& (127 : Int64))), .second, .val (.int z7), .val (.int (p5 &&& (63 : Int32))), .val (.long z9), .second, .val (.long z10), .second, .val (.long (0 : Int64)), .second] [(.int z7), (.int (p5 &&& (63 : Int32)))]))
  have hk12 : ∀ (T' : State) (L' : List Loc), Stand p l e room_1 s m #[(.long q0), (.long q1), (.long q2), (.long q3), (.int p4), (.int p5)] below meth c T' L' 2 4 → Fr n0 L' → T'.heap = T6.heap → own_Fin p.tables e below s (own_QL (some (.int (own_f0 q0 q1 q2 q3 p4 p5))) n0) 16 128 (T'.setTop (mkF m 104 #[.val (.long q0), .second, .val (.long q1), .second, .val (.long q2), .second, .val (.long q3), .second, .val (.int p4), .val (.int p5), .val (.ref b1), .val (.ref b5), .val (.long (q3 &&& (127 : Int64))), .second, .val (.int z7), .val (.int (p5 &&& (63 : Int32))), .val (.long z9), .second, .val (.long z10), .second, .val (.long (if (p5 &&& (63 : Int32)) < z7 then (own_f4 q0 q1 q2 ((q3 &&& (127 : Int64)) + ((p5 &&& (63 : Int32)).toInt64))) else (0 : Int64))), .second] [])) := by
    intro T15 L15 X15 N15 e15
    generalize hz16 : (if (p5 &&& (63 : Int32)) < z7 then (own_f4 q0 q1 q2 ((q3 &&& (127 : Int64)) + ((p5 &&& (63 : Int32)).toInt64))) else (0 : Int64)) = z16
    show own_Fin _ _ _ _ _ _ _ (T15.setTop (mkF m 104 #[.val (.long q0), .second, .val (.long q1), .second, .val (.long q2), .second, .val (.long q3), .second, .val (.int p4), .val (.int p5), .val (.ref b1), .val (.ref b5), .val (.long (q3 &&& (127 : Int64))), .second, .val (.int z7), .val (.int (p5 &&& (63 : Int32))), .val (.long z9), .second, .val (.long z10), .second, .val (.long z16), .second] []))
    refine own_go (fun _ k => XS.lload X15.here hx rfl (hb hby at_104) rfl k) ?_
    show own_Fin _ _ _ _ _ _ _ (T15.setTop (mkF m 106 #[.val (.long q0), .second, .val (.long q1), .second, .val (.long q2), .second, .val (.long q3), .second, .val (.int p4), .val (.int p5), .val (.ref b1), .val (.ref b5), .val (.long (q3 &&& (127 : Int64))), .second, .val (.int z7), .val (.int (p5 &&& (63 : Int32))), .val (.long z9), .second, .val (.long z10), .second, .val (.long z16), .second] [(.long z10)]))
    refine own_go (fun _ k => XS.lload X15.here hx rfl (hb hby at_106) rfl k) ?_
    show own_Fin _ _ _ _ _ _ _ (T15.setTop (mkF m 108 #[.val (.long q0), .second, .val (.long q1), .second, .val (.long q2), .second, .val (.long q3), .second, .val (.int p4), .val (.int p5), .val (.ref b1), .val (.ref b5), .val (.long (q3 &&& (127 : Int64))), .second, .val (.int z7), .val (.int (p5 &&& (63 : Int32))), .val (.long z9), .second, .val (.long z10), .second, .val (.long z16), .second] [(.long z16), (.long z10)]))
    refine own_go (fun _ k => XS.lcmp X15.here hx rfl (hb hby at_108) rfl k) ?_
    show own_Fin _ _ _ _ _ _ _ (T15.setTop (mkF m 109 #[.val (.long q0), .second, .val (.long q1), .second, .val (.long q2), .second, .val (.long q3), .second, .val (.int p4), .val (.int p5), .val (.ref b1), .val (.ref b5), .val (.long (q3 &&& (127 : Int64))), .second, .val (.int z7), .val (.int (p5 &&& (63 : Int32))), .val (.long z9), .second, .val (.long z10), .second, .val (.long z16), .second] [(.int (lcmpW z10 z16))]))
    by_cases hc17 : z10 = z16
    · refine own_go (fun _ k => XS.ifNo X15.here hx rfl (hb hby at_109) rfl ((if0 _ _).trans (teq ((lw_eq _ _).mpr hc17)).2) k) ?_
      show own_Fin _ _ _ _ _ _ _ (T15.setTop (mkF m 112 #[.val (.long q0), .second, .val (.long q1), .second, .val (.long q2), .second, .val (.long q3), .second, .val (.int p4), .val (.int p5), .val (.ref b1), .val (.ref b5), .val (.long (q3 &&& (127 : Int64))), .second, .val (.int z7), .val (.int (p5 &&& (63 : Int32))), .val (.long z9), .second, .val (.long z10), .second, .val (.long z16), .second] []))
      refine own_go (fun _ k => XS.iconst X15.here hx rfl (hb hby at_112) k) ?_
      show own_Fin _ _ _ _ _ _ _ (T15.setTop (mkF m 113 #[.val (.long q0), .second, .val (.long q1), .second, .val (.long q2), .second, .val (.long q3), .second, .val (.int p4), .val (.int p5), .val (.ref b1), .val (.ref b5), .val (.long (q3 &&& (127 : Int64))), .second, .val (.int z7), .val (.int (p5 &&& (63 : Int32))), .val (.long z9), .second, .val (.long z10), .second, .val (.long z16), .second] [(.int (1 : Int32))]))
      refine own_go (fun _ k => XS.goto X15.here hx rfl (pc0 := 113) (pc' := 117) rfl (hb hby at_113) (by decide) (by decide) k) ?_
      show own_Fin _ _ _ _ _ _ _ (T15.setTop (mkF m 117 #[.val (.long q0), .second, .val (.long q1), .second, .val (.long q2), .second, .val (.long q3), .second, .val (.int p4), .val (.int p5), .val (.ref b1), .val (.ref b5), .val (.long (q3 &&& (127 : Int64))), .second, .val (.int z7), .val (.int (p5 &&& (63 : Int32))), .val (.long z9), .second, .val (.long z10), .second, .val (.long z16), .second] [(.int (1 : Int32))]))
      refine own_ret X15 hx hlk Bd.returns rfl (Or.inl ⟨rfl, by simp, _, rfl⟩) (hb hby at_117) (Nat.le_of_ble_eq_true rfl) (Nat.le_of_ble_eq_true rfl) ?_
      try subst hz16
      try subst hz10
      try subst hz9
      try subst hz7
      try subst hf4
      try subst hf3
      try subst hf2
      refine ⟨?_, N15, trivial⟩
      first | rfl | (simp only [own_f0, if_pos hc17]; done) | (simp only [own_f0, if_pos hc17]; rfl)
    · refine own_go (fun _ k => XS.ifYes X15.here hx rfl (pc0 := 109) (pc' := 116) rfl (hb hby at_109) rfl ((if0 _ _).trans (feq (mt (lw_eq _ _).mp hc17)).2) (by decide) (by decide) k) ?_
      show own_Fin _ _ _ _ _ _ _ (T15.setTop (mkF m 116 #[.val (.long q0), .second, .val (.long q1), .second, .val (.long q2), .second, .val (.long q3), .second, .val (.int p4), .val (.int p5), .val (.ref b1), .val (.ref b5), .val (.long (q3 &&& (127 : Int64))), .second, .val (.int z7), .val (.int (p5 &&& (63 : Int32))), .val (.long z9), .second, .val (.long z10), .second, .val (.long z16), .second] []))
      refine own_go (fun _ k => XS.iconst X15.here hx rfl (hb hby at_116) k) ?_
      show own_Fin _ _ _ _ _ _ _ (T15.setTop (mkF m 117 #[.val (.long q0), .second, .val (.long q1), .second, .val (.long q2), .second, .val (.long q3), .second, .val (.int p4), .val (.int p5), .val (.ref b1), .val (.ref b5), .val (.long (q3 &&& (127 : Int64))), .second, .val (.int z7), .val (.int (p5 &&& (63 : Int32))), .val (.long z9), .second, .val (.long z10), .second, .val (.long z16), .second] [(.int (0 : Int32))]))
      refine own_ret X15 hx hlk Bd.returns rfl (Or.inl ⟨rfl, by simp, _, rfl⟩) (hb hby at_117) (Nat.le_of_ble_eq_true rfl) (Nat.le_of_ble_eq_true rfl) ?_
      try subst hz16
      try subst hz10
      try subst hz9
      try subst hz7
      try subst hf4
      try subst hf3
      try subst hf2
      refine ⟨?_, N15, trivial⟩
      first | rfl | (simp only [own_f0, if_neg hc17]; done) | (simp only [own_f0, if_neg hc17]; rfl)
  by_cases hc11 : (p5 &&& (63 : Int32)) < z7
  · refine own_go (fun _ k => XS.icmpNo X8.here hx rfl (hb hby at_86) rfl (tlt hc11).2.1 k) ?_
    show own_Fin _ _ _ _ _ _ _ (T8.setTop (mkF m 89 #[.val (.long q0), .second, .val (.long q1), .second, .val (.long q2), .second, .val (.long q3), .second, .val (.int p4), .val (.int p5), .val (.ref b1), .val (.ref b5), .val (.long (q3 &&& (127 : Int64))), .second, .val (.int z7), .val (.int (p5 &&& (63 : Int32))), .val (.long z9), .second, .val (.long z10), .second, .val (.long (0 : Int64)), .second] []))
    refine own_go (fun _ k => XS.lloadN X8.here hx rfl (hb hby at_89) rfl k) ?_
    show own_Fin _ _ _ _ _ _ _ (T8.setTop (mkF m 90 #[.val (.long q0), .second, .val (.long q1), .second, .val (.long q2), .second, .val (.long q3), .second, .val (.int p4), .val (.int p5), .val (.ref b1), .val (.ref b5), .val (.long (q3 &&& (127 : Int64))), .second, .val (.int z7), .val (.int (p5 &&& (63 : Int32))), .val (.long z9), .second, .val (.long z10), .second, .val (.long (0 : Int64)), .second] [(.long q0)]))
    refine own_go (fun _ k => XS.lloadN X8.here hx rfl (hb hby at_90) rfl k) ?_
    show own_Fin _ _ _ _ _ _ _ (T8.setTop (mkF m 91 #[.val (.long q0), .second, .val (.long q1), .second, .val (.long q2), .second, .val (.long q3), .second, .val (.int p4), .val (.int p5), .val (.ref b1), .val (.ref b5), .val (.long (q3 &&& (127 : Int64))), .second, .val (.int z7), .val (.int (p5 &&& (63 : Int32))), .val (.long z9), .second, .val (.long z10), .second, .val (.long (0 : Int64)), .second] [(.long q1), (.long q0)]))
    refine own_go (fun _ k => XS.lload X8.here hx rfl (hb hby at_91) rfl k) ?_
    show own_Fin _ _ _ _ _ _ _ (T8.setTop (mkF m 93 #[.val (.long q0), .second, .val (.long q1), .second, .val (.long q2), .second, .val (.long q3), .second, .val (.int p4), .val (.int p5), .val (.ref b1), .val (.ref b5), .val (.long (q3 &&& (127 : Int64))), .second, .val (.int z7), .val (.int (p5 &&& (63 : Int32))), .val (.long z9), .second, .val (.long z10), .second, .val (.long (0 : Int64)), .second] [(.long q2), (.long q1), (.long q0)]))
    refine own_go (fun _ k => XS.lload X8.here hx rfl (hb hby at_93) rfl k) ?_
    show own_Fin _ _ _ _ _ _ _ (T8.setTop (mkF m 95 #[.val (.long q0), .second, .val (.long q1), .second, .val (.long q2), .second, .val (.long q3), .second, .val (.int p4), .val (.int p5), .val (.ref b1), .val (.ref b5), .val (.long (q3 &&& (127 : Int64))), .second, .val (.int z7), .val (.int (p5 &&& (63 : Int32))), .val (.long z9), .second, .val (.long z10), .second, .val (.long (0 : Int64)), .second] [(.long (q3 &&& (127 : Int64))), (.long q2), (.long q1), (.long q0)]))
    refine own_go (fun _ k => XS.iload X8.here hx rfl (hb hby at_95) rfl k) ?_
    show own_Fin _ _ _ _ _ _ _ (T8.setTop (mkF m 97 #[.val (.long q0), .second, .val (.long q1), .second, .val (.long q2), .second, .val (.long q3), .second, .val (.int p4), .val (.int p5), .val (.ref b1), .val (.ref b5), .val (.long (q3 &&& (127 : Int64))), .second, .val (.int z7), .val (.int (p5 &&& (63 : Int32))), .val (.long z9), .second, .val (.long z10), .second, .val (.long (0 : Int64)), .second] [(.int (p5 &&& (63 : Int32))), (.long (q3 &&& (127 : Int64))), (.long q2), (.long q1), (.long q0)]))
    refine own_go (fun _ k => XS.i2l X8.here hx rfl (hb hby at_97) rfl k) ?_
    show own_Fin _ _ _ _ _ _ _ (T8.setTop (mkF m 98 #[.val (.long q0), .second, .val (.long q1), .second, .val (.long q2), .second, .val (.long q3), .second, .val (.int p4), .val (.int p5), .val (.ref b1), .val (.ref b5), .val (.long (q3 &&& (127 : Int64))), .second, .val (.int z7), .val (.int (p5 &&& (63 : Int32))), .val (.long z9), .second, .val (.long z10), .second, .val (.long (0 : Int64)), .second] [(.long ((p5 &&& (63 : Int32)).toInt64)), (.long (q3 &&& (127 : Int64))), (.long q2), (.long q1), (.long q0)]))
    refine own_go (fun _ k => XS.ladd X8.here hx rfl (hb hby at_98) rfl k) ?_
    show own_Fin _ _ _ _ _ _ _ (T8.setTop (mkF m 99 #[.val (.long q0), .second, .val (.long q1), .second, .val (.long q2), .second, .val (.long q3), .second, .val (.int p4), .val (.int p5), .val (.ref b1), .val (.ref b5), .val (.long (q3 &&& (127 : Int64))), .second, .val (.int z7), .val (.int (p5 &&& (63 : Int32))), .val (.long z9), .second, .val (.long z10), .second, .val (.long (0 : Int64)), .second] [(.long ((q3 &&& (127 : Int64)) + ((p5 &&& (63 : Int32)).toInt64))), (.long q2), (.long q1), (.long q0)]))
    obtain ⟨_, _, ⟨T13, L13, k13, n13⟩, -, X13, ⟨Lc13, hQ13, l13, y13, z13⟩, st13⟩ := Jvm.LawKit.callS X8 hx (y := (⟨"com/example/slim_filter/slimfilter/cuckoo/InWordsReadPinLaw", "tableBit", "(JJJJ)J"⟩ : MethodName)) hown (mvT hZ (hw _ (List.mem_of_getElem? (i := 20) rfl))) (mvT hZ (hw _ (List.mem_of_getElem? (i := 21) rfl))) (mvT hZ (hw _ (List.mem_of_getElem? (i := 22) rfl))) (mvT hZ (hw _ (List.mem_of_getElem? (i := 23) rfl))) (by decide) (backOf (W := 0) (rm4 l Z a0 hw [] q0 q1 q2 ((q3 &&& (127 : Int64)) + ((p5 &&& (63 : Int32)).toInt64)) T6.heap n0 Z6) hZ (hw _ (List.mem_of_getElem? (i := 23) rfl)) (hw _ (List.mem_of_getElem? (i := 22) rfl)) (by decide) (by decide)) (g := (mkF m 99 #[.val (.long q0), .second, .val (.long q1), .second, .val (.long q2), .second, .val (.long q3), .second, .val (.int p4), .val (.int p5), .val (.ref b1), .val (.ref b5), .val (.long (q3 &&& (127 : Int64))), .second, .val (.int z7), .val (.int (p5 &&& (63 : Int32))), .val (.long z9), .second, .val (.long z10), .second, .val (.long (0 : Int64)), .second] [(.long ((q3 &&& (127 : Int64)) + ((p5 &&& (63 : Int32)).toInt64))), (.long q2), (.long q1), (.long q0)])) rfl (by rw [hml]; rfl) (argsL := [(.long q0), (.long q1), (.long q2), (.long ((q3 &&& (127 : Int64)) + ((p5 &&& (63 : Int32)).toInt64)))]) (rest := []) (lenOf own_pd81 rfl) rfl (by show 2 * 0 + _ ≤ _; exact Nat.le_of_eq rfl) (hb hby at_99) (fun _ _ => ⟨rfl, e8, (by decide : 2 + 0 ≤ _), (by decide : 4 + 0 ≤ _)⟩)
    dsimp only [Pt.U, Pt.locs, Pt.cells, Pt.slots] at X13 l13 y13 z13 st13 hQ13
    subst l13 y13 z13
    obtain ⟨rfl, N13q, e13⟩ := hQ13
    have N13 := Fr.app N8 N13q
    refine own_go (fun tg k => st13 tg k) ?_
    show own_Fin _ _ _ _ _ _ _ (T13.setTop (mkF m 102 #[.val (.long q0), .second, .val (.long q1), .second, .val (.long q2), .second, .val (.long q3), .second, .val (.int p4), .val (.int p5), .val (.ref b1), .val (.ref b5), .val (.long (q3 &&& (127 : Int64))), .second, .val (.int z7), .val (.int (p5 &&& (63 : Int32))), .val (.long z9), .second, .val (.long z10), .second, .val (.long (0 : Int64)), .second] [(.long (own_f4 q0 q1 q2 ((q3 &&& (127 : Int64)) + ((p5 &&& (63 : Int32)).toInt64))))]))
    refine own_go (fun _ k => XS.lstore X13.here hx rfl (hb hby at_102) rfl (l' := #[.val (.long q0), .second, .val (.long q1), .second, .val (.long q2), .second, .val (.long q3), .second, .val (.int p4), .val (.int p5), .val (.ref b1), .val (.ref b5), .val (.long (q3 &&& (127 : Int64))), .second, .val (.int z7), .val (.int (p5 &&& (63 : Int32))), .val (.long z9), .second, .val (.long z10), .second, .val (.long (own_f4 q0 q1 q2 ((q3 &&& (127 : Int64)) + ((p5 &&& (63 : Int32)).toInt64)))), .second]) rfl k) ?_
    show own_Fin _ _ _ _ _ _ _ (T13.setTop (mkF m 104 #[.val (.long q0), .second, .val (.long q1), .second, .val (.long q2), .second, .val (.long q3), .second, .val (.int p4), .val (.int p5), .val (.ref b1), .val (.ref b5), .val (.long (q3 &&& (127 : Int64))), .second, .val (.int z7), .val (.int (p5 &&& (63 : Int32))), .val (.long z9), .second, .val (.long z10), .second, .val (.long (own_f4 q0 q1 q2 ((q3 &&& (127 : Int64)) + ((p5 &&& (63 : Int32)).toInt64)))), .second] []))
    generalize hz14 : (own_f4 q0 q1 q2 ((q3 &&& (127 : Int64)) + ((p5 &&& (63 : Int32)).toInt64))) = z14
    show own_Fin _ _ _ _ _ _ _ (T13.setTop (mkF m 104 #[.val (.long q0), .second, .val (.long q1), .second, .val (.long q2), .second, .val (.long q3), .second, .val (.int p4), .val (.int p5), .val (.ref b1), .val (.ref b5), .val (.long (q3 &&& (127 : Int64))), .second, .val (.int z7), .val (.int (p5 &&& (63 : Int32))), .val (.long z9), .second, .val (.long z10), .second, .val (.long z14), .second] []))
    have kj := hk12 T13 _ (own_mono X13 (by decide) (by decide)) N13 e13
    try subst hz14
    try subst hz10
    try subst hz9
    try subst hz7
    try subst hf4
    try subst hf3
    try subst hf2
    simpa only [if_pos hc11] using kj
  · refine own_go (fun _ k => XS.icmpYes X8.here hx rfl (pc0 := 86) (pc' := 104) rfl (hb hby at_86) rfl (flt hc11).2.1 (by decide) (by decide) k) ?_
    show own_Fin _ _ _ _ _ _ _ (T8.setTop (mkF m 104 #[.val (.long q0), .second, .val (.long q1), .second, .val (.long q2), .second, .val (.long q3), .second, .val (.int p4), .val (.int p5), .val (.ref b1), .val (.ref b5), .val (.long (q3 &&& (127 : Int64))), .second, .val (.int z7), .val (.int (p5 &&& (63 : Int32))), .val (.long z9), .second, .val (.long z10), .second, .val (.long (0 : Int64)), .second] []))
    have kj := hk12 T8 _ (own_mono X8 (by decide) (by decide)) N8 e8
    try subst hz10
    try subst hz9
    try subst hz7
    try subst hf4
    try subst hf3
    try subst hf2
    simpa only [if_neg hc11] using kj
theorem own_clamp {z : Int32} {k : Nat} (h : z.toInt = k) : z.toNatClampNeg = k := by
  simp only [Int32.toNatClampNeg, h]; omega
theorem own_read (g : Nat → Int64) (b : Int64) (w : Int32) (B W J : Nat) (hb : b.toInt = B) (hB : B < 128) (hw : w.toInt = W) (hW : 1 ≤ W ∧ W < 64) (hJ : J < 64) :
    own_bit (own_f3 b w g) J = (decide (J < W) && (if B % 64 + J < 64 then own_bit (g (B / 64)) (B % 64 + J) else own_bit (g (B / 64 + 1)) (B % 64 + J - 64))) := by
  have b0 : ¬ b < (0 : Int64) := by rw [Int64.lt_iff_toInt_lt, show (0 : Int64).toInt = 0 from by decide]; omega
  have b1 : b < (4096 : Int64) := by rw [Int64.lt_iff_toInt_lt, show (4096 : Int64).toInt = 4096 from by decide]; omega
  have b2 := own_word b b0 b1
  have b3 := own_low6 b b0 b1
  have i1 : ((own_lushr b (6 : Int32)).toInt32).toNatClampNeg = B / 64 := own_clamp (by rw [b2, hb]; omega)
  have i2 : (((own_lushr b (6 : Int32)).toInt32) + (1 : Int32)).toNatClampNeg = B / 64 + 1 := own_clamp (by
    have a := c_iadd ((own_lushr b (6 : Int32)).toInt32) 1
    have r := rng32 (((own_lushr b (6 : Int32)).toInt32) + 1)
    rw [show (1 : Int32).toInt = 1 from by decide] at a
    omega)
  have s1 : ((b &&& (63 : Int64)).toInt32).toInt = ((B % 64 : Nat) : Int) := by rw [b3, hb]; omega
  simp only [own_f3, i1, i2]
  generalize (b &&& (63 : Int64)).toInt32 = s at *
  have a1 := c_iadd s w
  have r1 := rng32 (s + w)
  have c1 : (64 : Int32) < s + w ↔ 64 < B % 64 + W := by
    rw [Int32.lt_iff_toInt_lt, show (64 : Int32).toInt = 64 from by decide]; omega
  rw [own_bit_and, own_mask hw hW.2]
  by_cases h : (64 : Int32) < s + w
  · rw [if_pos h]
    have h' := c1.mp h
    have a2 := c_isub 64 s
    have r2 := rng32 (64 - s)
    rw [show (64 : Int32).toInt = 64 from by decide] at a2
    have s2 : ((64 : Int32) - s).toInt = ((64 - B % 64 : Nat) : Int) := by omega
    rw [own_bit_or, own_bit_shr _ s1 (by omega), own_bit_shl _ s2 (by omega)]
    by_cases q : B % 64 + J < 64
    · rw [if_pos q]
      have : decide (J < 64 - B % 64) = true := by simp; omega
      rw [this]; simp [Bool.and_comm]
    · rw [if_neg q, own_bit_hi _ (show 64 ≤ B % 64 + J by omega)]
      have e1 : decide (J < 64 - B % 64) = false := by simp; omega
      have e2 : decide (J < 64) = true := by simp; omega
      rw [e1, e2, show J - (64 - B % 64) = B % 64 + J - 64 from by omega]
      simp [Bool.and_comm]
  · rw [if_neg h, own_bit_shr _ s1 (by omega)]
    have h' : ¬ (64 < B % 64 + W) := fun q => h (c1.mpr q)
    by_cases q : B % 64 + J < 64
    · rw [if_pos q]; simp [Bool.and_comm]
    · rw [if_neg q]
      have : decide (J < W) = false := by simp; omega
      rw [this]; simp
theorem own_tbit (q0 q1 q2 c : Int64) (N : Nat) (hc : c.toInt = N) (hN : N < 192) : own_f4 q0 q1 q2 c = if own_bit (if N < 64 then q0 else if N < 128 then q1 else q2) (N % 64) then (1 : Int64) else (0 : Int64) := by
  have k1 : c < (64 : Int64) ↔ N < 64 := by rw [Int64.lt_iff_toInt_lt, show (64 : Int64).toInt = 64 from by decide]; omega
  have k2 : c < (128 : Int64) ↔ N < 128 := by rw [Int64.lt_iff_toInt_lt, show (128 : Int64).toInt = 128 from by decide]; omega
  have d := (c_lrem c 64 64 (by decide)).1 (by omega)
  rw [lrem_mod] at d
  have e := c_l2i (c % 64)
  have r := rng32 (c % 64).toInt32
  have p : ((c % (64 : Int64)).toInt32).toInt = ((N % 64 : Nat) : Int) := by omega
  simp only [own_f4, k1, k2]
  rw [own_pick _ p (by omega)]
theorem own_plain (q0 q1 q2 q3 : Int64) (p4 p5 : Int32) : own_f0 q0 q1 q2 q3 p4 p5 = 1 := by
  have e63 : (63 : Int32).toInt = 63 := by decide
  have j0 := c_mask p5 63 6 (by decide) (by decide)
  rw [show ((2 ^ 6 : Nat) : Int) = 64 from by decide] at j0
  have w0 := c_mask p4 2147483647 31 (by decide) (by decide)
  rw [show ((2 ^ 31 : Nat) : Int) = 2147483648 from by decide] at w0
  have w1 := (c_irem (p4 &&& 2147483647) 63 63 e63).1 (by omega)
  have w2 := c_iadd ((p4 &&& 2147483647) % 63) 1
  rw [show (1 : Int32).toInt = 1 from by decide] at w2
  have w3 := rng32 ((p4 &&& 2147483647) % 63 + 1)
  have b0 := own_b0 q3
  have b1 := own_b1 q3
  simp only [own_f0]
  generalize (p5 &&& (63 : Int32)) = j at *
  generalize ((p4 &&& (2147483647 : Int32)) % (63 : Int32)) + (1 : Int32) = w at *
  generalize (q3 &&& (127 : Int64)) = b at *
  rw [Int64.lt_iff_toInt_lt, show (0 : Int64).toInt = 0 from by decide] at b0
  rw [Int64.lt_iff_toInt_lt, show (128 : Int64).toInt = 128 from by decide] at b1
  obtain ⟨B, hB⟩ : ∃ B : Nat, b.toInt = B := ⟨b.toInt.toNat, by omega⟩
  obtain ⟨J, hJ⟩ : ∃ J : Nat, j.toInt = J := ⟨j.toInt.toNat, by omega⟩
  obtain ⟨W, hW⟩ : ∃ W : Nat, w.toInt = W := ⟨w.toInt.toNat, by omega⟩
  have c1 : j < w ↔ J < W := by rw [Int32.lt_iff_toInt_lt]; omega
  have t1 := c_i2l j
  have t2 := c_ladd b j.toInt64
  have t3 := rng64 (b + j.toInt64)
  have hc : (b + j.toInt64).toInt = ((B + J : Nat) : Int) := by omega
  rw [own_pick _ hJ (by omega), own_read _ b w B W J hB (by omega) hW (by omega) (by omega)]
  simp only [c1, own_tbit _ _ _ _ _ hc (by omega)]
  have g0 : own_set (own_set (own_set (fun _ => (0 : Int64)) (0 : Int32) q0) (1 : Int32) q1) (2 : Int32) q2 0 = q0 := rfl
  have g1 : own_set (own_set (own_set (fun _ => (0 : Int64)) (0 : Int32) q0) (1 : Int32) q1) (2 : Int32) q2 1 = q1 := rfl
  have g2 : own_set (own_set (own_set (fun _ => (0 : Int64)) (0 : Int32) q0) (1 : Int32) q1) (2 : Int32) q2 2 = q2 := rfl
  by_cases hj : J < W
  · simp only [hj, if_true, decide_true, Bool.true_and]
    rw [if_pos]
    rcases (show B / 64 = 0 ∨ B / 64 = 1 by omega) with h | h
    · rw [h]
      by_cases q : B % 64 + J < 64
      · rw [if_pos q, g0, if_pos (show B + J < 64 by omega), show (B + J) % 64 = B % 64 + J from by omega]
      · rw [if_neg q, g1, if_neg (show ¬ B + J < 64 by omega), if_pos (show B + J < 128 by omega), show (B + J) % 64 = B % 64 + J - 64 from by omega]
    · rw [h]
      by_cases q : B % 64 + J < 64
      · rw [if_pos q, g1, if_neg (show ¬ B + J < 64 by omega), if_pos (show B + J < 128 by omega), show (B + J) % 64 = B % 64 + J from by omega]
      · rw [if_neg q, g2, if_neg (show ¬ B + J < 64 by omega), if_neg (show ¬ B + J < 128 by omega), show (B + J) % 64 = B % 64 + J - 64 from by omega]
  · simp [hj]

set_option maxRecDepth 65536 in
set_option maxHeartbeats 40000000 in
theorem comes_1 {Post : Tables → Env → Array Value → State → Outcome → State → Prop} (hpost : ∀ tb e args s v u, (limb_1_1.after args s (.returned v) u = true ∧ limb_1_2.after args s (.returned v) u = true ∧ True) → FrameEnd s (.returned v) u (Jvm.fieldLocs frame_1_writes args s ++ Jvm.arrayLocs frame_1_arrays args s ++ Jvm.staticLocs frame_1_statics s) 16 128 → Post tb e args s (.returned v) u) :
    ArmFor flags0 classFile x code maxLocals ret World_1 tables_1 room_1 Calls_1 rest_1 Pre_1 Post := by
  intro l hfl _ _ p e ha hc hk s m args below hf hA hF happ hP
  obtain ⟨hcalls, hrest, hpre⟩ := hP
  obtain ⟨-, -, -, hnamed, -, -, -, hat⟩ := (Spec.applies_iff hf).mp happ
  obtain ⟨hg, hn⟩ := and_e (Cond.before_iff.mp (show (Jvm.Cond.and given_1 narrow_1).before args s = true from hpre))
  obtain ⟨g1, g2⟩ := and_e hg
  obtain ⟨g3, g4⟩ := and_e g2
  obtain ⟨g5, g6⟩ := and_e g4
  obtain ⟨g7, g8⟩ := and_e g6
  obtain ⟨g9, g10⟩ := and_e g8
  obtain ⟨g11, g12⟩ := and_e g10
  obtain ⟨w0, w1, w2, w3, w4, w5, rfl⟩ : ∃ w0 w1 w2 w3 w4 w5 : Value, args = #[w0, w1, w2, w3, w4, w5] := by
    have hs : args.size = 6 := by simpa [Cond.value, given_1] using g1
    obtain ⟨L⟩ := args
    match L, hs with
    | [w0, w1, w2, w3, w4, w5], _ => exact ⟨w0, w1, w2, w3, w4, w5, rfl⟩
  have hw := fun d (hd : d ∈ tables_1) => atoms_spec (ws := Jvm.Cond.code x code maxLocals ret :: tables_1) hat d (List.mem_cons_of_mem _ hd)
  have hfit : Fit s := fun {y c} hc i hi => by
    obtain ⟨ha, rfl⟩ := Array.getElem?_eq_some_iff.mp hc
    have q := List.all_eq_true.mp ((Array.all_eq_true_iff_forall_mem.mp hF) _ (Array.getElem_mem ha)) i (List.mem_range.mpr hi)
    simpa [Array.getElem?_eq_getElem hi] using q
  obtain ⟨i0, ei0⟩ := isL_v g3
  obtain rfl : w0 = (.long i0) := Option.some.inj ei0
  obtain ⟨i1, ei1⟩ := isL_v g5
  obtain rfl : w1 = (.long i1) := Option.some.inj ei1
  obtain ⟨i2, ei2⟩ := isL_v g7
  obtain rfl : w2 = (.long i2) := Option.some.inj ei2
  obtain ⟨i3, ei3⟩ := isL_v g9
  obtain rfl : w3 = (.long i3) := Option.some.inj ei3
  obtain ⟨i4, ei4⟩ := is_v g11
  obtain rfl : w4 = (.int i4) := Option.some.inj ei4
  obtain ⟨i5, ei5⟩ := is_v g12
  obtain rfl : w5 = (.int i5) := Option.some.inj ei5
  obtain ⟨n, o, h1, h2, h3, _, L, rfl, ⟨rfl, N, hrest'⟩, hq⟩ := rm0 l s _ hw tables_1 i0 i1 i2 i3 i4 i5 s.heap s.heap.size (Nat.le_refl _) p e ha hc hk s m _ below hf ((Spec.applies_iff_loose hf).mp happ).1 ⟨rfl, State.Warmed39.refl s, rfl⟩ trivial
  refine ⟨n, _, h1, h2, h3, hpost _ _ _ _ _ _ ⟨Cond.after_iff.mpr rfl, Cond.after_iff.mpr (eq_i res_at (Term.int_eval (1)) (congrArg Value.int (own_plain i0 i1 i2 i3 i4 i5))), trivial⟩ ⟨hq.1, hq.2.1, (hq.2.2.sift fun y hy => Or.inr (N y hy)).mono (by decide) (by decide)⟩⟩
theorem main_1_1 : Claimed_1_1 := comes_1 fun _ _ _ _ _ _ h hF => ⟨h.1, hF⟩
theorem main_1_2 : Claimed_1_2 := comes_1 fun _ _ _ _ _ _ h hF => ⟨h.2.1, hF⟩
end Jvm.Pilot.@@N@@
namespace Jvm.Pilot.@@N@@
open Jvm Jvm.ClassFile Sem Op Lib Jvm.Free Jvm.Stand Jvm.Pilot.@@N@@.Jvm.D
/-! MADE BY PROGRAM (witnessworld.py) out of the Statement's table words and the real class files: 12 classes; the members and pool entries that the words name. The judged class is class 1, her method 1. -/
namespace start1
open Jvm.ClassFile
def u (s : String) : CpInfo := .utf8 (stringToUtf16 s)
/-- a pool by its gaps: so many unusable entries, then the entry; so many at the end -/
def gap : Nat → List CpInfo → List CpInfo
  | 0, r => r
  | n + 1, r => .unusable :: gap n r
def poolList (es : List (Nat × CpInfo)) (last : Nat) : List CpInfo := es.foldr (fun e r => gap e.1 (e.2 :: r)) (gap last [])
def pool (es : List (Nat × CpInfo)) (last : Nat) : Array CpInfo := ⟨poolList es last⟩
def fileOf (pool : Array CpInfo) (this : Nat) (attrs : Array Attribute := #[]) (ms : Array MethodInfo := #[]) (fl : Nat := 33) (sup : Nat := 0) (ifs : Array Nat := #[]) (fds : Array FieldInfo := #[]) : ClassFile where
  minorVersion := 0
  majorVersion := 65
  constantPool := pool
  accessFlags := fl
  thisClass := this
  superClass := sup
  interfaces := ifs
  fields := fds
  methods := ms
  attributes := attrs
def plain (name : String) (sup : Option ClassId) : Class where
  name := name
  kind := .ordinary
  loader := none
  accessFlags := 33
  super := sup
  interfaces := #[]
  cf := none
  fields := #[]
  methods := #[]
  instanceTypes := #[]
  staticTypes := #[]
  resolved := #[]
  callSites := []
  init := .initialized
  statics := none
  mirror := none

def pool0 : Array CpInfo := pool [(5, u "<init>"), (0, u "()V"), (1, .class_ 10), (1, u "java/lang/Object")] 113

def k0c0 : Code := { maxStack := 0, maxLocals := 1, code := object_method_1_code, exceptionTable := #[], attributes := #[] }
def k0m0 : Method := { name := "<init>", desc := "()V", sig := { parameters := [], returnType := none }, accessFlags := 1, code := some k0c0 }
/-- java/lang/Object -/
def k0 : Class := { plain "java/lang/Object" none with
  accessFlags := 33
  interfaces := #[]
  cf := some (fileOf pool0 8 #[] #[{ accessFlags := 1, nameIndex := 5, descriptorIndex := 6, attributes := #[] }] 33 0 #[] #[])
  fields := #[]
  methods := #[k0m0]
  instanceTypes := #[]
  staticTypes := #[]
  resolved := Array.replicate 124 none
  statics := none }

def pool1 : Array CpInfo := pool [(2, .class_ 4), (1, u "java/lang/Object"), (0, u "<init>"), (0, u "()V"), (0, .class_ 8), (0, u "com/example/slim_filter/slimfilter/cuckoo/TableBits$InWords"), (0, .methodref 7 10), (0, .nameAndType 5 11), (0, u "([J)V"), (0, .long 127), (1, .integer 2147483647), (0, .methodref 7 16), (0, .nameAndType 17 18), (0, u "read"), (0, u "(JI)J"), (0, .methodref 20 21), (0, .class_ 22), (0, .nameAndType 23 24), (0, u "com/example/slim_filter/slimfilter/cuckoo/InWordsReadPinLaw"), (0, u "tableBit"), (0, u "(JJJJ)J"), (0, .long 64), (1, .long 128), (3, u "law"), (0, u "(JJJJII)Z")] 9

def k1m0 : Method := { name := "<init>", desc := "()V", sig := { parameters := [], returnType := none }, accessFlags := 1, code := none }
def k1c1 : Code := { maxStack := 10, maxLocals := 22, code := code, exceptionTable := #[], attributes := #[] }
def k1m1 : Method := { name := "law", desc := "(JJJJII)Z", sig := { parameters := [.long, .long, .long, .long, .int, .int], returnType := some .boolean }, accessFlags := 9, code := some k1c1 }
def k1c2 : Code := { maxStack := 4, maxLocals := 11, code := method_3_code, exceptionTable := #[], attributes := #[] }
def k1m2 : Method := { name := "tableBit", desc := "(JJJJ)J", sig := { parameters := [.long, .long, .long, .long], returnType := some .long }, accessFlags := 10, code := some k1c2 }
/-- com/example/slim_filter/slimfilter/cuckoo/InWordsReadPinLaw -/
def k1 : Class := { plain "com/example/slim_filter/slimfilter/cuckoo/InWordsReadPinLaw" (some 0) with
  accessFlags := 49
  interfaces := #[]
  cf := some (fileOf pool1 20 #[] #[{ accessFlags := 1, nameIndex := 5, descriptorIndex := 6, attributes := #[] }, { accessFlags := 9, nameIndex := 31, descriptorIndex := 32, attributes := #[] }, { accessFlags := 10, nameIndex := 23, descriptorIndex := 24, attributes := #[] }] 49 2 #[] #[])
  fields := #[]
  methods := #[k1m0, k1m1, k1m2]
  instanceTypes := #[]
  staticTypes := #[]
  resolved := Array.replicate 42 none
  statics := none }

def pool2 : Array CpInfo := pool [(6, .class_ 8), (1, u "com/example/slim_filter/slimfilter/cuckoo/TableBits$InBytes"), (8, .class_ 18), (0, u "com/example/slim_filter/slimfilter/cuckoo/TableBits$InWords"), (21, .class_ 41), (0, u "com/example/slim_filter/slimfilter/cuckoo/TableBits"), (0, .class_ 43), (0, u "java/lang/Object"), (0, u "LEAD_BITS"), (0, u "I")] 26

/-- com/example/slim_filter/slimfilter/cuckoo/TableBits -/
def k2 : Class := { plain "com/example/slim_filter/slimfilter/cuckoo/TableBits" (some 0) with
  accessFlags := 1536
  interfaces := #[]
  cf := some (fileOf pool2 40 #[.nestMembers #[17, 6]] #[] 1536 42 #[] #[{ accessFlags := 25, nameIndex := 44, descriptorIndex := 45, attributes := #[] }])
  fields := #[{ name := "LEAD_BITS", type := .int, accessFlags := 25, slot := 0, constantValue := 0 }]
  methods := #[]
  instanceTypes := #[]
  staticTypes := #[.int]
  resolved := Array.replicate 72 none
  statics := none }

def pool3 : Array CpInfo := pool [(1, .methodref 2 3), (0, .class_ 4), (0, .nameAndType 5 6), (0, u "java/lang/Object"), (0, u "<init>"), (0, u "()V"), (0, .fieldref 8 9), (0, .class_ 10), (0, .nameAndType 11 12), (0, u "com/example/slim_filter/slimfilter/cuckoo/TableBits$InWords"), (0, u "words"), (0, u "[J"), (0, .long 63), (17, .class_ 32), (0, u "com/example/slim_filter/slimfilter/cuckoo/TableBits"), (0, u "([J)V"), (2, u "read"), (0, u "(JI)J")] 14

def k3c0 : Code := { maxStack := 2, maxLocals := 2, code := prog_13_method_1_code, exceptionTable := #[], attributes := #[] }
def k3m0 : Method := { name := "<init>", desc := "([J)V", sig := { parameters := [(.array .long)], returnType := none }, accessFlags := 0, code := some k3c0 }
def k3c1 : Code := { maxStack := 6, maxLocals := 8, code := prog_13_method_2_code, exceptionTable := #[], attributes := #[] }
def k3m1 : Method := { name := "read", desc := "(JI)J", sig := { parameters := [.long, .int], returnType := some .long }, accessFlags := 1, code := some k3c1 }
/-- com/example/slim_filter/slimfilter/cuckoo/TableBits$InWords -/
def k3 : Class := { plain "com/example/slim_filter/slimfilter/cuckoo/TableBits$InWords" (some 0) with
  accessFlags := 49
  interfaces := #[2]
  cf := some (fileOf pool3 8 #[.nestHost 31] #[{ accessFlags := 0, nameIndex := 5, descriptorIndex := 33, attributes := #[] }, { accessFlags := 1, nameIndex := 36, descriptorIndex := 37, attributes := #[] }] 49 2 #[31] #[{ accessFlags := 18, nameIndex := 11, descriptorIndex := 12, attributes := #[] }])
  fields := #[{ name := "words", type := (.array .long), accessFlags := 18, slot := 0, constantValue := 0 }]
  methods := #[k3m0, k3m1]
  instanceTypes := #[(.array .long)]
  staticTypes := #[]
  resolved := Array.replicate 52 none
  statics := none }

def pool4 : Array CpInfo := pool [(1, u "java/lang/Cloneable"), (0, .class_ 1), (0, u "java/lang/Object"), (0, .class_ 3)] 3

/-- java/lang/Cloneable -/
def k4 : Class := { plain "java/lang/Cloneable" (some 0) with
  accessFlags := 1537
  interfaces := #[]
  cf := some (fileOf pool4 2 #[] #[] 1537 4 #[] #[])
  fields := #[]
  methods := #[]
  instanceTypes := #[]
  staticTypes := #[]
  resolved := Array.replicate 8 none
  statics := none }

def pool5 : Array CpInfo := pool [(1, u "java/io/Serializable"), (0, .class_ 1), (0, u "java/lang/Object"), (0, .class_ 3)] 3

/-- java/io/Serializable -/
def k5 : Class := { plain "java/io/Serializable" (some 0) with
  accessFlags := 1537
  interfaces := #[]
  cf := some (fileOf pool5 2 #[] #[] 1537 4 #[] #[])
  fields := #[]
  methods := #[]
  instanceTypes := #[]
  staticTypes := #[]
  resolved := Array.replicate 8 none
  statics := none }

/-- the primitive byte -/
def k6 : Class := { plain "byte" none with kind := .primitive 'B', accessFlags := 0x411 }
/-- [B -/
def k7 : Class := { plain "[B" (some 0) with kind := .array 6 .byte, interfaces := #[4, 5], accessFlags := 1041 }

/-- the primitive int -/
def k8 : Class := { plain "int" none with kind := .primitive 'I', accessFlags := 0x411 }
/-- [I -/
def k9 : Class := { plain "[I" (some 0) with kind := .array 8 .int, interfaces := #[4, 5], accessFlags := 1041 }

/-- the primitive long -/
def k10 : Class := { plain "long" none with kind := .primitive 'J', accessFlags := 0x411 }
/-- [J -/
def k11 : Class := { plain "[J" (some 0) with kind := .array 10 .long, interfaces := #[4, 5], accessFlags := 1041 }

def heap : Heap := #[]
def classes : Array Class := #[k0, k1, k2, k3, k4, k5, k6, k7, k8, k9, k10, k11]
def interned : List (Array UInt16 × Addr) := []
def slotsUsed : Nat := 0
def theMethod : MethodId := ⟨1, 1⟩
def args0 : Array Value := #[.long 5, .long 6, .long 7, .long 8, .int 9, .int 10]
def aboutOver (below : List Frame) : State where
  vm := { classes := classes, interned := interned.toArray }
  heap := heap
  slotsUsed := slotsUsed
  threads := #[{ frames := .invoking theMethod args0 :: below }]
def below0 : List Frame := [.native { method := ⟨0, 0⟩, args := #[] }]
def about1 : State := aboutOver below0
def p0 : Program := .bare "" "" ""
def e0 : Env := launch0.env 0 0 0
theorem w_frames : about1.frames = Frame.invoking theMethod args0 :: below0 := rfl
set_option maxRecDepth 65536 in
theorem w_args : argsFit about1.vm theMethod args0 = true := by decide +kernel
set_option maxRecDepth 65536 in
theorem w_heap : heapFits about1 = true := by decide +kernel
set_option maxRecDepth 65536 in
theorem w_runnable : about1.curStatus? = some .runnable := by decide +kernel
set_option maxRecDepth 65536 in
theorem w_alone : about1.alone = true := by decide +kernel
set_option maxRecDepth 65536 in
theorem w_named : about1.methodNamed? x = some theMethod := by decide +kernel
set_option maxRecDepth 65536 in
theorem w_hears : about1.hears theMethod below0 = true := by decide +kernel
set_option maxRecDepth 65536 in
theorem w_ripe : about1.ripe theMethod args0 below0 = true := by decide +kernel
theorem w_running : about1.status = .running := rfl
set_option maxRecDepth 65536 in
theorem w_room : about1.hasRoom e0.platform room_1 = true :=
  launch0.hasRoom_least _ room_1 (by decide +kernel) (by decide +kernel) (by decide +kernel) (by decide +kernel) (by decide +kernel) (by decide +kernel)
theorem allAtoms_all (ts : List Jvm.Cond) (a : Array Jvm.Value) (st : Jvm.State) : (allAtoms ts).before a st = ts.all (fun c => c.before a st) := by
  induction ts with
  | nil => rfl
  | cons c t ih =>
    show (Jvm.Cond.and c (allAtoms t)).before a st = _
    rw [Jvm.Cond.before_and, ih, List.all_cons]
def words1 : List Jvm.Cond := Jvm.Cond.code x code maxLocals ret :: tables_1
/-- a 'code' word, met by the world's own term for the bytes: nothing is compared byte by byte -/
theorem code_word {y : MethodName} {bytes : ByteArray} {mx : Nat} {rt : Option FieldType} {a : Array Value} {s : State} {m : MethodId} {meth : Method} {c : Code} (h1 : s.methodNamed? y = some m) (h2 : s.vm.method? m = some meth) (h3 : meth.code = some c) (h4 : c.code = bytes)
    (h5 : (c.maxLocals == mx && c.exceptionTable.isEmpty && decide (c.maxStack ≤ mostOperands) && decide (meth.sig.returnType = rt) && !meth.locks && decide (parseMethodDescriptor y.desc = some meth.sig)) = true) : (Jvm.Cond.code y bytes mx rt).before a s = true := by
  simp only [Bool.and_eq_true, beq_iff_eq, Bool.not_eq_true', decide_eq_true_eq] at h5
  obtain ⟨⟨⟨⟨⟨g1, g2⟩, g3⟩, g4⟩, g5⟩, g6⟩ := h5
  simp [Cond.before, Cond.holds, Cond.value, h1, h2, h3, h4, g1, g2, g3, g4, g5, g6]
def isCode : Jvm.Cond → Bool
  | .code _ _ _ _ => true
  | _ => false
theorem all_split {L : List Jvm.Cond} {P : Jvm.Cond → Bool} (h1 : L.all (fun c => isCode c || P c) = true) (h2 : ∀ c ∈ L.filter isCode, P c = true) : L.all P = true := by
  refine List.all_eq_true.mpr fun c hc => ?_
  have h := List.all_eq_true.mp h1 c hc
  rcases Bool.eq_false_or_eq_true (isCode c) with hi | hi
  · exact h2 c (List.mem_filter.mpr ⟨hc, hi⟩)
  · simpa [hi] using h
set_option maxRecDepth 65536 in
theorem w_c0 : (Jvm.Cond.code x code maxLocals ret).before args0 about1 = true := code_word (m := ⟨1, 1⟩) (meth := k1m1) (c := k1c1) (by decide +kernel) rfl rfl rfl (by decide +kernel)
set_option maxRecDepth 65536 in
theorem w_c1 : (Jvm.Cond.code ({ cls := "com/example/slim_filter/slimfilter/cuckoo/TableBits$InWords", name := "<init>", desc := "([J)V" } : Jvm.MethodName) prog_13_method_1_code (2 : Nat) (Option.none : Option Jvm.ClassFile.FieldType)).before args0 about1 = true := code_word (m := ⟨3, 0⟩) (meth := k3m0) (c := k3c0) (by decide +kernel) rfl rfl rfl (by decide +kernel)
set_option maxRecDepth 65536 in
theorem w_c2 : (Jvm.Cond.code ({ cls := "java/lang/Object", name := "<init>", desc := "()V" } : Jvm.MethodName) object_method_1_code (1 : Nat) (Option.none : Option Jvm.ClassFile.FieldType)).before args0 about1 = true := code_word (m := ⟨0, 0⟩) (meth := k0m0) (c := k0c0) (by decide +kernel) rfl rfl rfl (by decide +kernel)
set_option maxRecDepth 65536 in
theorem w_c3 : (Jvm.Cond.code ({ cls := "com/example/slim_filter/slimfilter/cuckoo/TableBits$InWords", name := "read", desc := "(JI)J" } : Jvm.MethodName) prog_13_method_2_code (8 : Nat) (Option.some Jvm.ClassFile.FieldType.long)).before args0 about1 = true := code_word (m := ⟨3, 1⟩) (meth := k3m1) (c := k3c1) (by decide +kernel) rfl rfl rfl (by decide +kernel)
set_option maxRecDepth 65536 in
theorem w_c4 : (Jvm.Cond.code ({ cls := "com/example/slim_filter/slimfilter/cuckoo/InWordsReadPinLaw", name := "tableBit", desc := "(JJJJ)J" } : Jvm.MethodName) method_3_code (11 : Nat) (Option.some Jvm.ClassFile.FieldType.long)).before args0 about1 = true := code_word (m := ⟨1, 2⟩) (meth := k1m2) (c := k1c2) (by decide +kernel) rfl rfl rfl (by decide +kernel)
def codes1 : List Jvm.Cond := [Jvm.Cond.code x code maxLocals ret, Jvm.Cond.code ({ cls := "com/example/slim_filter/slimfilter/cuckoo/TableBits$InWords", name := "<init>", desc := "([J)V" } : Jvm.MethodName) prog_13_method_1_code (2 : Nat) (Option.none : Option Jvm.ClassFile.FieldType), Jvm.Cond.code ({ cls := "java/lang/Object", name := "<init>", desc := "()V" } : Jvm.MethodName) object_method_1_code (1 : Nat) (Option.none : Option Jvm.ClassFile.FieldType), Jvm.Cond.code ({ cls := "com/example/slim_filter/slimfilter/cuckoo/TableBits$InWords", name := "read", desc := "(JI)J" } : Jvm.MethodName) prog_13_method_2_code (8 : Nat) (Option.some Jvm.ClassFile.FieldType.long), Jvm.Cond.code ({ cls := "com/example/slim_filter/slimfilter/cuckoo/InWordsReadPinLaw", name := "tableBit", desc := "(JJJJ)J" } : Jvm.MethodName) method_3_code (11 : Nat) (Option.some Jvm.ClassFile.FieldType.long)]
set_option maxRecDepth 65536 in
theorem codes_eq : words1.filter isCode = codes1 := rfl
theorem w_codes : ∀ c ∈ words1.filter isCode, c.before args0 about1 = true := by
  rw [codes_eq]
  intro c hc
  simp only [codes1, List.mem_cons, List.not_mem_nil, or_false] at hc
  rcases hc with rfl | rfl | rfl | rfl | rfl
  · exact w_c0
  · exact w_c1
  · exact w_c2
  · exact w_c3
  · exact w_c4
set_option maxRecDepth 65536 in
theorem w_t1 : (words1.take 24).all (fun c => isCode c || c.before args0 about1) = true := by decide +kernel
set_option maxRecDepth 65536 in
theorem w_t2 : (words1.drop 24).all (fun c => isCode c || c.before args0 about1) = true := by decide +kernel
theorem w_tables : (allAtoms (Jvm.Cond.code x code maxLocals ret :: tables_1)).before args0 about1 = true := by
  rw [allAtoms_all]
  show words1.all (fun c => c.before args0 about1) = true
  refine all_split ?_ w_codes
  rw [← List.take_append_drop 24 words1, List.all_append, w_t1, w_t2]
  rfl
set_option maxRecDepth 65536 in
theorem w_case : (Jvm.Cond.and given_1 narrow_1).before args0 about1 = true := by decide +kernel
theorem w_applies : (headSpec (Jvm.Cond.code x code maxLocals ret :: tables_1) room_1).applies x e0.platform about1 = true :=
  (Spec.applies_iff w_frames).mpr ⟨w_running, w_runnable, w_alone, w_named, w_hears, w_ripe, w_room, w_tables⟩
theorem atStart : AtStart classFile x code maxLocals ret World_1 tables_1 room_1 Calls_1 rest_1 Pre_1 launch0 p0 e0 about1 theMethod args0 below0 :=
  ⟨lists_1, trivial, launch0.admits_env _ _ _, launch0.least_env, fairChoices_fair.cas, fairChoices_fair.clock, w_frames, w_args, w_heap, w_applies, trivial, trivial, w_case⟩
end start1
theorem witness_1 : WitnessClaimed_1 := ⟨start1.p0, start1.e0, start1.about1, start1.theMethod, start1.args0, start1.below0, start1.atStart⟩
end Jvm.Pilot.@@N@@
