import JvmDerived
import JvmDerived.Pilot.@@N@@Statement
import JvmDerived.Pilot.@@N@@Code
set_option linter.unusedVariables false
set_option linter.unusedSimpArgs false
namespace Jvm.RoadKit
open Sem ClassFile Op Lib Jvm.Stand Jvm.Free Jvm.LawKit
section New
variable {p : Program} {l : Launch} {e : Env} {R : Room} {s : State} {m : MethodId} {args : Array Value} {below : List Frame} {meth : Method} {c : Code} {T : State} {locs : List Loc} {cells slots : Nat}
theorem retI (X : Stand p l e R s m args below meth c T locs cells slots) (hx : p.tables.exec = Jvm.exec) {pc : Nat} {Ls : Array Slot} {z : Int32} {rest : List Value} (hret : meth.sig.returnType = some .int) (hd : decode c.code pc = .ok (.ireturn, 1)) {fs : List Frame}
    (hl : ∀ (f : JFrame) (acts : List Action), f.method = m → f.locked = none → f.entered = [] → (doReturn e (T.setTop f) acts (some (.int z))).1 = T.setFrames fs) : Steps p.tables e below (T.setTop (mkF m pc Ls (.int z :: rest))) (T.setFrames fs) := by
  have hm' : T.vm.method? m = some meth := X.method'
  have hn : narrow .int (.int z) = .int z := rfl
  show Steps p.tables e below (T.setTop { method := m, pc := pc, locals := Ls, stack := _ :: rest, locked := none }) _
  jvm_step X.here [X.here.top, hx, hd, hm', hret, hn]
  first | (intro acts; rw [hl _ acts rfl rfl rfl]) | rw [hl _ _ rfl rfl rfl]
  exact Steps.refl _
theorem own_retJ (X : Stand p l e R s m args below meth c T locs cells slots) (hx : p.tables.exec = Jvm.exec) {pc : Nat} {Ls : Array Slot} {z : Int64} {rest : List Value} (hret : meth.sig.returnType = some .long) (hd : decode c.code pc = .ok (.lreturn, 1)) {fs : List Frame}
    (hl : ∀ (f : JFrame) (acts : List Action), f.method = m → f.locked = none → f.entered = [] → (doReturn e (T.setTop f) acts (some (.long z))).1 = T.setFrames fs) : Steps p.tables e below (T.setTop (mkF m pc Ls (.long z :: rest))) (T.setFrames fs) := by
  have hm' : T.vm.method? m = some meth := X.method'
  have hn : narrow .long (.long z) = .long z := rfl
  show Steps p.tables e below (T.setTop { method := m, pc := pc, locals := Ls, stack := _ :: rest, locked := none }) _
  jvm_step X.here [X.here.top, hx, hd, hm', hret, hn]
  first | (intro acts; rw [hl _ acts rfl rfl rfl]) | rw [hl _ _ rfl rfl rfl]
  exact Steps.refl _
theorem own_cR (a : Addr) : (Value.ref a).category = 1 := rfl
theorem own_cI (a : Int32) : (Value.int a).category = 1 := rfl
theorem own_cJ (a : Int64) : (Value.long a).category = 2 := rfl
theorem own_cN : Value.null.category = 1 := rfl
theorem own_hide (X : Stand p l e R s m args below meth c T locs cells slots) {n0 : Nat} (N : Fr n0 locs) : ∃ lo, Stand p l e R s m args below meth c T lo cells slots ∧ Fr n0 lo := ⟨locs, X, N⟩
theorem own_catV {v : Value} (h : v.isRef = true) : v.category = 1 := by cases v <;> first | rfl | cases h
theorem own_retA (X : Stand p l e R s m args below meth c T locs cells slots) (hx : p.tables.exec = Jvm.exec) {pc : Nat} {Ls : Array Slot} {w : Value} {t : FieldType} {rest : List Value} (hret : meth.sig.returnType = some t) (ht : t.isReference = true) (hw : w.isRef = true) (hd : decode c.code pc = .ok (.areturn, 1)) {fs : List Frame}
    (hl : ∀ (f : JFrame) (acts : List Action), f.method = m → f.locked = none → f.entered = [] → (doReturn e (T.setTop f) acts (some w)).1 = T.setFrames fs) : Steps p.tables e below (T.setTop (mkF m pc Ls (w :: rest))) (T.setFrames fs) := by
  have hm' : T.vm.method? m = some meth := X.method'
  show Steps p.tables e below (T.setTop { method := m, pc := pc, locals := Ls, stack := w :: rest, locked := none }) _
  jvm_step X.here [X.here.top, hx, hd, hm', hret, ht, hw]
  first | (intro acts; rw [hl _ acts rfl rfl rfl]) | rw [hl _ _ rfl rfl rfl]
  exact Steps.refl _
variable {Z : State} {h : Heap}
theorem own_len (X : Stand p l e R s m args below meth c T locs cells slots) (hx : p.tables.exec = Jvm.exec) (hZ : Z.Warmed39 s.vm) (eT : T.heap = h) {a : Addr} {k : ClassId} {ty : FieldType} {z : Int32} {vs : List Value} {dv : Value} (F : Arv Z h a k ty z vs dv) {g : JFrame} (hg : g.method = m) {rest : List Value} (hs : g.stack = .ref a :: rest) (hd : decode c.code g.pc = .ok (.arraylength, 1)) (target : State)
    (hr : Steps p.tables e below (T.setTop { g with pc := g.pc + 1, stack := .int z :: rest }) target) : Steps p.tables e below (T.setTop g) target := by
  obtain ⟨cl, A, -, S, N, -, -⟩ := F
  refine X.arraylength hx (by rw [eT]; exact A.1) (State.isArrayOf_alike hZ.alike A.2.1) hg hs hd _ ?_
  rw [len_of S N]; exact hr
theorem own_aaload (X : Stand p l e R s m args below meth c T locs cells slots) (hx : p.tables.exec = Jvm.exec) (hZ : Z.Warmed39 s.vm) (eT : T.heap = h) {a : Addr} {k : ClassId} {ty : FieldType} {z : Int32} {vs : List Value} {dv : Value} (F : Arv Z h a k ty z vs dv) (hty : ty.isReference = true) {j : Int32} (hj : ¬ j < 0 ∧ j < z) {v : Value} (hv : vs.getD j.toNatClampNeg dv = v) {g : JFrame} (hg : g.method = m) {rest : List Value} (hs : g.stack = .int j :: .ref a :: rest) (hd : decode c.code g.pc = .ok (.aaload, 1)) (target : State)
    (hr : Steps p.tables e below (T.setTop { g with pc := g.pc + 1, stack := v :: rest }) target) : Steps p.tables e below (T.setTop g) target := by
  obtain ⟨cl, A, -, S, N, H, -⟩ := F
  have hin := inb_of S hj
  exact X.aaload hx (by rw [eT]; exact A.1) (State.isArrayOf_alike hZ.alike A.2.1) hty A.2.2 hin (H.at hin hv) hg hs hd _ hr
theorem own_baload (X : Stand p l e R s m args below meth c T locs cells slots) (hx : p.tables.exec = Jvm.exec) (hZ : Z.Warmed39 s.vm) (eT : T.heap = h) {a : Addr} {k : ClassId} {z : Int32} {vs : List Value} {dv : Value} (F : Arv Z h a k .byte z vs dv) {j : Int32} (hj : ¬ j < 0 ∧ j < z) {v : Value} (hv : vs.getD j.toNatClampNeg dv = v) {g : JFrame} (hg : g.method = m) {rest : List Value} (hs : g.stack = .int j :: .ref a :: rest) (hd : decode c.code g.pc = .ok (.baload, 1)) (target : State)
    (hr : Steps p.tables e below (T.setTop { g with pc := g.pc + 1, stack := v :: rest }) target) : Steps p.tables e below (T.setTop g) target := by
  obtain ⟨cl, A, -, S, N, H, -⟩ := F
  have hin := inb_of S hj
  exact X.baloadBytes hx (by rw [eT]; exact A.1) (State.isArrayOf_alike hZ.alike A.2.1) A.2.2 hin (H.at hin hv) hg hs hd _ hr
theorem own_stR (X : Stand p l e R s m args below meth c T locs cells slots) (hx : p.tables.exec = Jvm.exec) (hZ : Z.Warmed39 s.vm) (eT : T.heap = h) {a y : Addr} {k : ClassId} {C : String} {z : Int32} {vs : List Value} {dv : Value} (F : Arv Z h a k (.object C) z vs dv) (O : Ovr Z k C) (I : Ins Z h y C true) {j : Int32} (hj : ¬ j < 0 ∧ j < z) {i : Nat} (hi : j.toNatClampNeg = i) (hl : i < vs.length) {g : JFrame} (hg : g.method = m) {rest : List Value} (hs : g.stack = .ref y :: .int j :: .ref a :: rest) (hd : decode c.code g.pc = .ok (.aastore, 1)) :
    ∃ T' h', Stand p l e R s m args below meth c T' (locs ++ [⟨a, j.toNatClampNeg⟩]) cells slots ∧ T'.heap = h' ∧ Wr h h' a j.toNatClampNeg (.ref y) ∧ Arv Z h' a k (.object C) z (vs.set i (.ref y)) dv ∧ ∀ target, Steps p.tables e below (T'.setTop { g with pc := g.pc + 1, stack := rest }) target → Steps p.tables e below (T.setTop g) target := by
  obtain ⟨cl, A, q, S, N, H, G⟩ := F
  obtain ⟨T', h', X', e', W, st⟩ := stR X hx hZ eT A (inb_of S hj) rfl (Sto.ofV A q O I) hg hs hd
  exact ⟨T', h', X', e', W, Arv.set A q S N H G rfl W i hi hl, st⟩
theorem own_stC (X : Stand p l e R s m args below meth c T locs cells slots) (hx : p.tables.exec = Jvm.exec) (hZ : Z.Warmed39 s.vm) (eT : T.heap = h) {a : Addr} {k : ClassId} {z x : Int32} {vs : List Value} {dv : Value} (F : Arv Z h a k .char z vs dv) {j : Int32} (hj : ¬ j < 0 ∧ j < z) {i : Nat} (hi : j.toNatClampNeg = i) (hl : i < vs.length) {g : JFrame} (hg : g.method = m) {rest : List Value} (hs : g.stack = .int x :: .int j :: .ref a :: rest) (hd : decode c.code g.pc = .ok (.castore, 1)) :
    ∃ T' h', Stand p l e R s m args below meth c T' (locs ++ [⟨a, j.toNatClampNeg⟩]) cells slots ∧ T'.heap = h' ∧ Wr h h' a j.toNatClampNeg (.int (nar .char x)) ∧ Arv Z h' a k .char z (vs.set i (.int (nar .char x))) dv ∧ ∀ target, Steps p.tables e below (T'.setTop { g with pc := g.pc + 1, stack := rest }) target → Steps p.tables e below (T.setTop g) target := by
  obtain ⟨cl, A, q, S, N, H, G⟩ := F
  obtain ⟨T', h', X', e', W, st⟩ := stC X hx hZ eT A (inb_of S hj) hg hs hd
  exact ⟨T', h', X', e', W, Arv.set A q S N H G (fits_nar_char _) W i hi hl, st⟩
theorem own_stB (X : Stand p l e R s m args below meth c T locs cells slots) (hx : p.tables.exec = Jvm.exec) (hZ : Z.Warmed39 s.vm) (eT : T.heap = h) {a : Addr} {k : ClassId} {z x : Int32} {vs : List Value} {dv : Value} (F : Arv Z h a k .byte z vs dv) {j : Int32} (hj : ¬ j < 0 ∧ j < z) {i : Nat} (hi : j.toNatClampNeg = i) (hl : i < vs.length) {g : JFrame} (hg : g.method = m) {rest : List Value} (hs : g.stack = .int x :: .int j :: .ref a :: rest) (hd : decode c.code g.pc = .ok (.bastore, 1)) :
    ∃ T' h', Stand p l e R s m args below meth c T' (locs ++ [⟨a, j.toNatClampNeg⟩]) cells slots ∧ T'.heap = h' ∧ Wr h h' a j.toNatClampNeg (.int (nar .byte x)) ∧ Arv Z h' a k .byte z (vs.set i (.int (nar .byte x))) dv ∧ ∀ target, Steps p.tables e below (T'.setTop { g with pc := g.pc + 1, stack := rest }) target → Steps p.tables e below (T.setTop g) target := by
  obtain ⟨cl, A, q, S, N, H, G⟩ := F
  obtain ⟨T', h', X', e', W, st⟩ := stB X hx hZ eT A (inb_of S hj) hg hs hd
  exact ⟨T', h', X', e', W, Arv.set A q S N H G (fits_nar_byte _) W i hi hl, st⟩
end New
end Jvm.RoadKit
/- laws to paste: Road.eqW, Road.codOf (cut by pick.py; bodies as the Statement names them) -/
namespace Jvm.Pilot.@@N@@
namespace StrChars
open Jvm Sem ClassFile Op Lib Jvm.Stand Jvm.Free.XT Jvm.Free.ALB Jvm.Free.JM Jvm.Free
open Jvm.Lib.Cold (StaticIs)
/-- a char array whose places are chars -/
def Ch (a : Addr) (A : Cell) (U : State) : Prop := Arr .char a A U ∧ Typed .char A
theorem Ch.mv {a : Addr} {A : Cell} {U U' : State} (h : Ch a A U) (hal : U.vm.Alike U'.vm) (hh : U'.heap = U.heap) : Ch a A U' := ⟨h.1.mv hal hh, h.2⟩
theorem Ch.keep {a : Addr} {A : Cell} {U U' : State} (h : Ch a A U) (hal : U.vm.Alike U'.vm) (hk : U'.heap[a]? = some A) : Ch a A U' := ⟨h.1.keep hal hk, h.2⟩
/-- what place i of a char[]'s cell holds -/
def cv (A : Cell) (i : Nat) : Int32 := match A.slots[i]? with | some (.int x) => x | _ => 0
theorem Ch.get {a : Addr} {A : Cell} {U : State} (h : Ch a A U) {i : Nat} (hi : i < A.slots.size) : A.slots[i]? = some (.int (cv A i)) := by
  have e := Array.getElem?_eq_getElem hi
  have f := h.2 i _ e
  unfold cv; rw [e]
  generalize A.slots[i] = v at f
  cases v <;> simp [fits] at f ⊢
/-- the byte that i2b leaves of a char -/
def lo8 (x : Int32) : Int32 := x.toInt8.toInt32
theorem fits_lo8 (y : Int32) : fits .byte (.int (lo8 y)) = true := by
  have h1 := y.toInt8.le_toInt
  have h2 := y.toInt8.toInt_lt
  simp only [lo8, fits, Bool.and_eq_true, decide_eq_true_eq, Int32.le_iff_toInt_le, Int8.toInt_toInt32, show (-128 : Int32).toInt = -128 from by decide, show (127 : Int32).toInt = 127 from by decide]
  omega
/-- A' is A but that each place j of lo .. hi - 1 holds f j -/
def Laid (A A' : Cell) (lo hi : Nat) (f : Nat → Value) : Prop := A'.cls = A.cls ∧ A'.vm = A.vm ∧ A'.slots.size = A.slots.size ∧ ∀ i, A'.slots[i]? = if lo ≤ i ∧ i < hi then some (f i) else A.slots[i]?
theorem Laid.zero (A : Cell) (lo : Nat) (f : Nat → Value) : Laid A A lo (lo + 0) f := ⟨rfl, rfl, rfl, fun i => by rw [if_neg (by omega)]⟩
theorem Laid.step {A Ak : Cell} {lo k : Nat} {f : Nat → Value} {v : Value} (h : Laid A Ak lo k f) (hlo : lo ≤ k) (hk : k < Ak.slots.size) (hv : v = f k) : Laid A (Ak.setSlot k v) lo (k + 1) f := by
  refine ⟨h.1, h.2.1, by simpa [Cell.setSlot] using h.2.2.1, fun i => ?_⟩
  by_cases e : k = i
  · subst e; rw [Cell.slots_setSlot_self v hk, if_pos (by omega), hv]
  · rw [Cell.slots_setSlot_ne v e, h.2.2.2 i]
    by_cases q : lo ≤ i ∧ i < k
    · rw [if_pos q, if_pos (by omega)]
    · rw [if_neg q, if_neg (by omega)]
def U16 : String := "java/lang/StringUTF16"
/-- the String at a is Latin-1 over a new byte[] (the heap's one new cell): the low bytes of the len chars of A from o on; every cell but a is kept -/
def Got (a : Addr) (D : Cell) (fV fC : Field) (A : Cell) (o len : Nat) (r : Option Value) (s u : State) : Prop := r = none ∧ ∃ D' V : Cell, Blank "java/lang/String" a D' u ∧ Same D D' [fV.slot, fC.slot] ∧ D'.slots[fV.slot]? = some (.ref s.heap.size) ∧ D'.slots[fC.slot]? = some (.int 0) ∧ Arr .byte s.heap.size V u ∧ V.vm = .none ∧ u.vm.findClass "[B" = some V.cls ∧ V.slots.size = len ∧ (∀ j, j < len → V.slots[j]? = some (.int (lo8 (cv A (o + j))))) ∧ (∀ (y : Addr) (c : Cell), y ≠ a → s.heap[y]? = some c → u.heap[y]? = some c) ∧ u.heap.size = s.heap.size + 1
theorem Got.mv {a : Addr} {D A : Cell} {fV fC : Field} {o len : Nat} : ∀ r (U U' V V' : State), U'.heap = U.heap → V.vm.Alike V'.vm → V'.heap = V.heap → Got a D fV fC A o len r U V → Got a D fV fC A o len r U' V' :=
  fun r U U' V V' h1 hal h2 ⟨e0, D', X, a1, a2, a3, a4, a5, a6, a7, a8, a9, a10, a11⟩ => ⟨e0, D', X, a1.mv hal h2, a2, by rw [h1]; exact a3, a4, by rw [h1]; exact a5.mv hal h2, a6, by rw [hal.findClass]; exact a7, a8, a9, by rw [h1, h2]; exact a10, by rw [h1, h2]; exact a11⟩
/-- the byte, read back as charAt reads it, is the char -/
theorem lo8_mask {x : Int32} (h0 : ¬ x < 0) (h1 : ¬ 255 < x) : lo8 x &&& 255 = x := by
  have t : ∀ k : Fin 256, lo8 (Int32.ofNat k.val) &&& 255 = Int32.ofNat k.val := by decide +kernel
  rw [Int32.lt_iff_toInt_lt] at h0 h1
  have e0 : (0 : Int32).toInt = 0 := rfl
  have e1 : (255 : Int32).toInt = 255 := rfl
  obtain ⟨k, hk⟩ : ∃ k : Nat, x.toInt = k := ⟨x.toInt.toNat, by omega⟩
  have hx : x = Int32.ofNat k := Int32.toInt_inj.mp (by rw [hk, Int32.toInt_ofNat_small (by omega)])
  rw [hx]
  exact t ⟨k, by omega⟩
end StrChars
namespace StrChars.Road
open Jvm Sem ClassFile Op Lib Jvm.Stand Jvm.Free Jvm.Free.XT
open Jvm.Lib.Cold (StaticIs)
abbrev ST : String := "java/lang/String"
/-- WHAT COMES BACK, over the tables of the start Z: h the heap at the call, h' behind it -/
def Q (Z : State) (x : Addr) (A : Cell) (h : Heap) (v : Option Value) (h' : Heap) (L : List Loc) : Prop := v = none ∧ (∀ y ∈ L, y.base = x) ∧ RoadKit.Keep h h' [x] ∧ h'.size = h.size + 1 ∧ RoadKit.Exa Z h' x ST ∧ RoadKit.Fld Z h' x ST "value" "[B" (.ref h.size) ∧ RoadKit.Fld Z h' x ST "coder" "B" (.int 0) ∧
  (∃ V : Cell, RoadKit.Arr Z h' h.size V .byte ∧ V.vm = .none ∧ Z.vm.findClass "[B" = some V.cls ∧ V.slots.size = A.slots.size ∧ ∀ j, j < A.slots.size → V.slots[j]? = some (.int (lo8 (cv A j)))) ∧
  ∀ (O n d : String) (w : Value), RoadKit.Fld Z h x O n d w → RoadKit.slotOf Z O n d ≠ RoadKit.slotOf Z ST "value" "[B" → RoadKit.slotOf Z O n d ≠ RoadKit.slotOf Z ST "coder" "B" → RoadKit.Fld Z h' x O n d w
end StrChars.Road
namespace StrChars.Road
open Jvm Sem ClassFile Op Lib Jvm.Stand Jvm.Free Jvm.Free.XT
/-- WHAT COMES BACK, the byte[] as a list of values -/
def QA (Z : State) (x : Addr) (zn : Int32) (cs : List Int32) (h : Heap) (v : Option Value) (h' : Heap) (L : List Loc) : Prop := v = none ∧ (∀ y ∈ L, y.base = x) ∧ RoadKit.Keep h h' [x] ∧ h'.size = h.size + 1 ∧ RoadKit.Exa Z h' x ST ∧ RoadKit.Fld Z h' x ST "value" "[B" (.ref h.size) ∧ RoadKit.Fld Z h' x ST "coder" "B" (.int 0) ∧
  (∃ kb, Z.vm.findClass "[B" = some kb ∧ RoadKit.Arv Z h' h.size kb .byte zn (cs.map fun c => .int (lo8 c)) (.int 0)) ∧
  ∀ (O n d : String) (w : Value), RoadKit.Fld Z h x O n d w → RoadKit.slotOf Z O n d ≠ RoadKit.slotOf Z ST "value" "[B" → RoadKit.slotOf Z O n d ≠ RoadKit.slotOf Z ST "coder" "B" → RoadKit.Fld Z h' x O n d w
end StrChars.Road
namespace StrChars.Road
open Jvm Sem ClassFile Op Lib Jvm.Stand Jvm.Free Jvm.Free.XT
/-- WHAT COMES BACK, in the writer's own shape -/
def QV (Z : State) (x : Addr) (N : Int32) (bs : List Int32) (h : Heap) (n0 : Nat) (v : Option Value) (h' : Heap) (L : List Loc) : Prop := v = none ∧ RoadKit.Fr n0 L ∧ RoadKit.Keep h h' [x] ∧ RoadKit.Exa Z h' x ST ∧ RoadKit.Fld Z h' x ST "coder" "B" (.int 0) ∧
  ∃ (t : Addr) (kb : ClassId), n0 ≤ t ∧ h.size ≤ t ∧ ¬ t = x ∧ RoadKit.Fld Z h' x ST "value" "[B" (.ref t) ∧ RoadKit.Arv Z h' t kb .byte N (bs.map Value.int) (.int 0)
end StrChars.Road
namespace StrChars
open Jvm Sem ClassFile Op Lib Jvm.Stand Jvm.Free.XT Jvm.Free.ALB Jvm.Free.JM Jvm.Free
open Jvm.Lib.Cold (StaticIs)
def hi8 (x : Int32) : Int32 := lo8 (x >>> ((8 : Int32) &&& 31))
/-- what StringUTF16.getChar makes of two bytes -/
def pairCh (u v : Int32) : Int32 := (((u &&& 255) <<< ((0 : Int32) &&& 31)) ||| ((v &&& 255) <<< ((8 : Int32) &&& 31))).toUInt32.toUInt16.toUInt32.toInt32
theorem lo8_and (x : Int32) : (lo8 x &&& 255).toBitVec.toNat = x.toBitVec.toNat % 256 := by
  have h : (lo8 x).toBitVec = (x.toBitVec.signExtend 8).signExtend 32 := by rw [lo8, Int8.toBitVec_toInt32, Int32.toBitVec_toInt8]
  rw [Int32.toBitVec_and, BitVec.toNat_and, h]
  have e : ((x.toBitVec.signExtend 8).signExtend 32).toNat % 256 = x.toBitVec.toNat % 256 := by
    rw [BitVec.toNat_signExtend]
    have hlt := x.toBitVec.isLt
    simp only [BitVec.toNat_setWidth, BitVec.toNat_signExtend]
    split <;> split <;> omega
  rw [← e]
  exact Nat.and_two_pow_sub_one_eq_mod _ 8
theorem pair_says {c : Int32} (h0 : ¬ c < 0) (h1 : ¬ 65535 < c) : pairCh (lo8 c) (hi8 c) = c := by
  rw [Int32.lt_iff_toInt_lt] at h0 h1
  have e0 : (0 : Int32).toInt = 0 := rfl
  have e1 : (65535 : Int32).toInt = 65535 := rfl
  have hc : c.toInt = c.toBitVec.toNat := by
    have := c.toBitVec.isLt
    have e : c.toInt = c.toBitVec.toInt := rfl
    rw [e] at h0 h1
    rw [e]
    rw [BitVec.toInt_eq_toNat_cond] at h0 h1 ⊢
    split at h0 <;> split <;> omega
  have hn : c.toBitVec.toNat < 65536 := by omega
  have a1 := lo8_and c
  have a2 : (hi8 c &&& 255).toBitVec.toNat = c.toBitVec.toNat / 256 := by
    rw [hi8, lo8_and]
    have e : ((8 : Int32) &&& 31) = 8 := by decide
    rw [e, Int32.toBitVec_shiftRight]
    have e2 : ((8 : Int32).toBitVec.smod 32) = 8#32 := by decide
    rw [e2, BitVec.sshiftRight_eq', BitVec.toNat_sshiftRight_of_msb_false (by rw [BitVec.msb_eq_false_iff_two_mul_lt]; omega)]
    show c.toBitVec.toNat >>> 8 % 256 = _
    rw [Nat.shiftRight_eq_div_pow]
    omega
  unfold pairCh
  apply Int32.toBitVec_inj.mp
  apply BitVec.eq_of_toNat_eq
  have f0 : ((0 : Int32) &&& 31) = 0 := by decide
  have f8 : ((8 : Int32) &&& 31) = 8 := by decide
  rw [f0, f8]
  have g : (((lo8 c &&& 255) <<< (0 : Int32)) ||| ((hi8 c &&& 255) <<< (8 : Int32))).toBitVec.toNat = c.toBitVec.toNat := by
    rw [Int32.toBitVec_or, Int32.toBitVec_shiftLeft, Int32.toBitVec_shiftLeft]
    have s0 : ((0 : Int32).toBitVec.smod 32) = 0#32 := by decide
    have s8 : ((8 : Int32).toBitVec.smod 32) = 8#32 := by decide
    rw [s0, s8, BitVec.toNat_or]
    simp only [BitVec.shiftLeft_eq', BitVec.toNat_shiftLeft, a1, a2]
    show (c.toBitVec.toNat % 256) <<< 0 % 2 ^ 32 ||| (c.toBitVec.toNat / 256) <<< 8 % 2 ^ 32 = _
    rw [Nat.shiftLeft_zero, Nat.mod_eq_of_lt (show c.toBitVec.toNat % 256 < 2 ^ 32 by omega), Nat.mod_eq_of_lt (show (c.toBitVec.toNat / 256) <<< 8 < 2 ^ 32 by rw [Nat.shiftLeft_eq]; omega), Nat.or_comm, ← Nat.shiftLeft_add_eq_or_of_lt (by omega), Nat.shiftLeft_eq]
    omega
  show BitVec.toNat (((((lo8 c &&& 255) <<< (0 : Int32)) ||| ((hi8 c &&& 255) <<< (8 : Int32))).toBitVec.setWidth 16).setWidth 32) = _
  rw [BitVec.toNat_setWidth, BitVec.toNat_setWidth, g]
  omega
end StrChars
namespace StrChars
open Jvm Sem ClassFile Op Lib Jvm.Stand Jvm.Free.XT Jvm.Free.ALB Jvm.Free.JM Jvm.Free
open Jvm.Lib.Cold (StaticIs)
/-- the array's cell V codes the n chars f 0 .. f (n - 1) by the coder cd, as the JDK does: coder 1 just where some char is above 255 -/
def Cod (cd : Int32) (n : Nat) (f : Nat → Int32) (V : Cell) : Prop := (cd = 0 ∧ V.slots.size = n ∧ ∀ j, j < n → V.slots[j]? = some (.int (lo8 (f j))) ∧ ¬ 255 < f j) ∨ (cd = 1 ∧ V.slots.size = 2 * n ∧ (∀ j, j < n → V.slots[2 * j]? = some (.int (lo8 (f j))) ∧ V.slots[2 * j + 1]? = some (.int (hi8 (f j)))) ∧ ∃ j, j < n ∧ 255 < f j)
/-- **x is a String of the n chars f 0 .. f (n - 1)**, Latin-1 or UTF-16; its array at t has the cell V -/
def Txt (x t : Addr) (V : Cell) (cd : Int32) (n : Nat) (f : Nat → Int32) (U : State) : Prop := Exact "java/lang/String" x U ∧ Has x "java/lang/String" "value" "[B" (.ref t) U ∧ Has x "java/lang/String" "coder" "B" (.int cd) U ∧ XT.Arr .byte t V U ∧ Cod cd n f V ∧ ∀ j, j < n → ¬ f j < 0 ∧ ¬ 65535 < f j
theorem Txt.mv {x t : Addr} {V : Cell} {cd : Int32} {n : Nat} {f : Nat → Int32} {U U' : State} (h : Txt x t V cd n f U) (hal : U.vm.Alike U'.vm) (hh : U'.heap = U.heap) : Txt x t V cd n f U' := ⟨h.1.mv hal hh, h.2.1.mv hal hh, h.2.2.1.mv hal hh, h.2.2.2.1.mv hal hh, h.2.2.2.2⟩
end StrChars
namespace StrChars.Road
open Jvm Sem ClassFile Op Lib Jvm.Stand Jvm.Free Jvm.Free.XT
open Jvm.Lib.Cold (StaticIs)
theorem consq {a : Array Value} {s : State} {c : Jvm.Cond} {L : List Jvm.Cond} (h0 : c.before a s = true) (h : ∀ w ∈ L, w.before a s = true) : ∀ w ∈ c :: L, w.before a s = true := fun w hw => (List.mem_cons.mp hw).elim (fun e => e ▸ h0) (h w)
/-- the bytes of the chars cs, low before high -/
def wideBytes : List Int32 → List Value
  | [] => []
  | c :: cs => .int (lo8 c) :: .int (hi8 c) :: wideBytes cs
theorem wide_lo (d : Value) : ∀ (cs : List Int32) (j : Nat), j < cs.length → (wideBytes cs).getD (2 * j) d = .int (lo8 (cs.getD j 0))
  | [], j, h => absurd h (Nat.not_lt_zero j)
  | c :: cs, 0, _ => rfl
  | c :: cs, j + 1, h => by
    have q := wide_lo d cs j (by simpa using h)
    rw [show 2 * (j + 1) = 2 * j + 1 + 1 from by omega]
    simpa [wideBytes] using q
theorem wide_hi (d : Value) : ∀ (cs : List Int32) (j : Nat), j < cs.length → (wideBytes cs).getD (2 * j + 1) d = .int (hi8 (cs.getD j 0))
  | [], j, h => absurd h (Nat.not_lt_zero j)
  | c :: cs, 0, _ => rfl
  | c :: cs, j + 1, h => by
    have q := wide_hi d cs j (by simpa using h)
    rw [show 2 * (j + 1) + 1 = 2 * j + 1 + 1 + 1 from by omega]
    simpa [wideBytes] using q
theorem low_at (d : Value) (cs : List Int32) (j : Nat) (h : j < cs.length) : (cs.map fun c => Value.int (lo8 c)).getD j d = .int (lo8 (cs.getD j 0)) := by
  simp [List.getD_eq_getElem?_getD, h]
/-- an array of N2 bytes vs codes the chars cs by the coder cd -/
def CodA (cs : List Int32) (cd N2 : Int32) (vs : List Value) : Prop := (cd = 0 ∧ N2 = Int32.ofNat cs.length ∧ vs = (cs.map fun c => Value.int (lo8 c)) ∧ ∀ c ∈ cs, ¬ 255 < c) ∨ (cd = 1 ∧ N2 = Int32.ofNat (2 * cs.length) ∧ vs = wideBytes cs ∧ ∃ c ∈ cs, 255 < c)
theorem CodA.cod {cs : List Int32} {cd N2 : Int32} {vs : List Value} {V : Cell} (h : CodA cs cd N2 vs) (hn : 2 * cs.length < 2 ^ 31) (hs : V.slots.size = N2.toNatClampNeg) (hv : RoadKit.Has V vs (.int 0)) : Cod cd cs.length (fun j => cs.getD j 0) V := by
  rcases h with ⟨rfl, rfl, rfl, h⟩ | ⟨rfl, rfl, rfl, c, hc, hw⟩
  · rw [n32 (by omega)] at hs
    exact Or.inl ⟨rfl, hs, fun j hj => ⟨by rw [hv j (by omega), low_at _ _ _ hj], by
      have e : cs.getD j 0 = cs[j] := by simp [List.getD_eq_getElem?_getD, hj]
      show ¬ 255 < cs.getD j 0
      rw [e]; exact h _ (List.getElem_mem _)⟩⟩
  · rw [n32 (by omega)] at hs
    obtain ⟨j, hj, rfl⟩ := List.getElem_of_mem hc
    exact Or.inr ⟨rfl, hs, fun j hj => ⟨by rw [hv _ (by omega), wide_lo _ _ _ hj], by rw [hv _ (by omega), wide_hi _ _ _ hj]⟩, j, hj, by
      have e : cs.getD j 0 = cs[j] := by simp [List.getD_eq_getElem?_getD, hj]
      show 255 < cs.getD j 0
      rw [e]; exact hw⟩
/-- an object of exactly java/lang/String, its two fields found: as the laws ask it -/
theorem strObj {Z U : State} {a0 : Array Value} {kI : Nat} (wi : (Jvm.Cond.instantiable ST kI).before a0 Z = true) (al : Z.vm.Alike U.vm) {x : Addr} {v0 c0 : Value} (E : RoadKit.Exa Z U.heap x ST) (V : RoadKit.Fld Z U.heap x ST "value" "[B" v0) (C : RoadKit.Fld Z U.heap x ST "coder" "B" c0) :
    ∃ (D : Cell) (fV fC : Field), Blank ST x D U ∧ Found ST "value" "[B" fV U ∧ Found ST "coder" "B" fC U ∧ D.slots[fV.slot]? = some v0 ∧ D.slots[fC.slot]? = some c0 ∧ RoadKit.slotOf Z ST "value" "[B" = fV.slot ∧ RoadKit.slotOf Z ST "coder" "B" = fC.slot := by
  obtain ⟨D, cfV, kV, iV, fV, hD, gV, stV, knV, obV, asV, slV⟩ := V
  obtain ⟨D', cfC, kC, iC, fC, hD', gC, stC, -, -, asC, slC⟩ := C
  cases hD.symm.trans hD'
  obtain ⟨D2, kD, e1, e2, e3, e4, e5⟩ := E
  cases hD.symm.trans e1
  obtain ⟨c2, k2, i1, i2, i3, -⟩ := Cond.instantiable_spec wi
  cases e2.symm.trans i1
  cases e3.symm.trans i2
  obtain ⟨kU, u1, u2⟩ := al.2.2 _ _ e3
  exact ⟨D, fV, fC, ⟨hD, ⟨knV, fun q hq => by rw [hq] at obV; cases obV⟩, by rw [al.findClass]; exact e2, kU, u1, by rw [u2]; exact i3, by rw [u2]; exact e5 i3⟩, ⟨SBG.found_only al ⟨cfV, kV, iV, gV⟩, stV⟩, ⟨SBG.found_only al ⟨cfC, kC, iC, gC⟩, stC⟩, slV, slC, by simp [RoadKit.slotOf, gV], by simp [RoadKit.slotOf, gC]⟩
theorem sta_is {Z U : State} (al : Z.vm.Alike U.vm) {C n d : String} {v : Value} (S : RoadKit.Sta Z U.heap C n d v) : StaticIs U C n d v := by
  obtain ⟨cfS, iS, kS, fS, st, cS, t1, t2, t3, t4, t5, t6, t7⟩ := S
  exact StaticIs.there (s := { Z with heap := U.heap }) ⟨cfS, iS, kS, fS, st, cS, t1, t2, t3, t4, t5, (fun q => by rw [q] at t6; cases t6), t7⟩ al rfl
end StrChars.Road
namespace StrChars
open Jvm Sem ClassFile Op Lib Jvm.Stand Jvm.Free.XT Jvm.Free.ALB Jvm.Free.JM Jvm.Free
open Jvm.Lib.Cold (StaticIs)
/-- what place i of a byte[]'s cell holds -/
def yv (A : Cell) (i : Nat) : Int32 := match A.slots[i]? with | some (.int x) => x | _ => 0
theorem yv_get {a : Addr} {A : Cell} {U : State} (h : XT.Arr .byte a A U) (ht : Typed .byte A) {i : Nat} (hi : i < A.slots.size) : A.slots[i]? = some (.int (yv A i)) := by
  have e := Array.getElem?_eq_getElem hi
  have f := ht i _ e
  unfold yv; rw [e]
  generalize A.slots[i] = v at f
  cases v <;> simp [fits] at f ⊢
/-- the two arrays are equal, place for place -/
def EqC (A B : Cell) : Prop := A.slots.size = B.slots.size ∧ ∀ i, i < A.slots.size → yv A i = yv B i
/-- a boolean that says whether p -/
def Says01 (q : Prop) (r : Option Value) (s u : State) : Prop := ∃ v : Int32, r = some (.int v) ∧ u.heap = s.heap ∧ ((v = 1 ∧ q) ∨ (v = 0 ∧ ¬ q))
theorem Says01.mv {q : Prop} : ∀ r (U U' V V' : State), U'.heap = U.heap → V.vm.Alike V'.vm → V'.heap = V.heap → Says01 q r U V → Says01 q r U' V' :=
  fun r U U' V V' h1 _ h2 ⟨v, a, b, c⟩ => ⟨v, a, by rw [h1, h2]; exact b, c⟩
namespace LEq
def yN : MethodName := ⟨"java/lang/StringLatin1", "equals", "([B[B)Z"⟩
abbrev yB : ByteArray := jdk_43_method_13_code
theorem d0 : decode yB 0 = .ok (.aload_n 0, 1) := by decide +kernel
theorem d1 : decode yB 1 = .ok (.arraylength, 1) := by decide +kernel
theorem d2 : decode yB 2 = .ok (.aload_n 1, 1) := by decide +kernel
theorem d3 : decode yB 3 = .ok (.arraylength, 1) := by decide +kernel
theorem d4 : decode yB 4 = .ok (.if_icmp (.ne) 30, 3) := by decide +kernel
theorem d7 : decode yB 7 = .ok (.iconst 0, 1) := by decide +kernel
theorem d8 : decode yB 8 = .ok (.istore_n 2, 1) := by decide +kernel
theorem d9 : decode yB 9 = .ok (.iload_n 2, 1) := by decide +kernel
theorem d10 : decode yB 10 = .ok (.aload_n 0, 1) := by decide +kernel
theorem d11 : decode yB 11 = .ok (.arraylength, 1) := by decide +kernel
theorem d12 : decode yB 12 = .ok (.if_icmp (.ge) 20, 3) := by decide +kernel
theorem d15 : decode yB 15 = .ok (.aload_n 0, 1) := by decide +kernel
theorem d16 : decode yB 16 = .ok (.iload_n 2, 1) := by decide +kernel
theorem d17 : decode yB 17 = .ok (.baload, 1) := by decide +kernel
theorem d18 : decode yB 18 = .ok (.aload_n 1, 1) := by decide +kernel
theorem d19 : decode yB 19 = .ok (.iload_n 2, 1) := by decide +kernel
theorem d20 : decode yB 20 = .ok (.baload, 1) := by decide +kernel
theorem d21 : decode yB 21 = .ok (.if_icmp (.eq) 5, 3) := by decide +kernel
theorem d24 : decode yB 24 = .ok (.iconst 0, 1) := by decide +kernel
theorem d25 : decode yB 25 = .ok (.ireturn, 1) := by decide +kernel
theorem d26 : decode yB 26 = .ok (.iinc 2 1, 3) := by decide +kernel
theorem d29 : decode yB 29 = .ok (.goto (-20), 3) := by decide +kernel
theorem d32 : decode yB 32 = .ok (.iconst 1, 1) := by decide +kernel
theorem d33 : decode yB 33 = .ok (.ireturn, 1) := by decide +kernel
theorem d34 : decode yB 34 = .ok (.iconst 0, 1) := by decide +kernel
theorem d35 : decode yB 35 = .ok (.ireturn, 1) := by decide +kernel
def site : List Cond := []
def tab : Cond := tabOf yN yB 3 (some .boolean) site
def P (a : Addr) (A : Cell) (b : Addr) (B : Cell) (args : Array Value) (s : State) : Prop := args = #[.ref a, .ref b] ∧ XT.Arr .byte a A s ∧ Typed .byte A ∧ XT.Arr .byte b B s ∧ Typed .byte B
/-- whether two byte[] are equal, place for place -/
theorem law (l : Launch) (a : Addr) (A : Cell) (b : Addr) (B : Cell) : Law l yN 2 2 0 0 yB 3 (some .boolean) site (P a A b B) (Says01 (EqC A B)) [] 0 0 := by
  refine Law.of_walk (plainFor_of_name (by decide +kernel)) (by decide +kernel) (by decide +kernel) (by decide) (fun _ _ h => by rw [h.1]; rfl) (fun _ U U' hal hh h => ⟨h.1, h.2.1.mv hal hh, h.2.2.1, h.2.2.2.1.mv hal hh, h.2.2.2.2⟩) (fun r U U' V V' h1 hal h2 h => Says01.mv r U U' V V' h1 hal h2 h) ?_
  intro p e s m args below meth c s₁ X0 hexec hbytes hml hret hlk hnm hown hh0 W hP
  obtain ⟨rfl, hA, tA, hB, tB⟩ := hP
  have a31 := hA.2.2.2
  have b31 := hB.2.2.2
  have hA0 := hA.mv X0.warmed.alike hh0
  have hB0 := hB.mv X0.warmed.alike hh0
  have c1 : Steps p.tables e below (s₁.setTop (entryFrame m #[.ref a, .ref b] 3)) (s₁.setTop (mkF m 0 #[.val (.ref a), .val (.ref b), .unset] [])) := entry rfl
  have c2 : Steps p.tables e below (s₁.setTop (entryFrame m #[.ref a, .ref b] 3)) (s₁.setTop (mkF m 4 #[.val (.ref a), .val (.ref b), .unset] [.int (Int32.ofNat B.slots.size), .int (Int32.ofNat A.slots.size)])) := c1.trans (by
    refine XS.aloadN X0.here hexec rfl (hb hbytes d0) rfl rfl ?_
    refine X0.alen hexec hA0 rfl rfl (hb hbytes d1) ?_
    refine XS.aloadN X0.here hexec rfl (hb hbytes d2) rfl rfl ?_
    refine X0.alen hexec hB0 rfl rfl (hb hbytes d3) ?_
    exact Steps.refl _)
  by_cases hs : A.slots.size = B.slots.size
  · have c3 : Steps p.tables e below (s₁.setTop (entryFrame m #[.ref a, .ref b] 3)) (s₁.setTop (mkF m 9 #[.val (.ref a), .val (.ref b), .val (.int 0)] [])) := c2.trans (by
      refine XS.icmpNo X0.here hexec rfl (hb hbytes d4) rfl (ii_ne_f (by rw [hs])) ?_
      refine iconstV X0.here hexec rfl 0 (hb hbytes d7) (by decide) ?_
      refine XS.istoreN X0.here hexec rfl (hb hbytes d8) rfl rfl ?_
      exact Steps.refl _)
    have loop : ∀ (r i : Nat), i + r = A.slots.size → (∀ j, j < i → yv A j = yv B j) → Steps p.tables e below (s₁.setTop (entryFrame m #[.ref a, .ref b] 3)) (s₁.setTop (mkF m 9 #[.val (.ref a), .val (.ref b), .val (.int (Int32.ofNat i))] [])) → ∃ (pc : Nat) (Ls : Array Slot) (v : Int32), (pc = 25 ∨ pc = 33) ∧ ((v = 1 ∧ EqC A B) ∨ (v = 0 ∧ ¬ EqC A B)) ∧ Steps p.tables e below (s₁.setTop (entryFrame m #[.ref a, .ref b] 3)) (s₁.setTop (mkF m pc Ls [.int v])) := by
      intro r
      induction r with
      | zero =>
        intro i hi he cl
        exact ⟨33, _, 1, Or.inr rfl, Or.inl ⟨rfl, hs, fun j hj => he j (by omega)⟩, cl.trans (by
          refine XS.iloadN X0.here hexec rfl (hb hbytes d9) rfl ?_
          refine XS.aloadN X0.here hexec rfl (hb hbytes d10) rfl rfl ?_
          refine X0.alen hexec hA0 rfl rfl (hb hbytes d11) ?_
          refine XS.icmpYes X0.here hexec rfl (pc0 := 12) rfl (hb hbytes d12) rfl (ii_ge_t (nlt32 (by omega) (by omega))) (by decide) rfl ?_
          refine iconstV X0.here hexec rfl 1 (hb hbytes d32) (by decide) ?_
          exact Steps.refl _)⟩
      | succ r ih =>
        intro i hi he cl
        have c4 : Steps p.tables e below (s₁.setTop (entryFrame m #[.ref a, .ref b] 3)) (s₁.setTop (mkF m 21 #[.val (.ref a), .val (.ref b), .val (.int (Int32.ofNat i))] [.int (yv B i), .int (yv A i)])) := cl.trans (by
          refine XS.iloadN X0.here hexec rfl (hb hbytes d9) rfl ?_
          refine XS.aloadN X0.here hexec rfl (hb hbytes d10) rfl rfl ?_
          refine X0.alen hexec hA0 rfl rfl (hb hbytes d11) ?_
          refine XS.icmpNo X0.here hexec rfl (hb hbytes d12) rfl (ii_ge_f (lt32 (by omega) (by omega))) ?_
          refine XS.aloadN X0.here hexec rfl (hb hbytes d15) rfl rfl ?_
          refine XS.iloadN X0.here hexec rfl (hb hbytes d16) rfl ?_
          refine X0.aget hexec hA0 rfl (yv_get hA tA (i := i) (by omega)) rfl rfl (hb hbytes d17) ?_
          refine XS.aloadN X0.here hexec rfl (hb hbytes d18) rfl rfl ?_
          refine XS.iloadN X0.here hexec rfl (hb hbytes d19) rfl ?_
          refine X0.aget hexec hB0 rfl (yv_get hB tB (i := i) (by omega)) rfl rfl (hb hbytes d20) ?_
          exact Steps.refl _)
        by_cases hv : yv A i = yv B i
        · have c5 : Steps p.tables e below (s₁.setTop (entryFrame m #[.ref a, .ref b] 3)) (s₁.setTop (mkF m 9 #[.val (.ref a), .val (.ref b), .val (.int (Int32.ofNat i + 1))] [])) := c4.trans (by
            refine XS.icmpYes X0.here hexec rfl (pc0 := 21) rfl (hb hbytes d21) rfl (ii_eq_t hv) (by decide) rfl ?_
            refine iincV X0.here hexec rfl 1 (hb hbytes d26) (by decide) rfl rfl ?_
            refine XS.goto X0.here hexec rfl (pc0 := 29) rfl (hb hbytes d29) (by decide) rfl ?_
            exact Steps.refl _)
          rw [succ32] at c5
          exact ih (i + 1) (by omega) (fun j hj => by
            by_cases e : j = i
            · rw [e]; exact hv
            · exact he j (by omega)) c5
        · exact ⟨25, _, 0, Or.inl rfl, Or.inr ⟨rfl, fun q => hv (q.2 i (by omega))⟩, c4.trans (by
            refine XS.icmpNo X0.here hexec rfl (hb hbytes d21) rfl (ii_eq_f hv) ?_
            refine iconstV X0.here hexec rfl 0 (hb hbytes d24) (by decide) ?_
            exact Steps.refl _)⟩
    obtain ⟨pc, Ls, v, hpc, hv, cz⟩ := loop A.slots.size 0 (by omega) (fun j hj => absurd hj (Nat.not_lt_zero j)) c3
    have nv : narrow .boolean (.int v) = .int v := by rcases hv with ⟨rfl, -⟩ | ⟨rfl, -⟩ <;> rfl
    rcases hpc with rfl | rfl
    · exact ⟨s₁, some (.int v), _, _, _, X0, rfl, rfl, rfl, (fun h => by cases h), ⟨v, rfl, hh0, hv⟩, fun fs hl => cz.trans (X0.ireturnOut hexec hret nv (Or.inr (Or.inl rfl)) (hb hbytes d25) hl)⟩
    · exact ⟨s₁, some (.int v), _, _, _, X0, rfl, rfl, rfl, (fun h => by cases h), ⟨v, rfl, hh0, hv⟩, fun fs hl => cz.trans (X0.ireturnOut hexec hret nv (Or.inr (Or.inl rfl)) (hb hbytes d33) hl)⟩
  · have c3 : Steps p.tables e below (s₁.setTop (entryFrame m #[.ref a, .ref b] 3)) (s₁.setTop (mkF m 35 #[.val (.ref a), .val (.ref b), .unset] [.int 0])) := c2.trans (by
      refine XS.icmpYes X0.here hexec rfl (pc0 := 4) rfl (hb hbytes d4) rfl (ii_ne_t (ne32 a31 b31 hs)) (by decide) rfl ?_
      refine iconstV X0.here hexec rfl 0 (hb hbytes d34) (by decide) ?_
      exact Steps.refl _)
    exact ⟨s₁, some (.int 0), _, _, _, X0, rfl, rfl, rfl, (fun h => by cases h), ⟨0, rfl, hh0, Or.inr ⟨rfl, fun q => hs q.1⟩⟩, fun fs hl => c3.trans (X0.ireturnOut hexec hret rfl (Or.inr (Or.inl rfl)) (hb hbytes d35) hl)⟩
end LEq
theorem Cod.ty {cd : Int32} {n : Nat} {f : Nat → Int32} {V : Cell} (h : Cod cd n f V) : Typed .byte V := fun i v hv => by
  have hi : i < V.slots.size := (Array.getElem?_eq_some_iff.mp hv).1
  rcases h with ⟨-, k1, k2⟩ | ⟨-, k1, k2, -⟩
  · rw [(k2 i (by omega)).1] at hv; cases hv; exact fits_lo8 _
  · rcases Nat.mod_two_eq_zero_or_one i with e | e
    · obtain ⟨j, rfl⟩ : ∃ j, i = 2 * j := ⟨i / 2, by omega⟩
      rw [(k2 j (by omega)).1] at hv; cases hv; exact fits_lo8 _
    · obtain ⟨j, rfl⟩ : ∃ j, i = 2 * j + 1 := ⟨i / 2, by omega⟩
      rw [(k2 j (by omega)).2] at hv; cases hv; exact fits_lo8 _
/-- the same text -/
def SameT (n : Nat) (f : Nat → Int32) (k : Nat) (g : Nat → Int32) : Prop := n = k ∧ ∀ j, j < n → f j = g j
theorem lo8_inj {x y : Int32} (h0 : ¬ x < 0) (h1 : ¬ 255 < x) (k0 : ¬ y < 0) (k1 : ¬ 255 < y) (h : lo8 x = lo8 y) : x = y := by
  rw [← lo8_mask h0 h1, ← lo8_mask k0 k1, h]
/-- arrays coded by one coder are equal just where the texts are -/
theorem Cod.eqv {cd : Int32} {n k : Nat} {f g : Nat → Int32} {V V' : Cell} (h : Cod cd n f V) (h' : Cod cd k g V') (hf : ∀ j, j < n → ¬ f j < 0 ∧ ¬ 65535 < f j) (hg : ∀ j, j < k → ¬ g j < 0 ∧ ¬ 65535 < g j) : EqC V V' ↔ SameT n f k g := by
  have yvv : ∀ {W : Cell} {i : Nat} {x : Int32}, W.slots[i]? = some (.int x) → yv W i = x := fun q => by unfold yv; rw [q]
  rcases h with ⟨rfl, k1, k2⟩ | ⟨rfl, k1, k2, -⟩
  · rcases h' with ⟨-, m1, m2⟩ | ⟨e, -⟩
    · constructor
      · rintro ⟨e1, e2⟩
        refine ⟨by omega, fun j hj => ?_⟩
        have q := e2 j (by omega)
        rw [yvv (k2 j hj).1, yvv (m2 j (by omega)).1] at q
        exact lo8_inj (hf j hj).1 (k2 j hj).2 (hg j (by omega)).1 (m2 j (by omega)).2 q
      · rintro ⟨rfl, e2⟩
        refine ⟨by omega, fun j hj => ?_⟩
        rw [yvv (k2 j (by omega)).1, yvv (m2 j (by omega)).1, e2 j (by omega)]
    · exact absurd e (by decide)
  · rcases h' with ⟨e, -⟩ | ⟨-, m1, m2, -⟩
    · exact absurd e (by decide)
    · constructor
      · rintro ⟨e1, e2⟩
        refine ⟨by omega, fun j hj => ?_⟩
        have q1 := e2 (2 * j) (by omega)
        have q2 := e2 (2 * j + 1) (by omega)
        rw [yvv (k2 j hj).1, yvv (m2 j (by omega)).1] at q1
        rw [yvv (k2 j hj).2, yvv (m2 j (by omega)).2] at q2
        rw [← pair_says (hf j hj).1 (hf j hj).2, ← pair_says (hg j (by omega)).1 (hg j (by omega)).2, q1, q2]
      · rintro ⟨rfl, e2⟩
        refine ⟨by omega, fun i hi => ?_⟩
        rcases Nat.mod_two_eq_zero_or_one i with e | e
        · obtain ⟨j, rfl⟩ : ∃ j, i = 2 * j := ⟨i / 2, by omega⟩
          rw [yvv (k2 j (by omega)).1, yvv (m2 j (by omega)).1, e2 j (by omega)]
        · obtain ⟨j, rfl⟩ : ∃ j, i = 2 * j + 1 := ⟨i / 2, by omega⟩
          rw [yvv (k2 j (by omega)).2, yvv (m2 j (by omega)).2, e2 j (by omega)]
/-- two codings differ: so do the texts -/
theorem Cod.dif {cd cd' : Int32} {n k : Nat} {f g : Nat → Int32} {V V' : Cell} (h : Cod cd n f V) (h' : Cod cd' k g V') (hne : ¬ cd = cd') : ¬ SameT n f k g := by
  rintro ⟨rfl, e⟩
  rcases h with ⟨rfl, -, k2⟩ | ⟨rfl, -, -, j, hj, hw⟩
  · rcases h' with ⟨rfl, -⟩ | ⟨-, -, -, j, hj, hw⟩
    · exact hne rfl
    · exact (k2 j hj).2 (by rw [e j hj]; exact hw)
  · rcases h' with ⟨-, -, m2⟩ | ⟨rfl, -⟩
    · exact (m2 j hj).2 (by rw [← e j hj]; exact hw)
    · exact hne rfl
/-- an object of exactly C is an instance of C -/
theorem cinst {p : Program} {l : Launch} {e : Env} {R : Room} {s : State} {m : MethodId} {args : Array Value} {below : List Frame} {meth : Method} {c : Code} {T : State} {locs : List Loc} {cells slots : Nat} (X : Stand p l e R s m args below meth c T locs cells slots) (hexec : p.tables.exec = Jvm.exec) {own C : String} {index : Nat} (hown : s.vm.findClass own = some m.cls) (hlink : (Cond.classLink own index C).before args s = true) {a : Addr} (hE : Exact C a T)
    {g : JFrame} (hg : g.method = m) {rest : List Value} (hstack : g.stack = .ref a :: rest) (hdg : decode c.code g.pc = .ok (.instanceof index, 3)) :
    ∃ T', Stand p l e R s m args below meth c T' locs cells slots ∧ T'.heap = T.heap ∧ ∀ target, Steps p.tables e below (T'.setTop { g with pc := g.pc + 3, stack := .int 1 :: rest }) target → Steps p.tables e below (T.setTop g) target := by
  obtain ⟨cB, h1, D, h2, h3, h4⟩ := hE
  have h1' : s.vm.findClass C = some cB := by rw [← X.warmed.alike.findClass]; exact h1
  obtain ⟨vm', X', st⟩ := X.instanceofYes hexec hown hlink h2 h4 h1' (by rw [h3]; exact Jvm.Free.SB.assignable_self _ _) hg hstack hdg
  exact ⟨_, X', rfl, st⟩
theorem cself {p : Program} {l : Launch} {e : Env} {R : Room} {s : State} {m : MethodId} {args : Array Value} {below : List Frame} {meth : Method} {c : Code} {T : State} {locs : List Loc} {cells slots : Nat} (X : Stand p l e R s m args below meth c T locs cells slots) (hexec : p.tables.exec = Jvm.exec) {own C : String} {index : Nat} (hown : s.vm.findClass own = some m.cls) (hlink : (Cond.classLink own index C).before args s = true) {a : Addr} (hE : Exact C a T)
    {g : JFrame} (hg : g.method = m) {rest : List Value} (hstack : g.stack = .ref a :: rest) (hdg : decode c.code g.pc = .ok (.checkcast index, 3)) :
    ∃ T', Stand p l e R s m args below meth c T' locs cells slots ∧ T'.heap = T.heap ∧ ∀ target, Steps p.tables e below (T'.setTop { g with pc := g.pc + 3, stack := .ref a :: rest }) target → Steps p.tables e below (T.setTop g) target := by
  obtain ⟨cB, h1, D, h2, h3, h4⟩ := hE
  have h1' : s.vm.findClass C = some cB := by rw [← X.warmed.alike.findClass]; exact h1
  obtain ⟨vm', X', st⟩ := X.checkcastYes hexec hown hlink h2 h4 h1' (by rw [h3]; exact Jvm.Free.SB.assignable_self _ _) hg hstack hdg
  exact ⟨_, X', rfl, fun t h => st t (by rw [← hstack] at h; exact h)⟩
namespace SEq
def yN : MethodName := ⟨"java/lang/String", "equals", "(Ljava/lang/Object;)Z"⟩
abbrev yB : ByteArray := jdk_42_method_66_code
theorem d0 : decode yB 0 = .ok (.aload_n 0, 1) := by decide +kernel
theorem d1 : decode yB 1 = .ok (.aload_n 1, 1) := by decide +kernel
theorem d2 : decode yB 2 = .ok (.if_acmp (.ne) 5, 3) := by decide +kernel
theorem d5 : decode yB 5 = .ok (.iconst 1, 1) := by decide +kernel
theorem d6 : decode yB 6 = .ok (.ireturn, 1) := by decide +kernel
theorem d7 : decode yB 7 = .ok (.aload_n 1, 1) := by decide +kernel
theorem d8 : decode yB 8 = .ok (.instanceof 10, 3) := by decide +kernel
theorem d11 : decode yB 11 = .ok (.ifCond (.eq) 43, 3) := by decide +kernel
theorem d14 : decode yB 14 = .ok (.aload_n 1, 1) := by decide +kernel
theorem d15 : decode yB 15 = .ok (.checkcast 10, 3) := by decide +kernel
theorem d18 : decode yB 18 = .ok (.astore_n 2, 1) := by decide +kernel
theorem d19 : decode yB 19 = .ok (.getstatic 38, 3) := by decide +kernel
theorem d22 : decode yB 22 = .ok (.ifCond (.eq) 14, 3) := by decide +kernel
theorem d25 : decode yB 25 = .ok (.aload_n 0, 1) := by decide +kernel
theorem d26 : decode yB 26 = .ok (.getfield 15, 3) := by decide +kernel
theorem d29 : decode yB 29 = .ok (.aload_n 2, 1) := by decide +kernel
theorem d30 : decode yB 30 = .ok (.getfield 15, 3) := by decide +kernel
theorem d33 : decode yB 33 = .ok (.if_icmp (.ne) 21, 3) := by decide +kernel
theorem d36 : decode yB 36 = .ok (.aload_n 0, 1) := by decide +kernel
theorem d37 : decode yB 37 = .ok (.getfield 9, 3) := by decide +kernel
theorem d40 : decode yB 40 = .ok (.aload_n 2, 1) := by decide +kernel
theorem d41 : decode yB 41 = .ok (.getfield 9, 3) := by decide +kernel
theorem d44 : decode yB 44 = .ok (.invokestatic 541, 3) := by decide +kernel
theorem d47 : decode yB 47 = .ok (.ifCond (.eq) 7, 3) := by decide +kernel
theorem d50 : decode yB 50 = .ok (.iconst 1, 1) := by decide +kernel
theorem d51 : decode yB 51 = .ok (.goto 4, 3) := by decide +kernel
theorem d54 : decode yB 54 = .ok (.iconst 0, 1) := by decide +kernel
theorem d55 : decode yB 55 = .ok (.ireturn, 1) := by decide +kernel
def site : List Cond := [.classLink "java/lang/String" 10 "java/lang/String", .fieldLink "java/lang/String" 38 "java/lang/String" "COMPACT_STRINGS" "Z", .fieldLink "java/lang/String" 15 "java/lang/String" "coder" "B", .fieldLink "java/lang/String" 9 "java/lang/String" "value" "[B", LEq.tab] ++ staticW "java/lang/String" 541 LEq.yN
def tab : Cond := tabOf yN yB 3 (some .boolean) site
def P (x t : Addr) (V : Cell) (cd : Int32) (n : Nat) (f : Nat → Int32) (y t' : Addr) (V' : Cell) (cd' : Int32) (k : Nat) (g : Nat → Int32) (z : Int32) (args : Array Value) (s : State) : Prop := args = #[.ref x, .ref y] ∧ Txt x t V cd n f s ∧ Txt y t' V' cd' k g s ∧ StaticIs s "java/lang/String" "COMPACT_STRINGS" "Z" (.int z) ∧ ¬ z = 0
/-- equals(Object) of two Strings: whether the texts are the same -/
theorem law (l : Launch) (x t : Addr) (V : Cell) (cd : Int32) (n : Nat) (f : Nat → Int32) (y t' : Addr) (V' : Cell) (cd' : Int32) (k : Nat) (g : Nat → Int32) (z : Int32) : Law l yN 2 1 1 14 yB 3 (some .boolean) site (P x t V cd n f y t' V' cd' k g z) (Says01 (SameT n f k g)) [] 0 0 := by
  refine Law.of_walk (plainFor_of_name (by decide +kernel)) (by decide +kernel) (by decide +kernel) (by decide) (fun _ _ h => by rw [h.1]; rfl) (fun _ U U' hal hh h => ⟨h.1, h.2.1.mv hal hh, h.2.2.1.mv hal hh, h.2.2.2.1.there hal hh, h.2.2.2.2⟩) (fun r U U' V V' h1 hal h2 h => Says01.mv r U U' V V' h1 hal h2 h) ?_
  intro p e s m args below meth c s₁ X0 hexec hbytes hml hret hlk hnm hown hh0 W hP
  obtain ⟨rfl, hx, hy, s1, hz⟩ := hP
  have c1 : Steps p.tables e below (s₁.setTop (entryFrame m #[.ref x, .ref y] 3)) (s₁.setTop (mkF m 2 #[.val (.ref x), .val (.ref y), .unset] [.ref y, .ref x])) := Steps.trans (entry rfl) (by
    show Steps p.tables e below (s₁.setTop (mkF m 0 #[.val (.ref x), .val (.ref y), .unset] [])) _
    refine XS.aloadN X0.here hexec rfl (hb hbytes d0) rfl rfl ?_
    refine XS.aloadN X0.here hexec rfl (hb hbytes d1) rfl rfl ?_
    exact Steps.refl _)
  by_cases hxy : x = y
  · have c2 : Steps p.tables e below (s₁.setTop (entryFrame m #[.ref x, .ref y] 3)) (s₁.setTop (mkF m 6 #[.val (.ref x), .val (.ref y), .unset] [.int 1])) := c1.trans (by
      refine acmpNo X0.here hexec rfl (hb hbytes d2) rfl rfl rfl (by simp [acmp, hxy]) ?_
      refine iconstV X0.here hexec rfl 1 (hb hbytes d5) (by decide) ?_
      exact Steps.refl _)
    subst hxy
    have ec : cd = cd' := by
      obtain ⟨D, fd, a1, a2, a3⟩ := hx.2.2.1
      obtain ⟨D', fd', b1, b2, b3⟩ := hy.2.2.1
      cases a1.symm.trans b1
      obtain ⟨q1, q2, q3, q4⟩ := a2.1
      obtain ⟨r1, r2, r3, r4⟩ := b2.1
      cases q4.symm.trans r4
      cases a3.symm.trans b3; rfl
    have et : t = t' := by
      obtain ⟨D, fd, a1, a2, a3⟩ := hx.2.1
      obtain ⟨D', fd', b1, b2, b3⟩ := hy.2.1
      cases a1.symm.trans b1
      obtain ⟨q1, q2, q3, q4⟩ := a2.1
      obtain ⟨r1, r2, r3, r4⟩ := b2.1
      cases q4.symm.trans r4
      cases a3.symm.trans b3; rfl
    subst ec et
    have ev : V = V' := by cases hx.2.2.2.1.1.symm.trans hy.2.2.2.1.1; rfl
    subst ev
    have hs : SameT n f k g := (Cod.eqv hx.2.2.2.2.1 hy.2.2.2.2.1 hx.2.2.2.2.2 hy.2.2.2.2.2).mp ⟨rfl, fun _ _ => rfl⟩
    exact ⟨s₁, some (.int 1), _, _, _, X0, rfl, rfl, rfl, (fun h => by cases h), ⟨1, rfl, hh0, Or.inl ⟨rfl, hs⟩⟩, fun fs hl => c2.trans (X0.ireturnOut hexec hret rfl (Or.inr (Or.inl rfl)) (hb hbytes d6) hl)⟩
  · have c2 : Steps p.tables e below (s₁.setTop (entryFrame m #[.ref x, .ref y] 3)) (s₁.setTop (mkF m 8 #[.val (.ref x), .val (.ref y), .unset] [.ref y])) := c1.trans (by
      refine acmpYes X0.here hexec rfl (pc0 := 2) rfl (hb hbytes d2) rfl rfl rfl (by simp [acmp, hxy]) (by decide) rfl ?_
      refine XS.aloadN X0.here hexec rfl (hb hbytes d7) rfl rfl ?_
      exact Steps.refl _)
    obtain ⟨T3, X3, q3, st3⟩ := cinst X0 hexec hown (wk W (.classLink "java/lang/String" 10 "java/lang/String")) (hy.mv X0.warmed.alike hh0).1 (g := (mkF m 8 #[.val (.ref x), .val (.ref y), .unset] [.ref y])) rfl (rest := []) rfl (hb hbytes d8)
    have hh3 := q3.trans hh0
    have c4 : Steps p.tables e below (s₁.setTop (entryFrame m #[.ref x, .ref y] 3)) (T3.setTop (mkF m 15 #[.val (.ref x), .val (.ref y), .unset] [.ref y])) := (c2.trans (st3 _ (Steps.refl _))).trans (by
      refine XS.ifNo X3.here hexec rfl (hb hbytes d11) rfl (i0_eq_f (by decide)) ?_
      refine XS.aloadN X3.here hexec rfl (hb hbytes d14) rfl rfl ?_
      exact Steps.refl _)
    obtain ⟨T5, X5, q5, st5⟩ := cself X3 hexec hown (wk W (.classLink "java/lang/String" 10 "java/lang/String")) (hy.mv X3.warmed.alike hh3).1 (g := (mkF m 15 #[.val (.ref x), .val (.ref y), .unset] [.ref y])) rfl (rest := []) rfl (hb hbytes d15)
    have hh5 := q5.trans hh3
    have c6 : Steps p.tables e below (s₁.setTop (entryFrame m #[.ref x, .ref y] 3)) (T5.setTop (mkF m 19 #[.val (.ref x), .val (.ref y), .val (.ref y)] [])) := (c4.trans (st5 _ (Steps.refl _))).trans (by
      refine XS.astoreN X5.here hexec rfl (hb hbytes d18) rfl rfl rfl ?_
      exact Steps.refl _)
    obtain ⟨T7, X7, q7, st7⟩ := X5.sget hexec hown (wk W (.fieldLink "java/lang/String" 38 "java/lang/String" "COMPACT_STRINGS" "Z")) s1 (fun _ _ h => by rw [hh5]; exact h) (g := (mkF m 19 #[.val (.ref x), .val (.ref y), .val (.ref y)] [])) rfl (hb hbytes d19)
    have hh7 := q7.trans hh5
    have c8 : Steps p.tables e below (s₁.setTop (entryFrame m #[.ref x, .ref y] 3)) (T7.setTop (mkF m 26 #[.val (.ref x), .val (.ref y), .val (.ref y)] [.ref x])) := (c6.trans (st7 _ (Steps.refl _))).trans (by
      refine XS.ifNo X7.here hexec rfl (hb hbytes d22) rfl (i0_eq_f hz) ?_
      refine XS.aloadN X7.here hexec rfl (hb hbytes d25) rfl rfl ?_
      exact Steps.refl _)
    obtain ⟨T9, X9, q9, st9⟩ := X7.hget hexec hown (wk W (.fieldLink "java/lang/String" 15 "java/lang/String" "coder" "B")) (hx.mv X7.warmed.alike hh7).2.2.1 (g := (mkF m 26 #[.val (.ref x), .val (.ref y), .val (.ref y)] [.ref x])) rfl (rest := []) rfl (hb hbytes d26)
    have hh9 := q9.trans hh7
    have c10 : Steps p.tables e below (s₁.setTop (entryFrame m #[.ref x, .ref y] 3)) (T9.setTop (mkF m 30 #[.val (.ref x), .val (.ref y), .val (.ref y)] [.ref y, .int cd])) := (c8.trans (st9 _ (Steps.refl _))).trans (by
      refine XS.aloadN X9.here hexec rfl (hb hbytes d29) rfl rfl ?_
      exact Steps.refl _)
    obtain ⟨T11, X11, q11, st11⟩ := X9.hget hexec hown (wk W (.fieldLink "java/lang/String" 15 "java/lang/String" "coder" "B")) (hy.mv X9.warmed.alike hh9).2.2.1 (g := (mkF m 30 #[.val (.ref x), .val (.ref y), .val (.ref y)] [.ref y, .int cd])) rfl (rest := [.int cd]) rfl (hb hbytes d30)
    have hh11 := q11.trans hh9
    have c12 : Steps p.tables e below (s₁.setTop (entryFrame m #[.ref x, .ref y] 3)) (T11.setTop (mkF m 33 #[.val (.ref x), .val (.ref y), .val (.ref y)] [.int cd', .int cd])) := c10.trans (st11 _ (Steps.refl _))
    by_cases hcd : cd = cd'
    · subst hcd
      have c13 : Steps p.tables e below (s₁.setTop (entryFrame m #[.ref x, .ref y] 3)) (T11.setTop (mkF m 37 #[.val (.ref x), .val (.ref y), .val (.ref y)] [.ref x])) := c12.trans (by
        refine XS.icmpNo X11.here hexec rfl (hb hbytes d33) rfl (ii_ne_f rfl) ?_
        refine XS.aloadN X11.here hexec rfl (hb hbytes d36) rfl rfl ?_
        exact Steps.refl _)
      obtain ⟨T14, X14, q14, st14⟩ := X11.hget hexec hown (wk W (.fieldLink "java/lang/String" 9 "java/lang/String" "value" "[B")) (hx.mv X11.warmed.alike hh11).2.1 (g := (mkF m 37 #[.val (.ref x), .val (.ref y), .val (.ref y)] [.ref x])) rfl (rest := []) rfl (hb hbytes d37)
      have hh14 := q14.trans hh11
      have c15 : Steps p.tables e below (s₁.setTop (entryFrame m #[.ref x, .ref y] 3)) (T14.setTop (mkF m 41 #[.val (.ref x), .val (.ref y), .val (.ref y)] [.ref y, .ref t])) := (c13.trans (st14 _ (Steps.refl _))).trans (by
        refine XS.aloadN X14.here hexec rfl (hb hbytes d40) rfl rfl ?_
        exact Steps.refl _)
      obtain ⟨T16, X16, q16, st16⟩ := X14.hget hexec hown (wk W (.fieldLink "java/lang/String" 9 "java/lang/String" "value" "[B")) (hy.mv X14.warmed.alike hh14).2.1 (g := (mkF m 41 #[.val (.ref x), .val (.ref y), .val (.ref y)] [.ref y, .ref t])) rfl (rest := [.ref t]) rfl (hb hbytes d41)
      have hh16 := q16.trans hh14
      have c17 : Steps p.tables e below (s₁.setTop (entryFrame m #[.ref x, .ref y] 3)) (T16.setTop (mkF m 44 #[.val (.ref x), .val (.ref y), .val (.ref y)] [.ref t', .ref t])) := c15.trans (st16 _ (Steps.refl _))
      obtain ⟨v18, T18, X18, E18, g18⟩ := X16.callS hexec (LEq.law l t V t' V') hown (wks W (staticW "java/lang/String" 541 LEq.yN)) (wk W LEq.tab) (W := 0) (Nat.le_of_ble_eq_true rfl) (Nat.le_of_ble_eq_true rfl) (Nat.le_refl _) (Nat.le_refl _) (g := (mkF m 44 #[.val (.ref x), .val (.ref y), .val (.ref y)] [.ref t', .ref t])) rfl (by rw [hml]; rfl) c17 (argsL := [.ref t, .ref t']) (rest := []) rfl rfl (by show 2 * 0 + 0 ≤ _; decide) (hb hbytes d44) (⟨rfl, hx.2.2.2.1.mv X16.warmed.alike hh16, hx.2.2.2.2.1.ty, hy.2.2.2.1.mv X16.warmed.alike hh16, hy.2.2.2.2.1.ty⟩)
      obtain ⟨v, rfl, q18, hv⟩ := E18
      have iff := Cod.eqv hx.2.2.2.2.1 hy.2.2.2.2.1 hx.2.2.2.2.2 hy.2.2.2.2.2
      rcases hv with ⟨rfl, he⟩ | ⟨rfl, he⟩
      · have c19 : Steps p.tables e below (s₁.setTop (entryFrame m #[.ref x, .ref y] 3)) (T18.setTop (mkF m 55 #[.val (.ref x), .val (.ref y), .val (.ref y)] [.int 1])) := Steps.trans g18 (by
          refine XS.ifNo X18.here hexec rfl (hb hbytes d47) rfl (i0_eq_f (by decide)) ?_
          refine iconstV X18.here hexec rfl 1 (hb hbytes d50) (by decide) ?_
          refine XS.goto X18.here hexec rfl (pc0 := 51) rfl (hb hbytes d51) (by decide) rfl ?_
          exact Steps.refl _)
        exact ⟨T18, some (.int 1), _, _, _, X18, rfl, rfl, rfl, (fun h => by cases h), ⟨1, rfl, q18.trans hh16, Or.inl ⟨rfl, iff.mp he⟩⟩, fun fs hl => c19.trans (X18.ireturnOut hexec hret rfl (Or.inr (Or.inl rfl)) (hb hbytes d55) hl)⟩
      · have c19 : Steps p.tables e below (s₁.setTop (entryFrame m #[.ref x, .ref y] 3)) (T18.setTop (mkF m 55 #[.val (.ref x), .val (.ref y), .val (.ref y)] [.int 0])) := Steps.trans g18 (by
          refine XS.ifYes X18.here hexec rfl (pc0 := 47) rfl (hb hbytes d47) rfl (i0_eq_t rfl) (by decide) rfl ?_
          refine iconstV X18.here hexec rfl 0 (hb hbytes d54) (by decide) ?_
          exact Steps.refl _)
        exact ⟨T18, some (.int 0), _, _, _, X18, rfl, rfl, rfl, (fun h => by cases h), ⟨0, rfl, q18.trans hh16, Or.inr ⟨rfl, fun q => he (iff.mpr q)⟩⟩, fun fs hl => c19.trans (X18.ireturnOut hexec hret rfl (Or.inr (Or.inl rfl)) (hb hbytes d55) hl)⟩
    · have c13 : Steps p.tables e below (s₁.setTop (entryFrame m #[.ref x, .ref y] 3)) (T11.setTop (mkF m 55 #[.val (.ref x), .val (.ref y), .val (.ref y)] [.int 0])) := c12.trans (by
        refine XS.icmpYes X11.here hexec rfl (pc0 := 33) rfl (hb hbytes d33) rfl (ii_ne_t hcd) (by decide) rfl ?_
        refine iconstV X11.here hexec rfl 0 (hb hbytes d54) (by decide) ?_
        exact Steps.refl _)
      exact ⟨T11, some (.int 0), _, _, _, X11, rfl, rfl, rfl, (fun h => by cases h), ⟨0, rfl, hh11, Or.inr ⟨rfl, Cod.dif hx.2.2.2.2.1 hy.2.2.2.2.1 hcd⟩⟩, fun fs hl => c13.trans (X11.ireturnOut hexec hret rfl (Or.inr (Or.inl rfl)) (hb hbytes d55) hl)⟩
theorem pays {l : Launch} {R : Room} {p : Program} {e : Env} {below : List Frame} {s : State} {sargs : Array Value} {len W : Nat} (x t : Addr) (V : Cell) (cd : Int32) (n : Nat) (f : Nat → Int32) (y t' : Addr) (V' : Cell) (cd' : Int32) (k : Nat) (g : Nat → Int32) (z : Int32) (htab : tab.before sargs s = true) (hfr : 2 ≤ R.frames) (hlo : W + 28 ≤ R.locals) :
    Back l R p e below s sargs yN len W (fun A₁ a₁ => A₁.cells + 0 ≤ R.cells ∧ A₁.slots + 0 ≤ R.slots ∧ P x t V cd n f y t' V' cd' k g z a₁ A₁.U) (fun A₁ _ v₁ B₁ => Says01 (SameT n f k g) v₁ A₁.U B₁.U ∧ B₁.locs = A₁.locs ++ [] ∧ B₁.cells = A₁.cells + 0 ∧ B₁.slots = A₁.slots + 0) :=
  (law l x t V cd n f y t' V' cd' k g z).pays htab hfr (by omega)
end SEq
end StrChars
namespace StrChars.Road
open Jvm Sem ClassFile Op Lib Jvm.Stand Jvm.Free Jvm.Free.XT
open Jvm.Lib.Cold (StaticIs)
/-- the words of String.equals(Object) -/
abbrev wordsEq : List Jvm.Cond := [.code SEq.yN SEq.yB 3 (some .boolean), .initialized ST, .classLink ST 10 ST, .fieldLink ST 38 ST "COMPACT_STRINGS" "Z", .fieldLink ST 15 ST "coder" "B", .fieldLink ST 9 ST "value" "[B", .methodLink ST 541 LEq.yN, .static LEq.yN, .code LEq.yN LEq.yB 3 (some .boolean), .initialized "java/lang/StringLatin1"]
theorem tabEq_of {a : Array Value} {s : State} (h : ∀ w ∈ wordsEq, w.before a s = true) : SEq.tab.before a s = true := by
  have hl : LEq.tab.before a s = true := unparts (wk h (.code LEq.yN LEq.yB 3 (some .boolean))) (wks h (.initialized LEq.yN.cls :: LEq.site))
  have q := consq hl h
  exact unparts (wk q (.code SEq.yN SEq.yB 3 (some .boolean))) (wks q (.initialized SEq.yN.cls :: SEq.site))
theorem movedEq {Z s : State} {a0 args : Array Value} (hZ : Z.Warmed39 s.vm) (hw : ∀ d ∈ wordsEq, d.before a0 Z = true) : ∀ d ∈ wordsEq, d.before args s = true := fun d hd => by
  have t : ∀ d ∈ wordsEq, (d.onTables && d.keepsFace) = true := by decide +kernel
  exact RoadKit.mv hZ (hw d hd) (t d hd)
/-- the road's facts of a String, as the laws ask it -/
theorem txt_of {Z U : State} {a0 : Array Value} {kI : Nat} (wi : (Jvm.Cond.instantiable ST kI).before a0 Z = true) (al : Z.vm.Alike U.vm) {x t : Addr} {kb : ClassId} {cs : List Int32} {cd N2 : Int32} {vs : List Value} (E : RoadKit.Exa Z U.heap x ST) (V : RoadKit.Fld Z U.heap x ST "value" "[B" (.ref t)) (C : RoadKit.Fld Z U.heap x ST "coder" "B" (.int cd)) (K : RoadKit.Arv Z U.heap t kb .byte N2 vs (.int 0)) (hc : CodA cs cd N2 vs) (hb : ∀ c ∈ cs, ¬ c < 0 ∧ ¬ (65535 : Int32) < c) (l2 : cs.length ≤ 4000) :
    ∃ A, Txt x t A cd cs.length (fun j => cs.getD j 0) U := by
  obtain ⟨A, K1, K2, K3, K4, K5, K6⟩ := K
  have hcod := hc.cod (by omega) K3 K5
  obtain ⟨D, fV, fC, hB, F1, F2, g1, g2, -, -⟩ := strObj wi al E V C
  exact ⟨A, ⟨_, hB.2.2.1, D, hB.1, rfl, by cases q : D.vm <;> first | rfl | exact absurd q (hB.2.1.2 _)⟩, Has.of hB F1 g1, Has.of hB F2 g2, ⟨K1.1, State.isArrayOf_alike al K1.2.1, K1.2.2, by rcases hcod with ⟨-, q, -⟩ | ⟨-, q, -⟩ <;> omega⟩, hcod, fun j hj => by
    have e : cs.getD j 0 = cs[j] := by simp [List.getD_eq_getElem?_getD, hj]
    show ¬ cs.getD j 0 < 0 ∧ ¬ 65535 < cs.getD j 0
    rw [e]; exact hb _ (List.getElem_mem _)⟩
theorem same_list (cs ds : List Int32) : SameT cs.length (fun j => cs.getD j 0) ds.length (fun j => ds.getD j 0) ↔ cs = ds := by
  constructor
  · rintro ⟨e, q⟩
    refine List.ext_getElem e fun j h1 h2 => ?_
    have := q j h1
    simpa [List.getD_eq_getElem?_getD, h1, h2] using this
  · rintro rfl
    exact ⟨rfl, fun _ _ => rfl⟩
/-- **equals(Object) OF TWO SUCH STRINGS**: 1 just where the chars are the same -/
theorem eqW {p : Program} {l : Launch} {e : Env} {R : Room} {s : State} {args : Array Value} {below : List Frame} {len W : Nat} {Z : State} {a0 : Array Value} {h : Heap} (hZ : Z.Warmed39 s.vm) (hw : ∀ d ∈ wordsEq, d.before a0 Z = true) {kI : Nat} (wi : (Jvm.Cond.instantiable ST kI).before a0 Z = true)
    {x t : Addr} {kb : ClassId} {cs : List Int32} {cd N2 : Int32} {vs : List Value} (E : RoadKit.Exa Z h x ST) (V : RoadKit.Fld Z h x ST "value" "[B" (.ref t)) (C : RoadKit.Fld Z h x ST "coder" "B" (.int cd)) (K : RoadKit.Arv Z h t kb .byte N2 vs (.int 0)) (hc : CodA cs cd N2 vs) (hb : ∀ c ∈ cs, ¬ c < 0 ∧ ¬ (65535 : Int32) < c) (l2 : cs.length ≤ 4000)
    {y t' : Addr} {kb' : ClassId} {ds : List Int32} {cd' N2' : Int32} {vs' : List Value} (E' : RoadKit.Exa Z h y ST) (V' : RoadKit.Fld Z h y ST "value" "[B" (.ref t')) (C' : RoadKit.Fld Z h y ST "coder" "B" (.int cd')) (K' : RoadKit.Arv Z h t' kb' .byte N2' vs' (.int 0)) (hc' : CodA ds cd' N2' vs') (hb' : ∀ c ∈ ds, ¬ c < 0 ∧ ¬ (65535 : Int32) < c) (l2' : ds.length ≤ 4000)
    {z : Int32} (S : RoadKit.Sta Z h ST "COMPACT_STRINGS" "Z" (.int z)) (hz : ¬ z = 0) (hfr : 2 ≤ R.frames) (hlo : W + 28 ≤ R.locals) :
    Back l R p e below s args (⟨"java/lang/String", "equals", "(Ljava/lang/Object;)Z"⟩ : MethodName) len W (fun P a => a = #[.ref x, .ref y] ∧ P.U.heap = h ∧ P.cells + 0 ≤ R.cells ∧ P.slots + 0 ≤ R.slots)
      (fun P _ v B => ∃ L, (((v = some (.int 1) ∧ cs = ds) ∨ (v = some (.int 0) ∧ ¬ cs = ds)) ∧ L = [] ∧ B.U.heap = h) ∧ B.locs = P.locs ++ L ∧ B.cells = P.cells + 0 ∧ B.slots = P.slots + 0) := by
  intro m meth c P g ig mk a X hg hsize hdg hW hn hp'
  obtain ⟨rfl, rfl, r1, r2⟩ := hp'
  have al : Z.vm.Alike P.U.vm := hZ.alike.trans X.warmed.alike
  obtain ⟨A, hx⟩ := txt_of wi al E V C K hc hb l2
  obtain ⟨A', hy⟩ := txt_of wi al E' V' C' K' hc' hb' l2'
  obtain ⟨v, B, X', ⟨⟨w, hv, hh, hq⟩, hl, hk, hs⟩, st⟩ := SEq.pays x t A cd cs.length (fun j => cs.getD j 0) y t' A' cd' ds.length (fun j => ds.getD j 0) z (tabEq_of (movedEq hZ hw)) hfr hlo m meth c P g ig mk _ X hg hsize hdg hW hn ⟨r1, r2, rfl, hx, hy, sta_is al S, hz⟩
  refine ⟨v, B, X', ⟨[], ⟨?_, rfl, hh⟩, hl, hk, hs⟩, st⟩
  rcases hq with ⟨rfl, q⟩ | ⟨rfl, q⟩
  · exact Or.inl ⟨hv, (same_list cs ds).mp q⟩
  · exact Or.inr ⟨hv, fun e => q ((same_list cs ds).mpr e)⟩
end StrChars.Road
namespace StrChars.Road
open Jvm Sem ClassFile Op Lib Jvm.Stand Jvm.Free Jvm.Free.XT
open Jvm.Lib.Cold (StaticIs)
/-- what backV says of its String, as the contracts of this text ask it: cs's low bytes, coder 0 -/
theorem codOf {cs : List Int32} {n : Nat} (hn : cs.length = n) (hb : ∀ c ∈ cs, ¬ 255 < c) : CodA cs 0 (Int32.ofNat n) ((cs.map lo8).map Value.int) := Or.inl ⟨rfl, by rw [hn], by simp [List.map_map, Function.comp_def], hb⟩
end StrChars.Road
end Jvm.Pilot.@@N@@

namespace Jvm.Pilot.@@N@@
open Jvm Jvm.ClassFile Sem Op Lib Jvm.Free Jvm.Stand Jvm.LawKit Jvm.RoadKit Bundle Jvm.Pilot.@@N@@.Jvm.D
abbrev oI (x : Int32) : Slot := .val (.int x)
abbrev oJ (x : Int64) : Slot := .val (.long x)
abbrev oR (a : Addr) : Slot := .val (.ref a)
abbrev oN : Slot := .val .null
abbrev oV (v : Value) : Slot := .val v
abbrev oU : Slot := .unset
abbrev oS : Slot := .second
abbrev oP (p : Program) (e : Env) (below : List Frame) (T : State) (g : JFrame) (t : State) : Prop := Steps p.tables e below (T.setTop g) t
def own_svW (Z : State) (C n d : String) (k : Nat) : Addr :=
  match k with
  | 0 => match (Term.static C n d).eval #[] Z none [] Z with | some (.ref a) => a | _ => 0
  | j + 1 => own_svW Z C n d j
termination_by k
def own_sv (Z : State) (C n d : String) : Addr := own_svW Z C n d 0
theorem own_sv_eq (Z : State) (C n d : String) : own_sv Z C n d = match (Term.static C n d).eval #[] Z none [] Z with | some (.ref a) => a | _ => 0 := by
  unfold own_sv own_svW
  rfl
theorem own_sv_of {Z : State} {args : Array Value} {C n d : String} {a : Addr} (h : (Term.static C n d).eval args Z none [] Z = some (.ref a)) : (Term.static C n d).eval args Z none [] Z = some (.ref (own_sv Z C n d)) := by
  have h' : (Term.static C n d).eval #[] Z none [] Z = some (.ref a) := h
  rw [h, own_sv_eq, h']
theorem own_at {Z : State} {args : Array Value} {C n d K : String} (h : (Cond.exactly (Term.static C n d) K).value args Z none Z [] = some true) : (Term.static C n d).eval args Z none [] Z = some (.ref (own_sv Z C n d)) := by
  obtain ⟨a, ha⟩ := exa_v h
  exact own_sv_of ha
theorem own_sta {Z : State} {args : Array Value} {C n d K : String} (h : (Cond.exactly (Term.static C n d) K).value args Z none Z [] = some true) (hi : (Cond.initializedFor C n d).before args Z = true ∨ ((Cond.initialized C).before args Z = true ∧ (Cond.laysStatic C n d).before args Z = true)) : Sta Z Z.heap C n d (.ref (own_sv Z C n d)) := Sta.start (own_at h) hi
theorem own_exa {Z : State} {args : Array Value} {C n d K : String} (h : (Cond.exactly (Term.static C n d) K).value args Z none Z [] = some true) : Exa Z Z.heap (own_sv Z C n d) K := Exa.start (own_at h) h
theorem own_fldV {Z : State} {args : Array Value} {C n d O f fd : String} {v : Value} (h : (Term.field (Term.static C n d) O f fd).eval args Z none [] Z = some v) : Fld Z Z.heap (own_sv Z C n d) O f fd v := by
  obtain ⟨a, ha⟩ := fld_v h
  rw [fld_at (own_sv_of ha)] at h
  exact Fld.start h
theorem own_fldI {Z : State} {args : Array Value} {C n d O f fd : String} {k : Int32} (h : (Cond.eq (Term.field (Term.static C n d) O f fd) (Term.int k)).value args Z none Z [] = some true) : Fld Z Z.heap (own_sv Z C n d) O f fd (.int k) := by
  refine own_fldV (args := args) ?_
  cases hv : (Term.field (Term.static C n d) O f fd).eval args Z none [] Z with
  | none => simp [Cond.value, hv] at h
  | some v => cases v <;> simp_all [Cond.value, Term.eval]
abbrev own_Q (Q : Option Value → Heap → List Loc → Prop) (v : Option Value) (h : Heap) (L : List Loc) : Prop := Q v h L
theorem own_ite {P : Addr → Prop} {c : Prop} [Decidable c] {a b : Addr} (ha : P a) (hb : P b) : P (if c then a else b) := by split <;> assumption
theorem own_clamp (x : Int32) : x.toNatClampNeg = x.toInt.toNat := rfl
theorem own_and_le (x c : Int32) (hc : 0 ≤ c.toInt) : 0 ≤ (x &&& c).toInt ∧ (x &&& c).toInt ≤ c.toInt := by
  have hm : c.toBitVec.msb = false := by
    cases h : c.toBitVec.msb with
    | false => rfl
    | true =>
      have := BitVec.toInt_neg_of_msb_true h
      rw [Int32.toInt_toBitVec] at this
      omega
  have h : (x &&& c).toBitVec.msb = false := by
    rw [Int32.toBitVec_and, BitVec.msb_and, hm]; simp
  have e1 : (x &&& c).toInt = ((x &&& c).toBitVec.toNat : Int) := by
    rw [← Int32.toInt_toBitVec, BitVec.toInt_eq_toNat_of_msb h]
  have e2 : c.toInt = (c.toBitVec.toNat : Int) := by
    rw [← Int32.toInt_toBitVec, BitVec.toInt_eq_toNat_of_msb hm]
  have h3 : (x &&& c).toBitVec.toNat ≤ c.toBitVec.toNat := by
    rw [Int32.toBitVec_and, BitVec.toNat_and]; exact Nat.and_le_right
  omega
theorem own_rem {x y : Int32} (hx : 0 ≤ x.toInt) (hy : 0 < y.toInt) : (x - (x / y) * y).toInt = x.toInt % y.toInt := by
  have h1 : (x / y).toInt = x.toInt / y.toInt := by
    rw [Int32.toInt_div]
    rw [Int.tdiv_eq_ediv_of_nonneg hx]
    have := Int32.toInt_lt x
    have h2 : 0 ≤ x.toInt / y.toInt := Int.ediv_nonneg hx (by omega)
    have h3 : x.toInt / y.toInt ≤ x.toInt := Int.ediv_le_self _ hx
    apply Int.bmod_eq_of_le <;> omega
  rw [Int32.toInt_sub, Int32.toInt_mul, h1]
  have h2 : 0 ≤ x.toInt / y.toInt * y.toInt := Int.mul_nonneg (Int.ediv_nonneg hx (by omega)) (by omega)
  have h3 : x.toInt / y.toInt * y.toInt ≤ x.toInt := Int.ediv_mul_le _ (by omega)
  have h4 := Int32.toInt_lt x
  rw [Int.bmod_eq_of_le (n := x.toInt / y.toInt * y.toInt) (by omega) (by omega)]
  have h5 : x.toInt - x.toInt / y.toInt * y.toInt = x.toInt % y.toInt := by
    have := Int.emod_add_mul_ediv x.toInt y.toInt
    have h6 : x.toInt / y.toInt * y.toInt = y.toInt * (x.toInt / y.toInt) := Int.mul_comm _ _
    omega
  rw [h5]
  have h6 := Int.emod_nonneg x.toInt (b := y.toInt) (by omega)
  have h7 := Int.emod_lt_of_pos x.toInt hy
  have h8 := Int32.toInt_lt y
  apply Int.bmod_eq_of_le <;> omega
theorem own_mem {i : Int32} {n : Nat} (h0 : 0 ≤ i.toInt) (h1 : i.toInt < n) : ∃ k, k < n ∧ i = Int32.ofNat k := by
  refine ⟨i.toInt.toNat, by omega, ?_⟩
  apply Int32.toInt_inj.mp
  have := Int32.toInt_lt i
  rw [Int32.toInt_ofNat_of_lt (by omega)]
  omega
theorem own_old_le {Z : State} {n0 : Nat} {h : Heap} (O : Old Z n0 h) : n0 ≤ h.size := O.1 ▸ O.2.1
def own_Vals (Z : State) (a : Addr) (ty : FieldType) (z : Int32) (vs : List Value) (dv : Value) : Prop := ∃ cl : Cell, Arr Z Z.heap a cl ty ∧ FitC Z cl ∧ cl.slots.size = z.toNatClampNeg ∧ Has cl vs dv ∧ ∀ i, i < cl.slots.size → fits ty (vs.getD i dv) = true
theorem own_clone {Z : State} {h : Heap} {b : Addr} {cl : Cell} {ty : FieldType} {z : Int32} {vs : List Value} {dv : Value} (A : Arr Z h b (cloneOf cl) ty) (S : cl.slots.size = z.toNatClampNeg) (hz : ¬ z < 0) (H : Has cl vs dv) (G : ∀ i, i < cl.slots.size → fits ty (vs.getD i dv) = true) : Arv Z h b cl.cls ty z vs dv := ⟨_, A, rfl, S, hz, H, G⟩
theorem own_elem {Z : State} {args : Array Value} {C n d C2 n2 d2 : String} {i : Int32} {cl : Cell} {ty : FieldType} {j : Nat} (h : (Cond.eq (Term.elem (Term.static C n d) (Term.int i)) (Term.static C2 n2 d2)).value args Z none Z [] = some true) (ht : (Term.static C2 n2 d2).eval args Z none [] Z = some (.ref (own_sv Z C2 n2 d2))) (A : Arr Z Z.heap (own_sv Z C n d) cl ty) (hj : i.toNatClampNeg = j) : cl.slots[j]? = some (.ref (own_sv Z C2 n2 d2)) := by
  subst hj
  have hi : (Term.int i).eval args Z none [] Z = some (.int i) := Term.int_eval i
  cases hv : (Term.elem (Term.static C n d) (Term.int i)).eval args Z none [] Z with
  | none => simp [Cond.value, hv] at h
  | some w =>
    obtain ⟨⟨x, hx⟩, -⟩ := elem_v hv
    have h2 := (elem_in hv (own_sv_of hx) hi A.1).2
    rw [h2]
    cases w <;> simp_all [Cond.value]
theorem own_getD {P : Value → Prop} {dv : Value} (hd : P dv) : ∀ (vs : List Value) (h : ∀ v ∈ vs, P v) (i : Nat), P (vs.getD i dv)
  | [], _, _ => by simpa using hd
  | v :: vs, h, 0 => h v (List.mem_cons_self ..)
  | v :: vs, h, i + 1 => own_getD hd vs (fun w hw => h w (List.mem_cons_of_mem _ hw)) i
theorem own_vals {Z : State} {args : Array Value} {C n d C2 : String} {k : Int32} {vs : List Value} (hf : Fit Z) (h1 : (Cond.arrayOf (Term.static C n d) (.object C2)).value args Z none Z [] = some true) (h2 : (Cond.eq (Term.length (Term.static C n d)) (Term.int k)).value args Z none Z [] = some true) (hl : k.toNatClampNeg = vs.length) (hk : ¬ k < 0)
    (h3 : ∀ cl, Arr Z Z.heap (own_sv Z C n d) cl (.object C2) → HasL cl 0 vs) (h4 : ∀ v ∈ vs, fits (.object C2) v = true) : own_Vals Z (own_sv Z C n d) (.object C2) k vs .null := by
  obtain ⟨x, hx⟩ := arr_v h1
  have ev := own_sv_of hx
  obtain ⟨cl, A⟩ := Arr.start ev h1
  have hs : cl.slots.size = k.toNatClampNeg := by
    cases hv : (Term.length (Term.static C n d)).eval args Z none [] Z with
    | none => simp [Cond.value, hv] at h2
    | some w =>
      obtain ⟨a, cell, e1, e2, e3⟩ := Term.length_spec hv
      cases ev.symm.trans e1
      have e4 := A.fin (Vm.Alike.refl _)
      cases e4.symm.trans e2
      have hlt : cl.slots.size < 2 ^ 31 := SBG.length_lt ev e4 hv
      subst e3
      have e5 : cl.slots.size.toInt32 = k := by
        have hi : (Term.int k).eval args Z none [] Z = some (.int k) := Term.int_eval k
        simpa [Cond.value, hv, hi] using h2
      rw [← e5]
      have e6 := len_toInt hlt
      simp only [own_clamp]
      omega
  have H := h3 cl A
  refine ⟨cl, A, FitC.start hf A, hs, fun i hi => ?_, fun i _ => own_getD (P := fun v => fits (.object C2) v = true) rfl vs h4 i⟩
  have := HasL.at (dv := .null) vs 0 H i (by omega)
  simpa using this
theorem own_fldN {Z : State} {args : Array Value} {C n d O f fd : String} (h : (Cond.eq (Term.field (Term.static C n d) O f fd) Term.null).value args Z none Z [] = some true) : Fld Z Z.heap (own_sv Z C n d) O f fd .null := own_fldV (args := args) (null_v h)
theorem own_fldS {Z : State} {args : Array Value} {C n d O f fd C2 n2 d2 K2 : String} (h : (Cond.eq (Term.field (Term.static C n d) O f fd) (Term.static C2 n2 d2)).value args Z none Z [] = some true) (h2 : (Cond.exactly (Term.static C2 n2 d2) K2).value args Z none Z [] = some true) : Fld Z Z.heap (own_sv Z C n d) O f fd (.ref (own_sv Z C2 n2 d2)) := by
  refine own_fldV (args := args) ?_
  have e2 := own_at h2
  cases hv : (Term.field (Term.static C n d) O f fd).eval args Z none [] Z with
  | none => simp [Cond.value, hv] at h
  | some v => cases v <;> simp_all [Cond.value]
theorem own_fldL {Z : State} {args : Array Value} {C n d O f fd : String} {k : Int64} (h : (Cond.eq (Term.field (Term.static C n d) O f fd) (Term.long k)).value args Z none Z [] = some true) : Fld Z Z.heap (own_sv Z C n d) O f fd (.long k) := by
  refine own_fldV (args := args) ?_
  cases hv : (Term.field (Term.static C n d) O f fd).eval args Z none [] Z with
  | none => simp [Cond.value, hv] at h
  | some v => cases v <;> simp_all [Cond.value, Term.eval]
theorem own_staI {Z : State} {args : Array Value} {C n d : String} {k : Int32} (h : (Cond.eq (Term.static C n d) (Term.int k)).value args Z none Z [] = some true) (hi : (Cond.initializedFor C n d).before args Z = true ∨ ((Cond.initialized C).before args Z = true ∧ (Cond.laysStatic C n d).before args Z = true)) : Sta Z Z.heap C n d (.int k) := by
  refine Sta.start (args := args) ?_ hi
  cases hv : (Term.static C n d).eval args Z none [] Z with
  | none => simp [Cond.value, hv] at h
  | some v =>
    have hk : (Term.int k).eval args Z none [] Z = some (.int k) := Term.int_eval k
    cases v <;> simp_all [Cond.value]
def own_Cache (Z : State) (a : Addr) (C : String) (n : Nat) : Prop := ∃ cl : Cell, Arr Z Z.heap a cl (.object C) ∧ cl.slots.size = n ∧ ∀ j, j < n → ∃ x, cl.slots[j]? = some (.ref x) ∧ Exa Z Z.heap x C
theorem own_nsroot {Z : State} {a0 : Array Value} {O K : String} {n : Nat} (w : (Cond.noSuperclass O).before a0 Z = true) (wk : (Cond.instantiable K n).before a0 Z = true) (hn : O ≠ K) : NS Z O K := by
  obtain ⟨c, k, h1, h2, h3, -, -⟩ := Cond.noSuperclass_spec w
  obtain ⟨t, kt, g1, -⟩ := Cond.instantiable_spec wk
  have ne := ids_ne h1 g1 hn
  refine ⟨c, t, h1, g1, fun fuel => ?_⟩
  cases fuel with
  | zero => rfl
  | succ f => simp [Vm.isSubclassAux, ne, h2, h3]
theorem own_nsno {Z : State} {a0 : Array Value} {C S K : String} {n : Nat} (w : (Cond.superclass C S).before a0 Z = true) (wk : (Cond.instantiable K n).before a0 Z = true) (m : NS Z C K) (hn : C ≠ K) : ∃ c t, Z.vm.findClass C = some c ∧ Z.vm.findClass K = some t ∧ Z.vm.assignable c t = false := by
  obtain ⟨c, t, h0, g0, n3⟩ := m
  obtain ⟨p, k, kp, h1, h2, h3, h4, h5, -, h7⟩ := Cond.superclass_spec h0 w
  obtain ⟨t', k', g1, g2, g3, g4, -⟩ := Cond.instantiable_spec wk
  cases g0.symm.trans g1
  have g5 : k'.isInterface = false := by
    cases hq : k'.isInterface with
    | false => rfl
    | true => simp [hq] at g4
  have ne := ids_ne h0 g0 hn
  refine ⟨c, t, h0, g0, ?_⟩
  show Z.vm.assignableAux (255 + 1) c t = false
  simp [Vm.assignableAux, ne, h2, g2, h5, g3, g5, Vm.isSubclass, n3]
theorem own_fitsR {v : Value} {C : String} (h : v.isRef = true) : fits (.object C) v = true := by cases v <;> simp_all [Value.isRef, fits]
def own_si (Z : State) (C n d : String) : Int32 := match (Term.static C n d).eval #[] Z none [] Z with | some (.int a) => a | _ => 0
theorem own_si_of {Z : State} {args : Array Value} {C n d : String} (h : (Cond.isInt (Term.static C n d)).value args Z none Z [] = some true) : (Term.static C n d).eval args Z none [] Z = some (.int (own_si Z C n d)) := by
  obtain ⟨x, hx⟩ := is_v h
  have h' : (Term.static C n d).eval #[] Z none [] Z = some (.int x) := hx
  rw [hx]; unfold own_si; rw [h']
theorem own_sti {Z : State} {args : Array Value} {C n d : String} (h : (Cond.isInt (Term.static C n d)).value args Z none Z [] = some true) (hi : (Cond.initializedFor C n d).before args Z = true ∨ ((Cond.initialized C).before args Z = true ∧ (Cond.laysStatic C n d).before args Z = true)) : Sta Z Z.heap C n d (.int (own_si Z C n d)) := Sta.start (own_si_of h) hi
theorem own_stn {Z : State} {args : Array Value} {C n d : String} (h : (Cond.isInt (Term.static C n d)).value args Z none Z [] = some true) (hn : (Cond.not (Cond.eq (Term.static C n d) (Term.int 0))).value args Z none Z [] = some true) : ¬ own_si Z C n d = 0 := by
  have e := own_si_of h
  have h0 : (Term.int 0).eval args Z none [] Z = some (.int 0) := Term.int_eval 0
  have q := not_v hn
  intro z
  rw [z] at e
  simp [Cond.value, e, h0] at q
theorem own_char {c x : Int32} (h : c = (x &&& (255 : Int32))) : ¬ c < 0 ∧ ¬ (255 : Int32) < c := by
  have q := own_and_le x 255 (by decide)
  rw [← h] at q
  have e : (255 : Int32).toInt = 255 := by decide
  have e0 : (0 : Int32).toInt = 0 := by decide
  rw [Int32.lt_iff_toInt_lt, Int32.lt_iff_toInt_lt, e, e0]
  omega
theorem own_narc {c : Int32} (h : ¬ c < 0 ∧ ¬ (255 : Int32) < c) : nar .char c = c := by
  rw [Int32.lt_iff_toInt_lt, Int32.lt_iff_toInt_lt] at h
  have e : (255 : Int32).toInt = 255 := by decide
  have e0 : (0 : Int32).toInt = 0 := by decide
  rw [e, e0] at h
  obtain ⟨k, hk, rfl⟩ := own_mem (i := c) (n := 256) (by omega) (by omega)
  have t : ∀ k : Fin 256, nar .char (Int32.ofNat k.val) = Int32.ofNat k.val := by decide +kernel
  exact t ⟨k, hk⟩
theorem own_hb {cs : List Int32} (h : ∀ c ∈ cs, ¬ c < 0 ∧ ¬ (255 : Int32) < c) : ∀ c ∈ cs, ¬ c < 0 ∧ ¬ (65535 : Int32) < c := fun c hc => by
  have q := h c hc
  refine ⟨q.1, fun z => q.2 ?_⟩
  rw [Int32.lt_iff_toInt_lt] at z ⊢
  have e : (255 : Int32).toInt = 255 := by decide
  have e0 : (65535 : Int32).toInt = 65535 := by decide
  omega
theorem own_eqv {v : Option Value} {cs ds : List Int32} (h : (v = some (.int 1) ∧ cs = ds) ∨ (v = some (.int 0) ∧ ¬ cs = ds)) : v = some (.int (if cs = ds then (1 : Int32) else (0 : Int32))) := by
  rcases h with ⟨h1, h2⟩ | ⟨h1, h2⟩
  · rw [if_pos h2]; exact h1
  · rw [if_neg h2]; exact h1
theorem own_since (s : State) : s.Since s.vm 0 := (State.WarmedH.refl s).since 0
theorem own_rwmono {s t : State} {o : Outcome} {L : List Loc} {k n k' n' : Nat} (h : ReturnedEndW s o t L k n) (hk : k ≤ k') (hn : n ≤ n') : ReturnedEndW s o t L k' n' := ⟨h.1, h.2.1, h.2.2.1, h.2.2.2.mono hk hn⟩
theorem own_cache {Z : State} {args : Array Value} {C n d K : String} {k : Int32} {N : Nat} {rest : Cond} (h1 : (Cond.arrayOf (Term.static C n d) (.object K)).value args Z none Z [] = some true) (h2 : (Cond.eq (Term.length (Term.static C n d)) (Term.int k)).value args Z none Z [] = some true)
    (h3 : (Cond.all (Term.static C n d) (.and (.exactly (.elem (Term.static C n d) (.index 0)) K) rest)).value args Z none Z [] = some true) (hN : k.toNatClampNeg = N) : own_Cache Z (own_sv Z C n d) K N := by
  obtain ⟨x, hx⟩ := arr_v h1
  have ev := own_sv_of hx
  obtain ⟨cl, A⟩ := Arr.start ev h1
  have e4 := A.fin (Vm.Alike.refl _)
  have hs : cl.slots.size = k.toNatClampNeg ∧ cl.slots.size < 2 ^ 31 := by
    cases hv : (Term.length (Term.static C n d)).eval args Z none [] Z with
    | none => simp [Cond.value, hv] at h2
    | some w =>
      obtain ⟨a, cell, e1, e2, e3⟩ := Term.length_spec hv
      cases ev.symm.trans e1
      cases e4.symm.trans e2
      have hlt : cl.slots.size < 2 ^ 31 := SBG.length_lt ev e4 hv
      subst e3
      have e5 : cl.slots.size.toInt32 = k := by
        have hi : (Term.int k).eval args Z none [] Z = some (.int k) := Term.int_eval k
        simpa [Cond.value, hv, hi] using h2
      rw [← e5]
      have e6 := len_toInt hlt
      refine ⟨?_, hlt⟩
      simp only [own_clamp]
      omega
  refine ⟨cl, A, hs.1.trans hN, fun j hj => ?_⟩
  have q := Cond.all_elim ev e4 h3 j (by omega)
  obtain ⟨q1, -⟩ := and_e q
  obtain ⟨y, hy⟩ := exa_v q1
  have ev' : (Term.static C n d).eval args Z none [j] Z = some (.ref (own_sv Z C n d)) := ev
  have hj' : (Term.index 0).eval args Z none [j] Z = some (.int (Int32.ofNat j)) := Term.index_eval _
  have r := (elem_in hy ev' hj' A.1).2
  have e6 : (Int32.ofNat j).toNatClampNeg = j := by
    have := len_toInt (n := j) (by omega)
    simp only [own_clamp]
    have e7 : (Int32.ofNat j).toInt = j := this
    omega
  rw [e6] at r
  exact ⟨y, r, exa_at hy q1⟩
theorem own_cacheix {p : Int32} {cl : Cell} (h1 : ¬ p < (-128 : Int32)) (h2 : ¬ (127 : Int32) < p) (S : cl.slots.size = 256) : ¬ (p + (128 : Int32) < 0 ∨ cl.slots.size ≤ (p + (128 : Int32)).toNatClampNeg) ∧ (p + (128 : Int32)).toNatClampNeg < 256 := by
  rw [Int32.lt_iff_toInt_lt] at h1 h2 ⊢
  have e1 : (-128 : Int32).toInt = -128 := by decide
  have e2 : (127 : Int32).toInt = 127 := by decide
  have e3 : (0 : Int32).toInt = 0 := by decide
  have e4 : (128 : Int32).toInt = 128 := by decide
  have e5 : (p + (128 : Int32)).toInt = p.toInt + 128 := by
    rw [Int32.toInt_add, e4]
    apply Int.bmod_eq_of_le <;> omega
  simp only [own_clamp]
  omega
theorem own_staA {Z : State} {args : Array Value} {C n d : String} {ty : FieldType} (h : (Cond.arrayOf (Term.static C n d) ty).value args Z none Z [] = some true) (hi : (Cond.initializedFor C n d).before args Z = true ∨ ((Cond.initialized C).before args Z = true ∧ (Cond.laysStatic C n d).before args Z = true)) : Sta Z Z.heap C n d (.ref (own_sv Z C n d)) := by
  obtain ⟨a, ha⟩ := arr_v h
  exact Sta.start (own_sv_of ha) hi
end Jvm.Pilot.@@N@@
namespace Jvm.Pilot.@@N@@
open Jvm Jvm.ClassFile Sem Op Lib Jvm.Free Jvm.Stand Jvm.LawKit Jvm.RoadKit Bundle Jvm.Pilot.@@N@@.Jvm.D
def a_high (Z : State) : Addr := own_sv Z "java/lang/Integer$IntegerCache" "high" "I"
def a_cache (Z : State) : Addr := own_sv Z "java/lang/Integer$IntegerCache" "cache" "[Ljava/lang/Integer;"
def St (Z : State) : Prop := (Sta Z Z.heap "java/lang/Integer$IntegerCache" "high" "I" (.int (127 : Int32))) ∧ (Sta Z Z.heap "java/lang/Integer$IntegerCache" "cache" "[Ljava/lang/Integer;" (.ref (a_cache Z))) ∧ (Exa Z Z.heap (a_cache Z) "[Ljava/lang/Integer;") ∧ (Sta Z Z.heap "java/lang/String" "COMPACT_STRINGS" "Z" (.int (own_si Z "java/lang/String" "COMPACT_STRINGS" "Z"))) ∧ (¬ own_si Z "java/lang/String" "COMPACT_STRINGS" "Z" = 0) ∧ (own_Cache Z (a_cache Z) "java/lang/Integer" 256)
theorem s_a_high {Z : State} (h : St Z) : Sta Z Z.heap "java/lang/Integer$IntegerCache" "high" "I" (.int (127 : Int32)) := h.1
theorem s_a_cache {Z : State} (h : St Z) : Sta Z Z.heap "java/lang/Integer$IntegerCache" "cache" "[Ljava/lang/Integer;" (.ref (a_cache Z)) := h.2.1
theorem e_a_cache {Z : State} (h : St Z) : Exa Z Z.heap (a_cache Z) "[Ljava/lang/Integer;" := h.2.2.1
theorem s_compact {Z : State} (h : St Z) : Sta Z Z.heap "java/lang/String" "COMPACT_STRINGS" "Z" (.int (own_si Z "java/lang/String" "COMPACT_STRINGS" "Z")) := h.2.2.2.1
theorem n_compact {Z : State} (h : St Z) : ¬ own_si Z "java/lang/String" "COMPACT_STRINGS" "Z" = 0 := h.2.2.2.2.1
theorem c_a_cache {Z : State} (h : St Z) : own_Cache Z (a_cache Z) "java/lang/Integer" 256 := h.2.2.2.2.2
theorem own_wsEq {Z : State} {a0 : Array Value} (hw : ∀ d ∈ tables_1, d.before a0 Z = true) : ∀ d ∈ StrChars.Road.wordsEq, d.before a0 Z = true := fun d hd => hw d ((by decide +kernel : ∀ d ∈ StrChars.Road.wordsEq, d ∈ tables_1) d hd)
theorem own_i2c {c : Int32} (h : ¬ c < 0 ∧ ¬ (255 : Int32) < c) : c.toUInt32.toUInt16.toUInt32.toInt32 = c := own_narc h
theorem own_i8 (c : Int32) : (c.toInt8.toInt32).toInt8.toInt32 = c.toInt8.toInt32 := by simp
theorem own_wS {Z : State} {a0 : Array Value} (hw : ∀ d ∈ tables_1, d.before a0 Z = true) : ∀ a ∈ Bundle.stringAtoms, a.before a0 Z = true := by
  intro a ha
  simp only [Bundle.stringAtoms, List.mem_cons, List.not_mem_nil, or_false] at ha
  rcases ha with rfl | rfl | rfl | rfl | rfl | rfl | rfl
  · exact (hw _ (List.mem_of_getElem? (i := 6) rfl))
  · exact (hw _ (List.mem_of_getElem? (i := 14) rfl))
  · exact (hw _ (List.mem_of_getElem? (i := 18) rfl))
  · exact (hw _ (List.mem_of_getElem? (i := 27) rfl))
  · exact (hw _ (List.mem_of_getElem? (i := 29) rfl))
  · exact (hw _ (List.mem_of_getElem? (i := 38) rfl))
  · exact (hw _ (List.mem_of_getElem? (i := 39) rfl))
def own_EL : List (String × Nat) := [("com/example/narada/narada/client/MessageQueueEqualsPinLaw", 7)]
theorem own_EW {Z : State} {a0 : Array Value} (hw : ∀ d ∈ tables_1, d.before a0 Z = true) : EW Z a0 own_EL := (EW.cons (hw _ (List.mem_of_getElem? (i := 72) rfl)) (by decide) EW.nil)
theorem own_cext {Z : State} {EL : List (String × Nat)} {vm vm1 : Vm} {h h' h2 : Heap} (A : CHr Z EL vm h vm1 h') (E : Ext h' h2) : CHr Z EL vm h vm1 h2 := A.trans (CHr.ext E A.1)
theorem own_ckeep {Z : State} {EL : List (String × Nat)} {vm vm1 : Vm} {h h' h2 : Heap} (A : CHr Z EL vm h vm1 h') (K : Keep h' h2 []) : CHr Z EL vm h vm1 h2 := A.trans (CHr.keep K sf0 A.1)
theorem own_cwr {Z : State} {EL : List (String × Nat)} {vm vm1 : Vm} {h h' h2 : Heap} (A : CHr Z EL vm h vm1 h') {a : Addr} {sl : Nat} {v : Value} (W : Wr h' h2 a sl v) (S : Safe Z EL vm1 h' a) : CHr Z EL vm h vm1 h2 := A.trans (CHr.wr W S A.1)
theorem own_cend {p : Program} {l : Launch} {e : Env} {R : Room} {s : State} {m : MethodId} {args : Array Value} {below : List Frame} {meth : Method} {c : Code} {T : State} {locs : List Loc} {cells slots : Nat} {vm0 : Vm} {a0 : Array Value} {Z : State} {EL : List (String × Nat)} {vm : Vm} {h h' : Heap} (X : Stand p l e R (s.setVm vm0) m args below meth c T locs cells slots) (hZ : Z.Warmed39 vm0) (w : EW Z a0 EL) (A : CHr Z EL vm h vm0 h') : CHr Z EL vm h T.vm h' := A.trans (CHv.at X hZ w A.1)
theorem own_e0 : (∀ c ∈ "".toList, c.toNat < 256) ∧ "".toList.map (fun c => Value.int (Jvm.Lit.byteI c.toNat.toUInt16)) = [] := by constructor <;> first | (simp; done) | decide | rfl
theorem d3_0 : decode jdk_43_method_3_code 0 = .ok (.iload_n 0, 1) := by decide +kernel
theorem d3_1 : decode jdk_43_method_3_code 1 = .ok (.sipush 255, 3) := by decide +kernel
theorem d3_4 : decode jdk_43_method_3_code 4 = .ok (.if_icmp .gt 7, 3) := by decide +kernel
theorem d3_11 : decode jdk_43_method_3_code 11 = .ok (.iconst 0, 1) := by decide +kernel
theorem d3_12 : decode jdk_43_method_3_code 12 = .ok (.ireturn, 1) := by decide +kernel
theorem d3_7 : decode jdk_43_method_3_code 7 = .ok (.iconst 1, 1) := by decide +kernel
theorem d3_8 : decode jdk_43_method_3_code 8 = .ok (.goto 4, 3) := by decide +kernel
def fn3 (Z : State) (p0 : Int32) : Int32 :=
  if (255 : Int32) < p0 then
    (0 : Int32)
  else
    (1 : Int32)
theorem ef_3 (m : MethodId) (x0 : Int32) : entryFrame m #[(.int x0)] 1 = mkF m 0 #[.val (.int x0)] [] := by first | (simp [entryFrame, mkF, argsToLocals, Value.category]; done) | rfl
theorem pn_0 : plainName "java/lang/StringLatin1" = true := by first | (simp [plainName, overriddenIn]; done) | decide +kernel
set_option maxRecDepth 65536 in
set_option maxHeartbeats 40000000 in
theorem rm3 (l : Launch) (Z : State) (a0 : Array Value) (hw : ∀ d ∈ tables_1, d.before a0 Z = true) (hS : St Z) (ws : List Jvm.Cond) (p0 : Int32) (h0 : Heap) (n0 : Nat) (O0 : Old Z n0 h0) :
    MetFree l (⟨"java/lang/StringLatin1", "canEncode", "(C)Z"⟩ : MethodName) (head1 (Jvm.Cond.code (⟨"java/lang/StringLatin1", "canEncode", "(C)Z"⟩ : MethodName) jdk_43_method_3_code 1 (some .boolean) :: ws) ({ frames := 0, cells := 0, slots := 0, locals := 0 } : Room)) (fun a U => a = #[(.int p0)] ∧ Z.Warmed39 U.vm ∧ U.heap = h0) (fun _ _ _ _ _ => True) (fun _ U o U' => ∃ v L, o = .returned v ∧ own_Q (fun v hE L => v = some (.int (fn3 Z p0)) ∧ Fr n0 L ∧ hE = h0) v U'.heap L ∧ FrameEnd U o U' L ({ frames := 0, cells := 0, slots := 0, locals := 0 } : Room).cells ({ frames := 0, cells := 0, slots := 0, locals := 0 } : Room).slots) := by
  refine MetFree.of_bodySF (plainFor_of_name pn_0) hisR ?_
  intro p e s m args below meth c s₁ Bd hml0 hP hK
  obtain ⟨rfl, hZ, hh⟩ := hP
  have hx := Bd.exec
  have hby := Bd.bytes
  have hml : c.maxLocals = 1 := hml0
  have hown : s.vm.findClass "java/lang/StringLatin1" = some m.cls := findClass_of_methodNamed Bd.named
  have X0 : Stand p l e ({ frames := 0, cells := 0, slots := 0, locals := 0 } : Room) s m #[(.int p0)] below meth c s₁ [] 0 0 := Stand.of_body Bd
  have e0 : s₁.heap = h0 := by rw [← hh, Bd.state]; rfl
  have N0 := Fr.nil n0
  have pre0 : ∀ t, Steps p.tables e below (s₁.setTop (mkF m 0 #[oI p0] [])) t → Steps p.tables e below (s₁.setTop (entryFrame m #[(.int p0)] 1)) t := fun t k => castTop (ef_3 m p0) k
  have pre1 : ∀ t, oP p e below s₁ (mkF m 4 #[oI p0] [(.int (255 : Int32)), (.int p0)]) t → oP p e below s₁ (entryFrame m #[(.int p0)] 1) t := fun t k => pre0 t (by
    show oP p e below s₁ (mkF m 0 #[oI p0] []) _
    refine XS.iloadN X0.here hx rfl (hb hby d3_0) rfl ?_
    show oP p e below s₁ (mkF m 1 #[oI p0] [(.int p0)]) _
    refine XS.sipush X0.here hx rfl (hb hby d3_1) ?_
    exact k)
  by_cases hc2 : (255 : Int32) < p0
  · obtain ⟨fs, hr, hrun, hended, hW, hsame⟩ := X0.leave (v := some (.int (0 : Int32))) (fun h => by rw [Bd.returns] at h; cases h)
    refine ⟨_, _, pre1 _ ?_, hrun, hended, _, _, rfl, ?_, ⟨_, rfl⟩, hW, hsame.mono (by decide) (by decide)⟩
    · show oP p e below s₁ (mkF m 4 #[oI p0] [(.int (255 : Int32)), (.int p0)]) _
      refine XS.icmpYes X0.here hx rfl (pc0 := 4) (pc' := 11) rfl (hb hby d3_4) rfl (tlt hc2).2.2.1 (by decide) (by decide) ?_
      show oP p e below s₁ (mkF m 11 #[oI p0] []) _
      refine XS.iconst X0.here hx rfl (hb hby d3_11) ?_
      show oP p e below s₁ (mkF m 12 #[oI p0] [(.int (0 : Int32))]) _
      exact retN X0 hx (t := .boolean) Bd.returns (by simp) (hb hby d3_12) hr
    · show (some (.int (0 : Int32)) : Option Value) = some (.int (fn3 Z p0)) ∧ Fr n0 _ ∧ s₁.heap = h0
      rw [e0]
      refine ⟨?_, N0, rfl⟩
      unfold fn3
      rw [if_pos hc2]
  · obtain ⟨fs, hr, hrun, hended, hW, hsame⟩ := X0.leave (v := some (.int (1 : Int32))) (fun h => by rw [Bd.returns] at h; cases h)
    refine ⟨_, _, pre1 _ ?_, hrun, hended, _, _, rfl, ?_, ⟨_, rfl⟩, hW, hsame.mono (by decide) (by decide)⟩
    · show oP p e below s₁ (mkF m 4 #[oI p0] [(.int (255 : Int32)), (.int p0)]) _
      refine XS.icmpNo X0.here hx rfl (hb hby d3_4) rfl (flt hc2).2.2.1 ?_
      show oP p e below s₁ (mkF m 7 #[oI p0] []) _
      refine XS.iconst X0.here hx rfl (hb hby d3_7) ?_
      show oP p e below s₁ (mkF m 8 #[oI p0] [(.int (1 : Int32))]) _
      refine XS.goto X0.here hx rfl (pc0 := 8) (pc' := 12) rfl (hb hby d3_8) (by decide) (by decide) ?_
      show oP p e below s₁ (mkF m 12 #[oI p0] [(.int (1 : Int32))]) _
      exact retN X0 hx (t := .boolean) Bd.returns (by simp) (hb hby d3_12) hr
    · show (some (.int (1 : Int32)) : Option Value) = some (.int (fn3 Z p0)) ∧ Fr n0 _ ∧ s₁.heap = h0
      rw [e0]
      refine ⟨?_, N0, rfl⟩
      unfold fn3
      rw [if_neg hc2]
theorem d4_0 : decode jdk_43_method_46_code 0 = .ok (.iconst 1, 1) := by decide +kernel
theorem d4_1 : decode jdk_43_method_46_code 1 = .ok (.newarray .byte, 2) := by decide +kernel
theorem d4_3 : decode jdk_43_method_46_code 3 = .ok (.dup, 1) := by decide +kernel
theorem d4_4 : decode jdk_43_method_46_code 4 = .ok (.iconst 0, 1) := by decide +kernel
theorem d4_5 : decode jdk_43_method_46_code 5 = .ok (.iload_n 0, 1) := by decide +kernel
theorem d4_6 : decode jdk_43_method_46_code 6 = .ok (.i2b, 1) := by decide +kernel
theorem d4_7 : decode jdk_43_method_46_code 7 = .ok (.bastore, 1) := by decide +kernel
theorem d4_8 : decode jdk_43_method_46_code 8 = .ok (.areturn, 1) := by decide +kernel
theorem ef_4 (m : MethodId) (x0 : Int32) : entryFrame m #[(.int x0)] 1 = mkF m 0 #[.val (.int x0)] [] := by first | (simp [entryFrame, mkF, argsToLocals, Value.category]; done) | rfl
set_option maxRecDepth 65536 in
set_option maxHeartbeats 40000000 in
theorem rm4 (l : Launch) (Z : State) (a0 : Array Value) (hw : ∀ d ∈ tables_1, d.before a0 Z = true) (hS : St Z) (ws : List Jvm.Cond) (p0 : Int32) (h0 : Heap) (n0 : Nat) (O0 : Old Z n0 h0) :
    MetFree l (⟨"java/lang/StringLatin1", "toBytes", "(C)[B"⟩ : MethodName) (head1 (Jvm.Cond.code (⟨"java/lang/StringLatin1", "toBytes", "(C)[B"⟩ : MethodName) jdk_43_method_46_code 1 (some (.array .byte)) :: ws) ({ frames := 0, cells := 1, slots := 1, locals := 0 } : Room)) (fun a U => a = #[(.int p0)] ∧ Z.Warmed39 U.vm ∧ U.heap = h0) (fun _ _ _ _ _ => True) (fun _ U o U' => ∃ v L, o = .returned v ∧ own_Q (fun v hE L => ∃ (b : Addr), ∃ (kb : ClassId), v = some (.ref b) ∧ Fr n0 L ∧ Keep h0 hE [] ∧ h0.size ≤ b ∧ Arv Z hE b kb .byte (1 : Int32) [(.int ((p0.toInt8.toInt32).toInt8.toInt32))] (.int (0 : Int32))) v U'.heap L ∧ FrameEnd U o U' L ({ frames := 0, cells := 1, slots := 1, locals := 0 } : Room).cells ({ frames := 0, cells := 1, slots := 1, locals := 0 } : Room).slots) := by
  refine MetFree.of_bodySF (plainFor_of_name pn_0) hisR ?_
  intro p e s m args below meth c s₁ Bd hml0 hP hK
  obtain ⟨rfl, hZ, hh⟩ := hP
  have hx := Bd.exec
  have hby := Bd.bytes
  have hml : c.maxLocals = 1 := hml0
  have hown : s.vm.findClass "java/lang/StringLatin1" = some m.cls := findClass_of_methodNamed Bd.named
  have hnm := (name_of_methodNamed Bd.named Bd.method).1
  have X0 : Stand p l e ({ frames := 0, cells := 1, slots := 1, locals := 0 } : Room) s m #[(.int p0)] below meth c s₁ [] 0 0 := Stand.of_body Bd
  have e0 : s₁.heap = h0 := by rw [← hh, Bd.state]; rfl
  have N0 := Fr.nil n0
  have pre0 : ∀ t, Steps p.tables e below (s₁.setTop (mkF m 0 #[oI p0] [])) t → Steps p.tables e below (s₁.setTop (entryFrame m #[(.int p0)] 1)) t := fun t k => castTop (ef_4 m p0) k
  obtain ⟨T3, h3, k3, X3, e3, E3, A3, st3⟩ := newP X0 hx hZ (hw _ (List.mem_of_getElem? (i := 18) rfl)) e0 (g := (mkF m 1 #[oI p0] [(.int (1 : Int32))])) rfl (hb hby d4_1) rfl (by decide) (cap := 1) (by decide) (by decide) (by decide) (by decide)
  obtain ⟨b3, g3⟩ : ∃ z, z = h0.size := ⟨_, rfl⟩
  have g_b3 : n0 ≤ b3 := Nat.le_trans (own_old_le O0) (Nat.le_of_eq g3.symm)
  have sz_b3 : h0.size ≤ b3 := Nat.le_trans (Keep.refl h0 []).1 (Nat.le_of_eq g3.symm)
  rw [← g3] at A3 st3
  have O3 := O0.ext E3
  have Kc3 := (Keep.refl h0 []).ext E3
  have V3 : Arv Z h3 b3 k3 .byte (1 : Int32) [(.int (0 : Int32))] (.int (0 : Int32)) := (Arv.new A3 (by decide)).pad (pad_rep [] (.int (0 : Int32)) 1)
  obtain ⟨T4, h4, X4, e4, W4, V4', st4⟩ := own_stB X3 hx hZ e3 V3 (j := (0 : Int32)) ⟨by decide, by decide⟩ rfl (by decide : ((0 : Int32) : Int32).toNatClampNeg < 1) (g := (mkF m 7 #[oI p0] [(.int (p0.toInt8.toInt32)), (.int (0 : Int32)), (.ref b3), (.ref b3)])) rfl rfl (hb hby d4_7)
  have N4 := Fr.snoc X4 N0 g_b3
  have O4 := O3.wr W4 g_b3
  have Kc4 := Kc3.wr W4 (Or.inr sz_b3)
  have V4 : Arv Z h4 b3 k3 .byte (1 : Int32) [(.int ((p0.toInt8.toInt32).toInt8.toInt32))] (.int (0 : Int32)) := V4'
  obtain ⟨fs, hr, hrun, hended, hW, hsame⟩ := X4.leave (v := some (.ref b3)) (fun h => by rw [Bd.returns] at h; cases h)
  refine ⟨_, _, pre0 _ ?_, hrun, hended, _, _, rfl, ?_, ⟨_, rfl⟩, hW, hsame.mono (by decide) (by decide)⟩
  · show oP p e below s₁ (mkF m 0 #[oI p0] []) _
    refine XS.iconst X0.here hx rfl (hb hby d4_0) ?_
    show oP p e below s₁ (mkF m 1 #[oI p0] [(.int (1 : Int32))]) _
    refine st3 _ ?_
    show oP p e below T3 (mkF m 3 #[oI p0] [(.ref b3)]) _
    refine XS.dup X3.here hx rfl (hb hby d4_3) rfl rfl ?_
    show oP p e below T3 (mkF m 4 #[oI p0] [(.ref b3), (.ref b3)]) _
    refine XS.iconst X3.here hx rfl (hb hby d4_4) ?_
    show oP p e below T3 (mkF m 5 #[oI p0] [(.int (0 : Int32)), (.ref b3), (.ref b3)]) _
    refine XS.iloadN X3.here hx rfl (hb hby d4_5) rfl ?_
    show oP p e below T3 (mkF m 6 #[oI p0] [(.int p0), (.int (0 : Int32)), (.ref b3), (.ref b3)]) _
    refine XS.i2b X3.here hx rfl (hb hby d4_6) rfl ?_
    show oP p e below T3 (mkF m 7 #[oI p0] [(.int (p0.toInt8.toInt32)), (.int (0 : Int32)), (.ref b3), (.ref b3)]) _
    refine st4 _ ?_
    show oP p e below T4 (mkF m 8 #[oI p0] [(.ref b3)]) _
    exact own_retA X4 hx Bd.returns rfl rfl (hb hby d4_8) hr
  · show ∃ (b : Addr), ∃ (kb : ClassId), (some (.ref b3) : Option Value) = some (.ref b) ∧ Fr n0 _ ∧ Keep h0 T4.heap [] ∧ h0.size ≤ b ∧ Arv Z T4.heap b kb .byte (1 : Int32) [(.int ((p0.toInt8.toInt32).toInt8.toInt32))] (.int (0 : Int32))
    rw [e4]
    exact ⟨b3, k3, rfl, N4, Kc4, sz_b3, V4⟩
theorem d5_0 : decode jdk_42_method_151_code 0 = .ok (.aload_n 0, 1) := by decide +kernel
theorem d5_1 : decode jdk_42_method_151_code 1 = .ok (.invokespecial 1, 3) := by decide +kernel
theorem d5_4 : decode jdk_42_method_151_code 4 = .ok (.aload_n 0, 1) := by decide +kernel
theorem d5_5 : decode jdk_42_method_151_code 5 = .ok (.aload_n 1, 1) := by decide +kernel
theorem d5_6 : decode jdk_42_method_151_code 6 = .ok (.putfield 9, 3) := by decide +kernel
theorem d5_9 : decode jdk_42_method_151_code 9 = .ok (.aload_n 0, 1) := by decide +kernel
theorem d5_10 : decode jdk_42_method_151_code 10 = .ok (.iload_n 2, 1) := by decide +kernel
theorem d5_11 : decode jdk_42_method_151_code 11 = .ok (.putfield 15, 3) := by decide +kernel
theorem d5_14 : decode jdk_42_method_151_code 14 = .ok (.return_, 1) := by decide +kernel
theorem ef_5 (m : MethodId) (x0 : Addr) (x1 : Addr) (x2 : Int32) : entryFrame m #[(.ref x0), (.ref x1), (.int x2)] 3 = mkF m 0 #[.val (.ref x0), .val (.ref x1), .val (.int x2)] [] := by first | (simp [entryFrame, mkF, argsToLocals, Value.category]; done) | rfl
theorem pn_1 : plainName "java/lang/String" = true := by first | (simp [plainName, overriddenIn]; done) | decide +kernel
set_option maxRecDepth 65536 in
set_option maxHeartbeats 40000000 in
theorem rm5 (l : Launch) (Z : State) (a0 : Array Value) (hw : ∀ d ∈ tables_1, d.before a0 Z = true) (hS : St Z) (ws : List Jvm.Cond) (r0 : Addr) (r1 : Addr) (h0 : Heap) (n0 : Nat) (O0 : Old Z n0 h0) (E_r0 : Exa Z h0 r0 "java/lang/String") (F_value_r0 : Fld Z h0 r0 "java/lang/String" "value" "[B" .null) (F_coder_r0 : Fld Z h0 r0 "java/lang/String" "coder" "B" (.int (0 : Int32))) (g_r0 : n0 ≤ r0) :
    MetFree l (⟨"java/lang/String", "<init>", "([BB)V"⟩ : MethodName) (head1 (Jvm.Cond.code (⟨"java/lang/String", "<init>", "([BB)V"⟩ : MethodName) jdk_42_method_151_code 3 none :: ws) ({ frames := 1, cells := 0, slots := 0, locals := 12 } : Room)) (fun a U => a = #[(.ref r0), (.ref r1), (.int (0 : Int32))] ∧ Z.Warmed39 U.vm ∧ U.heap = h0) (fun _ _ _ _ _ => True) (fun _ U o U' => ∃ v L, o = .returned v ∧ own_Q (fun v hE L => v = none ∧ Fr n0 L ∧ Keep h0 hE [r0] ∧ Exa Z hE r0 "java/lang/String" ∧ Fld Z hE r0 "java/lang/String" "value" "[B" (.ref r1) ∧ Fld Z hE r0 "java/lang/String" "coder" "B" (.int (0 : Int32))) v U'.heap L ∧ FrameEnd U o U' L ({ frames := 1, cells := 0, slots := 0, locals := 12 } : Room).cells ({ frames := 1, cells := 0, slots := 0, locals := 12 } : Room).slots) := by
  refine MetFree.of_bodySF (plainFor_of_name pn_1) hisR ?_
  intro p e s m args below meth c s₁ Bd hml0 hP hK
  obtain ⟨rfl, hZ, hh⟩ := hP
  have hx := Bd.exec
  have hby := Bd.bytes
  have hml : c.maxLocals = 3 := hml0
  have hown : s.vm.findClass "java/lang/String" = some m.cls := findClass_of_methodNamed Bd.named
  have hnm := (name_of_methodNamed Bd.named Bd.method).1
  have X0 : Stand p l e ({ frames := 1, cells := 0, slots := 0, locals := 12 } : Room) s m #[(.ref r0), (.ref r1), (.int (0 : Int32))] below meth c s₁ [] 0 0 := Stand.of_body Bd
  have e0 : s₁.heap = h0 := by rw [← hh, Bd.state]; rfl
  have N0 := Fr.nil n0
  have pre0 : ∀ t, Steps p.tables e below (s₁.setTop (mkF m 0 #[oR r0, oR r1, oI (0 : Int32)] [])) t → Steps p.tables e below (s₁.setTop (entryFrame m #[(.ref r0), (.ref r1), (.int (0 : Int32))] 3)) t := fun t k => castTop (ef_5 m r0 r1 (0 : Int32)) k
  obtain ⟨T5, X5, e5, st5⟩ := initO X0 hx hZ hown (hw _ (List.mem_of_getElem? (i := 23) rfl)) (hw _ (List.mem_of_getElem? (i := 24) rfl)) (hw _ (List.mem_of_getElem? (i := 25) rfl)) e0 (g := (mkF m 1 #[oR r0, oR r1, oI (0 : Int32)] [(.ref r0)])) rfl (by rw [hml]; rfl) rfl (hb hby d5_1) (by decide) (W := 0) (by show 2 * 0 + _ ≤ _; exact Nat.le_of_eq rfl) (by decide)
  obtain ⟨T6, h6, X6, e6, W6, st6⟩ := putF X5 hx hZ hown (host := "") (Or.inl (hw _ (List.mem_of_getElem? (i := 26) rfl))) Via.refl e5 F_value_r0 E_r0 (Or.inr ⟨(hw _ (List.mem_of_getElem? (i := 27) rfl)), rfl, hnm⟩) (hw _ (List.mem_of_getElem? (i := 14) rfl)) (ty := (.array .byte)) (by decide) rfl rfl (g := (mkF m 6 #[oR r0, oR r1, oI (0 : Int32)] [(.ref r1), (.ref r0)])) rfl rfl (hb hby d5_6)
  have N6 := Fr.snoc X6 N0 g_r0
  have O6 := O0.wr W6 g_r0
  have Kc6 := (Keep.refl h0 [r0]).wr W6 (Or.inl (List.mem_of_getElem? (i := 0) rfl))
  have Fw6 := F_value_r0.same W6
  have fx7 := (E_r0.wr W6)
  have fx8 := (F_coder_r0.other W6 (Or.inr (slot_ne (Or.inr (hw _ (List.mem_of_getElem? (i := 29) rfl))) (Or.inr (hw _ (List.mem_of_getElem? (i := 27) rfl))) (by decide) (t := .byte) (t' := (.array .byte)) (by decide) (by decide))))
  obtain ⟨T9, h9, X9, e9, W9, st9⟩ := putFN X6 hx hZ hown (hw _ (List.mem_of_getElem? (i := 28) rfl)) Via.refl e6 fx8 fx7 (Or.inr ⟨(hw _ (List.mem_of_getElem? (i := 29) rfl)), rfl, hnm⟩) (hw _ (List.mem_of_getElem? (i := 14) rfl)) (ty := .byte) (v' := (.int (0 : Int32))) (by decide) rfl rfl (g := (mkF m 11 #[oR r0, oR r1, oI (0 : Int32)] [(.int (0 : Int32)), (.ref r0)])) rfl rfl (hb hby d5_11)
  have N9 := Fr.snoc X9 N6 g_r0
  have O9 := O6.wr W9 g_r0
  have Kc9 := Kc6.wr W9 (Or.inl (List.mem_of_getElem? (i := 0) rfl))
  have Fw9 := fx8.same W9
  obtain ⟨fs, hr, hrun, hended, hW, hsame⟩ := X9.leave (v := none) (fun _ => rfl)
  refine ⟨_, _, pre0 _ ?_, hrun, hended, _, _, rfl, ?_, ⟨_, rfl⟩, hW, hsame.mono (by decide) (by decide)⟩
  · show oP p e below s₁ (mkF m 0 #[oR r0, oR r1, oI (0 : Int32)] []) _
    refine XS.aloadN X0.here hx rfl (hb hby d5_0) rfl rfl ?_
    show oP p e below s₁ (mkF m 1 #[oR r0, oR r1, oI (0 : Int32)] [(.ref r0)]) _
    refine st5 _ ?_
    show oP p e below T5 (mkF m 4 #[oR r0, oR r1, oI (0 : Int32)] []) _
    refine XS.aloadN X5.here hx rfl (hb hby d5_4) rfl rfl ?_
    show oP p e below T5 (mkF m 5 #[oR r0, oR r1, oI (0 : Int32)] [(.ref r0)]) _
    refine XS.aloadN X5.here hx rfl (hb hby d5_5) rfl rfl ?_
    show oP p e below T5 (mkF m 6 #[oR r0, oR r1, oI (0 : Int32)] [(.ref r1), (.ref r0)]) _
    refine st6 _ ?_
    show oP p e below T6 (mkF m 9 #[oR r0, oR r1, oI (0 : Int32)] []) _
    refine XS.aloadN X6.here hx rfl (hb hby d5_9) rfl rfl ?_
    show oP p e below T6 (mkF m 10 #[oR r0, oR r1, oI (0 : Int32)] [(.ref r0)]) _
    refine XS.iloadN X6.here hx rfl (hb hby d5_10) rfl ?_
    show oP p e below T6 (mkF m 11 #[oR r0, oR r1, oI (0 : Int32)] [(.int (0 : Int32)), (.ref r0)]) _
    refine st9 _ ?_
    show oP p e below T9 (mkF m 14 #[oR r0, oR r1, oI (0 : Int32)] []) _
    exact X9.returnOut hx Bd.returns (hb hby d5_14) hr
  · show (none : Option Value) = none ∧ Fr n0 _ ∧ Keep h0 T9.heap [r0] ∧ Exa Z T9.heap r0 "java/lang/String" ∧ Fld Z T9.heap r0 "java/lang/String" "value" "[B" (.ref r1) ∧ Fld Z T9.heap r0 "java/lang/String" "coder" "B" (.int (0 : Int32))
    rw [e9]
    have fx10 := (fx7.wr W9)
    have fx11 := (Fw6.other W9 (Or.inr (slot_ne (Or.inr (hw _ (List.mem_of_getElem? (i := 27) rfl))) (Or.inr (hw _ (List.mem_of_getElem? (i := 29) rfl))) (by decide) (t := (.array .byte)) (t' := .byte) (by decide) (by decide))))
    exact ⟨rfl, N9, Kc9, fx10, fx11, Fw9⟩
theorem d2_0 : decode jdk_42_method_139_code 0 = .ok (.getstatic 38, 3) := by decide +kernel
theorem d2_3 : decode jdk_42_method_139_code 3 = .ok (.ifCond .eq 23, 3) := by decide +kernel
theorem d2_6 : decode jdk_42_method_139_code 6 = .ok (.iload_n 0, 1) := by decide +kernel
theorem d2_7 : decode jdk_42_method_139_code 7 = .ok (.invokestatic 1015, 3) := by decide +kernel
theorem pd_0 : parseMethodDescriptor "(C)Z" = some ⟨[.char], some .boolean⟩ := by decide +kernel
theorem d2_10 : decode jdk_42_method_139_code 10 = .ok (.ifCond .eq 16, 3) := by decide +kernel
theorem d2_13 : decode jdk_42_method_139_code 13 = .ok (.new 10, 3) := by decide +kernel
theorem d2_16 : decode jdk_42_method_139_code 16 = .ok (.dup, 1) := by decide +kernel
theorem d2_17 : decode jdk_42_method_139_code 17 = .ok (.iload_n 0, 1) := by decide +kernel
theorem d2_18 : decode jdk_42_method_139_code 18 = .ok (.invokestatic 1018, 3) := by decide +kernel
theorem pd_1 : parseMethodDescriptor "(C)[B" = some ⟨[.char], some (.array .byte)⟩ := by decide +kernel
theorem d2_21 : decode jdk_42_method_139_code 21 = .ok (.iconst 0, 1) := by decide +kernel
theorem d2_22 : decode jdk_42_method_139_code 22 = .ok (.invokespecial 209, 3) := by decide +kernel
theorem pd_2 : parseMethodDescriptor "([BB)V" = some ⟨[(.array .byte), .byte], none⟩ := by decide +kernel
theorem d2_25 : decode jdk_42_method_139_code 25 = .ok (.areturn, 1) := by decide +kernel
theorem ef_2 (m : MethodId) (x0 : Int32) : entryFrame m #[(.int x0)] 1 = mkF m 0 #[.val (.int x0)] [] := by first | (simp [entryFrame, mkF, argsToLocals, Value.category]; done) | rfl
set_option maxRecDepth 65536 in
set_option maxHeartbeats 40000000 in
theorem rm2 (l : Launch) (Z : State) (a0 : Array Value) (hw : ∀ d ∈ tables_1, d.before a0 Z = true) (hS : St Z) (ws : List Jvm.Cond) (p0 : Int32) (h0 : Heap) (n0 : Nat) (O0 : Old Z n0 h0) (hc0 : ¬ (255 : Int32) < p0) :
    MetFree l (⟨"java/lang/String", "valueOf", "(C)Ljava/lang/String;"⟩ : MethodName) (head1 (Jvm.Cond.code (⟨"java/lang/String", "valueOf", "(C)Ljava/lang/String;"⟩ : MethodName) jdk_42_method_139_code 1 (some (.object "java/lang/String")) :: ws) ({ frames := 2, cells := 2, slots := 5, locals := 27 } : Room)) (fun a U => a = #[(.int p0)] ∧ Z.Warmed39 U.vm ∧ U.heap = h0) (fun _ _ _ _ _ => True) (fun _ U o U' => ∃ v L, o = .returned v ∧ own_Q (fun v hE L => ∃ (b : Addr), ∃ (t : Addr), ∃ (kt : ClassId), v = some (.ref b) ∧ Fr n0 L ∧ Keep h0 hE [] ∧ h0.size ≤ b ∧ h0.size ≤ t ∧ Exa Z hE b "java/lang/String" ∧ Fld Z hE b "java/lang/String" "coder" "B" (.int (0 : Int32)) ∧ Fld Z hE b "java/lang/String" "value" "[B" (.ref t) ∧ Arv Z hE t kt .byte (1 : Int32) [(.int ((p0.toInt8.toInt32).toInt8.toInt32))] (.int (0 : Int32))) v U'.heap L ∧ FrameEnd U o U' L ({ frames := 2, cells := 2, slots := 5, locals := 27 } : Room).cells ({ frames := 2, cells := 2, slots := 5, locals := 27 } : Room).slots) := by
  refine MetFree.of_bodySF (plainFor_of_name pn_1) hisR ?_
  intro p e s m args below meth c s₁ Bd hml0 hP hK
  obtain ⟨rfl, hZ, hh⟩ := hP
  have hx := Bd.exec
  have hby := Bd.bytes
  have hml : c.maxLocals = 1 := hml0
  have hown : s.vm.findClass "java/lang/String" = some m.cls := findClass_of_methodNamed Bd.named
  have hnm := (name_of_methodNamed Bd.named Bd.method).1
  have X0 : Stand p l e ({ frames := 2, cells := 2, slots := 5, locals := 27 } : Room) s m #[(.int p0)] below meth c s₁ [] 0 0 := Stand.of_body Bd
  have e0 : s₁.heap = h0 := by rw [← hh, Bd.state]; rfl
  have N0 := Fr.nil n0
  have pre0 : ∀ t, Steps p.tables e below (s₁.setTop (mkF m 0 #[oI p0] [])) t → Steps p.tables e below (s₁.setTop (entryFrame m #[(.int p0)] 1)) t := fun t k => castTop (ef_2 m p0) k
  obtain ⟨T12, X12, e12, st12⟩ := getS2 X0 hx hZ hown (host := "") (Or.inl (hw _ (List.mem_of_getElem? (i := 8) rfl))) Via.refl e0 ((s_compact hS).ext O0.2) (g := (mkF m 0 #[oI p0] [])) rfl (hb hby d2_0)
  obtain ⟨_, _, ⟨T13, L13, k13, n13⟩, -, X13, ⟨Lc13, hQ13, l13, y13, z13⟩, st13⟩ := Jvm.LawKit.callS X12 hx (y := (⟨"java/lang/StringLatin1", "canEncode", "(C)Z"⟩ : MethodName)) hown (mvT hZ (hw _ (List.mem_of_getElem? (i := 9) rfl))) (mvT hZ (hw _ (List.mem_of_getElem? (i := 10) rfl))) (mvT hZ (hw _ (List.mem_of_getElem? (i := 11) rfl))) (mvT hZ (hw _ (List.mem_of_getElem? (i := 12) rfl))) (by decide) (backOf (W := 0) (rm3 l Z a0 hw hS [] p0 h0 n0 O0) hZ (hw _ (List.mem_of_getElem? (i := 12) rfl)) (hw _ (List.mem_of_getElem? (i := 11) rfl)) (by decide) (by decide)) (g := (mkF m 7 #[oI p0] [(.int p0)])) rfl (by rw [hml]; rfl) (argsL := [(.int p0)]) (rest := []) (lenOf pd_0 rfl) rfl (by show 2 * 0 + _ ≤ _; exact Nat.le_of_eq rfl) (hb hby d2_7) (fun _ _ => ⟨rfl, e12, (by decide : 0 + 0 ≤ _), (by decide : 0 + 0 ≤ _)⟩)
  dsimp only [Pt.U, Pt.locs, Pt.cells, Pt.slots] at X13 l13 y13 z13 st13 hQ13
  subst l13 y13 z13
  obtain ⟨v13, N13q, h13q⟩ := hQ13
  have w13 : (fn3 Z p0) = (1 : Int32) := by unfold fn3; rw [if_neg hc0]; all_goals first | rfl | decide
  rw [w13] at v13
  subst v13
  have N13 := Fr.app N0 N13q
  obtain ⟨T14, h14, X14, e14, E14, A14, D14, -, st14⟩ := newO X13 hx hZ hown (hw _ (List.mem_of_getElem? (i := 13) rfl)) (hw _ (List.mem_of_getElem? (i := 14) rfl)) (hw _ (List.mem_of_getElem? (i := 6) rfl)) h13q (g := (mkF m 13 #[oI p0] [])) rfl (hb hby d2_13) (by decide) (by decide)
  obtain ⟨b14, g14⟩ : ∃ z, z = h0.size := ⟨_, rfl⟩
  have g_b14 : n0 ≤ b14 := Nat.le_trans (own_old_le O0) (Nat.le_of_eq g14.symm)
  have sz_b14 : h0.size ≤ b14 := Nat.le_trans (Keep.refl h0 []).1 (Nat.le_of_eq g14.symm)
  rw [← g14] at A14 D14 st14
  have O14 := O0.ext E14
  have Kc14 := (Keep.refl h0 []).ext E14
  have F_value_b14 : Fld Z h14 b14 "java/lang/String" "value" "[B" .null := D14 (Or.inr (hw _ (List.mem_of_getElem? (i := 27) rfl))) (ty := (.array .byte)) (by decide)
  have F_coder_b14 : Fld Z h14 b14 "java/lang/String" "coder" "B" (.int (0 : Int32)) := D14 (Or.inr (hw _ (List.mem_of_getElem? (i := 29) rfl))) (ty := .byte) (by decide)
  obtain ⟨_, _, ⟨T15, L15, k15, n15⟩, -, X15, ⟨Lc15, hQ15, l15, y15, z15⟩, st15⟩ := Jvm.LawKit.callS X14 hx (y := (⟨"java/lang/StringLatin1", "toBytes", "(C)[B"⟩ : MethodName)) hown (mvT hZ (hw _ (List.mem_of_getElem? (i := 15) rfl))) (mvT hZ (hw _ (List.mem_of_getElem? (i := 16) rfl))) (mvT hZ (hw _ (List.mem_of_getElem? (i := 11) rfl))) (mvT hZ (hw _ (List.mem_of_getElem? (i := 17) rfl))) (by decide) (backOf (W := 2) (rm4 l Z a0 hw hS [] p0 h14 n0 O14 ) hZ (hw _ (List.mem_of_getElem? (i := 17) rfl)) (hw _ (List.mem_of_getElem? (i := 11) rfl)) (by decide) (by decide)) (g := (mkF m 18 #[oI p0] [(.int p0), (.ref b14), (.ref b14)])) rfl (by rw [hml]; rfl) (argsL := [(.int p0)]) (rest := [(.ref b14), (.ref b14)]) (lenOf pd_1 rfl) rfl (by show 2 * 0 + _ ≤ _; exact Nat.le_of_eq rfl) (hb hby d2_18) (fun _ _ => ⟨rfl, e14, (by decide : 1 + 1 ≤ _), (by decide : 4 + 1 ≤ _)⟩)
  dsimp only [Pt.U, Pt.locs, Pt.cells, Pt.slots] at X15 l15 y15 z15 st15 hQ15
  subst l15 y15 z15
  obtain ⟨b_15, kb_15, v15, N15q, K15q, po15_0, po15_1⟩ := hQ15
  subst v15
  have N15 := Fr.app N13 N15q
  have O15 := O14.keep K15q all0
  have Kc15 := Kc14.trans K15q all0
  have ne_b14_b_15 : b14 ≠ b_15 := Nat.ne_of_lt (Nat.lt_of_lt_of_le A14.lt po15_0)
  have g_b_15 : n0 ≤ b_15 := Nat.le_trans (own_old_le O14) po15_0
  have sz_b_15 : h0.size ≤ b_15 := Nat.le_trans Kc14.1 po15_0
  have fx17 := (A14.keep K15q)
  have fx18 := (F_value_b14.keep K15q nin0)
  have fx19 := (F_coder_b14.keep K15q nin0)
  obtain ⟨_, _, ⟨T16, L16, k16, n16⟩, -, X16, ⟨Lc16, hQ16, l16, y16, z16⟩, st16⟩ := X15.specialBack hx (y := (⟨"java/lang/String", "<init>", "([BB)V"⟩ : MethodName)) rfl hown (mvT hZ (hw _ (List.mem_of_getElem? (i := 19) rfl))) (mvT hZ (hw _ (List.mem_of_getElem? (i := 20) rfl))) (mvT hZ (hw _ (List.mem_of_getElem? (i := 22) rfl))) (by decide) (backOf (W := 1) (rm5 l Z a0 hw hS [] b14 b_15 T15.heap n0 O15 fx17 fx18 fx19 g_b14) hZ (hw _ (List.mem_of_getElem? (i := 22) rfl)) (hw _ (List.mem_of_getElem? (i := 6) rfl)) (by decide) (by decide)) (g := (mkF m 22 #[oI p0] [(.int (0 : Int32)), (.ref b_15), (.ref b14), (.ref b14)])) rfl (by rw [hml]; rfl) (Steps.refl _) (a := b14) (argsL := [(.ref b_15), (.int (0 : Int32))]) (rest := [(.ref b14)]) (lenOf pd_2 rfl) rfl (by show 2 * 0 + _ ≤ _; exact Nat.le_of_eq rfl) (hb hby d2_22) (fun _ _ => ⟨rfl, rfl, (by decide : 2 + 0 ≤ _), (by decide : 5 + 0 ≤ _)⟩)
  dsimp only [Pt.U, Pt.locs, Pt.cells, Pt.slots] at X16 l16 y16 z16 st16 hQ16
  subst l16 y16 z16
  obtain ⟨v16, N16q, K16q, po16_0, po16_1, po16_2⟩ := hQ16
  subst v16
  have N16 := Fr.app N15 N16q
  have O16 := O15.keep K16q (allS g_b14 all0)
  have Kc16 := Kc15.trans K16q (allS (Or.inr sz_b14) all0)
  obtain ⟨fs, hr, hrun, hended, hW, hsame⟩ := X16.leave (v := some (.ref b14)) (fun h => by rw [Bd.returns] at h; cases h)
  refine ⟨_, _, pre0 _ ?_, hrun, hended, _, _, rfl, ?_, ⟨_, rfl⟩, hW, hsame.mono (by decide) (by decide)⟩
  · show oP p e below s₁ (mkF m 0 #[oI p0] []) _
    refine st12 _ ?_
    show oP p e below T12 (mkF m 3 #[oI p0] [(.int (own_si Z "java/lang/String" "COMPACT_STRINGS" "Z"))]) _
    refine XS.ifNo X12.here hx rfl (hb hby d2_3) rfl ((if0 _ _).trans (feq (n_compact hS)).1) ?_
    show oP p e below T12 (mkF m 6 #[oI p0] []) _
    refine XS.iloadN X12.here hx rfl (hb hby d2_6) rfl ?_
    show oP p e below T12 (mkF m 7 #[oI p0] [(.int p0)]) _
    refine st13 _ ?_
    show oP p e below T13 (mkF m 10 #[oI p0] [(.int (1 : Int32))]) _
    refine XS.ifNo X13.here hx rfl (hb hby d2_10) rfl ((if0 _ _).trans (feq (by decide : ¬ ((1 : Int32) = (0 : Int32)))).1) ?_
    show oP p e below T13 (mkF m 13 #[oI p0] []) _
    refine st14 _ ?_
    show oP p e below T14 (mkF m 16 #[oI p0] [(.ref b14)]) _
    refine XS.dup X14.here hx rfl (hb hby d2_16) rfl rfl ?_
    show oP p e below T14 (mkF m 17 #[oI p0] [(.ref b14), (.ref b14)]) _
    refine XS.iloadN X14.here hx rfl (hb hby d2_17) rfl ?_
    show oP p e below T14 (mkF m 18 #[oI p0] [(.int p0), (.ref b14), (.ref b14)]) _
    refine st15 _ ?_
    show oP p e below T15 (mkF m 21 #[oI p0] [(.ref b_15), (.ref b14), (.ref b14)]) _
    refine XS.iconst X15.here hx rfl (hb hby d2_21) ?_
    show oP p e below T15 (mkF m 22 #[oI p0] [(.int (0 : Int32)), (.ref b_15), (.ref b14), (.ref b14)]) _
    refine st16.trans ?_
    show oP p e below T16 (mkF m 25 #[oI p0] [(.ref b14)]) _
    exact own_retA X16 hx Bd.returns rfl rfl (hb hby d2_25) hr
  · show ∃ (b : Addr), ∃ (t : Addr), ∃ (kt : ClassId), (some (.ref b14) : Option Value) = some (.ref b) ∧ Fr n0 _ ∧ Keep h0 T16.heap [] ∧ h0.size ≤ b ∧ h0.size ≤ t ∧ Exa Z T16.heap b "java/lang/String" ∧ Fld Z T16.heap b "java/lang/String" "coder" "B" (.int (0 : Int32)) ∧ Fld Z T16.heap b "java/lang/String" "value" "[B" (.ref t) ∧ Arv Z T16.heap t kt .byte (1 : Int32) [(.int ((p0.toInt8.toInt32).toInt8.toInt32))] (.int (0 : Int32))
    have fx20 := (po15_1.keep K16q (ninS (Ne.symm ne_b14_b_15) nin0))
    exact ⟨b14, b_15, kb_15, rfl, N16, Kc16, sz_b14, sz_b_15, po16_0, po16_2, po16_1, fx20⟩
def strcs (p0 p1 : Int32) : List Int32 := if p0 = 0 then [p1] else []
theorem strcs_hp {p0 p1 : Int32} (h : ¬ p1 < 0 ∧ ¬ (255 : Int32) < p1) : ∀ c ∈ strcs p0 p1, ¬ c < 0 ∧ ¬ (255 : Int32) < c := by
  intro c hc
  unfold strcs at hc
  split at hc
  · rw [List.mem_singleton] at hc; rw [hc]; exact h
  · cases hc
theorem strcs_len (p0 p1 : Int32) : (strcs p0 p1).length ≤ 4000 := by
  unfold strcs
  split <;> simp
theorem strcs_e {Z : State} {h : Heap} {t : Addr} {k : ClassId} {p0 p1 : Int32} (q : ¬ p0 = 0) (A : Arv Z h t k .byte 0 [] (.int 0)) : Arv Z h t k .byte (Int32.ofNat (strcs p0 p1).length) (((strcs p0 p1).map (fun c => c.toInt8.toInt32)).map Value.int) (.int 0) := by
  unfold strcs
  rw [if_neg q]
  exact A
theorem strcs_c {Z : State} {h : Heap} {t : Addr} {k : ClassId} {p0 p1 : Int32} (q : p0 = 0) (A : Arv Z h t k .byte 1 [.int ((p1.toInt8.toInt32).toInt8.toInt32)] (.int 0)) : Arv Z h t k .byte (Int32.ofNat (strcs p0 p1).length) (((strcs p0 p1).map (fun c => c.toInt8.toInt32)).map Value.int) (.int 0) := by
  unfold strcs
  rw [if_pos q]
  rw [own_i8] at A
  exact A
theorem d1_0 : decode method_2_code 0 = .ok (.iload_n 0, 1) := by decide +kernel
theorem d1_1 : decode method_2_code 1 = .ok (.ifCond .eq 6, 3) := by decide +kernel
theorem d1_7 : decode method_2_code 7 = .ok (.iload_n 1, 1) := by decide +kernel
theorem d1_8 : decode method_2_code 8 = .ok (.i2c, 1) := by decide +kernel
theorem d1_9 : decode method_2_code 9 = .ok (.invokestatic 9, 3) := by decide +kernel
theorem pd_3 : parseMethodDescriptor "(C)Ljava/lang/String;" = some ⟨[.char], some (.object "java/lang/String")⟩ := by decide +kernel
theorem d1_12 : decode method_2_code 12 = .ok (.areturn, 1) := by decide +kernel
theorem d1_4 : decode method_2_code 4 = .ok (.ldc 7, 2) := by decide +kernel
theorem d1_6 : decode method_2_code 6 = .ok (.areturn, 1) := by decide +kernel
theorem ef_1 (m : MethodId) (x0 : Int32) (x1 : Int32) : entryFrame m #[(.int x0), (.int x1)] 2 = mkF m 0 #[.val (.int x0), .val (.int x1)] [] := by first | (simp [entryFrame, mkF, argsToLocals, Value.category]; done) | rfl
theorem pn_2 : plainName "com/example/narada/narada/client/MessageQueueEqualsPinLaw" = true := by first | (simp [plainName, overriddenIn]; done) | decide +kernel
set_option maxRecDepth 65536 in
set_option maxHeartbeats 40000000 in
theorem rm1 (l : Launch) (Z : State) (a0 : Array Value) (hw : ∀ d ∈ tables_1, d.before a0 Z = true) (hS : St Z) (ws : List Jvm.Cond) (p0 : Int32) (p1 : Int32) (h0 : Heap) (n0 : Nat) (O0 : Old Z n0 h0) (hc1 : ¬ p1 < 0 ∧ ¬ (255 : Int32) < p1) :
    MetFree l (⟨"com/example/narada/narada/client/MessageQueueEqualsPinLaw", "str", "(ZI)Ljava/lang/String;"⟩ : MethodName) (head1 (Jvm.Cond.code (⟨"com/example/narada/narada/client/MessageQueueEqualsPinLaw", "str", "(ZI)Ljava/lang/String;"⟩ : MethodName) method_2_code 2 (some (.object "java/lang/String")) :: ws) ({ frames := 3, cells := 2, slots := 5, locals := 39 } : Room)) (fun a U => a = #[(.int p0), (.int p1)] ∧ Z.Warmed39 U.vm ∧ U.heap = h0 ∧ CHv Z own_EL U.vm h0) (fun _ _ _ _ _ => True) (fun _ U o U' => ∃ v L, o = .returned v ∧ own_Q (fun v hE L => ∃ (b : Addr), ∃ (t : Addr), ∃ (kt : ClassId), v = some (.ref b) ∧ Fr n0 L ∧ Keep h0 hE [] ∧ Exa Z hE b "java/lang/String" ∧ Fld Z hE b "java/lang/String" "coder" "B" (.int (0 : Int32)) ∧ Fld Z hE b "java/lang/String" "value" "[B" (.ref t) ∧ Arv Z hE t kt .byte (Int32.ofNat (strcs p0 p1).length) (((strcs p0 p1).map (fun c => c.toInt8.toInt32)).map Value.int) (.int (0 : Int32))) v U'.heap L ∧ CHr Z own_EL U.vm U.heap U'.vm U'.heap ∧ ReturnedEndW U o U' L ({ frames := 3, cells := 2, slots := 5, locals := 39 } : Room).cells ({ frames := 3, cells := 2, slots := 5, locals := 39 } : Room).slots) := by
  refine MetFree.of_bodySF (plainFor_of_name pn_2) hisR ?_
  intro p e s m args below meth c s₁ Bd hml0 hP hK
  obtain ⟨rfl, hZ, hh, hCH⟩ := hP
  have hx := Bd.exec
  have hby := Bd.bytes
  have hml : c.maxLocals = 2 := hml0
  have hown : s.vm.findClass "com/example/narada/narada/client/MessageQueueEqualsPinLaw" = some m.cls := findClass_of_methodNamed Bd.named
  have hnm := (name_of_methodNamed Bd.named Bd.method).1
  have X0 : Stand p l e ({ frames := 3, cells := 2, slots := 5, locals := 39 } : Room) (s.setVm s.vm) m #[(.int p0), (.int p1)] below meth c s₁ [] 0 0 := Stand.of_body Bd
  have e0 : s₁.heap = h0 := by rw [← hh, Bd.state]; rfl
  have N0 := Fr.nil n0
  have pre0 : ∀ t, Steps p.tables e below (s₁.setTop (mkF m 0 #[oI p0, oI p1] [])) t → Steps p.tables e below (s₁.setTop (entryFrame m #[(.int p0), (.int p1)] 2)) t := fun t k => castTop (ef_1 m p0 p1) k
  have hSi : s.Since s.vm 0 := own_since s
  have hki0 : 0 ≤ h0.size := Nat.zero_le _
  have hC0 : CHr Z own_EL s.vm h0 s.vm h0 := CHr.refl hCH
  have pre21 : ∀ t, oP p e below s₁ (mkF m 1 #[oI p0, oI p1] [(.int p0)]) t → oP p e below s₁ (entryFrame m #[(.int p0), (.int p1)] 2) t := fun t k => pre0 t (by
    show oP p e below s₁ (mkF m 0 #[oI p0, oI p1] []) _
    refine XS.iloadN X0.here hx rfl (hb hby d1_0) rfl ?_
    exact k)
  by_cases hc22 : p0 = (0 : Int32)
  · obtain ⟨_, _, ⟨T23, L23, k23, n23⟩, -, X23, ⟨Lc23, hQ23, l23, y23, z23⟩, st23⟩ := Jvm.LawKit.callS X0 hx (y := (⟨"java/lang/String", "valueOf", "(C)Ljava/lang/String;"⟩ : MethodName)) hown (mvT hZ (hw _ (List.mem_of_getElem? (i := 4) rfl))) (mvT hZ (hw _ (List.mem_of_getElem? (i := 5) rfl))) (mvT hZ (hw _ (List.mem_of_getElem? (i := 6) rfl))) (mvT hZ (hw _ (List.mem_of_getElem? (i := 7) rfl))) (by decide) (backOf (W := 0) (rm2 l Z a0 hw hS [] p1 h0 n0 O0 hc1.2) hZ (hw _ (List.mem_of_getElem? (i := 7) rfl)) (hw _ (List.mem_of_getElem? (i := 6) rfl)) (by decide) (by decide)) (g := (mkF m 9 #[oI p0, oI p1] [(.int p1)])) rfl (by rw [hml]; rfl) (argsL := [(.int p1)]) (rest := []) (lenOf pd_3 rfl) rfl (by show 2 * 0 + _ ≤ _; exact Nat.le_of_eq rfl) (hb hby d1_9) (fun _ _ => ⟨rfl, e0, (by decide : 0 + 2 ≤ _), (by decide : 0 + 5 ≤ _)⟩)
    dsimp only [Pt.U, Pt.locs, Pt.cells, Pt.slots] at X23 l23 y23 z23 st23 hQ23
    subst l23 y23 z23
    obtain ⟨b_23, t_23, kt_23, v23, N23q, K23q, po23_0, po23_1, po23_2, po23_3, po23_4, po23_5⟩ := hQ23
    subst v23
    have N23 := Fr.app N0 N23q
    have O23 := O0.keep K23q all0
    have Kc23 := (Keep.refl h0 []).trans K23q all0
    have g_b_23 : n0 ≤ b_23 := Nat.le_trans (own_old_le O0) po23_0
    have sz_b_23 : h0.size ≤ b_23 := Nat.le_trans (Keep.refl h0 []).1 po23_0
    have g_t_23 : n0 ≤ t_23 := Nat.le_trans (own_old_le O0) po23_1
    have sz_t_23 : h0.size ≤ t_23 := Nat.le_trans (Keep.refl h0 []).1 po23_1
    have fx24 := (Nat.le_trans hki0 K23q.1)
    obtain ⟨fs, hr, hrun, hended, hRW⟩ := Stand.leaveW X23 hSi fx24 (v := some (.ref b_23)) (fun h => by rw [Bd.returns] at h; cases h)
    refine ⟨_, _, pre21 _ ?_, hrun, hended, _, _, rfl, ?_, ?_, own_rwmono hRW (by decide) (by decide)⟩
    · show oP p e below s₁ (mkF m 1 #[oI p0, oI p1] [(.int p0)]) _
      refine XS.ifYes X0.here hx rfl (pc0 := 1) (pc' := 7) rfl (hb hby d1_1) rfl ((if0 _ _).trans (teq hc22).1) (by decide) (by decide) ?_
      show oP p e below s₁ (mkF m 7 #[oI p0, oI p1] []) _
      refine XS.iloadN X0.here hx rfl (hb hby d1_7) rfl ?_
      show oP p e below s₁ (mkF m 8 #[oI p0, oI p1] [(.int p1)]) _
      refine XS.i2c X0.here hx rfl (hb hby d1_8) rfl ?_
      show oP p e below s₁ (mkF m 9 #[oI p0, oI p1] [(.int (p1.toUInt32.toUInt16.toUInt32.toInt32))]) _
      rw [own_i2c hc1]
      show oP p e below s₁ (mkF m 9 #[oI p0, oI p1] [(.int p1)]) _
      refine st23 _ ?_
      show oP p e below T23 (mkF m 12 #[oI p0, oI p1] [(.ref b_23)]) _
      exact own_retA X23 hx Bd.returns rfl rfl (hb hby d1_12) hr
    · show ∃ (b : Addr), ∃ (t : Addr), ∃ (kt : ClassId), (some (.ref b_23) : Option Value) = some (.ref b) ∧ Fr n0 _ ∧ Keep h0 T23.heap [] ∧ Exa Z T23.heap b "java/lang/String" ∧ Fld Z T23.heap b "java/lang/String" "coder" "B" (.int (0 : Int32)) ∧ Fld Z T23.heap b "java/lang/String" "value" "[B" (.ref t) ∧ Arv Z T23.heap t kt .byte (Int32.ofNat (strcs p0 p1).length) (((strcs p0 p1).map (fun c => c.toInt8.toInt32)).map Value.int) (.int (0 : Int32))
      exact ⟨b_23, t_23, kt_23, rfl, N23, Kc23, po23_2, po23_3, po23_4, (strcs_c hc22 po23_5)⟩
    · show CHr Z own_EL s.vm s.heap T23.vm T23.heap
      rw [hh]
      exact own_cend X23 hZ (own_EW hw) (own_ckeep hC0 Kc23)
  · obtain ⟨b25, T25, h25, kk25, tb25, kb25, X25, e25, E25, hSi, hki25, hZ, hown, xE25, xC25, xV25, xA25, -, -, hC25, -, -, st25⟩ := ldcCH X0 hx hZ hown (hw _ (List.mem_of_getElem? (i := 72) rfl)) (own_wS hw) e0 hSi hki0 (own_EW hw) (List.mem_of_getElem? (i := 0) rfl) hC0.1 (vs := []) (z := 0) own_e0 (by decide) rfl (g := (mkF m 4 #[oI p0, oI p1] [])) rfl (hb hby d1_4) (n := 0) (by decide) (by decide) (by decide) (by decide)
    have O25 := O0.ext E25
    have Kc25 := (Keep.refl h0 []).ext E25
    obtain ⟨fs, hr, hrun, hended, hRW⟩ := Stand.leaveW X25 hSi (by rw [e25]; exact hki25) (v := some (.ref b25)) (fun h => by rw [Bd.returns] at h; cases h)
    refine ⟨_, _, pre21 _ ?_, hrun, hended, _, _, rfl, ?_, ?_, own_rwmono hRW (by decide) (by decide)⟩
    · show oP p e below s₁ (mkF m 1 #[oI p0, oI p1] [(.int p0)]) _
      refine XS.ifNo X0.here hx rfl (hb hby d1_1) rfl ((if0 _ _).trans (feq hc22).1) ?_
      show oP p e below s₁ (mkF m 4 #[oI p0, oI p1] []) _
      refine st25 _ ?_
      show oP p e below T25 (mkF m 6 #[oI p0, oI p1] [(.ref b25)]) _
      exact own_retA X25 hx Bd.returns rfl rfl (hb hby d1_6) hr
    · show ∃ (b : Addr), ∃ (t : Addr), ∃ (kt : ClassId), (some (.ref b25) : Option Value) = some (.ref b) ∧ Fr n0 _ ∧ Keep h0 T25.heap [] ∧ Exa Z T25.heap b "java/lang/String" ∧ Fld Z T25.heap b "java/lang/String" "coder" "B" (.int (0 : Int32)) ∧ Fld Z T25.heap b "java/lang/String" "value" "[B" (.ref t) ∧ Arv Z T25.heap t kt .byte (Int32.ofNat (strcs p0 p1).length) (((strcs p0 p1).map (fun c => c.toInt8.toInt32)).map Value.int) (.int (0 : Int32))
      rw [e25]
      exact ⟨b25, tb25, kb25, rfl, N0, Kc25, xE25, xC25, xV25, (strcs_e hc22 xA25)⟩
    · show CHr Z own_EL s.vm s.heap T25.vm T25.heap
      rw [e25]
      rw [hh]
      have hc26 := (hC0.trans hC25)
      exact own_cend X25 hZ (own_EW hw) hc26
theorem d8_0 : decode jdk_31_method_11_code 0 = .ok (.aload_n 0, 1) := by decide +kernel
theorem d8_1 : decode jdk_31_method_11_code 1 = .ok (.ifnonnull 12, 3) := by decide +kernel
theorem d8_13 : decode jdk_31_method_11_code 13 = .ok (.aload_n 0, 1) := by decide +kernel
theorem d8_14 : decode jdk_31_method_11_code 14 = .ok (.areturn, 1) := by decide +kernel
def fn8 (Z : State) (r0 : Addr) (r1 : Addr) : Addr :=
  r0
theorem ef_8 (m : MethodId) (x0 : Addr) (x1 : Addr) : entryFrame m #[(.ref x0), (.ref x1)] 2 = mkF m 0 #[.val (.ref x0), .val (.ref x1)] [] := by first | (simp [entryFrame, mkF, argsToLocals, Value.category]; done) | rfl
theorem pn_3 : plainName "java/util/Objects" = true := by first | (simp [plainName, overriddenIn]; done) | decide +kernel
set_option maxRecDepth 65536 in
set_option maxHeartbeats 40000000 in
theorem rm8 (l : Launch) (Z : State) (a0 : Array Value) (hw : ∀ d ∈ tables_1, d.before a0 Z = true) (hS : St Z) (ws : List Jvm.Cond) (r0 : Addr) (r1 : Addr) (h0 : Heap) (n0 : Nat) (O0 : Old Z n0 h0) :
    MetFree l (⟨"java/util/Objects", "requireNonNull", "(Ljava/lang/Object;Ljava/lang/String;)Ljava/lang/Object;"⟩ : MethodName) (head1 (Jvm.Cond.code (⟨"java/util/Objects", "requireNonNull", "(Ljava/lang/Object;Ljava/lang/String;)Ljava/lang/Object;"⟩ : MethodName) jdk_31_method_11_code 2 (some (.object "java/lang/Object")) :: ws) ({ frames := 0, cells := 0, slots := 0, locals := 0 } : Room)) (fun a U => a = #[(.ref r0), (.ref r1)] ∧ Z.Warmed39 U.vm ∧ U.heap = h0) (fun _ _ _ _ _ => True) (fun _ U o U' => ∃ v L, o = .returned v ∧ own_Q (fun v hE L => v = some (.ref (fn8 Z r0 r1)) ∧ Fr n0 L ∧ Keep h0 hE []) v U'.heap L ∧ FrameEnd U o U' L ({ frames := 0, cells := 0, slots := 0, locals := 0 } : Room).cells ({ frames := 0, cells := 0, slots := 0, locals := 0 } : Room).slots) := by
  refine MetFree.of_bodySF (plainFor_of_name pn_3) hisR ?_
  intro p e s m args below meth c s₁ Bd hml0 hP hK
  obtain ⟨rfl, hZ, hh⟩ := hP
  have hx := Bd.exec
  have hby := Bd.bytes
  have hml : c.maxLocals = 2 := hml0
  have hown : s.vm.findClass "java/util/Objects" = some m.cls := findClass_of_methodNamed Bd.named
  have hnm := (name_of_methodNamed Bd.named Bd.method).1
  have X0 : Stand p l e ({ frames := 0, cells := 0, slots := 0, locals := 0 } : Room) s m #[(.ref r0), (.ref r1)] below meth c s₁ [] 0 0 := Stand.of_body Bd
  have e0 : s₁.heap = h0 := by rw [← hh, Bd.state]; rfl
  have N0 := Fr.nil n0
  have pre0 : ∀ t, Steps p.tables e below (s₁.setTop (mkF m 0 #[oR r0, oR r1] [])) t → Steps p.tables e below (s₁.setTop (entryFrame m #[(.ref r0), (.ref r1)] 2)) t := fun t k => castTop (ef_8 m r0 r1) k
  obtain ⟨fs, hr, hrun, hended, hW, hsame⟩ := X0.leave (v := some (.ref r0)) (fun h => by rw [Bd.returns] at h; cases h)
  refine ⟨_, _, pre0 _ ?_, hrun, hended, _, _, rfl, ?_, ⟨_, rfl⟩, hW, hsame.mono (by decide) (by decide)⟩
  · show oP p e below s₁ (mkF m 0 #[oR r0, oR r1] []) _
    refine XS.aloadN X0.here hx rfl (hb hby d8_0) rfl rfl ?_
    show oP p e below s₁ (mkF m 1 #[oR r0, oR r1] [(.ref r0)]) _
    refine XS.ifnonnullYes X0.here hx rfl (pc0 := 1) (pc' := 13) rfl (hb hby d8_1) rfl (by decide) (by decide) ?_
    show oP p e below s₁ (mkF m 13 #[oR r0, oR r1] []) _
    refine XS.aloadN X0.here hx rfl (hb hby d8_13) rfl rfl ?_
    show oP p e below s₁ (mkF m 14 #[oR r0, oR r1] [(.ref r0)]) _
    exact own_retA X0 hx Bd.returns rfl rfl (hb hby d8_14) hr
  · show (some (.ref r0) : Option Value) = some (.ref (fn8 Z r0 r1)) ∧ Fr n0 _ ∧ Keep h0 s₁.heap []
    rw [e0]
    refine ⟨?_, N0, (Keep.refl h0 [])⟩
    rfl
theorem d7_0 : decode prog_11_method_1_code 0 = .ok (.aload_n 0, 1) := by decide +kernel
theorem d7_1 : decode prog_11_method_1_code 1 = .ok (.invokespecial 1, 3) := by decide +kernel
theorem d7_4 : decode prog_11_method_1_code 4 = .ok (.aload_n 0, 1) := by decide +kernel
theorem d7_5 : decode prog_11_method_1_code 5 = .ok (.aload_n 1, 1) := by decide +kernel
theorem d7_6 : decode prog_11_method_1_code 6 = .ok (.ldc 7, 2) := by decide +kernel
theorem d7_8 : decode prog_11_method_1_code 8 = .ok (.invokestatic 9, 3) := by decide +kernel
theorem pd_4 : parseMethodDescriptor "(Ljava/lang/Object;Ljava/lang/String;)Ljava/lang/Object;" = some ⟨[(.object "java/lang/Object"), (.object "java/lang/String")], some (.object "java/lang/Object")⟩ := by decide +kernel
theorem d7_11 : decode prog_11_method_1_code 11 = .ok (.checkcast 15, 3) := by decide +kernel
theorem d7_14 : decode prog_11_method_1_code 14 = .ok (.putfield 17, 3) := by decide +kernel
theorem d7_17 : decode prog_11_method_1_code 17 = .ok (.aload_n 0, 1) := by decide +kernel
theorem d7_18 : decode prog_11_method_1_code 18 = .ok (.aload_n 2, 1) := by decide +kernel
theorem d7_19 : decode prog_11_method_1_code 19 = .ok (.ldc 22, 2) := by decide +kernel
theorem d7_21 : decode prog_11_method_1_code 21 = .ok (.invokestatic 9, 3) := by decide +kernel
theorem d7_24 : decode prog_11_method_1_code 24 = .ok (.checkcast 15, 3) := by decide +kernel
theorem d7_27 : decode prog_11_method_1_code 27 = .ok (.putfield 24, 3) := by decide +kernel
theorem d7_30 : decode prog_11_method_1_code 30 = .ok (.aload_n 0, 1) := by decide +kernel
theorem d7_31 : decode prog_11_method_1_code 31 = .ok (.iload_n 3, 1) := by decide +kernel
theorem d7_32 : decode prog_11_method_1_code 32 = .ok (.putfield 26, 3) := by decide +kernel
theorem d7_35 : decode prog_11_method_1_code 35 = .ok (.return_, 1) := by decide +kernel
theorem ef_7 (m : MethodId) (x0 : Addr) (x1 : Addr) (x2 : Addr) (x3 : Int32) : entryFrame m #[(.ref x0), (.ref x1), (.ref x2), (.int x3)] 4 = mkF m 0 #[.val (.ref x0), .val (.ref x1), .val (.ref x2), .val (.int x3)] [] := by first | (simp [entryFrame, mkF, argsToLocals, Value.category]; done) | rfl
theorem pn_4 : plainName "com/example/narada/narada/client/MessageQueue" = true := by first | (simp [plainName, overriddenIn]; done) | decide +kernel
set_option maxRecDepth 65536 in
set_option maxHeartbeats 40000000 in
theorem rm7 (l : Launch) (Z : State) (a0 : Array Value) (hw : ∀ d ∈ tables_1, d.before a0 Z = true) (hS : St Z) (ws : List Jvm.Cond) (r0 : Addr) (r1 : Addr) (r2 : Addr) (p3 : Int32) (h0 : Heap) (n0 : Nat) (O0 : Old Z n0 h0) (E_r0 : Exa Z h0 r0 "com/example/narada/narada/client/MessageQueue") (F_topic_r0 : Fld Z h0 r0 "com/example/narada/narada/client/MessageQueue" "topic" "Ljava/lang/String;" .null) (F_brokerName_r0 : Fld Z h0 r0 "com/example/narada/narada/client/MessageQueue" "brokerName" "Ljava/lang/String;" .null) (F_queueId_r0 : Fld Z h0 r0 "com/example/narada/narada/client/MessageQueue" "queueId" "I" (.int (0 : Int32))) (g_r0 : n0 ≤ r0) (E_r1 : Exa Z h0 r1 "java/lang/String") (E_r2 : Exa Z h0 r2 "java/lang/String") :
    MetFree l (⟨"com/example/narada/narada/client/MessageQueue", "<init>", "(Ljava/lang/String;Ljava/lang/String;I)V"⟩ : MethodName) (head1 (Jvm.Cond.code (⟨"com/example/narada/narada/client/MessageQueue", "<init>", "(Ljava/lang/String;Ljava/lang/String;I)V"⟩ : MethodName) prog_11_method_1_code 4 none :: ws) ({ frames := 1, cells := 4, slots := 68, locals := 14 } : Room)) (fun a U => a = #[(.ref r0), (.ref r1), (.ref r2), (.int p3)] ∧ Z.Warmed39 U.vm ∧ U.heap = h0) (fun _ _ _ _ _ => True) (fun _ U o U' => ∃ v L, o = .returned v ∧ own_Q (fun v hE L => v = none ∧ Fr n0 L ∧ Keep h0 hE [r0] ∧ Exa Z hE r0 "com/example/narada/narada/client/MessageQueue" ∧ Fld Z hE r0 "com/example/narada/narada/client/MessageQueue" "topic" "Ljava/lang/String;" (.ref r1) ∧ Fld Z hE r0 "com/example/narada/narada/client/MessageQueue" "brokerName" "Ljava/lang/String;" (.ref r2) ∧ Fld Z hE r0 "com/example/narada/narada/client/MessageQueue" "queueId" "I" (.int p3)) v U'.heap L ∧ ReturnedEndW U o U' L ({ frames := 1, cells := 4, slots := 68, locals := 14 } : Room).cells ({ frames := 1, cells := 4, slots := 68, locals := 14 } : Room).slots) := by
  refine MetFree.of_bodySF (plainFor_of_name pn_4) hisR ?_
  intro p e s m args below meth c s₁ Bd hml0 hP hK
  obtain ⟨rfl, hZ, hh⟩ := hP
  have hx := Bd.exec
  have hby := Bd.bytes
  have hml : c.maxLocals = 4 := hml0
  have hown : s.vm.findClass "com/example/narada/narada/client/MessageQueue" = some m.cls := findClass_of_methodNamed Bd.named
  have hnm := (name_of_methodNamed Bd.named Bd.method).1
  have X0 : Stand p l e ({ frames := 1, cells := 4, slots := 68, locals := 14 } : Room) (s.setVm s.vm) m #[(.ref r0), (.ref r1), (.ref r2), (.int p3)] below meth c s₁ [] 0 0 := Stand.of_body Bd
  have e0 : s₁.heap = h0 := by rw [← hh, Bd.state]; rfl
  have N0 := Fr.nil n0
  have pre0 : ∀ t, Steps p.tables e below (s₁.setTop (mkF m 0 #[oR r0, oR r1, oR r2, oI p3] [])) t → Steps p.tables e below (s₁.setTop (entryFrame m #[(.ref r0), (.ref r1), (.ref r2), (.int p3)] 4)) t := fun t k => castTop (ef_7 m r0 r1 r2 p3) k
  have hSi : s.Since s.vm 0 := own_since s
  have hki0 : 0 ≤ h0.size := Nat.zero_le _
  obtain ⟨T27, X27, e27, st27⟩ := initO X0 hx hZ hown (hw _ (List.mem_of_getElem? (i := 36) rfl)) (hw _ (List.mem_of_getElem? (i := 24) rfl)) (hw _ (List.mem_of_getElem? (i := 25) rfl)) e0 (g := (mkF m 1 #[oR r0, oR r1, oR r2, oI p3] [(.ref r0)])) rfl (by rw [hml]; rfl) rfl (hb hby d7_1) (by decide) (W := 0) (by show 2 * 0 + _ ≤ _; exact Nat.le_of_eq rfl) (by decide)
  obtain ⟨b28, T28, h28, kk28, X28, e28, E28, hSi, hki28, hZ, hown, st28⟩ := ldcS X27 hx hZ hown (hw _ (List.mem_of_getElem? (i := 37) rfl)) (own_wS hw) e27 hSi hki0 (g := (mkF m 6 #[oR r0, oR r1, oR r2, oI p3] [(.ref r1), (.ref r0)])) rfl (hb hby d7_6) (n := 20) (by decide) (by decide) (by decide) (by decide)
  have O28 := O0.ext E28
  have Kc28 := (Keep.refl h0 [r0]).ext E28
  obtain ⟨_, _, ⟨T29, L29, k29, n29⟩, -, X29, ⟨Lc29, hQ29, l29, y29, z29⟩, st29⟩ := Jvm.LawKit.callS X28 hx (y := (⟨"java/util/Objects", "requireNonNull", "(Ljava/lang/Object;Ljava/lang/String;)Ljava/lang/Object;"⟩ : MethodName)) hown (mvT hZ (hw _ (List.mem_of_getElem? (i := 40) rfl))) (mvT hZ (hw _ (List.mem_of_getElem? (i := 41) rfl))) (mvT hZ (hw _ (List.mem_of_getElem? (i := 42) rfl))) (mvT hZ (hw _ (List.mem_of_getElem? (i := 43) rfl))) (by decide) (backOf (W := 1) (rm8 l Z a0 hw hS [] r1 b28 h28 n0 O28 ) hZ (hw _ (List.mem_of_getElem? (i := 43) rfl)) (hw _ (List.mem_of_getElem? (i := 42) rfl)) (by decide) (by decide)) (g := (mkF m 8 #[oR r0, oR r1, oR r2, oI p3] [(.ref b28), (.ref r1), (.ref r0)])) rfl (by rw [hml]; rfl) (argsL := [(.ref r1), (.ref b28)]) (rest := [(.ref r0)]) (lenOf pd_4 rfl) rfl (by show 2 * 0 + _ ≤ _; exact Nat.le_of_eq rfl) (hb hby d7_8) (fun _ _ => ⟨rfl, e28, (by decide : 2 + 0 ≤ _), (by decide : 24 + 0 ≤ _)⟩)
  dsimp only [Pt.U, Pt.locs, Pt.cells, Pt.slots] at X29 l29 y29 z29 st29 hQ29
  subst l29 y29 z29
  obtain ⟨v29, N29q, K29q⟩ := hQ29
  have w29 : (fn8 Z r1 b28) = r1 := rfl
  rw [w29] at v29
  subst v29
  have N29 := Fr.app N0 N29q
  have O29 := O28.keep K29q all0
  have Kc29 := Kc28.trans K29q all0
  have fx30 := ((E_r1.ext E28).keep K29q)
  obtain ⟨T31, X31, e31, st31⟩ := castY X29 hx hZ hown (hw _ (List.mem_of_getElem? (i := 44) rfl)) rfl (Ins.of_exa fx30 (hw _ (List.mem_of_getElem? (i := 21) rfl))) (g := (mkF m 11 #[oR r0, oR r1, oR r2, oI p3] [(.ref r1), (.ref r0)])) rfl rfl (hb hby d7_11)
  have fx32 := ((E_r0.ext E28).keep K29q)
  have fx33 := ((F_topic_r0.ext E28).keep K29q nin0)
  obtain ⟨T34, h34, X34, e34, W34, st34⟩ := putF X31 hx hZ hown (host := "") (Or.inl (hw _ (List.mem_of_getElem? (i := 45) rfl))) Via.refl e31 fx33 fx32 (Or.inr ⟨(hw _ (List.mem_of_getElem? (i := 46) rfl)), rfl, hnm⟩) (hw _ (List.mem_of_getElem? (i := 31) rfl)) (ty := (.object "java/lang/String")) (by decide) rfl rfl (g := (mkF m 14 #[oR r0, oR r1, oR r2, oI p3] [(.ref r1), (.ref r0)])) rfl rfl (hb hby d7_14)
  have N34 := Fr.snoc X34 N29 g_r0
  have O34 := O29.wr W34 g_r0
  have Kc34 := Kc29.wr W34 (Or.inl (List.mem_of_getElem? (i := 0) rfl))
  have Fw34 := fx33.same W34
  have fx36 := (Nat.le_trans (Nat.le_trans hki28 K29q.1) (Keep.of_wr W34).1)
  obtain ⟨b35, T35, h35, kk35, X35, e35, E35, hSi, hki35, hZ, hown, st35⟩ := ldcS X34 hx hZ hown (hw _ (List.mem_of_getElem? (i := 47) rfl)) (own_wS hw) e34 hSi fx36 (g := (mkF m 19 #[oR r0, oR r1, oR r2, oI p3] [(.ref r2), (.ref r0)])) rfl (hb hby d7_19) (n := 40) (by decide) (by decide) (by decide) (by decide)
  have O35 := O34.ext E35
  have Kc35 := Kc34.ext E35
  obtain ⟨_, _, ⟨T37, L37, k37, n37⟩, -, X37, ⟨Lc37, hQ37, l37, y37, z37⟩, st37⟩ := Jvm.LawKit.callS X35 hx (y := (⟨"java/util/Objects", "requireNonNull", "(Ljava/lang/Object;Ljava/lang/String;)Ljava/lang/Object;"⟩ : MethodName)) hown (mvT hZ (hw _ (List.mem_of_getElem? (i := 40) rfl))) (mvT hZ (hw _ (List.mem_of_getElem? (i := 41) rfl))) (mvT hZ (hw _ (List.mem_of_getElem? (i := 42) rfl))) (mvT hZ (hw _ (List.mem_of_getElem? (i := 43) rfl))) (by decide) (backOf (W := 1) (rm8 l Z a0 hw hS [] r2 b35 h35 n0 O35 ) hZ (hw _ (List.mem_of_getElem? (i := 43) rfl)) (hw _ (List.mem_of_getElem? (i := 42) rfl)) (by decide) (by decide)) (g := (mkF m 21 #[oR r0, oR r1, oR r2, oI p3] [(.ref b35), (.ref r2), (.ref r0)])) rfl (by rw [hml]; rfl) (argsL := [(.ref r2), (.ref b35)]) (rest := [(.ref r0)]) (lenOf pd_4 rfl) rfl (by show 2 * 0 + _ ≤ _; exact Nat.le_of_eq rfl) (hb hby d7_21) (fun _ _ => ⟨rfl, e35, (by decide : 4 + 0 ≤ _), (by decide : 68 + 0 ≤ _)⟩)
  dsimp only [Pt.U, Pt.locs, Pt.cells, Pt.slots] at X37 l37 y37 z37 st37 hQ37
  subst l37 y37 z37
  obtain ⟨v37, N37q, K37q⟩ := hQ37
  have w37 : (fn8 Z r2 b35) = r2 := rfl
  rw [w37] at v37
  subst v37
  have N37 := Fr.app N34 N37q
  have O37 := O35.keep K37q all0
  have Kc37 := Kc35.trans K37q all0
  have fx38 := (((((E_r2.ext E28).keep K29q).wr W34).ext E35).keep K37q)
  obtain ⟨T39, X39, e39, st39⟩ := castY X37 hx hZ hown (hw _ (List.mem_of_getElem? (i := 44) rfl)) rfl (Ins.of_exa fx38 (hw _ (List.mem_of_getElem? (i := 21) rfl))) (g := (mkF m 24 #[oR r0, oR r1, oR r2, oI p3] [(.ref r2), (.ref r0)])) rfl rfl (hb hby d7_24)
  have fx40 := (((fx32.wr W34).ext E35).keep K37q)
  have fx41 := (((((F_brokerName_r0.ext E28).keep K29q nin0).other W34 (Or.inr (slot_ne (Or.inr (hw _ (List.mem_of_getElem? (i := 49) rfl))) (Or.inr (hw _ (List.mem_of_getElem? (i := 46) rfl))) (by decide) (t := (.object "java/lang/String")) (t' := (.object "java/lang/String")) (by decide) (by decide)))).ext E35).keep K37q nin0)
  obtain ⟨T42, h42, X42, e42, W42, st42⟩ := putF X39 hx hZ hown (host := "") (Or.inl (hw _ (List.mem_of_getElem? (i := 48) rfl))) Via.refl e39 fx41 fx40 (Or.inr ⟨(hw _ (List.mem_of_getElem? (i := 49) rfl)), rfl, hnm⟩) (hw _ (List.mem_of_getElem? (i := 31) rfl)) (ty := (.object "java/lang/String")) (by decide) rfl rfl (g := (mkF m 27 #[oR r0, oR r1, oR r2, oI p3] [(.ref r2), (.ref r0)])) rfl rfl (hb hby d7_27)
  have N42 := Fr.snoc X42 N37 g_r0
  have O42 := O37.wr W42 g_r0
  have Kc42 := Kc37.wr W42 (Or.inl (List.mem_of_getElem? (i := 0) rfl))
  have Fw42 := fx41.same W42
  have fx43 := (fx40.wr W42)
  have fx44 := ((((((F_queueId_r0.ext E28).keep K29q nin0).other W34 (Or.inr (slot_ne (Or.inr (hw _ (List.mem_of_getElem? (i := 51) rfl))) (Or.inr (hw _ (List.mem_of_getElem? (i := 46) rfl))) (by decide) (t := .int) (t' := (.object "java/lang/String")) (by decide) (by decide)))).ext E35).keep K37q nin0).other W42 (Or.inr (slot_ne (Or.inr (hw _ (List.mem_of_getElem? (i := 51) rfl))) (Or.inr (hw _ (List.mem_of_getElem? (i := 49) rfl))) (by decide) (t := .int) (t' := (.object "java/lang/String")) (by decide) (by decide))))
  obtain ⟨T45, h45, X45, e45, W45, st45⟩ := putF X42 hx hZ hown (host := "") (Or.inl (hw _ (List.mem_of_getElem? (i := 50) rfl))) Via.refl e42 fx44 fx43 (Or.inr ⟨(hw _ (List.mem_of_getElem? (i := 51) rfl)), rfl, hnm⟩) (hw _ (List.mem_of_getElem? (i := 31) rfl)) (ty := .int) (by decide) rfl rfl (g := (mkF m 32 #[oR r0, oR r1, oR r2, oI p3] [(.int p3), (.ref r0)])) rfl rfl (hb hby d7_32)
  have N45 := Fr.snoc X45 N42 g_r0
  have O45 := O42.wr W45 g_r0
  have Kc45 := Kc42.wr W45 (Or.inl (List.mem_of_getElem? (i := 0) rfl))
  have Fw45 := fx44.same W45
  have fx46 := (Nat.le_trans (Nat.le_trans (Nat.le_trans hki35 K37q.1) (Keep.of_wr W42).1) (Keep.of_wr W45).1)
  obtain ⟨fs, hr, hrun, hended, hRW⟩ := Stand.leaveW X45 hSi (by rw [e45]; exact fx46) (v := none) (fun _ => rfl)
  refine ⟨_, _, pre0 _ ?_, hrun, hended, _, _, rfl, ?_, own_rwmono hRW (by decide) (by decide)⟩
  · show oP p e below s₁ (mkF m 0 #[oR r0, oR r1, oR r2, oI p3] []) _
    refine XS.aloadN X0.here hx rfl (hb hby d7_0) rfl rfl ?_
    show oP p e below s₁ (mkF m 1 #[oR r0, oR r1, oR r2, oI p3] [(.ref r0)]) _
    refine st27 _ ?_
    show oP p e below T27 (mkF m 4 #[oR r0, oR r1, oR r2, oI p3] []) _
    refine XS.aloadN X27.here hx rfl (hb hby d7_4) rfl rfl ?_
    show oP p e below T27 (mkF m 5 #[oR r0, oR r1, oR r2, oI p3] [(.ref r0)]) _
    refine XS.aloadN X27.here hx rfl (hb hby d7_5) rfl rfl ?_
    show oP p e below T27 (mkF m 6 #[oR r0, oR r1, oR r2, oI p3] [(.ref r1), (.ref r0)]) _
    refine st28 _ ?_
    show oP p e below T28 (mkF m 8 #[oR r0, oR r1, oR r2, oI p3] [(.ref b28), (.ref r1), (.ref r0)]) _
    refine st29 _ ?_
    show oP p e below T29 (mkF m 11 #[oR r0, oR r1, oR r2, oI p3] [(.ref r1), (.ref r0)]) _
    refine st31 _ ?_
    show oP p e below T31 (mkF m 14 #[oR r0, oR r1, oR r2, oI p3] [(.ref r1), (.ref r0)]) _
    refine st34 _ ?_
    show oP p e below T34 (mkF m 17 #[oR r0, oR r1, oR r2, oI p3] []) _
    refine XS.aloadN X34.here hx rfl (hb hby d7_17) rfl rfl ?_
    show oP p e below T34 (mkF m 18 #[oR r0, oR r1, oR r2, oI p3] [(.ref r0)]) _
    refine XS.aloadN X34.here hx rfl (hb hby d7_18) rfl rfl ?_
    show oP p e below T34 (mkF m 19 #[oR r0, oR r1, oR r2, oI p3] [(.ref r2), (.ref r0)]) _
    refine st35 _ ?_
    show oP p e below T35 (mkF m 21 #[oR r0, oR r1, oR r2, oI p3] [(.ref b35), (.ref r2), (.ref r0)]) _
    refine st37 _ ?_
    show oP p e below T37 (mkF m 24 #[oR r0, oR r1, oR r2, oI p3] [(.ref r2), (.ref r0)]) _
    refine st39 _ ?_
    show oP p e below T39 (mkF m 27 #[oR r0, oR r1, oR r2, oI p3] [(.ref r2), (.ref r0)]) _
    refine st42 _ ?_
    show oP p e below T42 (mkF m 30 #[oR r0, oR r1, oR r2, oI p3] []) _
    refine XS.aloadN X42.here hx rfl (hb hby d7_30) rfl rfl ?_
    show oP p e below T42 (mkF m 31 #[oR r0, oR r1, oR r2, oI p3] [(.ref r0)]) _
    refine XS.iloadN X42.here hx rfl (hb hby d7_31) rfl ?_
    show oP p e below T42 (mkF m 32 #[oR r0, oR r1, oR r2, oI p3] [(.int p3), (.ref r0)]) _
    refine st45 _ ?_
    show oP p e below T45 (mkF m 35 #[oR r0, oR r1, oR r2, oI p3] []) _
    exact X45.returnOut hx Bd.returns (hb hby d7_35) hr
  · show (none : Option Value) = none ∧ Fr n0 _ ∧ Keep h0 T45.heap [r0] ∧ Exa Z T45.heap r0 "com/example/narada/narada/client/MessageQueue" ∧ Fld Z T45.heap r0 "com/example/narada/narada/client/MessageQueue" "topic" "Ljava/lang/String;" (.ref r1) ∧ Fld Z T45.heap r0 "com/example/narada/narada/client/MessageQueue" "brokerName" "Ljava/lang/String;" (.ref r2) ∧ Fld Z T45.heap r0 "com/example/narada/narada/client/MessageQueue" "queueId" "I" (.int p3)
    rw [e45]
    have fx47 := (fx43.wr W45)
    have fx48 := ((((Fw34.ext E35).keep K37q nin0).other W42 (Or.inr (slot_ne (Or.inr (hw _ (List.mem_of_getElem? (i := 46) rfl))) (Or.inr (hw _ (List.mem_of_getElem? (i := 49) rfl))) (by decide) (t := (.object "java/lang/String")) (t' := (.object "java/lang/String")) (by decide) (by decide)))).other W45 (Or.inr (slot_ne (Or.inr (hw _ (List.mem_of_getElem? (i := 46) rfl))) (Or.inr (hw _ (List.mem_of_getElem? (i := 51) rfl))) (by decide) (t := (.object "java/lang/String")) (t' := .int) (by decide) (by decide))))
    have fx49 := (Fw42.other W45 (Or.inr (slot_ne (Or.inr (hw _ (List.mem_of_getElem? (i := 49) rfl))) (Or.inr (hw _ (List.mem_of_getElem? (i := 51) rfl))) (by decide) (t := (.object "java/lang/String")) (t' := .int) (by decide) (by decide))))
    exact ⟨rfl, N45, Kc45, fx47, fx48, fx49, Fw45⟩
theorem d9_0 : decode method_3_code 0 = .ok (.iload_n 0, 1) := by decide +kernel
theorem d9_1 : decode method_3_code 1 = .ok (.ifCond .ne 7, 3) := by decide +kernel
theorem d9_4 : decode method_3_code 4 = .ok (.iload_n 2, 1) := by decide +kernel
theorem d9_5 : decode method_3_code 5 = .ok (.ifCond .eq 17, 3) := by decide +kernel
theorem d9_22 : decode method_3_code 22 = .ok (.iload_n 1, 1) := by decide +kernel
theorem d9_23 : decode method_3_code 23 = .ok (.iload_n 3, 1) := by decide +kernel
theorem d9_24 : decode method_3_code 24 = .ok (.if_icmp .ne 7, 3) := by decide +kernel
theorem d9_27 : decode method_3_code 27 = .ok (.iconst 1, 1) := by decide +kernel
theorem d9_28 : decode method_3_code 28 = .ok (.goto 4, 3) := by decide +kernel
theorem d9_32 : decode method_3_code 32 = .ok (.ireturn, 1) := by decide +kernel
theorem d9_31 : decode method_3_code 31 = .ok (.iconst 0, 1) := by decide +kernel
theorem d9_8 : decode method_3_code 8 = .ok (.iload_n 0, 1) := by decide +kernel
theorem d9_9 : decode method_3_code 9 = .ok (.ifCond .eq 11, 3) := by decide +kernel
theorem d9_20 : decode method_3_code 20 = .ok (.iconst 0, 1) := by decide +kernel
theorem d9_21 : decode method_3_code 21 = .ok (.ireturn, 1) := by decide +kernel
theorem d9_12 : decode method_3_code 12 = .ok (.iload_n 2, 1) := by decide +kernel
theorem d9_13 : decode method_3_code 13 = .ok (.ifCond .eq 7, 3) := by decide +kernel
theorem d9_16 : decode method_3_code 16 = .ok (.iconst 1, 1) := by decide +kernel
theorem d9_17 : decode method_3_code 17 = .ok (.goto 4, 3) := by decide +kernel
def fn9 (Z : State) (p0 : Int32) (p1 : Int32) (p2 : Int32) (p3 : Int32) : Int32 :=
  if p0 = (0 : Int32) then
    if p2 = (0 : Int32) then
      if p1 = p3 then
        (1 : Int32)
      else
        (0 : Int32)
    else
      (0 : Int32)
  else
    if p2 = (0 : Int32) then
      (0 : Int32)
    else
      (1 : Int32)
theorem ef_9 (m : MethodId) (x0 : Int32) (x1 : Int32) (x2 : Int32) (x3 : Int32) : entryFrame m #[(.int x0), (.int x1), (.int x2), (.int x3)] 4 = mkF m 0 #[.val (.int x0), .val (.int x1), .val (.int x2), .val (.int x3)] [] := by first | (simp [entryFrame, mkF, argsToLocals, Value.category]; done) | rfl
set_option maxRecDepth 65536 in
set_option maxHeartbeats 40000000 in
theorem rm9 (l : Launch) (Z : State) (a0 : Array Value) (hw : ∀ d ∈ tables_1, d.before a0 Z = true) (hS : St Z) (ws : List Jvm.Cond) (p0 : Int32) (p1 : Int32) (p2 : Int32) (p3 : Int32) (h0 : Heap) (n0 : Nat) (O0 : Old Z n0 h0) :
    MetFree l (⟨"com/example/narada/narada/client/MessageQueueEqualsPinLaw", "same", "(ZIZI)Z"⟩ : MethodName) (head1 (Jvm.Cond.code (⟨"com/example/narada/narada/client/MessageQueueEqualsPinLaw", "same", "(ZIZI)Z"⟩ : MethodName) method_3_code 4 (some .boolean) :: ws) ({ frames := 0, cells := 0, slots := 0, locals := 0 } : Room)) (fun a U => a = #[(.int p0), (.int p1), (.int p2), (.int p3)] ∧ Z.Warmed39 U.vm ∧ U.heap = h0) (fun _ _ _ _ _ => True) (fun _ U o U' => ∃ v L, o = .returned v ∧ own_Q (fun v hE L => v = some (.int (fn9 Z p0 p1 p2 p3)) ∧ Fr n0 L ∧ hE = h0) v U'.heap L ∧ FrameEnd U o U' L ({ frames := 0, cells := 0, slots := 0, locals := 0 } : Room).cells ({ frames := 0, cells := 0, slots := 0, locals := 0 } : Room).slots) := by
  refine MetFree.of_bodySF (plainFor_of_name pn_2) hisR ?_
  intro p e s m args below meth c s₁ Bd hml0 hP hK
  obtain ⟨rfl, hZ, hh⟩ := hP
  have hx := Bd.exec
  have hby := Bd.bytes
  have hml : c.maxLocals = 4 := hml0
  have hown : s.vm.findClass "com/example/narada/narada/client/MessageQueueEqualsPinLaw" = some m.cls := findClass_of_methodNamed Bd.named
  have X0 : Stand p l e ({ frames := 0, cells := 0, slots := 0, locals := 0 } : Room) s m #[(.int p0), (.int p1), (.int p2), (.int p3)] below meth c s₁ [] 0 0 := Stand.of_body Bd
  have e0 : s₁.heap = h0 := by rw [← hh, Bd.state]; rfl
  have N0 := Fr.nil n0
  have pre0 : ∀ t, Steps p.tables e below (s₁.setTop (mkF m 0 #[oI p0, oI p1, oI p2, oI p3] [])) t → Steps p.tables e below (s₁.setTop (entryFrame m #[(.int p0), (.int p1), (.int p2), (.int p3)] 4)) t := fun t k => castTop (ef_9 m p0 p1 p2 p3) k
  have pre50 : ∀ t, oP p e below s₁ (mkF m 1 #[oI p0, oI p1, oI p2, oI p3] [(.int p0)]) t → oP p e below s₁ (entryFrame m #[(.int p0), (.int p1), (.int p2), (.int p3)] 4) t := fun t k => pre0 t (by
    show oP p e below s₁ (mkF m 0 #[oI p0, oI p1, oI p2, oI p3] []) _
    refine XS.iloadN X0.here hx rfl (hb hby d9_0) rfl ?_
    exact k)
  by_cases hc51 : p0 = (0 : Int32)
  · have pre52 : ∀ t, oP p e below s₁ (mkF m 5 #[oI p0, oI p1, oI p2, oI p3] [(.int p2)]) t → oP p e below s₁ (entryFrame m #[(.int p0), (.int p1), (.int p2), (.int p3)] 4) t := fun t k => pre50 t (by
      show oP p e below s₁ (mkF m 1 #[oI p0, oI p1, oI p2, oI p3] [(.int p0)]) _
      refine XS.ifNo X0.here hx rfl (hb hby d9_1) rfl ((if0 _ _).trans (teq hc51).2) ?_
      show oP p e below s₁ (mkF m 4 #[oI p0, oI p1, oI p2, oI p3] []) _
      refine XS.iloadN X0.here hx rfl (hb hby d9_4) rfl ?_
      exact k)
    by_cases hc53 : p2 = (0 : Int32)
    · have pre54 : ∀ t, oP p e below s₁ (mkF m 24 #[oI p0, oI p1, oI p2, oI p3] [(.int p3), (.int p1)]) t → oP p e below s₁ (entryFrame m #[(.int p0), (.int p1), (.int p2), (.int p3)] 4) t := fun t k => pre52 t (by
        show oP p e below s₁ (mkF m 5 #[oI p0, oI p1, oI p2, oI p3] [(.int p2)]) _
        refine XS.ifYes X0.here hx rfl (pc0 := 5) (pc' := 22) rfl (hb hby d9_5) rfl ((if0 _ _).trans (teq hc53).1) (by decide) (by decide) ?_
        show oP p e below s₁ (mkF m 22 #[oI p0, oI p1, oI p2, oI p3] []) _
        refine XS.iloadN X0.here hx rfl (hb hby d9_22) rfl ?_
        show oP p e below s₁ (mkF m 23 #[oI p0, oI p1, oI p2, oI p3] [(.int p1)]) _
        refine XS.iloadN X0.here hx rfl (hb hby d9_23) rfl ?_
        exact k)
      by_cases hc55 : p1 = p3
      · obtain ⟨fs, hr, hrun, hended, hW, hsame⟩ := X0.leave (v := some (.int (1 : Int32))) (fun h => by rw [Bd.returns] at h; cases h)
        refine ⟨_, _, pre54 _ ?_, hrun, hended, _, _, rfl, ?_, ⟨_, rfl⟩, hW, hsame.mono (by decide) (by decide)⟩
        · show oP p e below s₁ (mkF m 24 #[oI p0, oI p1, oI p2, oI p3] [(.int p3), (.int p1)]) _
          refine XS.icmpNo X0.here hx rfl (hb hby d9_24) rfl (teq hc55).2 ?_
          show oP p e below s₁ (mkF m 27 #[oI p0, oI p1, oI p2, oI p3] []) _
          refine XS.iconst X0.here hx rfl (hb hby d9_27) ?_
          show oP p e below s₁ (mkF m 28 #[oI p0, oI p1, oI p2, oI p3] [(.int (1 : Int32))]) _
          refine XS.goto X0.here hx rfl (pc0 := 28) (pc' := 32) rfl (hb hby d9_28) (by decide) (by decide) ?_
          show oP p e below s₁ (mkF m 32 #[oI p0, oI p1, oI p2, oI p3] [(.int (1 : Int32))]) _
          exact retN X0 hx (t := .boolean) Bd.returns (by simp) (hb hby d9_32) hr
        · show (some (.int (1 : Int32)) : Option Value) = some (.int (fn9 Z p0 p1 p2 p3)) ∧ Fr n0 _ ∧ s₁.heap = h0
          rw [e0]
          refine ⟨?_, N0, rfl⟩
          unfold fn9
          rw [if_pos hc51, if_pos hc53, if_pos hc55]
      · obtain ⟨fs, hr, hrun, hended, hW, hsame⟩ := X0.leave (v := some (.int (0 : Int32))) (fun h => by rw [Bd.returns] at h; cases h)
        refine ⟨_, _, pre54 _ ?_, hrun, hended, _, _, rfl, ?_, ⟨_, rfl⟩, hW, hsame.mono (by decide) (by decide)⟩
        · show oP p e below s₁ (mkF m 24 #[oI p0, oI p1, oI p2, oI p3] [(.int p3), (.int p1)]) _
          refine XS.icmpYes X0.here hx rfl (pc0 := 24) (pc' := 31) rfl (hb hby d9_24) rfl (feq hc55).2 (by decide) (by decide) ?_
          show oP p e below s₁ (mkF m 31 #[oI p0, oI p1, oI p2, oI p3] []) _
          refine XS.iconst X0.here hx rfl (hb hby d9_31) ?_
          show oP p e below s₁ (mkF m 32 #[oI p0, oI p1, oI p2, oI p3] [(.int (0 : Int32))]) _
          exact retN X0 hx (t := .boolean) Bd.returns (by simp) (hb hby d9_32) hr
        · show (some (.int (0 : Int32)) : Option Value) = some (.int (fn9 Z p0 p1 p2 p3)) ∧ Fr n0 _ ∧ s₁.heap = h0
          rw [e0]
          refine ⟨?_, N0, rfl⟩
          unfold fn9
          rw [if_pos hc51, if_pos hc53, if_neg hc55]
    · obtain ⟨fs, hr, hrun, hended, hW, hsame⟩ := X0.leave (v := some (.int (0 : Int32))) (fun h => by rw [Bd.returns] at h; cases h)
      refine ⟨_, _, pre52 _ ?_, hrun, hended, _, _, rfl, ?_, ⟨_, rfl⟩, hW, hsame.mono (by decide) (by decide)⟩
      · show oP p e below s₁ (mkF m 5 #[oI p0, oI p1, oI p2, oI p3] [(.int p2)]) _
        refine XS.ifNo X0.here hx rfl (hb hby d9_5) rfl ((if0 _ _).trans (feq hc53).1) ?_
        show oP p e below s₁ (mkF m 8 #[oI p0, oI p1, oI p2, oI p3] []) _
        refine XS.iloadN X0.here hx rfl (hb hby d9_8) rfl ?_
        show oP p e below s₁ (mkF m 9 #[oI p0, oI p1, oI p2, oI p3] [(.int p0)]) _
        refine XS.ifYes X0.here hx rfl (pc0 := 9) (pc' := 20) rfl (hb hby d9_9) rfl ((if0 _ _).trans (teq hc51).1) (by decide) (by decide) ?_
        show oP p e below s₁ (mkF m 20 #[oI p0, oI p1, oI p2, oI p3] []) _
        refine XS.iconst X0.here hx rfl (hb hby d9_20) ?_
        show oP p e below s₁ (mkF m 21 #[oI p0, oI p1, oI p2, oI p3] [(.int (0 : Int32))]) _
        exact retN X0 hx (t := .boolean) Bd.returns (by simp) (hb hby d9_21) hr
      · show (some (.int (0 : Int32)) : Option Value) = some (.int (fn9 Z p0 p1 p2 p3)) ∧ Fr n0 _ ∧ s₁.heap = h0
        rw [e0]
        refine ⟨?_, N0, rfl⟩
        unfold fn9
        rw [if_pos hc51, if_neg hc53]
  · have pre56 : ∀ t, oP p e below s₁ (mkF m 13 #[oI p0, oI p1, oI p2, oI p3] [(.int p2)]) t → oP p e below s₁ (entryFrame m #[(.int p0), (.int p1), (.int p2), (.int p3)] 4) t := fun t k => pre50 t (by
      show oP p e below s₁ (mkF m 1 #[oI p0, oI p1, oI p2, oI p3] [(.int p0)]) _
      refine XS.ifYes X0.here hx rfl (pc0 := 1) (pc' := 8) rfl (hb hby d9_1) rfl ((if0 _ _).trans (feq hc51).2) (by decide) (by decide) ?_
      show oP p e below s₁ (mkF m 8 #[oI p0, oI p1, oI p2, oI p3] []) _
      refine XS.iloadN X0.here hx rfl (hb hby d9_8) rfl ?_
      show oP p e below s₁ (mkF m 9 #[oI p0, oI p1, oI p2, oI p3] [(.int p0)]) _
      refine XS.ifNo X0.here hx rfl (hb hby d9_9) rfl ((if0 _ _).trans (feq hc51).1) ?_
      show oP p e below s₁ (mkF m 12 #[oI p0, oI p1, oI p2, oI p3] []) _
      refine XS.iloadN X0.here hx rfl (hb hby d9_12) rfl ?_
      exact k)
    by_cases hc57 : p2 = (0 : Int32)
    · obtain ⟨fs, hr, hrun, hended, hW, hsame⟩ := X0.leave (v := some (.int (0 : Int32))) (fun h => by rw [Bd.returns] at h; cases h)
      refine ⟨_, _, pre56 _ ?_, hrun, hended, _, _, rfl, ?_, ⟨_, rfl⟩, hW, hsame.mono (by decide) (by decide)⟩
      · show oP p e below s₁ (mkF m 13 #[oI p0, oI p1, oI p2, oI p3] [(.int p2)]) _
        refine XS.ifYes X0.here hx rfl (pc0 := 13) (pc' := 20) rfl (hb hby d9_13) rfl ((if0 _ _).trans (teq hc57).1) (by decide) (by decide) ?_
        show oP p e below s₁ (mkF m 20 #[oI p0, oI p1, oI p2, oI p3] []) _
        refine XS.iconst X0.here hx rfl (hb hby d9_20) ?_
        show oP p e below s₁ (mkF m 21 #[oI p0, oI p1, oI p2, oI p3] [(.int (0 : Int32))]) _
        exact retN X0 hx (t := .boolean) Bd.returns (by simp) (hb hby d9_21) hr
      · show (some (.int (0 : Int32)) : Option Value) = some (.int (fn9 Z p0 p1 p2 p3)) ∧ Fr n0 _ ∧ s₁.heap = h0
        rw [e0]
        refine ⟨?_, N0, rfl⟩
        unfold fn9
        rw [if_neg hc51, if_pos hc57]
    · obtain ⟨fs, hr, hrun, hended, hW, hsame⟩ := X0.leave (v := some (.int (1 : Int32))) (fun h => by rw [Bd.returns] at h; cases h)
      refine ⟨_, _, pre56 _ ?_, hrun, hended, _, _, rfl, ?_, ⟨_, rfl⟩, hW, hsame.mono (by decide) (by decide)⟩
      · show oP p e below s₁ (mkF m 13 #[oI p0, oI p1, oI p2, oI p3] [(.int p2)]) _
        refine XS.ifNo X0.here hx rfl (hb hby d9_13) rfl ((if0 _ _).trans (feq hc57).1) ?_
        show oP p e below s₁ (mkF m 16 #[oI p0, oI p1, oI p2, oI p3] []) _
        refine XS.iconst X0.here hx rfl (hb hby d9_16) ?_
        show oP p e below s₁ (mkF m 17 #[oI p0, oI p1, oI p2, oI p3] [(.int (1 : Int32))]) _
        refine XS.goto X0.here hx rfl (pc0 := 17) (pc' := 21) rfl (hb hby d9_17) (by decide) (by decide) ?_
        show oP p e below s₁ (mkF m 21 #[oI p0, oI p1, oI p2, oI p3] [(.int (1 : Int32))]) _
        exact retN X0 hx (t := .boolean) Bd.returns (by simp) (hb hby d9_21) hr
      · show (some (.int (1 : Int32)) : Option Value) = some (.int (fn9 Z p0 p1 p2 p3)) ∧ Fr n0 _ ∧ s₁.heap = h0
        rw [e0]
        refine ⟨?_, N0, rfl⟩
        unfold fn9
        rw [if_neg hc51, if_neg hc57]
theorem own_same9 (Z : State) (a b c d : Int32) : fn9 Z a b c d = if strcs a b = strcs c d then (1 : Int32) else (0 : Int32) := by
  unfold fn9 strcs
  by_cases h1 : a = 0 <;> by_cases h2 : c = 0 <;> by_cases h3 : b = d <;> simp_all
theorem d15_0 : decode jdk_18_method_1_code 0 = .ok (.aload_n 0, 1) := by decide +kernel
theorem d15_1 : decode jdk_18_method_1_code 1 = .ok (.invokespecial 1, 3) := by decide +kernel
theorem d15_4 : decode jdk_18_method_1_code 4 = .ok (.return_, 1) := by decide +kernel
theorem ef_15 (m : MethodId) (x0 : Addr) : entryFrame m #[(.ref x0)] 1 = mkF m 0 #[.val (.ref x0)] [] := by first | (simp [entryFrame, mkF, argsToLocals, Value.category]; done) | rfl
theorem pn_5 : plainName "java/lang/Number" = true := by first | (simp [plainName, overriddenIn]; done) | decide +kernel
set_option maxRecDepth 65536 in
set_option maxHeartbeats 40000000 in
theorem rm15 (l : Launch) (Z : State) (a0 : Array Value) (hw : ∀ d ∈ tables_1, d.before a0 Z = true) (hS : St Z) (ws : List Jvm.Cond) (r0 : Addr) (h0 : Heap) (n0 : Nat) (O0 : Old Z n0 h0) :
    MetFree l (⟨"java/lang/Number", "<init>", "()V"⟩ : MethodName) (head1 (Jvm.Cond.code (⟨"java/lang/Number", "<init>", "()V"⟩ : MethodName) jdk_18_method_1_code 1 none :: ws) ({ frames := 1, cells := 0, slots := 0, locals := 12 } : Room)) (fun a U => a = #[(.ref r0)] ∧ Z.Warmed39 U.vm ∧ U.heap = h0) (fun _ _ _ _ _ => True) (fun _ U o U' => ∃ v L, o = .returned v ∧ own_Q (fun v hE L => v = none ∧ Fr n0 L ∧ Keep h0 hE []) v U'.heap L ∧ FrameEnd U o U' L ({ frames := 1, cells := 0, slots := 0, locals := 12 } : Room).cells ({ frames := 1, cells := 0, slots := 0, locals := 12 } : Room).slots) := by
  refine MetFree.of_bodySF (plainFor_of_name pn_5) hisR ?_
  intro p e s m args below meth c s₁ Bd hml0 hP hK
  obtain ⟨rfl, hZ, hh⟩ := hP
  have hx := Bd.exec
  have hby := Bd.bytes
  have hml : c.maxLocals = 1 := hml0
  have hown : s.vm.findClass "java/lang/Number" = some m.cls := findClass_of_methodNamed Bd.named
  have hnm := (name_of_methodNamed Bd.named Bd.method).1
  have X0 : Stand p l e ({ frames := 1, cells := 0, slots := 0, locals := 12 } : Room) s m #[(.ref r0)] below meth c s₁ [] 0 0 := Stand.of_body Bd
  have e0 : s₁.heap = h0 := by rw [← hh, Bd.state]; rfl
  have N0 := Fr.nil n0
  have pre0 : ∀ t, Steps p.tables e below (s₁.setTop (mkF m 0 #[oR r0] [])) t → Steps p.tables e below (s₁.setTop (entryFrame m #[(.ref r0)] 1)) t := fun t k => castTop (ef_15 m r0) k
  obtain ⟨T58, X58, e58, st58⟩ := initO X0 hx hZ hown (hw _ (List.mem_of_getElem? (i := 94) rfl)) (hw _ (List.mem_of_getElem? (i := 24) rfl)) (hw _ (List.mem_of_getElem? (i := 25) rfl)) e0 (g := (mkF m 1 #[oR r0] [(.ref r0)])) rfl (by rw [hml]; rfl) rfl (hb hby d15_1) (by decide) (W := 0) (by show 2 * 0 + _ ≤ _; exact Nat.le_of_eq rfl) (by decide)
  obtain ⟨fs, hr, hrun, hended, hW, hsame⟩ := X58.leave (v := none) (fun _ => rfl)
  refine ⟨_, _, pre0 _ ?_, hrun, hended, _, _, rfl, ?_, ⟨_, rfl⟩, hW, hsame.mono (by decide) (by decide)⟩
  · show oP p e below s₁ (mkF m 0 #[oR r0] []) _
    refine XS.aloadN X0.here hx rfl (hb hby d15_0) rfl rfl ?_
    show oP p e below s₁ (mkF m 1 #[oR r0] [(.ref r0)]) _
    refine st58 _ ?_
    show oP p e below T58 (mkF m 4 #[oR r0] []) _
    exact X58.returnOut hx Bd.returns (hb hby d15_4) hr
  · show (none : Option Value) = none ∧ Fr n0 _ ∧ Keep h0 T58.heap []
    rw [e58]
    exact ⟨rfl, N0, (Keep.refl h0 [])⟩
theorem d14_0 : decode jdk_33_method_23_code 0 = .ok (.aload_n 0, 1) := by decide +kernel
theorem d14_1 : decode jdk_33_method_23_code 1 = .ok (.invokespecial 202, 3) := by decide +kernel
theorem pd_5 : parseMethodDescriptor "()V" = some ⟨[], none⟩ := by decide +kernel
theorem d14_4 : decode jdk_33_method_23_code 4 = .ok (.aload_n 0, 1) := by decide +kernel
theorem d14_5 : decode jdk_33_method_23_code 5 = .ok (.iload_n 1, 1) := by decide +kernel
theorem d14_6 : decode jdk_33_method_23_code 6 = .ok (.putfield 205, 3) := by decide +kernel
theorem d14_9 : decode jdk_33_method_23_code 9 = .ok (.return_, 1) := by decide +kernel
theorem ef_14 (m : MethodId) (x0 : Addr) (x1 : Int32) : entryFrame m #[(.ref x0), (.int x1)] 2 = mkF m 0 #[.val (.ref x0), .val (.int x1)] [] := by first | (simp [entryFrame, mkF, argsToLocals, Value.category]; done) | rfl
theorem pn_6 : plainName "java/lang/Integer" = true := by first | (simp [plainName, overriddenIn]; done) | decide +kernel
set_option maxRecDepth 65536 in
set_option maxHeartbeats 40000000 in
theorem rm14 (l : Launch) (Z : State) (a0 : Array Value) (hw : ∀ d ∈ tables_1, d.before a0 Z = true) (hS : St Z) (ws : List Jvm.Cond) (r0 : Addr) (p1 : Int32) (h0 : Heap) (n0 : Nat) (O0 : Old Z n0 h0) (E_r0 : Exa Z h0 r0 "java/lang/Integer") (F_value_r0 : Fld Z h0 r0 "java/lang/Integer" "value" "I" (.int (0 : Int32))) (g_r0 : n0 ≤ r0) :
    MetFree l (⟨"java/lang/Integer", "<init>", "(I)V"⟩ : MethodName) (head1 (Jvm.Cond.code (⟨"java/lang/Integer", "<init>", "(I)V"⟩ : MethodName) jdk_33_method_23_code 2 none :: ws) ({ frames := 2, cells := 0, slots := 0, locals := 24 } : Room)) (fun a U => a = #[(.ref r0), (.int p1)] ∧ Z.Warmed39 U.vm ∧ U.heap = h0) (fun _ _ _ _ _ => True) (fun _ U o U' => ∃ v L, o = .returned v ∧ own_Q (fun v hE L => v = none ∧ Fr n0 L ∧ Keep h0 hE [r0] ∧ Exa Z hE r0 "java/lang/Integer" ∧ Fld Z hE r0 "java/lang/Integer" "value" "I" (.int p1)) v U'.heap L ∧ FrameEnd U o U' L ({ frames := 2, cells := 0, slots := 0, locals := 24 } : Room).cells ({ frames := 2, cells := 0, slots := 0, locals := 24 } : Room).slots) := by
  refine MetFree.of_bodySF (plainFor_of_name pn_6) hisR ?_
  intro p e s m args below meth c s₁ Bd hml0 hP hK
  obtain ⟨rfl, hZ, hh⟩ := hP
  have hx := Bd.exec
  have hby := Bd.bytes
  have hml : c.maxLocals = 2 := hml0
  have hown : s.vm.findClass "java/lang/Integer" = some m.cls := findClass_of_methodNamed Bd.named
  have hnm := (name_of_methodNamed Bd.named Bd.method).1
  have X0 : Stand p l e ({ frames := 2, cells := 0, slots := 0, locals := 24 } : Room) s m #[(.ref r0), (.int p1)] below meth c s₁ [] 0 0 := Stand.of_body Bd
  have e0 : s₁.heap = h0 := by rw [← hh, Bd.state]; rfl
  have N0 := Fr.nil n0
  have pre0 : ∀ t, Steps p.tables e below (s₁.setTop (mkF m 0 #[oR r0, oI p1] [])) t → Steps p.tables e below (s₁.setTop (entryFrame m #[(.ref r0), (.int p1)] 2)) t := fun t k => castTop (ef_14 m r0 p1) k
  obtain ⟨_, _, ⟨T59, L59, k59, n59⟩, -, X59, ⟨Lc59, hQ59, l59, y59, z59⟩, st59⟩ := X0.specialBack hx (y := (⟨"java/lang/Number", "<init>", "()V"⟩ : MethodName)) rfl hown (mvT hZ (hw _ (List.mem_of_getElem? (i := 88) rfl))) (mvT hZ (hw _ (List.mem_of_getElem? (i := 89) rfl))) (mvT hZ (hw _ (List.mem_of_getElem? (i := 93) rfl))) (by decide) (backOf (W := 0) (rm15 l Z a0 hw hS [] r0 h0 n0 O0 ) hZ (hw _ (List.mem_of_getElem? (i := 93) rfl)) (hw _ (List.mem_of_getElem? (i := 92) rfl)) (by decide) (by decide)) (g := (mkF m 1 #[oR r0, oI p1] [(.ref r0)])) rfl (by rw [hml]; rfl) (Steps.refl _) (a := r0) (argsL := []) (rest := []) (lenOf pd_5 rfl) rfl (by show 2 * 0 + _ ≤ _; exact Nat.le_of_eq rfl) (hb hby d14_1) (fun _ _ => ⟨rfl, e0, (by decide : 0 + 0 ≤ _), (by decide : 0 + 0 ≤ _)⟩)
  dsimp only [Pt.U, Pt.locs, Pt.cells, Pt.slots] at X59 l59 y59 z59 st59 hQ59
  subst l59 y59 z59
  obtain ⟨v59, N59q, K59q⟩ := hQ59
  subst v59
  have N59 := Fr.app N0 N59q
  have O59 := O0.keep K59q all0
  have Kc59 := (Keep.refl h0 [r0]).trans K59q all0
  have fx60 := (E_r0.keep K59q)
  have fx61 := (F_value_r0.keep K59q nin0)
  obtain ⟨T62, h62, X62, e62, W62, st62⟩ := putF X59 hx hZ hown (host := "") (Or.inl (hw _ (List.mem_of_getElem? (i := 95) rfl))) Via.refl rfl fx61 fx60 (Or.inr ⟨(hw _ (List.mem_of_getElem? (i := 96) rfl)), rfl, hnm⟩) (hw _ (List.mem_of_getElem? (i := 83) rfl)) (ty := .int) (by decide) rfl rfl (g := (mkF m 6 #[oR r0, oI p1] [(.int p1), (.ref r0)])) rfl rfl (hb hby d14_6)
  have N62 := Fr.snoc X62 N59 g_r0
  have O62 := O59.wr W62 g_r0
  have Kc62 := Kc59.wr W62 (Or.inl (List.mem_of_getElem? (i := 0) rfl))
  have Fw62 := fx61.same W62
  obtain ⟨fs, hr, hrun, hended, hW, hsame⟩ := X62.leave (v := none) (fun _ => rfl)
  refine ⟨_, _, pre0 _ ?_, hrun, hended, _, _, rfl, ?_, ⟨_, rfl⟩, hW, hsame.mono (by decide) (by decide)⟩
  · show oP p e below s₁ (mkF m 0 #[oR r0, oI p1] []) _
    refine XS.aloadN X0.here hx rfl (hb hby d14_0) rfl rfl ?_
    show oP p e below s₁ (mkF m 1 #[oR r0, oI p1] [(.ref r0)]) _
    refine st59.trans ?_
    show oP p e below T59 (mkF m 4 #[oR r0, oI p1] []) _
    refine XS.aloadN X59.here hx rfl (hb hby d14_4) rfl rfl ?_
    show oP p e below T59 (mkF m 5 #[oR r0, oI p1] [(.ref r0)]) _
    refine XS.iloadN X59.here hx rfl (hb hby d14_5) rfl ?_
    show oP p e below T59 (mkF m 6 #[oR r0, oI p1] [(.int p1), (.ref r0)]) _
    refine st62 _ ?_
    show oP p e below T62 (mkF m 9 #[oR r0, oI p1] []) _
    exact X62.returnOut hx Bd.returns (hb hby d14_9) hr
  · show (none : Option Value) = none ∧ Fr n0 _ ∧ Keep h0 T62.heap [r0] ∧ Exa Z T62.heap r0 "java/lang/Integer" ∧ Fld Z T62.heap r0 "java/lang/Integer" "value" "I" (.int p1)
    rw [e62]
    have fx63 := (fx60.wr W62)
    exact ⟨rfl, N62, Kc62, fx63, Fw62⟩
theorem d13_0 : decode jdk_33_method_22_code 0 = .ok (.iload_n 0, 1) := by decide +kernel
theorem d13_1 : decode jdk_33_method_22_code 1 = .ok (.bipush (-128), 2) := by decide +kernel
theorem d13_3 : decode jdk_33_method_22_code 3 = .ok (.if_icmp .lt 20, 3) := by decide +kernel
theorem d13_23 : decode jdk_33_method_22_code 23 = .ok (.new 1, 3) := by decide +kernel
theorem d13_26 : decode jdk_33_method_22_code 26 = .ok (.dup, 1) := by decide +kernel
theorem d13_27 : decode jdk_33_method_22_code 27 = .ok (.iload_n 0, 1) := by decide +kernel
theorem d13_28 : decode jdk_33_method_22_code 28 = .ok (.invokespecial 199, 3) := by decide +kernel
theorem pd_6 : parseMethodDescriptor "(I)V" = some ⟨[.int], none⟩ := by decide +kernel
theorem d13_31 : decode jdk_33_method_22_code 31 = .ok (.areturn, 1) := by decide +kernel
theorem d13_6 : decode jdk_33_method_22_code 6 = .ok (.iload_n 0, 1) := by decide +kernel
theorem d13_7 : decode jdk_33_method_22_code 7 = .ok (.getstatic 191, 3) := by decide +kernel
theorem d13_10 : decode jdk_33_method_22_code 10 = .ok (.if_icmp .gt 13, 3) := by decide +kernel
theorem d13_13 : decode jdk_33_method_22_code 13 = .ok (.getstatic 195, 3) := by decide +kernel
theorem d13_16 : decode jdk_33_method_22_code 16 = .ok (.iload_n 0, 1) := by decide +kernel
theorem d13_17 : decode jdk_33_method_22_code 17 = .ok (.sipush 128, 3) := by decide +kernel
theorem d13_20 : decode jdk_33_method_22_code 20 = .ok (.iadd, 1) := by decide +kernel
theorem d13_21 : decode jdk_33_method_22_code 21 = .ok (.aaload, 1) := by decide +kernel
theorem d13_22 : decode jdk_33_method_22_code 22 = .ok (.areturn, 1) := by decide +kernel
theorem ef_13 (m : MethodId) (x0 : Int32) : entryFrame m #[(.int x0)] 1 = mkF m 0 #[.val (.int x0)] [] := by first | (simp [entryFrame, mkF, argsToLocals, Value.category]; done) | rfl
set_option maxRecDepth 65536 in
set_option maxHeartbeats 40000000 in
theorem rm13 (l : Launch) (Z : State) (a0 : Array Value) (hw : ∀ d ∈ tables_1, d.before a0 Z = true) (hS : St Z) (ws : List Jvm.Cond) (p0 : Int32) (h0 : Heap) (n0 : Nat) (O0 : Old Z n0 h0) :
    MetFree l (⟨"java/lang/Integer", "valueOf", "(I)Ljava/lang/Integer;"⟩ : MethodName) (head1 (Jvm.Cond.code (⟨"java/lang/Integer", "valueOf", "(I)Ljava/lang/Integer;"⟩ : MethodName) jdk_33_method_22_code 1 (some (.object "java/lang/Integer")) :: ws) ({ frames := 3, cells := 1, slots := 1, locals := 38 } : Room)) (fun a U => a = #[(.int p0)] ∧ Z.Warmed39 U.vm ∧ U.heap = h0) (fun _ _ _ _ _ => True) (fun _ U o U' => ∃ v L, o = .returned v ∧ own_Q (fun v hE L => ∃ (b : Addr), v = some (.ref b) ∧ Fr n0 L ∧ Keep h0 hE [] ∧ Exa Z hE b "java/lang/Integer") v U'.heap L ∧ FrameEnd U o U' L ({ frames := 3, cells := 1, slots := 1, locals := 38 } : Room).cells ({ frames := 3, cells := 1, slots := 1, locals := 38 } : Room).slots) := by
  refine MetFree.of_bodySF (plainFor_of_name pn_6) hisR ?_
  intro p e s m args below meth c s₁ Bd hml0 hP hK
  obtain ⟨rfl, hZ, hh⟩ := hP
  have hx := Bd.exec
  have hby := Bd.bytes
  have hml : c.maxLocals = 1 := hml0
  have hown : s.vm.findClass "java/lang/Integer" = some m.cls := findClass_of_methodNamed Bd.named
  have hnm := (name_of_methodNamed Bd.named Bd.method).1
  have X0 : Stand p l e ({ frames := 3, cells := 1, slots := 1, locals := 38 } : Room) s m #[(.int p0)] below meth c s₁ [] 0 0 := Stand.of_body Bd
  have e0 : s₁.heap = h0 := by rw [← hh, Bd.state]; rfl
  have N0 := Fr.nil n0
  have pre0 : ∀ t, Steps p.tables e below (s₁.setTop (mkF m 0 #[oI p0] [])) t → Steps p.tables e below (s₁.setTop (entryFrame m #[(.int p0)] 1)) t := fun t k => castTop (ef_13 m p0) k
  have pre64 : ∀ t, oP p e below s₁ (mkF m 3 #[oI p0] [(.int (-128 : Int32)), (.int p0)]) t → oP p e below s₁ (entryFrame m #[(.int p0)] 1) t := fun t k => pre0 t (by
    show oP p e below s₁ (mkF m 0 #[oI p0] []) _
    refine XS.iloadN X0.here hx rfl (hb hby d13_0) rfl ?_
    show oP p e below s₁ (mkF m 1 #[oI p0] [(.int p0)]) _
    refine XS.bipush X0.here hx rfl (hb hby d13_1) ?_
    exact k)
  by_cases hc65 : p0 < (-128 : Int32)
  · obtain ⟨T66, h66, X66, e66, E66, A66, D66, -, st66⟩ := newO X0 hx hZ hown (hw _ (List.mem_of_getElem? (i := 82) rfl)) (hw _ (List.mem_of_getElem? (i := 83) rfl)) (hw _ (List.mem_of_getElem? (i := 75) rfl)) e0 (g := (mkF m 23 #[oI p0] [])) rfl (hb hby d13_23) (by decide) (by decide)
    obtain ⟨b66, g66⟩ : ∃ z, z = h0.size := ⟨_, rfl⟩
    have g_b66 : n0 ≤ b66 := Nat.le_trans (own_old_le O0) (Nat.le_of_eq g66.symm)
    have sz_b66 : h0.size ≤ b66 := Nat.le_trans (Keep.refl h0 []).1 (Nat.le_of_eq g66.symm)
    rw [← g66] at A66 D66 st66
    have O66 := O0.ext E66
    have Kc66 := (Keep.refl h0 []).ext E66
    have F_value_b66 : Fld Z h66 b66 "java/lang/Integer" "value" "I" (.int (0 : Int32)) := D66 (Or.inr (hw _ (List.mem_of_getElem? (i := 96) rfl))) (ty := .int) (by decide)
    obtain ⟨_, _, ⟨T67, L67, k67, n67⟩, -, X67, ⟨Lc67, hQ67, l67, y67, z67⟩, st67⟩ := X66.specialBack hx (y := (⟨"java/lang/Integer", "<init>", "(I)V"⟩ : MethodName)) rfl hown (mvT hZ (hw _ (List.mem_of_getElem? (i := 84) rfl))) (mvT hZ (hw _ (List.mem_of_getElem? (i := 85) rfl))) (mvT hZ (hw _ (List.mem_of_getElem? (i := 87) rfl))) (by decide) (backOf (W := 1) (rm14 l Z a0 hw hS [] b66 p0 h66 n0 O66 A66 F_value_b66 g_b66) hZ (hw _ (List.mem_of_getElem? (i := 87) rfl)) (hw _ (List.mem_of_getElem? (i := 75) rfl)) (by decide) (by decide)) (g := (mkF m 28 #[oI p0] [(.int p0), (.ref b66), (.ref b66)])) rfl (by rw [hml]; rfl) (Steps.refl _) (a := b66) (argsL := [(.int p0)]) (rest := [(.ref b66)]) (lenOf pd_6 rfl) rfl (by show 2 * 0 + _ ≤ _; exact Nat.le_of_eq rfl) (hb hby d13_28) (fun _ _ => ⟨rfl, e66, (by decide : 1 + 0 ≤ _), (by decide : 1 + 0 ≤ _)⟩)
    dsimp only [Pt.U, Pt.locs, Pt.cells, Pt.slots] at X67 l67 y67 z67 st67 hQ67
    subst l67 y67 z67
    obtain ⟨v67, N67q, K67q, po67_0, po67_1⟩ := hQ67
    subst v67
    have N67 := Fr.app N0 N67q
    have O67 := O66.keep K67q (allS g_b66 all0)
    have Kc67 := Kc66.trans K67q (allS (Or.inr sz_b66) all0)
    obtain ⟨fs, hr, hrun, hended, hW, hsame⟩ := X67.leave (v := some (.ref b66)) (fun h => by rw [Bd.returns] at h; cases h)
    refine ⟨_, _, pre64 _ ?_, hrun, hended, _, _, rfl, ?_, ⟨_, rfl⟩, hW, hsame.mono (by decide) (by decide)⟩
    · show oP p e below s₁ (mkF m 3 #[oI p0] [(.int (-128 : Int32)), (.int p0)]) _
      refine XS.icmpYes X0.here hx rfl (pc0 := 3) (pc' := 23) rfl (hb hby d13_3) rfl (tlt hc65).1 (by decide) (by decide) ?_
      show oP p e below s₁ (mkF m 23 #[oI p0] []) _
      refine st66 _ ?_
      show oP p e below T66 (mkF m 26 #[oI p0] [(.ref b66)]) _
      refine XS.dup X66.here hx rfl (hb hby d13_26) rfl rfl ?_
      show oP p e below T66 (mkF m 27 #[oI p0] [(.ref b66), (.ref b66)]) _
      refine XS.iloadN X66.here hx rfl (hb hby d13_27) rfl ?_
      show oP p e below T66 (mkF m 28 #[oI p0] [(.int p0), (.ref b66), (.ref b66)]) _
      refine st67.trans ?_
      show oP p e below T67 (mkF m 31 #[oI p0] [(.ref b66)]) _
      exact own_retA X67 hx Bd.returns rfl rfl (hb hby d13_31) hr
    · show ∃ (b : Addr), (some (.ref b66) : Option Value) = some (.ref b) ∧ Fr n0 _ ∧ Keep h0 T67.heap [] ∧ Exa Z T67.heap b "java/lang/Integer"
      exact ⟨b66, rfl, N67, Kc67, po67_0⟩
  · obtain ⟨T68, X68, e68, st68⟩ := getS2 X0 hx hZ hown (host := "") (Or.inl (hw _ (List.mem_of_getElem? (i := 77) rfl))) Via.refl e0 ((s_a_high hS).ext O0.2) (g := (mkF m 7 #[oI p0] [(.int p0)])) rfl (hb hby d13_7)
    have pre69 : ∀ t, oP p e below T68 (mkF m 10 #[oI p0] [(.int (127 : Int32)), (.int p0)]) t → oP p e below s₁ (entryFrame m #[(.int p0)] 1) t := fun t k => pre64 t (by
      show oP p e below s₁ (mkF m 3 #[oI p0] [(.int (-128 : Int32)), (.int p0)]) _
      refine XS.icmpNo X0.here hx rfl (hb hby d13_3) rfl (flt hc65).1 ?_
      show oP p e below s₁ (mkF m 6 #[oI p0] []) _
      refine XS.iloadN X0.here hx rfl (hb hby d13_6) rfl ?_
      show oP p e below s₁ (mkF m 7 #[oI p0] [(.int p0)]) _
      refine st68 _ ?_
      exact k)
    by_cases hc70 : (127 : Int32) < p0
    · obtain ⟨T71, h71, X71, e71, E71, A71, D71, -, st71⟩ := newO X68 hx hZ hown (hw _ (List.mem_of_getElem? (i := 82) rfl)) (hw _ (List.mem_of_getElem? (i := 83) rfl)) (hw _ (List.mem_of_getElem? (i := 75) rfl)) e68 (g := (mkF m 23 #[oI p0] [])) rfl (hb hby d13_23) (by decide) (by decide)
      obtain ⟨b71, g71⟩ : ∃ z, z = h0.size := ⟨_, rfl⟩
      have g_b71 : n0 ≤ b71 := Nat.le_trans (own_old_le O0) (Nat.le_of_eq g71.symm)
      have sz_b71 : h0.size ≤ b71 := Nat.le_trans (Keep.refl h0 []).1 (Nat.le_of_eq g71.symm)
      rw [← g71] at A71 D71 st71
      have O71 := O0.ext E71
      have Kc71 := (Keep.refl h0 []).ext E71
      have F_value_b71 : Fld Z h71 b71 "java/lang/Integer" "value" "I" (.int (0 : Int32)) := D71 (Or.inr (hw _ (List.mem_of_getElem? (i := 96) rfl))) (ty := .int) (by decide)
      obtain ⟨_, _, ⟨T72, L72, k72, n72⟩, -, X72, ⟨Lc72, hQ72, l72, y72, z72⟩, st72⟩ := X71.specialBack hx (y := (⟨"java/lang/Integer", "<init>", "(I)V"⟩ : MethodName)) rfl hown (mvT hZ (hw _ (List.mem_of_getElem? (i := 84) rfl))) (mvT hZ (hw _ (List.mem_of_getElem? (i := 85) rfl))) (mvT hZ (hw _ (List.mem_of_getElem? (i := 87) rfl))) (by decide) (backOf (W := 1) (rm14 l Z a0 hw hS [] b71 p0 h71 n0 O71 A71 F_value_b71 g_b71) hZ (hw _ (List.mem_of_getElem? (i := 87) rfl)) (hw _ (List.mem_of_getElem? (i := 75) rfl)) (by decide) (by decide)) (g := (mkF m 28 #[oI p0] [(.int p0), (.ref b71), (.ref b71)])) rfl (by rw [hml]; rfl) (Steps.refl _) (a := b71) (argsL := [(.int p0)]) (rest := [(.ref b71)]) (lenOf pd_6 rfl) rfl (by show 2 * 0 + _ ≤ _; exact Nat.le_of_eq rfl) (hb hby d13_28) (fun _ _ => ⟨rfl, e71, (by decide : 1 + 0 ≤ _), (by decide : 1 + 0 ≤ _)⟩)
      dsimp only [Pt.U, Pt.locs, Pt.cells, Pt.slots] at X72 l72 y72 z72 st72 hQ72
      subst l72 y72 z72
      obtain ⟨v72, N72q, K72q, po72_0, po72_1⟩ := hQ72
      subst v72
      have N72 := Fr.app N0 N72q
      have O72 := O71.keep K72q (allS g_b71 all0)
      have Kc72 := Kc71.trans K72q (allS (Or.inr sz_b71) all0)
      obtain ⟨fs, hr, hrun, hended, hW, hsame⟩ := X72.leave (v := some (.ref b71)) (fun h => by rw [Bd.returns] at h; cases h)
      refine ⟨_, _, pre69 _ ?_, hrun, hended, _, _, rfl, ?_, ⟨_, rfl⟩, hW, hsame.mono (by decide) (by decide)⟩
      · show oP p e below T68 (mkF m 10 #[oI p0] [(.int (127 : Int32)), (.int p0)]) _
        refine XS.icmpYes X68.here hx rfl (pc0 := 10) (pc' := 23) rfl (hb hby d13_10) rfl (tlt hc70).2.2.1 (by decide) (by decide) ?_
        show oP p e below T68 (mkF m 23 #[oI p0] []) _
        refine st71 _ ?_
        show oP p e below T71 (mkF m 26 #[oI p0] [(.ref b71)]) _
        refine XS.dup X71.here hx rfl (hb hby d13_26) rfl rfl ?_
        show oP p e below T71 (mkF m 27 #[oI p0] [(.ref b71), (.ref b71)]) _
        refine XS.iloadN X71.here hx rfl (hb hby d13_27) rfl ?_
        show oP p e below T71 (mkF m 28 #[oI p0] [(.int p0), (.ref b71), (.ref b71)]) _
        refine st72.trans ?_
        show oP p e below T72 (mkF m 31 #[oI p0] [(.ref b71)]) _
        exact own_retA X72 hx Bd.returns rfl rfl (hb hby d13_31) hr
      · show ∃ (b : Addr), (some (.ref b71) : Option Value) = some (.ref b) ∧ Fr n0 _ ∧ Keep h0 T72.heap [] ∧ Exa Z T72.heap b "java/lang/Integer"
        exact ⟨b71, rfl, N72, Kc72, po72_0⟩
    · obtain ⟨T73, X73, e73, st73⟩ := getS2 X68 hx hZ hown (host := "") (Or.inl (hw _ (List.mem_of_getElem? (i := 79) rfl))) Via.refl e68 ((s_a_cache hS).ext O0.2) (g := (mkF m 13 #[oI p0] [])) rfl (hb hby d13_13)
      obtain ⟨cl74, Ac74, Sc74, Hc74⟩ := c_a_cache hS
      obtain ⟨hi74, hj74⟩ := own_cacheix hc65 hc70 Sc74
      obtain ⟨x74, hx74, Ex74⟩ := Hc74 _ hj74
      obtain ⟨fs, hr, hrun, hended, hW, hsame⟩ := X73.leave (v := some (.ref x74)) (fun h => by rw [Bd.returns] at h; cases h)
      refine ⟨_, _, pre69 _ ?_, hrun, hended, _, _, rfl, ?_, ⟨_, rfl⟩, hW, hsame.mono (by decide) (by decide)⟩
      · show oP p e below T68 (mkF m 10 #[oI p0] [(.int (127 : Int32)), (.int p0)]) _
        refine XS.icmpNo X68.here hx rfl (hb hby d13_10) rfl (flt hc70).2.2.1 ?_
        show oP p e below T68 (mkF m 13 #[oI p0] []) _
        refine st73 _ ?_
        show oP p e below T73 (mkF m 16 #[oI p0] [(.ref (a_cache Z))]) _
        refine XS.iloadN X73.here hx rfl (hb hby d13_16) rfl ?_
        show oP p e below T73 (mkF m 17 #[oI p0] [(.int p0), (.ref (a_cache Z))]) _
        refine XS.sipush X73.here hx rfl (hb hby d13_17) ?_
        show oP p e below T73 (mkF m 20 #[oI p0] [(.int (128 : Int32)), (.int p0), (.ref (a_cache Z))]) _
        refine XS.iadd X73.here hx rfl (hb hby d13_20) rfl ?_
        show oP p e below T73 (mkF m 21 #[oI p0] [(.int (p0 + (128 : Int32))), (.ref (a_cache Z))]) _
        refine X73.aaload hx (by rw [e73]; exact (Ac74.ext O0.2).1) (State.isArrayOf_alike hZ.alike Ac74.2.1) rfl Ac74.2.2 hi74 hx74 (g := (mkF m 21 #[oI p0] [(.int (p0 + (128 : Int32))), (.ref (a_cache Z))])) rfl rfl (hb hby d13_21) _ ?_
        show oP p e below T73 (mkF m 22 #[oI p0] [(.ref x74)]) _
        exact own_retA X73 hx Bd.returns rfl rfl (hb hby d13_22) hr
      · show ∃ (b : Addr), (some (.ref x74) : Option Value) = some (.ref b) ∧ Fr n0 _ ∧ Keep h0 T73.heap [] ∧ Exa Z T73.heap b "java/lang/Integer"
        rw [e73]
        exact ⟨x74, rfl, N0, (Keep.refl h0 []), (Ex74.ext O0.2)⟩
theorem d10_0 : decode prog_11_method_6_code 0 = .ok (.aload_n 1, 1) := by decide +kernel
theorem d10_1 : decode prog_11_method_6_code 1 = .ok (.instanceof 18, 3) := by decide +kernel
theorem d10_4 : decode prog_11_method_6_code 4 = .ok (.ifCond .ne 5, 3) := by decide +kernel
theorem d10_7 : decode prog_11_method_6_code 7 = .ok (.iconst 0, 1) := by decide +kernel
theorem d10_8 : decode prog_11_method_6_code 8 = .ok (.ireturn, 1) := by decide +kernel
def fn10n (Z : State) (r0 : Addr) : Int32 :=
  (0 : Int32)
theorem ef_10n (m : MethodId) (x0 : Addr) : entryFrame m #[(.ref x0), .null] 3 = mkF m 0 #[.val (.ref x0), .val .null, .unset] [] := by first | (simp [entryFrame, mkF, argsToLocals, Value.category]; done) | rfl
set_option maxRecDepth 65536 in
set_option maxHeartbeats 40000000 in
theorem rm10n (l : Launch) (Z : State) (a0 : Array Value) (hw : ∀ d ∈ tables_1, d.before a0 Z = true) (hS : St Z) (ws : List Jvm.Cond) (r0 : Addr) (h0 : Heap) (n0 : Nat) (O0 : Old Z n0 h0) :
    MetFree l (⟨"com/example/narada/narada/client/MessageQueue", "equals", "(Ljava/lang/Object;)Z"⟩ : MethodName) (head1 (Jvm.Cond.code (⟨"com/example/narada/narada/client/MessageQueue", "equals", "(Ljava/lang/Object;)Z"⟩ : MethodName) prog_11_method_6_code 3 (some .boolean) :: ws) ({ frames := 0, cells := 0, slots := 0, locals := 0 } : Room)) (fun a U => a = #[(.ref r0), .null] ∧ Z.Warmed39 U.vm ∧ U.heap = h0) (fun _ _ _ _ _ => True) (fun _ U o U' => ∃ v L, o = .returned v ∧ own_Q (fun v hE L => v = some (.int (fn10n Z r0)) ∧ Fr n0 L ∧ Keep h0 hE []) v U'.heap L ∧ FrameEnd U o U' L ({ frames := 0, cells := 0, slots := 0, locals := 0 } : Room).cells ({ frames := 0, cells := 0, slots := 0, locals := 0 } : Room).slots) := by
  refine MetFree.of_bodySF (plainFor_of_name pn_4) hisR ?_
  intro p e s m args below meth c s₁ Bd hml0 hP hK
  obtain ⟨rfl, hZ, hh⟩ := hP
  have hx := Bd.exec
  have hby := Bd.bytes
  have hml : c.maxLocals = 3 := hml0
  have hown : s.vm.findClass "com/example/narada/narada/client/MessageQueue" = some m.cls := findClass_of_methodNamed Bd.named
  have hnm := (name_of_methodNamed Bd.named Bd.method).1
  have X0 : Stand p l e ({ frames := 0, cells := 0, slots := 0, locals := 0 } : Room) s m #[(.ref r0), .null] below meth c s₁ [] 0 0 := Stand.of_body Bd
  have e0 : s₁.heap = h0 := by rw [← hh, Bd.state]; rfl
  have N0 := Fr.nil n0
  have pre0 : ∀ t, Steps p.tables e below (s₁.setTop (mkF m 0 #[oR r0, oN, oU] [])) t → Steps p.tables e below (s₁.setTop (entryFrame m #[(.ref r0), .null] 3)) t := fun t k => castTop (ef_10n m r0) k
  obtain ⟨fs, hr, hrun, hended, hW, hsame⟩ := X0.leave (v := some (.int (0 : Int32))) (fun h => by rw [Bd.returns] at h; cases h)
  refine ⟨_, _, pre0 _ ?_, hrun, hended, _, _, rfl, ?_, ⟨_, rfl⟩, hW, hsame.mono (by decide) (by decide)⟩
  · show oP p e below s₁ (mkF m 0 #[oR r0, oN, oU] []) _
    refine XS.aloadN X0.here hx rfl (hb hby d10_0) rfl rfl ?_
    show oP p e below s₁ (mkF m 1 #[oR r0, oN, oU] [.null]) _
    refine X0.instanceofNull hx (g := (mkF m 1 #[oR r0, oN, oU] [.null])) rfl rfl (hb hby d10_1) _ ?_
    show oP p e below s₁ (mkF m 4 #[oR r0, oN, oU] [(.int (0 : Int32))]) _
    refine XS.ifNo X0.here hx rfl (hb hby d10_4) rfl ((if0 _ _).trans (teq (by decide : (0 : Int32) = (0 : Int32))).2) ?_
    show oP p e below s₁ (mkF m 7 #[oR r0, oN, oU] []) _
    refine XS.iconst X0.here hx rfl (hb hby d10_7) ?_
    show oP p e below s₁ (mkF m 8 #[oR r0, oN, oU] [(.int (0 : Int32))]) _
    exact retN X0 hx (t := .boolean) Bd.returns (by simp) (hb hby d10_8) hr
  · show (some (.int (0 : Int32)) : Option Value) = some (.int (fn10n Z r0)) ∧ Fr n0 _ ∧ Keep h0 s₁.heap []
    rw [e0]
    refine ⟨?_, N0, (Keep.refl h0 [])⟩
    rfl
def fn10s (Z : State) (r0 : Addr) (r1 : Addr) : Int32 :=
  (0 : Int32)
theorem ef_10s (m : MethodId) (x0 : Addr) (x1 : Addr) : entryFrame m #[(.ref x0), (.ref x1)] 3 = mkF m 0 #[.val (.ref x0), .val (.ref x1), .unset] [] := by first | (simp [entryFrame, mkF, argsToLocals, Value.category]; done) | rfl
set_option maxRecDepth 65536 in
set_option maxHeartbeats 40000000 in
theorem rm10s (l : Launch) (Z : State) (a0 : Array Value) (hw : ∀ d ∈ tables_1, d.before a0 Z = true) (hS : St Z) (ws : List Jvm.Cond) (r0 : Addr) (r1 : Addr) (h0 : Heap) (n0 : Nat) (O0 : Old Z n0 h0) (E_r1 : Exa Z h0 r1 "java/lang/String") :
    MetFree l (⟨"com/example/narada/narada/client/MessageQueue", "equals", "(Ljava/lang/Object;)Z"⟩ : MethodName) (head1 (Jvm.Cond.code (⟨"com/example/narada/narada/client/MessageQueue", "equals", "(Ljava/lang/Object;)Z"⟩ : MethodName) prog_11_method_6_code 3 (some .boolean) :: ws) ({ frames := 0, cells := 0, slots := 0, locals := 0 } : Room)) (fun a U => a = #[(.ref r0), (.ref r1)] ∧ Z.Warmed39 U.vm ∧ U.heap = h0) (fun _ _ _ _ _ => True) (fun _ U o U' => ∃ v L, o = .returned v ∧ own_Q (fun v hE L => v = some (.int (fn10s Z r0 r1)) ∧ Fr n0 L ∧ Keep h0 hE []) v U'.heap L ∧ FrameEnd U o U' L ({ frames := 0, cells := 0, slots := 0, locals := 0 } : Room).cells ({ frames := 0, cells := 0, slots := 0, locals := 0 } : Room).slots) := by
  refine MetFree.of_bodySF (plainFor_of_name pn_4) hisR ?_
  intro p e s m args below meth c s₁ Bd hml0 hP hK
  obtain ⟨rfl, hZ, hh⟩ := hP
  have hx := Bd.exec
  have hby := Bd.bytes
  have hml : c.maxLocals = 3 := hml0
  have hown : s.vm.findClass "com/example/narada/narada/client/MessageQueue" = some m.cls := findClass_of_methodNamed Bd.named
  have hnm := (name_of_methodNamed Bd.named Bd.method).1
  have X0 : Stand p l e ({ frames := 0, cells := 0, slots := 0, locals := 0 } : Room) s m #[(.ref r0), (.ref r1)] below meth c s₁ [] 0 0 := Stand.of_body Bd
  have e0 : s₁.heap = h0 := by rw [← hh, Bd.state]; rfl
  have N0 := Fr.nil n0
  have pre0 : ∀ t, Steps p.tables e below (s₁.setTop (mkF m 0 #[oR r0, oR r1, oU] [])) t → Steps p.tables e below (s₁.setTop (entryFrame m #[(.ref r0), (.ref r1)] 3)) t := fun t k => castTop (ef_10s m r0 r1) k
  obtain ⟨T75, X75, e75, st75⟩ := instNo X0 hx hZ hown (hw _ (List.mem_of_getElem? (i := 60) rfl)) e0 E_r1 (own_nsno (hw _ (List.mem_of_getElem? (i := 67) rfl)) (hw _ (List.mem_of_getElem? (i := 31) rfl)) (NS.step (hw _ (List.mem_of_getElem? (i := 67) rfl)) (own_nsroot (hw _ (List.mem_of_getElem? (i := 68) rfl)) (hw _ (List.mem_of_getElem? (i := 31) rfl)) (by decide)) (by decide)) (by decide)) (g := (mkF m 1 #[oR r0, oR r1, oU] [(.ref r1)])) rfl rfl (hb hby d10_1)
  obtain ⟨fs, hr, hrun, hended, hW, hsame⟩ := X75.leave (v := some (.int (0 : Int32))) (fun h => by rw [Bd.returns] at h; cases h)
  refine ⟨_, _, pre0 _ ?_, hrun, hended, _, _, rfl, ?_, ⟨_, rfl⟩, hW, hsame.mono (by decide) (by decide)⟩
  · show oP p e below s₁ (mkF m 0 #[oR r0, oR r1, oU] []) _
    refine XS.aloadN X0.here hx rfl (hb hby d10_0) rfl rfl ?_
    show oP p e below s₁ (mkF m 1 #[oR r0, oR r1, oU] [(.ref r1)]) _
    refine st75 _ ?_
    show oP p e below T75 (mkF m 4 #[oR r0, oR r1, oU] [(.int (0 : Int32))]) _
    refine XS.ifNo X75.here hx rfl (hb hby d10_4) rfl ((if0 _ _).trans (teq (by decide : (0 : Int32) = (0 : Int32))).2) ?_
    show oP p e below T75 (mkF m 7 #[oR r0, oR r1, oU] []) _
    refine XS.iconst X75.here hx rfl (hb hby d10_7) ?_
    show oP p e below T75 (mkF m 8 #[oR r0, oR r1, oU] [(.int (0 : Int32))]) _
    exact retN X75 hx (t := .boolean) Bd.returns (by simp) (hb hby d10_8) hr
  · show (some (.int (0 : Int32)) : Option Value) = some (.int (fn10s Z r0 r1)) ∧ Fr n0 _ ∧ Keep h0 T75.heap []
    rw [e75]
    refine ⟨?_, N0, (Keep.refl h0 [])⟩
    rfl
def fn10i (Z : State) (r0 : Addr) (r1 : Addr) : Int32 :=
  (0 : Int32)
theorem ef_10i (m : MethodId) (x0 : Addr) (x1 : Addr) : entryFrame m #[(.ref x0), (.ref x1)] 3 = mkF m 0 #[.val (.ref x0), .val (.ref x1), .unset] [] := by first | (simp [entryFrame, mkF, argsToLocals, Value.category]; done) | rfl
set_option maxRecDepth 65536 in
set_option maxHeartbeats 40000000 in
theorem rm10i (l : Launch) (Z : State) (a0 : Array Value) (hw : ∀ d ∈ tables_1, d.before a0 Z = true) (hS : St Z) (ws : List Jvm.Cond) (r0 : Addr) (r1 : Addr) (h0 : Heap) (n0 : Nat) (O0 : Old Z n0 h0) (E_r1 : Exa Z h0 r1 "java/lang/Integer") :
    MetFree l (⟨"com/example/narada/narada/client/MessageQueue", "equals", "(Ljava/lang/Object;)Z"⟩ : MethodName) (head1 (Jvm.Cond.code (⟨"com/example/narada/narada/client/MessageQueue", "equals", "(Ljava/lang/Object;)Z"⟩ : MethodName) prog_11_method_6_code 3 (some .boolean) :: ws) ({ frames := 0, cells := 0, slots := 0, locals := 0 } : Room)) (fun a U => a = #[(.ref r0), (.ref r1)] ∧ Z.Warmed39 U.vm ∧ U.heap = h0) (fun _ _ _ _ _ => True) (fun _ U o U' => ∃ v L, o = .returned v ∧ own_Q (fun v hE L => v = some (.int (fn10i Z r0 r1)) ∧ Fr n0 L ∧ Keep h0 hE []) v U'.heap L ∧ FrameEnd U o U' L ({ frames := 0, cells := 0, slots := 0, locals := 0 } : Room).cells ({ frames := 0, cells := 0, slots := 0, locals := 0 } : Room).slots) := by
  refine MetFree.of_bodySF (plainFor_of_name pn_4) hisR ?_
  intro p e s m args below meth c s₁ Bd hml0 hP hK
  obtain ⟨rfl, hZ, hh⟩ := hP
  have hx := Bd.exec
  have hby := Bd.bytes
  have hml : c.maxLocals = 3 := hml0
  have hown : s.vm.findClass "com/example/narada/narada/client/MessageQueue" = some m.cls := findClass_of_methodNamed Bd.named
  have hnm := (name_of_methodNamed Bd.named Bd.method).1
  have X0 : Stand p l e ({ frames := 0, cells := 0, slots := 0, locals := 0 } : Room) s m #[(.ref r0), (.ref r1)] below meth c s₁ [] 0 0 := Stand.of_body Bd
  have e0 : s₁.heap = h0 := by rw [← hh, Bd.state]; rfl
  have N0 := Fr.nil n0
  have pre0 : ∀ t, Steps p.tables e below (s₁.setTop (mkF m 0 #[oR r0, oR r1, oU] [])) t → Steps p.tables e below (s₁.setTop (entryFrame m #[(.ref r0), (.ref r1)] 3)) t := fun t k => castTop (ef_10i m r0 r1) k
  obtain ⟨T76, X76, e76, st76⟩ := instNo X0 hx hZ hown (hw _ (List.mem_of_getElem? (i := 60) rfl)) e0 E_r1 (own_nsno (hw _ (List.mem_of_getElem? (i := 80) rfl)) (hw _ (List.mem_of_getElem? (i := 31) rfl)) (NS.step (hw _ (List.mem_of_getElem? (i := 80) rfl)) (NS.step (hw _ (List.mem_of_getElem? (i := 81) rfl)) (own_nsroot (hw _ (List.mem_of_getElem? (i := 68) rfl)) (hw _ (List.mem_of_getElem? (i := 31) rfl)) (by decide)) (by decide)) (by decide)) (by decide)) (g := (mkF m 1 #[oR r0, oR r1, oU] [(.ref r1)])) rfl rfl (hb hby d10_1)
  obtain ⟨fs, hr, hrun, hended, hW, hsame⟩ := X76.leave (v := some (.int (0 : Int32))) (fun h => by rw [Bd.returns] at h; cases h)
  refine ⟨_, _, pre0 _ ?_, hrun, hended, _, _, rfl, ?_, ⟨_, rfl⟩, hW, hsame.mono (by decide) (by decide)⟩
  · show oP p e below s₁ (mkF m 0 #[oR r0, oR r1, oU] []) _
    refine XS.aloadN X0.here hx rfl (hb hby d10_0) rfl rfl ?_
    show oP p e below s₁ (mkF m 1 #[oR r0, oR r1, oU] [(.ref r1)]) _
    refine st76 _ ?_
    show oP p e below T76 (mkF m 4 #[oR r0, oR r1, oU] [(.int (0 : Int32))]) _
    refine XS.ifNo X76.here hx rfl (hb hby d10_4) rfl ((if0 _ _).trans (teq (by decide : (0 : Int32) = (0 : Int32))).2) ?_
    show oP p e below T76 (mkF m 7 #[oR r0, oR r1, oU] []) _
    refine XS.iconst X76.here hx rfl (hb hby d10_7) ?_
    show oP p e below T76 (mkF m 8 #[oR r0, oR r1, oU] [(.int (0 : Int32))]) _
    exact retN X76 hx (t := .boolean) Bd.returns (by simp) (hb hby d10_8) hr
  · show (some (.int (0 : Int32)) : Option Value) = some (.int (fn10i Z r0 r1)) ∧ Fr n0 _ ∧ Keep h0 T76.heap []
    rw [e76]
    refine ⟨?_, N0, (Keep.refl h0 [])⟩
    rfl
theorem d10_9 : decode prog_11_method_6_code 9 = .ok (.aload_n 1, 1) := by decide +kernel
theorem d10_10 : decode prog_11_method_6_code 10 = .ok (.checkcast 18, 3) := by decide +kernel
theorem d10_13 : decode prog_11_method_6_code 13 = .ok (.astore_n 2, 1) := by decide +kernel
theorem d10_14 : decode prog_11_method_6_code 14 = .ok (.aload_n 0, 1) := by decide +kernel
theorem d10_15 : decode prog_11_method_6_code 15 = .ok (.getfield 26, 3) := by decide +kernel
theorem d10_18 : decode prog_11_method_6_code 18 = .ok (.aload_n 2, 1) := by decide +kernel
theorem d10_19 : decode prog_11_method_6_code 19 = .ok (.getfield 26, 3) := by decide +kernel
theorem d10_22 : decode prog_11_method_6_code 22 = .ok (.if_icmp .ne 35, 3) := by decide +kernel
theorem d10_25 : decode prog_11_method_6_code 25 = .ok (.aload_n 0, 1) := by decide +kernel
theorem d10_26 : decode prog_11_method_6_code 26 = .ok (.getfield 17, 3) := by decide +kernel
theorem d10_29 : decode prog_11_method_6_code 29 = .ok (.aload_n 2, 1) := by decide +kernel
theorem d10_30 : decode prog_11_method_6_code 30 = .ok (.getfield 17, 3) := by decide +kernel
theorem d10_33 : decode prog_11_method_6_code 33 = .ok (.invokevirtual 40, 3) := by decide +kernel
theorem pd_7 : parseMethodDescriptor "(Ljava/lang/Object;)Z" = some ⟨[(.object "java/lang/Object")], some .boolean⟩ := by decide +kernel
theorem d10_36 : decode prog_11_method_6_code 36 = .ok (.ifCond .eq 21, 3) := by decide +kernel
theorem d10_57 : decode prog_11_method_6_code 57 = .ok (.iconst 0, 1) := by decide +kernel
theorem d10_58 : decode prog_11_method_6_code 58 = .ok (.ireturn, 1) := by decide +kernel
theorem d10_39 : decode prog_11_method_6_code 39 = .ok (.aload_n 0, 1) := by decide +kernel
theorem d10_40 : decode prog_11_method_6_code 40 = .ok (.getfield 24, 3) := by decide +kernel
theorem d10_43 : decode prog_11_method_6_code 43 = .ok (.aload_n 2, 1) := by decide +kernel
theorem d10_44 : decode prog_11_method_6_code 44 = .ok (.getfield 24, 3) := by decide +kernel
theorem d10_47 : decode prog_11_method_6_code 47 = .ok (.invokevirtual 40, 3) := by decide +kernel
theorem d10_50 : decode prog_11_method_6_code 50 = .ok (.ifCond .eq 7, 3) := by decide +kernel
theorem d10_53 : decode prog_11_method_6_code 53 = .ok (.iconst 1, 1) := by decide +kernel
theorem d10_54 : decode prog_11_method_6_code 54 = .ok (.goto 4, 3) := by decide +kernel
def fn10q (Z : State) (r0 : Addr) (r1 : Addr) (x1 : Addr) (x2 : Addr) (y1 : Addr) (y2 : Addr) (u1 : Int32) (u2 : Int32) (tx1 : Addr) (kx1 : ClassId) (cx1 : List Int32) (tx2 : Addr) (kx2 : ClassId) (cx2 : List Int32) (ty1 : Addr) (ky1 : ClassId) (cy1 : List Int32) (ty2 : Addr) (ky2 : ClassId) (cy2 : List Int32) : Int32 :=
  if u1 = u2 then
    if (if cx1 = cx2 then (1 : Int32) else (0 : Int32)) = (0 : Int32) then
      (0 : Int32)
    else
      if (if cy1 = cy2 then (1 : Int32) else (0 : Int32)) = (0 : Int32) then
        (0 : Int32)
      else
        (1 : Int32)
  else
    (0 : Int32)
theorem ef_10q (m : MethodId) (x0 : Addr) (x1 : Addr) : entryFrame m #[(.ref x0), (.ref x1)] 3 = mkF m 0 #[.val (.ref x0), .val (.ref x1), .unset] [] := by first | (simp [entryFrame, mkF, argsToLocals, Value.category]; done) | rfl
set_option maxRecDepth 65536 in
set_option maxHeartbeats 40000000 in
theorem rm10q (l : Launch) (Z : State) (a0 : Array Value) (hw : ∀ d ∈ tables_1, d.before a0 Z = true) (hS : St Z) (ws : List Jvm.Cond) (r0 : Addr) (r1 : Addr) (x1 : Addr) (x2 : Addr) (y1 : Addr) (y2 : Addr) (u1 : Int32) (u2 : Int32) (tx1 : Addr) (kx1 : ClassId) (cx1 : List Int32) (tx2 : Addr) (kx2 : ClassId) (cx2 : List Int32) (ty1 : Addr) (ky1 : ClassId) (cy1 : List Int32) (ty2 : Addr) (ky2 : ClassId) (cy2 : List Int32) (h0 : Heap) (n0 : Nat) (O0 : Old Z n0 h0) (E_r1 : Exa Z h0 r1 "com/example/narada/narada/client/MessageQueue") (F_topic_r0 : Fld Z h0 r0 "com/example/narada/narada/client/MessageQueue" "topic" "Ljava/lang/String;" (.ref x1)) (F_topic_r1 : Fld Z h0 r1 "com/example/narada/narada/client/MessageQueue" "topic" "Ljava/lang/String;" (.ref x2)) (F_brokerName_r0 : Fld Z h0 r0 "com/example/narada/narada/client/MessageQueue" "brokerName" "Ljava/lang/String;" (.ref y1)) (F_brokerName_r1 : Fld Z h0 r1 "com/example/narada/narada/client/MessageQueue" "brokerName" "Ljava/lang/String;" (.ref y2)) (F_queueId_r0 : Fld Z h0 r0 "com/example/narada/narada/client/MessageQueue" "queueId" "I" (.int u1)) (F_queueId_r1 : Fld Z h0 r1 "com/example/narada/narada/client/MessageQueue" "queueId" "I" (.int u2)) (E_x1 : Exa Z h0 x1 "java/lang/String") (F_coder_x1 : Fld Z h0 x1 "java/lang/String" "coder" "B" (.int (0 : Int32))) (F_value_x1 : Fld Z h0 x1 "java/lang/String" "value" "[B" (.ref tx1)) (V_tx1 : Arv Z h0 tx1 kx1 .byte (Int32.ofNat cx1.length) ((cx1.map (fun c => c.toInt8.toInt32)).map Value.int) (.int (0 : Int32))) (hp_x1 : ∀ c ∈ cx1, ¬ c < 0 ∧ ¬ (255 : Int32) < c) (hl_x1 : cx1.length ≤ 4000) (E_x2 : Exa Z h0 x2 "java/lang/String") (F_coder_x2 : Fld Z h0 x2 "java/lang/String" "coder" "B" (.int (0 : Int32))) (F_value_x2 : Fld Z h0 x2 "java/lang/String" "value" "[B" (.ref tx2)) (V_tx2 : Arv Z h0 tx2 kx2 .byte (Int32.ofNat cx2.length) ((cx2.map (fun c => c.toInt8.toInt32)).map Value.int) (.int (0 : Int32))) (hp_x2 : ∀ c ∈ cx2, ¬ c < 0 ∧ ¬ (255 : Int32) < c) (hl_x2 : cx2.length ≤ 4000) (E_y1 : Exa Z h0 y1 "java/lang/String") (F_coder_y1 : Fld Z h0 y1 "java/lang/String" "coder" "B" (.int (0 : Int32))) (F_value_y1 : Fld Z h0 y1 "java/lang/String" "value" "[B" (.ref ty1)) (V_ty1 : Arv Z h0 ty1 ky1 .byte (Int32.ofNat cy1.length) ((cy1.map (fun c => c.toInt8.toInt32)).map Value.int) (.int (0 : Int32))) (hp_y1 : ∀ c ∈ cy1, ¬ c < 0 ∧ ¬ (255 : Int32) < c) (hl_y1 : cy1.length ≤ 4000) (E_y2 : Exa Z h0 y2 "java/lang/String") (F_coder_y2 : Fld Z h0 y2 "java/lang/String" "coder" "B" (.int (0 : Int32))) (F_value_y2 : Fld Z h0 y2 "java/lang/String" "value" "[B" (.ref ty2)) (V_ty2 : Arv Z h0 ty2 ky2 .byte (Int32.ofNat cy2.length) ((cy2.map (fun c => c.toInt8.toInt32)).map Value.int) (.int (0 : Int32))) (hp_y2 : ∀ c ∈ cy2, ¬ c < 0 ∧ ¬ (255 : Int32) < c) (hl_y2 : cy2.length ≤ 4000) :
    MetFree l (⟨"com/example/narada/narada/client/MessageQueue", "equals", "(Ljava/lang/Object;)Z"⟩ : MethodName) (head1 (Jvm.Cond.code (⟨"com/example/narada/narada/client/MessageQueue", "equals", "(Ljava/lang/Object;)Z"⟩ : MethodName) prog_11_method_6_code 3 (some .boolean) :: ws) ({ frames := 2, cells := 0, slots := 0, locals := 28 } : Room)) (fun a U => a = #[(.ref r0), (.ref r1)] ∧ Z.Warmed39 U.vm ∧ U.heap = h0) (fun _ _ _ _ _ => True) (fun _ U o U' => ∃ v L, o = .returned v ∧ own_Q (fun v hE L => v = some (.int (fn10q Z r0 r1 x1 x2 y1 y2 u1 u2 tx1 kx1 cx1 tx2 kx2 cx2 ty1 ky1 cy1 ty2 ky2 cy2)) ∧ Fr n0 L ∧ Keep h0 hE []) v U'.heap L ∧ FrameEnd U o U' L ({ frames := 2, cells := 0, slots := 0, locals := 28 } : Room).cells ({ frames := 2, cells := 0, slots := 0, locals := 28 } : Room).slots) := by
  refine MetFree.of_bodySF (plainFor_of_name pn_4) hisR ?_
  intro p e s m args below meth c s₁ Bd hml0 hP hK
  obtain ⟨rfl, hZ, hh⟩ := hP
  have hx := Bd.exec
  have hby := Bd.bytes
  have hml : c.maxLocals = 3 := hml0
  have hown : s.vm.findClass "com/example/narada/narada/client/MessageQueue" = some m.cls := findClass_of_methodNamed Bd.named
  have hnm := (name_of_methodNamed Bd.named Bd.method).1
  have X0 : Stand p l e ({ frames := 2, cells := 0, slots := 0, locals := 28 } : Room) s m #[(.ref r0), (.ref r1)] below meth c s₁ [] 0 0 := Stand.of_body Bd
  have e0 : s₁.heap = h0 := by rw [← hh, Bd.state]; rfl
  have N0 := Fr.nil n0
  have pre0 : ∀ t, Steps p.tables e below (s₁.setTop (mkF m 0 #[oR r0, oR r1, oU] [])) t → Steps p.tables e below (s₁.setTop (entryFrame m #[(.ref r0), (.ref r1)] 3)) t := fun t k => castTop (ef_10q m r0 r1) k
  obtain ⟨T77, X77, e77, st77⟩ := instY X0 hx hZ hown (hw _ (List.mem_of_getElem? (i := 60) rfl)) e0 (Ins.of_exa E_r1 (hw _ (List.mem_of_getElem? (i := 61) rfl))) (g := (mkF m 1 #[oR r0, oR r1, oU] [(.ref r1)])) rfl rfl (hb hby d10_1)
  obtain ⟨T78, X78, e78, st78⟩ := castY X77 hx hZ hown (hw _ (List.mem_of_getElem? (i := 60) rfl)) e77 (Ins.of_exa E_r1 (hw _ (List.mem_of_getElem? (i := 61) rfl))) (g := (mkF m 10 #[oR r0, oR r1, oU] [(.ref r1)])) rfl rfl (hb hby d10_10)
  obtain ⟨T79, X79, e79, st79⟩ := getF X78 hx hZ hown (host := "") (Or.inl (hw _ (List.mem_of_getElem? (i := 50) rfl))) Via.refl e78 F_queueId_r0 (g := (mkF m 15 #[oR r0, oR r1, oR r1] [(.ref r0)])) rfl rfl (hb hby d10_15)
  obtain ⟨T80, X80, e80, st80⟩ := getF X79 hx hZ hown (host := "") (Or.inl (hw _ (List.mem_of_getElem? (i := 50) rfl))) Via.refl e79 F_queueId_r1 (g := (mkF m 19 #[oR r0, oR r1, oR r1] [(.ref r1), (.int u1)])) rfl rfl (hb hby d10_19)
  have pre81 : ∀ t, oP p e below T80 (mkF m 22 #[oR r0, oR r1, oR r1] [(.int u2), (.int u1)]) t → oP p e below s₁ (entryFrame m #[(.ref r0), (.ref r1)] 3) t := fun t k => pre0 t (by
    show oP p e below s₁ (mkF m 0 #[oR r0, oR r1, oU] []) _
    refine XS.aloadN X0.here hx rfl (hb hby d10_0) rfl rfl ?_
    show oP p e below s₁ (mkF m 1 #[oR r0, oR r1, oU] [(.ref r1)]) _
    refine st77 _ ?_
    show oP p e below T77 (mkF m 4 #[oR r0, oR r1, oU] [(.int (1 : Int32))]) _
    refine XS.ifYes X77.here hx rfl (pc0 := 4) (pc' := 9) rfl (hb hby d10_4) rfl ((if0 _ _).trans (feq (by decide : ¬ ((1 : Int32) = (0 : Int32)))).2) (by decide) (by decide) ?_
    show oP p e below T77 (mkF m 9 #[oR r0, oR r1, oU] []) _
    refine XS.aloadN X77.here hx rfl (hb hby d10_9) rfl rfl ?_
    show oP p e below T77 (mkF m 10 #[oR r0, oR r1, oU] [(.ref r1)]) _
    refine st78 _ ?_
    show oP p e below T78 (mkF m 13 #[oR r0, oR r1, oU] [(.ref r1)]) _
    refine XS.astoreN X78.here hx rfl (hb hby d10_13) rfl rfl (l' := #[oR r0, oR r1, oR r1]) rfl ?_
    show oP p e below T78 (mkF m 14 #[oR r0, oR r1, oR r1] []) _
    refine XS.aloadN X78.here hx rfl (hb hby d10_14) rfl rfl ?_
    show oP p e below T78 (mkF m 15 #[oR r0, oR r1, oR r1] [(.ref r0)]) _
    refine st79 _ ?_
    show oP p e below T79 (mkF m 18 #[oR r0, oR r1, oR r1] [(.int u1)]) _
    refine XS.aloadN X79.here hx rfl (hb hby d10_18) rfl rfl ?_
    show oP p e below T79 (mkF m 19 #[oR r0, oR r1, oR r1] [(.ref r1), (.int u1)]) _
    refine st80 _ ?_
    exact k)
  by_cases hc82 : u1 = u2
  · obtain ⟨T83, X83, e83, st83⟩ := getF X80 hx hZ hown (host := "") (Or.inl (hw _ (List.mem_of_getElem? (i := 45) rfl))) Via.refl e80 F_topic_r0 (g := (mkF m 26 #[oR r0, oR r1, oR r1] [(.ref r0)])) rfl rfl (hb hby d10_26)
    obtain ⟨T84, X84, e84, st84⟩ := getF X83 hx hZ hown (host := "") (Or.inl (hw _ (List.mem_of_getElem? (i := 45) rfl))) Via.refl e83 F_topic_r1 (g := (mkF m 30 #[oR r0, oR r1, oR r1] [(.ref r1), (.ref x1)])) rfl rfl (hb hby d10_30)
    obtain ⟨cq85, kq85, q85a, q85b, q85c⟩ := isOf hZ e84 E_x1
    obtain ⟨_, _, ⟨T85, L85, k85, n85⟩, -, X85, ⟨Lc85, hQ85, l85, y85, z85⟩, st85⟩ := X84.virtualBack hx (y := (⟨"java/lang/String", "equals", "(Ljava/lang/Object;)Z"⟩ : MethodName)) (z := (⟨"java/lang/String", "equals", "(Ljava/lang/Object;)Z"⟩ : MethodName)) hown (mvT hZ (hw _ (List.mem_of_getElem? (i := 62) rfl))) (mvT hZ (hw _ (List.mem_of_getElem? (i := 63) rfl))) (notFace_of_selects (args := #[]) (mvT hZ (hw _ (List.mem_of_getElem? (i := 65) rfl)))) (mvT hZ (hw _ (List.mem_of_getElem? (i := 65) rfl))) (mvT hZ (hw _ (List.mem_of_getElem? (i := 64) rfl))) (by decide) (StrChars.Road.eqW (W := 0) hZ (own_wsEq hw) (kI := 4) (hw _ (List.mem_of_getElem? (i := 14) rfl)) E_x1 F_value_x1 F_coder_x1 V_tx1 (StrChars.Road.codOf rfl (fun c hc => (hp_x1 c hc).2)) (own_hb hp_x1) hl_x1 E_x2 F_value_x2 F_coder_x2 V_tx2 (StrChars.Road.codOf rfl (fun c hc => (hp_x2 c hc).2)) (own_hb hp_x2) hl_x2 ((s_compact hS).ext O0.2) (n_compact hS) (by decide) (by decide)) q85a q85c (g := (mkF m 33 #[oR r0, oR r1, oR r1] [(.ref x2), (.ref x1)])) rfl (by rw [hml]; rfl) (Steps.refl _) (argsL := [(.ref x2)]) (rest := []) (lenOf pd_7 rfl) rfl (by show 2 * 0 + _ ≤ _; exact Nat.le_of_eq rfl) (hb hby d10_33) (fun _ _ => ⟨rfl, e84, (by decide : 0 + 0 ≤ _), (by decide : 0 + 0 ≤ _)⟩)
    dsimp only [Pt.U, Pt.locs, Pt.cells, Pt.slots] at X85 l85 y85 z85 st85 hQ85
    subst l85 y85 z85
    obtain ⟨hc85, lq85, h85q⟩ := hQ85
    have v85 := own_eqv hc85
    subst v85 lq85
    have N85 := Fr.app N0 (Fr.nil n0)
    have pre86 : ∀ t, oP p e below T85 (mkF m 36 #[oR r0, oR r1, oR r1] [(.int (if cx1 = cx2 then (1 : Int32) else (0 : Int32)))]) t → oP p e below s₁ (entryFrame m #[(.ref r0), (.ref r1)] 3) t := fun t k => pre81 t (by
      show oP p e below T80 (mkF m 22 #[oR r0, oR r1, oR r1] [(.int u2), (.int u1)]) _
      refine XS.icmpNo X80.here hx rfl (hb hby d10_22) rfl (teq hc82).2 ?_
      show oP p e below T80 (mkF m 25 #[oR r0, oR r1, oR r1] []) _
      refine XS.aloadN X80.here hx rfl (hb hby d10_25) rfl rfl ?_
      show oP p e below T80 (mkF m 26 #[oR r0, oR r1, oR r1] [(.ref r0)]) _
      refine st83 _ ?_
      show oP p e below T83 (mkF m 29 #[oR r0, oR r1, oR r1] [(.ref x1)]) _
      refine XS.aloadN X83.here hx rfl (hb hby d10_29) rfl rfl ?_
      show oP p e below T83 (mkF m 30 #[oR r0, oR r1, oR r1] [(.ref r1), (.ref x1)]) _
      refine st84 _ ?_
      show oP p e below T84 (mkF m 33 #[oR r0, oR r1, oR r1] [(.ref x2), (.ref x1)]) _
      refine st85.trans ?_
      exact k)
    by_cases hc87 : (if cx1 = cx2 then (1 : Int32) else (0 : Int32)) = (0 : Int32)
    · obtain ⟨fs, hr, hrun, hended, hW, hsame⟩ := X85.leave (v := some (.int (0 : Int32))) (fun h => by rw [Bd.returns] at h; cases h)
      refine ⟨_, _, pre86 _ ?_, hrun, hended, _, _, rfl, ?_, ⟨_, rfl⟩, hW, hsame.mono (by decide) (by decide)⟩
      · show oP p e below T85 (mkF m 36 #[oR r0, oR r1, oR r1] [(.int (if cx1 = cx2 then (1 : Int32) else (0 : Int32)))]) _
        refine XS.ifYes X85.here hx rfl (pc0 := 36) (pc' := 57) rfl (hb hby d10_36) rfl ((if0 _ _).trans (teq hc87).1) (by decide) (by decide) ?_
        show oP p e below T85 (mkF m 57 #[oR r0, oR r1, oR r1] []) _
        refine XS.iconst X85.here hx rfl (hb hby d10_57) ?_
        show oP p e below T85 (mkF m 58 #[oR r0, oR r1, oR r1] [(.int (0 : Int32))]) _
        exact retN X85 hx (t := .boolean) Bd.returns (by simp) (hb hby d10_58) hr
      · show (some (.int (0 : Int32)) : Option Value) = some (.int (fn10q Z r0 r1 x1 x2 y1 y2 u1 u2 tx1 kx1 cx1 tx2 kx2 cx2 ty1 ky1 cy1 ty2 ky2 cy2)) ∧ Fr n0 _ ∧ Keep h0 T85.heap []
        rw [h85q]
        refine ⟨?_, N85, (Keep.refl h0 [])⟩
        unfold fn10q
        rw [if_pos hc82, if_pos hc87]
    · obtain ⟨T88, X88, e88, st88⟩ := getF X85 hx hZ hown (host := "") (Or.inl (hw _ (List.mem_of_getElem? (i := 48) rfl))) Via.refl h85q F_brokerName_r0 (g := (mkF m 40 #[oR r0, oR r1, oR r1] [(.ref r0)])) rfl rfl (hb hby d10_40)
      obtain ⟨T89, X89, e89, st89⟩ := getF X88 hx hZ hown (host := "") (Or.inl (hw _ (List.mem_of_getElem? (i := 48) rfl))) Via.refl e88 F_brokerName_r1 (g := (mkF m 44 #[oR r0, oR r1, oR r1] [(.ref r1), (.ref y1)])) rfl rfl (hb hby d10_44)
      obtain ⟨cq90, kq90, q90a, q90b, q90c⟩ := isOf hZ e89 E_y1
      obtain ⟨_, _, ⟨T90, L90, k90, n90⟩, -, X90, ⟨Lc90, hQ90, l90, y90, z90⟩, st90⟩ := X89.virtualBack hx (y := (⟨"java/lang/String", "equals", "(Ljava/lang/Object;)Z"⟩ : MethodName)) (z := (⟨"java/lang/String", "equals", "(Ljava/lang/Object;)Z"⟩ : MethodName)) hown (mvT hZ (hw _ (List.mem_of_getElem? (i := 62) rfl))) (mvT hZ (hw _ (List.mem_of_getElem? (i := 63) rfl))) (notFace_of_selects (args := #[]) (mvT hZ (hw _ (List.mem_of_getElem? (i := 65) rfl)))) (mvT hZ (hw _ (List.mem_of_getElem? (i := 65) rfl))) (mvT hZ (hw _ (List.mem_of_getElem? (i := 64) rfl))) (by decide) (StrChars.Road.eqW (W := 0) hZ (own_wsEq hw) (kI := 4) (hw _ (List.mem_of_getElem? (i := 14) rfl)) E_y1 F_value_y1 F_coder_y1 V_ty1 (StrChars.Road.codOf rfl (fun c hc => (hp_y1 c hc).2)) (own_hb hp_y1) hl_y1 E_y2 F_value_y2 F_coder_y2 V_ty2 (StrChars.Road.codOf rfl (fun c hc => (hp_y2 c hc).2)) (own_hb hp_y2) hl_y2 ((s_compact hS).ext O0.2) (n_compact hS) (by decide) (by decide)) q90a q90c (g := (mkF m 47 #[oR r0, oR r1, oR r1] [(.ref y2), (.ref y1)])) rfl (by rw [hml]; rfl) (Steps.refl _) (argsL := [(.ref y2)]) (rest := []) (lenOf pd_7 rfl) rfl (by show 2 * 0 + _ ≤ _; exact Nat.le_of_eq rfl) (hb hby d10_47) (fun _ _ => ⟨rfl, e89, (by decide : 0 + 0 ≤ _), (by decide : 0 + 0 ≤ _)⟩)
      dsimp only [Pt.U, Pt.locs, Pt.cells, Pt.slots] at X90 l90 y90 z90 st90 hQ90
      subst l90 y90 z90
      obtain ⟨hc90, lq90, h90q⟩ := hQ90
      have v90 := own_eqv hc90
      subst v90 lq90
      have N90 := Fr.app N85 (Fr.nil n0)
      have pre91 : ∀ t, oP p e below T90 (mkF m 50 #[oR r0, oR r1, oR r1] [(.int (if cy1 = cy2 then (1 : Int32) else (0 : Int32)))]) t → oP p e below s₁ (entryFrame m #[(.ref r0), (.ref r1)] 3) t := fun t k => pre86 t (by
        show oP p e below T85 (mkF m 36 #[oR r0, oR r1, oR r1] [(.int (if cx1 = cx2 then (1 : Int32) else (0 : Int32)))]) _
        refine XS.ifNo X85.here hx rfl (hb hby d10_36) rfl ((if0 _ _).trans (feq hc87).1) ?_
        show oP p e below T85 (mkF m 39 #[oR r0, oR r1, oR r1] []) _
        refine XS.aloadN X85.here hx rfl (hb hby d10_39) rfl rfl ?_
        show oP p e below T85 (mkF m 40 #[oR r0, oR r1, oR r1] [(.ref r0)]) _
        refine st88 _ ?_
        show oP p e below T88 (mkF m 43 #[oR r0, oR r1, oR r1] [(.ref y1)]) _
        refine XS.aloadN X88.here hx rfl (hb hby d10_43) rfl rfl ?_
        show oP p e below T88 (mkF m 44 #[oR r0, oR r1, oR r1] [(.ref r1), (.ref y1)]) _
        refine st89 _ ?_
        show oP p e below T89 (mkF m 47 #[oR r0, oR r1, oR r1] [(.ref y2), (.ref y1)]) _
        refine st90.trans ?_
        exact k)
      by_cases hc92 : (if cy1 = cy2 then (1 : Int32) else (0 : Int32)) = (0 : Int32)
      · obtain ⟨fs, hr, hrun, hended, hW, hsame⟩ := X90.leave (v := some (.int (0 : Int32))) (fun h => by rw [Bd.returns] at h; cases h)
        refine ⟨_, _, pre91 _ ?_, hrun, hended, _, _, rfl, ?_, ⟨_, rfl⟩, hW, hsame.mono (by decide) (by decide)⟩
        · show oP p e below T90 (mkF m 50 #[oR r0, oR r1, oR r1] [(.int (if cy1 = cy2 then (1 : Int32) else (0 : Int32)))]) _
          refine XS.ifYes X90.here hx rfl (pc0 := 50) (pc' := 57) rfl (hb hby d10_50) rfl ((if0 _ _).trans (teq hc92).1) (by decide) (by decide) ?_
          show oP p e below T90 (mkF m 57 #[oR r0, oR r1, oR r1] []) _
          refine XS.iconst X90.here hx rfl (hb hby d10_57) ?_
          show oP p e below T90 (mkF m 58 #[oR r0, oR r1, oR r1] [(.int (0 : Int32))]) _
          exact retN X90 hx (t := .boolean) Bd.returns (by simp) (hb hby d10_58) hr
        · show (some (.int (0 : Int32)) : Option Value) = some (.int (fn10q Z r0 r1 x1 x2 y1 y2 u1 u2 tx1 kx1 cx1 tx2 kx2 cx2 ty1 ky1 cy1 ty2 ky2 cy2)) ∧ Fr n0 _ ∧ Keep h0 T90.heap []
          rw [h90q]
          refine ⟨?_, N90, (Keep.refl h0 [])⟩
          unfold fn10q
          rw [if_pos hc82, if_neg hc87, if_pos hc92]
      · obtain ⟨fs, hr, hrun, hended, hW, hsame⟩ := X90.leave (v := some (.int (1 : Int32))) (fun h => by rw [Bd.returns] at h; cases h)
        refine ⟨_, _, pre91 _ ?_, hrun, hended, _, _, rfl, ?_, ⟨_, rfl⟩, hW, hsame.mono (by decide) (by decide)⟩
        · show oP p e below T90 (mkF m 50 #[oR r0, oR r1, oR r1] [(.int (if cy1 = cy2 then (1 : Int32) else (0 : Int32)))]) _
          refine XS.ifNo X90.here hx rfl (hb hby d10_50) rfl ((if0 _ _).trans (feq hc92).1) ?_
          show oP p e below T90 (mkF m 53 #[oR r0, oR r1, oR r1] []) _
          refine XS.iconst X90.here hx rfl (hb hby d10_53) ?_
          show oP p e below T90 (mkF m 54 #[oR r0, oR r1, oR r1] [(.int (1 : Int32))]) _
          refine XS.goto X90.here hx rfl (pc0 := 54) (pc' := 58) rfl (hb hby d10_54) (by decide) (by decide) ?_
          show oP p e below T90 (mkF m 58 #[oR r0, oR r1, oR r1] [(.int (1 : Int32))]) _
          exact retN X90 hx (t := .boolean) Bd.returns (by simp) (hb hby d10_58) hr
        · show (some (.int (1 : Int32)) : Option Value) = some (.int (fn10q Z r0 r1 x1 x2 y1 y2 u1 u2 tx1 kx1 cx1 tx2 kx2 cx2 ty1 ky1 cy1 ty2 ky2 cy2)) ∧ Fr n0 _ ∧ Keep h0 T90.heap []
          rw [h90q]
          refine ⟨?_, N90, (Keep.refl h0 [])⟩
          unfold fn10q
          rw [if_pos hc82, if_neg hc87, if_neg hc92]
  · obtain ⟨fs, hr, hrun, hended, hW, hsame⟩ := X80.leave (v := some (.int (0 : Int32))) (fun h => by rw [Bd.returns] at h; cases h)
    refine ⟨_, _, pre81 _ ?_, hrun, hended, _, _, rfl, ?_, ⟨_, rfl⟩, hW, hsame.mono (by decide) (by decide)⟩
    · show oP p e below T80 (mkF m 22 #[oR r0, oR r1, oR r1] [(.int u2), (.int u1)]) _
      refine XS.icmpYes X80.here hx rfl (pc0 := 22) (pc' := 57) rfl (hb hby d10_22) rfl (feq hc82).2 (by decide) (by decide) ?_
      show oP p e below T80 (mkF m 57 #[oR r0, oR r1, oR r1] []) _
      refine XS.iconst X80.here hx rfl (hb hby d10_57) ?_
      show oP p e below T80 (mkF m 58 #[oR r0, oR r1, oR r1] [(.int (0 : Int32))]) _
      exact retN X80 hx (t := .boolean) Bd.returns (by simp) (hb hby d10_58) hr
    · show (some (.int (0 : Int32)) : Option Value) = some (.int (fn10q Z r0 r1 x1 x2 y1 y2 u1 u2 tx1 kx1 cx1 tx2 kx2 cx2 ty1 ky1 cy1 ty2 ky2 cy2)) ∧ Fr n0 _ ∧ Keep h0 T80.heap []
      rw [e80]
      refine ⟨?_, N0, (Keep.refl h0 [])⟩
      unfold fn10q
      rw [if_neg hc82]
theorem rng_mask3 (k : Int32) : (k &&& (3 : Int32)) = (0 : Int32) ∨ (k &&& (3 : Int32)) = (1 : Int32) ∨ (k &&& (3 : Int32)) = (2 : Int32) ∨ (k &&& (3 : Int32)) = (3 : Int32) := by
  have h := own_and_le k 3 (by decide)
  obtain ⟨j, hj, e⟩ := own_mem (n := 4) h.1 (Int.lt_of_le_of_lt h.2 (by decide))
  rw [e]
  match j, hj with
  | 0, _ => decide
  | 1, _ => decide
  | 2, _ => decide
  | 3, _ => decide
theorem pd_8 : parseMethodDescriptor "(ZI)Ljava/lang/String;" = some ⟨[.boolean, .int], some (.object "java/lang/String")⟩ := by decide +kernel
theorem pd_9 : parseMethodDescriptor "(Ljava/lang/String;Ljava/lang/String;I)V" = some ⟨[(.object "java/lang/String"), (.object "java/lang/String"), .int], none⟩ := by decide +kernel
theorem pd_10 : parseMethodDescriptor "(ZIZI)Z" = some ⟨[.boolean, .int, .boolean, .int], some .boolean⟩ := by decide +kernel
theorem ab187 {Z : State} (hS : St Z) (p0 : Int32) (p1 : Int32) (p2 : Int32) (a2 : Int32) (e1 : Int32) (e2 : Int32) (b2 : Int32) (f1 : Int32) (f2 : Int32) (uu : Int32) (re1 : e1 = (0 : Int32) ∨ e1 = (1 : Int32)) (re2 : e2 = (0 : Int32) ∨ e2 = (1 : Int32)) (rf1 : f1 = (0 : Int32) ∨ f1 = (1 : Int32)) (rf2 : f2 = (0 : Int32) ∨ f2 = (1 : Int32)) (hc169 : (fn9 Z e1 (p0 &&& (255 : Int32)) e2 a2) = (0 : Int32)) (hc172 : ¬ ((fn10q Z b121 b132 b_114 b_115 b_117 b_119 p2 uu t_114 kt_114 (strcs e1 (p0 &&& (255 : Int32))) t_115 kt_115 (strcs e2 a2) t_117 kt_117 (strcs f1 (p1 &&& (255 : Int32))) t_119 kt_119 (strcs f2 b2)) = (0 : Int32))) : False := by
  have s_hc172 : ¬ ((0 : Int32) = (fn10q Z b121 b132 b_114 b_115 b_117 b_119 p2 uu t_114 kt_114 (strcs e1 (p0 &&& (255 : Int32))) t_115 kt_115 (strcs e2 a2) t_117 kt_117 (strcs f1 (p1 &&& (255 : Int32))) t_119 kt_119 (strcs f2 b2))) := fun q => hc172 q.symm
  simp_all [fn10q, own_same9]
theorem ab208 {Z : State} (hS : St Z) (p0 : Int32) (p1 : Int32) (p2 : Int32) (a2 : Int32) (e1 : Int32) (e2 : Int32) (b2 : Int32) (f1 : Int32) (f2 : Int32) (uu : Int32) (re1 : e1 = (0 : Int32) ∨ e1 = (1 : Int32)) (re2 : e2 = (0 : Int32) ∨ e2 = (1 : Int32)) (rf1 : f1 = (0 : Int32) ∨ f1 = (1 : Int32)) (rf2 : f2 = (0 : Int32) ∨ f2 = (1 : Int32)) (hc169 : ¬ ((fn9 Z e1 (p0 &&& (255 : Int32)) e2 a2) = (0 : Int32))) (hc190 : (fn9 Z f1 (p1 &&& (255 : Int32)) f2 b2) = (0 : Int32)) (hc193 : ¬ ((fn10q Z b121 b132 b_114 b_115 b_117 b_119 p2 uu t_114 kt_114 (strcs e1 (p0 &&& (255 : Int32))) t_115 kt_115 (strcs e2 a2) t_117 kt_117 (strcs f1 (p1 &&& (255 : Int32))) t_119 kt_119 (strcs f2 b2)) = (0 : Int32))) : False := by
  have s_hc169 : ¬ ((0 : Int32) = (fn9 Z e1 (p0 &&& (255 : Int32)) e2 a2)) := fun q => hc169 q.symm
  have s_hc193 : ¬ ((0 : Int32) = (fn10q Z b121 b132 b_114 b_115 b_117 b_119 p2 uu t_114 kt_114 (strcs e1 (p0 &&& (255 : Int32))) t_115 kt_115 (strcs e2 a2) t_117 kt_117 (strcs f1 (p1 &&& (255 : Int32))) t_119 kt_119 (strcs f2 b2))) := fun q => hc193 q.symm
  simp_all [fn10q, own_same9]
theorem ab228 {Z : State} (hS : St Z) (p0 : Int32) (p1 : Int32) (p2 : Int32) (a2 : Int32) (e1 : Int32) (e2 : Int32) (b2 : Int32) (f1 : Int32) (f2 : Int32) (uu : Int32) (re1 : e1 = (0 : Int32) ∨ e1 = (1 : Int32)) (re2 : e2 = (0 : Int32) ∨ e2 = (1 : Int32)) (rf1 : f1 = (0 : Int32) ∨ f1 = (1 : Int32)) (rf2 : f2 = (0 : Int32) ∨ f2 = (1 : Int32)) (hc169 : ¬ ((fn9 Z e1 (p0 &&& (255 : Int32)) e2 a2) = (0 : Int32))) (hc190 : ¬ ((fn9 Z f1 (p1 &&& (255 : Int32)) f2 b2) = (0 : Int32))) (hc210 : p2 = uu) (hc213 : ¬ ((fn10q Z b121 b132 b_114 b_115 b_117 b_119 p2 uu t_114 kt_114 (strcs e1 (p0 &&& (255 : Int32))) t_115 kt_115 (strcs e2 a2) t_117 kt_117 (strcs f1 (p1 &&& (255 : Int32))) t_119 kt_119 (strcs f2 b2)) = (1 : Int32))) : False := by
  have s_hc169 : ¬ ((0 : Int32) = (fn9 Z e1 (p0 &&& (255 : Int32)) e2 a2)) := fun q => hc169 q.symm
  have s_hc190 : ¬ ((0 : Int32) = (fn9 Z f1 (p1 &&& (255 : Int32)) f2 b2)) := fun q => hc190 q.symm
  have s_hc213 : ¬ ((1 : Int32) = (fn10q Z b121 b132 b_114 b_115 b_117 b_119 p2 uu t_114 kt_114 (strcs e1 (p0 &&& (255 : Int32))) t_115 kt_115 (strcs e2 a2) t_117 kt_117 (strcs f1 (p1 &&& (255 : Int32))) t_119 kt_119 (strcs f2 b2))) := fun q => hc213 q.symm
  simp_all [fn10q, own_same9]
theorem pd_11 : parseMethodDescriptor "(I)Ljava/lang/Integer;" = some ⟨[.int], some (.object "java/lang/Integer")⟩ := by decide +kernel
theorem ef_0 (m : MethodId) (x0 : Int32) (x1 : Int32) (x2 : Int32) (x3 : Int32) (x4 : Int32) : entryFrame m #[(.int x0), (.int x1), (.int x2), (.int x3), (.int x4)] maxLocals = mkF m 0 #[.val (.int x0), .val (.int x1), .val (.int x2), .val (.int x3), .val (.int x4), .unset, .unset, .unset, .unset, .unset, .unset, .unset, .unset, .unset, .unset, .unset, .unset, .unset, .unset, .unset, .unset, .unset, .unset] [] := by first | (simp [entryFrame, mkF, argsToLocals, Value.category, maxLocals]; done) | rfl
set_option maxRecDepth 65536 in
set_option maxHeartbeats 40000000 in
theorem rm0 (l : Launch) (Z : State) (a0 : Array Value) (hw : ∀ d ∈ tables_1, d.before a0 Z = true) (hS : St Z) (ws : List Jvm.Cond) (p0 : Int32) (p1 : Int32) (p2 : Int32) (p3 : Int32) (p4 : Int32) (h0 : Heap) (n0 : Nat) (O0 : Old Z n0 h0) :
    MetFree l x (head1 (Jvm.Cond.code x code maxLocals ret :: ws) room_1) (fun a U => a = #[(.int p0), (.int p1), (.int p2), (.int p3), (.int p4)] ∧ Z.Warmed39 U.vm ∧ U.heap = h0 ∧ CHv Z own_EL U.vm h0) (fun _ _ _ _ _ => True) (fun _ U o U' => ∃ v L, o = .returned v ∧ own_Q (fun v hE L => v = some (.int (1 : Int32)) ∧ Fr n0 L ∧ Keep h0 hE []) v U'.heap L ∧ ReturnedEndW U o U' L room_1.cells room_1.slots) := by
  refine MetFree.of_bodySF (plainFor_of_name pn_2) hisR ?_
  intro p e s m args below meth c s₁ Bd hml0 hP hK
  obtain ⟨rfl, hZ, hh, hCH⟩ := hP
  have hx := Bd.exec
  have hby := Bd.bytes
  have hml : c.maxLocals = 23 := hml0
  have hown : s.vm.findClass "com/example/narada/narada/client/MessageQueueEqualsPinLaw" = some m.cls := findClass_of_methodNamed Bd.named
  have hnm := (name_of_methodNamed Bd.named Bd.method).1
  have X0 : Stand p l e room_1 (s.setVm s.vm) m #[(.int p0), (.int p1), (.int p2), (.int p3), (.int p4)] below meth c s₁ [] 0 0 := Stand.of_body Bd
  have e0 : s₁.heap = h0 := by rw [← hh, Bd.state]; rfl
  have N0 := Fr.nil n0
  have pre0 : ∀ t, Steps p.tables e below (s₁.setTop (mkF m 0 #[oI p0, oI p1, oI p2, oI p3, oI p4, oU, oU, oU, oU, oU, oU, oU, oU, oU, oU, oU, oU, oU, oU, oU, oU, oU, oU] [])) t → Steps p.tables e below (s₁.setTop (entryFrame m #[(.int p0), (.int p1), (.int p2), (.int p3), (.int p4)] maxLocals)) t := fun t k => castTop (ef_0 m p0 p1 p2 p3 p4) k
  have hSi : s.Since s.vm 0 := own_since s
  have hki0 : 0 ≤ h0.size := Nat.zero_le _
  have hC0 : CHr Z own_EL s.vm h0 s.vm h0 := CHr.refl hCH
  have pre93 : ∀ t, oP p e below s₁ (mkF m 13 #[oI p0, oI p1, oI p2, oI p3, oI p4, oI (p0 &&& (255 : Int32)), oU, oU, oU, oU, oU, oU, oU, oU, oU, oU, oU, oU, oU, oU, oU, oU, oU] [(.int (((p0.toUInt32 >>> ((18 : Int32) &&& 31).toUInt32).toInt32) &&& (1 : Int32)))]) t → oP p e below s₁ (entryFrame m #[(.int p0), (.int p1), (.int p2), (.int p3), (.int p4)] maxLocals) t := fun t k => pre0 t (by
    show oP p e below s₁ (mkF m 0 #[oI p0, oI p1, oI p2, oI p3, oI p4, oU, oU, oU, oU, oU, oU, oU, oU, oU, oU, oU, oU, oU, oU, oU, oU, oU, oU] []) _
    refine XS.iloadN X0.here hx rfl (hb hby at_0) rfl ?_
    show oP p e below s₁ (mkF m 1 #[oI p0, oI p1, oI p2, oI p3, oI p4, oU, oU, oU, oU, oU, oU, oU, oU, oU, oU, oU, oU, oU, oU, oU, oU, oU, oU] [(.int p0)]) _
    refine XS.sipush X0.here hx rfl (hb hby at_1) ?_
    show oP p e below s₁ (mkF m 4 #[oI p0, oI p1, oI p2, oI p3, oI p4, oU, oU, oU, oU, oU, oU, oU, oU, oU, oU, oU, oU, oU, oU, oU, oU, oU, oU] [(.int (255 : Int32)), (.int p0)]) _
    refine XS.iand X0.here hx rfl (hb hby at_4) rfl ?_
    show oP p e below s₁ (mkF m 5 #[oI p0, oI p1, oI p2, oI p3, oI p4, oU, oU, oU, oU, oU, oU, oU, oU, oU, oU, oU, oU, oU, oU, oU, oU, oU, oU] [(.int (p0 &&& (255 : Int32)))]) _
    refine XS.istore X0.here hx rfl (hb hby at_5) rfl (l' := #[oI p0, oI p1, oI p2, oI p3, oI p4, oI (p0 &&& (255 : Int32)), oU, oU, oU, oU, oU, oU, oU, oU, oU, oU, oU, oU, oU, oU, oU, oU, oU]) rfl ?_
    show oP p e below s₁ (mkF m 7 #[oI p0, oI p1, oI p2, oI p3, oI p4, oI (p0 &&& (255 : Int32)), oU, oU, oU, oU, oU, oU, oU, oU, oU, oU, oU, oU, oU, oU, oU, oU, oU] []) _
    refine XS.iloadN X0.here hx rfl (hb hby at_7) rfl ?_
    show oP p e below s₁ (mkF m 8 #[oI p0, oI p1, oI p2, oI p3, oI p4, oI (p0 &&& (255 : Int32)), oU, oU, oU, oU, oU, oU, oU, oU, oU, oU, oU, oU, oU, oU, oU, oU, oU] [(.int p0)]) _
    refine XS.bipush X0.here hx rfl (hb hby at_8) ?_
    show oP p e below s₁ (mkF m 10 #[oI p0, oI p1, oI p2, oI p3, oI p4, oI (p0 &&& (255 : Int32)), oU, oU, oU, oU, oU, oU, oU, oU, oU, oU, oU, oU, oU, oU, oU, oU, oU] [(.int (18 : Int32)), (.int p0)]) _
    refine XS.iushr X0.here hx rfl (hb hby at_10) rfl ?_
    show oP p e below s₁ (mkF m 11 #[oI p0, oI p1, oI p2, oI p3, oI p4, oI (p0 &&& (255 : Int32)), oU, oU, oU, oU, oU, oU, oU, oU, oU, oU, oU, oU, oU, oU, oU, oU, oU] [(.int ((p0.toUInt32 >>> ((18 : Int32) &&& 31).toUInt32).toInt32))]) _
    refine XS.iconst X0.here hx rfl (hb hby at_11) ?_
    show oP p e below s₁ (mkF m 12 #[oI p0, oI p1, oI p2, oI p3, oI p4, oI (p0 &&& (255 : Int32)), oU, oU, oU, oU, oU, oU, oU, oU, oU, oU, oU, oU, oU, oU, oU, oU, oU] [(.int (1 : Int32)), (.int ((p0.toUInt32 >>> ((18 : Int32) &&& 31).toUInt32).toInt32))]) _
    refine XS.iand X0.here hx rfl (hb hby at_12) rfl ?_
    exact k)
  obtain ⟨a2, ha2, pre95⟩ : ∃ a2 : Int32, ((((((p0.toUInt32 >>> ((18 : Int32) &&& 31).toUInt32).toInt32) &&& (1 : Int32)) = (0 : Int32)) ∧ a2 = (((p0.toUInt32 >>> ((8 : Int32) &&& 31).toUInt32).toInt32) &&& (255 : Int32))) ∨ (¬ ((((p0.toUInt32 >>> ((18 : Int32) &&& 31).toUInt32).toInt32) &&& (1 : Int32)) = (0 : Int32)) ∧ a2 = (p0 &&& (255 : Int32)))) ∧ ∀ t, oP p e below s₁ (mkF m 29 #[oI p0, oI p1, oI p2, oI p3, oI p4, oI (p0 &&& (255 : Int32)), oU, oU, oU, oU, oU, oU, oU, oU, oU, oU, oU, oU, oU, oU, oU, oU, oU] [(.int a2)]) t → oP p e below s₁ (entryFrame m #[(.int p0), (.int p1), (.int p2), (.int p3), (.int p4)] maxLocals) t := by
    by_cases hc94 : (((p0.toUInt32 >>> ((18 : Int32) &&& 31).toUInt32).toInt32) &&& (1 : Int32)) = (0 : Int32)
    · refine ⟨(((p0.toUInt32 >>> ((8 : Int32) &&& 31).toUInt32).toInt32) &&& (255 : Int32)), Or.inl ⟨hc94, rfl⟩, fun t k => pre93 t (by
        show oP p e below s₁ (mkF m 13 #[oI p0, oI p1, oI p2, oI p3, oI p4, oI (p0 &&& (255 : Int32)), oU, oU, oU, oU, oU, oU, oU, oU, oU, oU, oU, oU, oU, oU, oU, oU, oU] [(.int (((p0.toUInt32 >>> ((18 : Int32) &&& 31).toUInt32).toInt32) &&& (1 : Int32)))]) _
        refine XS.ifYes X0.here hx rfl (pc0 := 13) (pc' := 21) rfl (hb hby at_13) rfl ((if0 _ _).trans (teq hc94).1) (by decide) (by decide) ?_
        show oP p e below s₁ (mkF m 21 #[oI p0, oI p1, oI p2, oI p3, oI p4, oI (p0 &&& (255 : Int32)), oU, oU, oU, oU, oU, oU, oU, oU, oU, oU, oU, oU, oU, oU, oU, oU, oU] []) _
        refine XS.iloadN X0.here hx rfl (hb hby at_21) rfl ?_
        show oP p e below s₁ (mkF m 22 #[oI p0, oI p1, oI p2, oI p3, oI p4, oI (p0 &&& (255 : Int32)), oU, oU, oU, oU, oU, oU, oU, oU, oU, oU, oU, oU, oU, oU, oU, oU, oU] [(.int p0)]) _
        refine XS.bipush X0.here hx rfl (hb hby at_22) ?_
        show oP p e below s₁ (mkF m 24 #[oI p0, oI p1, oI p2, oI p3, oI p4, oI (p0 &&& (255 : Int32)), oU, oU, oU, oU, oU, oU, oU, oU, oU, oU, oU, oU, oU, oU, oU, oU, oU] [(.int (8 : Int32)), (.int p0)]) _
        refine XS.iushr X0.here hx rfl (hb hby at_24) rfl ?_
        show oP p e below s₁ (mkF m 25 #[oI p0, oI p1, oI p2, oI p3, oI p4, oI (p0 &&& (255 : Int32)), oU, oU, oU, oU, oU, oU, oU, oU, oU, oU, oU, oU, oU, oU, oU, oU, oU] [(.int ((p0.toUInt32 >>> ((8 : Int32) &&& 31).toUInt32).toInt32))]) _
        refine XS.sipush X0.here hx rfl (hb hby at_25) ?_
        show oP p e below s₁ (mkF m 28 #[oI p0, oI p1, oI p2, oI p3, oI p4, oI (p0 &&& (255 : Int32)), oU, oU, oU, oU, oU, oU, oU, oU, oU, oU, oU, oU, oU, oU, oU, oU, oU] [(.int (255 : Int32)), (.int ((p0.toUInt32 >>> ((8 : Int32) &&& 31).toUInt32).toInt32))]) _
        refine XS.iand X0.here hx rfl (hb hby at_28) rfl ?_
        exact k)⟩
    · refine ⟨(p0 &&& (255 : Int32)), Or.inr (⟨hc94, rfl⟩), fun t k => pre93 t (by
        show oP p e below s₁ (mkF m 13 #[oI p0, oI p1, oI p2, oI p3, oI p4, oI (p0 &&& (255 : Int32)), oU, oU, oU, oU, oU, oU, oU, oU, oU, oU, oU, oU, oU, oU, oU, oU, oU] [(.int (((p0.toUInt32 >>> ((18 : Int32) &&& 31).toUInt32).toInt32) &&& (1 : Int32)))]) _
        refine XS.ifNo X0.here hx rfl (hb hby at_13) rfl ((if0 _ _).trans (feq hc94).1) ?_
        show oP p e below s₁ (mkF m 16 #[oI p0, oI p1, oI p2, oI p3, oI p4, oI (p0 &&& (255 : Int32)), oU, oU, oU, oU, oU, oU, oU, oU, oU, oU, oU, oU, oU, oU, oU, oU, oU] []) _
        refine XS.iload X0.here hx rfl (hb hby at_16) rfl ?_
        show oP p e below s₁ (mkF m 18 #[oI p0, oI p1, oI p2, oI p3, oI p4, oI (p0 &&& (255 : Int32)), oU, oU, oU, oU, oU, oU, oU, oU, oU, oU, oU, oU, oU, oU, oU, oU, oU] [(.int (p0 &&& (255 : Int32)))]) _
        refine XS.goto X0.here hx rfl (pc0 := 18) (pc' := 29) rfl (hb hby at_18) (by decide) (by decide) ?_
        exact k)⟩
  have ra2 : ¬ a2 < 0 ∧ ¬ (255 : Int32) < a2 := by rcases ha2 with ⟨-, h⟩ | ⟨-, h⟩ <;> exact own_char h
  have pre96 : ∀ t, oP p e below s₁ (mkF m 37 #[oI p0, oI p1, oI p2, oI p3, oI p4, oI (p0 &&& (255 : Int32)), oI a2, oU, oU, oU, oU, oU, oU, oU, oU, oU, oU, oU, oU, oU, oU, oU, oU] [(.int (((p0.toUInt32 >>> ((16 : Int32) &&& 31).toUInt32).toInt32) &&& (1 : Int32)))]) t → oP p e below s₁ (entryFrame m #[(.int p0), (.int p1), (.int p2), (.int p3), (.int p4)] maxLocals) t := fun t k => pre95 t (by
    show oP p e below s₁ (mkF m 29 #[oI p0, oI p1, oI p2, oI p3, oI p4, oI (p0 &&& (255 : Int32)), oU, oU, oU, oU, oU, oU, oU, oU, oU, oU, oU, oU, oU, oU, oU, oU, oU] [(.int a2)]) _
    refine XS.istore X0.here hx rfl (hb hby at_29) rfl (l' := #[oI p0, oI p1, oI p2, oI p3, oI p4, oI (p0 &&& (255 : Int32)), oI a2, oU, oU, oU, oU, oU, oU, oU, oU, oU, oU, oU, oU, oU, oU, oU, oU]) rfl ?_
    show oP p e below s₁ (mkF m 31 #[oI p0, oI p1, oI p2, oI p3, oI p4, oI (p0 &&& (255 : Int32)), oI a2, oU, oU, oU, oU, oU, oU, oU, oU, oU, oU, oU, oU, oU, oU, oU, oU] []) _
    refine XS.iloadN X0.here hx rfl (hb hby at_31) rfl ?_
    show oP p e below s₁ (mkF m 32 #[oI p0, oI p1, oI p2, oI p3, oI p4, oI (p0 &&& (255 : Int32)), oI a2, oU, oU, oU, oU, oU, oU, oU, oU, oU, oU, oU, oU, oU, oU, oU, oU] [(.int p0)]) _
    refine XS.bipush X0.here hx rfl (hb hby at_32) ?_
    show oP p e below s₁ (mkF m 34 #[oI p0, oI p1, oI p2, oI p3, oI p4, oI (p0 &&& (255 : Int32)), oI a2, oU, oU, oU, oU, oU, oU, oU, oU, oU, oU, oU, oU, oU, oU, oU, oU] [(.int (16 : Int32)), (.int p0)]) _
    refine XS.iushr X0.here hx rfl (hb hby at_34) rfl ?_
    show oP p e below s₁ (mkF m 35 #[oI p0, oI p1, oI p2, oI p3, oI p4, oI (p0 &&& (255 : Int32)), oI a2, oU, oU, oU, oU, oU, oU, oU, oU, oU, oU, oU, oU, oU, oU, oU, oU] [(.int ((p0.toUInt32 >>> ((16 : Int32) &&& 31).toUInt32).toInt32))]) _
    refine XS.iconst X0.here hx rfl (hb hby at_35) ?_
    show oP p e below s₁ (mkF m 36 #[oI p0, oI p1, oI p2, oI p3, oI p4, oI (p0 &&& (255 : Int32)), oI a2, oU, oU, oU, oU, oU, oU, oU, oU, oU, oU, oU, oU, oU, oU, oU, oU] [(.int (1 : Int32)), (.int ((p0.toUInt32 >>> ((16 : Int32) &&& 31).toUInt32).toInt32))]) _
    refine XS.iand X0.here hx rfl (hb hby at_36) rfl ?_
    exact k)
  obtain ⟨e1, he1, pre98⟩ : ∃ e1 : Int32, ((((((p0.toUInt32 >>> ((16 : Int32) &&& 31).toUInt32).toInt32) &&& (1 : Int32)) = (0 : Int32)) ∧ e1 = (0 : Int32)) ∨ (¬ ((((p0.toUInt32 >>> ((16 : Int32) &&& 31).toUInt32).toInt32) &&& (1 : Int32)) = (0 : Int32)) ∧ e1 = (1 : Int32))) ∧ ∀ t, oP p e below s₁ (mkF m 45 #[oI p0, oI p1, oI p2, oI p3, oI p4, oI (p0 &&& (255 : Int32)), oI a2, oU, oU, oU, oU, oU, oU, oU, oU, oU, oU, oU, oU, oU, oU, oU, oU] [(.int e1)]) t → oP p e below s₁ (entryFrame m #[(.int p0), (.int p1), (.int p2), (.int p3), (.int p4)] maxLocals) t := by
    by_cases hc97 : (((p0.toUInt32 >>> ((16 : Int32) &&& 31).toUInt32).toInt32) &&& (1 : Int32)) = (0 : Int32)
    · refine ⟨(0 : Int32), Or.inl ⟨hc97, rfl⟩, fun t k => pre96 t (by
        show oP p e below s₁ (mkF m 37 #[oI p0, oI p1, oI p2, oI p3, oI p4, oI (p0 &&& (255 : Int32)), oI a2, oU, oU, oU, oU, oU, oU, oU, oU, oU, oU, oU, oU, oU, oU, oU, oU] [(.int (((p0.toUInt32 >>> ((16 : Int32) &&& 31).toUInt32).toInt32) &&& (1 : Int32)))]) _
        refine XS.ifYes X0.here hx rfl (pc0 := 37) (pc' := 44) rfl (hb hby at_37) rfl ((if0 _ _).trans (teq hc97).1) (by decide) (by decide) ?_
        show oP p e below s₁ (mkF m 44 #[oI p0, oI p1, oI p2, oI p3, oI p4, oI (p0 &&& (255 : Int32)), oI a2, oU, oU, oU, oU, oU, oU, oU, oU, oU, oU, oU, oU, oU, oU, oU, oU] []) _
        refine XS.iconst X0.here hx rfl (hb hby at_44) ?_
        exact k)⟩
    · refine ⟨(1 : Int32), Or.inr (⟨hc97, rfl⟩), fun t k => pre96 t (by
        show oP p e below s₁ (mkF m 37 #[oI p0, oI p1, oI p2, oI p3, oI p4, oI (p0 &&& (255 : Int32)), oI a2, oU, oU, oU, oU, oU, oU, oU, oU, oU, oU, oU, oU, oU, oU, oU, oU] [(.int (((p0.toUInt32 >>> ((16 : Int32) &&& 31).toUInt32).toInt32) &&& (1 : Int32)))]) _
        refine XS.ifNo X0.here hx rfl (hb hby at_37) rfl ((if0 _ _).trans (feq hc97).1) ?_
        show oP p e below s₁ (mkF m 40 #[oI p0, oI p1, oI p2, oI p3, oI p4, oI (p0 &&& (255 : Int32)), oI a2, oU, oU, oU, oU, oU, oU, oU, oU, oU, oU, oU, oU, oU, oU, oU, oU] []) _
        refine XS.iconst X0.here hx rfl (hb hby at_40) ?_
        show oP p e below s₁ (mkF m 41 #[oI p0, oI p1, oI p2, oI p3, oI p4, oI (p0 &&& (255 : Int32)), oI a2, oU, oU, oU, oU, oU, oU, oU, oU, oU, oU, oU, oU, oU, oU, oU, oU] [(.int (1 : Int32))]) _
        refine XS.goto X0.here hx rfl (pc0 := 41) (pc' := 45) rfl (hb hby at_41) (by decide) (by decide) ?_
        exact k)⟩
  have re1 : e1 = (0 : Int32) ∨ e1 = (1 : Int32) := by rcases he1 with ⟨-, h⟩ | ⟨-, h⟩ <;> first | exact Or.inl h | exact Or.inr h
  have pre99 : ∀ t, oP p e below s₁ (mkF m 53 #[oI p0, oI p1, oI p2, oI p3, oI p4, oI (p0 &&& (255 : Int32)), oI a2, oI e1, oU, oU, oU, oU, oU, oU, oU, oU, oU, oU, oU, oU, oU, oU, oU] [(.int (((p0.toUInt32 >>> ((17 : Int32) &&& 31).toUInt32).toInt32) &&& (1 : Int32)))]) t → oP p e below s₁ (entryFrame m #[(.int p0), (.int p1), (.int p2), (.int p3), (.int p4)] maxLocals) t := fun t k => pre98 t (by
    show oP p e below s₁ (mkF m 45 #[oI p0, oI p1, oI p2, oI p3, oI p4, oI (p0 &&& (255 : Int32)), oI a2, oU, oU, oU, oU, oU, oU, oU, oU, oU, oU, oU, oU, oU, oU, oU, oU] [(.int e1)]) _
    refine XS.istore X0.here hx rfl (hb hby at_45) rfl (l' := #[oI p0, oI p1, oI p2, oI p3, oI p4, oI (p0 &&& (255 : Int32)), oI a2, oI e1, oU, oU, oU, oU, oU, oU, oU, oU, oU, oU, oU, oU, oU, oU, oU]) rfl ?_
    show oP p e below s₁ (mkF m 47 #[oI p0, oI p1, oI p2, oI p3, oI p4, oI (p0 &&& (255 : Int32)), oI a2, oI e1, oU, oU, oU, oU, oU, oU, oU, oU, oU, oU, oU, oU, oU, oU, oU] []) _
    refine XS.iloadN X0.here hx rfl (hb hby at_47) rfl ?_
    show oP p e below s₁ (mkF m 48 #[oI p0, oI p1, oI p2, oI p3, oI p4, oI (p0 &&& (255 : Int32)), oI a2, oI e1, oU, oU, oU, oU, oU, oU, oU, oU, oU, oU, oU, oU, oU, oU, oU] [(.int p0)]) _
    refine XS.bipush X0.here hx rfl (hb hby at_48) ?_
    show oP p e below s₁ (mkF m 50 #[oI p0, oI p1, oI p2, oI p3, oI p4, oI (p0 &&& (255 : Int32)), oI a2, oI e1, oU, oU, oU, oU, oU, oU, oU, oU, oU, oU, oU, oU, oU, oU, oU] [(.int (17 : Int32)), (.int p0)]) _
    refine XS.iushr X0.here hx rfl (hb hby at_50) rfl ?_
    show oP p e below s₁ (mkF m 51 #[oI p0, oI p1, oI p2, oI p3, oI p4, oI (p0 &&& (255 : Int32)), oI a2, oI e1, oU, oU, oU, oU, oU, oU, oU, oU, oU, oU, oU, oU, oU, oU, oU] [(.int ((p0.toUInt32 >>> ((17 : Int32) &&& 31).toUInt32).toInt32))]) _
    refine XS.iconst X0.here hx rfl (hb hby at_51) ?_
    show oP p e below s₁ (mkF m 52 #[oI p0, oI p1, oI p2, oI p3, oI p4, oI (p0 &&& (255 : Int32)), oI a2, oI e1, oU, oU, oU, oU, oU, oU, oU, oU, oU, oU, oU, oU, oU, oU, oU] [(.int (1 : Int32)), (.int ((p0.toUInt32 >>> ((17 : Int32) &&& 31).toUInt32).toInt32))]) _
    refine XS.iand X0.here hx rfl (hb hby at_52) rfl ?_
    exact k)
  obtain ⟨e2, he2, pre101⟩ : ∃ e2 : Int32, ((((((p0.toUInt32 >>> ((17 : Int32) &&& 31).toUInt32).toInt32) &&& (1 : Int32)) = (0 : Int32)) ∧ e2 = (0 : Int32)) ∨ (¬ ((((p0.toUInt32 >>> ((17 : Int32) &&& 31).toUInt32).toInt32) &&& (1 : Int32)) = (0 : Int32)) ∧ e2 = (1 : Int32))) ∧ ∀ t, oP p e below s₁ (mkF m 61 #[oI p0, oI p1, oI p2, oI p3, oI p4, oI (p0 &&& (255 : Int32)), oI a2, oI e1, oU, oU, oU, oU, oU, oU, oU, oU, oU, oU, oU, oU, oU, oU, oU] [(.int e2)]) t → oP p e below s₁ (entryFrame m #[(.int p0), (.int p1), (.int p2), (.int p3), (.int p4)] maxLocals) t := by
    by_cases hc100 : (((p0.toUInt32 >>> ((17 : Int32) &&& 31).toUInt32).toInt32) &&& (1 : Int32)) = (0 : Int32)
    · refine ⟨(0 : Int32), Or.inl ⟨hc100, rfl⟩, fun t k => pre99 t (by
        show oP p e below s₁ (mkF m 53 #[oI p0, oI p1, oI p2, oI p3, oI p4, oI (p0 &&& (255 : Int32)), oI a2, oI e1, oU, oU, oU, oU, oU, oU, oU, oU, oU, oU, oU, oU, oU, oU, oU] [(.int (((p0.toUInt32 >>> ((17 : Int32) &&& 31).toUInt32).toInt32) &&& (1 : Int32)))]) _
        refine XS.ifYes X0.here hx rfl (pc0 := 53) (pc' := 60) rfl (hb hby at_53) rfl ((if0 _ _).trans (teq hc100).1) (by decide) (by decide) ?_
        show oP p e below s₁ (mkF m 60 #[oI p0, oI p1, oI p2, oI p3, oI p4, oI (p0 &&& (255 : Int32)), oI a2, oI e1, oU, oU, oU, oU, oU, oU, oU, oU, oU, oU, oU, oU, oU, oU, oU] []) _
        refine XS.iconst X0.here hx rfl (hb hby at_60) ?_
        exact k)⟩
    · refine ⟨(1 : Int32), Or.inr (⟨hc100, rfl⟩), fun t k => pre99 t (by
        show oP p e below s₁ (mkF m 53 #[oI p0, oI p1, oI p2, oI p3, oI p4, oI (p0 &&& (255 : Int32)), oI a2, oI e1, oU, oU, oU, oU, oU, oU, oU, oU, oU, oU, oU, oU, oU, oU, oU] [(.int (((p0.toUInt32 >>> ((17 : Int32) &&& 31).toUInt32).toInt32) &&& (1 : Int32)))]) _
        refine XS.ifNo X0.here hx rfl (hb hby at_53) rfl ((if0 _ _).trans (feq hc100).1) ?_
        show oP p e below s₁ (mkF m 56 #[oI p0, oI p1, oI p2, oI p3, oI p4, oI (p0 &&& (255 : Int32)), oI a2, oI e1, oU, oU, oU, oU, oU, oU, oU, oU, oU, oU, oU, oU, oU, oU, oU] []) _
        refine XS.iconst X0.here hx rfl (hb hby at_56) ?_
        show oP p e below s₁ (mkF m 57 #[oI p0, oI p1, oI p2, oI p3, oI p4, oI (p0 &&& (255 : Int32)), oI a2, oI e1, oU, oU, oU, oU, oU, oU, oU, oU, oU, oU, oU, oU, oU, oU, oU] [(.int (1 : Int32))]) _
        refine XS.goto X0.here hx rfl (pc0 := 57) (pc' := 61) rfl (hb hby at_57) (by decide) (by decide) ?_
        exact k)⟩
  have re2 : e2 = (0 : Int32) ∨ e2 = (1 : Int32) := by rcases he2 with ⟨-, h⟩ | ⟨-, h⟩ <;> first | exact Or.inl h | exact Or.inr h
  have pre102 : ∀ t, oP p e below s₁ (mkF m 76 #[oI p0, oI p1, oI p2, oI p3, oI p4, oI (p0 &&& (255 : Int32)), oI a2, oI e1, oI e2, oI (p1 &&& (255 : Int32)), oU, oU, oU, oU, oU, oU, oU, oU, oU, oU, oU, oU, oU] [(.int (((p1.toUInt32 >>> ((18 : Int32) &&& 31).toUInt32).toInt32) &&& (1 : Int32)))]) t → oP p e below s₁ (entryFrame m #[(.int p0), (.int p1), (.int p2), (.int p3), (.int p4)] maxLocals) t := fun t k => pre101 t (by
    show oP p e below s₁ (mkF m 61 #[oI p0, oI p1, oI p2, oI p3, oI p4, oI (p0 &&& (255 : Int32)), oI a2, oI e1, oU, oU, oU, oU, oU, oU, oU, oU, oU, oU, oU, oU, oU, oU, oU] [(.int e2)]) _
    refine XS.istore X0.here hx rfl (hb hby at_61) rfl (l' := #[oI p0, oI p1, oI p2, oI p3, oI p4, oI (p0 &&& (255 : Int32)), oI a2, oI e1, oI e2, oU, oU, oU, oU, oU, oU, oU, oU, oU, oU, oU, oU, oU, oU]) rfl ?_
    show oP p e below s₁ (mkF m 63 #[oI p0, oI p1, oI p2, oI p3, oI p4, oI (p0 &&& (255 : Int32)), oI a2, oI e1, oI e2, oU, oU, oU, oU, oU, oU, oU, oU, oU, oU, oU, oU, oU, oU] []) _
    refine XS.iloadN X0.here hx rfl (hb hby at_63) rfl ?_
    show oP p e below s₁ (mkF m 64 #[oI p0, oI p1, oI p2, oI p3, oI p4, oI (p0 &&& (255 : Int32)), oI a2, oI e1, oI e2, oU, oU, oU, oU, oU, oU, oU, oU, oU, oU, oU, oU, oU, oU] [(.int p1)]) _
    refine XS.sipush X0.here hx rfl (hb hby at_64) ?_
    show oP p e below s₁ (mkF m 67 #[oI p0, oI p1, oI p2, oI p3, oI p4, oI (p0 &&& (255 : Int32)), oI a2, oI e1, oI e2, oU, oU, oU, oU, oU, oU, oU, oU, oU, oU, oU, oU, oU, oU] [(.int (255 : Int32)), (.int p1)]) _
    refine XS.iand X0.here hx rfl (hb hby at_67) rfl ?_
    show oP p e below s₁ (mkF m 68 #[oI p0, oI p1, oI p2, oI p3, oI p4, oI (p0 &&& (255 : Int32)), oI a2, oI e1, oI e2, oU, oU, oU, oU, oU, oU, oU, oU, oU, oU, oU, oU, oU, oU] [(.int (p1 &&& (255 : Int32)))]) _
    refine XS.istore X0.here hx rfl (hb hby at_68) rfl (l' := #[oI p0, oI p1, oI p2, oI p3, oI p4, oI (p0 &&& (255 : Int32)), oI a2, oI e1, oI e2, oI (p1 &&& (255 : Int32)), oU, oU, oU, oU, oU, oU, oU, oU, oU, oU, oU, oU, oU]) rfl ?_
    show oP p e below s₁ (mkF m 70 #[oI p0, oI p1, oI p2, oI p3, oI p4, oI (p0 &&& (255 : Int32)), oI a2, oI e1, oI e2, oI (p1 &&& (255 : Int32)), oU, oU, oU, oU, oU, oU, oU, oU, oU, oU, oU, oU, oU] []) _
    refine XS.iloadN X0.here hx rfl (hb hby at_70) rfl ?_
    show oP p e below s₁ (mkF m 71 #[oI p0, oI p1, oI p2, oI p3, oI p4, oI (p0 &&& (255 : Int32)), oI a2, oI e1, oI e2, oI (p1 &&& (255 : Int32)), oU, oU, oU, oU, oU, oU, oU, oU, oU, oU, oU, oU, oU] [(.int p1)]) _
    refine XS.bipush X0.here hx rfl (hb hby at_71) ?_
    show oP p e below s₁ (mkF m 73 #[oI p0, oI p1, oI p2, oI p3, oI p4, oI (p0 &&& (255 : Int32)), oI a2, oI e1, oI e2, oI (p1 &&& (255 : Int32)), oU, oU, oU, oU, oU, oU, oU, oU, oU, oU, oU, oU, oU] [(.int (18 : Int32)), (.int p1)]) _
    refine XS.iushr X0.here hx rfl (hb hby at_73) rfl ?_
    show oP p e below s₁ (mkF m 74 #[oI p0, oI p1, oI p2, oI p3, oI p4, oI (p0 &&& (255 : Int32)), oI a2, oI e1, oI e2, oI (p1 &&& (255 : Int32)), oU, oU, oU, oU, oU, oU, oU, oU, oU, oU, oU, oU, oU] [(.int ((p1.toUInt32 >>> ((18 : Int32) &&& 31).toUInt32).toInt32))]) _
    refine XS.iconst X0.here hx rfl (hb hby at_74) ?_
    show oP p e below s₁ (mkF m 75 #[oI p0, oI p1, oI p2, oI p3, oI p4, oI (p0 &&& (255 : Int32)), oI a2, oI e1, oI e2, oI (p1 &&& (255 : Int32)), oU, oU, oU, oU, oU, oU, oU, oU, oU, oU, oU, oU, oU] [(.int (1 : Int32)), (.int ((p1.toUInt32 >>> ((18 : Int32) &&& 31).toUInt32).toInt32))]) _
    refine XS.iand X0.here hx rfl (hb hby at_75) rfl ?_
    exact k)
  obtain ⟨b2, hb2, pre104⟩ : ∃ b2 : Int32, ((((((p1.toUInt32 >>> ((18 : Int32) &&& 31).toUInt32).toInt32) &&& (1 : Int32)) = (0 : Int32)) ∧ b2 = (((p1.toUInt32 >>> ((8 : Int32) &&& 31).toUInt32).toInt32) &&& (255 : Int32))) ∨ (¬ ((((p1.toUInt32 >>> ((18 : Int32) &&& 31).toUInt32).toInt32) &&& (1 : Int32)) = (0 : Int32)) ∧ b2 = (p1 &&& (255 : Int32)))) ∧ ∀ t, oP p e below s₁ (mkF m 92 #[oI p0, oI p1, oI p2, oI p3, oI p4, oI (p0 &&& (255 : Int32)), oI a2, oI e1, oI e2, oI (p1 &&& (255 : Int32)), oU, oU, oU, oU, oU, oU, oU, oU, oU, oU, oU, oU, oU] [(.int b2)]) t → oP p e below s₁ (entryFrame m #[(.int p0), (.int p1), (.int p2), (.int p3), (.int p4)] maxLocals) t := by
    by_cases hc103 : (((p1.toUInt32 >>> ((18 : Int32) &&& 31).toUInt32).toInt32) &&& (1 : Int32)) = (0 : Int32)
    · refine ⟨(((p1.toUInt32 >>> ((8 : Int32) &&& 31).toUInt32).toInt32) &&& (255 : Int32)), Or.inl ⟨hc103, rfl⟩, fun t k => pre102 t (by
        show oP p e below s₁ (mkF m 76 #[oI p0, oI p1, oI p2, oI p3, oI p4, oI (p0 &&& (255 : Int32)), oI a2, oI e1, oI e2, oI (p1 &&& (255 : Int32)), oU, oU, oU, oU, oU, oU, oU, oU, oU, oU, oU, oU, oU] [(.int (((p1.toUInt32 >>> ((18 : Int32) &&& 31).toUInt32).toInt32) &&& (1 : Int32)))]) _
        refine XS.ifYes X0.here hx rfl (pc0 := 76) (pc' := 84) rfl (hb hby at_76) rfl ((if0 _ _).trans (teq hc103).1) (by decide) (by decide) ?_
        show oP p e below s₁ (mkF m 84 #[oI p0, oI p1, oI p2, oI p3, oI p4, oI (p0 &&& (255 : Int32)), oI a2, oI e1, oI e2, oI (p1 &&& (255 : Int32)), oU, oU, oU, oU, oU, oU, oU, oU, oU, oU, oU, oU, oU] []) _
        refine XS.iloadN X0.here hx rfl (hb hby at_84) rfl ?_
        show oP p e below s₁ (mkF m 85 #[oI p0, oI p1, oI p2, oI p3, oI p4, oI (p0 &&& (255 : Int32)), oI a2, oI e1, oI e2, oI (p1 &&& (255 : Int32)), oU, oU, oU, oU, oU, oU, oU, oU, oU, oU, oU, oU, oU] [(.int p1)]) _
        refine XS.bipush X0.here hx rfl (hb hby at_85) ?_
        show oP p e below s₁ (mkF m 87 #[oI p0, oI p1, oI p2, oI p3, oI p4, oI (p0 &&& (255 : Int32)), oI a2, oI e1, oI e2, oI (p1 &&& (255 : Int32)), oU, oU, oU, oU, oU, oU, oU, oU, oU, oU, oU, oU, oU] [(.int (8 : Int32)), (.int p1)]) _
        refine XS.iushr X0.here hx rfl (hb hby at_87) rfl ?_
        show oP p e below s₁ (mkF m 88 #[oI p0, oI p1, oI p2, oI p3, oI p4, oI (p0 &&& (255 : Int32)), oI a2, oI e1, oI e2, oI (p1 &&& (255 : Int32)), oU, oU, oU, oU, oU, oU, oU, oU, oU, oU, oU, oU, oU] [(.int ((p1.toUInt32 >>> ((8 : Int32) &&& 31).toUInt32).toInt32))]) _
        refine XS.sipush X0.here hx rfl (hb hby at_88) ?_
        show oP p e below s₁ (mkF m 91 #[oI p0, oI p1, oI p2, oI p3, oI p4, oI (p0 &&& (255 : Int32)), oI a2, oI e1, oI e2, oI (p1 &&& (255 : Int32)), oU, oU, oU, oU, oU, oU, oU, oU, oU, oU, oU, oU, oU] [(.int (255 : Int32)), (.int ((p1.toUInt32 >>> ((8 : Int32) &&& 31).toUInt32).toInt32))]) _
        refine XS.iand X0.here hx rfl (hb hby at_91) rfl ?_
        exact k)⟩
    · refine ⟨(p1 &&& (255 : Int32)), Or.inr (⟨hc103, rfl⟩), fun t k => pre102 t (by
        show oP p e below s₁ (mkF m 76 #[oI p0, oI p1, oI p2, oI p3, oI p4, oI (p0 &&& (255 : Int32)), oI a2, oI e1, oI e2, oI (p1 &&& (255 : Int32)), oU, oU, oU, oU, oU, oU, oU, oU, oU, oU, oU, oU, oU] [(.int (((p1.toUInt32 >>> ((18 : Int32) &&& 31).toUInt32).toInt32) &&& (1 : Int32)))]) _
        refine XS.ifNo X0.here hx rfl (hb hby at_76) rfl ((if0 _ _).trans (feq hc103).1) ?_
        show oP p e below s₁ (mkF m 79 #[oI p0, oI p1, oI p2, oI p3, oI p4, oI (p0 &&& (255 : Int32)), oI a2, oI e1, oI e2, oI (p1 &&& (255 : Int32)), oU, oU, oU, oU, oU, oU, oU, oU, oU, oU, oU, oU, oU] []) _
        refine XS.iload X0.here hx rfl (hb hby at_79) rfl ?_
        show oP p e below s₁ (mkF m 81 #[oI p0, oI p1, oI p2, oI p3, oI p4, oI (p0 &&& (255 : Int32)), oI a2, oI e1, oI e2, oI (p1 &&& (255 : Int32)), oU, oU, oU, oU, oU, oU, oU, oU, oU, oU, oU, oU, oU] [(.int (p1 &&& (255 : Int32)))]) _
        refine XS.goto X0.here hx rfl (pc0 := 81) (pc' := 92) rfl (hb hby at_81) (by decide) (by decide) ?_
        exact k)⟩
  have rb2 : ¬ b2 < 0 ∧ ¬ (255 : Int32) < b2 := by rcases hb2 with ⟨-, h⟩ | ⟨-, h⟩ <;> exact own_char h
  have pre105 : ∀ t, oP p e below s₁ (mkF m 100 #[oI p0, oI p1, oI p2, oI p3, oI p4, oI (p0 &&& (255 : Int32)), oI a2, oI e1, oI e2, oI (p1 &&& (255 : Int32)), oI b2, oU, oU, oU, oU, oU, oU, oU, oU, oU, oU, oU, oU] [(.int (((p1.toUInt32 >>> ((16 : Int32) &&& 31).toUInt32).toInt32) &&& (1 : Int32)))]) t → oP p e below s₁ (entryFrame m #[(.int p0), (.int p1), (.int p2), (.int p3), (.int p4)] maxLocals) t := fun t k => pre104 t (by
    show oP p e below s₁ (mkF m 92 #[oI p0, oI p1, oI p2, oI p3, oI p4, oI (p0 &&& (255 : Int32)), oI a2, oI e1, oI e2, oI (p1 &&& (255 : Int32)), oU, oU, oU, oU, oU, oU, oU, oU, oU, oU, oU, oU, oU] [(.int b2)]) _
    refine XS.istore X0.here hx rfl (hb hby at_92) rfl (l' := #[oI p0, oI p1, oI p2, oI p3, oI p4, oI (p0 &&& (255 : Int32)), oI a2, oI e1, oI e2, oI (p1 &&& (255 : Int32)), oI b2, oU, oU, oU, oU, oU, oU, oU, oU, oU, oU, oU, oU]) rfl ?_
    show oP p e below s₁ (mkF m 94 #[oI p0, oI p1, oI p2, oI p3, oI p4, oI (p0 &&& (255 : Int32)), oI a2, oI e1, oI e2, oI (p1 &&& (255 : Int32)), oI b2, oU, oU, oU, oU, oU, oU, oU, oU, oU, oU, oU, oU] []) _
    refine XS.iloadN X0.here hx rfl (hb hby at_94) rfl ?_
    show oP p e below s₁ (mkF m 95 #[oI p0, oI p1, oI p2, oI p3, oI p4, oI (p0 &&& (255 : Int32)), oI a2, oI e1, oI e2, oI (p1 &&& (255 : Int32)), oI b2, oU, oU, oU, oU, oU, oU, oU, oU, oU, oU, oU, oU] [(.int p1)]) _
    refine XS.bipush X0.here hx rfl (hb hby at_95) ?_
    show oP p e below s₁ (mkF m 97 #[oI p0, oI p1, oI p2, oI p3, oI p4, oI (p0 &&& (255 : Int32)), oI a2, oI e1, oI e2, oI (p1 &&& (255 : Int32)), oI b2, oU, oU, oU, oU, oU, oU, oU, oU, oU, oU, oU, oU] [(.int (16 : Int32)), (.int p1)]) _
    refine XS.iushr X0.here hx rfl (hb hby at_97) rfl ?_
    show oP p e below s₁ (mkF m 98 #[oI p0, oI p1, oI p2, oI p3, oI p4, oI (p0 &&& (255 : Int32)), oI a2, oI e1, oI e2, oI (p1 &&& (255 : Int32)), oI b2, oU, oU, oU, oU, oU, oU, oU, oU, oU, oU, oU, oU] [(.int ((p1.toUInt32 >>> ((16 : Int32) &&& 31).toUInt32).toInt32))]) _
    refine XS.iconst X0.here hx rfl (hb hby at_98) ?_
    show oP p e below s₁ (mkF m 99 #[oI p0, oI p1, oI p2, oI p3, oI p4, oI (p0 &&& (255 : Int32)), oI a2, oI e1, oI e2, oI (p1 &&& (255 : Int32)), oI b2, oU, oU, oU, oU, oU, oU, oU, oU, oU, oU, oU, oU] [(.int (1 : Int32)), (.int ((p1.toUInt32 >>> ((16 : Int32) &&& 31).toUInt32).toInt32))]) _
    refine XS.iand X0.here hx rfl (hb hby at_99) rfl ?_
    exact k)
  obtain ⟨f1, hf1, pre107⟩ : ∃ f1 : Int32, ((((((p1.toUInt32 >>> ((16 : Int32) &&& 31).toUInt32).toInt32) &&& (1 : Int32)) = (0 : Int32)) ∧ f1 = (0 : Int32)) ∨ (¬ ((((p1.toUInt32 >>> ((16 : Int32) &&& 31).toUInt32).toInt32) &&& (1 : Int32)) = (0 : Int32)) ∧ f1 = (1 : Int32))) ∧ ∀ t, oP p e below s₁ (mkF m 108 #[oI p0, oI p1, oI p2, oI p3, oI p4, oI (p0 &&& (255 : Int32)), oI a2, oI e1, oI e2, oI (p1 &&& (255 : Int32)), oI b2, oU, oU, oU, oU, oU, oU, oU, oU, oU, oU, oU, oU] [(.int f1)]) t → oP p e below s₁ (entryFrame m #[(.int p0), (.int p1), (.int p2), (.int p3), (.int p4)] maxLocals) t := by
    by_cases hc106 : (((p1.toUInt32 >>> ((16 : Int32) &&& 31).toUInt32).toInt32) &&& (1 : Int32)) = (0 : Int32)
    · refine ⟨(0 : Int32), Or.inl ⟨hc106, rfl⟩, fun t k => pre105 t (by
        show oP p e below s₁ (mkF m 100 #[oI p0, oI p1, oI p2, oI p3, oI p4, oI (p0 &&& (255 : Int32)), oI a2, oI e1, oI e2, oI (p1 &&& (255 : Int32)), oI b2, oU, oU, oU, oU, oU, oU, oU, oU, oU, oU, oU, oU] [(.int (((p1.toUInt32 >>> ((16 : Int32) &&& 31).toUInt32).toInt32) &&& (1 : Int32)))]) _
        refine XS.ifYes X0.here hx rfl (pc0 := 100) (pc' := 107) rfl (hb hby at_100) rfl ((if0 _ _).trans (teq hc106).1) (by decide) (by decide) ?_
        show oP p e below s₁ (mkF m 107 #[oI p0, oI p1, oI p2, oI p3, oI p4, oI (p0 &&& (255 : Int32)), oI a2, oI e1, oI e2, oI (p1 &&& (255 : Int32)), oI b2, oU, oU, oU, oU, oU, oU, oU, oU, oU, oU, oU, oU] []) _
        refine XS.iconst X0.here hx rfl (hb hby at_107) ?_
        exact k)⟩
    · refine ⟨(1 : Int32), Or.inr (⟨hc106, rfl⟩), fun t k => pre105 t (by
        show oP p e below s₁ (mkF m 100 #[oI p0, oI p1, oI p2, oI p3, oI p4, oI (p0 &&& (255 : Int32)), oI a2, oI e1, oI e2, oI (p1 &&& (255 : Int32)), oI b2, oU, oU, oU, oU, oU, oU, oU, oU, oU, oU, oU, oU] [(.int (((p1.toUInt32 >>> ((16 : Int32) &&& 31).toUInt32).toInt32) &&& (1 : Int32)))]) _
        refine XS.ifNo X0.here hx rfl (hb hby at_100) rfl ((if0 _ _).trans (feq hc106).1) ?_
        show oP p e below s₁ (mkF m 103 #[oI p0, oI p1, oI p2, oI p3, oI p4, oI (p0 &&& (255 : Int32)), oI a2, oI e1, oI e2, oI (p1 &&& (255 : Int32)), oI b2, oU, oU, oU, oU, oU, oU, oU, oU, oU, oU, oU, oU] []) _
        refine XS.iconst X0.here hx rfl (hb hby at_103) ?_
        show oP p e below s₁ (mkF m 104 #[oI p0, oI p1, oI p2, oI p3, oI p4, oI (p0 &&& (255 : Int32)), oI a2, oI e1, oI e2, oI (p1 &&& (255 : Int32)), oI b2, oU, oU, oU, oU, oU, oU, oU, oU, oU, oU, oU, oU] [(.int (1 : Int32))]) _
        refine XS.goto X0.here hx rfl (pc0 := 104) (pc' := 108) rfl (hb hby at_104) (by decide) (by decide) ?_
        exact k)⟩
  have rf1 : f1 = (0 : Int32) ∨ f1 = (1 : Int32) := by rcases hf1 with ⟨-, h⟩ | ⟨-, h⟩ <;> first | exact Or.inl h | exact Or.inr h
  have pre108 : ∀ t, oP p e below s₁ (mkF m 116 #[oI p0, oI p1, oI p2, oI p3, oI p4, oI (p0 &&& (255 : Int32)), oI a2, oI e1, oI e2, oI (p1 &&& (255 : Int32)), oI b2, oI f1, oU, oU, oU, oU, oU, oU, oU, oU, oU, oU, oU] [(.int (((p1.toUInt32 >>> ((17 : Int32) &&& 31).toUInt32).toInt32) &&& (1 : Int32)))]) t → oP p e below s₁ (entryFrame m #[(.int p0), (.int p1), (.int p2), (.int p3), (.int p4)] maxLocals) t := fun t k => pre107 t (by
    show oP p e below s₁ (mkF m 108 #[oI p0, oI p1, oI p2, oI p3, oI p4, oI (p0 &&& (255 : Int32)), oI a2, oI e1, oI e2, oI (p1 &&& (255 : Int32)), oI b2, oU, oU, oU, oU, oU, oU, oU, oU, oU, oU, oU, oU] [(.int f1)]) _
    refine XS.istore X0.here hx rfl (hb hby at_108) rfl (l' := #[oI p0, oI p1, oI p2, oI p3, oI p4, oI (p0 &&& (255 : Int32)), oI a2, oI e1, oI e2, oI (p1 &&& (255 : Int32)), oI b2, oI f1, oU, oU, oU, oU, oU, oU, oU, oU, oU, oU, oU]) rfl ?_
    show oP p e below s₁ (mkF m 110 #[oI p0, oI p1, oI p2, oI p3, oI p4, oI (p0 &&& (255 : Int32)), oI a2, oI e1, oI e2, oI (p1 &&& (255 : Int32)), oI b2, oI f1, oU, oU, oU, oU, oU, oU, oU, oU, oU, oU, oU] []) _
    refine XS.iloadN X0.here hx rfl (hb hby at_110) rfl ?_
    show oP p e below s₁ (mkF m 111 #[oI p0, oI p1, oI p2, oI p3, oI p4, oI (p0 &&& (255 : Int32)), oI a2, oI e1, oI e2, oI (p1 &&& (255 : Int32)), oI b2, oI f1, oU, oU, oU, oU, oU, oU, oU, oU, oU, oU, oU] [(.int p1)]) _
    refine XS.bipush X0.here hx rfl (hb hby at_111) ?_
    show oP p e below s₁ (mkF m 113 #[oI p0, oI p1, oI p2, oI p3, oI p4, oI (p0 &&& (255 : Int32)), oI a2, oI e1, oI e2, oI (p1 &&& (255 : Int32)), oI b2, oI f1, oU, oU, oU, oU, oU, oU, oU, oU, oU, oU, oU] [(.int (17 : Int32)), (.int p1)]) _
    refine XS.iushr X0.here hx rfl (hb hby at_113) rfl ?_
    show oP p e below s₁ (mkF m 114 #[oI p0, oI p1, oI p2, oI p3, oI p4, oI (p0 &&& (255 : Int32)), oI a2, oI e1, oI e2, oI (p1 &&& (255 : Int32)), oI b2, oI f1, oU, oU, oU, oU, oU, oU, oU, oU, oU, oU, oU] [(.int ((p1.toUInt32 >>> ((17 : Int32) &&& 31).toUInt32).toInt32))]) _
    refine XS.iconst X0.here hx rfl (hb hby at_114) ?_
    show oP p e below s₁ (mkF m 115 #[oI p0, oI p1, oI p2, oI p3, oI p4, oI (p0 &&& (255 : Int32)), oI a2, oI e1, oI e2, oI (p1 &&& (255 : Int32)), oI b2, oI f1, oU, oU, oU, oU, oU, oU, oU, oU, oU, oU, oU] [(.int (1 : Int32)), (.int ((p1.toUInt32 >>> ((17 : Int32) &&& 31).toUInt32).toInt32))]) _
    refine XS.iand X0.here hx rfl (hb hby at_115) rfl ?_
    exact k)
  obtain ⟨f2, hf2, pre110⟩ : ∃ f2 : Int32, ((((((p1.toUInt32 >>> ((17 : Int32) &&& 31).toUInt32).toInt32) &&& (1 : Int32)) = (0 : Int32)) ∧ f2 = (0 : Int32)) ∨ (¬ ((((p1.toUInt32 >>> ((17 : Int32) &&& 31).toUInt32).toInt32) &&& (1 : Int32)) = (0 : Int32)) ∧ f2 = (1 : Int32))) ∧ ∀ t, oP p e below s₁ (mkF m 124 #[oI p0, oI p1, oI p2, oI p3, oI p4, oI (p0 &&& (255 : Int32)), oI a2, oI e1, oI e2, oI (p1 &&& (255 : Int32)), oI b2, oI f1, oU, oU, oU, oU, oU, oU, oU, oU, oU, oU, oU] [(.int f2)]) t → oP p e below s₁ (entryFrame m #[(.int p0), (.int p1), (.int p2), (.int p3), (.int p4)] maxLocals) t := by
    by_cases hc109 : (((p1.toUInt32 >>> ((17 : Int32) &&& 31).toUInt32).toInt32) &&& (1 : Int32)) = (0 : Int32)
    · refine ⟨(0 : Int32), Or.inl ⟨hc109, rfl⟩, fun t k => pre108 t (by
        show oP p e below s₁ (mkF m 116 #[oI p0, oI p1, oI p2, oI p3, oI p4, oI (p0 &&& (255 : Int32)), oI a2, oI e1, oI e2, oI (p1 &&& (255 : Int32)), oI b2, oI f1, oU, oU, oU, oU, oU, oU, oU, oU, oU, oU, oU] [(.int (((p1.toUInt32 >>> ((17 : Int32) &&& 31).toUInt32).toInt32) &&& (1 : Int32)))]) _
        refine XS.ifYes X0.here hx rfl (pc0 := 116) (pc' := 123) rfl (hb hby at_116) rfl ((if0 _ _).trans (teq hc109).1) (by decide) (by decide) ?_
        show oP p e below s₁ (mkF m 123 #[oI p0, oI p1, oI p2, oI p3, oI p4, oI (p0 &&& (255 : Int32)), oI a2, oI e1, oI e2, oI (p1 &&& (255 : Int32)), oI b2, oI f1, oU, oU, oU, oU, oU, oU, oU, oU, oU, oU, oU] []) _
        refine XS.iconst X0.here hx rfl (hb hby at_123) ?_
        exact k)⟩
    · refine ⟨(1 : Int32), Or.inr (⟨hc109, rfl⟩), fun t k => pre108 t (by
        show oP p e below s₁ (mkF m 116 #[oI p0, oI p1, oI p2, oI p3, oI p4, oI (p0 &&& (255 : Int32)), oI a2, oI e1, oI e2, oI (p1 &&& (255 : Int32)), oI b2, oI f1, oU, oU, oU, oU, oU, oU, oU, oU, oU, oU, oU] [(.int (((p1.toUInt32 >>> ((17 : Int32) &&& 31).toUInt32).toInt32) &&& (1 : Int32)))]) _
        refine XS.ifNo X0.here hx rfl (hb hby at_116) rfl ((if0 _ _).trans (feq hc109).1) ?_
        show oP p e below s₁ (mkF m 119 #[oI p0, oI p1, oI p2, oI p3, oI p4, oI (p0 &&& (255 : Int32)), oI a2, oI e1, oI e2, oI (p1 &&& (255 : Int32)), oI b2, oI f1, oU, oU, oU, oU, oU, oU, oU, oU, oU, oU, oU] []) _
        refine XS.iconst X0.here hx rfl (hb hby at_119) ?_
        show oP p e below s₁ (mkF m 120 #[oI p0, oI p1, oI p2, oI p3, oI p4, oI (p0 &&& (255 : Int32)), oI a2, oI e1, oI e2, oI (p1 &&& (255 : Int32)), oI b2, oI f1, oU, oU, oU, oU, oU, oU, oU, oU, oU, oU, oU] [(.int (1 : Int32))]) _
        refine XS.goto X0.here hx rfl (pc0 := 120) (pc' := 124) rfl (hb hby at_120) (by decide) (by decide) ?_
        exact k)⟩
  have rf2 : f2 = (0 : Int32) ∨ f2 = (1 : Int32) := by rcases hf2 with ⟨-, h⟩ | ⟨-, h⟩ <;> first | exact Or.inl h | exact Or.inr h
  have pre111 : ∀ t, oP p e below s₁ (mkF m 130 #[oI p0, oI p1, oI p2, oI p3, oI p4, oI (p0 &&& (255 : Int32)), oI a2, oI e1, oI e2, oI (p1 &&& (255 : Int32)), oI b2, oI f1, oI f2, oU, oU, oU, oU, oU, oU, oU, oU, oU, oU] [(.int (p4 &&& (1 : Int32)))]) t → oP p e below s₁ (entryFrame m #[(.int p0), (.int p1), (.int p2), (.int p3), (.int p4)] maxLocals) t := fun t k => pre110 t (by
    show oP p e below s₁ (mkF m 124 #[oI p0, oI p1, oI p2, oI p3, oI p4, oI (p0 &&& (255 : Int32)), oI a2, oI e1, oI e2, oI (p1 &&& (255 : Int32)), oI b2, oI f1, oU, oU, oU, oU, oU, oU, oU, oU, oU, oU, oU] [(.int f2)]) _
    refine XS.istore X0.here hx rfl (hb hby at_124) rfl (l' := #[oI p0, oI p1, oI p2, oI p3, oI p4, oI (p0 &&& (255 : Int32)), oI a2, oI e1, oI e2, oI (p1 &&& (255 : Int32)), oI b2, oI f1, oI f2, oU, oU, oU, oU, oU, oU, oU, oU, oU, oU]) rfl ?_
    show oP p e below s₁ (mkF m 126 #[oI p0, oI p1, oI p2, oI p3, oI p4, oI (p0 &&& (255 : Int32)), oI a2, oI e1, oI e2, oI (p1 &&& (255 : Int32)), oI b2, oI f1, oI f2, oU, oU, oU, oU, oU, oU, oU, oU, oU, oU] []) _
    refine XS.iload X0.here hx rfl (hb hby at_126) rfl ?_
    show oP p e below s₁ (mkF m 128 #[oI p0, oI p1, oI p2, oI p3, oI p4, oI (p0 &&& (255 : Int32)), oI a2, oI e1, oI e2, oI (p1 &&& (255 : Int32)), oI b2, oI f1, oI f2, oU, oU, oU, oU, oU, oU, oU, oU, oU, oU] [(.int p4)]) _
    refine XS.iconst X0.here hx rfl (hb hby at_128) ?_
    show oP p e below s₁ (mkF m 129 #[oI p0, oI p1, oI p2, oI p3, oI p4, oI (p0 &&& (255 : Int32)), oI a2, oI e1, oI e2, oI (p1 &&& (255 : Int32)), oI b2, oI f1, oI f2, oU, oU, oU, oU, oU, oU, oU, oU, oU, oU] [(.int (1 : Int32)), (.int p4)]) _
    refine XS.iand X0.here hx rfl (hb hby at_129) rfl ?_
    exact k)
  obtain ⟨uu, huu, pre113⟩ : ∃ uu : Int32, ((((p4 &&& (1 : Int32)) = (0 : Int32)) ∧ uu = p3) ∨ (¬ ((p4 &&& (1 : Int32)) = (0 : Int32)) ∧ uu = p2)) ∧ ∀ t, oP p e below s₁ (mkF m 138 #[oI p0, oI p1, oI p2, oI p3, oI p4, oI (p0 &&& (255 : Int32)), oI a2, oI e1, oI e2, oI (p1 &&& (255 : Int32)), oI b2, oI f1, oI f2, oU, oU, oU, oU, oU, oU, oU, oU, oU, oU] [(.int uu)]) t → oP p e below s₁ (entryFrame m #[(.int p0), (.int p1), (.int p2), (.int p3), (.int p4)] maxLocals) t := by
    by_cases hc112 : (p4 &&& (1 : Int32)) = (0 : Int32)
    · refine ⟨p3, Or.inl ⟨hc112, rfl⟩, fun t k => pre111 t (by
        show oP p e below s₁ (mkF m 130 #[oI p0, oI p1, oI p2, oI p3, oI p4, oI (p0 &&& (255 : Int32)), oI a2, oI e1, oI e2, oI (p1 &&& (255 : Int32)), oI b2, oI f1, oI f2, oU, oU, oU, oU, oU, oU, oU, oU, oU, oU] [(.int (p4 &&& (1 : Int32)))]) _
        refine XS.ifYes X0.here hx rfl (pc0 := 130) (pc' := 137) rfl (hb hby at_130) rfl ((if0 _ _).trans (teq hc112).1) (by decide) (by decide) ?_
        show oP p e below s₁ (mkF m 137 #[oI p0, oI p1, oI p2, oI p3, oI p4, oI (p0 &&& (255 : Int32)), oI a2, oI e1, oI e2, oI (p1 &&& (255 : Int32)), oI b2, oI f1, oI f2, oU, oU, oU, oU, oU, oU, oU, oU, oU, oU] []) _
        refine XS.iloadN X0.here hx rfl (hb hby at_137) rfl ?_
        exact k)⟩
    · refine ⟨p2, Or.inr (⟨hc112, rfl⟩), fun t k => pre111 t (by
        show oP p e below s₁ (mkF m 130 #[oI p0, oI p1, oI p2, oI p3, oI p4, oI (p0 &&& (255 : Int32)), oI a2, oI e1, oI e2, oI (p1 &&& (255 : Int32)), oI b2, oI f1, oI f2, oU, oU, oU, oU, oU, oU, oU, oU, oU, oU] [(.int (p4 &&& (1 : Int32)))]) _
        refine XS.ifNo X0.here hx rfl (hb hby at_130) rfl ((if0 _ _).trans (feq hc112).1) ?_
        show oP p e below s₁ (mkF m 133 #[oI p0, oI p1, oI p2, oI p3, oI p4, oI (p0 &&& (255 : Int32)), oI a2, oI e1, oI e2, oI (p1 &&& (255 : Int32)), oI b2, oI f1, oI f2, oU, oU, oU, oU, oU, oU, oU, oU, oU, oU] []) _
        refine XS.iloadN X0.here hx rfl (hb hby at_133) rfl ?_
        show oP p e below s₁ (mkF m 134 #[oI p0, oI p1, oI p2, oI p3, oI p4, oI (p0 &&& (255 : Int32)), oI a2, oI e1, oI e2, oI (p1 &&& (255 : Int32)), oI b2, oI f1, oI f2, oU, oU, oU, oU, oU, oU, oU, oU, oU, oU] [(.int p2)]) _
        refine XS.goto X0.here hx rfl (pc0 := 134) (pc' := 138) rfl (hb hby at_134) (by decide) (by decide) ?_
        exact k)⟩
  obtain ⟨_, _, ⟨T114, L114, k114, n114⟩, -, X114, hsi114, hge114, ⟨Lc114, hQ114, l114, y114, z114, hC114⟩, st114⟩ := callSS X0 hx (y := (⟨"com/example/narada/narada/client/MessageQueueEqualsPinLaw", "str", "(ZI)Ljava/lang/String;"⟩ : MethodName)) hown (mvT hZ (hw _ (List.mem_of_getElem? (i := 0) rfl))) (mvT hZ (hw _ (List.mem_of_getElem? (i := 1) rfl))) (mvT hZ (hw _ (List.mem_of_getElem? (i := 2) rfl))) (mvT hZ (hw _ (List.mem_of_getElem? (i := 3) rfl))) (by decide) (backOfSH (W := 0) (rm1 l Z a0 hw hS [] e1 (p0 &&& (255 : Int32)) h0 n0 O0 (own_char rfl)) hZ (hw _ (List.mem_of_getElem? (i := 3) rfl)) (hw _ (List.mem_of_getElem? (i := 2) rfl)) (by decide) (by decide) (own_EW hw) hC0.1) (g := (mkF m 144 #[oI p0, oI p1, oI p2, oI p3, oI p4, oI (p0 &&& (255 : Int32)), oI a2, oI e1, oI e2, oI (p1 &&& (255 : Int32)), oI b2, oI f1, oI f2, oI uu, oU, oU, oU, oU, oU, oU, oU, oU, oU] [(.int (p0 &&& (255 : Int32))), (.int e1)])) rfl (by rw [hml]; rfl) (argsL := [(.int e1), (.int (p0 &&& (255 : Int32)))]) (rest := []) (lenOf pd_8 rfl) rfl (by show 2 * 0 + _ ≤ _; exact Nat.le_of_eq rfl) (hb hby at_144) (fun _ _ => ⟨rfl, e0, (by decide : 0 + 2 ≤ _), (by decide : 0 + 5 ≤ _)⟩)
  dsimp only [Pt.U, Pt.locs, Pt.cells, Pt.slots] at X114 l114 y114 z114 st114 hQ114 hsi114 hge114 hC114
  subst l114 y114 z114
  obtain ⟨X114, hSi, hZ, hown⟩ := rebS hSi (by rw [e0]; exact hki0) X114 hsi114 hge114 hZ hown
  obtain ⟨b_114, t_114, kt_114, v114, N114q, K114q, po114_0, po114_1, po114_2, po114_3⟩ := hQ114
  subst v114
  have N114 := Fr.app N0 N114q
  have O114 := O0.keep K114q all0
  have Kc114 := (Keep.refl h0 []).trans K114q all0
  have hc116 := (hC0.trans hC114)
  obtain ⟨_, _, ⟨T115, L115, k115, n115⟩, -, X115, hsi115, hge115, ⟨Lc115, hQ115, l115, y115, z115, hC115⟩, st115⟩ := callSS X114 hx (y := (⟨"com/example/narada/narada/client/MessageQueueEqualsPinLaw", "str", "(ZI)Ljava/lang/String;"⟩ : MethodName)) hown (mvT hZ (hw _ (List.mem_of_getElem? (i := 0) rfl))) (mvT hZ (hw _ (List.mem_of_getElem? (i := 1) rfl))) (mvT hZ (hw _ (List.mem_of_getElem? (i := 2) rfl))) (mvT hZ (hw _ (List.mem_of_getElem? (i := 3) rfl))) (by decide) (backOfSH (W := 0) (rm1 l Z a0 hw hS [] e2 a2 T114.heap n0 O114 ra2) hZ (hw _ (List.mem_of_getElem? (i := 3) rfl)) (hw _ (List.mem_of_getElem? (i := 2) rfl)) (by decide) (by decide) (own_EW hw) hc116.1) (g := (mkF m 153 #[oI p0, oI p1, oI p2, oI p3, oI p4, oI (p0 &&& (255 : Int32)), oI a2, oI e1, oI e2, oI (p1 &&& (255 : Int32)), oI b2, oI f1, oI f2, oI uu, oR b_114, oU, oU, oU, oU, oU, oU, oU, oU] [(.int a2), (.int e2)])) rfl (by rw [hml]; rfl) (argsL := [(.int e2), (.int a2)]) (rest := []) (lenOf pd_8 rfl) rfl (by show 2 * 0 + _ ≤ _; exact Nat.le_of_eq rfl) (hb hby at_153) (fun _ _ => ⟨rfl, rfl, (by decide : 2 + 2 ≤ _), (by decide : 5 + 5 ≤ _)⟩)
  dsimp only [Pt.U, Pt.locs, Pt.cells, Pt.slots] at X115 l115 y115 z115 st115 hQ115 hsi115 hge115 hC115
  subst l115 y115 z115
  obtain ⟨X115, hSi, hZ, hown⟩ := rebS hSi (Nat.le_refl _) X115 hsi115 hge115 hZ hown
  obtain ⟨b_115, t_115, kt_115, v115, N115q, K115q, po115_0, po115_1, po115_2, po115_3⟩ := hQ115
  subst v115
  have N115 := Fr.app N114 N115q
  have O115 := O114.keep K115q all0
  have Kc115 := Kc114.trans K115q all0
  have hc118 := (hc116.trans hC115)
  obtain ⟨_, _, ⟨T117, L117, k117, n117⟩, -, X117, hsi117, hge117, ⟨Lc117, hQ117, l117, y117, z117, hC117⟩, st117⟩ := callSS X115 hx (y := (⟨"com/example/narada/narada/client/MessageQueueEqualsPinLaw", "str", "(ZI)Ljava/lang/String;"⟩ : MethodName)) hown (mvT hZ (hw _ (List.mem_of_getElem? (i := 0) rfl))) (mvT hZ (hw _ (List.mem_of_getElem? (i := 1) rfl))) (mvT hZ (hw _ (List.mem_of_getElem? (i := 2) rfl))) (mvT hZ (hw _ (List.mem_of_getElem? (i := 3) rfl))) (by decide) (backOfSH (W := 0) (rm1 l Z a0 hw hS [] f1 (p1 &&& (255 : Int32)) T115.heap n0 O115 (own_char rfl)) hZ (hw _ (List.mem_of_getElem? (i := 3) rfl)) (hw _ (List.mem_of_getElem? (i := 2) rfl)) (by decide) (by decide) (own_EW hw) hc118.1) (g := (mkF m 162 #[oI p0, oI p1, oI p2, oI p3, oI p4, oI (p0 &&& (255 : Int32)), oI a2, oI e1, oI e2, oI (p1 &&& (255 : Int32)), oI b2, oI f1, oI f2, oI uu, oR b_114, oR b_115, oU, oU, oU, oU, oU, oU, oU] [(.int (p1 &&& (255 : Int32))), (.int f1)])) rfl (by rw [hml]; rfl) (argsL := [(.int f1), (.int (p1 &&& (255 : Int32)))]) (rest := []) (lenOf pd_8 rfl) rfl (by show 2 * 0 + _ ≤ _; exact Nat.le_of_eq rfl) (hb hby at_162) (fun _ _ => ⟨rfl, rfl, (by decide : 4 + 2 ≤ _), (by decide : 10 + 5 ≤ _)⟩)
  dsimp only [Pt.U, Pt.locs, Pt.cells, Pt.slots] at X117 l117 y117 z117 st117 hQ117 hsi117 hge117 hC117
  subst l117 y117 z117
  obtain ⟨X117, hSi, hZ, hown⟩ := rebS hSi (Nat.le_refl _) X117 hsi117 hge117 hZ hown
  obtain ⟨b_117, t_117, kt_117, v117, N117q, K117q, po117_0, po117_1, po117_2, po117_3⟩ := hQ117
  subst v117
  have N117 := Fr.app N115 N117q
  have O117 := O115.keep K117q all0
  have Kc117 := Kc115.trans K117q all0
  have hc120 := (hc118.trans hC117)
  obtain ⟨_, _, ⟨T119, L119, k119, n119⟩, -, X119, hsi119, hge119, ⟨Lc119, hQ119, l119, y119, z119, hC119⟩, st119⟩ := callSS X117 hx (y := (⟨"com/example/narada/narada/client/MessageQueueEqualsPinLaw", "str", "(ZI)Ljava/lang/String;"⟩ : MethodName)) hown (mvT hZ (hw _ (List.mem_of_getElem? (i := 0) rfl))) (mvT hZ (hw _ (List.mem_of_getElem? (i := 1) rfl))) (mvT hZ (hw _ (List.mem_of_getElem? (i := 2) rfl))) (mvT hZ (hw _ (List.mem_of_getElem? (i := 3) rfl))) (by decide) (backOfSH (W := 0) (rm1 l Z a0 hw hS [] f2 b2 T117.heap n0 O117 rb2) hZ (hw _ (List.mem_of_getElem? (i := 3) rfl)) (hw _ (List.mem_of_getElem? (i := 2) rfl)) (by decide) (by decide) (own_EW hw) hc120.1) (g := (mkF m 171 #[oI p0, oI p1, oI p2, oI p3, oI p4, oI (p0 &&& (255 : Int32)), oI a2, oI e1, oI e2, oI (p1 &&& (255 : Int32)), oI b2, oI f1, oI f2, oI uu, oR b_114, oR b_115, oR b_117, oU, oU, oU, oU, oU, oU] [(.int b2), (.int f2)])) rfl (by rw [hml]; rfl) (argsL := [(.int f2), (.int b2)]) (rest := []) (lenOf pd_8 rfl) rfl (by show 2 * 0 + _ ≤ _; exact Nat.le_of_eq rfl) (hb hby at_171) (fun _ _ => ⟨rfl, rfl, (by decide : 6 + 2 ≤ _), (by decide : 15 + 5 ≤ _)⟩)
  dsimp only [Pt.U, Pt.locs, Pt.cells, Pt.slots] at X119 l119 y119 z119 st119 hQ119 hsi119 hge119 hC119
  subst l119 y119 z119
  obtain ⟨X119, hSi, hZ, hown⟩ := rebS hSi (Nat.le_refl _) X119 hsi119 hge119 hZ hown
  obtain ⟨b_119, t_119, kt_119, v119, N119q, K119q, po119_0, po119_1, po119_2, po119_3⟩ := hQ119
  subst v119
  have N119 := Fr.app N117 N119q
  have O119 := O117.keep K119q all0
  have Kc119 := Kc117.trans K119q all0
  obtain ⟨T121, h121, X121, e121, E121, A121, D121, -, st121⟩ := newO X119 hx hZ hown (hw _ (List.mem_of_getElem? (i := 30) rfl)) (hw _ (List.mem_of_getElem? (i := 31) rfl)) (hw _ (List.mem_of_getElem? (i := 32) rfl)) rfl (g := (mkF m 176 #[oI p0, oI p1, oI p2, oI p3, oI p4, oI (p0 &&& (255 : Int32)), oI a2, oI e1, oI e2, oI (p1 &&& (255 : Int32)), oI b2, oI f1, oI f2, oI uu, oR b_114, oR b_115, oR b_117, oR b_119, oU, oU, oU, oU, oU] [])) rfl (hb hby at_176) (by decide) (by decide)
  obtain ⟨b121, g121⟩ : ∃ z, z = T119.heap.size := ⟨_, rfl⟩
  have g_b121 : n0 ≤ b121 := Nat.le_trans (own_old_le O119) (Nat.le_of_eq g121.symm)
  have sz_b121 : h0.size ≤ b121 := Nat.le_trans Kc119.1 (Nat.le_of_eq g121.symm)
  have fx122 := (((po114_0.keep K115q).keep K117q).keep K119q)
  have ne_b_114_b121 : b_114 ≠ b121 := Nat.ne_of_lt (Nat.lt_of_lt_of_le fx122.lt (Nat.le_of_eq g121.symm))
  have fx123 := (((po114_3.keep K115q nin0).keep K117q nin0).keep K119q nin0)
  have ne_t_114_b121 : t_114 ≠ b121 := Nat.ne_of_lt (Nat.lt_of_lt_of_le fx123.lt (Nat.le_of_eq g121.symm))
  have fx124 := ((po115_0.keep K117q).keep K119q)
  have ne_b_115_b121 : b_115 ≠ b121 := Nat.ne_of_lt (Nat.lt_of_lt_of_le fx124.lt (Nat.le_of_eq g121.symm))
  have fx125 := ((po115_3.keep K117q nin0).keep K119q nin0)
  have ne_t_115_b121 : t_115 ≠ b121 := Nat.ne_of_lt (Nat.lt_of_lt_of_le fx125.lt (Nat.le_of_eq g121.symm))
  have fx126 := (po117_0.keep K119q)
  have ne_b_117_b121 : b_117 ≠ b121 := Nat.ne_of_lt (Nat.lt_of_lt_of_le fx126.lt (Nat.le_of_eq g121.symm))
  have fx127 := (po117_3.keep K119q nin0)
  have ne_t_117_b121 : t_117 ≠ b121 := Nat.ne_of_lt (Nat.lt_of_lt_of_le fx127.lt (Nat.le_of_eq g121.symm))
  have ne_b_119_b121 : b_119 ≠ b121 := Nat.ne_of_lt (Nat.lt_of_lt_of_le po119_0.lt (Nat.le_of_eq g121.symm))
  have ne_t_119_b121 : t_119 ≠ b121 := Nat.ne_of_lt (Nat.lt_of_lt_of_le po119_3.lt (Nat.le_of_eq g121.symm))
  rw [← g121] at A121 D121 st121
  have O121 := O119.ext E121
  have Kc121 := Kc119.ext E121
  have F_topic_b121 : Fld Z h121 b121 "com/example/narada/narada/client/MessageQueue" "topic" "Ljava/lang/String;" .null := D121 (Or.inr (hw _ (List.mem_of_getElem? (i := 46) rfl))) (ty := (.object "java/lang/String")) (by decide)
  have F_brokerName_b121 : Fld Z h121 b121 "com/example/narada/narada/client/MessageQueue" "brokerName" "Ljava/lang/String;" .null := D121 (Or.inr (hw _ (List.mem_of_getElem? (i := 49) rfl))) (ty := (.object "java/lang/String")) (by decide)
  have F_queueId_b121 : Fld Z h121 b121 "com/example/narada/narada/client/MessageQueue" "queueId" "I" (.int (0 : Int32)) := D121 (Or.inr (hw _ (List.mem_of_getElem? (i := 51) rfl))) (ty := .int) (by decide)
  have fx129 := (fx122.ext E121)
  have fx130 := (fx126.ext E121)
  have fx131 := (Nat.le_trans (Nat.le_refl _) E121.1)
  obtain ⟨_, _, ⟨T128, L128, k128, n128⟩, -, X128, hsi128, hge128, ⟨Lc128, hQ128, l128, y128, z128⟩, st128⟩ := X121.specialBackS hx (y := (⟨"com/example/narada/narada/client/MessageQueue", "<init>", "(Ljava/lang/String;Ljava/lang/String;I)V"⟩ : MethodName)) rfl hown (mvT hZ (hw _ (List.mem_of_getElem? (i := 33) rfl))) (mvT hZ (hw _ (List.mem_of_getElem? (i := 34) rfl))) (mvT hZ (hw _ (List.mem_of_getElem? (i := 35) rfl))) (by decide) (backOfS (W := 1) (rm7 l Z a0 hw hS [] b121 b_114 b_117 p2 h121 n0 O121 A121 F_topic_b121 F_brokerName_b121 F_queueId_b121 g_b121 fx129 fx130) hZ (hw _ (List.mem_of_getElem? (i := 35) rfl)) (hw _ (List.mem_of_getElem? (i := 32) rfl)) (by decide) (by decide)) (g := (mkF m 185 #[oI p0, oI p1, oI p2, oI p3, oI p4, oI (p0 &&& (255 : Int32)), oI a2, oI e1, oI e2, oI (p1 &&& (255 : Int32)), oI b2, oI f1, oI f2, oI uu, oR b_114, oR b_115, oR b_117, oR b_119, oU, oU, oU, oU, oU] [(.int p2), (.ref b_117), (.ref b_114), (.ref b121), (.ref b121)])) rfl (by rw [hml]; rfl) (Steps.refl _) (a := b121) (argsL := [(.ref b_114), (.ref b_117), (.int p2)]) (rest := [(.ref b121)]) (lenOf pd_9 rfl) rfl (by show 2 * 0 + _ ≤ _; exact Nat.le_of_eq rfl) (hb hby at_185) (fun _ _ => ⟨rfl, e121, (by decide : 9 + 4 ≤ _), (by decide : 23 + 68 ≤ _)⟩)
  dsimp only [Pt.U, Pt.locs, Pt.cells, Pt.slots] at X128 l128 y128 z128 st128 hQ128 hsi128 hge128
  subst l128 y128 z128
  obtain ⟨X128, hSi, hZ, hown⟩ := rebS hSi (by rw [e121]; exact fx131) X128 hsi128 hge128 hZ hown
  obtain ⟨v128, N128q, K128q, po128_0, po128_1, po128_2, po128_3⟩ := hQ128
  subst v128
  have N128 := Fr.app N119 N128q
  have O128 := O121.keep K128q (allS g_b121 all0)
  have Kc128 := Kc121.trans K128q (allS (Or.inr sz_b121) all0)
  obtain ⟨T132, h132, X132, e132, E132, A132, D132, -, st132⟩ := newO X128 hx hZ hown (hw _ (List.mem_of_getElem? (i := 30) rfl)) (hw _ (List.mem_of_getElem? (i := 31) rfl)) (hw _ (List.mem_of_getElem? (i := 32) rfl)) rfl (g := (mkF m 190 #[oI p0, oI p1, oI p2, oI p3, oI p4, oI (p0 &&& (255 : Int32)), oI a2, oI e1, oI e2, oI (p1 &&& (255 : Int32)), oI b2, oI f1, oI f2, oI uu, oR b_114, oR b_115, oR b_117, oR b_119, oR b121, oU, oU, oU, oU] [])) rfl (hb hby at_190) (by decide) (by decide)
  obtain ⟨b132, g132⟩ : ∃ z, z = T128.heap.size := ⟨_, rfl⟩
  have g_b132 : n0 ≤ b132 := Nat.le_trans (own_old_le O128) (Nat.le_of_eq g132.symm)
  have sz_b132 : h0.size ≤ b132 := Nat.le_trans Kc128.1 (Nat.le_of_eq g132.symm)
  have fx133 := (fx129.keep K128q)
  have ne_b_114_b132 : b_114 ≠ b132 := Nat.ne_of_lt (Nat.lt_of_lt_of_le fx133.lt (Nat.le_of_eq g132.symm))
  have fx134 := ((fx123.ext E121).keep K128q (ninS ne_t_114_b121 nin0))
  have ne_t_114_b132 : t_114 ≠ b132 := Nat.ne_of_lt (Nat.lt_of_lt_of_le fx134.lt (Nat.le_of_eq g132.symm))
  have fx135 := ((fx124.ext E121).keep K128q)
  have ne_b_115_b132 : b_115 ≠ b132 := Nat.ne_of_lt (Nat.lt_of_lt_of_le fx135.lt (Nat.le_of_eq g132.symm))
  have fx136 := ((fx125.ext E121).keep K128q (ninS ne_t_115_b121 nin0))
  have ne_t_115_b132 : t_115 ≠ b132 := Nat.ne_of_lt (Nat.lt_of_lt_of_le fx136.lt (Nat.le_of_eq g132.symm))
  have fx137 := (fx130.keep K128q)
  have ne_b_117_b132 : b_117 ≠ b132 := Nat.ne_of_lt (Nat.lt_of_lt_of_le fx137.lt (Nat.le_of_eq g132.symm))
  have fx138 := ((fx127.ext E121).keep K128q (ninS ne_t_117_b121 nin0))
  have ne_t_117_b132 : t_117 ≠ b132 := Nat.ne_of_lt (Nat.lt_of_lt_of_le fx138.lt (Nat.le_of_eq g132.symm))
  have fx139 := ((po119_0.ext E121).keep K128q)
  have ne_b_119_b132 : b_119 ≠ b132 := Nat.ne_of_lt (Nat.lt_of_lt_of_le fx139.lt (Nat.le_of_eq g132.symm))
  have fx140 := ((po119_3.ext E121).keep K128q (ninS ne_t_119_b121 nin0))
  have ne_t_119_b132 : t_119 ≠ b132 := Nat.ne_of_lt (Nat.lt_of_lt_of_le fx140.lt (Nat.le_of_eq g132.symm))
  have ne_b121_b132 : b121 ≠ b132 := Nat.ne_of_lt (Nat.lt_of_lt_of_le po128_0.lt (Nat.le_of_eq g132.symm))
  rw [← g132] at A132 D132 st132
  have O132 := O128.ext E132
  have Kc132 := Kc128.ext E132
  have F_topic_b132 : Fld Z h132 b132 "com/example/narada/narada/client/MessageQueue" "topic" "Ljava/lang/String;" .null := D132 (Or.inr (hw _ (List.mem_of_getElem? (i := 46) rfl))) (ty := (.object "java/lang/String")) (by decide)
  have F_brokerName_b132 : Fld Z h132 b132 "com/example/narada/narada/client/MessageQueue" "brokerName" "Ljava/lang/String;" .null := D132 (Or.inr (hw _ (List.mem_of_getElem? (i := 49) rfl))) (ty := (.object "java/lang/String")) (by decide)
  have F_queueId_b132 : Fld Z h132 b132 "com/example/narada/narada/client/MessageQueue" "queueId" "I" (.int (0 : Int32)) := D132 (Or.inr (hw _ (List.mem_of_getElem? (i := 51) rfl))) (ty := .int) (by decide)
  obtain ⟨lo141, X141, N141⟩ := own_hide X132 N128
  have fx143 := (fx135.ext E132)
  have fx144 := (fx139.ext E132)
  have fx145 := (Nat.le_trans (Nat.le_refl _) E132.1)
  obtain ⟨_, _, ⟨T142, L142, k142, n142⟩, -, X142, hsi142, hge142, ⟨Lc142, hQ142, l142, y142, z142⟩, st142⟩ := X141.specialBackS hx (y := (⟨"com/example/narada/narada/client/MessageQueue", "<init>", "(Ljava/lang/String;Ljava/lang/String;I)V"⟩ : MethodName)) rfl hown (mvT hZ (hw _ (List.mem_of_getElem? (i := 33) rfl))) (mvT hZ (hw _ (List.mem_of_getElem? (i := 34) rfl))) (mvT hZ (hw _ (List.mem_of_getElem? (i := 35) rfl))) (by decide) (backOfS (W := 1) (rm7 l Z a0 hw hS [] b132 b_115 b_119 uu h132 n0 O132 A132 F_topic_b132 F_brokerName_b132 F_queueId_b132 g_b132 fx143 fx144) hZ (hw _ (List.mem_of_getElem? (i := 35) rfl)) (hw _ (List.mem_of_getElem? (i := 32) rfl)) (by decide) (by decide)) (g := (mkF m 200 #[oI p0, oI p1, oI p2, oI p3, oI p4, oI (p0 &&& (255 : Int32)), oI a2, oI e1, oI e2, oI (p1 &&& (255 : Int32)), oI b2, oI f1, oI f2, oI uu, oR b_114, oR b_115, oR b_117, oR b_119, oR b121, oU, oU, oU, oU] [(.int uu), (.ref b_119), (.ref b_115), (.ref b132), (.ref b132)])) rfl (by rw [hml]; rfl) (Steps.refl _) (a := b132) (argsL := [(.ref b_115), (.ref b_119), (.int uu)]) (rest := [(.ref b132)]) (lenOf pd_9 rfl) rfl (by show 2 * 0 + _ ≤ _; exact Nat.le_of_eq rfl) (hb hby at_200) (fun _ _ => ⟨rfl, e132, (by decide : 14 + 4 ≤ _), (by decide : 94 + 68 ≤ _)⟩)
  dsimp only [Pt.U, Pt.locs, Pt.cells, Pt.slots] at X142 l142 y142 z142 st142 hQ142 hsi142 hge142
  subst l142 y142 z142
  obtain ⟨X142, hSi, hZ, hown⟩ := rebS hSi (by rw [e132]; exact fx145) X142 hsi142 hge142 hZ hown
  obtain ⟨v142, N142q, K142q, po142_0, po142_1, po142_2, po142_3⟩ := hQ142
  subst v142
  have N142 := Fr.app N141 N142q
  have O142 := O132.keep K142q (allS g_b132 all0)
  have Kc142 := Kc132.trans K142q (allS (Or.inr sz_b132) all0)
  have fx146 := ((fx133.ext E132).keep K142q)
  have fx147 := (((((((po114_1.keep K115q nin0).keep K117q nin0).keep K119q nin0).ext E121).keep K128q (ninS ne_b_114_b121 nin0)).ext E132).keep K142q (ninS ne_b_114_b132 nin0))
  have fx148 := (((((((po114_2.keep K115q nin0).keep K117q nin0).keep K119q nin0).ext E121).keep K128q (ninS ne_b_114_b121 nin0)).ext E132).keep K142q (ninS ne_b_114_b132 nin0))
  have fx149 := ((fx134.ext E132).keep K142q (ninS ne_t_114_b132 nin0))
  have fx150 := (fx143.keep K142q)
  have fx151 := ((((((po115_1.keep K117q nin0).keep K119q nin0).ext E121).keep K128q (ninS ne_b_115_b121 nin0)).ext E132).keep K142q (ninS ne_b_115_b132 nin0))
  have fx152 := ((((((po115_2.keep K117q nin0).keep K119q nin0).ext E121).keep K128q (ninS ne_b_115_b121 nin0)).ext E132).keep K142q (ninS ne_b_115_b132 nin0))
  have fx153 := ((fx136.ext E132).keep K142q (ninS ne_t_115_b132 nin0))
  have fx154 := ((fx137.ext E132).keep K142q)
  have fx155 := (((((po117_1.keep K119q nin0).ext E121).keep K128q (ninS ne_b_117_b121 nin0)).ext E132).keep K142q (ninS ne_b_117_b132 nin0))
  have fx156 := (((((po117_2.keep K119q nin0).ext E121).keep K128q (ninS ne_b_117_b121 nin0)).ext E132).keep K142q (ninS ne_b_117_b132 nin0))
  have fx157 := ((fx138.ext E132).keep K142q (ninS ne_t_117_b132 nin0))
  have fx158 := (fx144.keep K142q)
  have fx159 := ((((po119_1.ext E121).keep K128q (ninS ne_b_119_b121 nin0)).ext E132).keep K142q (ninS ne_b_119_b132 nin0))
  have fx160 := ((((po119_2.ext E121).keep K128q (ninS ne_b_119_b121 nin0)).ext E132).keep K142q (ninS ne_b_119_b132 nin0))
  have fx161 := ((fx140.ext E132).keep K142q (ninS ne_t_119_b132 nin0))
  have fx162 := ((po128_0.ext E132).keep K142q)
  have fx163 := ((po128_1.ext E132).keep K142q (ninS ne_b121_b132 nin0))
  have fx164 := ((po128_2.ext E132).keep K142q (ninS ne_b121_b132 nin0))
  have fx165 := ((po128_3.ext E132).keep K142q (ninS ne_b121_b132 nin0))
  obtain ⟨kd, hkd⟩ : ∃ z, z = (((p4.toUInt32 >>> ((1 : Int32) &&& 31).toUInt32).toInt32) &&& (3 : Int32)) := ⟨_, rfl⟩
  have rkd : kd = (0 : Int32) ∨ kd = (1 : Int32) ∨ kd = (2 : Int32) ∨ kd = (3 : Int32) := by rw [hkd]; exact rng_mask3 _
  have pre166 : ∀ t, oP p e below T142 (mkF m 213 #[oI p0, oI p1, oI p2, oI p3, oI p4, oI (p0 &&& (255 : Int32)), oI a2, oI e1, oI e2, oI (p1 &&& (255 : Int32)), oI b2, oI f1, oI f2, oI uu, oR b_114, oR b_115, oR b_117, oR b_119, oR b121, oR b132, oI kd, oU, oU] []) t → oP p e below s₁ (entryFrame m #[(.int p0), (.int p1), (.int p2), (.int p3), (.int p4)] maxLocals) t := fun t k => pre113 t (by
    show oP p e below s₁ (mkF m 138 #[oI p0, oI p1, oI p2, oI p3, oI p4, oI (p0 &&& (255 : Int32)), oI a2, oI e1, oI e2, oI (p1 &&& (255 : Int32)), oI b2, oI f1, oI f2, oU, oU, oU, oU, oU, oU, oU, oU, oU, oU] [(.int uu)]) _
    refine XS.istore X0.here hx rfl (hb hby at_138) rfl (l' := #[oI p0, oI p1, oI p2, oI p3, oI p4, oI (p0 &&& (255 : Int32)), oI a2, oI e1, oI e2, oI (p1 &&& (255 : Int32)), oI b2, oI f1, oI f2, oI uu, oU, oU, oU, oU, oU, oU, oU, oU, oU]) rfl ?_
    show oP p e below s₁ (mkF m 140 #[oI p0, oI p1, oI p2, oI p3, oI p4, oI (p0 &&& (255 : Int32)), oI a2, oI e1, oI e2, oI (p1 &&& (255 : Int32)), oI b2, oI f1, oI f2, oI uu, oU, oU, oU, oU, oU, oU, oU, oU, oU] []) _
    refine XS.iload X0.here hx rfl (hb hby at_140) rfl ?_
    show oP p e below s₁ (mkF m 142 #[oI p0, oI p1, oI p2, oI p3, oI p4, oI (p0 &&& (255 : Int32)), oI a2, oI e1, oI e2, oI (p1 &&& (255 : Int32)), oI b2, oI f1, oI f2, oI uu, oU, oU, oU, oU, oU, oU, oU, oU, oU] [(.int e1)]) _
    refine XS.iload X0.here hx rfl (hb hby at_142) rfl ?_
    show oP p e below s₁ (mkF m 144 #[oI p0, oI p1, oI p2, oI p3, oI p4, oI (p0 &&& (255 : Int32)), oI a2, oI e1, oI e2, oI (p1 &&& (255 : Int32)), oI b2, oI f1, oI f2, oI uu, oU, oU, oU, oU, oU, oU, oU, oU, oU] [(.int (p0 &&& (255 : Int32))), (.int e1)]) _
    refine st114.trans ?_
    show oP p e below T114 (mkF m 147 #[oI p0, oI p1, oI p2, oI p3, oI p4, oI (p0 &&& (255 : Int32)), oI a2, oI e1, oI e2, oI (p1 &&& (255 : Int32)), oI b2, oI f1, oI f2, oI uu, oU, oU, oU, oU, oU, oU, oU, oU, oU] [(.ref b_114)]) _
    refine XS.astore X114.here hx rfl (hb hby at_147) rfl rfl (l' := #[oI p0, oI p1, oI p2, oI p3, oI p4, oI (p0 &&& (255 : Int32)), oI a2, oI e1, oI e2, oI (p1 &&& (255 : Int32)), oI b2, oI f1, oI f2, oI uu, oR b_114, oU, oU, oU, oU, oU, oU, oU, oU]) rfl ?_
    show oP p e below T114 (mkF m 149 #[oI p0, oI p1, oI p2, oI p3, oI p4, oI (p0 &&& (255 : Int32)), oI a2, oI e1, oI e2, oI (p1 &&& (255 : Int32)), oI b2, oI f1, oI f2, oI uu, oR b_114, oU, oU, oU, oU, oU, oU, oU, oU] []) _
    refine XS.iload X114.here hx rfl (hb hby at_149) rfl ?_
    show oP p e below T114 (mkF m 151 #[oI p0, oI p1, oI p2, oI p3, oI p4, oI (p0 &&& (255 : Int32)), oI a2, oI e1, oI e2, oI (p1 &&& (255 : Int32)), oI b2, oI f1, oI f2, oI uu, oR b_114, oU, oU, oU, oU, oU, oU, oU, oU] [(.int e2)]) _
    refine XS.iload X114.here hx rfl (hb hby at_151) rfl ?_
    show oP p e below T114 (mkF m 153 #[oI p0, oI p1, oI p2, oI p3, oI p4, oI (p0 &&& (255 : Int32)), oI a2, oI e1, oI e2, oI (p1 &&& (255 : Int32)), oI b2, oI f1, oI f2, oI uu, oR b_114, oU, oU, oU, oU, oU, oU, oU, oU] [(.int a2), (.int e2)]) _
    refine st115.trans ?_
    show oP p e below T115 (mkF m 156 #[oI p0, oI p1, oI p2, oI p3, oI p4, oI (p0 &&& (255 : Int32)), oI a2, oI e1, oI e2, oI (p1 &&& (255 : Int32)), oI b2, oI f1, oI f2, oI uu, oR b_114, oU, oU, oU, oU, oU, oU, oU, oU] [(.ref b_115)]) _
    refine XS.astore X115.here hx rfl (hb hby at_156) rfl rfl (l' := #[oI p0, oI p1, oI p2, oI p3, oI p4, oI (p0 &&& (255 : Int32)), oI a2, oI e1, oI e2, oI (p1 &&& (255 : Int32)), oI b2, oI f1, oI f2, oI uu, oR b_114, oR b_115, oU, oU, oU, oU, oU, oU, oU]) rfl ?_
    show oP p e below T115 (mkF m 158 #[oI p0, oI p1, oI p2, oI p3, oI p4, oI (p0 &&& (255 : Int32)), oI a2, oI e1, oI e2, oI (p1 &&& (255 : Int32)), oI b2, oI f1, oI f2, oI uu, oR b_114, oR b_115, oU, oU, oU, oU, oU, oU, oU] []) _
    refine XS.iload X115.here hx rfl (hb hby at_158) rfl ?_
    show oP p e below T115 (mkF m 160 #[oI p0, oI p1, oI p2, oI p3, oI p4, oI (p0 &&& (255 : Int32)), oI a2, oI e1, oI e2, oI (p1 &&& (255 : Int32)), oI b2, oI f1, oI f2, oI uu, oR b_114, oR b_115, oU, oU, oU, oU, oU, oU, oU] [(.int f1)]) _
    refine XS.iload X115.here hx rfl (hb hby at_160) rfl ?_
    show oP p e below T115 (mkF m 162 #[oI p0, oI p1, oI p2, oI p3, oI p4, oI (p0 &&& (255 : Int32)), oI a2, oI e1, oI e2, oI (p1 &&& (255 : Int32)), oI b2, oI f1, oI f2, oI uu, oR b_114, oR b_115, oU, oU, oU, oU, oU, oU, oU] [(.int (p1 &&& (255 : Int32))), (.int f1)]) _
    refine st117.trans ?_
    show oP p e below T117 (mkF m 165 #[oI p0, oI p1, oI p2, oI p3, oI p4, oI (p0 &&& (255 : Int32)), oI a2, oI e1, oI e2, oI (p1 &&& (255 : Int32)), oI b2, oI f1, oI f2, oI uu, oR b_114, oR b_115, oU, oU, oU, oU, oU, oU, oU] [(.ref b_117)]) _
    refine XS.astore X117.here hx rfl (hb hby at_165) rfl rfl (l' := #[oI p0, oI p1, oI p2, oI p3, oI p4, oI (p0 &&& (255 : Int32)), oI a2, oI e1, oI e2, oI (p1 &&& (255 : Int32)), oI b2, oI f1, oI f2, oI uu, oR b_114, oR b_115, oR b_117, oU, oU, oU, oU, oU, oU]) rfl ?_
    show oP p e below T117 (mkF m 167 #[oI p0, oI p1, oI p2, oI p3, oI p4, oI (p0 &&& (255 : Int32)), oI a2, oI e1, oI e2, oI (p1 &&& (255 : Int32)), oI b2, oI f1, oI f2, oI uu, oR b_114, oR b_115, oR b_117, oU, oU, oU, oU, oU, oU] []) _
    refine XS.iload X117.here hx rfl (hb hby at_167) rfl ?_
    show oP p e below T117 (mkF m 169 #[oI p0, oI p1, oI p2, oI p3, oI p4, oI (p0 &&& (255 : Int32)), oI a2, oI e1, oI e2, oI (p1 &&& (255 : Int32)), oI b2, oI f1, oI f2, oI uu, oR b_114, oR b_115, oR b_117, oU, oU, oU, oU, oU, oU] [(.int f2)]) _
    refine XS.iload X117.here hx rfl (hb hby at_169) rfl ?_
    show oP p e below T117 (mkF m 171 #[oI p0, oI p1, oI p2, oI p3, oI p4, oI (p0 &&& (255 : Int32)), oI a2, oI e1, oI e2, oI (p1 &&& (255 : Int32)), oI b2, oI f1, oI f2, oI uu, oR b_114, oR b_115, oR b_117, oU, oU, oU, oU, oU, oU] [(.int b2), (.int f2)]) _
    refine st119.trans ?_
    show oP p e below T119 (mkF m 174 #[oI p0, oI p1, oI p2, oI p3, oI p4, oI (p0 &&& (255 : Int32)), oI a2, oI e1, oI e2, oI (p1 &&& (255 : Int32)), oI b2, oI f1, oI f2, oI uu, oR b_114, oR b_115, oR b_117, oU, oU, oU, oU, oU, oU] [(.ref b_119)]) _
    refine XS.astore X119.here hx rfl (hb hby at_174) rfl rfl (l' := #[oI p0, oI p1, oI p2, oI p3, oI p4, oI (p0 &&& (255 : Int32)), oI a2, oI e1, oI e2, oI (p1 &&& (255 : Int32)), oI b2, oI f1, oI f2, oI uu, oR b_114, oR b_115, oR b_117, oR b_119, oU, oU, oU, oU, oU]) rfl ?_
    show oP p e below T119 (mkF m 176 #[oI p0, oI p1, oI p2, oI p3, oI p4, oI (p0 &&& (255 : Int32)), oI a2, oI e1, oI e2, oI (p1 &&& (255 : Int32)), oI b2, oI f1, oI f2, oI uu, oR b_114, oR b_115, oR b_117, oR b_119, oU, oU, oU, oU, oU] []) _
    refine st121 _ ?_
    show oP p e below T121 (mkF m 179 #[oI p0, oI p1, oI p2, oI p3, oI p4, oI (p0 &&& (255 : Int32)), oI a2, oI e1, oI e2, oI (p1 &&& (255 : Int32)), oI b2, oI f1, oI f2, oI uu, oR b_114, oR b_115, oR b_117, oR b_119, oU, oU, oU, oU, oU] [(.ref b121)]) _
    refine XS.dup X121.here hx rfl (hb hby at_179) rfl rfl ?_
    show oP p e below T121 (mkF m 180 #[oI p0, oI p1, oI p2, oI p3, oI p4, oI (p0 &&& (255 : Int32)), oI a2, oI e1, oI e2, oI (p1 &&& (255 : Int32)), oI b2, oI f1, oI f2, oI uu, oR b_114, oR b_115, oR b_117, oR b_119, oU, oU, oU, oU, oU] [(.ref b121), (.ref b121)]) _
    refine XS.aload X121.here hx rfl (hb hby at_180) rfl rfl ?_
    show oP p e below T121 (mkF m 182 #[oI p0, oI p1, oI p2, oI p3, oI p4, oI (p0 &&& (255 : Int32)), oI a2, oI e1, oI e2, oI (p1 &&& (255 : Int32)), oI b2, oI f1, oI f2, oI uu, oR b_114, oR b_115, oR b_117, oR b_119, oU, oU, oU, oU, oU] [(.ref b_114), (.ref b121), (.ref b121)]) _
    refine XS.aload X121.here hx rfl (hb hby at_182) rfl rfl ?_
    show oP p e below T121 (mkF m 184 #[oI p0, oI p1, oI p2, oI p3, oI p4, oI (p0 &&& (255 : Int32)), oI a2, oI e1, oI e2, oI (p1 &&& (255 : Int32)), oI b2, oI f1, oI f2, oI uu, oR b_114, oR b_115, oR b_117, oR b_119, oU, oU, oU, oU, oU] [(.ref b_117), (.ref b_114), (.ref b121), (.ref b121)]) _
    refine XS.iloadN X121.here hx rfl (hb hby at_184) rfl ?_
    show oP p e below T121 (mkF m 185 #[oI p0, oI p1, oI p2, oI p3, oI p4, oI (p0 &&& (255 : Int32)), oI a2, oI e1, oI e2, oI (p1 &&& (255 : Int32)), oI b2, oI f1, oI f2, oI uu, oR b_114, oR b_115, oR b_117, oR b_119, oU, oU, oU, oU, oU] [(.int p2), (.ref b_117), (.ref b_114), (.ref b121), (.ref b121)]) _
    refine st128.trans ?_
    show oP p e below T128 (mkF m 188 #[oI p0, oI p1, oI p2, oI p3, oI p4, oI (p0 &&& (255 : Int32)), oI a2, oI e1, oI e2, oI (p1 &&& (255 : Int32)), oI b2, oI f1, oI f2, oI uu, oR b_114, oR b_115, oR b_117, oR b_119, oU, oU, oU, oU, oU] [(.ref b121)]) _
    refine XS.astore X128.here hx rfl (hb hby at_188) rfl rfl (l' := #[oI p0, oI p1, oI p2, oI p3, oI p4, oI (p0 &&& (255 : Int32)), oI a2, oI e1, oI e2, oI (p1 &&& (255 : Int32)), oI b2, oI f1, oI f2, oI uu, oR b_114, oR b_115, oR b_117, oR b_119, oR b121, oU, oU, oU, oU]) rfl ?_
    show oP p e below T128 (mkF m 190 #[oI p0, oI p1, oI p2, oI p3, oI p4, oI (p0 &&& (255 : Int32)), oI a2, oI e1, oI e2, oI (p1 &&& (255 : Int32)), oI b2, oI f1, oI f2, oI uu, oR b_114, oR b_115, oR b_117, oR b_119, oR b121, oU, oU, oU, oU] []) _
    refine st132 _ ?_
    show oP p e below T132 (mkF m 193 #[oI p0, oI p1, oI p2, oI p3, oI p4, oI (p0 &&& (255 : Int32)), oI a2, oI e1, oI e2, oI (p1 &&& (255 : Int32)), oI b2, oI f1, oI f2, oI uu, oR b_114, oR b_115, oR b_117, oR b_119, oR b121, oU, oU, oU, oU] [(.ref b132)]) _
    refine XS.dup X132.here hx rfl (hb hby at_193) rfl rfl ?_
    show oP p e below T132 (mkF m 194 #[oI p0, oI p1, oI p2, oI p3, oI p4, oI (p0 &&& (255 : Int32)), oI a2, oI e1, oI e2, oI (p1 &&& (255 : Int32)), oI b2, oI f1, oI f2, oI uu, oR b_114, oR b_115, oR b_117, oR b_119, oR b121, oU, oU, oU, oU] [(.ref b132), (.ref b132)]) _
    refine XS.aload X132.here hx rfl (hb hby at_194) rfl rfl ?_
    show oP p e below T132 (mkF m 196 #[oI p0, oI p1, oI p2, oI p3, oI p4, oI (p0 &&& (255 : Int32)), oI a2, oI e1, oI e2, oI (p1 &&& (255 : Int32)), oI b2, oI f1, oI f2, oI uu, oR b_114, oR b_115, oR b_117, oR b_119, oR b121, oU, oU, oU, oU] [(.ref b_115), (.ref b132), (.ref b132)]) _
    refine XS.aload X132.here hx rfl (hb hby at_196) rfl rfl ?_
    show oP p e below T132 (mkF m 198 #[oI p0, oI p1, oI p2, oI p3, oI p4, oI (p0 &&& (255 : Int32)), oI a2, oI e1, oI e2, oI (p1 &&& (255 : Int32)), oI b2, oI f1, oI f2, oI uu, oR b_114, oR b_115, oR b_117, oR b_119, oR b121, oU, oU, oU, oU] [(.ref b_119), (.ref b_115), (.ref b132), (.ref b132)]) _
    refine XS.iload X132.here hx rfl (hb hby at_198) rfl ?_
    show oP p e below T132 (mkF m 200 #[oI p0, oI p1, oI p2, oI p3, oI p4, oI (p0 &&& (255 : Int32)), oI a2, oI e1, oI e2, oI (p1 &&& (255 : Int32)), oI b2, oI f1, oI f2, oI uu, oR b_114, oR b_115, oR b_117, oR b_119, oR b121, oU, oU, oU, oU] [(.int uu), (.ref b_119), (.ref b_115), (.ref b132), (.ref b132)]) _
    refine st142.trans ?_
    show oP p e below T142 (mkF m 203 #[oI p0, oI p1, oI p2, oI p3, oI p4, oI (p0 &&& (255 : Int32)), oI a2, oI e1, oI e2, oI (p1 &&& (255 : Int32)), oI b2, oI f1, oI f2, oI uu, oR b_114, oR b_115, oR b_117, oR b_119, oR b121, oU, oU, oU, oU] [(.ref b132)]) _
    refine XS.astore X142.here hx rfl (hb hby at_203) rfl rfl (l' := #[oI p0, oI p1, oI p2, oI p3, oI p4, oI (p0 &&& (255 : Int32)), oI a2, oI e1, oI e2, oI (p1 &&& (255 : Int32)), oI b2, oI f1, oI f2, oI uu, oR b_114, oR b_115, oR b_117, oR b_119, oR b121, oR b132, oU, oU, oU]) rfl ?_
    show oP p e below T142 (mkF m 205 #[oI p0, oI p1, oI p2, oI p3, oI p4, oI (p0 &&& (255 : Int32)), oI a2, oI e1, oI e2, oI (p1 &&& (255 : Int32)), oI b2, oI f1, oI f2, oI uu, oR b_114, oR b_115, oR b_117, oR b_119, oR b121, oR b132, oU, oU, oU] []) _
    refine XS.iload X142.here hx rfl (hb hby at_205) rfl ?_
    show oP p e below T142 (mkF m 207 #[oI p0, oI p1, oI p2, oI p3, oI p4, oI (p0 &&& (255 : Int32)), oI a2, oI e1, oI e2, oI (p1 &&& (255 : Int32)), oI b2, oI f1, oI f2, oI uu, oR b_114, oR b_115, oR b_117, oR b_119, oR b121, oR b132, oU, oU, oU] [(.int p4)]) _
    refine XS.iconst X142.here hx rfl (hb hby at_207) ?_
    show oP p e below T142 (mkF m 208 #[oI p0, oI p1, oI p2, oI p3, oI p4, oI (p0 &&& (255 : Int32)), oI a2, oI e1, oI e2, oI (p1 &&& (255 : Int32)), oI b2, oI f1, oI f2, oI uu, oR b_114, oR b_115, oR b_117, oR b_119, oR b121, oR b132, oU, oU, oU] [(.int (1 : Int32)), (.int p4)]) _
    refine XS.iushr X142.here hx rfl (hb hby at_208) rfl ?_
    show oP p e below T142 (mkF m 209 #[oI p0, oI p1, oI p2, oI p3, oI p4, oI (p0 &&& (255 : Int32)), oI a2, oI e1, oI e2, oI (p1 &&& (255 : Int32)), oI b2, oI f1, oI f2, oI uu, oR b_114, oR b_115, oR b_117, oR b_119, oR b121, oR b132, oU, oU, oU] [(.int ((p4.toUInt32 >>> ((1 : Int32) &&& 31).toUInt32).toInt32))]) _
    refine XS.iconst X142.here hx rfl (hb hby at_209) ?_
    show oP p e below T142 (mkF m 210 #[oI p0, oI p1, oI p2, oI p3, oI p4, oI (p0 &&& (255 : Int32)), oI a2, oI e1, oI e2, oI (p1 &&& (255 : Int32)), oI b2, oI f1, oI f2, oI uu, oR b_114, oR b_115, oR b_117, oR b_119, oR b121, oR b132, oU, oU, oU] [(.int (3 : Int32)), (.int ((p4.toUInt32 >>> ((1 : Int32) &&& 31).toUInt32).toInt32))]) _
    refine XS.iand X142.here hx rfl (hb hby at_210) rfl ?_
    show oP p e below T142 (mkF m 211 #[oI p0, oI p1, oI p2, oI p3, oI p4, oI (p0 &&& (255 : Int32)), oI a2, oI e1, oI e2, oI (p1 &&& (255 : Int32)), oI b2, oI f1, oI f2, oI uu, oR b_114, oR b_115, oR b_117, oR b_119, oR b121, oR b132, oU, oU, oU] [(.int (((p4.toUInt32 >>> ((1 : Int32) &&& 31).toUInt32).toInt32) &&& (3 : Int32)))]) _
    rw [← hkd]
    show oP p e below T142 (mkF m 211 #[oI p0, oI p1, oI p2, oI p3, oI p4, oI (p0 &&& (255 : Int32)), oI a2, oI e1, oI e2, oI (p1 &&& (255 : Int32)), oI b2, oI f1, oI f2, oI uu, oR b_114, oR b_115, oR b_117, oR b_119, oR b121, oR b132, oU, oU, oU] [(.int kd)]) _
    refine XS.istore X142.here hx rfl (hb hby at_211) rfl (l' := #[oI p0, oI p1, oI p2, oI p3, oI p4, oI (p0 &&& (255 : Int32)), oI a2, oI e1, oI e2, oI (p1 &&& (255 : Int32)), oI b2, oI f1, oI f2, oI uu, oR b_114, oR b_115, oR b_117, oR b_119, oR b121, oR b132, oI kd, oU, oU]) rfl ?_
    exact k)
  rcases rkd with rfl | rfl | rfl | rfl
  · obtain ⟨_, _, ⟨T167, L167, k167, n167⟩, -, X167, ⟨Lc167, hQ167, l167, y167, z167⟩, st167⟩ := Jvm.LawKit.callS X142 hx (y := (⟨"com/example/narada/narada/client/MessageQueueEqualsPinLaw", "same", "(ZIZI)Z"⟩ : MethodName)) hown (mvT hZ (hw _ (List.mem_of_getElem? (i := 52) rfl))) (mvT hZ (hw _ (List.mem_of_getElem? (i := 53) rfl))) (mvT hZ (hw _ (List.mem_of_getElem? (i := 2) rfl))) (mvT hZ (hw _ (List.mem_of_getElem? (i := 54) rfl))) (by decide) (backOf (W := 0) (rm9 l Z a0 hw hS [] e1 (p0 &&& (255 : Int32)) e2 a2 T142.heap n0 O142) hZ (hw _ (List.mem_of_getElem? (i := 54) rfl)) (hw _ (List.mem_of_getElem? (i := 2) rfl)) (by decide) (by decide)) (g := (mkF m 230 #[oI p0, oI p1, oI p2, oI p3, oI p4, oI (p0 &&& (255 : Int32)), oI a2, oI e1, oI e2, oI (p1 &&& (255 : Int32)), oI b2, oI f1, oI f2, oI uu, oR b_114, oR b_115, oR b_117, oR b_119, oR b121, oR b132, oI (0 : Int32), oR b132, oU] [(.int a2), (.int e2), (.int (p0 &&& (255 : Int32))), (.int e1)])) rfl (by rw [hml]; rfl) (argsL := [(.int e1), (.int (p0 &&& (255 : Int32))), (.int e2), (.int a2)]) (rest := []) (lenOf pd_10 rfl) rfl (by show 2 * 0 + _ ≤ _; exact Nat.le_of_eq rfl) (hb hby at_230) (fun _ _ => ⟨rfl, rfl, (by decide : 18 + 0 ≤ _), (by decide : 162 + 0 ≤ _)⟩)
    dsimp only [Pt.U, Pt.locs, Pt.cells, Pt.slots] at X167 l167 y167 z167 st167 hQ167
    subst l167 y167 z167
    obtain ⟨v167, N167q, h167q⟩ := hQ167
    subst v167
    have N167 := Fr.app N142 N167q
    have pre168 : ∀ t, oP p e below T167 (mkF m 233 #[oI p0, oI p1, oI p2, oI p3, oI p4, oI (p0 &&& (255 : Int32)), oI a2, oI e1, oI e2, oI (p1 &&& (255 : Int32)), oI b2, oI f1, oI f2, oI uu, oR b_114, oR b_115, oR b_117, oR b_119, oR b121, oR b132, oI (0 : Int32), oR b132, oU] [(.int (fn9 Z e1 (p0 &&& (255 : Int32)) e2 a2))]) t → oP p e below s₁ (entryFrame m #[(.int p0), (.int p1), (.int p2), (.int p3), (.int p4)] maxLocals) t := fun t k => pre166 t (by
      show oP p e below T142 (mkF m 213 #[oI p0, oI p1, oI p2, oI p3, oI p4, oI (p0 &&& (255 : Int32)), oI a2, oI e1, oI e2, oI (p1 &&& (255 : Int32)), oI b2, oI f1, oI f2, oI uu, oR b_114, oR b_115, oR b_117, oR b_119, oR b121, oR b132, oI (0 : Int32), oU, oU] []) _
      refine XS.iload X142.here hx rfl (hb hby at_213) rfl ?_
      show oP p e below T142 (mkF m 215 #[oI p0, oI p1, oI p2, oI p3, oI p4, oI (p0 &&& (255 : Int32)), oI a2, oI e1, oI e2, oI (p1 &&& (255 : Int32)), oI b2, oI f1, oI f2, oI uu, oR b_114, oR b_115, oR b_117, oR b_119, oR b121, oR b132, oI (0 : Int32), oU, oU] [(.int (0 : Int32))]) _
      refine XS.ifNo X142.here hx rfl (hb hby at_215) rfl ((if0 _ _).trans (teq (by decide : (0 : Int32) = (0 : Int32))).2) ?_
      show oP p e below T142 (mkF m 218 #[oI p0, oI p1, oI p2, oI p3, oI p4, oI (p0 &&& (255 : Int32)), oI a2, oI e1, oI e2, oI (p1 &&& (255 : Int32)), oI b2, oI f1, oI f2, oI uu, oR b_114, oR b_115, oR b_117, oR b_119, oR b121, oR b132, oI (0 : Int32), oU, oU] []) _
      refine XS.aload X142.here hx rfl (hb hby at_218) rfl rfl ?_
      show oP p e below T142 (mkF m 220 #[oI p0, oI p1, oI p2, oI p3, oI p4, oI (p0 &&& (255 : Int32)), oI a2, oI e1, oI e2, oI (p1 &&& (255 : Int32)), oI b2, oI f1, oI f2, oI uu, oR b_114, oR b_115, oR b_117, oR b_119, oR b121, oR b132, oI (0 : Int32), oU, oU] [(.ref b132)]) _
      refine XS.astore X142.here hx rfl (hb hby at_220) rfl rfl (l' := #[oI p0, oI p1, oI p2, oI p3, oI p4, oI (p0 &&& (255 : Int32)), oI a2, oI e1, oI e2, oI (p1 &&& (255 : Int32)), oI b2, oI f1, oI f2, oI uu, oR b_114, oR b_115, oR b_117, oR b_119, oR b121, oR b132, oI (0 : Int32), oR b132, oU]) rfl ?_
      show oP p e below T142 (mkF m 222 #[oI p0, oI p1, oI p2, oI p3, oI p4, oI (p0 &&& (255 : Int32)), oI a2, oI e1, oI e2, oI (p1 &&& (255 : Int32)), oI b2, oI f1, oI f2, oI uu, oR b_114, oR b_115, oR b_117, oR b_119, oR b121, oR b132, oI (0 : Int32), oR b132, oU] []) _
      refine XS.iload X142.here hx rfl (hb hby at_222) rfl ?_
      show oP p e below T142 (mkF m 224 #[oI p0, oI p1, oI p2, oI p3, oI p4, oI (p0 &&& (255 : Int32)), oI a2, oI e1, oI e2, oI (p1 &&& (255 : Int32)), oI b2, oI f1, oI f2, oI uu, oR b_114, oR b_115, oR b_117, oR b_119, oR b121, oR b132, oI (0 : Int32), oR b132, oU] [(.int e1)]) _
      refine XS.iload X142.here hx rfl (hb hby at_224) rfl ?_
      show oP p e below T142 (mkF m 226 #[oI p0, oI p1, oI p2, oI p3, oI p4, oI (p0 &&& (255 : Int32)), oI a2, oI e1, oI e2, oI (p1 &&& (255 : Int32)), oI b2, oI f1, oI f2, oI uu, oR b_114, oR b_115, oR b_117, oR b_119, oR b121, oR b132, oI (0 : Int32), oR b132, oU] [(.int (p0 &&& (255 : Int32))), (.int e1)]) _
      refine XS.iload X142.here hx rfl (hb hby at_226) rfl ?_
      show oP p e below T142 (mkF m 228 #[oI p0, oI p1, oI p2, oI p3, oI p4, oI (p0 &&& (255 : Int32)), oI a2, oI e1, oI e2, oI (p1 &&& (255 : Int32)), oI b2, oI f1, oI f2, oI uu, oR b_114, oR b_115, oR b_117, oR b_119, oR b121, oR b132, oI (0 : Int32), oR b132, oU] [(.int e2), (.int (p0 &&& (255 : Int32))), (.int e1)]) _
      refine XS.iload X142.here hx rfl (hb hby at_228) rfl ?_
      show oP p e below T142 (mkF m 230 #[oI p0, oI p1, oI p2, oI p3, oI p4, oI (p0 &&& (255 : Int32)), oI a2, oI e1, oI e2, oI (p1 &&& (255 : Int32)), oI b2, oI f1, oI f2, oI uu, oR b_114, oR b_115, oR b_117, oR b_119, oR b121, oR b132, oI (0 : Int32), oR b132, oU] [(.int a2), (.int e2), (.int (p0 &&& (255 : Int32))), (.int e1)]) _
      refine st167 _ ?_
      exact k)
    by_cases hc169 : (fn9 Z e1 (p0 &&& (255 : Int32)) e2 a2) = (0 : Int32)
    · obtain ⟨cq170, kq170, q170a, q170b, q170c⟩ := isOf hZ h167q fx162
      obtain ⟨_, _, ⟨T170, L170, k170, n170⟩, -, X170, ⟨Lc170, hQ170, l170, y170, z170⟩, st170⟩ := X167.virtualBack hx (y := (⟨"com/example/narada/narada/client/MessageQueue", "equals", "(Ljava/lang/Object;)Z"⟩ : MethodName)) (z := (⟨"com/example/narada/narada/client/MessageQueue", "equals", "(Ljava/lang/Object;)Z"⟩ : MethodName)) hown (mvT hZ (hw _ (List.mem_of_getElem? (i := 55) rfl))) (mvT hZ (hw _ (List.mem_of_getElem? (i := 56) rfl))) (notFace_of_selects (args := #[]) (mvT hZ (hw _ (List.mem_of_getElem? (i := 58) rfl)))) (mvT hZ (hw _ (List.mem_of_getElem? (i := 58) rfl))) (mvT hZ (hw _ (List.mem_of_getElem? (i := 57) rfl))) (by decide) (backOf (W := 0) (rm10q l Z a0 hw hS [] b121 b132 b_114 b_115 b_117 b_119 p2 uu t_114 kt_114 (strcs e1 (p0 &&& (255 : Int32))) t_115 kt_115 (strcs e2 a2) t_117 kt_117 (strcs f1 (p1 &&& (255 : Int32))) t_119 kt_119 (strcs f2 b2) T142.heap n0 O142 po142_0 fx163 po142_1 fx164 po142_2 fx165 po142_3 fx146 fx147 fx148 fx149 (strcs_hp (own_char rfl)) (strcs_len _ _) fx150 fx151 fx152 fx153 (strcs_hp ra2) (strcs_len _ _) fx154 fx155 fx156 fx157 (strcs_hp (own_char rfl)) (strcs_len _ _) fx158 fx159 fx160 fx161 (strcs_hp rb2) (strcs_len _ _)) hZ (hw _ (List.mem_of_getElem? (i := 59) rfl)) (hw _ (List.mem_of_getElem? (i := 32) rfl)) (by decide) (by decide)) q170a q170c (g := (mkF m 310 #[oI p0, oI p1, oI p2, oI p3, oI p4, oI (p0 &&& (255 : Int32)), oI a2, oI e1, oI e2, oI (p1 &&& (255 : Int32)), oI b2, oI f1, oI f2, oI uu, oR b_114, oR b_115, oR b_117, oR b_119, oR b121, oR b132, oI (0 : Int32), oR b132, oI (0 : Int32)] [(.ref b132), (.ref b121)])) rfl (by rw [hml]; rfl) (Steps.refl _) (argsL := [(.ref b132)]) (rest := []) (lenOf pd_7 rfl) rfl (by show 2 * 0 + _ ≤ _; exact Nat.le_of_eq rfl) (hb hby at_310) (fun _ _ => ⟨rfl, h167q, (by decide : 18 + 0 ≤ _), (by decide : 162 + 0 ≤ _)⟩)
      dsimp only [Pt.U, Pt.locs, Pt.cells, Pt.slots] at X170 l170 y170 z170 st170 hQ170
      subst l170 y170 z170
      obtain ⟨v170, N170q, K170q⟩ := hQ170
      subst v170
      have N170 := Fr.app N167 N170q
      have O170 := O142.keep K170q all0
      have Kc170 := Kc142.trans K170q all0
      have pre171 : ∀ t, oP p e below T170 (mkF m 315 #[oI p0, oI p1, oI p2, oI p3, oI p4, oI (p0 &&& (255 : Int32)), oI a2, oI e1, oI e2, oI (p1 &&& (255 : Int32)), oI b2, oI f1, oI f2, oI uu, oR b_114, oR b_115, oR b_117, oR b_119, oR b121, oR b132, oI (0 : Int32), oR b132, oI (0 : Int32)] [(.int (0 : Int32)), (.int (fn10q Z b121 b132 b_114 b_115 b_117 b_119 p2 uu t_114 kt_114 (strcs e1 (p0 &&& (255 : Int32))) t_115 kt_115 (strcs e2 a2) t_117 kt_117 (strcs f1 (p1 &&& (255 : Int32))) t_119 kt_119 (strcs f2 b2)))]) t → oP p e below s₁ (entryFrame m #[(.int p0), (.int p1), (.int p2), (.int p3), (.int p4)] maxLocals) t := fun t k => pre168 t (by
        show oP p e below T167 (mkF m 233 #[oI p0, oI p1, oI p2, oI p3, oI p4, oI (p0 &&& (255 : Int32)), oI a2, oI e1, oI e2, oI (p1 &&& (255 : Int32)), oI b2, oI f1, oI f2, oI uu, oR b_114, oR b_115, oR b_117, oR b_119, oR b121, oR b132, oI (0 : Int32), oR b132, oU] [(.int (fn9 Z e1 (p0 &&& (255 : Int32)) e2 a2))]) _
        refine XS.ifYes X167.here hx rfl (pc0 := 233) (pc' := 260) rfl (hb hby at_233) rfl ((if0 _ _).trans (teq hc169).1) (by decide) (by decide) ?_
        show oP p e below T167 (mkF m 260 #[oI p0, oI p1, oI p2, oI p3, oI p4, oI (p0 &&& (255 : Int32)), oI a2, oI e1, oI e2, oI (p1 &&& (255 : Int32)), oI b2, oI f1, oI f2, oI uu, oR b_114, oR b_115, oR b_117, oR b_119, oR b121, oR b132, oI (0 : Int32), oR b132, oU] []) _
        refine XS.iconst X167.here hx rfl (hb hby at_260) ?_
        show oP p e below T167 (mkF m 261 #[oI p0, oI p1, oI p2, oI p3, oI p4, oI (p0 &&& (255 : Int32)), oI a2, oI e1, oI e2, oI (p1 &&& (255 : Int32)), oI b2, oI f1, oI f2, oI uu, oR b_114, oR b_115, oR b_117, oR b_119, oR b121, oR b132, oI (0 : Int32), oR b132, oU] [(.int (0 : Int32))]) _
        refine XS.istore X167.here hx rfl (hb hby at_261) rfl (l' := #[oI p0, oI p1, oI p2, oI p3, oI p4, oI (p0 &&& (255 : Int32)), oI a2, oI e1, oI e2, oI (p1 &&& (255 : Int32)), oI b2, oI f1, oI f2, oI uu, oR b_114, oR b_115, oR b_117, oR b_119, oR b121, oR b132, oI (0 : Int32), oR b132, oI (0 : Int32)]) rfl ?_
        show oP p e below T167 (mkF m 263 #[oI p0, oI p1, oI p2, oI p3, oI p4, oI (p0 &&& (255 : Int32)), oI a2, oI e1, oI e2, oI (p1 &&& (255 : Int32)), oI b2, oI f1, oI f2, oI uu, oR b_114, oR b_115, oR b_117, oR b_119, oR b121, oR b132, oI (0 : Int32), oR b132, oI (0 : Int32)] []) _
        refine XS.goto X167.here hx rfl (pc0 := 263) (pc' := 306) rfl (hb hby at_263) (by decide) (by decide) ?_
        show oP p e below T167 (mkF m 306 #[oI p0, oI p1, oI p2, oI p3, oI p4, oI (p0 &&& (255 : Int32)), oI a2, oI e1, oI e2, oI (p1 &&& (255 : Int32)), oI b2, oI f1, oI f2, oI uu, oR b_114, oR b_115, oR b_117, oR b_119, oR b121, oR b132, oI (0 : Int32), oR b132, oI (0 : Int32)] []) _
        refine XS.aload X167.here hx rfl (hb hby at_306) rfl rfl ?_
        show oP p e below T167 (mkF m 308 #[oI p0, oI p1, oI p2, oI p3, oI p4, oI (p0 &&& (255 : Int32)), oI a2, oI e1, oI e2, oI (p1 &&& (255 : Int32)), oI b2, oI f1, oI f2, oI uu, oR b_114, oR b_115, oR b_117, oR b_119, oR b121, oR b132, oI (0 : Int32), oR b132, oI (0 : Int32)] [(.ref b121)]) _
        refine XS.aload X167.here hx rfl (hb hby at_308) rfl rfl ?_
        show oP p e below T167 (mkF m 310 #[oI p0, oI p1, oI p2, oI p3, oI p4, oI (p0 &&& (255 : Int32)), oI a2, oI e1, oI e2, oI (p1 &&& (255 : Int32)), oI b2, oI f1, oI f2, oI uu, oR b_114, oR b_115, oR b_117, oR b_119, oR b121, oR b132, oI (0 : Int32), oR b132, oI (0 : Int32)] [(.ref b132), (.ref b121)]) _
        refine st170.trans ?_
        show oP p e below T170 (mkF m 313 #[oI p0, oI p1, oI p2, oI p3, oI p4, oI (p0 &&& (255 : Int32)), oI a2, oI e1, oI e2, oI (p1 &&& (255 : Int32)), oI b2, oI f1, oI f2, oI uu, oR b_114, oR b_115, oR b_117, oR b_119, oR b121, oR b132, oI (0 : Int32), oR b132, oI (0 : Int32)] [(.int (fn10q Z b121 b132 b_114 b_115 b_117 b_119 p2 uu t_114 kt_114 (strcs e1 (p0 &&& (255 : Int32))) t_115 kt_115 (strcs e2 a2) t_117 kt_117 (strcs f1 (p1 &&& (255 : Int32))) t_119 kt_119 (strcs f2 b2)))]) _
        refine XS.iload X170.here hx rfl (hb hby at_313) rfl ?_
        exact k)
      by_cases hc172 : (fn10q Z b121 b132 b_114 b_115 b_117 b_119 p2 uu t_114 kt_114 (strcs e1 (p0 &&& (255 : Int32))) t_115 kt_115 (strcs e2 a2) t_117 kt_117 (strcs f1 (p1 &&& (255 : Int32))) t_119 kt_119 (strcs f2 b2)) = (0 : Int32)
      · have fx173 := (fx162.keep K170q)
        have fx175 := (fx163.keep K170q nin0)
        have fx176 := (fx164.keep K170q nin0)
        have fx177 := (fx165.keep K170q nin0)
        have fx178 := (fx148.keep K170q nin0)
        have fx179 := (fx149.keep K170q nin0)
        have fx180 := (fx156.keep K170q nin0)
        have fx181 := (fx157.keep K170q nin0)
        have fx182 := (fx146.keep K170q)
        have fx183 := (fx147.keep K170q nin0)
        have fx184 := (fx154.keep K170q)
        have fx185 := (fx155.keep K170q nin0)
        obtain ⟨cq174, kq174, q174a, q174b, q174c⟩ := isOf hZ rfl fx173
        obtain ⟨_, _, ⟨T174, L174, k174, n174⟩, -, X174, ⟨Lc174, hQ174, l174, y174, z174⟩, st174⟩ := X170.virtualBack hx (y := (⟨"com/example/narada/narada/client/MessageQueue", "equals", "(Ljava/lang/Object;)Z"⟩ : MethodName)) (z := (⟨"com/example/narada/narada/client/MessageQueue", "equals", "(Ljava/lang/Object;)Z"⟩ : MethodName)) hown (mvT hZ (hw _ (List.mem_of_getElem? (i := 55) rfl))) (mvT hZ (hw _ (List.mem_of_getElem? (i := 56) rfl))) (notFace_of_selects (args := #[]) (mvT hZ (hw _ (List.mem_of_getElem? (i := 58) rfl)))) (mvT hZ (hw _ (List.mem_of_getElem? (i := 58) rfl))) (mvT hZ (hw _ (List.mem_of_getElem? (i := 57) rfl))) (by decide) (backOf (W := 0) (rm10q l Z a0 hw hS [] b121 b121 b_114 b_114 b_117 b_117 p2 p2 t_114 kt_114 (strcs e1 (p0 &&& (255 : Int32))) t_114 kt_114 (strcs e1 (p0 &&& (255 : Int32))) t_117 kt_117 (strcs f1 (p1 &&& (255 : Int32))) t_117 kt_117 (strcs f1 (p1 &&& (255 : Int32))) T170.heap n0 O170 fx173 fx175 fx175 fx176 fx176 fx177 fx177 fx182 fx183 fx178 fx179 (strcs_hp (own_char rfl)) (strcs_len _ _) fx182 fx183 fx178 fx179 (strcs_hp (own_char rfl)) (strcs_len _ _) fx184 fx185 fx180 fx181 (strcs_hp (own_char rfl)) (strcs_len _ _) fx184 fx185 fx180 fx181 (strcs_hp (own_char rfl)) (strcs_len _ _)) hZ (hw _ (List.mem_of_getElem? (i := 59) rfl)) (hw _ (List.mem_of_getElem? (i := 32) rfl)) (by decide) (by decide)) q174a q174c (g := (mkF m 322 #[oI p0, oI p1, oI p2, oI p3, oI p4, oI (p0 &&& (255 : Int32)), oI a2, oI e1, oI e2, oI (p1 &&& (255 : Int32)), oI b2, oI f1, oI f2, oI uu, oR b_114, oR b_115, oR b_117, oR b_119, oR b121, oR b132, oI (0 : Int32), oR b132, oI (0 : Int32)] [(.ref b121), (.ref b121)])) rfl (by rw [hml]; rfl) (Steps.refl _) (argsL := [(.ref b121)]) (rest := []) (lenOf pd_7 rfl) rfl (by show 2 * 0 + _ ≤ _; exact Nat.le_of_eq rfl) (hb hby at_322) (fun _ _ => ⟨rfl, rfl, (by decide : 18 + 0 ≤ _), (by decide : 162 + 0 ≤ _)⟩)
        dsimp only [Pt.U, Pt.locs, Pt.cells, Pt.slots] at X174 l174 y174 z174 st174 hQ174
        subst l174 y174 z174
        obtain ⟨v174, N174q, K174q⟩ := hQ174
        have w174 : (fn10q Z b121 b121 b_114 b_114 b_117 b_117 p2 p2 t_114 kt_114 (strcs e1 (p0 &&& (255 : Int32))) t_114 kt_114 (strcs e1 (p0 &&& (255 : Int32))) t_117 kt_117 (strcs f1 (p1 &&& (255 : Int32))) t_117 kt_117 (strcs f1 (p1 &&& (255 : Int32)))) = (1 : Int32) := by unfold fn10q; rw [if_pos (rfl : p2 = p2), if_neg (by simp : ¬ ((if (strcs e1 (p0 &&& (255 : Int32))) = (strcs e1 (p0 &&& (255 : Int32))) then (1 : Int32) else (0 : Int32)) = (0 : Int32))), if_neg (by simp : ¬ ((if (strcs f1 (p1 &&& (255 : Int32))) = (strcs f1 (p1 &&& (255 : Int32))) then (1 : Int32) else (0 : Int32)) = (0 : Int32)))]; all_goals first | rfl | decide
        rw [w174] at v174
        subst v174
        have N174 := Fr.app N170 N174q
        have O174 := O170.keep K174q all0
        have Kc174 := Kc170.trans K174q all0
        have fx186 := (Nat.le_trans (Nat.le_trans (Nat.le_refl _) K170q.1) K174q.1)
        obtain ⟨fs, hr, hrun, hended, hRW⟩ := Stand.leaveW X174 hSi fx186 (v := some (.int (1 : Int32))) (fun h => by rw [Bd.returns] at h; cases h)
        refine ⟨_, _, pre171 _ ?_, hrun, hended, _, _, rfl, ?_, own_rwmono hRW (by decide) (by decide)⟩
        · show oP p e below T170 (mkF m 315 #[oI p0, oI p1, oI p2, oI p3, oI p4, oI (p0 &&& (255 : Int32)), oI a2, oI e1, oI e2, oI (p1 &&& (255 : Int32)), oI b2, oI f1, oI f2, oI uu, oR b_114, oR b_115, oR b_117, oR b_119, oR b121, oR b132, oI (0 : Int32), oR b132, oI (0 : Int32)] [(.int (0 : Int32)), (.int (fn10q Z b121 b132 b_114 b_115 b_117 b_119 p2 uu t_114 kt_114 (strcs e1 (p0 &&& (255 : Int32))) t_115 kt_115 (strcs e2 a2) t_117 kt_117 (strcs f1 (p1 &&& (255 : Int32))) t_119 kt_119 (strcs f2 b2)))]) _
          refine XS.icmpNo X170.here hx rfl (hb hby at_315) rfl (teq hc172).2 ?_
          show oP p e below T170 (mkF m 318 #[oI p0, oI p1, oI p2, oI p3, oI p4, oI (p0 &&& (255 : Int32)), oI a2, oI e1, oI e2, oI (p1 &&& (255 : Int32)), oI b2, oI f1, oI f2, oI uu, oR b_114, oR b_115, oR b_117, oR b_119, oR b121, oR b132, oI (0 : Int32), oR b132, oI (0 : Int32)] []) _
          refine XS.aload X170.here hx rfl (hb hby at_318) rfl rfl ?_
          show oP p e below T170 (mkF m 320 #[oI p0, oI p1, oI p2, oI p3, oI p4, oI (p0 &&& (255 : Int32)), oI a2, oI e1, oI e2, oI (p1 &&& (255 : Int32)), oI b2, oI f1, oI f2, oI uu, oR b_114, oR b_115, oR b_117, oR b_119, oR b121, oR b132, oI (0 : Int32), oR b132, oI (0 : Int32)] [(.ref b121)]) _
          refine XS.aload X170.here hx rfl (hb hby at_320) rfl rfl ?_
          show oP p e below T170 (mkF m 322 #[oI p0, oI p1, oI p2, oI p3, oI p4, oI (p0 &&& (255 : Int32)), oI a2, oI e1, oI e2, oI (p1 &&& (255 : Int32)), oI b2, oI f1, oI f2, oI uu, oR b_114, oR b_115, oR b_117, oR b_119, oR b121, oR b132, oI (0 : Int32), oR b132, oI (0 : Int32)] [(.ref b121), (.ref b121)]) _
          refine st174.trans ?_
          show oP p e below T174 (mkF m 325 #[oI p0, oI p1, oI p2, oI p3, oI p4, oI (p0 &&& (255 : Int32)), oI a2, oI e1, oI e2, oI (p1 &&& (255 : Int32)), oI b2, oI f1, oI f2, oI uu, oR b_114, oR b_115, oR b_117, oR b_119, oR b121, oR b132, oI (0 : Int32), oR b132, oI (0 : Int32)] [(.int (1 : Int32))]) _
          refine XS.ifNo X174.here hx rfl (hb hby at_325) rfl ((if0 _ _).trans (feq (by decide : ¬ ((1 : Int32) = (0 : Int32)))).1) ?_
          show oP p e below T174 (mkF m 328 #[oI p0, oI p1, oI p2, oI p3, oI p4, oI (p0 &&& (255 : Int32)), oI a2, oI e1, oI e2, oI (p1 &&& (255 : Int32)), oI b2, oI f1, oI f2, oI uu, oR b_114, oR b_115, oR b_117, oR b_119, oR b121, oR b132, oI (0 : Int32), oR b132, oI (0 : Int32)] []) _
          refine XS.iconst X174.here hx rfl (hb hby at_328) ?_
          show oP p e below T174 (mkF m 329 #[oI p0, oI p1, oI p2, oI p3, oI p4, oI (p0 &&& (255 : Int32)), oI a2, oI e1, oI e2, oI (p1 &&& (255 : Int32)), oI b2, oI f1, oI f2, oI uu, oR b_114, oR b_115, oR b_117, oR b_119, oR b121, oR b132, oI (0 : Int32), oR b132, oI (0 : Int32)] [(.int (1 : Int32))]) _
          refine XS.goto X174.here hx rfl (pc0 := 329) (pc' := 333) rfl (hb hby at_329) (by decide) (by decide) ?_
          show oP p e below T174 (mkF m 333 #[oI p0, oI p1, oI p2, oI p3, oI p4, oI (p0 &&& (255 : Int32)), oI a2, oI e1, oI e2, oI (p1 &&& (255 : Int32)), oI b2, oI f1, oI f2, oI uu, oR b_114, oR b_115, oR b_117, oR b_119, oR b121, oR b132, oI (0 : Int32), oR b132, oI (0 : Int32)] [(.int (1 : Int32))]) _
          exact retN X174 hx (t := .boolean) Bd.returns (by simp) (hb hby at_333) hr
        · show (some (.int (1 : Int32)) : Option Value) = some (.int (1 : Int32)) ∧ Fr n0 _ ∧ Keep h0 T174.heap []
          exact ⟨rfl, N174, Kc174⟩
      · exfalso
        exact ab187 hS p0 p1 p2 a2 e1 e2 b2 f1 f2 uu re1 re2 rf1 rf2 hc169 hc172
    · obtain ⟨_, _, ⟨T188, L188, k188, n188⟩, -, X188, ⟨Lc188, hQ188, l188, y188, z188⟩, st188⟩ := Jvm.LawKit.callS X167 hx (y := (⟨"com/example/narada/narada/client/MessageQueueEqualsPinLaw", "same", "(ZIZI)Z"⟩ : MethodName)) hown (mvT hZ (hw _ (List.mem_of_getElem? (i := 52) rfl))) (mvT hZ (hw _ (List.mem_of_getElem? (i := 53) rfl))) (mvT hZ (hw _ (List.mem_of_getElem? (i := 2) rfl))) (mvT hZ (hw _ (List.mem_of_getElem? (i := 54) rfl))) (by decide) (backOf (W := 0) (rm9 l Z a0 hw hS [] f1 (p1 &&& (255 : Int32)) f2 b2 T142.heap n0 O142) hZ (hw _ (List.mem_of_getElem? (i := 54) rfl)) (hw _ (List.mem_of_getElem? (i := 2) rfl)) (by decide) (by decide)) (g := (mkF m 244 #[oI p0, oI p1, oI p2, oI p3, oI p4, oI (p0 &&& (255 : Int32)), oI a2, oI e1, oI e2, oI (p1 &&& (255 : Int32)), oI b2, oI f1, oI f2, oI uu, oR b_114, oR b_115, oR b_117, oR b_119, oR b121, oR b132, oI (0 : Int32), oR b132, oU] [(.int b2), (.int f2), (.int (p1 &&& (255 : Int32))), (.int f1)])) rfl (by rw [hml]; rfl) (argsL := [(.int f1), (.int (p1 &&& (255 : Int32))), (.int f2), (.int b2)]) (rest := []) (lenOf pd_10 rfl) rfl (by show 2 * 0 + _ ≤ _; exact Nat.le_of_eq rfl) (hb hby at_244) (fun _ _ => ⟨rfl, h167q, (by decide : 18 + 0 ≤ _), (by decide : 162 + 0 ≤ _)⟩)
      dsimp only [Pt.U, Pt.locs, Pt.cells, Pt.slots] at X188 l188 y188 z188 st188 hQ188
      subst l188 y188 z188
      obtain ⟨v188, N188q, h188q⟩ := hQ188
      subst v188
      have N188 := Fr.app N167 N188q
      have pre189 : ∀ t, oP p e below T188 (mkF m 247 #[oI p0, oI p1, oI p2, oI p3, oI p4, oI (p0 &&& (255 : Int32)), oI a2, oI e1, oI e2, oI (p1 &&& (255 : Int32)), oI b2, oI f1, oI f2, oI uu, oR b_114, oR b_115, oR b_117, oR b_119, oR b121, oR b132, oI (0 : Int32), oR b132, oU] [(.int (fn9 Z f1 (p1 &&& (255 : Int32)) f2 b2))]) t → oP p e below s₁ (entryFrame m #[(.int p0), (.int p1), (.int p2), (.int p3), (.int p4)] maxLocals) t := fun t k => pre168 t (by
        show oP p e below T167 (mkF m 233 #[oI p0, oI p1, oI p2, oI p3, oI p4, oI (p0 &&& (255 : Int32)), oI a2, oI e1, oI e2, oI (p1 &&& (255 : Int32)), oI b2, oI f1, oI f2, oI uu, oR b_114, oR b_115, oR b_117, oR b_119, oR b121, oR b132, oI (0 : Int32), oR b132, oU] [(.int (fn9 Z e1 (p0 &&& (255 : Int32)) e2 a2))]) _
        refine XS.ifNo X167.here hx rfl (hb hby at_233) rfl ((if0 _ _).trans (feq hc169).1) ?_
        show oP p e below T167 (mkF m 236 #[oI p0, oI p1, oI p2, oI p3, oI p4, oI (p0 &&& (255 : Int32)), oI a2, oI e1, oI e2, oI (p1 &&& (255 : Int32)), oI b2, oI f1, oI f2, oI uu, oR b_114, oR b_115, oR b_117, oR b_119, oR b121, oR b132, oI (0 : Int32), oR b132, oU] []) _
        refine XS.iload X167.here hx rfl (hb hby at_236) rfl ?_
        show oP p e below T167 (mkF m 238 #[oI p0, oI p1, oI p2, oI p3, oI p4, oI (p0 &&& (255 : Int32)), oI a2, oI e1, oI e2, oI (p1 &&& (255 : Int32)), oI b2, oI f1, oI f2, oI uu, oR b_114, oR b_115, oR b_117, oR b_119, oR b121, oR b132, oI (0 : Int32), oR b132, oU] [(.int f1)]) _
        refine XS.iload X167.here hx rfl (hb hby at_238) rfl ?_
        show oP p e below T167 (mkF m 240 #[oI p0, oI p1, oI p2, oI p3, oI p4, oI (p0 &&& (255 : Int32)), oI a2, oI e1, oI e2, oI (p1 &&& (255 : Int32)), oI b2, oI f1, oI f2, oI uu, oR b_114, oR b_115, oR b_117, oR b_119, oR b121, oR b132, oI (0 : Int32), oR b132, oU] [(.int (p1 &&& (255 : Int32))), (.int f1)]) _
        refine XS.iload X167.here hx rfl (hb hby at_240) rfl ?_
        show oP p e below T167 (mkF m 242 #[oI p0, oI p1, oI p2, oI p3, oI p4, oI (p0 &&& (255 : Int32)), oI a2, oI e1, oI e2, oI (p1 &&& (255 : Int32)), oI b2, oI f1, oI f2, oI uu, oR b_114, oR b_115, oR b_117, oR b_119, oR b121, oR b132, oI (0 : Int32), oR b132, oU] [(.int f2), (.int (p1 &&& (255 : Int32))), (.int f1)]) _
        refine XS.iload X167.here hx rfl (hb hby at_242) rfl ?_
        show oP p e below T167 (mkF m 244 #[oI p0, oI p1, oI p2, oI p3, oI p4, oI (p0 &&& (255 : Int32)), oI a2, oI e1, oI e2, oI (p1 &&& (255 : Int32)), oI b2, oI f1, oI f2, oI uu, oR b_114, oR b_115, oR b_117, oR b_119, oR b121, oR b132, oI (0 : Int32), oR b132, oU] [(.int b2), (.int f2), (.int (p1 &&& (255 : Int32))), (.int f1)]) _
        refine st188 _ ?_
        exact k)
      by_cases hc190 : (fn9 Z f1 (p1 &&& (255 : Int32)) f2 b2) = (0 : Int32)
      · obtain ⟨cq191, kq191, q191a, q191b, q191c⟩ := isOf hZ h188q fx162
        obtain ⟨_, _, ⟨T191, L191, k191, n191⟩, -, X191, ⟨Lc191, hQ191, l191, y191, z191⟩, st191⟩ := X188.virtualBack hx (y := (⟨"com/example/narada/narada/client/MessageQueue", "equals", "(Ljava/lang/Object;)Z"⟩ : MethodName)) (z := (⟨"com/example/narada/narada/client/MessageQueue", "equals", "(Ljava/lang/Object;)Z"⟩ : MethodName)) hown (mvT hZ (hw _ (List.mem_of_getElem? (i := 55) rfl))) (mvT hZ (hw _ (List.mem_of_getElem? (i := 56) rfl))) (notFace_of_selects (args := #[]) (mvT hZ (hw _ (List.mem_of_getElem? (i := 58) rfl)))) (mvT hZ (hw _ (List.mem_of_getElem? (i := 58) rfl))) (mvT hZ (hw _ (List.mem_of_getElem? (i := 57) rfl))) (by decide) (backOf (W := 0) (rm10q l Z a0 hw hS [] b121 b132 b_114 b_115 b_117 b_119 p2 uu t_114 kt_114 (strcs e1 (p0 &&& (255 : Int32))) t_115 kt_115 (strcs e2 a2) t_117 kt_117 (strcs f1 (p1 &&& (255 : Int32))) t_119 kt_119 (strcs f2 b2) T142.heap n0 O142 po142_0 fx163 po142_1 fx164 po142_2 fx165 po142_3 fx146 fx147 fx148 fx149 (strcs_hp (own_char rfl)) (strcs_len _ _) fx150 fx151 fx152 fx153 (strcs_hp ra2) (strcs_len _ _) fx154 fx155 fx156 fx157 (strcs_hp (own_char rfl)) (strcs_len _ _) fx158 fx159 fx160 fx161 (strcs_hp rb2) (strcs_len _ _)) hZ (hw _ (List.mem_of_getElem? (i := 59) rfl)) (hw _ (List.mem_of_getElem? (i := 32) rfl)) (by decide) (by decide)) q191a q191c (g := (mkF m 310 #[oI p0, oI p1, oI p2, oI p3, oI p4, oI (p0 &&& (255 : Int32)), oI a2, oI e1, oI e2, oI (p1 &&& (255 : Int32)), oI b2, oI f1, oI f2, oI uu, oR b_114, oR b_115, oR b_117, oR b_119, oR b121, oR b132, oI (0 : Int32), oR b132, oI (0 : Int32)] [(.ref b132), (.ref b121)])) rfl (by rw [hml]; rfl) (Steps.refl _) (argsL := [(.ref b132)]) (rest := []) (lenOf pd_7 rfl) rfl (by show 2 * 0 + _ ≤ _; exact Nat.le_of_eq rfl) (hb hby at_310) (fun _ _ => ⟨rfl, h188q, (by decide : 18 + 0 ≤ _), (by decide : 162 + 0 ≤ _)⟩)
        dsimp only [Pt.U, Pt.locs, Pt.cells, Pt.slots] at X191 l191 y191 z191 st191 hQ191
        subst l191 y191 z191
        obtain ⟨v191, N191q, K191q⟩ := hQ191
        subst v191
        have N191 := Fr.app N188 N191q
        have O191 := O142.keep K191q all0
        have Kc191 := Kc142.trans K191q all0
        have pre192 : ∀ t, oP p e below T191 (mkF m 315 #[oI p0, oI p1, oI p2, oI p3, oI p4, oI (p0 &&& (255 : Int32)), oI a2, oI e1, oI e2, oI (p1 &&& (255 : Int32)), oI b2, oI f1, oI f2, oI uu, oR b_114, oR b_115, oR b_117, oR b_119, oR b121, oR b132, oI (0 : Int32), oR b132, oI (0 : Int32)] [(.int (0 : Int32)), (.int (fn10q Z b121 b132 b_114 b_115 b_117 b_119 p2 uu t_114 kt_114 (strcs e1 (p0 &&& (255 : Int32))) t_115 kt_115 (strcs e2 a2) t_117 kt_117 (strcs f1 (p1 &&& (255 : Int32))) t_119 kt_119 (strcs f2 b2)))]) t → oP p e below s₁ (entryFrame m #[(.int p0), (.int p1), (.int p2), (.int p3), (.int p4)] maxLocals) t := fun t k => pre189 t (by
          show oP p e below T188 (mkF m 247 #[oI p0, oI p1, oI p2, oI p3, oI p4, oI (p0 &&& (255 : Int32)), oI a2, oI e1, oI e2, oI (p1 &&& (255 : Int32)), oI b2, oI f1, oI f2, oI uu, oR b_114, oR b_115, oR b_117, oR b_119, oR b121, oR b132, oI (0 : Int32), oR b132, oU] [(.int (fn9 Z f1 (p1 &&& (255 : Int32)) f2 b2))]) _
          refine XS.ifYes X188.here hx rfl (pc0 := 247) (pc' := 260) rfl (hb hby at_247) rfl ((if0 _ _).trans (teq hc190).1) (by decide) (by decide) ?_
          show oP p e below T188 (mkF m 260 #[oI p0, oI p1, oI p2, oI p3, oI p4, oI (p0 &&& (255 : Int32)), oI a2, oI e1, oI e2, oI (p1 &&& (255 : Int32)), oI b2, oI f1, oI f2, oI uu, oR b_114, oR b_115, oR b_117, oR b_119, oR b121, oR b132, oI (0 : Int32), oR b132, oU] []) _
          refine XS.iconst X188.here hx rfl (hb hby at_260) ?_
          show oP p e below T188 (mkF m 261 #[oI p0, oI p1, oI p2, oI p3, oI p4, oI (p0 &&& (255 : Int32)), oI a2, oI e1, oI e2, oI (p1 &&& (255 : Int32)), oI b2, oI f1, oI f2, oI uu, oR b_114, oR b_115, oR b_117, oR b_119, oR b121, oR b132, oI (0 : Int32), oR b132, oU] [(.int (0 : Int32))]) _
          refine XS.istore X188.here hx rfl (hb hby at_261) rfl (l' := #[oI p0, oI p1, oI p2, oI p3, oI p4, oI (p0 &&& (255 : Int32)), oI a2, oI e1, oI e2, oI (p1 &&& (255 : Int32)), oI b2, oI f1, oI f2, oI uu, oR b_114, oR b_115, oR b_117, oR b_119, oR b121, oR b132, oI (0 : Int32), oR b132, oI (0 : Int32)]) rfl ?_
          show oP p e below T188 (mkF m 263 #[oI p0, oI p1, oI p2, oI p3, oI p4, oI (p0 &&& (255 : Int32)), oI a2, oI e1, oI e2, oI (p1 &&& (255 : Int32)), oI b2, oI f1, oI f2, oI uu, oR b_114, oR b_115, oR b_117, oR b_119, oR b121, oR b132, oI (0 : Int32), oR b132, oI (0 : Int32)] []) _
          refine XS.goto X188.here hx rfl (pc0 := 263) (pc' := 306) rfl (hb hby at_263) (by decide) (by decide) ?_
          show oP p e below T188 (mkF m 306 #[oI p0, oI p1, oI p2, oI p3, oI p4, oI (p0 &&& (255 : Int32)), oI a2, oI e1, oI e2, oI (p1 &&& (255 : Int32)), oI b2, oI f1, oI f2, oI uu, oR b_114, oR b_115, oR b_117, oR b_119, oR b121, oR b132, oI (0 : Int32), oR b132, oI (0 : Int32)] []) _
          refine XS.aload X188.here hx rfl (hb hby at_306) rfl rfl ?_
          show oP p e below T188 (mkF m 308 #[oI p0, oI p1, oI p2, oI p3, oI p4, oI (p0 &&& (255 : Int32)), oI a2, oI e1, oI e2, oI (p1 &&& (255 : Int32)), oI b2, oI f1, oI f2, oI uu, oR b_114, oR b_115, oR b_117, oR b_119, oR b121, oR b132, oI (0 : Int32), oR b132, oI (0 : Int32)] [(.ref b121)]) _
          refine XS.aload X188.here hx rfl (hb hby at_308) rfl rfl ?_
          show oP p e below T188 (mkF m 310 #[oI p0, oI p1, oI p2, oI p3, oI p4, oI (p0 &&& (255 : Int32)), oI a2, oI e1, oI e2, oI (p1 &&& (255 : Int32)), oI b2, oI f1, oI f2, oI uu, oR b_114, oR b_115, oR b_117, oR b_119, oR b121, oR b132, oI (0 : Int32), oR b132, oI (0 : Int32)] [(.ref b132), (.ref b121)]) _
          refine st191.trans ?_
          show oP p e below T191 (mkF m 313 #[oI p0, oI p1, oI p2, oI p3, oI p4, oI (p0 &&& (255 : Int32)), oI a2, oI e1, oI e2, oI (p1 &&& (255 : Int32)), oI b2, oI f1, oI f2, oI uu, oR b_114, oR b_115, oR b_117, oR b_119, oR b121, oR b132, oI (0 : Int32), oR b132, oI (0 : Int32)] [(.int (fn10q Z b121 b132 b_114 b_115 b_117 b_119 p2 uu t_114 kt_114 (strcs e1 (p0 &&& (255 : Int32))) t_115 kt_115 (strcs e2 a2) t_117 kt_117 (strcs f1 (p1 &&& (255 : Int32))) t_119 kt_119 (strcs f2 b2)))]) _
          refine XS.iload X191.here hx rfl (hb hby at_313) rfl ?_
          exact k)
        by_cases hc193 : (fn10q Z b121 b132 b_114 b_115 b_117 b_119 p2 uu t_114 kt_114 (strcs e1 (p0 &&& (255 : Int32))) t_115 kt_115 (strcs e2 a2) t_117 kt_117 (strcs f1 (p1 &&& (255 : Int32))) t_119 kt_119 (strcs f2 b2)) = (0 : Int32)
        · have fx194 := (fx162.keep K191q)
          have fx196 := (fx163.keep K191q nin0)
          have fx197 := (fx164.keep K191q nin0)
          have fx198 := (fx165.keep K191q nin0)
          have fx199 := (fx148.keep K191q nin0)
          have fx200 := (fx149.keep K191q nin0)
          have fx201 := (fx156.keep K191q nin0)
          have fx202 := (fx157.keep K191q nin0)
          have fx203 := (fx146.keep K191q)
          have fx204 := (fx147.keep K191q nin0)
          have fx205 := (fx154.keep K191q)
          have fx206 := (fx155.keep K191q nin0)
          obtain ⟨cq195, kq195, q195a, q195b, q195c⟩ := isOf hZ rfl fx194
          obtain ⟨_, _, ⟨T195, L195, k195, n195⟩, -, X195, ⟨Lc195, hQ195, l195, y195, z195⟩, st195⟩ := X191.virtualBack hx (y := (⟨"com/example/narada/narada/client/MessageQueue", "equals", "(Ljava/lang/Object;)Z"⟩ : MethodName)) (z := (⟨"com/example/narada/narada/client/MessageQueue", "equals", "(Ljava/lang/Object;)Z"⟩ : MethodName)) hown (mvT hZ (hw _ (List.mem_of_getElem? (i := 55) rfl))) (mvT hZ (hw _ (List.mem_of_getElem? (i := 56) rfl))) (notFace_of_selects (args := #[]) (mvT hZ (hw _ (List.mem_of_getElem? (i := 58) rfl)))) (mvT hZ (hw _ (List.mem_of_getElem? (i := 58) rfl))) (mvT hZ (hw _ (List.mem_of_getElem? (i := 57) rfl))) (by decide) (backOf (W := 0) (rm10q l Z a0 hw hS [] b121 b121 b_114 b_114 b_117 b_117 p2 p2 t_114 kt_114 (strcs e1 (p0 &&& (255 : Int32))) t_114 kt_114 (strcs e1 (p0 &&& (255 : Int32))) t_117 kt_117 (strcs f1 (p1 &&& (255 : Int32))) t_117 kt_117 (strcs f1 (p1 &&& (255 : Int32))) T191.heap n0 O191 fx194 fx196 fx196 fx197 fx197 fx198 fx198 fx203 fx204 fx199 fx200 (strcs_hp (own_char rfl)) (strcs_len _ _) fx203 fx204 fx199 fx200 (strcs_hp (own_char rfl)) (strcs_len _ _) fx205 fx206 fx201 fx202 (strcs_hp (own_char rfl)) (strcs_len _ _) fx205 fx206 fx201 fx202 (strcs_hp (own_char rfl)) (strcs_len _ _)) hZ (hw _ (List.mem_of_getElem? (i := 59) rfl)) (hw _ (List.mem_of_getElem? (i := 32) rfl)) (by decide) (by decide)) q195a q195c (g := (mkF m 322 #[oI p0, oI p1, oI p2, oI p3, oI p4, oI (p0 &&& (255 : Int32)), oI a2, oI e1, oI e2, oI (p1 &&& (255 : Int32)), oI b2, oI f1, oI f2, oI uu, oR b_114, oR b_115, oR b_117, oR b_119, oR b121, oR b132, oI (0 : Int32), oR b132, oI (0 : Int32)] [(.ref b121), (.ref b121)])) rfl (by rw [hml]; rfl) (Steps.refl _) (argsL := [(.ref b121)]) (rest := []) (lenOf pd_7 rfl) rfl (by show 2 * 0 + _ ≤ _; exact Nat.le_of_eq rfl) (hb hby at_322) (fun _ _ => ⟨rfl, rfl, (by decide : 18 + 0 ≤ _), (by decide : 162 + 0 ≤ _)⟩)
          dsimp only [Pt.U, Pt.locs, Pt.cells, Pt.slots] at X195 l195 y195 z195 st195 hQ195
          subst l195 y195 z195
          obtain ⟨v195, N195q, K195q⟩ := hQ195
          have w195 : (fn10q Z b121 b121 b_114 b_114 b_117 b_117 p2 p2 t_114 kt_114 (strcs e1 (p0 &&& (255 : Int32))) t_114 kt_114 (strcs e1 (p0 &&& (255 : Int32))) t_117 kt_117 (strcs f1 (p1 &&& (255 : Int32))) t_117 kt_117 (strcs f1 (p1 &&& (255 : Int32)))) = (1 : Int32) := by unfold fn10q; rw [if_pos (rfl : p2 = p2), if_neg (by simp : ¬ ((if (strcs e1 (p0 &&& (255 : Int32))) = (strcs e1 (p0 &&& (255 : Int32))) then (1 : Int32) else (0 : Int32)) = (0 : Int32))), if_neg (by simp : ¬ ((if (strcs f1 (p1 &&& (255 : Int32))) = (strcs f1 (p1 &&& (255 : Int32))) then (1 : Int32) else (0 : Int32)) = (0 : Int32)))]; all_goals first | rfl | decide
          rw [w195] at v195
          subst v195
          have N195 := Fr.app N191 N195q
          have O195 := O191.keep K195q all0
          have Kc195 := Kc191.trans K195q all0
          have fx207 := (Nat.le_trans (Nat.le_trans (Nat.le_refl _) K191q.1) K195q.1)
          obtain ⟨fs, hr, hrun, hended, hRW⟩ := Stand.leaveW X195 hSi fx207 (v := some (.int (1 : Int32))) (fun h => by rw [Bd.returns] at h; cases h)
          refine ⟨_, _, pre192 _ ?_, hrun, hended, _, _, rfl, ?_, own_rwmono hRW (by decide) (by decide)⟩
          · show oP p e below T191 (mkF m 315 #[oI p0, oI p1, oI p2, oI p3, oI p4, oI (p0 &&& (255 : Int32)), oI a2, oI e1, oI e2, oI (p1 &&& (255 : Int32)), oI b2, oI f1, oI f2, oI uu, oR b_114, oR b_115, oR b_117, oR b_119, oR b121, oR b132, oI (0 : Int32), oR b132, oI (0 : Int32)] [(.int (0 : Int32)), (.int (fn10q Z b121 b132 b_114 b_115 b_117 b_119 p2 uu t_114 kt_114 (strcs e1 (p0 &&& (255 : Int32))) t_115 kt_115 (strcs e2 a2) t_117 kt_117 (strcs f1 (p1 &&& (255 : Int32))) t_119 kt_119 (strcs f2 b2)))]) _
            refine XS.icmpNo X191.here hx rfl (hb hby at_315) rfl (teq hc193).2 ?_
            show oP p e below T191 (mkF m 318 #[oI p0, oI p1, oI p2, oI p3, oI p4, oI (p0 &&& (255 : Int32)), oI a2, oI e1, oI e2, oI (p1 &&& (255 : Int32)), oI b2, oI f1, oI f2, oI uu, oR b_114, oR b_115, oR b_117, oR b_119, oR b121, oR b132, oI (0 : Int32), oR b132, oI (0 : Int32)] []) _
            refine XS.aload X191.here hx rfl (hb hby at_318) rfl rfl ?_
            show oP p e below T191 (mkF m 320 #[oI p0, oI p1, oI p2, oI p3, oI p4, oI (p0 &&& (255 : Int32)), oI a2, oI e1, oI e2, oI (p1 &&& (255 : Int32)), oI b2, oI f1, oI f2, oI uu, oR b_114, oR b_115, oR b_117, oR b_119, oR b121, oR b132, oI (0 : Int32), oR b132, oI (0 : Int32)] [(.ref b121)]) _
            refine XS.aload X191.here hx rfl (hb hby at_320) rfl rfl ?_
            show oP p e below T191 (mkF m 322 #[oI p0, oI p1, oI p2, oI p3, oI p4, oI (p0 &&& (255 : Int32)), oI a2, oI e1, oI e2, oI (p1 &&& (255 : Int32)), oI b2, oI f1, oI f2, oI uu, oR b_114, oR b_115, oR b_117, oR b_119, oR b121, oR b132, oI (0 : Int32), oR b132, oI (0 : Int32)] [(.ref b121), (.ref b121)]) _
            refine st195.trans ?_
            show oP p e below T195 (mkF m 325 #[oI p0, oI p1, oI p2, oI p3, oI p4, oI (p0 &&& (255 : Int32)), oI a2, oI e1, oI e2, oI (p1 &&& (255 : Int32)), oI b2, oI f1, oI f2, oI uu, oR b_114, oR b_115, oR b_117, oR b_119, oR b121, oR b132, oI (0 : Int32), oR b132, oI (0 : Int32)] [(.int (1 : Int32))]) _
            refine XS.ifNo X195.here hx rfl (hb hby at_325) rfl ((if0 _ _).trans (feq (by decide : ¬ ((1 : Int32) = (0 : Int32)))).1) ?_
            show oP p e below T195 (mkF m 328 #[oI p0, oI p1, oI p2, oI p3, oI p4, oI (p0 &&& (255 : Int32)), oI a2, oI e1, oI e2, oI (p1 &&& (255 : Int32)), oI b2, oI f1, oI f2, oI uu, oR b_114, oR b_115, oR b_117, oR b_119, oR b121, oR b132, oI (0 : Int32), oR b132, oI (0 : Int32)] []) _
            refine XS.iconst X195.here hx rfl (hb hby at_328) ?_
            show oP p e below T195 (mkF m 329 #[oI p0, oI p1, oI p2, oI p3, oI p4, oI (p0 &&& (255 : Int32)), oI a2, oI e1, oI e2, oI (p1 &&& (255 : Int32)), oI b2, oI f1, oI f2, oI uu, oR b_114, oR b_115, oR b_117, oR b_119, oR b121, oR b132, oI (0 : Int32), oR b132, oI (0 : Int32)] [(.int (1 : Int32))]) _
            refine XS.goto X195.here hx rfl (pc0 := 329) (pc' := 333) rfl (hb hby at_329) (by decide) (by decide) ?_
            show oP p e below T195 (mkF m 333 #[oI p0, oI p1, oI p2, oI p3, oI p4, oI (p0 &&& (255 : Int32)), oI a2, oI e1, oI e2, oI (p1 &&& (255 : Int32)), oI b2, oI f1, oI f2, oI uu, oR b_114, oR b_115, oR b_117, oR b_119, oR b121, oR b132, oI (0 : Int32), oR b132, oI (0 : Int32)] [(.int (1 : Int32))]) _
            exact retN X195 hx (t := .boolean) Bd.returns (by simp) (hb hby at_333) hr
          · show (some (.int (1 : Int32)) : Option Value) = some (.int (1 : Int32)) ∧ Fr n0 _ ∧ Keep h0 T195.heap []
            exact ⟨rfl, N195, Kc195⟩
        · exfalso
          exact ab208 hS p0 p1 p2 a2 e1 e2 b2 f1 f2 uu re1 re2 rf1 rf2 hc169 hc190 hc193
      · have pre209 : ∀ t, oP p e below T188 (mkF m 253 #[oI p0, oI p1, oI p2, oI p3, oI p4, oI (p0 &&& (255 : Int32)), oI a2, oI e1, oI e2, oI (p1 &&& (255 : Int32)), oI b2, oI f1, oI f2, oI uu, oR b_114, oR b_115, oR b_117, oR b_119, oR b121, oR b132, oI (0 : Int32), oR b132, oU] [(.int uu), (.int p2)]) t → oP p e below s₁ (entryFrame m #[(.int p0), (.int p1), (.int p2), (.int p3), (.int p4)] maxLocals) t := fun t k => pre189 t (by
          show oP p e below T188 (mkF m 247 #[oI p0, oI p1, oI p2, oI p3, oI p4, oI (p0 &&& (255 : Int32)), oI a2, oI e1, oI e2, oI (p1 &&& (255 : Int32)), oI b2, oI f1, oI f2, oI uu, oR b_114, oR b_115, oR b_117, oR b_119, oR b121, oR b132, oI (0 : Int32), oR b132, oU] [(.int (fn9 Z f1 (p1 &&& (255 : Int32)) f2 b2))]) _
          refine XS.ifNo X188.here hx rfl (hb hby at_247) rfl ((if0 _ _).trans (feq hc190).1) ?_
          show oP p e below T188 (mkF m 250 #[oI p0, oI p1, oI p2, oI p3, oI p4, oI (p0 &&& (255 : Int32)), oI a2, oI e1, oI e2, oI (p1 &&& (255 : Int32)), oI b2, oI f1, oI f2, oI uu, oR b_114, oR b_115, oR b_117, oR b_119, oR b121, oR b132, oI (0 : Int32), oR b132, oU] []) _
          refine XS.iloadN X188.here hx rfl (hb hby at_250) rfl ?_
          show oP p e below T188 (mkF m 251 #[oI p0, oI p1, oI p2, oI p3, oI p4, oI (p0 &&& (255 : Int32)), oI a2, oI e1, oI e2, oI (p1 &&& (255 : Int32)), oI b2, oI f1, oI f2, oI uu, oR b_114, oR b_115, oR b_117, oR b_119, oR b121, oR b132, oI (0 : Int32), oR b132, oU] [(.int p2)]) _
          refine XS.iload X188.here hx rfl (hb hby at_251) rfl ?_
          exact k)
        by_cases hc210 : p2 = uu
        · obtain ⟨cq211, kq211, q211a, q211b, q211c⟩ := isOf hZ h188q fx162
          obtain ⟨_, _, ⟨T211, L211, k211, n211⟩, -, X211, ⟨Lc211, hQ211, l211, y211, z211⟩, st211⟩ := X188.virtualBack hx (y := (⟨"com/example/narada/narada/client/MessageQueue", "equals", "(Ljava/lang/Object;)Z"⟩ : MethodName)) (z := (⟨"com/example/narada/narada/client/MessageQueue", "equals", "(Ljava/lang/Object;)Z"⟩ : MethodName)) hown (mvT hZ (hw _ (List.mem_of_getElem? (i := 55) rfl))) (mvT hZ (hw _ (List.mem_of_getElem? (i := 56) rfl))) (notFace_of_selects (args := #[]) (mvT hZ (hw _ (List.mem_of_getElem? (i := 58) rfl)))) (mvT hZ (hw _ (List.mem_of_getElem? (i := 58) rfl))) (mvT hZ (hw _ (List.mem_of_getElem? (i := 57) rfl))) (by decide) (backOf (W := 0) (rm10q l Z a0 hw hS [] b121 b132 b_114 b_115 b_117 b_119 p2 uu t_114 kt_114 (strcs e1 (p0 &&& (255 : Int32))) t_115 kt_115 (strcs e2 a2) t_117 kt_117 (strcs f1 (p1 &&& (255 : Int32))) t_119 kt_119 (strcs f2 b2) T142.heap n0 O142 po142_0 fx163 po142_1 fx164 po142_2 fx165 po142_3 fx146 fx147 fx148 fx149 (strcs_hp (own_char rfl)) (strcs_len _ _) fx150 fx151 fx152 fx153 (strcs_hp ra2) (strcs_len _ _) fx154 fx155 fx156 fx157 (strcs_hp (own_char rfl)) (strcs_len _ _) fx158 fx159 fx160 fx161 (strcs_hp rb2) (strcs_len _ _)) hZ (hw _ (List.mem_of_getElem? (i := 59) rfl)) (hw _ (List.mem_of_getElem? (i := 32) rfl)) (by decide) (by decide)) q211a q211c (g := (mkF m 310 #[oI p0, oI p1, oI p2, oI p3, oI p4, oI (p0 &&& (255 : Int32)), oI a2, oI e1, oI e2, oI (p1 &&& (255 : Int32)), oI b2, oI f1, oI f2, oI uu, oR b_114, oR b_115, oR b_117, oR b_119, oR b121, oR b132, oI (0 : Int32), oR b132, oI (1 : Int32)] [(.ref b132), (.ref b121)])) rfl (by rw [hml]; rfl) (Steps.refl _) (argsL := [(.ref b132)]) (rest := []) (lenOf pd_7 rfl) rfl (by show 2 * 0 + _ ≤ _; exact Nat.le_of_eq rfl) (hb hby at_310) (fun _ _ => ⟨rfl, h188q, (by decide : 18 + 0 ≤ _), (by decide : 162 + 0 ≤ _)⟩)
          dsimp only [Pt.U, Pt.locs, Pt.cells, Pt.slots] at X211 l211 y211 z211 st211 hQ211
          subst l211 y211 z211
          obtain ⟨v211, N211q, K211q⟩ := hQ211
          subst v211
          have N211 := Fr.app N188 N211q
          have O211 := O142.keep K211q all0
          have Kc211 := Kc142.trans K211q all0
          have pre212 : ∀ t, oP p e below T211 (mkF m 315 #[oI p0, oI p1, oI p2, oI p3, oI p4, oI (p0 &&& (255 : Int32)), oI a2, oI e1, oI e2, oI (p1 &&& (255 : Int32)), oI b2, oI f1, oI f2, oI uu, oR b_114, oR b_115, oR b_117, oR b_119, oR b121, oR b132, oI (0 : Int32), oR b132, oI (1 : Int32)] [(.int (1 : Int32)), (.int (fn10q Z b121 b132 b_114 b_115 b_117 b_119 p2 uu t_114 kt_114 (strcs e1 (p0 &&& (255 : Int32))) t_115 kt_115 (strcs e2 a2) t_117 kt_117 (strcs f1 (p1 &&& (255 : Int32))) t_119 kt_119 (strcs f2 b2)))]) t → oP p e below s₁ (entryFrame m #[(.int p0), (.int p1), (.int p2), (.int p3), (.int p4)] maxLocals) t := fun t k => pre209 t (by
            show oP p e below T188 (mkF m 253 #[oI p0, oI p1, oI p2, oI p3, oI p4, oI (p0 &&& (255 : Int32)), oI a2, oI e1, oI e2, oI (p1 &&& (255 : Int32)), oI b2, oI f1, oI f2, oI uu, oR b_114, oR b_115, oR b_117, oR b_119, oR b121, oR b132, oI (0 : Int32), oR b132, oU] [(.int uu), (.int p2)]) _
            refine XS.icmpNo X188.here hx rfl (hb hby at_253) rfl (teq hc210).2 ?_
            show oP p e below T188 (mkF m 256 #[oI p0, oI p1, oI p2, oI p3, oI p4, oI (p0 &&& (255 : Int32)), oI a2, oI e1, oI e2, oI (p1 &&& (255 : Int32)), oI b2, oI f1, oI f2, oI uu, oR b_114, oR b_115, oR b_117, oR b_119, oR b121, oR b132, oI (0 : Int32), oR b132, oU] []) _
            refine XS.iconst X188.here hx rfl (hb hby at_256) ?_
            show oP p e below T188 (mkF m 257 #[oI p0, oI p1, oI p2, oI p3, oI p4, oI (p0 &&& (255 : Int32)), oI a2, oI e1, oI e2, oI (p1 &&& (255 : Int32)), oI b2, oI f1, oI f2, oI uu, oR b_114, oR b_115, oR b_117, oR b_119, oR b121, oR b132, oI (0 : Int32), oR b132, oU] [(.int (1 : Int32))]) _
            refine XS.goto X188.here hx rfl (pc0 := 257) (pc' := 261) rfl (hb hby at_257) (by decide) (by decide) ?_
            show oP p e below T188 (mkF m 261 #[oI p0, oI p1, oI p2, oI p3, oI p4, oI (p0 &&& (255 : Int32)), oI a2, oI e1, oI e2, oI (p1 &&& (255 : Int32)), oI b2, oI f1, oI f2, oI uu, oR b_114, oR b_115, oR b_117, oR b_119, oR b121, oR b132, oI (0 : Int32), oR b132, oU] [(.int (1 : Int32))]) _
            refine XS.istore X188.here hx rfl (hb hby at_261) rfl (l' := #[oI p0, oI p1, oI p2, oI p3, oI p4, oI (p0 &&& (255 : Int32)), oI a2, oI e1, oI e2, oI (p1 &&& (255 : Int32)), oI b2, oI f1, oI f2, oI uu, oR b_114, oR b_115, oR b_117, oR b_119, oR b121, oR b132, oI (0 : Int32), oR b132, oI (1 : Int32)]) rfl ?_
            show oP p e below T188 (mkF m 263 #[oI p0, oI p1, oI p2, oI p3, oI p4, oI (p0 &&& (255 : Int32)), oI a2, oI e1, oI e2, oI (p1 &&& (255 : Int32)), oI b2, oI f1, oI f2, oI uu, oR b_114, oR b_115, oR b_117, oR b_119, oR b121, oR b132, oI (0 : Int32), oR b132, oI (1 : Int32)] []) _
            refine XS.goto X188.here hx rfl (pc0 := 263) (pc' := 306) rfl (hb hby at_263) (by decide) (by decide) ?_
            show oP p e below T188 (mkF m 306 #[oI p0, oI p1, oI p2, oI p3, oI p4, oI (p0 &&& (255 : Int32)), oI a2, oI e1, oI e2, oI (p1 &&& (255 : Int32)), oI b2, oI f1, oI f2, oI uu, oR b_114, oR b_115, oR b_117, oR b_119, oR b121, oR b132, oI (0 : Int32), oR b132, oI (1 : Int32)] []) _
            refine XS.aload X188.here hx rfl (hb hby at_306) rfl rfl ?_
            show oP p e below T188 (mkF m 308 #[oI p0, oI p1, oI p2, oI p3, oI p4, oI (p0 &&& (255 : Int32)), oI a2, oI e1, oI e2, oI (p1 &&& (255 : Int32)), oI b2, oI f1, oI f2, oI uu, oR b_114, oR b_115, oR b_117, oR b_119, oR b121, oR b132, oI (0 : Int32), oR b132, oI (1 : Int32)] [(.ref b121)]) _
            refine XS.aload X188.here hx rfl (hb hby at_308) rfl rfl ?_
            show oP p e below T188 (mkF m 310 #[oI p0, oI p1, oI p2, oI p3, oI p4, oI (p0 &&& (255 : Int32)), oI a2, oI e1, oI e2, oI (p1 &&& (255 : Int32)), oI b2, oI f1, oI f2, oI uu, oR b_114, oR b_115, oR b_117, oR b_119, oR b121, oR b132, oI (0 : Int32), oR b132, oI (1 : Int32)] [(.ref b132), (.ref b121)]) _
            refine st211.trans ?_
            show oP p e below T211 (mkF m 313 #[oI p0, oI p1, oI p2, oI p3, oI p4, oI (p0 &&& (255 : Int32)), oI a2, oI e1, oI e2, oI (p1 &&& (255 : Int32)), oI b2, oI f1, oI f2, oI uu, oR b_114, oR b_115, oR b_117, oR b_119, oR b121, oR b132, oI (0 : Int32), oR b132, oI (1 : Int32)] [(.int (fn10q Z b121 b132 b_114 b_115 b_117 b_119 p2 uu t_114 kt_114 (strcs e1 (p0 &&& (255 : Int32))) t_115 kt_115 (strcs e2 a2) t_117 kt_117 (strcs f1 (p1 &&& (255 : Int32))) t_119 kt_119 (strcs f2 b2)))]) _
            refine XS.iload X211.here hx rfl (hb hby at_313) rfl ?_
            exact k)
          by_cases hc213 : (fn10q Z b121 b132 b_114 b_115 b_117 b_119 p2 uu t_114 kt_114 (strcs e1 (p0 &&& (255 : Int32))) t_115 kt_115 (strcs e2 a2) t_117 kt_117 (strcs f1 (p1 &&& (255 : Int32))) t_119 kt_119 (strcs f2 b2)) = (1 : Int32)
          · have fx214 := (fx162.keep K211q)
            have fx216 := (fx163.keep K211q nin0)
            have fx217 := (fx164.keep K211q nin0)
            have fx218 := (fx165.keep K211q nin0)
            have fx219 := (fx148.keep K211q nin0)
            have fx220 := (fx149.keep K211q nin0)
            have fx221 := (fx156.keep K211q nin0)
            have fx222 := (fx157.keep K211q nin0)
            have fx223 := (fx146.keep K211q)
            have fx224 := (fx147.keep K211q nin0)
            have fx225 := (fx154.keep K211q)
            have fx226 := (fx155.keep K211q nin0)
            obtain ⟨cq215, kq215, q215a, q215b, q215c⟩ := isOf hZ rfl fx214
            obtain ⟨_, _, ⟨T215, L215, k215, n215⟩, -, X215, ⟨Lc215, hQ215, l215, y215, z215⟩, st215⟩ := X211.virtualBack hx (y := (⟨"com/example/narada/narada/client/MessageQueue", "equals", "(Ljava/lang/Object;)Z"⟩ : MethodName)) (z := (⟨"com/example/narada/narada/client/MessageQueue", "equals", "(Ljava/lang/Object;)Z"⟩ : MethodName)) hown (mvT hZ (hw _ (List.mem_of_getElem? (i := 55) rfl))) (mvT hZ (hw _ (List.mem_of_getElem? (i := 56) rfl))) (notFace_of_selects (args := #[]) (mvT hZ (hw _ (List.mem_of_getElem? (i := 58) rfl)))) (mvT hZ (hw _ (List.mem_of_getElem? (i := 58) rfl))) (mvT hZ (hw _ (List.mem_of_getElem? (i := 57) rfl))) (by decide) (backOf (W := 0) (rm10q l Z a0 hw hS [] b121 b121 b_114 b_114 b_117 b_117 p2 p2 t_114 kt_114 (strcs e1 (p0 &&& (255 : Int32))) t_114 kt_114 (strcs e1 (p0 &&& (255 : Int32))) t_117 kt_117 (strcs f1 (p1 &&& (255 : Int32))) t_117 kt_117 (strcs f1 (p1 &&& (255 : Int32))) T211.heap n0 O211 fx214 fx216 fx216 fx217 fx217 fx218 fx218 fx223 fx224 fx219 fx220 (strcs_hp (own_char rfl)) (strcs_len _ _) fx223 fx224 fx219 fx220 (strcs_hp (own_char rfl)) (strcs_len _ _) fx225 fx226 fx221 fx222 (strcs_hp (own_char rfl)) (strcs_len _ _) fx225 fx226 fx221 fx222 (strcs_hp (own_char rfl)) (strcs_len _ _)) hZ (hw _ (List.mem_of_getElem? (i := 59) rfl)) (hw _ (List.mem_of_getElem? (i := 32) rfl)) (by decide) (by decide)) q215a q215c (g := (mkF m 322 #[oI p0, oI p1, oI p2, oI p3, oI p4, oI (p0 &&& (255 : Int32)), oI a2, oI e1, oI e2, oI (p1 &&& (255 : Int32)), oI b2, oI f1, oI f2, oI uu, oR b_114, oR b_115, oR b_117, oR b_119, oR b121, oR b132, oI (0 : Int32), oR b132, oI (1 : Int32)] [(.ref b121), (.ref b121)])) rfl (by rw [hml]; rfl) (Steps.refl _) (argsL := [(.ref b121)]) (rest := []) (lenOf pd_7 rfl) rfl (by show 2 * 0 + _ ≤ _; exact Nat.le_of_eq rfl) (hb hby at_322) (fun _ _ => ⟨rfl, rfl, (by decide : 18 + 0 ≤ _), (by decide : 162 + 0 ≤ _)⟩)
            dsimp only [Pt.U, Pt.locs, Pt.cells, Pt.slots] at X215 l215 y215 z215 st215 hQ215
            subst l215 y215 z215
            obtain ⟨v215, N215q, K215q⟩ := hQ215
            have w215 : (fn10q Z b121 b121 b_114 b_114 b_117 b_117 p2 p2 t_114 kt_114 (strcs e1 (p0 &&& (255 : Int32))) t_114 kt_114 (strcs e1 (p0 &&& (255 : Int32))) t_117 kt_117 (strcs f1 (p1 &&& (255 : Int32))) t_117 kt_117 (strcs f1 (p1 &&& (255 : Int32)))) = (1 : Int32) := by unfold fn10q; rw [if_pos (rfl : p2 = p2), if_neg (by simp : ¬ ((if (strcs e1 (p0 &&& (255 : Int32))) = (strcs e1 (p0 &&& (255 : Int32))) then (1 : Int32) else (0 : Int32)) = (0 : Int32))), if_neg (by simp : ¬ ((if (strcs f1 (p1 &&& (255 : Int32))) = (strcs f1 (p1 &&& (255 : Int32))) then (1 : Int32) else (0 : Int32)) = (0 : Int32)))]; all_goals first | rfl | decide
            rw [w215] at v215
            subst v215
            have N215 := Fr.app N211 N215q
            have O215 := O211.keep K215q all0
            have Kc215 := Kc211.trans K215q all0
            have fx227 := (Nat.le_trans (Nat.le_trans (Nat.le_refl _) K211q.1) K215q.1)
            obtain ⟨fs, hr, hrun, hended, hRW⟩ := Stand.leaveW X215 hSi fx227 (v := some (.int (1 : Int32))) (fun h => by rw [Bd.returns] at h; cases h)
            refine ⟨_, _, pre212 _ ?_, hrun, hended, _, _, rfl, ?_, own_rwmono hRW (by decide) (by decide)⟩
            · show oP p e below T211 (mkF m 315 #[oI p0, oI p1, oI p2, oI p3, oI p4, oI (p0 &&& (255 : Int32)), oI a2, oI e1, oI e2, oI (p1 &&& (255 : Int32)), oI b2, oI f1, oI f2, oI uu, oR b_114, oR b_115, oR b_117, oR b_119, oR b121, oR b132, oI (0 : Int32), oR b132, oI (1 : Int32)] [(.int (1 : Int32)), (.int (fn10q Z b121 b132 b_114 b_115 b_117 b_119 p2 uu t_114 kt_114 (strcs e1 (p0 &&& (255 : Int32))) t_115 kt_115 (strcs e2 a2) t_117 kt_117 (strcs f1 (p1 &&& (255 : Int32))) t_119 kt_119 (strcs f2 b2)))]) _
              refine XS.icmpNo X211.here hx rfl (hb hby at_315) rfl (teq hc213).2 ?_
              show oP p e below T211 (mkF m 318 #[oI p0, oI p1, oI p2, oI p3, oI p4, oI (p0 &&& (255 : Int32)), oI a2, oI e1, oI e2, oI (p1 &&& (255 : Int32)), oI b2, oI f1, oI f2, oI uu, oR b_114, oR b_115, oR b_117, oR b_119, oR b121, oR b132, oI (0 : Int32), oR b132, oI (1 : Int32)] []) _
              refine XS.aload X211.here hx rfl (hb hby at_318) rfl rfl ?_
              show oP p e below T211 (mkF m 320 #[oI p0, oI p1, oI p2, oI p3, oI p4, oI (p0 &&& (255 : Int32)), oI a2, oI e1, oI e2, oI (p1 &&& (255 : Int32)), oI b2, oI f1, oI f2, oI uu, oR b_114, oR b_115, oR b_117, oR b_119, oR b121, oR b132, oI (0 : Int32), oR b132, oI (1 : Int32)] [(.ref b121)]) _
              refine XS.aload X211.here hx rfl (hb hby at_320) rfl rfl ?_
              show oP p e below T211 (mkF m 322 #[oI p0, oI p1, oI p2, oI p3, oI p4, oI (p0 &&& (255 : Int32)), oI a2, oI e1, oI e2, oI (p1 &&& (255 : Int32)), oI b2, oI f1, oI f2, oI uu, oR b_114, oR b_115, oR b_117, oR b_119, oR b121, oR b132, oI (0 : Int32), oR b132, oI (1 : Int32)] [(.ref b121), (.ref b121)]) _
              refine st215.trans ?_
              show oP p e below T215 (mkF m 325 #[oI p0, oI p1, oI p2, oI p3, oI p4, oI (p0 &&& (255 : Int32)), oI a2, oI e1, oI e2, oI (p1 &&& (255 : Int32)), oI b2, oI f1, oI f2, oI uu, oR b_114, oR b_115, oR b_117, oR b_119, oR b121, oR b132, oI (0 : Int32), oR b132, oI (1 : Int32)] [(.int (1 : Int32))]) _
              refine XS.ifNo X215.here hx rfl (hb hby at_325) rfl ((if0 _ _).trans (feq (by decide : ¬ ((1 : Int32) = (0 : Int32)))).1) ?_
              show oP p e below T215 (mkF m 328 #[oI p0, oI p1, oI p2, oI p3, oI p4, oI (p0 &&& (255 : Int32)), oI a2, oI e1, oI e2, oI (p1 &&& (255 : Int32)), oI b2, oI f1, oI f2, oI uu, oR b_114, oR b_115, oR b_117, oR b_119, oR b121, oR b132, oI (0 : Int32), oR b132, oI (1 : Int32)] []) _
              refine XS.iconst X215.here hx rfl (hb hby at_328) ?_
              show oP p e below T215 (mkF m 329 #[oI p0, oI p1, oI p2, oI p3, oI p4, oI (p0 &&& (255 : Int32)), oI a2, oI e1, oI e2, oI (p1 &&& (255 : Int32)), oI b2, oI f1, oI f2, oI uu, oR b_114, oR b_115, oR b_117, oR b_119, oR b121, oR b132, oI (0 : Int32), oR b132, oI (1 : Int32)] [(.int (1 : Int32))]) _
              refine XS.goto X215.here hx rfl (pc0 := 329) (pc' := 333) rfl (hb hby at_329) (by decide) (by decide) ?_
              show oP p e below T215 (mkF m 333 #[oI p0, oI p1, oI p2, oI p3, oI p4, oI (p0 &&& (255 : Int32)), oI a2, oI e1, oI e2, oI (p1 &&& (255 : Int32)), oI b2, oI f1, oI f2, oI uu, oR b_114, oR b_115, oR b_117, oR b_119, oR b121, oR b132, oI (0 : Int32), oR b132, oI (1 : Int32)] [(.int (1 : Int32))]) _
              exact retN X215 hx (t := .boolean) Bd.returns (by simp) (hb hby at_333) hr
            · show (some (.int (1 : Int32)) : Option Value) = some (.int (1 : Int32)) ∧ Fr n0 _ ∧ Keep h0 T215.heap []
              exact ⟨rfl, N215, Kc215⟩
          · exfalso
            exact ab228 hS p0 p1 p2 a2 e1 e2 b2 f1 f2 uu re1 re2 rf1 rf2 hc169 hc190 hc210 hc213
        · obtain ⟨cq229, kq229, q229a, q229b, q229c⟩ := isOf hZ h188q fx162
          obtain ⟨_, _, ⟨T229, L229, k229, n229⟩, -, X229, ⟨Lc229, hQ229, l229, y229, z229⟩, st229⟩ := X188.virtualBack hx (y := (⟨"com/example/narada/narada/client/MessageQueue", "equals", "(Ljava/lang/Object;)Z"⟩ : MethodName)) (z := (⟨"com/example/narada/narada/client/MessageQueue", "equals", "(Ljava/lang/Object;)Z"⟩ : MethodName)) hown (mvT hZ (hw _ (List.mem_of_getElem? (i := 55) rfl))) (mvT hZ (hw _ (List.mem_of_getElem? (i := 56) rfl))) (notFace_of_selects (args := #[]) (mvT hZ (hw _ (List.mem_of_getElem? (i := 58) rfl)))) (mvT hZ (hw _ (List.mem_of_getElem? (i := 58) rfl))) (mvT hZ (hw _ (List.mem_of_getElem? (i := 57) rfl))) (by decide) (backOf (W := 0) (rm10q l Z a0 hw hS [] b121 b132 b_114 b_115 b_117 b_119 p2 uu t_114 kt_114 (strcs e1 (p0 &&& (255 : Int32))) t_115 kt_115 (strcs e2 a2) t_117 kt_117 (strcs f1 (p1 &&& (255 : Int32))) t_119 kt_119 (strcs f2 b2) T142.heap n0 O142 po142_0 fx163 po142_1 fx164 po142_2 fx165 po142_3 fx146 fx147 fx148 fx149 (strcs_hp (own_char rfl)) (strcs_len _ _) fx150 fx151 fx152 fx153 (strcs_hp ra2) (strcs_len _ _) fx154 fx155 fx156 fx157 (strcs_hp (own_char rfl)) (strcs_len _ _) fx158 fx159 fx160 fx161 (strcs_hp rb2) (strcs_len _ _)) hZ (hw _ (List.mem_of_getElem? (i := 59) rfl)) (hw _ (List.mem_of_getElem? (i := 32) rfl)) (by decide) (by decide)) q229a q229c (g := (mkF m 310 #[oI p0, oI p1, oI p2, oI p3, oI p4, oI (p0 &&& (255 : Int32)), oI a2, oI e1, oI e2, oI (p1 &&& (255 : Int32)), oI b2, oI f1, oI f2, oI uu, oR b_114, oR b_115, oR b_117, oR b_119, oR b121, oR b132, oI (0 : Int32), oR b132, oI (0 : Int32)] [(.ref b132), (.ref b121)])) rfl (by rw [hml]; rfl) (Steps.refl _) (argsL := [(.ref b132)]) (rest := []) (lenOf pd_7 rfl) rfl (by show 2 * 0 + _ ≤ _; exact Nat.le_of_eq rfl) (hb hby at_310) (fun _ _ => ⟨rfl, h188q, (by decide : 18 + 0 ≤ _), (by decide : 162 + 0 ≤ _)⟩)
          dsimp only [Pt.U, Pt.locs, Pt.cells, Pt.slots] at X229 l229 y229 z229 st229 hQ229
          subst l229 y229 z229
          obtain ⟨v229, N229q, K229q⟩ := hQ229
          have w229 : (fn10q Z b121 b132 b_114 b_115 b_117 b_119 p2 uu t_114 kt_114 (strcs e1 (p0 &&& (255 : Int32))) t_115 kt_115 (strcs e2 a2) t_117 kt_117 (strcs f1 (p1 &&& (255 : Int32))) t_119 kt_119 (strcs f2 b2)) = (0 : Int32) := by unfold fn10q; rw [if_neg hc210]; all_goals first | rfl | decide
          rw [w229] at v229
          subst v229
          have N229 := Fr.app N188 N229q
          have O229 := O142.keep K229q all0
          have Kc229 := Kc142.trans K229q all0
          have fx230 := (fx162.keep K229q)
          have fx232 := (fx163.keep K229q nin0)
          have fx233 := (fx164.keep K229q nin0)
          have fx234 := (fx165.keep K229q nin0)
          have fx235 := (fx148.keep K229q nin0)
          have fx236 := (fx149.keep K229q nin0)
          have fx237 := (fx156.keep K229q nin0)
          have fx238 := (fx157.keep K229q nin0)
          have fx239 := (fx146.keep K229q)
          have fx240 := (fx147.keep K229q nin0)
          have fx241 := (fx154.keep K229q)
          have fx242 := (fx155.keep K229q nin0)
          obtain ⟨cq231, kq231, q231a, q231b, q231c⟩ := isOf hZ rfl fx230
          obtain ⟨_, _, ⟨T231, L231, k231, n231⟩, -, X231, ⟨Lc231, hQ231, l231, y231, z231⟩, st231⟩ := X229.virtualBack hx (y := (⟨"com/example/narada/narada/client/MessageQueue", "equals", "(Ljava/lang/Object;)Z"⟩ : MethodName)) (z := (⟨"com/example/narada/narada/client/MessageQueue", "equals", "(Ljava/lang/Object;)Z"⟩ : MethodName)) hown (mvT hZ (hw _ (List.mem_of_getElem? (i := 55) rfl))) (mvT hZ (hw _ (List.mem_of_getElem? (i := 56) rfl))) (notFace_of_selects (args := #[]) (mvT hZ (hw _ (List.mem_of_getElem? (i := 58) rfl)))) (mvT hZ (hw _ (List.mem_of_getElem? (i := 58) rfl))) (mvT hZ (hw _ (List.mem_of_getElem? (i := 57) rfl))) (by decide) (backOf (W := 0) (rm10q l Z a0 hw hS [] b121 b121 b_114 b_114 b_117 b_117 p2 p2 t_114 kt_114 (strcs e1 (p0 &&& (255 : Int32))) t_114 kt_114 (strcs e1 (p0 &&& (255 : Int32))) t_117 kt_117 (strcs f1 (p1 &&& (255 : Int32))) t_117 kt_117 (strcs f1 (p1 &&& (255 : Int32))) T229.heap n0 O229 fx230 fx232 fx232 fx233 fx233 fx234 fx234 fx239 fx240 fx235 fx236 (strcs_hp (own_char rfl)) (strcs_len _ _) fx239 fx240 fx235 fx236 (strcs_hp (own_char rfl)) (strcs_len _ _) fx241 fx242 fx237 fx238 (strcs_hp (own_char rfl)) (strcs_len _ _) fx241 fx242 fx237 fx238 (strcs_hp (own_char rfl)) (strcs_len _ _)) hZ (hw _ (List.mem_of_getElem? (i := 59) rfl)) (hw _ (List.mem_of_getElem? (i := 32) rfl)) (by decide) (by decide)) q231a q231c (g := (mkF m 322 #[oI p0, oI p1, oI p2, oI p3, oI p4, oI (p0 &&& (255 : Int32)), oI a2, oI e1, oI e2, oI (p1 &&& (255 : Int32)), oI b2, oI f1, oI f2, oI uu, oR b_114, oR b_115, oR b_117, oR b_119, oR b121, oR b132, oI (0 : Int32), oR b132, oI (0 : Int32)] [(.ref b121), (.ref b121)])) rfl (by rw [hml]; rfl) (Steps.refl _) (argsL := [(.ref b121)]) (rest := []) (lenOf pd_7 rfl) rfl (by show 2 * 0 + _ ≤ _; exact Nat.le_of_eq rfl) (hb hby at_322) (fun _ _ => ⟨rfl, rfl, (by decide : 18 + 0 ≤ _), (by decide : 162 + 0 ≤ _)⟩)
          dsimp only [Pt.U, Pt.locs, Pt.cells, Pt.slots] at X231 l231 y231 z231 st231 hQ231
          subst l231 y231 z231
          obtain ⟨v231, N231q, K231q⟩ := hQ231
          have w231 : (fn10q Z b121 b121 b_114 b_114 b_117 b_117 p2 p2 t_114 kt_114 (strcs e1 (p0 &&& (255 : Int32))) t_114 kt_114 (strcs e1 (p0 &&& (255 : Int32))) t_117 kt_117 (strcs f1 (p1 &&& (255 : Int32))) t_117 kt_117 (strcs f1 (p1 &&& (255 : Int32)))) = (1 : Int32) := by unfold fn10q; rw [if_pos (rfl : p2 = p2), if_neg (by simp : ¬ ((if (strcs e1 (p0 &&& (255 : Int32))) = (strcs e1 (p0 &&& (255 : Int32))) then (1 : Int32) else (0 : Int32)) = (0 : Int32))), if_neg (by simp : ¬ ((if (strcs f1 (p1 &&& (255 : Int32))) = (strcs f1 (p1 &&& (255 : Int32))) then (1 : Int32) else (0 : Int32)) = (0 : Int32)))]; all_goals first | rfl | decide
          rw [w231] at v231
          subst v231
          have N231 := Fr.app N229 N231q
          have O231 := O229.keep K231q all0
          have Kc231 := Kc229.trans K231q all0
          have fx243 := (Nat.le_trans (Nat.le_trans (Nat.le_refl _) K229q.1) K231q.1)
          obtain ⟨fs, hr, hrun, hended, hRW⟩ := Stand.leaveW X231 hSi fx243 (v := some (.int (1 : Int32))) (fun h => by rw [Bd.returns] at h; cases h)
          refine ⟨_, _, pre209 _ ?_, hrun, hended, _, _, rfl, ?_, own_rwmono hRW (by decide) (by decide)⟩
          · show oP p e below T188 (mkF m 253 #[oI p0, oI p1, oI p2, oI p3, oI p4, oI (p0 &&& (255 : Int32)), oI a2, oI e1, oI e2, oI (p1 &&& (255 : Int32)), oI b2, oI f1, oI f2, oI uu, oR b_114, oR b_115, oR b_117, oR b_119, oR b121, oR b132, oI (0 : Int32), oR b132, oU] [(.int uu), (.int p2)]) _
            refine XS.icmpYes X188.here hx rfl (pc0 := 253) (pc' := 260) rfl (hb hby at_253) rfl (feq hc210).2 (by decide) (by decide) ?_
            show oP p e below T188 (mkF m 260 #[oI p0, oI p1, oI p2, oI p3, oI p4, oI (p0 &&& (255 : Int32)), oI a2, oI e1, oI e2, oI (p1 &&& (255 : Int32)), oI b2, oI f1, oI f2, oI uu, oR b_114, oR b_115, oR b_117, oR b_119, oR b121, oR b132, oI (0 : Int32), oR b132, oU] []) _
            refine XS.iconst X188.here hx rfl (hb hby at_260) ?_
            show oP p e below T188 (mkF m 261 #[oI p0, oI p1, oI p2, oI p3, oI p4, oI (p0 &&& (255 : Int32)), oI a2, oI e1, oI e2, oI (p1 &&& (255 : Int32)), oI b2, oI f1, oI f2, oI uu, oR b_114, oR b_115, oR b_117, oR b_119, oR b121, oR b132, oI (0 : Int32), oR b132, oU] [(.int (0 : Int32))]) _
            refine XS.istore X188.here hx rfl (hb hby at_261) rfl (l' := #[oI p0, oI p1, oI p2, oI p3, oI p4, oI (p0 &&& (255 : Int32)), oI a2, oI e1, oI e2, oI (p1 &&& (255 : Int32)), oI b2, oI f1, oI f2, oI uu, oR b_114, oR b_115, oR b_117, oR b_119, oR b121, oR b132, oI (0 : Int32), oR b132, oI (0 : Int32)]) rfl ?_
            show oP p e below T188 (mkF m 263 #[oI p0, oI p1, oI p2, oI p3, oI p4, oI (p0 &&& (255 : Int32)), oI a2, oI e1, oI e2, oI (p1 &&& (255 : Int32)), oI b2, oI f1, oI f2, oI uu, oR b_114, oR b_115, oR b_117, oR b_119, oR b121, oR b132, oI (0 : Int32), oR b132, oI (0 : Int32)] []) _
            refine XS.goto X188.here hx rfl (pc0 := 263) (pc' := 306) rfl (hb hby at_263) (by decide) (by decide) ?_
            show oP p e below T188 (mkF m 306 #[oI p0, oI p1, oI p2, oI p3, oI p4, oI (p0 &&& (255 : Int32)), oI a2, oI e1, oI e2, oI (p1 &&& (255 : Int32)), oI b2, oI f1, oI f2, oI uu, oR b_114, oR b_115, oR b_117, oR b_119, oR b121, oR b132, oI (0 : Int32), oR b132, oI (0 : Int32)] []) _
            refine XS.aload X188.here hx rfl (hb hby at_306) rfl rfl ?_
            show oP p e below T188 (mkF m 308 #[oI p0, oI p1, oI p2, oI p3, oI p4, oI (p0 &&& (255 : Int32)), oI a2, oI e1, oI e2, oI (p1 &&& (255 : Int32)), oI b2, oI f1, oI f2, oI uu, oR b_114, oR b_115, oR b_117, oR b_119, oR b121, oR b132, oI (0 : Int32), oR b132, oI (0 : Int32)] [(.ref b121)]) _
            refine XS.aload X188.here hx rfl (hb hby at_308) rfl rfl ?_
            show oP p e below T188 (mkF m 310 #[oI p0, oI p1, oI p2, oI p3, oI p4, oI (p0 &&& (255 : Int32)), oI a2, oI e1, oI e2, oI (p1 &&& (255 : Int32)), oI b2, oI f1, oI f2, oI uu, oR b_114, oR b_115, oR b_117, oR b_119, oR b121, oR b132, oI (0 : Int32), oR b132, oI (0 : Int32)] [(.ref b132), (.ref b121)]) _
            refine st229.trans ?_
            show oP p e below T229 (mkF m 313 #[oI p0, oI p1, oI p2, oI p3, oI p4, oI (p0 &&& (255 : Int32)), oI a2, oI e1, oI e2, oI (p1 &&& (255 : Int32)), oI b2, oI f1, oI f2, oI uu, oR b_114, oR b_115, oR b_117, oR b_119, oR b121, oR b132, oI (0 : Int32), oR b132, oI (0 : Int32)] [(.int (0 : Int32))]) _
            refine XS.iload X229.here hx rfl (hb hby at_313) rfl ?_
            show oP p e below T229 (mkF m 315 #[oI p0, oI p1, oI p2, oI p3, oI p4, oI (p0 &&& (255 : Int32)), oI a2, oI e1, oI e2, oI (p1 &&& (255 : Int32)), oI b2, oI f1, oI f2, oI uu, oR b_114, oR b_115, oR b_117, oR b_119, oR b121, oR b132, oI (0 : Int32), oR b132, oI (0 : Int32)] [(.int (0 : Int32)), (.int (0 : Int32))]) _
            refine XS.icmpNo X229.here hx rfl (hb hby at_315) rfl (teq (by decide : (0 : Int32) = (0 : Int32))).2 ?_
            show oP p e below T229 (mkF m 318 #[oI p0, oI p1, oI p2, oI p3, oI p4, oI (p0 &&& (255 : Int32)), oI a2, oI e1, oI e2, oI (p1 &&& (255 : Int32)), oI b2, oI f1, oI f2, oI uu, oR b_114, oR b_115, oR b_117, oR b_119, oR b121, oR b132, oI (0 : Int32), oR b132, oI (0 : Int32)] []) _
            refine XS.aload X229.here hx rfl (hb hby at_318) rfl rfl ?_
            show oP p e below T229 (mkF m 320 #[oI p0, oI p1, oI p2, oI p3, oI p4, oI (p0 &&& (255 : Int32)), oI a2, oI e1, oI e2, oI (p1 &&& (255 : Int32)), oI b2, oI f1, oI f2, oI uu, oR b_114, oR b_115, oR b_117, oR b_119, oR b121, oR b132, oI (0 : Int32), oR b132, oI (0 : Int32)] [(.ref b121)]) _
            refine XS.aload X229.here hx rfl (hb hby at_320) rfl rfl ?_
            show oP p e below T229 (mkF m 322 #[oI p0, oI p1, oI p2, oI p3, oI p4, oI (p0 &&& (255 : Int32)), oI a2, oI e1, oI e2, oI (p1 &&& (255 : Int32)), oI b2, oI f1, oI f2, oI uu, oR b_114, oR b_115, oR b_117, oR b_119, oR b121, oR b132, oI (0 : Int32), oR b132, oI (0 : Int32)] [(.ref b121), (.ref b121)]) _
            refine st231.trans ?_
            show oP p e below T231 (mkF m 325 #[oI p0, oI p1, oI p2, oI p3, oI p4, oI (p0 &&& (255 : Int32)), oI a2, oI e1, oI e2, oI (p1 &&& (255 : Int32)), oI b2, oI f1, oI f2, oI uu, oR b_114, oR b_115, oR b_117, oR b_119, oR b121, oR b132, oI (0 : Int32), oR b132, oI (0 : Int32)] [(.int (1 : Int32))]) _
            refine XS.ifNo X231.here hx rfl (hb hby at_325) rfl ((if0 _ _).trans (feq (by decide : ¬ ((1 : Int32) = (0 : Int32)))).1) ?_
            show oP p e below T231 (mkF m 328 #[oI p0, oI p1, oI p2, oI p3, oI p4, oI (p0 &&& (255 : Int32)), oI a2, oI e1, oI e2, oI (p1 &&& (255 : Int32)), oI b2, oI f1, oI f2, oI uu, oR b_114, oR b_115, oR b_117, oR b_119, oR b121, oR b132, oI (0 : Int32), oR b132, oI (0 : Int32)] []) _
            refine XS.iconst X231.here hx rfl (hb hby at_328) ?_
            show oP p e below T231 (mkF m 329 #[oI p0, oI p1, oI p2, oI p3, oI p4, oI (p0 &&& (255 : Int32)), oI a2, oI e1, oI e2, oI (p1 &&& (255 : Int32)), oI b2, oI f1, oI f2, oI uu, oR b_114, oR b_115, oR b_117, oR b_119, oR b121, oR b132, oI (0 : Int32), oR b132, oI (0 : Int32)] [(.int (1 : Int32))]) _
            refine XS.goto X231.here hx rfl (pc0 := 329) (pc' := 333) rfl (hb hby at_329) (by decide) (by decide) ?_
            show oP p e below T231 (mkF m 333 #[oI p0, oI p1, oI p2, oI p3, oI p4, oI (p0 &&& (255 : Int32)), oI a2, oI e1, oI e2, oI (p1 &&& (255 : Int32)), oI b2, oI f1, oI f2, oI uu, oR b_114, oR b_115, oR b_117, oR b_119, oR b121, oR b132, oI (0 : Int32), oR b132, oI (0 : Int32)] [(.int (1 : Int32))]) _
            exact retN X231 hx (t := .boolean) Bd.returns (by simp) (hb hby at_333) hr
          · show (some (.int (1 : Int32)) : Option Value) = some (.int (1 : Int32)) ∧ Fr n0 _ ∧ Keep h0 T231.heap []
            exact ⟨rfl, N231, Kc231⟩
  · obtain ⟨cq244, kq244, q244a, q244b, q244c⟩ := isOf hZ rfl fx162
    obtain ⟨_, _, ⟨T244, L244, k244, n244⟩, -, X244, ⟨Lc244, hQ244, l244, y244, z244⟩, st244⟩ := X142.virtualBack hx (y := (⟨"com/example/narada/narada/client/MessageQueue", "equals", "(Ljava/lang/Object;)Z"⟩ : MethodName)) (z := (⟨"com/example/narada/narada/client/MessageQueue", "equals", "(Ljava/lang/Object;)Z"⟩ : MethodName)) hown (mvT hZ (hw _ (List.mem_of_getElem? (i := 55) rfl))) (mvT hZ (hw _ (List.mem_of_getElem? (i := 56) rfl))) (notFace_of_selects (args := #[]) (mvT hZ (hw _ (List.mem_of_getElem? (i := 58) rfl)))) (mvT hZ (hw _ (List.mem_of_getElem? (i := 58) rfl))) (mvT hZ (hw _ (List.mem_of_getElem? (i := 57) rfl))) (by decide) (backOf (W := 0) (rm10n l Z a0 hw hS [] b121 T142.heap n0 O142 ) hZ (hw _ (List.mem_of_getElem? (i := 59) rfl)) (hw _ (List.mem_of_getElem? (i := 32) rfl)) (by decide) (by decide)) q244a q244c (g := (mkF m 310 #[oI p0, oI p1, oI p2, oI p3, oI p4, oI (p0 &&& (255 : Int32)), oI a2, oI e1, oI e2, oI (p1 &&& (255 : Int32)), oI b2, oI f1, oI f2, oI uu, oR b_114, oR b_115, oR b_117, oR b_119, oR b121, oR b132, oI (1 : Int32), oN, oI (0 : Int32)] [.null, (.ref b121)])) rfl (by rw [hml]; rfl) (Steps.refl _) (argsL := [.null]) (rest := []) (lenOf pd_7 rfl) rfl (by show 2 * 0 + _ ≤ _; exact Nat.le_of_eq rfl) (hb hby at_310) (fun _ _ => ⟨rfl, rfl, (by decide : 18 + 0 ≤ _), (by decide : 162 + 0 ≤ _)⟩)
    dsimp only [Pt.U, Pt.locs, Pt.cells, Pt.slots] at X244 l244 y244 z244 st244 hQ244
    subst l244 y244 z244
    obtain ⟨v244, N244q, K244q⟩ := hQ244
    have w244 : (fn10n Z b121) = (0 : Int32) := rfl
    rw [w244] at v244
    subst v244
    have N244 := Fr.app N142 N244q
    have O244 := O142.keep K244q all0
    have Kc244 := Kc142.trans K244q all0
    have fx245 := (fx162.keep K244q)
    have fx247 := (fx163.keep K244q nin0)
    have fx248 := (fx164.keep K244q nin0)
    have fx249 := (fx165.keep K244q nin0)
    have fx250 := (fx148.keep K244q nin0)
    have fx251 := (fx149.keep K244q nin0)
    have fx252 := (fx156.keep K244q nin0)
    have fx253 := (fx157.keep K244q nin0)
    have fx254 := (fx146.keep K244q)
    have fx255 := (fx147.keep K244q nin0)
    have fx256 := (fx154.keep K244q)
    have fx257 := (fx155.keep K244q nin0)
    obtain ⟨cq246, kq246, q246a, q246b, q246c⟩ := isOf hZ rfl fx245
    obtain ⟨_, _, ⟨T246, L246, k246, n246⟩, -, X246, ⟨Lc246, hQ246, l246, y246, z246⟩, st246⟩ := X244.virtualBack hx (y := (⟨"com/example/narada/narada/client/MessageQueue", "equals", "(Ljava/lang/Object;)Z"⟩ : MethodName)) (z := (⟨"com/example/narada/narada/client/MessageQueue", "equals", "(Ljava/lang/Object;)Z"⟩ : MethodName)) hown (mvT hZ (hw _ (List.mem_of_getElem? (i := 55) rfl))) (mvT hZ (hw _ (List.mem_of_getElem? (i := 56) rfl))) (notFace_of_selects (args := #[]) (mvT hZ (hw _ (List.mem_of_getElem? (i := 58) rfl)))) (mvT hZ (hw _ (List.mem_of_getElem? (i := 58) rfl))) (mvT hZ (hw _ (List.mem_of_getElem? (i := 57) rfl))) (by decide) (backOf (W := 0) (rm10q l Z a0 hw hS [] b121 b121 b_114 b_114 b_117 b_117 p2 p2 t_114 kt_114 (strcs e1 (p0 &&& (255 : Int32))) t_114 kt_114 (strcs e1 (p0 &&& (255 : Int32))) t_117 kt_117 (strcs f1 (p1 &&& (255 : Int32))) t_117 kt_117 (strcs f1 (p1 &&& (255 : Int32))) T244.heap n0 O244 fx245 fx247 fx247 fx248 fx248 fx249 fx249 fx254 fx255 fx250 fx251 (strcs_hp (own_char rfl)) (strcs_len _ _) fx254 fx255 fx250 fx251 (strcs_hp (own_char rfl)) (strcs_len _ _) fx256 fx257 fx252 fx253 (strcs_hp (own_char rfl)) (strcs_len _ _) fx256 fx257 fx252 fx253 (strcs_hp (own_char rfl)) (strcs_len _ _)) hZ (hw _ (List.mem_of_getElem? (i := 59) rfl)) (hw _ (List.mem_of_getElem? (i := 32) rfl)) (by decide) (by decide)) q246a q246c (g := (mkF m 322 #[oI p0, oI p1, oI p2, oI p3, oI p4, oI (p0 &&& (255 : Int32)), oI a2, oI e1, oI e2, oI (p1 &&& (255 : Int32)), oI b2, oI f1, oI f2, oI uu, oR b_114, oR b_115, oR b_117, oR b_119, oR b121, oR b132, oI (1 : Int32), oN, oI (0 : Int32)] [(.ref b121), (.ref b121)])) rfl (by rw [hml]; rfl) (Steps.refl _) (argsL := [(.ref b121)]) (rest := []) (lenOf pd_7 rfl) rfl (by show 2 * 0 + _ ≤ _; exact Nat.le_of_eq rfl) (hb hby at_322) (fun _ _ => ⟨rfl, rfl, (by decide : 18 + 0 ≤ _), (by decide : 162 + 0 ≤ _)⟩)
    dsimp only [Pt.U, Pt.locs, Pt.cells, Pt.slots] at X246 l246 y246 z246 st246 hQ246
    subst l246 y246 z246
    obtain ⟨v246, N246q, K246q⟩ := hQ246
    have w246 : (fn10q Z b121 b121 b_114 b_114 b_117 b_117 p2 p2 t_114 kt_114 (strcs e1 (p0 &&& (255 : Int32))) t_114 kt_114 (strcs e1 (p0 &&& (255 : Int32))) t_117 kt_117 (strcs f1 (p1 &&& (255 : Int32))) t_117 kt_117 (strcs f1 (p1 &&& (255 : Int32)))) = (1 : Int32) := by unfold fn10q; rw [if_pos (rfl : p2 = p2), if_neg (by simp : ¬ ((if (strcs e1 (p0 &&& (255 : Int32))) = (strcs e1 (p0 &&& (255 : Int32))) then (1 : Int32) else (0 : Int32)) = (0 : Int32))), if_neg (by simp : ¬ ((if (strcs f1 (p1 &&& (255 : Int32))) = (strcs f1 (p1 &&& (255 : Int32))) then (1 : Int32) else (0 : Int32)) = (0 : Int32)))]; all_goals first | rfl | decide
    rw [w246] at v246
    subst v246
    have N246 := Fr.app N244 N246q
    have O246 := O244.keep K246q all0
    have Kc246 := Kc244.trans K246q all0
    have fx258 := (Nat.le_trans (Nat.le_trans (Nat.le_refl _) K244q.1) K246q.1)
    obtain ⟨fs, hr, hrun, hended, hRW⟩ := Stand.leaveW X246 hSi fx258 (v := some (.int (1 : Int32))) (fun h => by rw [Bd.returns] at h; cases h)
    refine ⟨_, _, pre166 _ ?_, hrun, hended, _, _, rfl, ?_, own_rwmono hRW (by decide) (by decide)⟩
    · show oP p e below T142 (mkF m 213 #[oI p0, oI p1, oI p2, oI p3, oI p4, oI (p0 &&& (255 : Int32)), oI a2, oI e1, oI e2, oI (p1 &&& (255 : Int32)), oI b2, oI f1, oI f2, oI uu, oR b_114, oR b_115, oR b_117, oR b_119, oR b121, oR b132, oI (1 : Int32), oU, oU] []) _
      refine XS.iload X142.here hx rfl (hb hby at_213) rfl ?_
      show oP p e below T142 (mkF m 215 #[oI p0, oI p1, oI p2, oI p3, oI p4, oI (p0 &&& (255 : Int32)), oI a2, oI e1, oI e2, oI (p1 &&& (255 : Int32)), oI b2, oI f1, oI f2, oI uu, oR b_114, oR b_115, oR b_117, oR b_119, oR b121, oR b132, oI (1 : Int32), oU, oU] [(.int (1 : Int32))]) _
      refine XS.ifYes X142.here hx rfl (pc0 := 215) (pc' := 266) rfl (hb hby at_215) rfl ((if0 _ _).trans (feq (by decide : ¬ ((1 : Int32) = (0 : Int32)))).2) (by decide) (by decide) ?_
      show oP p e below T142 (mkF m 266 #[oI p0, oI p1, oI p2, oI p3, oI p4, oI (p0 &&& (255 : Int32)), oI a2, oI e1, oI e2, oI (p1 &&& (255 : Int32)), oI b2, oI f1, oI f2, oI uu, oR b_114, oR b_115, oR b_117, oR b_119, oR b121, oR b132, oI (1 : Int32), oU, oU] []) _
      refine XS.iload X142.here hx rfl (hb hby at_266) rfl ?_
      show oP p e below T142 (mkF m 268 #[oI p0, oI p1, oI p2, oI p3, oI p4, oI (p0 &&& (255 : Int32)), oI a2, oI e1, oI e2, oI (p1 &&& (255 : Int32)), oI b2, oI f1, oI f2, oI uu, oR b_114, oR b_115, oR b_117, oR b_119, oR b121, oR b132, oI (1 : Int32), oU, oU] [(.int (1 : Int32))]) _
      refine XS.iconst X142.here hx rfl (hb hby at_268) ?_
      show oP p e below T142 (mkF m 269 #[oI p0, oI p1, oI p2, oI p3, oI p4, oI (p0 &&& (255 : Int32)), oI a2, oI e1, oI e2, oI (p1 &&& (255 : Int32)), oI b2, oI f1, oI f2, oI uu, oR b_114, oR b_115, oR b_117, oR b_119, oR b121, oR b132, oI (1 : Int32), oU, oU] [(.int (1 : Int32)), (.int (1 : Int32))]) _
      refine XS.icmpNo X142.here hx rfl (hb hby at_269) rfl (teq (by decide : (1 : Int32) = (1 : Int32))).2 ?_
      show oP p e below T142 (mkF m 272 #[oI p0, oI p1, oI p2, oI p3, oI p4, oI (p0 &&& (255 : Int32)), oI a2, oI e1, oI e2, oI (p1 &&& (255 : Int32)), oI b2, oI f1, oI f2, oI uu, oR b_114, oR b_115, oR b_117, oR b_119, oR b121, oR b132, oI (1 : Int32), oU, oU] []) _
      refine XS.aconstNull X142.here hx rfl (hb hby at_272) ?_
      show oP p e below T142 (mkF m 273 #[oI p0, oI p1, oI p2, oI p3, oI p4, oI (p0 &&& (255 : Int32)), oI a2, oI e1, oI e2, oI (p1 &&& (255 : Int32)), oI b2, oI f1, oI f2, oI uu, oR b_114, oR b_115, oR b_117, oR b_119, oR b121, oR b132, oI (1 : Int32), oU, oU] [.null]) _
      refine XS.astore X142.here hx rfl (hb hby at_273) rfl rfl (l' := #[oI p0, oI p1, oI p2, oI p3, oI p4, oI (p0 &&& (255 : Int32)), oI a2, oI e1, oI e2, oI (p1 &&& (255 : Int32)), oI b2, oI f1, oI f2, oI uu, oR b_114, oR b_115, oR b_117, oR b_119, oR b121, oR b132, oI (1 : Int32), oN, oU]) rfl ?_
      show oP p e below T142 (mkF m 275 #[oI p0, oI p1, oI p2, oI p3, oI p4, oI (p0 &&& (255 : Int32)), oI a2, oI e1, oI e2, oI (p1 &&& (255 : Int32)), oI b2, oI f1, oI f2, oI uu, oR b_114, oR b_115, oR b_117, oR b_119, oR b121, oR b132, oI (1 : Int32), oN, oU] []) _
      refine XS.iconst X142.here hx rfl (hb hby at_275) ?_
      show oP p e below T142 (mkF m 276 #[oI p0, oI p1, oI p2, oI p3, oI p4, oI (p0 &&& (255 : Int32)), oI a2, oI e1, oI e2, oI (p1 &&& (255 : Int32)), oI b2, oI f1, oI f2, oI uu, oR b_114, oR b_115, oR b_117, oR b_119, oR b121, oR b132, oI (1 : Int32), oN, oU] [(.int (0 : Int32))]) _
      refine XS.istore X142.here hx rfl (hb hby at_276) rfl (l' := #[oI p0, oI p1, oI p2, oI p3, oI p4, oI (p0 &&& (255 : Int32)), oI a2, oI e1, oI e2, oI (p1 &&& (255 : Int32)), oI b2, oI f1, oI f2, oI uu, oR b_114, oR b_115, oR b_117, oR b_119, oR b121, oR b132, oI (1 : Int32), oN, oI (0 : Int32)]) rfl ?_
      show oP p e below T142 (mkF m 278 #[oI p0, oI p1, oI p2, oI p3, oI p4, oI (p0 &&& (255 : Int32)), oI a2, oI e1, oI e2, oI (p1 &&& (255 : Int32)), oI b2, oI f1, oI f2, oI uu, oR b_114, oR b_115, oR b_117, oR b_119, oR b121, oR b132, oI (1 : Int32), oN, oI (0 : Int32)] []) _
      refine XS.goto X142.here hx rfl (pc0 := 278) (pc' := 306) rfl (hb hby at_278) (by decide) (by decide) ?_
      show oP p e below T142 (mkF m 306 #[oI p0, oI p1, oI p2, oI p3, oI p4, oI (p0 &&& (255 : Int32)), oI a2, oI e1, oI e2, oI (p1 &&& (255 : Int32)), oI b2, oI f1, oI f2, oI uu, oR b_114, oR b_115, oR b_117, oR b_119, oR b121, oR b132, oI (1 : Int32), oN, oI (0 : Int32)] []) _
      refine XS.aload X142.here hx rfl (hb hby at_306) rfl rfl ?_
      show oP p e below T142 (mkF m 308 #[oI p0, oI p1, oI p2, oI p3, oI p4, oI (p0 &&& (255 : Int32)), oI a2, oI e1, oI e2, oI (p1 &&& (255 : Int32)), oI b2, oI f1, oI f2, oI uu, oR b_114, oR b_115, oR b_117, oR b_119, oR b121, oR b132, oI (1 : Int32), oN, oI (0 : Int32)] [(.ref b121)]) _
      refine XS.aload X142.here hx rfl (hb hby at_308) rfl rfl ?_
      show oP p e below T142 (mkF m 310 #[oI p0, oI p1, oI p2, oI p3, oI p4, oI (p0 &&& (255 : Int32)), oI a2, oI e1, oI e2, oI (p1 &&& (255 : Int32)), oI b2, oI f1, oI f2, oI uu, oR b_114, oR b_115, oR b_117, oR b_119, oR b121, oR b132, oI (1 : Int32), oN, oI (0 : Int32)] [.null, (.ref b121)]) _
      refine st244.trans ?_
      show oP p e below T244 (mkF m 313 #[oI p0, oI p1, oI p2, oI p3, oI p4, oI (p0 &&& (255 : Int32)), oI a2, oI e1, oI e2, oI (p1 &&& (255 : Int32)), oI b2, oI f1, oI f2, oI uu, oR b_114, oR b_115, oR b_117, oR b_119, oR b121, oR b132, oI (1 : Int32), oN, oI (0 : Int32)] [(.int (0 : Int32))]) _
      refine XS.iload X244.here hx rfl (hb hby at_313) rfl ?_
      show oP p e below T244 (mkF m 315 #[oI p0, oI p1, oI p2, oI p3, oI p4, oI (p0 &&& (255 : Int32)), oI a2, oI e1, oI e2, oI (p1 &&& (255 : Int32)), oI b2, oI f1, oI f2, oI uu, oR b_114, oR b_115, oR b_117, oR b_119, oR b121, oR b132, oI (1 : Int32), oN, oI (0 : Int32)] [(.int (0 : Int32)), (.int (0 : Int32))]) _
      refine XS.icmpNo X244.here hx rfl (hb hby at_315) rfl (teq (by decide : (0 : Int32) = (0 : Int32))).2 ?_
      show oP p e below T244 (mkF m 318 #[oI p0, oI p1, oI p2, oI p3, oI p4, oI (p0 &&& (255 : Int32)), oI a2, oI e1, oI e2, oI (p1 &&& (255 : Int32)), oI b2, oI f1, oI f2, oI uu, oR b_114, oR b_115, oR b_117, oR b_119, oR b121, oR b132, oI (1 : Int32), oN, oI (0 : Int32)] []) _
      refine XS.aload X244.here hx rfl (hb hby at_318) rfl rfl ?_
      show oP p e below T244 (mkF m 320 #[oI p0, oI p1, oI p2, oI p3, oI p4, oI (p0 &&& (255 : Int32)), oI a2, oI e1, oI e2, oI (p1 &&& (255 : Int32)), oI b2, oI f1, oI f2, oI uu, oR b_114, oR b_115, oR b_117, oR b_119, oR b121, oR b132, oI (1 : Int32), oN, oI (0 : Int32)] [(.ref b121)]) _
      refine XS.aload X244.here hx rfl (hb hby at_320) rfl rfl ?_
      show oP p e below T244 (mkF m 322 #[oI p0, oI p1, oI p2, oI p3, oI p4, oI (p0 &&& (255 : Int32)), oI a2, oI e1, oI e2, oI (p1 &&& (255 : Int32)), oI b2, oI f1, oI f2, oI uu, oR b_114, oR b_115, oR b_117, oR b_119, oR b121, oR b132, oI (1 : Int32), oN, oI (0 : Int32)] [(.ref b121), (.ref b121)]) _
      refine st246.trans ?_
      show oP p e below T246 (mkF m 325 #[oI p0, oI p1, oI p2, oI p3, oI p4, oI (p0 &&& (255 : Int32)), oI a2, oI e1, oI e2, oI (p1 &&& (255 : Int32)), oI b2, oI f1, oI f2, oI uu, oR b_114, oR b_115, oR b_117, oR b_119, oR b121, oR b132, oI (1 : Int32), oN, oI (0 : Int32)] [(.int (1 : Int32))]) _
      refine XS.ifNo X246.here hx rfl (hb hby at_325) rfl ((if0 _ _).trans (feq (by decide : ¬ ((1 : Int32) = (0 : Int32)))).1) ?_
      show oP p e below T246 (mkF m 328 #[oI p0, oI p1, oI p2, oI p3, oI p4, oI (p0 &&& (255 : Int32)), oI a2, oI e1, oI e2, oI (p1 &&& (255 : Int32)), oI b2, oI f1, oI f2, oI uu, oR b_114, oR b_115, oR b_117, oR b_119, oR b121, oR b132, oI (1 : Int32), oN, oI (0 : Int32)] []) _
      refine XS.iconst X246.here hx rfl (hb hby at_328) ?_
      show oP p e below T246 (mkF m 329 #[oI p0, oI p1, oI p2, oI p3, oI p4, oI (p0 &&& (255 : Int32)), oI a2, oI e1, oI e2, oI (p1 &&& (255 : Int32)), oI b2, oI f1, oI f2, oI uu, oR b_114, oR b_115, oR b_117, oR b_119, oR b121, oR b132, oI (1 : Int32), oN, oI (0 : Int32)] [(.int (1 : Int32))]) _
      refine XS.goto X246.here hx rfl (pc0 := 329) (pc' := 333) rfl (hb hby at_329) (by decide) (by decide) ?_
      show oP p e below T246 (mkF m 333 #[oI p0, oI p1, oI p2, oI p3, oI p4, oI (p0 &&& (255 : Int32)), oI a2, oI e1, oI e2, oI (p1 &&& (255 : Int32)), oI b2, oI f1, oI f2, oI uu, oR b_114, oR b_115, oR b_117, oR b_119, oR b121, oR b132, oI (1 : Int32), oN, oI (0 : Int32)] [(.int (1 : Int32))]) _
      exact retN X246 hx (t := .boolean) Bd.returns (by simp) (hb hby at_333) hr
    · show (some (.int (1 : Int32)) : Option Value) = some (.int (1 : Int32)) ∧ Fr n0 _ ∧ Keep h0 T246.heap []
      exact ⟨rfl, N246, Kc246⟩
  · obtain ⟨_, _, ⟨T259, L259, k259, n259⟩, -, X259, ⟨Lc259, hQ259, l259, y259, z259⟩, st259⟩ := Jvm.LawKit.callS X142 hx (y := (⟨"java/lang/Integer", "valueOf", "(I)Ljava/lang/Integer;"⟩ : MethodName)) hown (mvT hZ (hw _ (List.mem_of_getElem? (i := 73) rfl))) (mvT hZ (hw _ (List.mem_of_getElem? (i := 74) rfl))) (mvT hZ (hw _ (List.mem_of_getElem? (i := 75) rfl))) (mvT hZ (hw _ (List.mem_of_getElem? (i := 76) rfl))) (by decide) (backOf (W := 0) (rm13 l Z a0 hw hS [] p2 T142.heap n0 O142 ) hZ (hw _ (List.mem_of_getElem? (i := 76) rfl)) (hw _ (List.mem_of_getElem? (i := 75) rfl)) (by decide) (by decide)) (g := (mkF m 288 #[oI p0, oI p1, oI p2, oI p3, oI p4, oI (p0 &&& (255 : Int32)), oI a2, oI e1, oI e2, oI (p1 &&& (255 : Int32)), oI b2, oI f1, oI f2, oI uu, oR b_114, oR b_115, oR b_117, oR b_119, oR b121, oR b132, oI (2 : Int32), oU, oU] [(.int p2)])) rfl (by rw [hml]; rfl) (argsL := [(.int p2)]) (rest := []) (lenOf pd_11 rfl) rfl (by show 2 * 0 + _ ≤ _; exact Nat.le_of_eq rfl) (hb hby at_288) (fun _ _ => ⟨rfl, rfl, (by decide : 18 + 1 ≤ _), (by decide : 162 + 1 ≤ _)⟩)
    dsimp only [Pt.U, Pt.locs, Pt.cells, Pt.slots] at X259 l259 y259 z259 st259 hQ259
    subst l259 y259 z259
    obtain ⟨b_259, v259, N259q, K259q, po259_0⟩ := hQ259
    subst v259
    have N259 := Fr.app N142 N259q
    have O259 := O142.keep K259q all0
    have Kc259 := Kc142.trans K259q all0
    have fx260 := (fx146.keep K259q)
    have ne_b_114_b_259 : b_114 ≠ b_259 := Exa.ne fx260 po259_0 (by decide)
    have fx261 := (fx150.keep K259q)
    have ne_b_115_b_259 : b_115 ≠ b_259 := Exa.ne fx261 po259_0 (by decide)
    have fx262 := (fx154.keep K259q)
    have ne_b_117_b_259 : b_117 ≠ b_259 := Exa.ne fx262 po259_0 (by decide)
    have fx263 := (fx158.keep K259q)
    have ne_b_119_b_259 : b_119 ≠ b_259 := Exa.ne fx263 po259_0 (by decide)
    have fx264 := (fx162.keep K259q)
    have ne_b121_b_259 : b121 ≠ b_259 := Exa.ne fx264 po259_0 (by decide)
    have fx265 := (po142_0.keep K259q)
    have ne_b132_b_259 : b132 ≠ b_259 := Exa.ne fx265 po259_0 (by decide)
    obtain ⟨cq266, kq266, q266a, q266b, q266c⟩ := isOf hZ rfl fx264
    obtain ⟨_, _, ⟨T266, L266, k266, n266⟩, -, X266, ⟨Lc266, hQ266, l266, y266, z266⟩, st266⟩ := X259.virtualBack hx (y := (⟨"com/example/narada/narada/client/MessageQueue", "equals", "(Ljava/lang/Object;)Z"⟩ : MethodName)) (z := (⟨"com/example/narada/narada/client/MessageQueue", "equals", "(Ljava/lang/Object;)Z"⟩ : MethodName)) hown (mvT hZ (hw _ (List.mem_of_getElem? (i := 55) rfl))) (mvT hZ (hw _ (List.mem_of_getElem? (i := 56) rfl))) (notFace_of_selects (args := #[]) (mvT hZ (hw _ (List.mem_of_getElem? (i := 58) rfl)))) (mvT hZ (hw _ (List.mem_of_getElem? (i := 58) rfl))) (mvT hZ (hw _ (List.mem_of_getElem? (i := 57) rfl))) (by decide) (backOf (W := 0) (rm10i l Z a0 hw hS [] b121 b_259 T259.heap n0 O259 po259_0) hZ (hw _ (List.mem_of_getElem? (i := 59) rfl)) (hw _ (List.mem_of_getElem? (i := 32) rfl)) (by decide) (by decide)) q266a q266c (g := (mkF m 310 #[oI p0, oI p1, oI p2, oI p3, oI p4, oI (p0 &&& (255 : Int32)), oI a2, oI e1, oI e2, oI (p1 &&& (255 : Int32)), oI b2, oI f1, oI f2, oI uu, oR b_114, oR b_115, oR b_117, oR b_119, oR b121, oR b132, oI (2 : Int32), oR b_259, oI (0 : Int32)] [(.ref b_259), (.ref b121)])) rfl (by rw [hml]; rfl) (Steps.refl _) (argsL := [(.ref b_259)]) (rest := []) (lenOf pd_7 rfl) rfl (by show 2 * 0 + _ ≤ _; exact Nat.le_of_eq rfl) (hb hby at_310) (fun _ _ => ⟨rfl, rfl, (by decide : 19 + 0 ≤ _), (by decide : 163 + 0 ≤ _)⟩)
    dsimp only [Pt.U, Pt.locs, Pt.cells, Pt.slots] at X266 l266 y266 z266 st266 hQ266
    subst l266 y266 z266
    obtain ⟨v266, N266q, K266q⟩ := hQ266
    have w266 : (fn10i Z b121 b_259) = (0 : Int32) := rfl
    rw [w266] at v266
    subst v266
    have N266 := Fr.app N259 N266q
    have O266 := O259.keep K266q all0
    have Kc266 := Kc259.trans K266q all0
    have fx267 := (fx264.keep K266q)
    have fx269 := ((fx163.keep K259q nin0).keep K266q nin0)
    have fx270 := ((fx164.keep K259q nin0).keep K266q nin0)
    have fx271 := ((fx165.keep K259q nin0).keep K266q nin0)
    have fx272 := ((fx148.keep K259q nin0).keep K266q nin0)
    have fx273 := ((fx149.keep K259q nin0).keep K266q nin0)
    have fx274 := ((fx156.keep K259q nin0).keep K266q nin0)
    have fx275 := ((fx157.keep K259q nin0).keep K266q nin0)
    have fx276 := (fx260.keep K266q)
    have fx277 := ((fx147.keep K259q nin0).keep K266q nin0)
    have fx278 := (fx262.keep K266q)
    have fx279 := ((fx155.keep K259q nin0).keep K266q nin0)
    obtain ⟨cq268, kq268, q268a, q268b, q268c⟩ := isOf hZ rfl fx267
    obtain ⟨_, _, ⟨T268, L268, k268, n268⟩, -, X268, ⟨Lc268, hQ268, l268, y268, z268⟩, st268⟩ := X266.virtualBack hx (y := (⟨"com/example/narada/narada/client/MessageQueue", "equals", "(Ljava/lang/Object;)Z"⟩ : MethodName)) (z := (⟨"com/example/narada/narada/client/MessageQueue", "equals", "(Ljava/lang/Object;)Z"⟩ : MethodName)) hown (mvT hZ (hw _ (List.mem_of_getElem? (i := 55) rfl))) (mvT hZ (hw _ (List.mem_of_getElem? (i := 56) rfl))) (notFace_of_selects (args := #[]) (mvT hZ (hw _ (List.mem_of_getElem? (i := 58) rfl)))) (mvT hZ (hw _ (List.mem_of_getElem? (i := 58) rfl))) (mvT hZ (hw _ (List.mem_of_getElem? (i := 57) rfl))) (by decide) (backOf (W := 0) (rm10q l Z a0 hw hS [] b121 b121 b_114 b_114 b_117 b_117 p2 p2 t_114 kt_114 (strcs e1 (p0 &&& (255 : Int32))) t_114 kt_114 (strcs e1 (p0 &&& (255 : Int32))) t_117 kt_117 (strcs f1 (p1 &&& (255 : Int32))) t_117 kt_117 (strcs f1 (p1 &&& (255 : Int32))) T266.heap n0 O266 fx267 fx269 fx269 fx270 fx270 fx271 fx271 fx276 fx277 fx272 fx273 (strcs_hp (own_char rfl)) (strcs_len _ _) fx276 fx277 fx272 fx273 (strcs_hp (own_char rfl)) (strcs_len _ _) fx278 fx279 fx274 fx275 (strcs_hp (own_char rfl)) (strcs_len _ _) fx278 fx279 fx274 fx275 (strcs_hp (own_char rfl)) (strcs_len _ _)) hZ (hw _ (List.mem_of_getElem? (i := 59) rfl)) (hw _ (List.mem_of_getElem? (i := 32) rfl)) (by decide) (by decide)) q268a q268c (g := (mkF m 322 #[oI p0, oI p1, oI p2, oI p3, oI p4, oI (p0 &&& (255 : Int32)), oI a2, oI e1, oI e2, oI (p1 &&& (255 : Int32)), oI b2, oI f1, oI f2, oI uu, oR b_114, oR b_115, oR b_117, oR b_119, oR b121, oR b132, oI (2 : Int32), oR b_259, oI (0 : Int32)] [(.ref b121), (.ref b121)])) rfl (by rw [hml]; rfl) (Steps.refl _) (argsL := [(.ref b121)]) (rest := []) (lenOf pd_7 rfl) rfl (by show 2 * 0 + _ ≤ _; exact Nat.le_of_eq rfl) (hb hby at_322) (fun _ _ => ⟨rfl, rfl, (by decide : 19 + 0 ≤ _), (by decide : 163 + 0 ≤ _)⟩)
    dsimp only [Pt.U, Pt.locs, Pt.cells, Pt.slots] at X268 l268 y268 z268 st268 hQ268
    subst l268 y268 z268
    obtain ⟨v268, N268q, K268q⟩ := hQ268
    have w268 : (fn10q Z b121 b121 b_114 b_114 b_117 b_117 p2 p2 t_114 kt_114 (strcs e1 (p0 &&& (255 : Int32))) t_114 kt_114 (strcs e1 (p0 &&& (255 : Int32))) t_117 kt_117 (strcs f1 (p1 &&& (255 : Int32))) t_117 kt_117 (strcs f1 (p1 &&& (255 : Int32)))) = (1 : Int32) := by unfold fn10q; rw [if_pos (rfl : p2 = p2), if_neg (by simp : ¬ ((if (strcs e1 (p0 &&& (255 : Int32))) = (strcs e1 (p0 &&& (255 : Int32))) then (1 : Int32) else (0 : Int32)) = (0 : Int32))), if_neg (by simp : ¬ ((if (strcs f1 (p1 &&& (255 : Int32))) = (strcs f1 (p1 &&& (255 : Int32))) then (1 : Int32) else (0 : Int32)) = (0 : Int32)))]; all_goals first | rfl | decide
    rw [w268] at v268
    subst v268
    have N268 := Fr.app N266 N268q
    have O268 := O266.keep K268q all0
    have Kc268 := Kc266.trans K268q all0
    have fx280 := (Nat.le_trans (Nat.le_trans (Nat.le_trans (Nat.le_refl _) K259q.1) K266q.1) K268q.1)
    obtain ⟨fs, hr, hrun, hended, hRW⟩ := Stand.leaveW X268 hSi fx280 (v := some (.int (1 : Int32))) (fun h => by rw [Bd.returns] at h; cases h)
    refine ⟨_, _, pre166 _ ?_, hrun, hended, _, _, rfl, ?_, own_rwmono hRW (by decide) (by decide)⟩
    · show oP p e below T142 (mkF m 213 #[oI p0, oI p1, oI p2, oI p3, oI p4, oI (p0 &&& (255 : Int32)), oI a2, oI e1, oI e2, oI (p1 &&& (255 : Int32)), oI b2, oI f1, oI f2, oI uu, oR b_114, oR b_115, oR b_117, oR b_119, oR b121, oR b132, oI (2 : Int32), oU, oU] []) _
      refine XS.iload X142.here hx rfl (hb hby at_213) rfl ?_
      show oP p e below T142 (mkF m 215 #[oI p0, oI p1, oI p2, oI p3, oI p4, oI (p0 &&& (255 : Int32)), oI a2, oI e1, oI e2, oI (p1 &&& (255 : Int32)), oI b2, oI f1, oI f2, oI uu, oR b_114, oR b_115, oR b_117, oR b_119, oR b121, oR b132, oI (2 : Int32), oU, oU] [(.int (2 : Int32))]) _
      refine XS.ifYes X142.here hx rfl (pc0 := 215) (pc' := 266) rfl (hb hby at_215) rfl ((if0 _ _).trans (feq (by decide : ¬ ((2 : Int32) = (0 : Int32)))).2) (by decide) (by decide) ?_
      show oP p e below T142 (mkF m 266 #[oI p0, oI p1, oI p2, oI p3, oI p4, oI (p0 &&& (255 : Int32)), oI a2, oI e1, oI e2, oI (p1 &&& (255 : Int32)), oI b2, oI f1, oI f2, oI uu, oR b_114, oR b_115, oR b_117, oR b_119, oR b121, oR b132, oI (2 : Int32), oU, oU] []) _
      refine XS.iload X142.here hx rfl (hb hby at_266) rfl ?_
      show oP p e below T142 (mkF m 268 #[oI p0, oI p1, oI p2, oI p3, oI p4, oI (p0 &&& (255 : Int32)), oI a2, oI e1, oI e2, oI (p1 &&& (255 : Int32)), oI b2, oI f1, oI f2, oI uu, oR b_114, oR b_115, oR b_117, oR b_119, oR b121, oR b132, oI (2 : Int32), oU, oU] [(.int (2 : Int32))]) _
      refine XS.iconst X142.here hx rfl (hb hby at_268) ?_
      show oP p e below T142 (mkF m 269 #[oI p0, oI p1, oI p2, oI p3, oI p4, oI (p0 &&& (255 : Int32)), oI a2, oI e1, oI e2, oI (p1 &&& (255 : Int32)), oI b2, oI f1, oI f2, oI uu, oR b_114, oR b_115, oR b_117, oR b_119, oR b121, oR b132, oI (2 : Int32), oU, oU] [(.int (1 : Int32)), (.int (2 : Int32))]) _
      refine XS.icmpYes X142.here hx rfl (pc0 := 269) (pc' := 281) rfl (hb hby at_269) rfl (feq (by decide : ¬ ((2 : Int32) = (1 : Int32)))).2 (by decide) (by decide) ?_
      show oP p e below T142 (mkF m 281 #[oI p0, oI p1, oI p2, oI p3, oI p4, oI (p0 &&& (255 : Int32)), oI a2, oI e1, oI e2, oI (p1 &&& (255 : Int32)), oI b2, oI f1, oI f2, oI uu, oR b_114, oR b_115, oR b_117, oR b_119, oR b121, oR b132, oI (2 : Int32), oU, oU] []) _
      refine XS.iload X142.here hx rfl (hb hby at_281) rfl ?_
      show oP p e below T142 (mkF m 283 #[oI p0, oI p1, oI p2, oI p3, oI p4, oI (p0 &&& (255 : Int32)), oI a2, oI e1, oI e2, oI (p1 &&& (255 : Int32)), oI b2, oI f1, oI f2, oI uu, oR b_114, oR b_115, oR b_117, oR b_119, oR b121, oR b132, oI (2 : Int32), oU, oU] [(.int (2 : Int32))]) _
      refine XS.iconst X142.here hx rfl (hb hby at_283) ?_
      show oP p e below T142 (mkF m 284 #[oI p0, oI p1, oI p2, oI p3, oI p4, oI (p0 &&& (255 : Int32)), oI a2, oI e1, oI e2, oI (p1 &&& (255 : Int32)), oI b2, oI f1, oI f2, oI uu, oR b_114, oR b_115, oR b_117, oR b_119, oR b121, oR b132, oI (2 : Int32), oU, oU] [(.int (2 : Int32)), (.int (2 : Int32))]) _
      refine XS.icmpNo X142.here hx rfl (hb hby at_284) rfl (teq (by decide : (2 : Int32) = (2 : Int32))).2 ?_
      show oP p e below T142 (mkF m 287 #[oI p0, oI p1, oI p2, oI p3, oI p4, oI (p0 &&& (255 : Int32)), oI a2, oI e1, oI e2, oI (p1 &&& (255 : Int32)), oI b2, oI f1, oI f2, oI uu, oR b_114, oR b_115, oR b_117, oR b_119, oR b121, oR b132, oI (2 : Int32), oU, oU] []) _
      refine XS.iloadN X142.here hx rfl (hb hby at_287) rfl ?_
      show oP p e below T142 (mkF m 288 #[oI p0, oI p1, oI p2, oI p3, oI p4, oI (p0 &&& (255 : Int32)), oI a2, oI e1, oI e2, oI (p1 &&& (255 : Int32)), oI b2, oI f1, oI f2, oI uu, oR b_114, oR b_115, oR b_117, oR b_119, oR b121, oR b132, oI (2 : Int32), oU, oU] [(.int p2)]) _
      refine st259 _ ?_
      show oP p e below T259 (mkF m 291 #[oI p0, oI p1, oI p2, oI p3, oI p4, oI (p0 &&& (255 : Int32)), oI a2, oI e1, oI e2, oI (p1 &&& (255 : Int32)), oI b2, oI f1, oI f2, oI uu, oR b_114, oR b_115, oR b_117, oR b_119, oR b121, oR b132, oI (2 : Int32), oU, oU] [(.ref b_259)]) _
      refine XS.astore X259.here hx rfl (hb hby at_291) rfl rfl (l' := #[oI p0, oI p1, oI p2, oI p3, oI p4, oI (p0 &&& (255 : Int32)), oI a2, oI e1, oI e2, oI (p1 &&& (255 : Int32)), oI b2, oI f1, oI f2, oI uu, oR b_114, oR b_115, oR b_117, oR b_119, oR b121, oR b132, oI (2 : Int32), oR b_259, oU]) rfl ?_
      show oP p e below T259 (mkF m 293 #[oI p0, oI p1, oI p2, oI p3, oI p4, oI (p0 &&& (255 : Int32)), oI a2, oI e1, oI e2, oI (p1 &&& (255 : Int32)), oI b2, oI f1, oI f2, oI uu, oR b_114, oR b_115, oR b_117, oR b_119, oR b121, oR b132, oI (2 : Int32), oR b_259, oU] []) _
      refine XS.iconst X259.here hx rfl (hb hby at_293) ?_
      show oP p e below T259 (mkF m 294 #[oI p0, oI p1, oI p2, oI p3, oI p4, oI (p0 &&& (255 : Int32)), oI a2, oI e1, oI e2, oI (p1 &&& (255 : Int32)), oI b2, oI f1, oI f2, oI uu, oR b_114, oR b_115, oR b_117, oR b_119, oR b121, oR b132, oI (2 : Int32), oR b_259, oU] [(.int (0 : Int32))]) _
      refine XS.istore X259.here hx rfl (hb hby at_294) rfl (l' := #[oI p0, oI p1, oI p2, oI p3, oI p4, oI (p0 &&& (255 : Int32)), oI a2, oI e1, oI e2, oI (p1 &&& (255 : Int32)), oI b2, oI f1, oI f2, oI uu, oR b_114, oR b_115, oR b_117, oR b_119, oR b121, oR b132, oI (2 : Int32), oR b_259, oI (0 : Int32)]) rfl ?_
      show oP p e below T259 (mkF m 296 #[oI p0, oI p1, oI p2, oI p3, oI p4, oI (p0 &&& (255 : Int32)), oI a2, oI e1, oI e2, oI (p1 &&& (255 : Int32)), oI b2, oI f1, oI f2, oI uu, oR b_114, oR b_115, oR b_117, oR b_119, oR b121, oR b132, oI (2 : Int32), oR b_259, oI (0 : Int32)] []) _
      refine XS.goto X259.here hx rfl (pc0 := 296) (pc' := 306) rfl (hb hby at_296) (by decide) (by decide) ?_
      show oP p e below T259 (mkF m 306 #[oI p0, oI p1, oI p2, oI p3, oI p4, oI (p0 &&& (255 : Int32)), oI a2, oI e1, oI e2, oI (p1 &&& (255 : Int32)), oI b2, oI f1, oI f2, oI uu, oR b_114, oR b_115, oR b_117, oR b_119, oR b121, oR b132, oI (2 : Int32), oR b_259, oI (0 : Int32)] []) _
      refine XS.aload X259.here hx rfl (hb hby at_306) rfl rfl ?_
      show oP p e below T259 (mkF m 308 #[oI p0, oI p1, oI p2, oI p3, oI p4, oI (p0 &&& (255 : Int32)), oI a2, oI e1, oI e2, oI (p1 &&& (255 : Int32)), oI b2, oI f1, oI f2, oI uu, oR b_114, oR b_115, oR b_117, oR b_119, oR b121, oR b132, oI (2 : Int32), oR b_259, oI (0 : Int32)] [(.ref b121)]) _
      refine XS.aload X259.here hx rfl (hb hby at_308) rfl rfl ?_
      show oP p e below T259 (mkF m 310 #[oI p0, oI p1, oI p2, oI p3, oI p4, oI (p0 &&& (255 : Int32)), oI a2, oI e1, oI e2, oI (p1 &&& (255 : Int32)), oI b2, oI f1, oI f2, oI uu, oR b_114, oR b_115, oR b_117, oR b_119, oR b121, oR b132, oI (2 : Int32), oR b_259, oI (0 : Int32)] [(.ref b_259), (.ref b121)]) _
      refine st266.trans ?_
      show oP p e below T266 (mkF m 313 #[oI p0, oI p1, oI p2, oI p3, oI p4, oI (p0 &&& (255 : Int32)), oI a2, oI e1, oI e2, oI (p1 &&& (255 : Int32)), oI b2, oI f1, oI f2, oI uu, oR b_114, oR b_115, oR b_117, oR b_119, oR b121, oR b132, oI (2 : Int32), oR b_259, oI (0 : Int32)] [(.int (0 : Int32))]) _
      refine XS.iload X266.here hx rfl (hb hby at_313) rfl ?_
      show oP p e below T266 (mkF m 315 #[oI p0, oI p1, oI p2, oI p3, oI p4, oI (p0 &&& (255 : Int32)), oI a2, oI e1, oI e2, oI (p1 &&& (255 : Int32)), oI b2, oI f1, oI f2, oI uu, oR b_114, oR b_115, oR b_117, oR b_119, oR b121, oR b132, oI (2 : Int32), oR b_259, oI (0 : Int32)] [(.int (0 : Int32)), (.int (0 : Int32))]) _
      refine XS.icmpNo X266.here hx rfl (hb hby at_315) rfl (teq (by decide : (0 : Int32) = (0 : Int32))).2 ?_
      show oP p e below T266 (mkF m 318 #[oI p0, oI p1, oI p2, oI p3, oI p4, oI (p0 &&& (255 : Int32)), oI a2, oI e1, oI e2, oI (p1 &&& (255 : Int32)), oI b2, oI f1, oI f2, oI uu, oR b_114, oR b_115, oR b_117, oR b_119, oR b121, oR b132, oI (2 : Int32), oR b_259, oI (0 : Int32)] []) _
      refine XS.aload X266.here hx rfl (hb hby at_318) rfl rfl ?_
      show oP p e below T266 (mkF m 320 #[oI p0, oI p1, oI p2, oI p3, oI p4, oI (p0 &&& (255 : Int32)), oI a2, oI e1, oI e2, oI (p1 &&& (255 : Int32)), oI b2, oI f1, oI f2, oI uu, oR b_114, oR b_115, oR b_117, oR b_119, oR b121, oR b132, oI (2 : Int32), oR b_259, oI (0 : Int32)] [(.ref b121)]) _
      refine XS.aload X266.here hx rfl (hb hby at_320) rfl rfl ?_
      show oP p e below T266 (mkF m 322 #[oI p0, oI p1, oI p2, oI p3, oI p4, oI (p0 &&& (255 : Int32)), oI a2, oI e1, oI e2, oI (p1 &&& (255 : Int32)), oI b2, oI f1, oI f2, oI uu, oR b_114, oR b_115, oR b_117, oR b_119, oR b121, oR b132, oI (2 : Int32), oR b_259, oI (0 : Int32)] [(.ref b121), (.ref b121)]) _
      refine st268.trans ?_
      show oP p e below T268 (mkF m 325 #[oI p0, oI p1, oI p2, oI p3, oI p4, oI (p0 &&& (255 : Int32)), oI a2, oI e1, oI e2, oI (p1 &&& (255 : Int32)), oI b2, oI f1, oI f2, oI uu, oR b_114, oR b_115, oR b_117, oR b_119, oR b121, oR b132, oI (2 : Int32), oR b_259, oI (0 : Int32)] [(.int (1 : Int32))]) _
      refine XS.ifNo X268.here hx rfl (hb hby at_325) rfl ((if0 _ _).trans (feq (by decide : ¬ ((1 : Int32) = (0 : Int32)))).1) ?_
      show oP p e below T268 (mkF m 328 #[oI p0, oI p1, oI p2, oI p3, oI p4, oI (p0 &&& (255 : Int32)), oI a2, oI e1, oI e2, oI (p1 &&& (255 : Int32)), oI b2, oI f1, oI f2, oI uu, oR b_114, oR b_115, oR b_117, oR b_119, oR b121, oR b132, oI (2 : Int32), oR b_259, oI (0 : Int32)] []) _
      refine XS.iconst X268.here hx rfl (hb hby at_328) ?_
      show oP p e below T268 (mkF m 329 #[oI p0, oI p1, oI p2, oI p3, oI p4, oI (p0 &&& (255 : Int32)), oI a2, oI e1, oI e2, oI (p1 &&& (255 : Int32)), oI b2, oI f1, oI f2, oI uu, oR b_114, oR b_115, oR b_117, oR b_119, oR b121, oR b132, oI (2 : Int32), oR b_259, oI (0 : Int32)] [(.int (1 : Int32))]) _
      refine XS.goto X268.here hx rfl (pc0 := 329) (pc' := 333) rfl (hb hby at_329) (by decide) (by decide) ?_
      show oP p e below T268 (mkF m 333 #[oI p0, oI p1, oI p2, oI p3, oI p4, oI (p0 &&& (255 : Int32)), oI a2, oI e1, oI e2, oI (p1 &&& (255 : Int32)), oI b2, oI f1, oI f2, oI uu, oR b_114, oR b_115, oR b_117, oR b_119, oR b121, oR b132, oI (2 : Int32), oR b_259, oI (0 : Int32)] [(.int (1 : Int32))]) _
      exact retN X268 hx (t := .boolean) Bd.returns (by simp) (hb hby at_333) hr
    · show (some (.int (1 : Int32)) : Option Value) = some (.int (1 : Int32)) ∧ Fr n0 _ ∧ Keep h0 T268.heap []
      exact ⟨rfl, N268, Kc268⟩
  · obtain ⟨cq281, kq281, q281a, q281b, q281c⟩ := isOf hZ rfl fx162
    obtain ⟨_, _, ⟨T281, L281, k281, n281⟩, -, X281, ⟨Lc281, hQ281, l281, y281, z281⟩, st281⟩ := X142.virtualBack hx (y := (⟨"com/example/narada/narada/client/MessageQueue", "equals", "(Ljava/lang/Object;)Z"⟩ : MethodName)) (z := (⟨"com/example/narada/narada/client/MessageQueue", "equals", "(Ljava/lang/Object;)Z"⟩ : MethodName)) hown (mvT hZ (hw _ (List.mem_of_getElem? (i := 55) rfl))) (mvT hZ (hw _ (List.mem_of_getElem? (i := 56) rfl))) (notFace_of_selects (args := #[]) (mvT hZ (hw _ (List.mem_of_getElem? (i := 58) rfl)))) (mvT hZ (hw _ (List.mem_of_getElem? (i := 58) rfl))) (mvT hZ (hw _ (List.mem_of_getElem? (i := 57) rfl))) (by decide) (backOf (W := 0) (rm10s l Z a0 hw hS [] b121 b_114 T142.heap n0 O142 fx146) hZ (hw _ (List.mem_of_getElem? (i := 59) rfl)) (hw _ (List.mem_of_getElem? (i := 32) rfl)) (by decide) (by decide)) q281a q281c (g := (mkF m 310 #[oI p0, oI p1, oI p2, oI p3, oI p4, oI (p0 &&& (255 : Int32)), oI a2, oI e1, oI e2, oI (p1 &&& (255 : Int32)), oI b2, oI f1, oI f2, oI uu, oR b_114, oR b_115, oR b_117, oR b_119, oR b121, oR b132, oI (3 : Int32), oR b_114, oI (0 : Int32)] [(.ref b_114), (.ref b121)])) rfl (by rw [hml]; rfl) (Steps.refl _) (argsL := [(.ref b_114)]) (rest := []) (lenOf pd_7 rfl) rfl (by show 2 * 0 + _ ≤ _; exact Nat.le_of_eq rfl) (hb hby at_310) (fun _ _ => ⟨rfl, rfl, (by decide : 18 + 0 ≤ _), (by decide : 162 + 0 ≤ _)⟩)
    dsimp only [Pt.U, Pt.locs, Pt.cells, Pt.slots] at X281 l281 y281 z281 st281 hQ281
    subst l281 y281 z281
    obtain ⟨v281, N281q, K281q⟩ := hQ281
    have w281 : (fn10s Z b121 b_114) = (0 : Int32) := rfl
    rw [w281] at v281
    subst v281
    have N281 := Fr.app N142 N281q
    have O281 := O142.keep K281q all0
    have Kc281 := Kc142.trans K281q all0
    have fx282 := (fx162.keep K281q)
    have fx284 := (fx163.keep K281q nin0)
    have fx285 := (fx164.keep K281q nin0)
    have fx286 := (fx165.keep K281q nin0)
    have fx287 := (fx148.keep K281q nin0)
    have fx288 := (fx149.keep K281q nin0)
    have fx289 := (fx156.keep K281q nin0)
    have fx290 := (fx157.keep K281q nin0)
    have fx291 := (fx146.keep K281q)
    have fx292 := (fx147.keep K281q nin0)
    have fx293 := (fx154.keep K281q)
    have fx294 := (fx155.keep K281q nin0)
    obtain ⟨cq283, kq283, q283a, q283b, q283c⟩ := isOf hZ rfl fx282
    obtain ⟨_, _, ⟨T283, L283, k283, n283⟩, -, X283, ⟨Lc283, hQ283, l283, y283, z283⟩, st283⟩ := X281.virtualBack hx (y := (⟨"com/example/narada/narada/client/MessageQueue", "equals", "(Ljava/lang/Object;)Z"⟩ : MethodName)) (z := (⟨"com/example/narada/narada/client/MessageQueue", "equals", "(Ljava/lang/Object;)Z"⟩ : MethodName)) hown (mvT hZ (hw _ (List.mem_of_getElem? (i := 55) rfl))) (mvT hZ (hw _ (List.mem_of_getElem? (i := 56) rfl))) (notFace_of_selects (args := #[]) (mvT hZ (hw _ (List.mem_of_getElem? (i := 58) rfl)))) (mvT hZ (hw _ (List.mem_of_getElem? (i := 58) rfl))) (mvT hZ (hw _ (List.mem_of_getElem? (i := 57) rfl))) (by decide) (backOf (W := 0) (rm10q l Z a0 hw hS [] b121 b121 b_114 b_114 b_117 b_117 p2 p2 t_114 kt_114 (strcs e1 (p0 &&& (255 : Int32))) t_114 kt_114 (strcs e1 (p0 &&& (255 : Int32))) t_117 kt_117 (strcs f1 (p1 &&& (255 : Int32))) t_117 kt_117 (strcs f1 (p1 &&& (255 : Int32))) T281.heap n0 O281 fx282 fx284 fx284 fx285 fx285 fx286 fx286 fx291 fx292 fx287 fx288 (strcs_hp (own_char rfl)) (strcs_len _ _) fx291 fx292 fx287 fx288 (strcs_hp (own_char rfl)) (strcs_len _ _) fx293 fx294 fx289 fx290 (strcs_hp (own_char rfl)) (strcs_len _ _) fx293 fx294 fx289 fx290 (strcs_hp (own_char rfl)) (strcs_len _ _)) hZ (hw _ (List.mem_of_getElem? (i := 59) rfl)) (hw _ (List.mem_of_getElem? (i := 32) rfl)) (by decide) (by decide)) q283a q283c (g := (mkF m 322 #[oI p0, oI p1, oI p2, oI p3, oI p4, oI (p0 &&& (255 : Int32)), oI a2, oI e1, oI e2, oI (p1 &&& (255 : Int32)), oI b2, oI f1, oI f2, oI uu, oR b_114, oR b_115, oR b_117, oR b_119, oR b121, oR b132, oI (3 : Int32), oR b_114, oI (0 : Int32)] [(.ref b121), (.ref b121)])) rfl (by rw [hml]; rfl) (Steps.refl _) (argsL := [(.ref b121)]) (rest := []) (lenOf pd_7 rfl) rfl (by show 2 * 0 + _ ≤ _; exact Nat.le_of_eq rfl) (hb hby at_322) (fun _ _ => ⟨rfl, rfl, (by decide : 18 + 0 ≤ _), (by decide : 162 + 0 ≤ _)⟩)
    dsimp only [Pt.U, Pt.locs, Pt.cells, Pt.slots] at X283 l283 y283 z283 st283 hQ283
    subst l283 y283 z283
    obtain ⟨v283, N283q, K283q⟩ := hQ283
    have w283 : (fn10q Z b121 b121 b_114 b_114 b_117 b_117 p2 p2 t_114 kt_114 (strcs e1 (p0 &&& (255 : Int32))) t_114 kt_114 (strcs e1 (p0 &&& (255 : Int32))) t_117 kt_117 (strcs f1 (p1 &&& (255 : Int32))) t_117 kt_117 (strcs f1 (p1 &&& (255 : Int32)))) = (1 : Int32) := by unfold fn10q; rw [if_pos (rfl : p2 = p2), if_neg (by simp : ¬ ((if (strcs e1 (p0 &&& (255 : Int32))) = (strcs e1 (p0 &&& (255 : Int32))) then (1 : Int32) else (0 : Int32)) = (0 : Int32))), if_neg (by simp : ¬ ((if (strcs f1 (p1 &&& (255 : Int32))) = (strcs f1 (p1 &&& (255 : Int32))) then (1 : Int32) else (0 : Int32)) = (0 : Int32)))]; all_goals first | rfl | decide
    rw [w283] at v283
    subst v283
    have N283 := Fr.app N281 N283q
    have O283 := O281.keep K283q all0
    have Kc283 := Kc281.trans K283q all0
    have fx295 := (Nat.le_trans (Nat.le_trans (Nat.le_refl _) K281q.1) K283q.1)
    obtain ⟨fs, hr, hrun, hended, hRW⟩ := Stand.leaveW X283 hSi fx295 (v := some (.int (1 : Int32))) (fun h => by rw [Bd.returns] at h; cases h)
    refine ⟨_, _, pre166 _ ?_, hrun, hended, _, _, rfl, ?_, own_rwmono hRW (by decide) (by decide)⟩
    · show oP p e below T142 (mkF m 213 #[oI p0, oI p1, oI p2, oI p3, oI p4, oI (p0 &&& (255 : Int32)), oI a2, oI e1, oI e2, oI (p1 &&& (255 : Int32)), oI b2, oI f1, oI f2, oI uu, oR b_114, oR b_115, oR b_117, oR b_119, oR b121, oR b132, oI (3 : Int32), oU, oU] []) _
      refine XS.iload X142.here hx rfl (hb hby at_213) rfl ?_
      show oP p e below T142 (mkF m 215 #[oI p0, oI p1, oI p2, oI p3, oI p4, oI (p0 &&& (255 : Int32)), oI a2, oI e1, oI e2, oI (p1 &&& (255 : Int32)), oI b2, oI f1, oI f2, oI uu, oR b_114, oR b_115, oR b_117, oR b_119, oR b121, oR b132, oI (3 : Int32), oU, oU] [(.int (3 : Int32))]) _
      refine XS.ifYes X142.here hx rfl (pc0 := 215) (pc' := 266) rfl (hb hby at_215) rfl ((if0 _ _).trans (feq (by decide : ¬ ((3 : Int32) = (0 : Int32)))).2) (by decide) (by decide) ?_
      show oP p e below T142 (mkF m 266 #[oI p0, oI p1, oI p2, oI p3, oI p4, oI (p0 &&& (255 : Int32)), oI a2, oI e1, oI e2, oI (p1 &&& (255 : Int32)), oI b2, oI f1, oI f2, oI uu, oR b_114, oR b_115, oR b_117, oR b_119, oR b121, oR b132, oI (3 : Int32), oU, oU] []) _
      refine XS.iload X142.here hx rfl (hb hby at_266) rfl ?_
      show oP p e below T142 (mkF m 268 #[oI p0, oI p1, oI p2, oI p3, oI p4, oI (p0 &&& (255 : Int32)), oI a2, oI e1, oI e2, oI (p1 &&& (255 : Int32)), oI b2, oI f1, oI f2, oI uu, oR b_114, oR b_115, oR b_117, oR b_119, oR b121, oR b132, oI (3 : Int32), oU, oU] [(.int (3 : Int32))]) _
      refine XS.iconst X142.here hx rfl (hb hby at_268) ?_
      show oP p e below T142 (mkF m 269 #[oI p0, oI p1, oI p2, oI p3, oI p4, oI (p0 &&& (255 : Int32)), oI a2, oI e1, oI e2, oI (p1 &&& (255 : Int32)), oI b2, oI f1, oI f2, oI uu, oR b_114, oR b_115, oR b_117, oR b_119, oR b121, oR b132, oI (3 : Int32), oU, oU] [(.int (1 : Int32)), (.int (3 : Int32))]) _
      refine XS.icmpYes X142.here hx rfl (pc0 := 269) (pc' := 281) rfl (hb hby at_269) rfl (feq (by decide : ¬ ((3 : Int32) = (1 : Int32)))).2 (by decide) (by decide) ?_
      show oP p e below T142 (mkF m 281 #[oI p0, oI p1, oI p2, oI p3, oI p4, oI (p0 &&& (255 : Int32)), oI a2, oI e1, oI e2, oI (p1 &&& (255 : Int32)), oI b2, oI f1, oI f2, oI uu, oR b_114, oR b_115, oR b_117, oR b_119, oR b121, oR b132, oI (3 : Int32), oU, oU] []) _
      refine XS.iload X142.here hx rfl (hb hby at_281) rfl ?_
      show oP p e below T142 (mkF m 283 #[oI p0, oI p1, oI p2, oI p3, oI p4, oI (p0 &&& (255 : Int32)), oI a2, oI e1, oI e2, oI (p1 &&& (255 : Int32)), oI b2, oI f1, oI f2, oI uu, oR b_114, oR b_115, oR b_117, oR b_119, oR b121, oR b132, oI (3 : Int32), oU, oU] [(.int (3 : Int32))]) _
      refine XS.iconst X142.here hx rfl (hb hby at_283) ?_
      show oP p e below T142 (mkF m 284 #[oI p0, oI p1, oI p2, oI p3, oI p4, oI (p0 &&& (255 : Int32)), oI a2, oI e1, oI e2, oI (p1 &&& (255 : Int32)), oI b2, oI f1, oI f2, oI uu, oR b_114, oR b_115, oR b_117, oR b_119, oR b121, oR b132, oI (3 : Int32), oU, oU] [(.int (2 : Int32)), (.int (3 : Int32))]) _
      refine XS.icmpYes X142.here hx rfl (pc0 := 284) (pc' := 299) rfl (hb hby at_284) rfl (feq (by decide : ¬ ((3 : Int32) = (2 : Int32)))).2 (by decide) (by decide) ?_
      show oP p e below T142 (mkF m 299 #[oI p0, oI p1, oI p2, oI p3, oI p4, oI (p0 &&& (255 : Int32)), oI a2, oI e1, oI e2, oI (p1 &&& (255 : Int32)), oI b2, oI f1, oI f2, oI uu, oR b_114, oR b_115, oR b_117, oR b_119, oR b121, oR b132, oI (3 : Int32), oU, oU] []) _
      refine XS.aload X142.here hx rfl (hb hby at_299) rfl rfl ?_
      show oP p e below T142 (mkF m 301 #[oI p0, oI p1, oI p2, oI p3, oI p4, oI (p0 &&& (255 : Int32)), oI a2, oI e1, oI e2, oI (p1 &&& (255 : Int32)), oI b2, oI f1, oI f2, oI uu, oR b_114, oR b_115, oR b_117, oR b_119, oR b121, oR b132, oI (3 : Int32), oU, oU] [(.ref b_114)]) _
      refine XS.astore X142.here hx rfl (hb hby at_301) rfl rfl (l' := #[oI p0, oI p1, oI p2, oI p3, oI p4, oI (p0 &&& (255 : Int32)), oI a2, oI e1, oI e2, oI (p1 &&& (255 : Int32)), oI b2, oI f1, oI f2, oI uu, oR b_114, oR b_115, oR b_117, oR b_119, oR b121, oR b132, oI (3 : Int32), oR b_114, oU]) rfl ?_
      show oP p e below T142 (mkF m 303 #[oI p0, oI p1, oI p2, oI p3, oI p4, oI (p0 &&& (255 : Int32)), oI a2, oI e1, oI e2, oI (p1 &&& (255 : Int32)), oI b2, oI f1, oI f2, oI uu, oR b_114, oR b_115, oR b_117, oR b_119, oR b121, oR b132, oI (3 : Int32), oR b_114, oU] []) _
      refine XS.iconst X142.here hx rfl (hb hby at_303) ?_
      show oP p e below T142 (mkF m 304 #[oI p0, oI p1, oI p2, oI p3, oI p4, oI (p0 &&& (255 : Int32)), oI a2, oI e1, oI e2, oI (p1 &&& (255 : Int32)), oI b2, oI f1, oI f2, oI uu, oR b_114, oR b_115, oR b_117, oR b_119, oR b121, oR b132, oI (3 : Int32), oR b_114, oU] [(.int (0 : Int32))]) _
      refine XS.istore X142.here hx rfl (hb hby at_304) rfl (l' := #[oI p0, oI p1, oI p2, oI p3, oI p4, oI (p0 &&& (255 : Int32)), oI a2, oI e1, oI e2, oI (p1 &&& (255 : Int32)), oI b2, oI f1, oI f2, oI uu, oR b_114, oR b_115, oR b_117, oR b_119, oR b121, oR b132, oI (3 : Int32), oR b_114, oI (0 : Int32)]) rfl ?_
      show oP p e below T142 (mkF m 306 #[oI p0, oI p1, oI p2, oI p3, oI p4, oI (p0 &&& (255 : Int32)), oI a2, oI e1, oI e2, oI (p1 &&& (255 : Int32)), oI b2, oI f1, oI f2, oI uu, oR b_114, oR b_115, oR b_117, oR b_119, oR b121, oR b132, oI (3 : Int32), oR b_114, oI (0 : Int32)] []) _
      refine XS.aload X142.here hx rfl (hb hby at_306) rfl rfl ?_
      show oP p e below T142 (mkF m 308 #[oI p0, oI p1, oI p2, oI p3, oI p4, oI (p0 &&& (255 : Int32)), oI a2, oI e1, oI e2, oI (p1 &&& (255 : Int32)), oI b2, oI f1, oI f2, oI uu, oR b_114, oR b_115, oR b_117, oR b_119, oR b121, oR b132, oI (3 : Int32), oR b_114, oI (0 : Int32)] [(.ref b121)]) _
      refine XS.aload X142.here hx rfl (hb hby at_308) rfl rfl ?_
      show oP p e below T142 (mkF m 310 #[oI p0, oI p1, oI p2, oI p3, oI p4, oI (p0 &&& (255 : Int32)), oI a2, oI e1, oI e2, oI (p1 &&& (255 : Int32)), oI b2, oI f1, oI f2, oI uu, oR b_114, oR b_115, oR b_117, oR b_119, oR b121, oR b132, oI (3 : Int32), oR b_114, oI (0 : Int32)] [(.ref b_114), (.ref b121)]) _
      refine st281.trans ?_
      show oP p e below T281 (mkF m 313 #[oI p0, oI p1, oI p2, oI p3, oI p4, oI (p0 &&& (255 : Int32)), oI a2, oI e1, oI e2, oI (p1 &&& (255 : Int32)), oI b2, oI f1, oI f2, oI uu, oR b_114, oR b_115, oR b_117, oR b_119, oR b121, oR b132, oI (3 : Int32), oR b_114, oI (0 : Int32)] [(.int (0 : Int32))]) _
      refine XS.iload X281.here hx rfl (hb hby at_313) rfl ?_
      show oP p e below T281 (mkF m 315 #[oI p0, oI p1, oI p2, oI p3, oI p4, oI (p0 &&& (255 : Int32)), oI a2, oI e1, oI e2, oI (p1 &&& (255 : Int32)), oI b2, oI f1, oI f2, oI uu, oR b_114, oR b_115, oR b_117, oR b_119, oR b121, oR b132, oI (3 : Int32), oR b_114, oI (0 : Int32)] [(.int (0 : Int32)), (.int (0 : Int32))]) _
      refine XS.icmpNo X281.here hx rfl (hb hby at_315) rfl (teq (by decide : (0 : Int32) = (0 : Int32))).2 ?_
      show oP p e below T281 (mkF m 318 #[oI p0, oI p1, oI p2, oI p3, oI p4, oI (p0 &&& (255 : Int32)), oI a2, oI e1, oI e2, oI (p1 &&& (255 : Int32)), oI b2, oI f1, oI f2, oI uu, oR b_114, oR b_115, oR b_117, oR b_119, oR b121, oR b132, oI (3 : Int32), oR b_114, oI (0 : Int32)] []) _
      refine XS.aload X281.here hx rfl (hb hby at_318) rfl rfl ?_
      show oP p e below T281 (mkF m 320 #[oI p0, oI p1, oI p2, oI p3, oI p4, oI (p0 &&& (255 : Int32)), oI a2, oI e1, oI e2, oI (p1 &&& (255 : Int32)), oI b2, oI f1, oI f2, oI uu, oR b_114, oR b_115, oR b_117, oR b_119, oR b121, oR b132, oI (3 : Int32), oR b_114, oI (0 : Int32)] [(.ref b121)]) _
      refine XS.aload X281.here hx rfl (hb hby at_320) rfl rfl ?_
      show oP p e below T281 (mkF m 322 #[oI p0, oI p1, oI p2, oI p3, oI p4, oI (p0 &&& (255 : Int32)), oI a2, oI e1, oI e2, oI (p1 &&& (255 : Int32)), oI b2, oI f1, oI f2, oI uu, oR b_114, oR b_115, oR b_117, oR b_119, oR b121, oR b132, oI (3 : Int32), oR b_114, oI (0 : Int32)] [(.ref b121), (.ref b121)]) _
      refine st283.trans ?_
      show oP p e below T283 (mkF m 325 #[oI p0, oI p1, oI p2, oI p3, oI p4, oI (p0 &&& (255 : Int32)), oI a2, oI e1, oI e2, oI (p1 &&& (255 : Int32)), oI b2, oI f1, oI f2, oI uu, oR b_114, oR b_115, oR b_117, oR b_119, oR b121, oR b132, oI (3 : Int32), oR b_114, oI (0 : Int32)] [(.int (1 : Int32))]) _
      refine XS.ifNo X283.here hx rfl (hb hby at_325) rfl ((if0 _ _).trans (feq (by decide : ¬ ((1 : Int32) = (0 : Int32)))).1) ?_
      show oP p e below T283 (mkF m 328 #[oI p0, oI p1, oI p2, oI p3, oI p4, oI (p0 &&& (255 : Int32)), oI a2, oI e1, oI e2, oI (p1 &&& (255 : Int32)), oI b2, oI f1, oI f2, oI uu, oR b_114, oR b_115, oR b_117, oR b_119, oR b121, oR b132, oI (3 : Int32), oR b_114, oI (0 : Int32)] []) _
      refine XS.iconst X283.here hx rfl (hb hby at_328) ?_
      show oP p e below T283 (mkF m 329 #[oI p0, oI p1, oI p2, oI p3, oI p4, oI (p0 &&& (255 : Int32)), oI a2, oI e1, oI e2, oI (p1 &&& (255 : Int32)), oI b2, oI f1, oI f2, oI uu, oR b_114, oR b_115, oR b_117, oR b_119, oR b121, oR b132, oI (3 : Int32), oR b_114, oI (0 : Int32)] [(.int (1 : Int32))]) _
      refine XS.goto X283.here hx rfl (pc0 := 329) (pc' := 333) rfl (hb hby at_329) (by decide) (by decide) ?_
      show oP p e below T283 (mkF m 333 #[oI p0, oI p1, oI p2, oI p3, oI p4, oI (p0 &&& (255 : Int32)), oI a2, oI e1, oI e2, oI (p1 &&& (255 : Int32)), oI b2, oI f1, oI f2, oI uu, oR b_114, oR b_115, oR b_117, oR b_119, oR b121, oR b132, oI (3 : Int32), oR b_114, oI (0 : Int32)] [(.int (1 : Int32))]) _
      exact retN X283 hx (t := .boolean) Bd.returns (by simp) (hb hby at_333) hr
    · show (some (.int (1 : Int32)) : Option Value) = some (.int (1 : Int32)) ∧ Fr n0 _ ∧ Keep h0 T283.heap []
      exact ⟨rfl, N283, Kc283⟩
set_option maxRecDepth 65536 in
set_option maxHeartbeats 40000000 in
theorem comes_1 {Post : Tables → Env → Array Value → State → Outcome → State → Prop} (hpost : ∀ tb e args s v u, (limb_1_1.after args s (.returned v) u = true ∧ limb_1_2.after args s (.returned v) u = true ∧ True) → ReturnedEndW s (.returned v) u (Jvm.fieldLocs frame_1_writes args s ++ Jvm.arrayLocs frame_1_arrays args s ++ Jvm.staticLocs frame_1_statics s) 40 3264 → Post tb e args s (.returned v) u) :
    ArmFor flags0 classFile x code maxLocals ret World_1 tables_1 room_1 Calls_1 rest_1 Pre_1 Post := by
  intro l hfl _ _ p e ha hc hk s m args below hf hA hF happ hP
  obtain ⟨hcalls, hrest, hpre⟩ := hP
  obtain ⟨-, -, -, hnamed, -, -, -, hat⟩ := (Spec.applies_iff hf).mp happ
  obtain ⟨hg, hn⟩ := and_e (Cond.before_iff.mp (show (Jvm.Cond.and given_1 narrow_1).before args s = true from hpre))
  obtain ⟨g1, g2⟩ := and_e hg
  obtain ⟨g3, g4⟩ := and_e g2
  obtain ⟨g5, g6⟩ := and_e g4
  obtain ⟨g7, g8⟩ := and_e g6
  obtain ⟨g9, g10⟩ := and_e g8
  obtain ⟨w0, w1, w2, w3, w4, rfl⟩ : ∃ w0 w1 w2 w3 w4 : Value, args = #[w0, w1, w2, w3, w4] := by
    have hs : args.size = 5 := by simpa [Cond.value, given_1] using g1
    obtain ⟨L⟩ := args
    match L, hs with
    | [w0, w1, w2, w3, w4], _ => exact ⟨w0, w1, w2, w3, w4, rfl⟩
  have hw := fun d (hd : d ∈ tables_1) => atoms_spec (ws := Jvm.Cond.code x code maxLocals ret :: tables_1) hat d (List.mem_cons_of_mem _ hd)
  have hfit : Fit s := fun {y c} hc i hi => by
    obtain ⟨ha, rfl⟩ := Array.getElem?_eq_some_iff.mp hc
    have q := List.all_eq_true.mp ((Array.all_eq_true_iff_forall_mem.mp hF) _ (Array.getElem_mem ha)) i (List.mem_range.mpr hi)
    simpa [Array.getElem?_eq_getElem hi] using q
  obtain ⟨i0, ei0⟩ := is_v g3
  obtain rfl : w0 = (.int i0) := Option.some.inj ei0
  obtain ⟨i1, ei1⟩ := is_v g5
  obtain rfl : w1 = (.int i1) := Option.some.inj ei1
  obtain ⟨i2, ei2⟩ := is_v g7
  obtain rfl : w2 = (.int i2) := Option.some.inj ei2
  obtain ⟨i3, ei3⟩ := is_v g9
  obtain rfl : w3 = (.int i3) := Option.some.inj ei3
  obtain ⟨i4, ei4⟩ := is_v g10
  obtain rfl : w4 = (.int i4) := Option.some.inj ei4
  have q0 := hn
  obtain ⟨hsets, hown0⟩ := atoms_of _ (rest_1_c_eq ▸ (show rest_1_c.before _ s = true from hrest))
  have j0 := Cond.before_iff.mp (hsets _ (List.mem_of_getElem? (i := 0) rfl))
  have j1 := Cond.before_iff.mp (hsets _ (List.mem_of_getElem? (i := 1) rfl))
  have j2 := Cond.before_iff.mp (hsets _ (List.mem_of_getElem? (i := 2) rfl))
  have j3 := Cond.before_iff.mp (hsets _ (List.mem_of_getElem? (i := 3) rfl))
  have j4 := Cond.before_iff.mp (hsets _ (List.mem_of_getElem? (i := 4) rfl))
  have j5 := Cond.before_iff.mp (hsets _ (List.mem_of_getElem? (i := 5) rfl))
  have j6 := Cond.before_iff.mp (hsets _ (List.mem_of_getElem? (i := 6) rfl))
  have j7 := Cond.before_iff.mp (hsets _ (List.mem_of_getElem? (i := 7) rfl))
  have j8 := Cond.before_iff.mp (hsets _ (List.mem_of_getElem? (i := 8) rfl))
  have j9 := Cond.before_iff.mp (hsets _ (List.mem_of_getElem? (i := 9) rfl))
  have j10 := Cond.before_iff.mp (hsets _ (List.mem_of_getElem? (i := 10) rfl))
  have j11 := Cond.before_iff.mp (hsets _ (List.mem_of_getElem? (i := 11) rfl))
  have j12 := Cond.before_iff.mp (hsets _ (List.mem_of_getElem? (i := 12) rfl))
  have j13 := Cond.before_iff.mp (hsets _ (List.mem_of_getElem? (i := 13) rfl))
  have j14 := Cond.before_iff.mp (hsets _ (List.mem_of_getElem? (i := 14) rfl))
  have j15 := Cond.before_iff.mp (hsets _ (List.mem_of_getElem? (i := 15) rfl))
  have j16 := Cond.before_iff.mp (hsets _ (List.mem_of_getElem? (i := 16) rfl))
  have hS : St s := ⟨(own_staI j12 (Or.inr ⟨(hw _ (List.mem_of_getElem? (i := 78) rfl)), (hsets _ (List.mem_of_getElem? (i := 9) rfl))⟩)), (own_sta j14 (Or.inr ⟨(hw _ (List.mem_of_getElem? (i := 78) rfl)), (hsets _ (List.mem_of_getElem? (i := 11) rfl))⟩)), (own_exa j14), (own_sti j1 (Or.inl (hsets _ (List.mem_of_getElem? (i := 0) rfl)))), (own_stn j1 j2), (own_cache j13 j15 j16 rfl)⟩
  obtain ⟨n, o, h1, h2, h3, _, L, rfl, ⟨rfl, N, -⟩, hq⟩ := rm0 l s _ hw hS tables_1 i0 i1 i2 i3 i4 s.heap s.heap.size (Old.start s) p e ha hc hk s m _ below hf ((Spec.applies_iff_loose hf).mp happ).1 ⟨rfl, State.Warmed39.refl s, rfl, CHv.start (own_EW hw) (fun z hz => hcalls.1 z ((by decide +kernel : ∀ z ∈ own_EL, z ∈ consts_1) z hz)) (hsets _ (List.mem_of_getElem? (i := 2) rfl)) (hw _ (List.mem_of_getElem? (i := 18) rfl)) (hw _ (List.mem_of_getElem? (i := 14) rfl))⟩ trivial
  refine ⟨n, _, h1, h2, h3, hpost _ _ _ _ _ _ ⟨Cond.after_iff.mpr rfl, Cond.after_iff.mpr (eq_i res_at (Term.int_eval (1)) rfl), trivial⟩ ⟨hq.1, hq.2.1, hq.2.2.1, (hq.2.2.2.sift fun y hy => Or.inr (N y hy)).mono (by decide) (by decide)⟩⟩
theorem main_1_1 : Claimed_1_1 := comes_1 fun _ _ _ _ _ _ h hF => ⟨h.1, hF⟩
theorem main_1_2 : Claimed_1_2 := comes_1 fun _ _ _ _ _ _ h hF => ⟨h.2.1, hF⟩
end Jvm.Pilot.@@N@@
namespace Jvm.Pilot.@@N@@
open Jvm Jvm.ClassFile Sem Op Lib Jvm.Free Jvm.Stand Jvm.Pilot.@@N@@.Jvm.D
/-! MADE BY PROGRAM (witnessworld.py) out of the Statement's table words and the real class files: 22 classes; the members and pool entries that the words name. The judged class is class 1, her method 3. -/
namespace start1
open Jvm.ClassFile
def u (s : String) : CpInfo := .utf8 (stringToUtf16 s)
/-- a pool by its gaps: so many unusable entries, then the entry; so many at the end -/
def gap : Nat → List CpInfo → List CpInfo
  | 0, r => r
  | n + 1, r => .unusable :: gap n r
def poolList (es : List (Nat × CpInfo)) (last : Nat) : List CpInfo := es.foldr (fun e r => gap e.1 (e.2 :: r)) (gap last [])
def pool (es : List (Nat × CpInfo)) (last : Nat) : Array CpInfo := ⟨poolList es last⟩
def fileOf (pool : Array CpInfo) (this : Nat) (attrs : Array Attribute := #[]) (ms : Array MethodInfo := #[]) (fl : Nat := 33) (sup : Nat := 0) (ifs : Array Nat := #[]) (fds : Array FieldInfo := #[]) : ClassFile where
  minorVersion := 0
  majorVersion := 65
  constantPool := pool
  accessFlags := fl
  thisClass := this
  superClass := sup
  interfaces := ifs
  fields := fds
  methods := ms
  attributes := attrs
def plain (name : String) (sup : Option ClassId) : Class where
  name := name
  kind := .ordinary
  loader := none
  accessFlags := 33
  super := sup
  interfaces := #[]
  cf := none
  fields := #[]
  methods := #[]
  instanceTypes := #[]
  staticTypes := #[]
  resolved := #[]
  callSites := []
  init := .initialized
  statics := none
  mirror := none

def pool0 : Array CpInfo := pool [(5, u "<init>"), (0, u "()V"), (1, .class_ 10), (1, u "java/lang/Object")] 113

def k0c0 : Code := { maxStack := 0, maxLocals := 1, code := object_method_1_code, exceptionTable := #[], attributes := #[] }
def k0m0 : Method := { name := "<init>", desc := "()V", sig := { parameters := [], returnType := none }, accessFlags := 1, code := some k0c0 }
/-- java/lang/Object -/
def k0 : Class := { plain "java/lang/Object" none with
  accessFlags := 33
  interfaces := #[]
  cf := some (fileOf pool0 8 #[] #[{ accessFlags := 1, nameIndex := 5, descriptorIndex := 6, attributes := #[] }] 33 0 #[] #[])
  fields := #[]
  methods := #[k0m0]
  instanceTypes := #[]
  staticTypes := #[]
  resolved := Array.replicate 124 none
  statics := none }

def pool1 : Array CpInfo := pool [(2, .class_ 4), (1, u "java/lang/Object"), (0, u "<init>"), (0, u "()V"), (0, .string 8), (0, u ""), (0, .methodref 10 11), (0, .class_ 12), (0, .nameAndType 13 14), (0, u "java/lang/String"), (0, u "valueOf"), (0, u "(C)Ljava/lang/String;"), (0, .methodref 16 17), (0, .class_ 18), (0, .nameAndType 19 20), (0, u "com/example/narada/narada/client/MessageQueueEqualsPinLaw"), (0, u "str"), (0, u "(ZI)Ljava/lang/String;"), (0, .class_ 22), (0, u "com/example/narada/narada/client/MessageQueue"), (0, .methodref 21 24), (0, .nameAndType 5 25), (0, u "(Ljava/lang/String;Ljava/lang/String;I)V"), (0, .methodref 16 27), (0, .nameAndType 28 29), (0, u "same"), (0, u "(ZIZI)Z"), (0, .methodref 31 32), (0, .class_ 33), (0, .nameAndType 13 34), (0, u "java/lang/Integer"), (0, u "(I)Ljava/lang/Integer;"), (0, .methodref 21 36), (0, .nameAndType 37 38), (0, u "equals"), (0, u "(Ljava/lang/Object;)Z"), (3, u "law"), (0, u "(IIIII)Z")] 2

def k1m0 : Method := { name := "<init>", desc := "()V", sig := { parameters := [], returnType := none }, accessFlags := 1, code := none }
def k1c1 : Code := { maxStack := 1, maxLocals := 2, code := method_2_code, exceptionTable := #[], attributes := #[] }
def k1m1 : Method := { name := "str", desc := "(ZI)Ljava/lang/String;", sig := { parameters := [.boolean, .int], returnType := some (.object "java/lang/String") }, accessFlags := 10, code := some k1c1 }
def k1c2 : Code := { maxStack := 2, maxLocals := 4, code := method_3_code, exceptionTable := #[], attributes := #[] }
def k1m2 : Method := { name := "same", desc := "(ZIZI)Z", sig := { parameters := [.boolean, .int, .boolean, .int], returnType := some .boolean }, accessFlags := 10, code := some k1c2 }
def k1c3 : Code := { maxStack := 5, maxLocals := 23, code := code, exceptionTable := #[], attributes := #[] }
def k1m3 : Method := { name := "law", desc := "(IIIII)Z", sig := { parameters := [.int, .int, .int, .int, .int], returnType := some .boolean }, accessFlags := 9, code := some k1c3 }
/-- com/example/narada/narada/client/MessageQueueEqualsPinLaw -/
def k1 : Class := { plain "com/example/narada/narada/client/MessageQueueEqualsPinLaw" (some 0) with
  accessFlags := 49
  interfaces := #[]
  cf := some (fileOf pool1 16 #[] #[{ accessFlags := 1, nameIndex := 5, descriptorIndex := 6, attributes := #[] }, { accessFlags := 10, nameIndex := 19, descriptorIndex := 20, attributes := #[] }, { accessFlags := 10, nameIndex := 28, descriptorIndex := 29, attributes := #[] }, { accessFlags := 9, nameIndex := 42, descriptorIndex := 43, attributes := #[] }] 49 2 #[] #[])
  fields := #[]
  methods := #[k1m0, k1m1, k1m2, k1m3]
  instanceTypes := #[]
  staticTypes := #[]
  resolved := Array.replicate 46 none
  statics := none }

def pool2 : Array CpInfo := pool [(1, .class_ 2), (0, u "java/io/Serializable"), (0, .class_ 4), (0, u "java/lang/Object")] 2

/-- java/io/Serializable -/
def k2 : Class := { plain "java/io/Serializable" (some 0) with
  accessFlags := 1537
  interfaces := #[]
  cf := some (fileOf pool2 1 #[] #[] 1537 3 #[] #[])
  fields := #[]
  methods := #[]
  instanceTypes := #[]
  staticTypes := #[]
  resolved := Array.replicate 7 none
  statics := none }

def pool3 : Array CpInfo := pool [(1, .class_ 2), (0, u "java/lang/Comparable"), (0, .class_ 4), (0, u "java/lang/Object")] 7

/-- java/lang/Comparable -/
def k3 : Class := { plain "java/lang/Comparable" (some 0) with
  accessFlags := 1537
  interfaces := #[]
  cf := some (fileOf pool3 1 #[] #[] 1537 3 #[] #[])
  fields := #[]
  methods := #[]
  instanceTypes := #[]
  staticTypes := #[]
  resolved := Array.replicate 12 none
  statics := none }

def pool4 : Array CpInfo := pool [(2, .class_ 4), (1, u "java/lang/CharSequence"), (42, .class_ 48), (0, u "java/lang/CharSequence$1CodePointIterator"), (10, .class_ 60), (0, u "java/lang/CharSequence$1CharIterator"), (5, .class_ 67), (0, u "java/lang/Object")] 63

/-- java/lang/CharSequence -/
def k4 : Class := { plain "java/lang/CharSequence" (some 0) with
  accessFlags := 1537
  interfaces := #[]
  cf := some (fileOf pool4 2 #[.nestMembers #[47, 59]] #[] 1537 66 #[] #[])
  fields := #[]
  methods := #[]
  instanceTypes := #[]
  staticTypes := #[]
  resolved := Array.replicate 131 none
  statics := none }

def pool5 : Array CpInfo := pool [(1, .class_ 2), (0, u "java/lang/constant/Constable"), (0, .class_ 4), (0, u "java/lang/Object")] 6

/-- java/lang/constant/Constable -/
def k5 : Class := { plain "java/lang/constant/Constable" (some 0) with
  accessFlags := 1537
  interfaces := #[]
  cf := some (fileOf pool5 1 #[] #[] 1537 3 #[] #[])
  fields := #[]
  methods := #[]
  instanceTypes := #[]
  staticTypes := #[]
  resolved := Array.replicate 11 none
  statics := none }

def pool6 : Array CpInfo := pool [(1, .class_ 2), (0, u "java/lang/constant/ConstantDesc"), (0, .class_ 4), (0, u "java/lang/Object")] 32

/-- java/lang/constant/ConstantDesc -/
def k6 : Class := { plain "java/lang/constant/ConstantDesc" (some 0) with
  accessFlags := 1537
  interfaces := #[]
  cf := some (fileOf pool6 1 #[] #[] 1537 3 #[] #[])
  fields := #[]
  methods := #[]
  instanceTypes := #[]
  staticTypes := #[]
  resolved := Array.replicate 37 none
  statics := none }

def pool7 : Array CpInfo := pool [(1, .methodref 2 3), (0, .class_ 4), (0, .nameAndType 5 6), (0, u "java/lang/Object"), (0, u "<init>"), (0, u "()V"), (2, .fieldref 10 11), (0, .class_ 12), (0, .nameAndType 13 14), (0, u "java/lang/String"), (0, u "value"), (0, u "[B"), (0, .fieldref 10 16), (0, .nameAndType 17 18), (0, u "coder"), (0, u "B"), (2, u "hash"), (0, u "I"), (2, u "hashIsZero"), (0, u "Z"), (11, .fieldref 10 39), (0, .nameAndType 40 26), (0, u "COMPACT_STRINGS"), (12, u "toBytes"), (53, .class_ 109), (1, u "java/lang/StringLatin1"), (99, .methodref 10 210), (0, .nameAndType 5 211), (0, u "([BB)V"), (157, u "(C)Z"), (171, .methodref 107 542), (0, .nameAndType 543 544), (0, u "equals"), (0, u "([B[B)Z"), (28, u "(Ljava/lang/Object;)Z"), (1, .class_ 576), (0, u "java/lang/CharSequence"), (22, u "CASE_INSENSITIVE_ORDER"), (0, u "Ljava/util/Comparator;"), (181, u "valueOf"), (0, u "(C)Ljava/lang/String;"), (231, .methodref 107 1016), (0, .nameAndType 1017 369), (0, u "canEncode"), (0, .methodref 107 1019), (0, .nameAndType 53 1020), (0, u "(C)[B"), (80, u "serialPersistentFields"), (0, u "[Ljava/io/ObjectStreamField;"), (0, .class_ 1104), (0, u "java/lang/String$CaseInsensitiveComparator"), (1, .class_ 1107), (0, u "java/io/Serializable"), (0, .class_ 1109), (0, u "java/lang/Comparable"), (0, .class_ 1111), (0, u "java/lang/constant/Constable"), (0, .class_ 1113), (0, u "java/lang/constant/ConstantDesc"), (2, u "serialVersionUID"), (0, u "J"), (3, u "REPL"), (0, u "C"), (2, u "LATIN1"), (1, u "UTF16")] 323

def k7m0 : Method := { name := "<init>", desc := "()V", sig := { parameters := [], returnType := none }, accessFlags := 1, code := none }
def k7c1 : Code := { maxStack := 2, maxLocals := 3, code := jdk_42_method_66_code, exceptionTable := #[], attributes := #[] }
def k7m1 : Method := { name := "equals", desc := "(Ljava/lang/Object;)Z", sig := { parameters := [(.object "java/lang/Object")], returnType := some .boolean }, accessFlags := 1, code := some k7c1 }
def k7c2 : Code := { maxStack := 4, maxLocals := 1, code := jdk_42_method_139_code, exceptionTable := #[], attributes := #[] }
def k7m2 : Method := { name := "valueOf", desc := "(C)Ljava/lang/String;", sig := { parameters := [.char], returnType := some (.object "java/lang/String") }, accessFlags := 9, code := some k7c2 }
def k7c3 : Code := { maxStack := 2, maxLocals := 3, code := jdk_42_method_151_code, exceptionTable := #[], attributes := #[] }
def k7m3 : Method := { name := "<init>", desc := "([BB)V", sig := { parameters := [(.array .byte), .byte], returnType := none }, accessFlags := 0, code := some k7c3 }
/-- java/lang/String -/
def k7 : Class := { plain "java/lang/String" (some 0) with
  accessFlags := 49
  interfaces := #[2, 3, 4, 5, 6]
  cf := some (fileOf pool7 10 #[.nestMembers #[1103]] #[{ accessFlags := 1, nameIndex := 5, descriptorIndex := 6, attributes := #[] }, { accessFlags := 1, nameIndex := 543, descriptorIndex := 573, attributes := #[] }, { accessFlags := 9, nameIndex := 782, descriptorIndex := 783, attributes := #[] }, { accessFlags := 0, nameIndex := 5, descriptorIndex := 211, attributes := #[] }] 49 2 #[1106, 1108, 575, 1110, 1112] #[{ accessFlags := 18, nameIndex := 13, descriptorIndex := 14, attributes := #[] }, { accessFlags := 18, nameIndex := 17, descriptorIndex := 18, attributes := #[] }, { accessFlags := 2, nameIndex := 21, descriptorIndex := 22, attributes := #[] }, { accessFlags := 2, nameIndex := 25, descriptorIndex := 26, attributes := #[] }, { accessFlags := 26, nameIndex := 1116, descriptorIndex := 1117, attributes := #[] }, { accessFlags := 24, nameIndex := 40, descriptorIndex := 26, attributes := #[] }, { accessFlags := 26, nameIndex := 1101, descriptorIndex := 1102, attributes := #[] }, { accessFlags := 26, nameIndex := 1121, descriptorIndex := 1122, attributes := #[] }, { accessFlags := 25, nameIndex := 599, descriptorIndex := 600, attributes := #[] }, { accessFlags := 24, nameIndex := 1125, descriptorIndex := 18, attributes := #[] }, { accessFlags := 24, nameIndex := 1127, descriptorIndex := 18, attributes := #[] }])
  fields := #[{ name := "value", type := (.array .byte), accessFlags := 18, slot := 0, constantValue := 0 }, { name := "coder", type := .byte, accessFlags := 18, slot := 1, constantValue := 0 }, { name := "hash", type := .int, accessFlags := 2, slot := 2, constantValue := 0 }, { name := "hashIsZero", type := .boolean, accessFlags := 2, slot := 3, constantValue := 0 }, { name := "serialVersionUID", type := .long, accessFlags := 26, slot := 0, constantValue := 0 }, { name := "COMPACT_STRINGS", type := .boolean, accessFlags := 24, slot := 1, constantValue := 0 }, { name := "serialPersistentFields", type := (.array (.object "java/io/ObjectStreamField")), accessFlags := 26, slot := 2, constantValue := 0 }, { name := "REPL", type := .char, accessFlags := 26, slot := 3, constantValue := 0 }, { name := "CASE_INSENSITIVE_ORDER", type := (.object "java/util/Comparator"), accessFlags := 25, slot := 4, constantValue := 0 }, { name := "LATIN1", type := .byte, accessFlags := 24, slot := 5, constantValue := 0 }, { name := "UTF16", type := .byte, accessFlags := 24, slot := 6, constantValue := 0 }]
  methods := #[k7m0, k7m1, k7m2, k7m3]
  instanceTypes := #[(.array .byte), .byte, .int, .boolean]
  staticTypes := #[.long, .boolean, (.array (.object "java/io/ObjectStreamField")), .char, (.object "java/util/Comparator"), .byte, .byte]
  resolved := Array.replicate 1451 none
  statics := some 0 }

def pool8 : Array CpInfo := pool [(4, .class_ 6), (1, u "java/lang/Object"), (0, u "<init>"), (0, u "()V"), (5, .class_ 16), (1, u "java/lang/StringLatin1"), (73, u "canEncode"), (14, u "(C)Z"), (15, u "$assertionsDisabled"), (0, u "Z"), (98, .class_ 223), (1, u "java/lang/StringLatin1$LinesSpliterator"), (57, u "equals"), (0, u "([B[B)Z"), (97, u "toBytes"), (1, u "(C)[B"), (7, .class_ 391), (0, u "java/lang/StringLatin1$CharsSpliterator")] 3

def k8m0 : Method := { name := "<init>", desc := "()V", sig := { parameters := [], returnType := none }, accessFlags := 0, code := none }
def k8c1 : Code := { maxStack := 2, maxLocals := 1, code := jdk_43_method_3_code, exceptionTable := #[], attributes := #[] }
def k8m1 : Method := { name := "canEncode", desc := "(C)Z", sig := { parameters := [.char], returnType := some .boolean }, accessFlags := 9, code := some k8c1 }
def k8c2 : Code := { maxStack := 3, maxLocals := 3, code := jdk_43_method_13_code, exceptionTable := #[], attributes := #[] }
def k8m2 : Method := { name := "equals", desc := "([B[B)Z", sig := { parameters := [(.array .byte), (.array .byte)], returnType := some .boolean }, accessFlags := 9, code := some k8c2 }
def k8c3 : Code := { maxStack := 4, maxLocals := 1, code := jdk_43_method_46_code, exceptionTable := #[], attributes := #[] }
def k8m3 : Method := { name := "toBytes", desc := "(C)[B", sig := { parameters := [.char], returnType := some (.array .byte) }, accessFlags := 9, code := some k8c3 }
/-- java/lang/StringLatin1 -/
def k8 : Class := { plain "java/lang/StringLatin1" (some 0) with
  accessFlags := 48
  interfaces := #[]
  cf := some (fileOf pool8 14 #[.nestMembers #[390, 221]] #[{ accessFlags := 0, nameIndex := 7, descriptorIndex := 8, attributes := #[] }, { accessFlags := 9, nameIndex := 90, descriptorIndex := 105, attributes := #[] }, { accessFlags := 9, nameIndex := 281, descriptorIndex := 282, attributes := #[] }, { accessFlags := 9, nameIndex := 380, descriptorIndex := 382, attributes := #[] }] 48 4 #[] #[{ accessFlags := 4120, nameIndex := 121, descriptorIndex := 122, attributes := #[] }])
  fields := #[{ name := "$assertionsDisabled", type := .boolean, accessFlags := 4120, slot := 0, constantValue := 0 }]
  methods := #[k8m0, k8m1, k8m2, k8m3]
  instanceTypes := #[]
  staticTypes := #[.boolean]
  resolved := Array.replicate 395 none
  statics := none }

def pool9 : Array CpInfo := pool [(1, .methodref 2 3), (0, .class_ 4), (0, .nameAndType 5 6), (0, u "java/lang/Object"), (0, u "<init>"), (0, u "()V"), (0, .string 8), (0, u "topic"), (0, .methodref 10 11), (0, .class_ 12), (0, .nameAndType 13 14), (0, u "java/util/Objects"), (0, u "requireNonNull"), (0, u "(Ljava/lang/Object;Ljava/lang/String;)Ljava/lang/Object;"), (0, .class_ 16), (0, u "java/lang/String"), (0, .fieldref 18 19), (0, .class_ 20), (0, .nameAndType 8 21), (0, u "com/example/narada/narada/client/MessageQueue"), (0, u "Ljava/lang/String;"), (0, .string 23), (0, u "brokerName"), (0, .fieldref 18 25), (0, .nameAndType 23 21), (0, .fieldref 18 27), (0, .nameAndType 28 29), (0, u "queueId"), (0, u "I"), (2, u "ORDER"), (0, u "Ljava/util/Comparator;"), (6, .methodref 15 41), (0, .nameAndType 42 43), (0, u "equals"), (0, u "(Ljava/lang/Object;)Z"), (38, .class_ 83), (0, u "java/lang/Comparable"), (2, u "(Ljava/lang/String;Ljava/lang/String;I)V")] 50

def k9c0 : Code := { maxStack := 3, maxLocals := 4, code := prog_11_method_1_code, exceptionTable := #[], attributes := #[] }
def k9m0 : Method := { name := "<init>", desc := "(Ljava/lang/String;Ljava/lang/String;I)V", sig := { parameters := [(.object "java/lang/String"), (.object "java/lang/String"), .int], returnType := none }, accessFlags := 1, code := some k9c0 }
def k9c1 : Code := { maxStack := 2, maxLocals := 3, code := prog_11_method_6_code, exceptionTable := #[], attributes := #[] }
def k9m1 : Method := { name := "equals", desc := "(Ljava/lang/Object;)Z", sig := { parameters := [(.object "java/lang/Object")], returnType := some .boolean }, accessFlags := 1, code := some k9c1 }
/-- com/example/narada/narada/client/MessageQueue -/
def k9 : Class := { plain "com/example/narada/narada/client/MessageQueue" (some 0) with
  accessFlags := 49
  interfaces := #[3]
  cf := some (fileOf pool9 18 #[] #[{ accessFlags := 1, nameIndex := 5, descriptorIndex := 86, attributes := #[] }, { accessFlags := 1, nameIndex := 42, descriptorIndex := 43, attributes := #[] }] 49 2 #[82] #[{ accessFlags := 26, nameIndex := 32, descriptorIndex := 33, attributes := #[] }, { accessFlags := 18, nameIndex := 8, descriptorIndex := 21, attributes := #[] }, { accessFlags := 18, nameIndex := 23, descriptorIndex := 21, attributes := #[] }, { accessFlags := 18, nameIndex := 28, descriptorIndex := 29, attributes := #[] }])
  fields := #[{ name := "ORDER", type := (.object "java/util/Comparator"), accessFlags := 26, slot := 0, constantValue := 0 }, { name := "topic", type := (.object "java/lang/String"), accessFlags := 18, slot := 0, constantValue := 0 }, { name := "brokerName", type := (.object "java/lang/String"), accessFlags := 18, slot := 1, constantValue := 0 }, { name := "queueId", type := .int, accessFlags := 18, slot := 2, constantValue := 0 }]
  methods := #[k9m0, k9m1]
  instanceTypes := #[(.object "java/lang/String"), (.object "java/lang/String"), .int]
  staticTypes := #[(.object "java/util/Comparator")]
  resolved := Array.replicate 137 none
  statics := none }

def pool10 : Array CpInfo := pool [(2, .class_ 4), (1, u "java/lang/Object"), (0, u "<init>"), (0, u "()V"), (35, .class_ 44), (1, u "java/util/Objects"), (0, u "requireNonNull"), (48, u "(Ljava/lang/Object;Ljava/lang/String;)Ljava/lang/Object;")] 89

def k10m0 : Method := { name := "<init>", desc := "()V", sig := { parameters := [], returnType := none }, accessFlags := 2, code := none }
def k10c1 : Code := { maxStack := 3, maxLocals := 2, code := jdk_31_method_11_code, exceptionTable := #[], attributes := #[] }
def k10m1 : Method := { name := "requireNonNull", desc := "(Ljava/lang/Object;Ljava/lang/String;)Ljava/lang/Object;", sig := { parameters := [(.object "java/lang/Object"), (.object "java/lang/String")], returnType := some (.object "java/lang/Object") }, accessFlags := 9, code := some k10c1 }
/-- java/util/Objects -/
def k10 : Class := { plain "java/util/Objects" (some 0) with
  accessFlags := 49
  interfaces := #[]
  cf := some (fileOf pool10 42 #[] #[{ accessFlags := 2, nameIndex := 5, descriptorIndex := 6, attributes := #[] }, { accessFlags := 9, nameIndex := 45, descriptorIndex := 94, attributes := #[] }] 49 2 #[] #[])
  fields := #[]
  methods := #[k10m0, k10m1]
  instanceTypes := #[]
  staticTypes := #[]
  resolved := Array.replicate 184 none
  statics := none }

def pool11 : Array CpInfo := pool [(1, .methodref 2 3), (0, .class_ 4), (0, .nameAndType 5 6), (0, u "java/lang/Object"), (0, u "<init>"), (0, u "()V"), (1, .class_ 10), (1, u "java/lang/Number"), (2, .class_ 14), (0, u "java/io/Serializable"), (0, u "serialVersionUID"), (0, u "J")] 20

def k11c0 : Code := { maxStack := 1, maxLocals := 1, code := jdk_18_method_1_code, exceptionTable := #[], attributes := #[] }
def k11m0 : Method := { name := "<init>", desc := "()V", sig := { parameters := [], returnType := none }, accessFlags := 1, code := some k11c0 }
/-- java/lang/Number -/
def k11 : Class := { plain "java/lang/Number" (some 0) with
  accessFlags := 1057
  interfaces := #[2]
  cf := some (fileOf pool11 8 #[] #[{ accessFlags := 1, nameIndex := 5, descriptorIndex := 6, attributes := #[] }] 1057 2 #[13] #[{ accessFlags := 26, nameIndex := 15, descriptorIndex := 16, attributes := #[] }])
  fields := #[{ name := "serialVersionUID", type := .long, accessFlags := 26, slot := 0, constantValue := 0 }]
  methods := #[k11m0]
  instanceTypes := #[]
  staticTypes := #[.long]
  resolved := Array.replicate 37 none
  statics := none }

def pool12 : Array CpInfo := pool [(1, .class_ 2), (0, u "java/lang/Integer"), (16, u "digits"), (0, u "[C"), (46, u "<init>"), (17, u "DigitOnes"), (0, u "[B"), (2, u "DigitTens"), (10, .nameAndType 67 101), (0, u "()V"), (85, u "valueOf"), (0, u "(I)Ljava/lang/Integer;"), (0, .class_ 190), (0, u "java/lang/Integer$IntegerCache"), (0, .fieldref 189 192), (0, .nameAndType 193 194), (0, u "high"), (0, u "I"), (0, .fieldref 189 196), (0, .nameAndType 197 198), (0, u "cache"), (0, u "[Ljava/lang/Integer;"), (0, .methodref 1 200), (0, .nameAndType 67 201), (0, u "(I)V"), (0, .methodref 203 100), (0, .class_ 204), (0, u "java/lang/Number"), (0, .fieldref 1 206), (0, .nameAndType 207 194), (0, u "value"), (94, u "TYPE"), (0, u "Ljava/lang/Class;"), (0, .class_ 305), (0, u "java/lang/Comparable"), (0, .class_ 307), (0, u "java/lang/constant/Constable"), (0, .class_ 309), (0, u "java/lang/constant/ConstantDesc"), (0, u "MIN_VALUE"), (1, u "MAX_VALUE"), (3, u "SIZE"), (1, u "BYTES"), (1, u "serialVersionUID"), (0, u "J")] 131

def k12c0 : Code := { maxStack := 3, maxLocals := 1, code := jdk_33_method_22_code, exceptionTable := #[], attributes := #[] }
def k12m0 : Method := { name := "valueOf", desc := "(I)Ljava/lang/Integer;", sig := { parameters := [.int], returnType := some (.object "java/lang/Integer") }, accessFlags := 9, code := some k12c0 }
def k12c1 : Code := { maxStack := 2, maxLocals := 2, code := jdk_33_method_23_code, exceptionTable := #[], attributes := #[] }
def k12m1 : Method := { name := "<init>", desc := "(I)V", sig := { parameters := [.int], returnType := none }, accessFlags := 1, code := some k12c1 }
/-- java/lang/Integer -/
def k12 : Class := { plain "java/lang/Integer" (some 11) with
  accessFlags := 49
  interfaces := #[3, 5, 6]
  cf := some (fileOf pool12 1 #[.nestMembers #[189]] #[{ accessFlags := 9, nameIndex := 187, descriptorIndex := 188, attributes := #[] }, { accessFlags := 1, nameIndex := 67, descriptorIndex := 201, attributes := #[] }] 49 203 #[304, 306, 308] #[{ accessFlags := 25, nameIndex := 310, descriptorIndex := 194, attributes := #[] }, { accessFlags := 25, nameIndex := 312, descriptorIndex := 194, attributes := #[] }, { accessFlags := 25, nameIndex := 302, descriptorIndex := 303, attributes := #[] }, { accessFlags := 24, nameIndex := 19, descriptorIndex := 20, attributes := #[] }, { accessFlags := 24, nameIndex := 89, descriptorIndex := 86, attributes := #[] }, { accessFlags := 24, nameIndex := 85, descriptorIndex := 86, attributes := #[] }, { accessFlags := 18, nameIndex := 207, descriptorIndex := 194, attributes := #[] }, { accessFlags := 25, nameIndex := 316, descriptorIndex := 194, attributes := #[] }, { accessFlags := 25, nameIndex := 318, descriptorIndex := 194, attributes := #[] }, { accessFlags := 26, nameIndex := 320, descriptorIndex := 321, attributes := #[] }])
  fields := #[{ name := "MIN_VALUE", type := .int, accessFlags := 25, slot := 0, constantValue := 0 }, { name := "MAX_VALUE", type := .int, accessFlags := 25, slot := 1, constantValue := 0 }, { name := "TYPE", type := (.object "java/lang/Class"), accessFlags := 25, slot := 2, constantValue := 0 }, { name := "digits", type := (.array .char), accessFlags := 24, slot := 3, constantValue := 0 }, { name := "DigitTens", type := (.array .byte), accessFlags := 24, slot := 4, constantValue := 0 }, { name := "DigitOnes", type := (.array .byte), accessFlags := 24, slot := 5, constantValue := 0 }, { name := "value", type := .int, accessFlags := 18, slot := 0, constantValue := 0 }, { name := "SIZE", type := .int, accessFlags := 25, slot := 6, constantValue := 0 }, { name := "BYTES", type := .int, accessFlags := 25, slot := 7, constantValue := 0 }, { name := "serialVersionUID", type := .long, accessFlags := 26, slot := 8, constantValue := 0 }]
  methods := #[k12m0, k12m1]
  instanceTypes := #[.int]
  staticTypes := #[.int, .int, (.object "java/lang/Class"), (.array .char), (.array .byte), (.array .byte), .int, .int, .long]
  resolved := Array.replicate 453 none
  statics := none }

def pool13 : Array CpInfo := pool [(2, .class_ 4), (1, u "java/lang/Object"), (0, u "<init>"), (0, u "()V"), (0, .class_ 8), (0, u "java/lang/Integer"), (7, .class_ 18), (1, u "java/lang/Integer$IntegerCache"), (0, u "$assertionsDisabled"), (0, u "Z"), (26, u "high"), (0, u "I"), (8, u "archivedCache"), (0, u "[Ljava/lang/Integer;"), (12, u "cache"), (0, u "low")] 27

def k13m0 : Method := { name := "<init>", desc := "()V", sig := { parameters := [], returnType := none }, accessFlags := 2, code := none }
/-- java/lang/Integer$IntegerCache -/
def k13 : Class := { plain "java/lang/Integer$IntegerCache" (some 0) with
  accessFlags := 48
  interfaces := #[]
  cf := some (fileOf pool13 16 #[.nestHost 7] #[{ accessFlags := 2, nameIndex := 5, descriptorIndex := 6, attributes := #[] }] 48 2 #[] #[{ accessFlags := 24, nameIndex := 72, descriptorIndex := 48, attributes := #[] }, { accessFlags := 24, nameIndex := 47, descriptorIndex := 48, attributes := #[] }, { accessFlags := 24, nameIndex := 71, descriptorIndex := 58, attributes := #[] }, { accessFlags := 8, nameIndex := 57, descriptorIndex := 58, attributes := #[] }, { accessFlags := 4120, nameIndex := 19, descriptorIndex := 20, attributes := #[] }])
  fields := #[{ name := "low", type := .int, accessFlags := 24, slot := 0, constantValue := 0 }, { name := "high", type := .int, accessFlags := 24, slot := 1, constantValue := 0 }, { name := "cache", type := (.array (.object "java/lang/Integer")), accessFlags := 24, slot := 2, constantValue := 0 }, { name := "archivedCache", type := (.array (.object "java/lang/Integer")), accessFlags := 8, slot := 3, constantValue := 0 }, { name := "$assertionsDisabled", type := .boolean, accessFlags := 4120, slot := 4, constantValue := 0 }]
  methods := #[k13m0]
  instanceTypes := #[]
  staticTypes := #[.int, .int, (.array (.object "java/lang/Integer")), (.array (.object "java/lang/Integer")), .boolean]
  resolved := Array.replicate 100 none
  statics := some 1 }

def pool14 : Array CpInfo := pool [(2, .class_ 4), (1, u "java/lang/Object"), (0, u "<init>"), (0, u "()V"), (17, .class_ 26), (1, u "jdk/internal/util/Preconditions"), (28, .class_ 56), (0, u "jdk/internal/util/Preconditions$4"), (57, .class_ 115), (0, u "jdk/internal/util/Preconditions$1"), (7, u "SIOOBE_FORMATTER"), (0, u "Ljava/util/function/BiFunction;"), (0, .class_ 126), (0, u "jdk/internal/util/Preconditions$2"), (3, u "AIOOBE_FORMATTER"), (0, .class_ 132), (0, u "jdk/internal/util/Preconditions$3"), (3, u "IOOBE_FORMATTER")] 57

def k14m0 : Method := { name := "<init>", desc := "()V", sig := { parameters := [], returnType := none }, accessFlags := 1, code := none }
/-- jdk/internal/util/Preconditions -/
def k14 : Class := { plain "jdk/internal/util/Preconditions" (some 0) with
  accessFlags := 33
  interfaces := #[]
  cf := some (fileOf pool14 24 #[.nestMembers #[55, 131, 125, 114]] #[{ accessFlags := 1, nameIndex := 5, descriptorIndex := 6, attributes := #[] }] 33 2 #[] #[{ accessFlags := 25, nameIndex := 123, descriptorIndex := 124, attributes := #[] }, { accessFlags := 25, nameIndex := 130, descriptorIndex := 124, attributes := #[] }, { accessFlags := 25, nameIndex := 136, descriptorIndex := 124, attributes := #[] }])
  fields := #[{ name := "SIOOBE_FORMATTER", type := (.object "java/util/function/BiFunction"), accessFlags := 25, slot := 0, constantValue := 0 }, { name := "AIOOBE_FORMATTER", type := (.object "java/util/function/BiFunction"), accessFlags := 25, slot := 1, constantValue := 0 }, { name := "IOOBE_FORMATTER", type := (.object "java/util/function/BiFunction"), accessFlags := 25, slot := 2, constantValue := 0 }]
  methods := #[k14m0]
  instanceTypes := #[]
  staticTypes := #[(.object "java/util/function/BiFunction"), (.object "java/util/function/BiFunction"), (.object "java/util/function/BiFunction")]
  resolved := Array.replicate 194 none
  statics := some 2 }

def pool15 : Array CpInfo := pool [(9, u "<init>"), (6, .class_ 18), (1, u "java/lang/Object"), (0, u "()V"), (1, .class_ 23), (1, u "jdk/internal/util/ArraysSupport"), (0, u "LOG2_ARRAY_LONG_INDEX_SCALE"), (0, u "I"), (2, u "U"), (0, u "Ljdk/internal/misc/Unsafe;"), (8, u "BIG_ENDIAN"), (0, u "Z"), (8, u "LOG2_BYTE_BIT_SIZE"), (4, u "LOG2_ARRAY_INT_INDEX_SCALE"), (54, u "JLA"), (0, u "Ljdk/internal/access/JavaLangAccess;"), (11, u "LOG2_ARRAY_BOOLEAN_INDEX_SCALE"), (9, u "LOG2_ARRAY_BYTE_INDEX_SCALE"), (5, u "LOG2_ARRAY_CHAR_INDEX_SCALE"), (5, u "LOG2_ARRAY_SHORT_INDEX_SCALE"), (18, u "LOG2_ARRAY_FLOAT_INDEX_SCALE"), (24, u "LOG2_ARRAY_DOUBLE_INDEX_SCALE"), (89, u "T_BOOLEAN"), (2, u "T_CHAR"), (1, u "T_FLOAT"), (1, u "T_DOUBLE"), (1, u "T_BYTE"), (1, u "T_SHORT"), (1, u "T_INT"), (1, u "T_LONG"), (1, u "SOFT_MAX_ARRAY_LENGTH")] 83

def k15m0 : Method := { name := "<init>", desc := "()V", sig := { parameters := [], returnType := none }, accessFlags := 2, code := none }
/-- jdk/internal/util/ArraysSupport -/
def k15 : Class := { plain "jdk/internal/util/ArraysSupport" (some 0) with
  accessFlags := 33
  interfaces := #[]
  cf := some (fileOf pool15 21 #[] #[{ accessFlags := 2, nameIndex := 9, descriptorIndex := 19, attributes := #[] }] 33 16 #[] #[{ accessFlags := 24, nameIndex := 28, descriptorIndex := 29, attributes := #[] }, { accessFlags := 26, nameIndex := 38, descriptorIndex := 39, attributes := #[] }, { accessFlags := 25, nameIndex := 121, descriptorIndex := 25, attributes := #[] }, { accessFlags := 25, nameIndex := 131, descriptorIndex := 25, attributes := #[] }, { accessFlags := 25, nameIndex := 137, descriptorIndex := 25, attributes := #[] }, { accessFlags := 25, nameIndex := 143, descriptorIndex := 25, attributes := #[] }, { accessFlags := 25, nameIndex := 53, descriptorIndex := 25, attributes := #[] }, { accessFlags := 25, nameIndex := 24, descriptorIndex := 25, attributes := #[] }, { accessFlags := 25, nameIndex := 162, descriptorIndex := 25, attributes := #[] }, { accessFlags := 25, nameIndex := 187, descriptorIndex := 25, attributes := #[] }, { accessFlags := 26, nameIndex := 48, descriptorIndex := 25, attributes := #[] }, { accessFlags := 25, nameIndex := 277, descriptorIndex := 25, attributes := #[] }, { accessFlags := 25, nameIndex := 280, descriptorIndex := 25, attributes := #[] }, { accessFlags := 25, nameIndex := 282, descriptorIndex := 25, attributes := #[] }, { accessFlags := 25, nameIndex := 284, descriptorIndex := 25, attributes := #[] }, { accessFlags := 25, nameIndex := 286, descriptorIndex := 25, attributes := #[] }, { accessFlags := 25, nameIndex := 288, descriptorIndex := 25, attributes := #[] }, { accessFlags := 25, nameIndex := 290, descriptorIndex := 25, attributes := #[] }, { accessFlags := 25, nameIndex := 292, descriptorIndex := 25, attributes := #[] }, { accessFlags := 26, nameIndex := 108, descriptorIndex := 109, attributes := #[] }, { accessFlags := 25, nameIndex := 294, descriptorIndex := 25, attributes := #[] }])
  fields := #[{ name := "U", type := (.object "jdk/internal/misc/Unsafe"), accessFlags := 24, slot := 0, constantValue := 0 }, { name := "BIG_ENDIAN", type := .boolean, accessFlags := 26, slot := 1, constantValue := 0 }, { name := "LOG2_ARRAY_BOOLEAN_INDEX_SCALE", type := .int, accessFlags := 25, slot := 2, constantValue := 0 }, { name := "LOG2_ARRAY_BYTE_INDEX_SCALE", type := .int, accessFlags := 25, slot := 3, constantValue := 0 }, { name := "LOG2_ARRAY_CHAR_INDEX_SCALE", type := .int, accessFlags := 25, slot := 4, constantValue := 0 }, { name := "LOG2_ARRAY_SHORT_INDEX_SCALE", type := .int, accessFlags := 25, slot := 5, constantValue := 0 }, { name := "LOG2_ARRAY_INT_INDEX_SCALE", type := .int, accessFlags := 25, slot := 6, constantValue := 0 }, { name := "LOG2_ARRAY_LONG_INDEX_SCALE", type := .int, accessFlags := 25, slot := 7, constantValue := 0 }, { name := "LOG2_ARRAY_FLOAT_INDEX_SCALE", type := .int, accessFlags := 25, slot := 8, constantValue := 0 }, { name := "LOG2_ARRAY_DOUBLE_INDEX_SCALE", type := .int, accessFlags := 25, slot := 9, constantValue := 0 }, { name := "LOG2_BYTE_BIT_SIZE", type := .int, accessFlags := 26, slot := 10, constantValue := 0 }, { name := "T_BOOLEAN", type := .int, accessFlags := 25, slot := 11, constantValue := 0 }, { name := "T_CHAR", type := .int, accessFlags := 25, slot := 12, constantValue := 0 }, { name := "T_FLOAT", type := .int, accessFlags := 25, slot := 13, constantValue := 0 }, { name := "T_DOUBLE", type := .int, accessFlags := 25, slot := 14, constantValue := 0 }, { name := "T_BYTE", type := .int, accessFlags := 25, slot := 15, constantValue := 0 }, { name := "T_SHORT", type := .int, accessFlags := 25, slot := 16, constantValue := 0 }, { name := "T_INT", type := .int, accessFlags := 25, slot := 17, constantValue := 0 }, { name := "T_LONG", type := .int, accessFlags := 25, slot := 18, constantValue := 0 }, { name := "JLA", type := (.object "jdk/internal/access/JavaLangAccess"), accessFlags := 26, slot := 19, constantValue := 0 }, { name := "SOFT_MAX_ARRAY_LENGTH", type := .int, accessFlags := 25, slot := 20, constantValue := 0 }]
  methods := #[k15m0]
  instanceTypes := #[]
  staticTypes := #[(.object "jdk/internal/misc/Unsafe"), .boolean, .int, .int, .int, .int, .int, .int, .int, .int, .int, .int, .int, .int, .int, .int, .int, .int, .int, (.object "jdk/internal/access/JavaLangAccess"), .int]
  resolved := Array.replicate 378 none
  statics := none }

def pool16 : Array CpInfo := pool [(1, u "java/lang/Cloneable"), (0, .class_ 1), (0, u "java/lang/Object"), (0, .class_ 3)] 3

/-- java/lang/Cloneable -/
def k16 : Class := { plain "java/lang/Cloneable" (some 0) with
  accessFlags := 1537
  interfaces := #[]
  cf := some (fileOf pool16 2 #[] #[] 1537 4 #[] #[])
  fields := #[]
  methods := #[]
  instanceTypes := #[]
  staticTypes := #[]
  resolved := Array.replicate 8 none
  statics := none }

/-- the primitive byte -/
def k17 : Class := { plain "byte" none with kind := .primitive 'B', accessFlags := 0x411 }
/-- [B -/
def k18 : Class := { plain "[B" (some 0) with kind := .array 17 .byte, interfaces := #[16, 2], accessFlags := 1041 }

/-- the primitive int -/
def k19 : Class := { plain "int" none with kind := .primitive 'I', accessFlags := 0x411 }
/-- [I -/
def k20 : Class := { plain "[I" (some 0) with kind := .array 19 .int, interfaces := #[16, 2], accessFlags := 1041 }

/-- [Ljava/lang/Integer; -/
def k21 : Class := { plain "[Ljava/lang/Integer;" (some 0) with kind := .array 12 (.object "java/lang/Integer"), interfaces := #[16, 2], accessFlags := 1041 }

def heap : Heap := #[{ cls := 7, slots := #[.long 0, .int 1, .null, .int 0, .null, .int 0, .int 0], vm := .statics 7 },
  { cls := 13, slots := #[.int 0, .int 127, .ref 3, .null, .int 0], vm := .statics 13 },
  { cls := 14, slots := #[.null, .null, .null], vm := .statics 14 },
  { cls := 21, slots := #[.ref 4, .ref 5, .ref 6, .ref 7, .ref 8, .ref 9, .ref 10, .ref 11, .ref 12, .ref 13, .ref 14, .ref 15, .ref 16, .ref 17, .ref 18, .ref 19, .ref 20, .ref 21, .ref 22, .ref 23, .ref 24, .ref 25, .ref 26, .ref 27, .ref 28, .ref 29, .ref 30, .ref 31, .ref 32, .ref 33, .ref 34, .ref 35, .ref 36, .ref 37, .ref 38, .ref 39, .ref 40, .ref 41, .ref 42, .ref 43, .ref 44, .ref 45, .ref 46, .ref 47, .ref 48, .ref 49, .ref 50, .ref 51, .ref 52, .ref 53, .ref 54, .ref 55, .ref 56, .ref 57, .ref 58, .ref 59, .ref 60, .ref 61, .ref 62, .ref 63, .ref 64, .ref 65, .ref 66, .ref 67, .ref 68, .ref 69, .ref 70, .ref 71, .ref 72, .ref 73, .ref 74, .ref 75, .ref 76, .ref 77, .ref 78, .ref 79, .ref 80, .ref 81, .ref 82, .ref 83, .ref 84, .ref 85, .ref 86, .ref 87, .ref 88, .ref 89, .ref 90, .ref 91, .ref 92, .ref 93, .ref 94, .ref 95, .ref 96, .ref 97, .ref 98, .ref 99, .ref 100, .ref 101, .ref 102, .ref 103, .ref 104, .ref 105, .ref 106, .ref 107, .ref 108, .ref 109, .ref 110, .ref 111, .ref 112, .ref 113, .ref 114, .ref 115, .ref 116, .ref 117, .ref 118, .ref 119, .ref 120, .ref 121, .ref 122, .ref 123, .ref 124, .ref 125, .ref 126, .ref 127, .ref 128, .ref 129, .ref 130, .ref 131, .ref 132, .ref 133, .ref 134, .ref 135, .ref 136, .ref 137, .ref 138, .ref 139, .ref 140, .ref 141, .ref 142, .ref 143, .ref 144, .ref 145, .ref 146, .ref 147, .ref 148, .ref 149, .ref 150, .ref 151, .ref 152, .ref 153, .ref 154, .ref 155, .ref 156, .ref 157, .ref 158, .ref 159, .ref 160, .ref 161, .ref 162, .ref 163, .ref 164, .ref 165, .ref 166, .ref 167, .ref 168, .ref 169, .ref 170, .ref 171, .ref 172, .ref 173, .ref 174, .ref 175, .ref 176, .ref 177, .ref 178, .ref 179, .ref 180, .ref 181, .ref 182, .ref 183, .ref 184, .ref 185, .ref 186, .ref 187, .ref 188, .ref 189, .ref 190, .ref 191, .ref 192, .ref 193, .ref 194, .ref 195, .ref 196, .ref 197, .ref 198, .ref 199, .ref 200, .ref 201, .ref 202, .ref 203, .ref 204, .ref 205, .ref 206, .ref 207, .ref 208, .ref 209, .ref 210, .ref 211, .ref 212, .ref 213, .ref 214, .ref 215, .ref 216, .ref 217, .ref 218, .ref 219, .ref 220, .ref 221, .ref 222, .ref 223, .ref 224, .ref 225, .ref 226, .ref 227, .ref 228, .ref 229, .ref 230, .ref 231, .ref 232, .ref 233, .ref 234, .ref 235, .ref 236, .ref 237, .ref 238, .ref 239, .ref 240, .ref 241, .ref 242, .ref 243, .ref 244, .ref 245, .ref 246, .ref 247, .ref 248, .ref 249, .ref 250, .ref 251, .ref 252, .ref 253, .ref 254, .ref 255, .ref 256, .ref 257, .ref 258, .ref 259], vm := .none },
  { cls := 12, slots := #[.int (-128)], vm := .none },
  { cls := 12, slots := #[.int (-127)], vm := .none },
  { cls := 12, slots := #[.int (-126)], vm := .none },
  { cls := 12, slots := #[.int (-125)], vm := .none },
  { cls := 12, slots := #[.int (-124)], vm := .none },
  { cls := 12, slots := #[.int (-123)], vm := .none },
  { cls := 12, slots := #[.int (-122)], vm := .none },
  { cls := 12, slots := #[.int (-121)], vm := .none },
  { cls := 12, slots := #[.int (-120)], vm := .none },
  { cls := 12, slots := #[.int (-119)], vm := .none },
  { cls := 12, slots := #[.int (-118)], vm := .none },
  { cls := 12, slots := #[.int (-117)], vm := .none },
  { cls := 12, slots := #[.int (-116)], vm := .none },
  { cls := 12, slots := #[.int (-115)], vm := .none },
  { cls := 12, slots := #[.int (-114)], vm := .none },
  { cls := 12, slots := #[.int (-113)], vm := .none },
  { cls := 12, slots := #[.int (-112)], vm := .none },
  { cls := 12, slots := #[.int (-111)], vm := .none },
  { cls := 12, slots := #[.int (-110)], vm := .none },
  { cls := 12, slots := #[.int (-109)], vm := .none },
  { cls := 12, slots := #[.int (-108)], vm := .none },
  { cls := 12, slots := #[.int (-107)], vm := .none },
  { cls := 12, slots := #[.int (-106)], vm := .none },
  { cls := 12, slots := #[.int (-105)], vm := .none },
  { cls := 12, slots := #[.int (-104)], vm := .none },
  { cls := 12, slots := #[.int (-103)], vm := .none },
  { cls := 12, slots := #[.int (-102)], vm := .none },
  { cls := 12, slots := #[.int (-101)], vm := .none },
  { cls := 12, slots := #[.int (-100)], vm := .none },
  { cls := 12, slots := #[.int (-99)], vm := .none },
  { cls := 12, slots := #[.int (-98)], vm := .none },
  { cls := 12, slots := #[.int (-97)], vm := .none },
  { cls := 12, slots := #[.int (-96)], vm := .none },
  { cls := 12, slots := #[.int (-95)], vm := .none },
  { cls := 12, slots := #[.int (-94)], vm := .none },
  { cls := 12, slots := #[.int (-93)], vm := .none },
  { cls := 12, slots := #[.int (-92)], vm := .none },
  { cls := 12, slots := #[.int (-91)], vm := .none },
  { cls := 12, slots := #[.int (-90)], vm := .none },
  { cls := 12, slots := #[.int (-89)], vm := .none },
  { cls := 12, slots := #[.int (-88)], vm := .none },
  { cls := 12, slots := #[.int (-87)], vm := .none },
  { cls := 12, slots := #[.int (-86)], vm := .none },
  { cls := 12, slots := #[.int (-85)], vm := .none },
  { cls := 12, slots := #[.int (-84)], vm := .none },
  { cls := 12, slots := #[.int (-83)], vm := .none },
  { cls := 12, slots := #[.int (-82)], vm := .none },
  { cls := 12, slots := #[.int (-81)], vm := .none },
  { cls := 12, slots := #[.int (-80)], vm := .none },
  { cls := 12, slots := #[.int (-79)], vm := .none },
  { cls := 12, slots := #[.int (-78)], vm := .none },
  { cls := 12, slots := #[.int (-77)], vm := .none },
  { cls := 12, slots := #[.int (-76)], vm := .none },
  { cls := 12, slots := #[.int (-75)], vm := .none },
  { cls := 12, slots := #[.int (-74)], vm := .none },
  { cls := 12, slots := #[.int (-73)], vm := .none },
  { cls := 12, slots := #[.int (-72)], vm := .none },
  { cls := 12, slots := #[.int (-71)], vm := .none },
  { cls := 12, slots := #[.int (-70)], vm := .none },
  { cls := 12, slots := #[.int (-69)], vm := .none },
  { cls := 12, slots := #[.int (-68)], vm := .none },
  { cls := 12, slots := #[.int (-67)], vm := .none },
  { cls := 12, slots := #[.int (-66)], vm := .none },
  { cls := 12, slots := #[.int (-65)], vm := .none },
  { cls := 12, slots := #[.int (-64)], vm := .none },
  { cls := 12, slots := #[.int (-63)], vm := .none },
  { cls := 12, slots := #[.int (-62)], vm := .none },
  { cls := 12, slots := #[.int (-61)], vm := .none },
  { cls := 12, slots := #[.int (-60)], vm := .none },
  { cls := 12, slots := #[.int (-59)], vm := .none },
  { cls := 12, slots := #[.int (-58)], vm := .none },
  { cls := 12, slots := #[.int (-57)], vm := .none },
  { cls := 12, slots := #[.int (-56)], vm := .none },
  { cls := 12, slots := #[.int (-55)], vm := .none },
  { cls := 12, slots := #[.int (-54)], vm := .none },
  { cls := 12, slots := #[.int (-53)], vm := .none },
  { cls := 12, slots := #[.int (-52)], vm := .none },
  { cls := 12, slots := #[.int (-51)], vm := .none },
  { cls := 12, slots := #[.int (-50)], vm := .none },
  { cls := 12, slots := #[.int (-49)], vm := .none },
  { cls := 12, slots := #[.int (-48)], vm := .none },
  { cls := 12, slots := #[.int (-47)], vm := .none },
  { cls := 12, slots := #[.int (-46)], vm := .none },
  { cls := 12, slots := #[.int (-45)], vm := .none },
  { cls := 12, slots := #[.int (-44)], vm := .none },
  { cls := 12, slots := #[.int (-43)], vm := .none },
  { cls := 12, slots := #[.int (-42)], vm := .none },
  { cls := 12, slots := #[.int (-41)], vm := .none },
  { cls := 12, slots := #[.int (-40)], vm := .none },
  { cls := 12, slots := #[.int (-39)], vm := .none },
  { cls := 12, slots := #[.int (-38)], vm := .none },
  { cls := 12, slots := #[.int (-37)], vm := .none },
  { cls := 12, slots := #[.int (-36)], vm := .none },
  { cls := 12, slots := #[.int (-35)], vm := .none },
  { cls := 12, slots := #[.int (-34)], vm := .none },
  { cls := 12, slots := #[.int (-33)], vm := .none },
  { cls := 12, slots := #[.int (-32)], vm := .none },
  { cls := 12, slots := #[.int (-31)], vm := .none },
  { cls := 12, slots := #[.int (-30)], vm := .none },
  { cls := 12, slots := #[.int (-29)], vm := .none },
  { cls := 12, slots := #[.int (-28)], vm := .none },
  { cls := 12, slots := #[.int (-27)], vm := .none },
  { cls := 12, slots := #[.int (-26)], vm := .none },
  { cls := 12, slots := #[.int (-25)], vm := .none },
  { cls := 12, slots := #[.int (-24)], vm := .none },
  { cls := 12, slots := #[.int (-23)], vm := .none },
  { cls := 12, slots := #[.int (-22)], vm := .none },
  { cls := 12, slots := #[.int (-21)], vm := .none },
  { cls := 12, slots := #[.int (-20)], vm := .none },
  { cls := 12, slots := #[.int (-19)], vm := .none },
  { cls := 12, slots := #[.int (-18)], vm := .none },
  { cls := 12, slots := #[.int (-17)], vm := .none },
  { cls := 12, slots := #[.int (-16)], vm := .none },
  { cls := 12, slots := #[.int (-15)], vm := .none },
  { cls := 12, slots := #[.int (-14)], vm := .none },
  { cls := 12, slots := #[.int (-13)], vm := .none },
  { cls := 12, slots := #[.int (-12)], vm := .none },
  { cls := 12, slots := #[.int (-11)], vm := .none },
  { cls := 12, slots := #[.int (-10)], vm := .none },
  { cls := 12, slots := #[.int (-9)], vm := .none },
  { cls := 12, slots := #[.int (-8)], vm := .none },
  { cls := 12, slots := #[.int (-7)], vm := .none },
  { cls := 12, slots := #[.int (-6)], vm := .none },
  { cls := 12, slots := #[.int (-5)], vm := .none },
  { cls := 12, slots := #[.int (-4)], vm := .none },
  { cls := 12, slots := #[.int (-3)], vm := .none },
  { cls := 12, slots := #[.int (-2)], vm := .none },
  { cls := 12, slots := #[.int (-1)], vm := .none },
  { cls := 12, slots := #[.int 0], vm := .none },
  { cls := 12, slots := #[.int 1], vm := .none },
  { cls := 12, slots := #[.int 2], vm := .none },
  { cls := 12, slots := #[.int 3], vm := .none },
  { cls := 12, slots := #[.int 4], vm := .none },
  { cls := 12, slots := #[.int 5], vm := .none },
  { cls := 12, slots := #[.int 6], vm := .none },
  { cls := 12, slots := #[.int 7], vm := .none },
  { cls := 12, slots := #[.int 8], vm := .none },
  { cls := 12, slots := #[.int 9], vm := .none },
  { cls := 12, slots := #[.int 10], vm := .none },
  { cls := 12, slots := #[.int 11], vm := .none },
  { cls := 12, slots := #[.int 12], vm := .none },
  { cls := 12, slots := #[.int 13], vm := .none },
  { cls := 12, slots := #[.int 14], vm := .none },
  { cls := 12, slots := #[.int 15], vm := .none },
  { cls := 12, slots := #[.int 16], vm := .none },
  { cls := 12, slots := #[.int 17], vm := .none },
  { cls := 12, slots := #[.int 18], vm := .none },
  { cls := 12, slots := #[.int 19], vm := .none },
  { cls := 12, slots := #[.int 20], vm := .none },
  { cls := 12, slots := #[.int 21], vm := .none },
  { cls := 12, slots := #[.int 22], vm := .none },
  { cls := 12, slots := #[.int 23], vm := .none },
  { cls := 12, slots := #[.int 24], vm := .none },
  { cls := 12, slots := #[.int 25], vm := .none },
  { cls := 12, slots := #[.int 26], vm := .none },
  { cls := 12, slots := #[.int 27], vm := .none },
  { cls := 12, slots := #[.int 28], vm := .none },
  { cls := 12, slots := #[.int 29], vm := .none },
  { cls := 12, slots := #[.int 30], vm := .none },
  { cls := 12, slots := #[.int 31], vm := .none },
  { cls := 12, slots := #[.int 32], vm := .none },
  { cls := 12, slots := #[.int 33], vm := .none },
  { cls := 12, slots := #[.int 34], vm := .none },
  { cls := 12, slots := #[.int 35], vm := .none },
  { cls := 12, slots := #[.int 36], vm := .none },
  { cls := 12, slots := #[.int 37], vm := .none },
  { cls := 12, slots := #[.int 38], vm := .none },
  { cls := 12, slots := #[.int 39], vm := .none },
  { cls := 12, slots := #[.int 40], vm := .none },
  { cls := 12, slots := #[.int 41], vm := .none },
  { cls := 12, slots := #[.int 42], vm := .none },
  { cls := 12, slots := #[.int 43], vm := .none },
  { cls := 12, slots := #[.int 44], vm := .none },
  { cls := 12, slots := #[.int 45], vm := .none },
  { cls := 12, slots := #[.int 46], vm := .none },
  { cls := 12, slots := #[.int 47], vm := .none },
  { cls := 12, slots := #[.int 48], vm := .none },
  { cls := 12, slots := #[.int 49], vm := .none },
  { cls := 12, slots := #[.int 50], vm := .none },
  { cls := 12, slots := #[.int 51], vm := .none },
  { cls := 12, slots := #[.int 52], vm := .none },
  { cls := 12, slots := #[.int 53], vm := .none },
  { cls := 12, slots := #[.int 54], vm := .none },
  { cls := 12, slots := #[.int 55], vm := .none },
  { cls := 12, slots := #[.int 56], vm := .none },
  { cls := 12, slots := #[.int 57], vm := .none },
  { cls := 12, slots := #[.int 58], vm := .none },
  { cls := 12, slots := #[.int 59], vm := .none },
  { cls := 12, slots := #[.int 60], vm := .none },
  { cls := 12, slots := #[.int 61], vm := .none },
  { cls := 12, slots := #[.int 62], vm := .none },
  { cls := 12, slots := #[.int 63], vm := .none },
  { cls := 12, slots := #[.int 64], vm := .none },
  { cls := 12, slots := #[.int 65], vm := .none },
  { cls := 12, slots := #[.int 66], vm := .none },
  { cls := 12, slots := #[.int 67], vm := .none },
  { cls := 12, slots := #[.int 68], vm := .none },
  { cls := 12, slots := #[.int 69], vm := .none },
  { cls := 12, slots := #[.int 70], vm := .none },
  { cls := 12, slots := #[.int 71], vm := .none },
  { cls := 12, slots := #[.int 72], vm := .none },
  { cls := 12, slots := #[.int 73], vm := .none },
  { cls := 12, slots := #[.int 74], vm := .none },
  { cls := 12, slots := #[.int 75], vm := .none },
  { cls := 12, slots := #[.int 76], vm := .none },
  { cls := 12, slots := #[.int 77], vm := .none },
  { cls := 12, slots := #[.int 78], vm := .none },
  { cls := 12, slots := #[.int 79], vm := .none },
  { cls := 12, slots := #[.int 80], vm := .none },
  { cls := 12, slots := #[.int 81], vm := .none },
  { cls := 12, slots := #[.int 82], vm := .none },
  { cls := 12, slots := #[.int 83], vm := .none },
  { cls := 12, slots := #[.int 84], vm := .none },
  { cls := 12, slots := #[.int 85], vm := .none },
  { cls := 12, slots := #[.int 86], vm := .none },
  { cls := 12, slots := #[.int 87], vm := .none },
  { cls := 12, slots := #[.int 88], vm := .none },
  { cls := 12, slots := #[.int 89], vm := .none },
  { cls := 12, slots := #[.int 90], vm := .none },
  { cls := 12, slots := #[.int 91], vm := .none },
  { cls := 12, slots := #[.int 92], vm := .none },
  { cls := 12, slots := #[.int 93], vm := .none },
  { cls := 12, slots := #[.int 94], vm := .none },
  { cls := 12, slots := #[.int 95], vm := .none },
  { cls := 12, slots := #[.int 96], vm := .none },
  { cls := 12, slots := #[.int 97], vm := .none },
  { cls := 12, slots := #[.int 98], vm := .none },
  { cls := 12, slots := #[.int 99], vm := .none },
  { cls := 12, slots := #[.int 100], vm := .none },
  { cls := 12, slots := #[.int 101], vm := .none },
  { cls := 12, slots := #[.int 102], vm := .none },
  { cls := 12, slots := #[.int 103], vm := .none },
  { cls := 12, slots := #[.int 104], vm := .none },
  { cls := 12, slots := #[.int 105], vm := .none },
  { cls := 12, slots := #[.int 106], vm := .none },
  { cls := 12, slots := #[.int 107], vm := .none },
  { cls := 12, slots := #[.int 108], vm := .none },
  { cls := 12, slots := #[.int 109], vm := .none },
  { cls := 12, slots := #[.int 110], vm := .none },
  { cls := 12, slots := #[.int 111], vm := .none },
  { cls := 12, slots := #[.int 112], vm := .none },
  { cls := 12, slots := #[.int 113], vm := .none },
  { cls := 12, slots := #[.int 114], vm := .none },
  { cls := 12, slots := #[.int 115], vm := .none },
  { cls := 12, slots := #[.int 116], vm := .none },
  { cls := 12, slots := #[.int 117], vm := .none },
  { cls := 12, slots := #[.int 118], vm := .none },
  { cls := 12, slots := #[.int 119], vm := .none },
  { cls := 12, slots := #[.int 120], vm := .none },
  { cls := 12, slots := #[.int 121], vm := .none },
  { cls := 12, slots := #[.int 122], vm := .none },
  { cls := 12, slots := #[.int 123], vm := .none },
  { cls := 12, slots := #[.int 124], vm := .none },
  { cls := 12, slots := #[.int 125], vm := .none },
  { cls := 12, slots := #[.int 126], vm := .none },
  { cls := 12, slots := #[.int 127], vm := .none }]
def classes : Array Class := #[k0, k1, k2, k3, k4, k5, k6, k7, k8, k9, k10, k11, k12, k13, k14, k15, k16, k17, k18, k19, k20, k21]
def interned : List (Array UInt16 × Addr) := []
def slotsUsed : Nat := 527
def theMethod : MethodId := ⟨1, 3⟩
def args0 : Array Value := #[.int 5, .int 6, .int 7, .int 8, .int 9]
def aboutOver (below : List Frame) : State where
  vm := { classes := classes, interned := interned.toArray }
  heap := heap
  slotsUsed := slotsUsed
  threads := #[{ frames := .invoking theMethod args0 :: below }]
def below0 : List Frame := [.native { method := ⟨0, 0⟩, args := #[] }]
def about1 : State := aboutOver below0
def p0 : Program := .bare "" "" ""
def e0 : Env := launch0.env 0 0 0
theorem w_frames : about1.frames = Frame.invoking theMethod args0 :: below0 := rfl
set_option maxRecDepth 65536 in
theorem w_args : argsFit about1.vm theMethod args0 = true := by decide +kernel
set_option maxRecDepth 65536 in
theorem w_heap : heapFits about1 = true := by decide +kernel
set_option maxRecDepth 65536 in
theorem w_runnable : about1.curStatus? = some .runnable := by decide +kernel
set_option maxRecDepth 65536 in
theorem w_alone : about1.alone = true := by decide +kernel
set_option maxRecDepth 65536 in
theorem w_named : about1.methodNamed? x = some theMethod := by decide +kernel
set_option maxRecDepth 65536 in
theorem w_hears : about1.hears theMethod below0 = true := by decide +kernel
set_option maxRecDepth 65536 in
theorem w_ripe : about1.ripe theMethod args0 below0 = true := by decide +kernel
theorem w_running : about1.status = .running := rfl
set_option maxRecDepth 65536 in
theorem w_room : about1.hasRoom e0.platform room_1 = true :=
  launch0.hasRoom_least _ room_1 (by decide +kernel) (by decide +kernel) (by decide +kernel) (by decide +kernel) (by decide +kernel) (by decide +kernel)
theorem allAtoms_all (ts : List Jvm.Cond) (a : Array Jvm.Value) (st : Jvm.State) : (allAtoms ts).before a st = ts.all (fun c => c.before a st) := by
  induction ts with
  | nil => rfl
  | cons c t ih =>
    show (Jvm.Cond.and c (allAtoms t)).before a st = _
    rw [Jvm.Cond.before_and, ih, List.all_cons]
def words1 : List Jvm.Cond := Jvm.Cond.code x code maxLocals ret :: tables_1
/-- a 'code' word, met by the world's own term for the bytes: nothing is compared byte by byte -/
theorem code_word {y : MethodName} {bytes : ByteArray} {mx : Nat} {rt : Option FieldType} {a : Array Value} {s : State} {m : MethodId} {meth : Method} {c : Code} (h1 : s.methodNamed? y = some m) (h2 : s.vm.method? m = some meth) (h3 : meth.code = some c) (h4 : c.code = bytes)
    (h5 : (c.maxLocals == mx && c.exceptionTable.isEmpty && decide (c.maxStack ≤ mostOperands) && decide (meth.sig.returnType = rt) && !meth.locks && decide (parseMethodDescriptor y.desc = some meth.sig)) = true) : (Jvm.Cond.code y bytes mx rt).before a s = true := by
  simp only [Bool.and_eq_true, beq_iff_eq, Bool.not_eq_true', decide_eq_true_eq] at h5
  obtain ⟨⟨⟨⟨⟨g1, g2⟩, g3⟩, g4⟩, g5⟩, g6⟩ := h5
  simp [Cond.before, Cond.holds, Cond.value, h1, h2, h3, h4, g1, g2, g3, g4, g5, g6]
def isCode : Jvm.Cond → Bool
  | .code _ _ _ _ => true
  | _ => false
theorem all_split {L : List Jvm.Cond} {P : Jvm.Cond → Bool} (h1 : L.all (fun c => isCode c || P c) = true) (h2 : ∀ c ∈ L.filter isCode, P c = true) : L.all P = true := by
  refine List.all_eq_true.mpr fun c hc => ?_
  have h := List.all_eq_true.mp h1 c hc
  rcases Bool.eq_false_or_eq_true (isCode c) with hi | hi
  · exact h2 c (List.mem_filter.mpr ⟨hc, hi⟩)
  · simpa [hi] using h
set_option maxRecDepth 65536 in
theorem w_c0 : (Jvm.Cond.code x code maxLocals ret).before args0 about1 = true := code_word (m := ⟨1, 3⟩) (meth := k1m3) (c := k1c3) (by decide +kernel) rfl rfl rfl (by decide +kernel)
set_option maxRecDepth 65536 in
theorem w_c1 : (Jvm.Cond.code ({ cls := "com/example/narada/narada/client/MessageQueueEqualsPinLaw", name := "str", desc := "(ZI)Ljava/lang/String;" } : Jvm.MethodName) method_2_code (2 : Nat) (Option.some (Jvm.ClassFile.FieldType.object "java/lang/String"))).before args0 about1 = true := code_word (m := ⟨1, 1⟩) (meth := k1m1) (c := k1c1) (by decide +kernel) rfl rfl rfl (by decide +kernel)
set_option maxRecDepth 65536 in
theorem w_c2 : (Jvm.Cond.code ({ cls := "java/lang/String", name := "valueOf", desc := "(C)Ljava/lang/String;" } : Jvm.MethodName) jdk_42_method_139_code (1 : Nat) (Option.some (Jvm.ClassFile.FieldType.object "java/lang/String"))).before args0 about1 = true := code_word (m := ⟨7, 2⟩) (meth := k7m2) (c := k7c2) (by decide +kernel) rfl rfl rfl (by decide +kernel)
set_option maxRecDepth 65536 in
theorem w_c3 : (Jvm.Cond.code ({ cls := "java/lang/StringLatin1", name := "canEncode", desc := "(C)Z" } : Jvm.MethodName) jdk_43_method_3_code (1 : Nat) (Option.some Jvm.ClassFile.FieldType.boolean)).before args0 about1 = true := code_word (m := ⟨8, 1⟩) (meth := k8m1) (c := k8c1) (by decide +kernel) rfl rfl rfl (by decide +kernel)
set_option maxRecDepth 65536 in
theorem w_c4 : (Jvm.Cond.code ({ cls := "java/lang/StringLatin1", name := "toBytes", desc := "(C)[B" } : Jvm.MethodName) jdk_43_method_46_code (1 : Nat) (Option.some (Jvm.ClassFile.FieldType.array Jvm.ClassFile.FieldType.byte))).before args0 about1 = true := code_word (m := ⟨8, 3⟩) (meth := k8m3) (c := k8c3) (by decide +kernel) rfl rfl rfl (by decide +kernel)
set_option maxRecDepth 65536 in
theorem w_c5 : (Jvm.Cond.code ({ cls := "java/lang/String", name := "<init>", desc := "([BB)V" } : Jvm.MethodName) jdk_42_method_151_code (3 : Nat) (Option.none : Option Jvm.ClassFile.FieldType)).before args0 about1 = true := code_word (m := ⟨7, 3⟩) (meth := k7m3) (c := k7c3) (by decide +kernel) rfl rfl rfl (by decide +kernel)
set_option maxRecDepth 65536 in
theorem w_c6 : (Jvm.Cond.code ({ cls := "java/lang/Object", name := "<init>", desc := "()V" } : Jvm.MethodName) object_method_1_code (1 : Nat) (Option.none : Option Jvm.ClassFile.FieldType)).before args0 about1 = true := code_word (m := ⟨0, 0⟩) (meth := k0m0) (c := k0c0) (by decide +kernel) rfl rfl rfl (by decide +kernel)
set_option maxRecDepth 65536 in
theorem w_c7 : (Jvm.Cond.code ({ cls := "com/example/narada/narada/client/MessageQueue", name := "<init>", desc := "(Ljava/lang/String;Ljava/lang/String;I)V" } : Jvm.MethodName) prog_11_method_1_code (4 : Nat) (Option.none : Option Jvm.ClassFile.FieldType)).before args0 about1 = true := code_word (m := ⟨9, 0⟩) (meth := k9m0) (c := k9c0) (by decide +kernel) rfl rfl rfl (by decide +kernel)
set_option maxRecDepth 65536 in
theorem w_c8 : (Jvm.Cond.code ({ cls := "java/util/Objects", name := "requireNonNull", desc := "(Ljava/lang/Object;Ljava/lang/String;)Ljava/lang/Object;" } : Jvm.MethodName) jdk_31_method_11_code (2 : Nat) (Option.some (Jvm.ClassFile.FieldType.object "java/lang/Object"))).before args0 about1 = true := code_word (m := ⟨10, 1⟩) (meth := k10m1) (c := k10c1) (by decide +kernel) rfl rfl rfl (by decide +kernel)
set_option maxRecDepth 65536 in
theorem w_c9 : (Jvm.Cond.code ({ cls := "com/example/narada/narada/client/MessageQueueEqualsPinLaw", name := "same", desc := "(ZIZI)Z" } : Jvm.MethodName) method_3_code (4 : Nat) (Option.some Jvm.ClassFile.FieldType.boolean)).before args0 about1 = true := code_word (m := ⟨1, 2⟩) (meth := k1m2) (c := k1c2) (by decide +kernel) rfl rfl rfl (by decide +kernel)
set_option maxRecDepth 65536 in
theorem w_c10 : (Jvm.Cond.code ({ cls := "com/example/narada/narada/client/MessageQueue", name := "equals", desc := "(Ljava/lang/Object;)Z" } : Jvm.MethodName) prog_11_method_6_code (3 : Nat) (Option.some Jvm.ClassFile.FieldType.boolean)).before args0 about1 = true := code_word (m := ⟨9, 1⟩) (meth := k9m1) (c := k9c1) (by decide +kernel) rfl rfl rfl (by decide +kernel)
set_option maxRecDepth 65536 in
theorem w_c11 : (Jvm.Cond.code ({ cls := "java/lang/String", name := "equals", desc := "(Ljava/lang/Object;)Z" } : Jvm.MethodName) jdk_42_method_66_code (3 : Nat) (Option.some Jvm.ClassFile.FieldType.boolean)).before args0 about1 = true := code_word (m := ⟨7, 1⟩) (meth := k7m1) (c := k7c1) (by decide +kernel) rfl rfl rfl (by decide +kernel)
set_option maxRecDepth 65536 in
theorem w_c12 : (Jvm.Cond.code ({ cls := "java/lang/StringLatin1", name := "equals", desc := "([B[B)Z" } : Jvm.MethodName) jdk_43_method_13_code (3 : Nat) (Option.some Jvm.ClassFile.FieldType.boolean)).before args0 about1 = true := code_word (m := ⟨8, 2⟩) (meth := k8m2) (c := k8c2) (by decide +kernel) rfl rfl rfl (by decide +kernel)
set_option maxRecDepth 65536 in
theorem w_c13 : (Jvm.Cond.code ({ cls := "java/lang/Integer", name := "valueOf", desc := "(I)Ljava/lang/Integer;" } : Jvm.MethodName) jdk_33_method_22_code (1 : Nat) (Option.some (Jvm.ClassFile.FieldType.object "java/lang/Integer"))).before args0 about1 = true := code_word (m := ⟨12, 0⟩) (meth := k12m0) (c := k12c0) (by decide +kernel) rfl rfl rfl (by decide +kernel)
set_option maxRecDepth 65536 in
theorem w_c14 : (Jvm.Cond.code ({ cls := "java/lang/Integer", name := "<init>", desc := "(I)V" } : Jvm.MethodName) jdk_33_method_23_code (2 : Nat) (Option.none : Option Jvm.ClassFile.FieldType)).before args0 about1 = true := code_word (m := ⟨12, 1⟩) (meth := k12m1) (c := k12c1) (by decide +kernel) rfl rfl rfl (by decide +kernel)
set_option maxRecDepth 65536 in
theorem w_c15 : (Jvm.Cond.code ({ cls := "java/lang/Number", name := "<init>", desc := "()V" } : Jvm.MethodName) jdk_18_method_1_code (1 : Nat) (Option.none : Option Jvm.ClassFile.FieldType)).before args0 about1 = true := code_word (m := ⟨11, 0⟩) (meth := k11m0) (c := k11c0) (by decide +kernel) rfl rfl rfl (by decide +kernel)
def codes1 : List Jvm.Cond := [Jvm.Cond.code x code maxLocals ret, Jvm.Cond.code ({ cls := "com/example/narada/narada/client/MessageQueueEqualsPinLaw", name := "str", desc := "(ZI)Ljava/lang/String;" } : Jvm.MethodName) method_2_code (2 : Nat) (Option.some (Jvm.ClassFile.FieldType.object "java/lang/String")), Jvm.Cond.code ({ cls := "java/lang/String", name := "valueOf", desc := "(C)Ljava/lang/String;" } : Jvm.MethodName) jdk_42_method_139_code (1 : Nat) (Option.some (Jvm.ClassFile.FieldType.object "java/lang/String")), Jvm.Cond.code ({ cls := "java/lang/StringLatin1", name := "canEncode", desc := "(C)Z" } : Jvm.MethodName) jdk_43_method_3_code (1 : Nat) (Option.some Jvm.ClassFile.FieldType.boolean), Jvm.Cond.code ({ cls := "java/lang/StringLatin1", name := "toBytes", desc := "(C)[B" } : Jvm.MethodName) jdk_43_method_46_code (1 : Nat) (Option.some (Jvm.ClassFile.FieldType.array Jvm.ClassFile.FieldType.byte)), Jvm.Cond.code ({ cls := "java/lang/String", name := "<init>", desc := "([BB)V" } : Jvm.MethodName) jdk_42_method_151_code (3 : Nat) (Option.none : Option Jvm.ClassFile.FieldType), Jvm.Cond.code ({ cls := "java/lang/Object", name := "<init>", desc := "()V" } : Jvm.MethodName) object_method_1_code (1 : Nat) (Option.none : Option Jvm.ClassFile.FieldType), Jvm.Cond.code ({ cls := "com/example/narada/narada/client/MessageQueue", name := "<init>", desc := "(Ljava/lang/String;Ljava/lang/String;I)V" } : Jvm.MethodName) prog_11_method_1_code (4 : Nat) (Option.none : Option Jvm.ClassFile.FieldType), Jvm.Cond.code ({ cls := "java/util/Objects", name := "requireNonNull", desc := "(Ljava/lang/Object;Ljava/lang/String;)Ljava/lang/Object;" } : Jvm.MethodName) jdk_31_method_11_code (2 : Nat) (Option.some (Jvm.ClassFile.FieldType.object "java/lang/Object")), Jvm.Cond.code ({ cls := "com/example/narada/narada/client/MessageQueueEqualsPinLaw", name := "same", desc := "(ZIZI)Z" } : Jvm.MethodName) method_3_code (4 : Nat) (Option.some Jvm.ClassFile.FieldType.boolean), Jvm.Cond.code ({ cls := "com/example/narada/narada/client/MessageQueue", name := "equals", desc := "(Ljava/lang/Object;)Z" } : Jvm.MethodName) prog_11_method_6_code (3 : Nat) (Option.some Jvm.ClassFile.FieldType.boolean), Jvm.Cond.code ({ cls := "java/lang/String", name := "equals", desc := "(Ljava/lang/Object;)Z" } : Jvm.MethodName) jdk_42_method_66_code (3 : Nat) (Option.some Jvm.ClassFile.FieldType.boolean), Jvm.Cond.code ({ cls := "java/lang/StringLatin1", name := "equals", desc := "([B[B)Z" } : Jvm.MethodName) jdk_43_method_13_code (3 : Nat) (Option.some Jvm.ClassFile.FieldType.boolean), Jvm.Cond.code ({ cls := "java/lang/Integer", name := "valueOf", desc := "(I)Ljava/lang/Integer;" } : Jvm.MethodName) jdk_33_method_22_code (1 : Nat) (Option.some (Jvm.ClassFile.FieldType.object "java/lang/Integer")), Jvm.Cond.code ({ cls := "java/lang/Integer", name := "<init>", desc := "(I)V" } : Jvm.MethodName) jdk_33_method_23_code (2 : Nat) (Option.none : Option Jvm.ClassFile.FieldType), Jvm.Cond.code ({ cls := "java/lang/Number", name := "<init>", desc := "()V" } : Jvm.MethodName) jdk_18_method_1_code (1 : Nat) (Option.none : Option Jvm.ClassFile.FieldType)]
set_option maxRecDepth 65536 in
theorem codes_eq : words1.filter isCode = codes1 := rfl
theorem w_codes : ∀ c ∈ words1.filter isCode, c.before args0 about1 = true := by
  rw [codes_eq]
  intro c hc
  simp only [codes1, List.mem_cons, List.not_mem_nil, or_false] at hc
  rcases hc with rfl | rfl | rfl | rfl | rfl | rfl | rfl | rfl | rfl | rfl | rfl | rfl | rfl | rfl | rfl | rfl
  · exact w_c0
  · exact w_c1
  · exact w_c2
  · exact w_c3
  · exact w_c4
  · exact w_c5
  · exact w_c6
  · exact w_c7
  · exact w_c8
  · exact w_c9
  · exact w_c10
  · exact w_c11
  · exact w_c12
  · exact w_c13
  · exact w_c14
  · exact w_c15
set_option maxRecDepth 65536 in
theorem w_t1 : (words1.take 24).all (fun c => isCode c || c.before args0 about1) = true := by decide +kernel
set_option maxRecDepth 65536 in
theorem w_t2 : ((words1.drop 24).take 24).all (fun c => isCode c || c.before args0 about1) = true := by decide +kernel
set_option maxRecDepth 65536 in
theorem w_t3 : (((words1.drop 24).drop 24).take 24).all (fun c => isCode c || c.before args0 about1) = true := by decide +kernel
set_option maxRecDepth 65536 in
theorem w_t4 : ((((words1.drop 24).drop 24).drop 24).take 24).all (fun c => isCode c || c.before args0 about1) = true := by decide +kernel
set_option maxRecDepth 65536 in
theorem w_t5 : ((((words1.drop 24).drop 24).drop 24).drop 24).all (fun c => isCode c || c.before args0 about1) = true := by decide +kernel
theorem w_tables : (allAtoms (Jvm.Cond.code x code maxLocals ret :: tables_1)).before args0 about1 = true := by
  rw [allAtoms_all]
  show words1.all (fun c => c.before args0 about1) = true
  refine all_split ?_ w_codes
  rw [← List.take_append_drop 24 words1, List.all_append, w_t1, ← List.take_append_drop 24 (words1.drop 24), List.all_append, w_t2, ← List.take_append_drop 24 ((words1.drop 24).drop 24), List.all_append, w_t3, ← List.take_append_drop 24 (((words1.drop 24).drop 24).drop 24), List.all_append, w_t4, w_t5]
  rfl
set_option maxRecDepth 65536 in
theorem w_rest : rest_1_c.before args0 about1 = true := by decide +kernel
set_option maxRecDepth 65536 in
theorem w_case : (Jvm.Cond.and given_1 narrow_1).before args0 about1 = true := by decide +kernel
set_option maxRecDepth 65536 in
theorem w_consts : constsHeld consts_1 about1 := Jvm.Lit.constsHeldB_iff.mp (by decide +kernel)
theorem w_applies : (headSpec (Jvm.Cond.code x code maxLocals ret :: tables_1) room_1).applies x e0.platform about1 = true :=
  (Spec.applies_iff w_frames).mpr ⟨w_running, w_runnable, w_alone, w_named, w_hears, w_ripe, w_room, w_tables⟩
theorem atStart : AtStart classFile x code maxLocals ret World_1 tables_1 room_1 Calls_1 rest_1 Pre_1 launch0 p0 e0 about1 theMethod args0 below0 :=
  ⟨lists_1, trivial, launch0.admits_env _ _ _, launch0.least_env, fairChoices_fair.cas, fairChoices_fair.clock, w_frames, w_args, w_heap, w_applies, ⟨w_consts, trivial⟩, w_rest, w_case⟩
end start1
theorem witness_1 : WitnessClaimed_1 := ⟨start1.p0, start1.e0, start1.about1, start1.theMethod, start1.args0, start1.below0, start1.atStart⟩
end Jvm.Pilot.@@N@@
