import JvmDerived
import JvmDerived.Pilot.@@N@@Statement
import JvmDerived.Pilot.@@N@@Code
set_option linter.unusedVariables false
set_option linter.unusedSimpArgs false
namespace Jvm.RoadKit
open Sem ClassFile Op Lib Jvm.Stand Jvm.Free Jvm.LawKit
section New
variable {p : Program} {l : Launch} {e : Env} {R : Room} {s : State} {m : MethodId} {args : Array Value} {below : List Frame} {meth : Method} {c : Code} {T : State} {locs : List Loc} {cells slots : Nat}
theorem retI (X : Stand p l e R s m args below meth c T locs cells slots) (hx : p.tables.exec = Jvm.exec) {pc : Nat} {Ls : Array Slot} {z : Int32} {rest : List Value} (hret : meth.sig.returnType = some .int) (hd : decode c.code pc = .ok (.ireturn, 1)) {fs : List Frame}
    (hl : ∀ (f : JFrame) (acts : List Action), f.method = m → f.locked = none → f.entered = [] → (doReturn e (T.setTop f) acts (some (.int z))).1 = T.setFrames fs) : Steps p.tables e below (T.setTop (mkF m pc Ls (.int z :: rest))) (T.setFrames fs) := by
  have hm' : T.vm.method? m = some meth := X.method'
  have hn : narrow .int (.int z) = .int z := rfl
  show Steps p.tables e below (T.setTop { method := m, pc := pc, locals := Ls, stack := _ :: rest, locked := none }) _
  jvm_step X.here [X.here.top, hx, hd, hm', hret, hn]
  first | (intro acts; rw [hl _ acts rfl rfl rfl]) | rw [hl _ _ rfl rfl rfl]
  exact Steps.refl _
theorem own_retJ (X : Stand p l e R s m args below meth c T locs cells slots) (hx : p.tables.exec = Jvm.exec) {pc : Nat} {Ls : Array Slot} {z : Int64} {rest : List Value} (hret : meth.sig.returnType = some .long) (hd : decode c.code pc = .ok (.lreturn, 1)) {fs : List Frame}
    (hl : ∀ (f : JFrame) (acts : List Action), f.method = m → f.locked = none → f.entered = [] → (doReturn e (T.setTop f) acts (some (.long z))).1 = T.setFrames fs) : Steps p.tables e below (T.setTop (mkF m pc Ls (.long z :: rest))) (T.setFrames fs) := by
  have hm' : T.vm.method? m = some meth := X.method'
  have hn : narrow .long (.long z) = .long z := rfl
  show Steps p.tables e below (T.setTop { method := m, pc := pc, locals := Ls, stack := _ :: rest, locked := none }) _
  jvm_step X.here [X.here.top, hx, hd, hm', hret, hn]
  first | (intro acts; rw [hl _ acts rfl rfl rfl]) | rw [hl _ _ rfl rfl rfl]
  exact Steps.refl _
theorem own_cR (a : Addr) : (Value.ref a).category = 1 := rfl
theorem own_cI (a : Int32) : (Value.int a).category = 1 := rfl
theorem own_cJ (a : Int64) : (Value.long a).category = 2 := rfl
theorem own_cN : Value.null.category = 1 := rfl
theorem own_hide (X : Stand p l e R s m args below meth c T locs cells slots) {n0 : Nat} (N : Fr n0 locs) : ∃ lo, Stand p l e R s m args below meth c T lo cells slots ∧ Fr n0 lo := ⟨locs, X, N⟩
theorem own_catV {v : Value} (h : v.isRef = true) : v.category = 1 := by cases v <;> first | rfl | cases h
theorem own_retA (X : Stand p l e R s m args below meth c T locs cells slots) (hx : p.tables.exec = Jvm.exec) {pc : Nat} {Ls : Array Slot} {w : Value} {t : FieldType} {rest : List Value} (hret : meth.sig.returnType = some t) (ht : t.isReference = true) (hw : w.isRef = true) (hd : decode c.code pc = .ok (.areturn, 1)) {fs : List Frame}
    (hl : ∀ (f : JFrame) (acts : List Action), f.method = m → f.locked = none → f.entered = [] → (doReturn e (T.setTop f) acts (some w)).1 = T.setFrames fs) : Steps p.tables e below (T.setTop (mkF m pc Ls (w :: rest))) (T.setFrames fs) := by
  have hm' : T.vm.method? m = some meth := X.method'
  show Steps p.tables e below (T.setTop { method := m, pc := pc, locals := Ls, stack := w :: rest, locked := none }) _
  jvm_step X.here [X.here.top, hx, hd, hm', hret, ht, hw]
  first | (intro acts; rw [hl _ acts rfl rfl rfl]) | rw [hl _ _ rfl rfl rfl]
  exact Steps.refl _
variable {Z : State} {h : Heap}
theorem own_len (X : Stand p l e R s m args below meth c T locs cells slots) (hx : p.tables.exec = Jvm.exec) (hZ : Z.Warmed39 s.vm) (eT : T.heap = h) {a : Addr} {k : ClassId} {ty : FieldType} {z : Int32} {vs : List Value} {dv : Value} (F : Arv Z h a k ty z vs dv) {g : JFrame} (hg : g.method = m) {rest : List Value} (hs : g.stack = .ref a :: rest) (hd : decode c.code g.pc = .ok (.arraylength, 1)) (target : State)
    (hr : Steps p.tables e below (T.setTop { g with pc := g.pc + 1, stack := .int z :: rest }) target) : Steps p.tables e below (T.setTop g) target := by
  obtain ⟨cl, A, -, S, N, -, -⟩ := F
  refine X.arraylength hx (by rw [eT]; exact A.1) (State.isArrayOf_alike hZ.alike A.2.1) hg hs hd _ ?_
  rw [len_of S N]; exact hr
theorem own_aaload (X : Stand p l e R s m args below meth c T locs cells slots) (hx : p.tables.exec = Jvm.exec) (hZ : Z.Warmed39 s.vm) (eT : T.heap = h) {a : Addr} {k : ClassId} {ty : FieldType} {z : Int32} {vs : List Value} {dv : Value} (F : Arv Z h a k ty z vs dv) (hty : ty.isReference = true) {j : Int32} (hj : ¬ j < 0 ∧ j < z) {v : Value} (hv : vs.getD j.toNatClampNeg dv = v) {g : JFrame} (hg : g.method = m) {rest : List Value} (hs : g.stack = .int j :: .ref a :: rest) (hd : decode c.code g.pc = .ok (.aaload, 1)) (target : State)
    (hr : Steps p.tables e below (T.setTop { g with pc := g.pc + 1, stack := v :: rest }) target) : Steps p.tables e below (T.setTop g) target := by
  obtain ⟨cl, A, -, S, N, H, -⟩ := F
  have hin := inb_of S hj
  exact X.aaload hx (by rw [eT]; exact A.1) (State.isArrayOf_alike hZ.alike A.2.1) hty A.2.2 hin (H.at hin hv) hg hs hd _ hr
theorem own_baload (X : Stand p l e R s m args below meth c T locs cells slots) (hx : p.tables.exec = Jvm.exec) (hZ : Z.Warmed39 s.vm) (eT : T.heap = h) {a : Addr} {k : ClassId} {z : Int32} {vs : List Value} {dv : Value} (F : Arv Z h a k .byte z vs dv) {j : Int32} (hj : ¬ j < 0 ∧ j < z) {v : Value} (hv : vs.getD j.toNatClampNeg dv = v) {g : JFrame} (hg : g.method = m) {rest : List Value} (hs : g.stack = .int j :: .ref a :: rest) (hd : decode c.code g.pc = .ok (.baload, 1)) (target : State)
    (hr : Steps p.tables e below (T.setTop { g with pc := g.pc + 1, stack := v :: rest }) target) : Steps p.tables e below (T.setTop g) target := by
  obtain ⟨cl, A, -, S, N, H, -⟩ := F
  have hin := inb_of S hj
  exact X.baloadBytes hx (by rw [eT]; exact A.1) (State.isArrayOf_alike hZ.alike A.2.1) A.2.2 hin (H.at hin hv) hg hs hd _ hr
theorem own_stR (X : Stand p l e R s m args below meth c T locs cells slots) (hx : p.tables.exec = Jvm.exec) (hZ : Z.Warmed39 s.vm) (eT : T.heap = h) {a y : Addr} {k : ClassId} {C : String} {z : Int32} {vs : List Value} {dv : Value} (F : Arv Z h a k (.object C) z vs dv) (O : Ovr Z k C) (I : Ins Z h y C true) {j : Int32} (hj : ¬ j < 0 ∧ j < z) {i : Nat} (hi : j.toNatClampNeg = i) (hl : i < vs.length) {g : JFrame} (hg : g.method = m) {rest : List Value} (hs : g.stack = .ref y :: .int j :: .ref a :: rest) (hd : decode c.code g.pc = .ok (.aastore, 1)) :
    ∃ T' h', Stand p l e R s m args below meth c T' (locs ++ [⟨a, j.toNatClampNeg⟩]) cells slots ∧ T'.heap = h' ∧ Wr h h' a j.toNatClampNeg (.ref y) ∧ Arv Z h' a k (.object C) z (vs.set i (.ref y)) dv ∧ ∀ target, Steps p.tables e below (T'.setTop { g with pc := g.pc + 1, stack := rest }) target → Steps p.tables e below (T.setTop g) target := by
  obtain ⟨cl, A, q, S, N, H, G⟩ := F
  obtain ⟨T', h', X', e', W, st⟩ := stR X hx hZ eT A (inb_of S hj) rfl (Sto.ofV A q O I) hg hs hd
  exact ⟨T', h', X', e', W, Arv.set A q S N H G rfl W i hi hl, st⟩
theorem own_stC (X : Stand p l e R s m args below meth c T locs cells slots) (hx : p.tables.exec = Jvm.exec) (hZ : Z.Warmed39 s.vm) (eT : T.heap = h) {a : Addr} {k : ClassId} {z x : Int32} {vs : List Value} {dv : Value} (F : Arv Z h a k .char z vs dv) {j : Int32} (hj : ¬ j < 0 ∧ j < z) {i : Nat} (hi : j.toNatClampNeg = i) (hl : i < vs.length) {g : JFrame} (hg : g.method = m) {rest : List Value} (hs : g.stack = .int x :: .int j :: .ref a :: rest) (hd : decode c.code g.pc = .ok (.castore, 1)) :
    ∃ T' h', Stand p l e R s m args below meth c T' (locs ++ [⟨a, j.toNatClampNeg⟩]) cells slots ∧ T'.heap = h' ∧ Wr h h' a j.toNatClampNeg (.int (nar .char x)) ∧ Arv Z h' a k .char z (vs.set i (.int (nar .char x))) dv ∧ ∀ target, Steps p.tables e below (T'.setTop { g with pc := g.pc + 1, stack := rest }) target → Steps p.tables e below (T.setTop g) target := by
  obtain ⟨cl, A, q, S, N, H, G⟩ := F
  obtain ⟨T', h', X', e', W, st⟩ := stC X hx hZ eT A (inb_of S hj) hg hs hd
  exact ⟨T', h', X', e', W, Arv.set A q S N H G (fits_nar_char _) W i hi hl, st⟩
theorem own_stB (X : Stand p l e R s m args below meth c T locs cells slots) (hx : p.tables.exec = Jvm.exec) (hZ : Z.Warmed39 s.vm) (eT : T.heap = h) {a : Addr} {k : ClassId} {z x : Int32} {vs : List Value} {dv : Value} (F : Arv Z h a k .byte z vs dv) {j : Int32} (hj : ¬ j < 0 ∧ j < z) {i : Nat} (hi : j.toNatClampNeg = i) (hl : i < vs.length) {g : JFrame} (hg : g.method = m) {rest : List Value} (hs : g.stack = .int x :: .int j :: .ref a :: rest) (hd : decode c.code g.pc = .ok (.bastore, 1)) :
    ∃ T' h', Stand p l e R s m args below meth c T' (locs ++ [⟨a, j.toNatClampNeg⟩]) cells slots ∧ T'.heap = h' ∧ Wr h h' a j.toNatClampNeg (.int (nar .byte x)) ∧ Arv Z h' a k .byte z (vs.set i (.int (nar .byte x))) dv ∧ ∀ target, Steps p.tables e below (T'.setTop { g with pc := g.pc + 1, stack := rest }) target → Steps p.tables e below (T.setTop g) target := by
  obtain ⟨cl, A, q, S, N, H, G⟩ := F
  obtain ⟨T', h', X', e', W, st⟩ := stB X hx hZ eT A (inb_of S hj) hg hs hd
  exact ⟨T', h', X', e', W, Arv.set A q S N H G (fits_nar_byte _) W i hi hl, st⟩
end New
end Jvm.RoadKit
/- laws to paste: Road.backV, Road.eqW, Road.codOf (cut by pick.py; bodies as the Statement names them) -/
namespace Jvm.Pilot.@@N@@
namespace StrChars
open Jvm Sem ClassFile Op Lib Jvm.Stand Jvm.Free.XT Jvm.Free.ALB Jvm.Free.JM Jvm.Free
open Jvm.Lib.Cold (StaticIs)
/-- a char array whose places are chars -/
def Ch (a : Addr) (A : Cell) (U : State) : Prop := Arr .char a A U ∧ Typed .char A
theorem Ch.mv {a : Addr} {A : Cell} {U U' : State} (h : Ch a A U) (hal : U.vm.Alike U'.vm) (hh : U'.heap = U.heap) : Ch a A U' := ⟨h.1.mv hal hh, h.2⟩
theorem Ch.keep {a : Addr} {A : Cell} {U U' : State} (h : Ch a A U) (hal : U.vm.Alike U'.vm) (hk : U'.heap[a]? = some A) : Ch a A U' := ⟨h.1.keep hal hk, h.2⟩
/-- what place i of a char[]'s cell holds -/
def cv (A : Cell) (i : Nat) : Int32 := match A.slots[i]? with | some (.int x) => x | _ => 0
theorem Ch.get {a : Addr} {A : Cell} {U : State} (h : Ch a A U) {i : Nat} (hi : i < A.slots.size) : A.slots[i]? = some (.int (cv A i)) := by
  have e := Array.getElem?_eq_getElem hi
  have f := h.2 i _ e
  unfold cv; rw [e]
  generalize A.slots[i] = v at f
  cases v <;> simp [fits] at f ⊢
/-- the byte that i2b leaves of a char -/
def lo8 (x : Int32) : Int32 := x.toInt8.toInt32
theorem fits_lo8 (y : Int32) : fits .byte (.int (lo8 y)) = true := by
  have h1 := y.toInt8.le_toInt
  have h2 := y.toInt8.toInt_lt
  simp only [lo8, fits, Bool.and_eq_true, decide_eq_true_eq, Int32.le_iff_toInt_le, Int8.toInt_toInt32, show (-128 : Int32).toInt = -128 from by decide, show (127 : Int32).toInt = 127 from by decide]
  omega
/-- A' is A but that each place j of lo .. hi - 1 holds f j -/
def Laid (A A' : Cell) (lo hi : Nat) (f : Nat → Value) : Prop := A'.cls = A.cls ∧ A'.vm = A.vm ∧ A'.slots.size = A.slots.size ∧ ∀ i, A'.slots[i]? = if lo ≤ i ∧ i < hi then some (f i) else A.slots[i]?
theorem Laid.zero (A : Cell) (lo : Nat) (f : Nat → Value) : Laid A A lo (lo + 0) f := ⟨rfl, rfl, rfl, fun i => by rw [if_neg (by omega)]⟩
theorem Laid.step {A Ak : Cell} {lo k : Nat} {f : Nat → Value} {v : Value} (h : Laid A Ak lo k f) (hlo : lo ≤ k) (hk : k < Ak.slots.size) (hv : v = f k) : Laid A (Ak.setSlot k v) lo (k + 1) f := by
  refine ⟨h.1, h.2.1, by simpa [Cell.setSlot] using h.2.2.1, fun i => ?_⟩
  by_cases e : k = i
  · subst e; rw [Cell.slots_setSlot_self v hk, if_pos (by omega), hv]
  · rw [Cell.slots_setSlot_ne v e, h.2.2.2 i]
    by_cases q : lo ≤ i ∧ i < k
    · rw [if_pos q, if_pos (by omega)]
    · rw [if_neg q, if_neg (by omega)]
def U16 : String := "java/lang/StringUTF16"
namespace Cmp5
def yN : MethodName := ⟨"java/lang/StringUTF16", "compress", "([CI[BII)I"⟩
abbrev yB : ByteArray := jdk_52_method_21_code
theorem d0 : decode yB 0 = .ok (.iconst 0, 1) := by decide +kernel
theorem d1 : decode yB 1 = .ok (.istore 5, 2) := by decide +kernel
theorem d3 : decode yB 3 = .ok (.iload 5, 2) := by decide +kernel
theorem d5 : decode yB 5 = .ok (.iload 4, 2) := by decide +kernel
theorem d7 : decode yB 7 = .ok (.if_icmp (.ge) 37, 3) := by decide +kernel
theorem d10 : decode yB 10 = .ok (.aload_n 0, 1) := by decide +kernel
theorem d11 : decode yB 11 = .ok (.iload_n 1, 1) := by decide +kernel
theorem d12 : decode yB 12 = .ok (.caload, 1) := by decide +kernel
theorem d13 : decode yB 13 = .ok (.istore 6, 2) := by decide +kernel
theorem d15 : decode yB 15 = .ok (.iload 6, 2) := by decide +kernel
theorem d17 : decode yB 17 = .ok (.sipush 255, 3) := by decide +kernel
theorem d20 : decode yB 20 = .ok (.if_icmp (.le) 6, 3) := by decide +kernel
theorem d26 : decode yB 26 = .ok (.aload_n 2, 1) := by decide +kernel
theorem d27 : decode yB 27 = .ok (.iload_n 3, 1) := by decide +kernel
theorem d28 : decode yB 28 = .ok (.iload 6, 2) := by decide +kernel
theorem d30 : decode yB 30 = .ok (.i2b, 1) := by decide +kernel
theorem d31 : decode yB 31 = .ok (.bastore, 1) := by decide +kernel
theorem d32 : decode yB 32 = .ok (.iinc 1 1, 3) := by decide +kernel
theorem d35 : decode yB 35 = .ok (.iinc 3 1, 3) := by decide +kernel
theorem d38 : decode yB 38 = .ok (.iinc 5 1, 3) := by decide +kernel
theorem d41 : decode yB 41 = .ok (.goto (-38), 3) := by decide +kernel
theorem d44 : decode yB 44 = .ok (.iload 4, 2) := by decide +kernel
theorem d46 : decode yB 46 = .ok (.ireturn, 1) := by decide +kernel
def site : List Cond := []
def tab : Cond := tabOf yN yB 7 (some .int) site
def P (b : Addr) (A : Cell) (d : Addr) (B : Cell) (o q len : Nat) (args : Array Value) (s : State) : Prop := args = #[.ref b, .int (Int32.ofNat o), .ref d, .int (Int32.ofNat q), .int (Int32.ofNat len)] ∧ Ch b A s ∧ Arr .byte d B s ∧ b ≠ d ∧ o + len ≤ A.slots.size ∧ q + len ≤ B.slots.size ∧ ∀ i, i < len → ¬ 255 < cv A (o + i)
def E (b : Addr) (A : Cell) (d : Addr) (B : Cell) (o q len : Nat) (r : Option Value) (s u : State) : Prop := r = some (.int (Int32.ofNat len)) ∧ ∃ B', Put d B' s u ∧ Laid B B' q (q + len) (fun j => Value.int (lo8 (cv A (o + (j - q)))))
/-- no char of the range above 255: len; the places written hold each char's low byte -/
theorem law (l : Launch) (b : Addr) (A : Cell) (d : Addr) (B : Cell) (o q len : Nat) : Law l yN 5 5 0 0 yB 7 (some .int) site (P b A d B o q len) (E b A d B o q len) (copyLocs d q len) 0 0 := by
  refine Law.of_walk (plainFor_of_name (by decide +kernel)) (by decide +kernel) (by decide +kernel) (by decide) (fun _ _ h => by rw [h.1]; rfl) (fun _ U U' hal hh h => ⟨h.1, h.2.1.mv hal hh, h.2.2.1.mv hal hh, h.2.2.2⟩) (fun r U U' V V' h1 hal h2 h => ⟨h.1, h.2.elim fun B' q => ⟨B', q.1.mv h1 h2, q.2⟩⟩) ?_
  intro p e s m args below meth c s₁ X0 hexec hbytes hml hret hlk hnm hown hh0 W hP
  obtain ⟨rfl, hA, hB, hne, l1, l2, hp⟩ := hP
  have c1 : Steps p.tables e below (s₁.setTop (entryFrame m #[.ref b, .int (Int32.ofNat o), .ref d, .int (Int32.ofNat q), .int (Int32.ofNat len)] 7)) (s₁.setTop (mkF m 0 #[.val (.ref b), .val (.int (Int32.ofNat o)), .val (.ref d), .val (.int (Int32.ofNat q)), .val (.int (Int32.ofNat len)), .unset, .unset] [])) := entry rfl
  have hA0 := hA.1.mv X0.warmed.alike hh0
  have hB0 := hB.mv X0.warmed.alike hh0
  have a31 := hA.1.2.2.2
  have c2 : Steps p.tables e below (s₁.setTop (entryFrame m #[.ref b, .int (Int32.ofNat o), .ref d, .int (Int32.ofNat q), .int (Int32.ofNat len)] 7)) (s₁.setTop (mkF m 3 #[.val (.ref b), .val (.int (Int32.ofNat o)), .val (.ref d), .val (.int (Int32.ofNat q)), .val (.int (Int32.ofNat len)), .val (.int 0), .unset] [])) := c1.trans (by
    refine iconstV X0.here hexec rfl 0 (hb hbytes d0) (by decide) ?_
    refine XS.istore X0.here hexec rfl (hb hbytes d1) rfl rfl ?_
    exact Steps.refl _)
  have loop : ∀ (r i : Nat), i + r = len → ∀ (z : Slot), (z = .unset ∨ ∃ w, z = .val w ∧ w.category = 1) → ∀ (Tl : State) (Bk : Cell), Stand p l e { frames := 0, locals := 0, cells := 0, slots := 0 } s m #[.ref b, .int (Int32.ofNat o), .ref d, .int (Int32.ofNat q), .int (Int32.ofNat len)] below meth c Tl ([] ++ copyLocs d q i) 0 0 → Put d Bk s₁ Tl → Laid B Bk q (q + i) (fun j => Value.int (lo8 (cv A (o + (j - q))))) →
      Steps p.tables e below (s₁.setTop (entryFrame m #[.ref b, .int (Int32.ofNat o), .ref d, .int (Int32.ofNat q), .int (Int32.ofNat len)] 7)) (Tl.setTop (mkF m 3 #[.val (.ref b), .val (.int (Int32.ofNat (o + i))), .val (.ref d), .val (.int (Int32.ofNat (q + i))), .val (.int (Int32.ofNat len)), .val (.int (Int32.ofNat i)), z] [])) → ∃ (T' : State) (B' : Cell) (z' : Slot), Stand p l e { frames := 0, locals := 0, cells := 0, slots := 0 } s m #[.ref b, .int (Int32.ofNat o), .ref d, .int (Int32.ofNat q), .int (Int32.ofNat len)] below meth c T' ([] ++ copyLocs d q len) 0 0 ∧ Put d B' s₁ T' ∧ Laid B B' q (q + len) (fun j => Value.int (lo8 (cv A (o + (j - q))))) ∧
      Steps p.tables e below (s₁.setTop (entryFrame m #[.ref b, .int (Int32.ofNat o), .ref d, .int (Int32.ofNat q), .int (Int32.ofNat len)] 7)) (T'.setTop (mkF m 3 #[.val (.ref b), .val (.int (Int32.ofNat (o + len))), .val (.ref d), .val (.int (Int32.ofNat (q + len))), .val (.int (Int32.ofNat len)), .val (.int (Int32.ofNat len)), z'] [])) := by
    intro r
    induction r with
    | zero =>
      intro i hi z hz Tl Bk Xl pl fl cl
      have hil : i = len := by omega
      rw [hil] at Xl fl cl
      exact ⟨Tl, Bk, z, Xl, pl, fl, cl⟩
    | succ r ih =>
      intro i hi z hz Tl Bk Xl pl fl cl
      have all := X0.warmed.alike.symm.trans Xl.warmed.alike
      have hAl := hA0.keep all (pl.other hne hA0.1)
      have hBk := hB0.like all pl.1 fl.1 fl.2.1 fl.2.2.1
      have hlt : q + i < Bk.slots.size := by rw [fl.2.2.1]; omega
      have c3 : Steps p.tables e below (s₁.setTop (entryFrame m #[.ref b, .int (Int32.ofNat o), .ref d, .int (Int32.ofNat q), .int (Int32.ofNat len)] 7)) (Tl.setTop (mkF m 12 #[.val (.ref b), .val (.int (Int32.ofNat (o + i))), .val (.ref d), .val (.int (Int32.ofNat (q + i))), .val (.int (Int32.ofNat len)), .val (.int (Int32.ofNat i)), z] [.int (Int32.ofNat (o + i)), .ref b])) := cl.trans (by
        refine XS.iload Xl.here hexec rfl (hb hbytes d3) rfl ?_
        refine XS.iload Xl.here hexec rfl (hb hbytes d5) rfl ?_
        refine XS.icmpNo Xl.here hexec rfl (hb hbytes d7) rfl (ii_ge_f (lt32 (by omega) (by omega))) ?_
        refine XS.aloadN Xl.here hexec rfl (hb hbytes d10) rfl rfl ?_
        refine XS.iloadN Xl.here hexec rfl (hb hbytes d11) rfl ?_
        exact Steps.refl _)
      have c4 : Steps p.tables e below (s₁.setTop (entryFrame m #[.ref b, .int (Int32.ofNat o), .ref d, .int (Int32.ofNat q), .int (Int32.ofNat len)] 7)) (Tl.setTop (mkF m 13 #[.val (.ref b), .val (.int (Int32.ofNat (o + i))), .val (.ref d), .val (.int (Int32.ofNat (q + i))), .val (.int (Int32.ofNat len)), .val (.int (Int32.ofNat i)), z] [.int (cv A (o + i))])) := c3.trans (by
        refine Xl.aget hexec hAl rfl (hA.get (i := o + i) (by omega)) rfl rfl (hb hbytes d12) ?_
        exact Steps.refl _)
      have c5 : Steps p.tables e below (s₁.setTop (entryFrame m #[.ref b, .int (Int32.ofNat o), .ref d, .int (Int32.ofNat q), .int (Int32.ofNat len)] 7)) (Tl.setTop (mkF m 15 #[.val (.ref b), .val (.int (Int32.ofNat (o + i))), .val (.ref d), .val (.int (Int32.ofNat (q + i))), .val (.int (Int32.ofNat len)), .val (.int (Int32.ofNat i)), .val (.int (cv A (o + i)))] [])) := c4.trans (by
        refine XS.istoreS Xl.here hexec rfl (hb hbytes d13) rfl rfl hz ?_
        exact Steps.refl _)
      have c6 : Steps p.tables e below (s₁.setTop (entryFrame m #[.ref b, .int (Int32.ofNat o), .ref d, .int (Int32.ofNat q), .int (Int32.ofNat len)] 7)) (Tl.setTop (mkF m 31 #[.val (.ref b), .val (.int (Int32.ofNat (o + i))), .val (.ref d), .val (.int (Int32.ofNat (q + i))), .val (.int (Int32.ofNat len)), .val (.int (Int32.ofNat i)), .val (.int (cv A (o + i)))] [.int (lo8 (cv A (o + i))), .int (Int32.ofNat (q + i)), .ref d])) := c5.trans (by
        refine XS.iload Xl.here hexec rfl (hb hbytes d15) rfl ?_
        refine sipushV Xl.here hexec rfl 255 (hb hbytes d17) (by decide) ?_
        refine XS.icmpYes Xl.here hexec rfl (pc0 := 20) rfl (hb hbytes d20) rfl (ii_le_t (hp i (by omega))) (by decide) rfl ?_
        refine XS.aloadN Xl.here hexec rfl (hb hbytes d26) rfl rfl ?_
        refine XS.iloadN Xl.here hexec rfl (hb hbytes d27) rfl ?_
        refine XS.iload Xl.here hexec rfl (hb hbytes d28) rfl ?_
        refine i2b Xl.here hexec rfl (hb hbytes d30) rfl ?_
        exact Steps.refl _)
      obtain ⟨T7, X7, p7, st7⟩ := Xl.aput hexec hBk rfl hlt rfl (fits_lo8 (cv A (o + i))) (g := (mkF m 31 #[.val (.ref b), .val (.int (Int32.ofNat (o + i))), .val (.ref d), .val (.int (Int32.ofNat (q + i))), .val (.int (Int32.ofNat len)), .val (.int (Int32.ofNat i)), .val (.int (cv A (o + i)))] [.int (lo8 (cv A (o + i))), .int (Int32.ofNat (q + i)), .ref d])) rfl (rest := []) rfl (hb hbytes d31)
      have c8 : Steps p.tables e below (s₁.setTop (entryFrame m #[.ref b, .int (Int32.ofNat o), .ref d, .int (Int32.ofNat q), .int (Int32.ofNat len)] 7)) (T7.setTop (mkF m 32 #[.val (.ref b), .val (.int (Int32.ofNat (o + i))), .val (.ref d), .val (.int (Int32.ofNat (q + i))), .val (.int (Int32.ofNat len)), .val (.int (Int32.ofNat i)), .val (.int (cv A (o + i)))] [])) := c6.trans (st7 _ (Steps.refl _))
      have c9 : Steps p.tables e below (s₁.setTop (entryFrame m #[.ref b, .int (Int32.ofNat o), .ref d, .int (Int32.ofNat q), .int (Int32.ofNat len)] 7)) (T7.setTop (mkF m 3 #[.val (.ref b), .val (.int (Int32.ofNat (o + i) + 1)), .val (.ref d), .val (.int (Int32.ofNat (q + i) + 1)), .val (.int (Int32.ofNat len)), .val (.int (Int32.ofNat i + 1)), .val (.int (cv A (o + i)))] [])) := c8.trans (by
        refine iincV X7.here hexec rfl 1 (hb hbytes d32) (by decide) rfl rfl ?_
        refine iincV X7.here hexec rfl 1 (hb hbytes d35) (by decide) rfl rfl ?_
        refine iincV X7.here hexec rfl 1 (hb hbytes d38) (by decide) rfl rfl ?_
        refine XS.goto X7.here hexec rfl (pc0 := 41) rfl (hb hbytes d41) (by decide) rfl ?_
        exact Steps.refl _)
      have c10 : Steps p.tables e below (s₁.setTop (entryFrame m #[.ref b, .int (Int32.ofNat o), .ref d, .int (Int32.ofNat q), .int (Int32.ofNat len)] 7)) (T7.setTop (mkF m 3 #[.val (.ref b), .val (.int (Int32.ofNat (o + (i + 1)))), .val (.ref d), .val (.int (Int32.ofNat (q + (i + 1)))), .val (.int (Int32.ofNat len)), .val (.int (Int32.ofNat (i + 1))), .val (.int (cv A (o + i)))] [])) := by
        have := c9
        rw [succ32, succ32, succ32] at this
        exact this
      exact ih (i + 1) (by omega) _ (Or.inr ⟨_, rfl, rfl⟩) T7 _ (by rw [copyLocs_step, ← List.append_assoc]; exact X7) (pl.trans p7) (fl.step (by omega) hlt (by simp)) c10
  obtain ⟨T9, B9, z9, X9, p9, f9, g9⟩ := loop len 0 (by omega) .unset (Or.inl rfl) s₁ B (by simpa [copyLocs] using X0) ⟨hB0.1, fun _ _ => rfl, rfl⟩ (Laid.zero _ _ _) c2
  have c11 : Steps p.tables e below (s₁.setTop (entryFrame m #[.ref b, .int (Int32.ofNat o), .ref d, .int (Int32.ofNat q), .int (Int32.ofNat len)] 7)) (T9.setTop (mkF m 46 #[.val (.ref b), .val (.int (Int32.ofNat (o + len))), .val (.ref d), .val (.int (Int32.ofNat (q + len))), .val (.int (Int32.ofNat len)), .val (.int (Int32.ofNat len)), z9] [.int (Int32.ofNat len)])) := g9.trans (by
    refine XS.iload X9.here hexec rfl (hb hbytes d3) rfl ?_
    refine XS.iload X9.here hexec rfl (hb hbytes d5) rfl ?_
    refine XS.icmpYes X9.here hexec rfl (pc0 := 7) rfl (hb hbytes d7) rfl (ii_ge_t (nlt32 (by omega) (Nat.le_refl _))) (by decide) rfl ?_
    refine XS.iload X9.here hexec rfl (hb hbytes d44) rfl ?_
    exact Steps.refl _)
  exact ⟨T9, some (.int (Int32.ofNat len)), _, _, _, X9, by simp, rfl, rfl, (fun h => by cases h), ⟨rfl, B9, p9.from hh0, f9⟩, fun fs hl => c11.trans (X9.ireturnOut hexec hret rfl (Or.inl rfl) (hb hbytes d46) hl)⟩
end Cmp5
namespace Cmp3
def yN : MethodName := ⟨"java/lang/StringUTF16", "compress", "([CII)[B"⟩
abbrev yB : ByteArray := jdk_52_method_16_code
theorem d0 : decode yB 0 = .ok (.iload_n 2, 1) := by decide +kernel
theorem d1 : decode yB 1 = .ok (.newarray .byte, 2) := by decide +kernel
theorem d3 : decode yB 3 = .ok (.astore_n 3, 1) := by decide +kernel
theorem d4 : decode yB 4 = .ok (.aload_n 0, 1) := by decide +kernel
theorem d5 : decode yB 5 = .ok (.iload_n 1, 1) := by decide +kernel
theorem d6 : decode yB 6 = .ok (.aload_n 3, 1) := by decide +kernel
theorem d7 : decode yB 7 = .ok (.iconst 0, 1) := by decide +kernel
theorem d8 : decode yB 8 = .ok (.iload_n 2, 1) := by decide +kernel
theorem d9 : decode yB 9 = .ok (.invokestatic 115, 3) := by decide +kernel
theorem d12 : decode yB 12 = .ok (.istore 4, 2) := by decide +kernel
theorem d14 : decode yB 14 = .ok (.iload 4, 2) := by decide +kernel
theorem d16 : decode yB 16 = .ok (.iload_n 2, 1) := by decide +kernel
theorem d17 : decode yB 17 = .ok (.if_icmp (.eq) 40, 3) := by decide +kernel
theorem d57 : decode yB 57 = .ok (.aload_n 3, 1) := by decide +kernel
theorem d58 : decode yB 58 = .ok (.areturn, 1) := by decide +kernel
def site : List Cond := [.arrayClass .byte, Cmp5.tab] ++ staticW U16 115 Cmp5.yN
def tab : Cond := tabOf yN yB 6 (some (.array .byte)) site
def P (b : Addr) (A : Cell) (o len : Nat) (args : Array Value) (s : State) : Prop := args = #[.ref b, .int (Int32.ofNat o), .int (Int32.ofNat len)] ∧ Ch b A s ∧ o + len ≤ A.slots.size ∧ len ≤ 536870912 ∧ ∀ i, i < len → ¬ 255 < cv A (o + i)
def E (b : Addr) (A : Cell) (o len : Nat) (r : Option Value) (s u : State) : Prop := NewArr .byte "[B" len (fun j => .int (lo8 (cv A (o + j)))) r s u ∧ u.heap.size = s.heap.size + 1
/-- no char of the range above 255: a new byte[] of their low bytes -/
theorem law (l : Launch) (b : Addr) (A : Cell) (o len : Nat) : Law l yN 3 3 1 18 yB 6 (some (.array .byte)) site (P b A o len) (E b A o len) [] 1 len := by
  refine Law.of_walk (plainFor_of_name (by decide +kernel)) (by decide +kernel) (by decide +kernel) (by decide) (fun _ _ h => by rw [h.1]; rfl) (fun _ U U' hal hh h => ⟨h.1, h.2.1.mv hal hh, h.2.2⟩) (fun r U U' V V' h1 hal h2 h => ⟨NewArr.mv r U U' V V' h1 hal h2 h.1, by rw [h1, h2]; exact h.2⟩) ?_
  intro p e s m args below meth c s₁ X0 hexec hbytes hml hret hlk hnm hown hh0 W hP
  obtain ⟨rfl, hA, l1, l2, hp⟩ := hP
  have a31 := hA.1.2.2.2
  have c1 : Steps p.tables e below (s₁.setTop (entryFrame m #[.ref b, .int (Int32.ofNat o), .int (Int32.ofNat len)] 6)) (s₁.setTop (mkF m 0 #[.val (.ref b), .val (.int (Int32.ofNat o)), .val (.int (Int32.ofNat len)), .unset, .unset, .unset] [])) := entry rfl
  have c2 : Steps p.tables e below (s₁.setTop (entryFrame m #[.ref b, .int (Int32.ofNat o), .int (Int32.ofNat len)] 6)) (s₁.setTop (mkF m 1 #[.val (.ref b), .val (.int (Int32.ofNat o)), .val (.int (Int32.ofNat len)), .unset, .unset, .unset] [.int (Int32.ofNat len)])) := c1.trans (by
    refine XS.iloadN X0.here hexec rfl (hb hbytes d0) rfl ?_
    exact Steps.refl _)
  obtain ⟨T3, B3, X3, ba3, bs3, bv3, bh3, bf3, st3⟩ := X0.anew hexec (atype := .byte) (wk W (.arrayClass .byte)) rfl (by show len * 1 ≤ _; omega) (by omega) (g := (mkF m 1 #[.val (.ref b), .val (.int (Int32.ofNat o)), .val (.int (Int32.ofNat len)), .unset, .unset, .unset] [.int (Int32.ofNat len)])) rfl (hb hbytes d1) (rest := []) rfl (Nat.le_refl _) (by show 0 + len ≤ len; omega)
  rw [hh0] at ba3 st3
  have kp3 : XT.Kept s T3 := (XT.Kept.of_eq hh0).push bh3
  have hA3 := hA.keep X3.warmed.alike (kp3 _ _ hA.1.1)
  have hne : b ≠ s.heap.size := hA.1.ne
  have c4 : Steps p.tables e below (s₁.setTop (entryFrame m #[.ref b, .int (Int32.ofNat o), .int (Int32.ofNat len)] 6)) (T3.setTop (mkF m 3 #[.val (.ref b), .val (.int (Int32.ofNat o)), .val (.int (Int32.ofNat len)), .unset, .unset, .unset] [.ref s.heap.size])) := c2.trans (st3 _ (Steps.refl _))
  have c5 : Steps p.tables e below (s₁.setTop (entryFrame m #[.ref b, .int (Int32.ofNat o), .int (Int32.ofNat len)] 6)) (T3.setTop (mkF m 9 #[.val (.ref b), .val (.int (Int32.ofNat o)), .val (.int (Int32.ofNat len)), .val (.ref s.heap.size), .unset, .unset] [.int (Int32.ofNat len), .int 0, .ref s.heap.size, .int (Int32.ofNat o), .ref b])) := c4.trans (by
    refine XS.astoreN X3.here hexec rfl (hb hbytes d3) rfl rfl rfl ?_
    refine XS.aloadN X3.here hexec rfl (hb hbytes d4) rfl rfl ?_
    refine XS.iloadN X3.here hexec rfl (hb hbytes d5) rfl ?_
    refine XS.aloadN X3.here hexec rfl (hb hbytes d6) rfl rfl ?_
    refine iconstV X3.here hexec rfl 0 (hb hbytes d7) (by decide) ?_
    refine XS.iloadN X3.here hexec rfl (hb hbytes d8) rfl ?_
    exact Steps.refl _)
  obtain ⟨v6, T6, X6, E6, g6⟩ := X3.callS hexec (Cmp5.law l b A s.heap.size B3 o 0 len) hown (wks W (staticW U16 115 Cmp5.yN)) (wk W Cmp5.tab) (W := 0) (Nat.le_of_ble_eq_true rfl) (Nat.le_of_ble_eq_true rfl) (Nat.le_refl _) (by show 0 + len + 0 ≤ len; omega) (g := (mkF m 9 #[.val (.ref b), .val (.int (Int32.ofNat o)), .val (.int (Int32.ofNat len)), .val (.ref s.heap.size), .unset, .unset] [.int (Int32.ofNat len), .int (Int32.ofNat 0), .ref s.heap.size, .int (Int32.ofNat o), .ref b])) rfl (by rw [hml]; rfl) c5 (argsL := [.ref b, .int (Int32.ofNat o), .ref s.heap.size, .int (Int32.ofNat 0), .int (Int32.ofNat len)]) (rest := []) rfl rfl (by show 2 * 0 + 0 ≤ _; decide) (hb hbytes d9) (⟨rfl, hA3, ba3, hne, l1, by rw [bs3]; simp, hp⟩)
  obtain ⟨rfl, B6, p6, f6⟩ := E6
  have c7 : Steps p.tables e below (s₁.setTop (entryFrame m #[.ref b, .int (Int32.ofNat o), .int (Int32.ofNat len)] 6)) (T6.setTop (mkF m 12 #[.val (.ref b), .val (.int (Int32.ofNat o)), .val (.int (Int32.ofNat len)), .val (.ref s.heap.size), .unset, .unset] [.int (Int32.ofNat len)])) := g6
  have c8 : Steps p.tables e below (s₁.setTop (entryFrame m #[.ref b, .int (Int32.ofNat o), .int (Int32.ofNat len)] 6)) (T6.setTop (mkF m 58 #[.val (.ref b), .val (.int (Int32.ofNat o)), .val (.int (Int32.ofNat len)), .val (.ref s.heap.size), .val (.int (Int32.ofNat len)), .unset] [.ref s.heap.size])) := c7.trans (by
    refine XS.istore X6.here hexec rfl (hb hbytes d12) rfl rfl ?_
    refine XS.iload X6.here hexec rfl (hb hbytes d14) rfl ?_
    refine XS.iloadN X6.here hexec rfl (hb hbytes d16) rfl ?_
    refine XS.icmpYes X6.here hexec rfl (pc0 := 17) rfl (hb hbytes d17) rfl (ii_eq_t rfl) (by decide) rfl ?_
    refine XS.aloadN X6.here hexec rfl (hb hbytes d57) rfl rfl ?_
    exact Steps.refl _)
  have X8 := X6.wide (L' := []) (cells' := 1) (slots' := len) (fun x hx hlt => by
    simp only [List.nil_append, copyLocs, List.mem_map, List.mem_range] at hx
    obtain ⟨i, -, rfl⟩ := hx
    exact absurd hlt (Nat.lt_irrefl _)) (Nat.le_refl _) (by omega)
  exact ⟨T6, some (.ref s.heap.size), _, _, _, X8, rfl, rfl, rfl, (fun h => by cases h), ⟨⟨rfl, B6, ba3.like (X3.warmed.alike.symm.trans X6.warmed.alike) p6.1 f6.1 f6.2.1 f6.2.2.1, f6.2.1.trans bv3, by rw [X6.warmed.alike.findClass, f6.1]; exact bf3, by rw [f6.2.2.1, bs3]; simp, fun j hj => by rw [f6.2.2.2 j, if_pos (by omega)]; rfl, kp3.put p6 (Nat.le_refl _)⟩, by rw [p6.2.2, bh3, hh0]; simp⟩, fun fs hl => c8.trans (X8.areturnOut hexec rfl hret rfl (hb hbytes d58) hl)⟩
end Cmp3
namespace CodL
def yN : MethodName := ⟨"java/lang/StringUTF16", "coderFromArrayLen", "([BI)B"⟩
abbrev yB : ByteArray := jdk_52_method_15_code
theorem d0 : decode yB 0 = .ok (.iload_n 1, 1) := by decide +kernel
theorem d1 : decode yB 1 = .ok (.aload_n 0, 1) := by decide +kernel
theorem d2 : decode yB 2 = .ok (.arraylength, 1) := by decide +kernel
theorem d3 : decode yB 3 = .ok (.isub, 1) := by decide +kernel
theorem d4 : decode yB 4 = .ok (.bipush 31, 2) := by decide +kernel
theorem d6 : decode yB 6 = .ok (.iushr, 1) := by decide +kernel
theorem d7 : decode yB 7 = .ok (.i2b, 1) := by decide +kernel
theorem d8 : decode yB 8 = .ok (.ireturn, 1) := by decide +kernel
def site : List Cond := []
def tab : Cond := tabOf yN yB 2 (some .byte) site
def P (d : Addr) (B : Cell) (args : Array Value) (s : State) : Prop := args = #[.ref d, .int (Int32.ofNat B.slots.size)] ∧ Arr .byte d B s
def E (r : Option Value) (s u : State) : Prop := XT.PureE (some (.int 0)) r s u
/-- an array as long as the number of chars: LATIN1 -/
theorem law (l : Launch) (d : Addr) (B : Cell) : Law l yN 2 2 0 0 yB 2 (some .byte) site (P d B) E [] 0 0 := by
  refine Law.of_walk (plainFor_of_name (by decide +kernel)) (by decide +kernel) (by decide +kernel) (by decide) (fun _ _ h => by rw [h.1]; rfl) (fun _ U U' hal hh h => ⟨h.1, h.2.mv hal hh⟩) (fun r U U' V V' h1 hal h2 h => XT.PureE.mv r U U' V V' h1 hal h2 h) ?_
  intro p e s m args below meth c s₁ X0 hexec hbytes hml hret hlk hnm hown hh0 W hP
  obtain ⟨rfl, hB⟩ := hP
  have hB0 := hB.mv X0.warmed.alike hh0
  have c1 : Steps p.tables e below (s₁.setTop (entryFrame m #[.ref d, .int (Int32.ofNat B.slots.size)] 2)) (s₁.setTop (mkF m 0 #[.val (.ref d), .val (.int (Int32.ofNat B.slots.size))] [])) := entry rfl
  have c2 : Steps p.tables e below (s₁.setTop (entryFrame m #[.ref d, .int (Int32.ofNat B.slots.size)] 2)) (s₁.setTop (mkF m 2 #[.val (.ref d), .val (.int (Int32.ofNat B.slots.size))] [.ref d, .int (Int32.ofNat B.slots.size)])) := c1.trans (by
    refine XS.iloadN X0.here hexec rfl (hb hbytes d0) rfl ?_
    refine XS.aloadN X0.here hexec rfl (hb hbytes d1) rfl rfl ?_
    exact Steps.refl _)
  have c3 : Steps p.tables e below (s₁.setTop (entryFrame m #[.ref d, .int (Int32.ofNat B.slots.size)] 2)) (s₁.setTop (mkF m 8 #[.val (.ref d), .val (.int (Int32.ofNat B.slots.size))] [.int (lo8 (ushr (Int32.ofNat B.slots.size - Int32.ofNat B.slots.size) 31))])) := c2.trans (by
    refine X0.alen hexec hB0 rfl rfl (hb hbytes d2) ?_
    refine XS.isub X0.here hexec rfl (hb hbytes d3) rfl ?_
    refine bipushV X0.here hexec rfl 31 (hb hbytes d4) (by decide) ?_
    refine iushr X0.here hexec rfl (hb hbytes d6) rfl ?_
    refine i2b X0.here hexec rfl (hb hbytes d7) rfl ?_
    exact Steps.refl _)
  have e0 : lo8 (ushr (Int32.ofNat B.slots.size - Int32.ofNat B.slots.size) 31) = 0 := by rw [Int32.sub_self]; decide
  rw [e0] at c3
  exact ⟨s₁, some (.int 0), _, _, _, X0, rfl, rfl, rfl, (fun h => by cases h), ⟨rfl, hh0⟩, fun fs hl => c3.trans (X0.ireturnOut hexec hret rfl (Or.inr (Or.inr (Or.inl rfl))) (hb hbytes d8) hl)⟩
end CodL
/-- the String at a is Latin-1 over a new byte[] (the heap's one new cell): the low bytes of the len chars of A from o on; every cell but a is kept -/
def Got (a : Addr) (D : Cell) (fV fC : Field) (A : Cell) (o len : Nat) (r : Option Value) (s u : State) : Prop := r = none ∧ ∃ D' V : Cell, Blank "java/lang/String" a D' u ∧ Same D D' [fV.slot, fC.slot] ∧ D'.slots[fV.slot]? = some (.ref s.heap.size) ∧ D'.slots[fC.slot]? = some (.int 0) ∧ Arr .byte s.heap.size V u ∧ V.vm = .none ∧ u.vm.findClass "[B" = some V.cls ∧ V.slots.size = len ∧ (∀ j, j < len → V.slots[j]? = some (.int (lo8 (cv A (o + j))))) ∧ (∀ (y : Addr) (c : Cell), y ≠ a → s.heap[y]? = some c → u.heap[y]? = some c) ∧ u.heap.size = s.heap.size + 1
theorem Got.mv {a : Addr} {D A : Cell} {fV fC : Field} {o len : Nat} : ∀ r (U U' V V' : State), U'.heap = U.heap → V.vm.Alike V'.vm → V'.heap = V.heap → Got a D fV fC A o len r U V → Got a D fV fC A o len r U' V' :=
  fun r U U' V V' h1 hal h2 ⟨e0, D', X, a1, a2, a3, a4, a5, a6, a7, a8, a9, a10, a11⟩ => ⟨e0, D', X, a1.mv hal h2, a2, by rw [h1]; exact a3, a4, by rw [h1]; exact a5.mv hal h2, a6, by rw [hal.findClass]; exact a7, a8, a9, by rw [h1, h2]; exact a10, by rw [h1, h2]; exact a11⟩
namespace New4
def yN : MethodName := ⟨"java/lang/String", "<init>", "([CIILjava/lang/Void;)V"⟩
abbrev yB : ByteArray := jdk_42_method_149_code
theorem d0 : decode yB 0 = .ok (.aload_n 0, 1) := by decide +kernel
theorem d1 : decode yB 1 = .ok (.invokespecial 1, 3) := by decide +kernel
theorem d4 : decode yB 4 = .ok (.iload_n 3, 1) := by decide +kernel
theorem d5 : decode yB 5 = .ok (.ifCond (.ne) 22, 3) := by decide +kernel
theorem d27 : decode yB 27 = .ok (.getstatic 38, 3) := by decide +kernel
theorem d30 : decode yB 30 = .ok (.ifCond (.eq) 28, 3) := by decide +kernel
theorem d33 : decode yB 33 = .ok (.aload_n 1, 1) := by decide +kernel
theorem d34 : decode yB 34 = .ok (.iload_n 2, 1) := by decide +kernel
theorem d35 : decode yB 35 = .ok (.iload_n 3, 1) := by decide +kernel
theorem d36 : decode yB 36 = .ok (.invokestatic 177, 3) := by decide +kernel
theorem d39 : decode yB 39 = .ok (.astore 5, 2) := by decide +kernel
theorem d41 : decode yB 41 = .ok (.aload_n 0, 1) := by decide +kernel
theorem d42 : decode yB 42 = .ok (.aload 5, 2) := by decide +kernel
theorem d44 : decode yB 44 = .ok (.iload_n 3, 1) := by decide +kernel
theorem d45 : decode yB 45 = .ok (.invokestatic 47, 3) := by decide +kernel
theorem d48 : decode yB 48 = .ok (.putfield 15, 3) := by decide +kernel
theorem d51 : decode yB 51 = .ok (.aload_n 0, 1) := by decide +kernel
theorem d52 : decode yB 52 = .ok (.aload 5, 2) := by decide +kernel
theorem d54 : decode yB 54 = .ok (.putfield 9, 3) := by decide +kernel
theorem d57 : decode yB 57 = .ok (.return_, 1) := by decide +kernel
def site : List Cond := [.fieldLink "java/lang/String" 38 "java/lang/String" "COMPACT_STRINGS" "Z", Cmp3.tab, CodL.tab, .laysFinal "java/lang/String" "java/lang/String" "value" "[B", .fieldLink "java/lang/String" 9 "java/lang/String" "value" "[B", .laysFinal "java/lang/String" "java/lang/String" "coder" "B", .fieldLink "java/lang/String" 15 "java/lang/String" "coder" "B"] ++ objW "java/lang/String" 1 ++ staticW "java/lang/String" 177 Cmp3.yN ++ staticW "java/lang/String" 47 CodL.yN
def tab : Cond := tabOf yN yB 6 none site
def P (a : Addr) (D : Cell) (fV fC : Field) (b : Addr) (A : Cell) (z : Int32) (o len : Nat) (args : Array Value) (s : State) : Prop := args = #[.ref a, .ref b, .int (Int32.ofNat o), .int (Int32.ofNat len), .null] ∧ Blank "java/lang/String" a D s ∧ Found "java/lang/String" "value" "[B" fV s ∧ Found "java/lang/String" "coder" "B" fC s ∧ Ch b A s ∧ StaticIs s "java/lang/String" "COMPACT_STRINGS" "Z" (.int z) ∧ ¬ z = 0 ∧ 0 < len ∧ o + len ≤ A.slots.size ∧ len ≤ 536870912 ∧ ∀ i, i < len → ¬ 255 < cv A (o + i)
def E (a : Addr) (D : Cell) (fV fC : Field) (A : Cell) (o len : Nat) (r : Option Value) (s u : State) : Prop := Got a D fV fC A o len r s u
/-- len > 0, no char of the range above 255: a Latin-1 String of their low bytes -/
theorem law (l : Launch) (a : Addr) (D : Cell) (fV fC : Field) (b : Addr) (A : Cell) (z : Int32) (o len : Nat) : Law l yN 5 4 2 35 yB 6 none site (P a D fV fC b A z o len) (E a D fV fC A o len) [⟨a, fC.slot⟩, ⟨a, fV.slot⟩] 1 len := by
  refine Law.of_walk (plainFor_of_name (by decide +kernel)) (by decide +kernel) (by decide +kernel) (by decide) (fun _ _ h => by rw [h.1]; rfl) (fun _ U U' hal hh h => ⟨h.1, h.2.1.mv hal hh, h.2.2.1.al hal, h.2.2.2.1.al hal, h.2.2.2.2.1.mv hal hh, h.2.2.2.2.2.1.there hal hh, h.2.2.2.2.2.2⟩) (fun r U U' V V' h1 hal h2 h => Got.mv r U U' V V' h1 hal h2 h) ?_
  intro p e s m args below meth c s₁ X0 hexec hbytes hml hret hlk hnm hown hh0 W hP
  obtain ⟨rfl, hB, f1, f2, hA, s1, hz, l0, l1, l2, hp⟩ := hP
  have a31 := hA.1.2.2.2
  have c1 : Steps p.tables e below (s₁.setTop (entryFrame m #[.ref a, .ref b, .int (Int32.ofNat o), .int (Int32.ofNat len), .null] 6)) (s₁.setTop (mkF m 0 #[.val (.ref a), .val (.ref b), .val (.int (Int32.ofNat o)), .val (.int (Int32.ofNat len)), .val .null, .unset] [])) := entry rfl
  have c2 : Steps p.tables e below (s₁.setTop (entryFrame m #[.ref a, .ref b, .int (Int32.ofNat o), .int (Int32.ofNat len), .null] 6)) (s₁.setTop (mkF m 1 #[.val (.ref a), .val (.ref b), .val (.int (Int32.ofNat o)), .val (.int (Int32.ofNat len)), .val .null, .unset] [.ref a])) := c1.trans (by
    refine XS.aloadN X0.here hexec rfl (hb hbytes d0) rfl rfl ?_
    exact Steps.refl _)
  obtain ⟨T3, X3, q3, st3⟩ := X0.oinit hexec hown (wks W (objW "java/lang/String" 1)) (g := (mkF m 1 #[.val (.ref a), .val (.ref b), .val (.int (Int32.ofNat o)), .val (.int (Int32.ofNat len)), .val .null, .unset] [.ref a])) rfl (by rw [hml]; rfl) (rest := []) rfl (hb hbytes d1) (W := 0) (by show 2 * 0 + 0 ≤ _; decide) (Nat.le_of_ble_eq_true rfl) (Nat.le_of_ble_eq_true rfl)
  have hh3 := q3.trans hh0
  have c4 : Steps p.tables e below (s₁.setTop (entryFrame m #[.ref a, .ref b, .int (Int32.ofNat o), .int (Int32.ofNat len), .null] 6)) (T3.setTop (mkF m 27 #[.val (.ref a), .val (.ref b), .val (.int (Int32.ofNat o)), .val (.int (Int32.ofNat len)), .val .null, .unset] [])) := (c2.trans (st3 _ (Steps.refl _))).trans (by
    refine XS.iloadN X3.here hexec rfl (hb hbytes d4) rfl ?_
    refine XS.ifYes X3.here hexec rfl (pc0 := 5) rfl (hb hbytes d5) rfl (i0_ne_t (nz32 (by omega) l0)) (by decide) rfl ?_
    exact Steps.refl _)
  obtain ⟨T5, X5, q5, st5⟩ := X3.sget hexec hown (wk W (.fieldLink "java/lang/String" 38 "java/lang/String" "COMPACT_STRINGS" "Z")) s1 (fun _ _ h => by rw [hh3]; exact h) (g := (mkF m 27 #[.val (.ref a), .val (.ref b), .val (.int (Int32.ofNat o)), .val (.int (Int32.ofNat len)), .val .null, .unset] [])) rfl (hb hbytes d27)
  have hh5 := q5.trans hh3
  have c6 : Steps p.tables e below (s₁.setTop (entryFrame m #[.ref a, .ref b, .int (Int32.ofNat o), .int (Int32.ofNat len), .null] 6)) (T5.setTop (mkF m 30 #[.val (.ref a), .val (.ref b), .val (.int (Int32.ofNat o)), .val (.int (Int32.ofNat len)), .val .null, .unset] [.int z])) := c4.trans (st5 _ (Steps.refl _))
  have c7 : Steps p.tables e below (s₁.setTop (entryFrame m #[.ref a, .ref b, .int (Int32.ofNat o), .int (Int32.ofNat len), .null] 6)) (T5.setTop (mkF m 36 #[.val (.ref a), .val (.ref b), .val (.int (Int32.ofNat o)), .val (.int (Int32.ofNat len)), .val .null, .unset] [.int (Int32.ofNat len), .int (Int32.ofNat o), .ref b])) := c6.trans (by
    refine XS.ifNo X5.here hexec rfl (hb hbytes d30) rfl (i0_eq_f hz) ?_
    refine XS.aloadN X5.here hexec rfl (hb hbytes d33) rfl rfl ?_
    refine XS.iloadN X5.here hexec rfl (hb hbytes d34) rfl ?_
    refine XS.iloadN X5.here hexec rfl (hb hbytes d35) rfl ?_
    exact Steps.refl _)
  obtain ⟨v8, T8, X8, E8, g8⟩ := X5.callS hexec (Cmp3.law l b A o len) hown (wks W (staticW "java/lang/String" 177 Cmp3.yN)) (wk W Cmp3.tab) (W := 0) (Nat.le_of_ble_eq_true rfl) (Nat.le_of_ble_eq_true rfl) (Nat.le_refl _) (by show 0 + len ≤ len; omega) (g := (mkF m 36 #[.val (.ref a), .val (.ref b), .val (.int (Int32.ofNat o)), .val (.int (Int32.ofNat len)), .val .null, .unset] [.int (Int32.ofNat len), .int (Int32.ofNat o), .ref b])) rfl (by rw [hml]; rfl) c7 (argsL := [.ref b, .int (Int32.ofNat o), .int (Int32.ofNat len)]) (rest := []) rfl rfl (by show 2 * 0 + 0 ≤ _; decide) (hb hbytes d36) (⟨rfl, hA.mv X5.warmed.alike hh5, l1, l2, hp⟩)
  obtain ⟨e8, z8⟩ := E8
  obtain ⟨rfl, N, n1, n2, n3, n4, n5, n6⟩ := NewArr.mv _ T5 s _ _ hh5.symm (Vm.Alike.refl _) rfl e8
  rw [hh5] at z8
  have hB1 := hB.keep X8.warmed.alike (n6 _ _ hB.1)
  have hne : s.heap.size ≠ a := (Nat.ne_of_lt (Array.getElem?_eq_some_iff.mp hB.1).1).symm
  have c9 : Steps p.tables e below (s₁.setTop (entryFrame m #[.ref a, .ref b, .int (Int32.ofNat o), .int (Int32.ofNat len), .null] 6)) (T8.setTop (mkF m 39 #[.val (.ref a), .val (.ref b), .val (.int (Int32.ofNat o)), .val (.int (Int32.ofNat len)), .val .null, .unset] [.ref s.heap.size])) := g8
  have c10 : Steps p.tables e below (s₁.setTop (entryFrame m #[.ref a, .ref b, .int (Int32.ofNat o), .int (Int32.ofNat len), .null] 6)) (T8.setTop (mkF m 45 #[.val (.ref a), .val (.ref b), .val (.int (Int32.ofNat o)), .val (.int (Int32.ofNat len)), .val .null, .val (.ref s.heap.size)] [.int (Int32.ofNat N.slots.size), .ref s.heap.size, .ref a])) := by
    have hc : Steps p.tables e below (s₁.setTop (entryFrame m #[.ref a, .ref b, .int (Int32.ofNat o), .int (Int32.ofNat len), .null] 6)) (T8.setTop (mkF m 45 #[.val (.ref a), .val (.ref b), .val (.int (Int32.ofNat o)), .val (.int (Int32.ofNat len)), .val .null, .val (.ref s.heap.size)] [.int (Int32.ofNat len), .ref s.heap.size, .ref a])) := c9.trans (by
      refine XS.astore X8.here hexec rfl (hb hbytes d39) rfl rfl rfl ?_
      refine XS.aloadN X8.here hexec rfl (hb hbytes d41) rfl rfl ?_
      refine XS.aload X8.here hexec rfl (hb hbytes d42) rfl rfl ?_
      refine XS.iloadN X8.here hexec rfl (hb hbytes d44) rfl ?_
      exact Steps.refl _)
    rw [n4]; exact hc
  obtain ⟨v11, T11, X11, E11, g11⟩ := X8.callS hexec (CodL.law l s.heap.size N) hown (wks W (staticW "java/lang/String" 47 CodL.yN)) (wk W CodL.tab) (W := 1) (Nat.le_of_ble_eq_true rfl) (Nat.le_of_ble_eq_true rfl) (Nat.le_refl _) (by show 0 + len + 0 ≤ len; omega) (g := (mkF m 45 #[.val (.ref a), .val (.ref b), .val (.int (Int32.ofNat o)), .val (.int (Int32.ofNat len)), .val .null, .val (.ref s.heap.size)] [.int (Int32.ofNat N.slots.size), .ref s.heap.size, .ref a])) rfl (by rw [hml]; rfl) c10 (argsL := [.ref s.heap.size, .int (Int32.ofNat N.slots.size)]) (rest := [.ref a]) rfl rfl (by show 2 * 0 + (1 + 0) ≤ _; decide) (hb hbytes d45) (⟨rfl, n1⟩)
  obtain ⟨rfl, q11⟩ := E11
  have hB11 := hB1.mv (X8.warmed.alike.symm.trans X11.warmed.alike) q11
  have c12 : Steps p.tables e below (s₁.setTop (entryFrame m #[.ref a, .ref b, .int (Int32.ofNat o), .int (Int32.ofNat len), .null] 6)) (T11.setTop (mkF m 48 #[.val (.ref a), .val (.ref b), .val (.int (Int32.ofNat o)), .val (.int (Int32.ofNat len)), .val .null, .val (.ref s.heap.size)] [.int 0, .ref a])) := g11
  obtain ⟨T13, X13, p13, bl13, sl13, st13⟩ := X11.finit hexec hown (wk W (.fieldLink "java/lang/String" 15 "java/lang/String" "coder" "B")) (Or.inr ⟨_, (wk W (.laysFinal "java/lang/String" "java/lang/String" "coder" "B"))⟩) (Or.inl ⟨rfl, hnm⟩) f2 (Or.inl rfl) hB11 (t := .byte) (by decide +kernel) rfl (g := (mkF m 48 #[.val (.ref a), .val (.ref b), .val (.int (Int32.ofNat o)), .val (.int (Int32.ofNat len)), .val .null, .val (.ref s.heap.size)] [.int 0, .ref a])) rfl (rest := []) rfl (hb hbytes d48)
  have c14 : Steps p.tables e below (s₁.setTop (entryFrame m #[.ref a, .ref b, .int (Int32.ofNat o), .int (Int32.ofNat len), .null] 6)) (T13.setTop (mkF m 54 #[.val (.ref a), .val (.ref b), .val (.int (Int32.ofNat o)), .val (.int (Int32.ofNat len)), .val .null, .val (.ref s.heap.size)] [.ref s.heap.size, .ref a])) := (c12.trans (st13 _ (Steps.refl _))).trans (by
    refine XS.aloadN X13.here hexec rfl (hb hbytes d51) rfl rfl ?_
    refine XS.aload X13.here hexec rfl (hb hbytes d52) rfl rfl ?_
    exact Steps.refl _)
  obtain ⟨T15, X15, p15, bl15, sl15, st15⟩ := X13.finit hexec hown (wk W (.fieldLink "java/lang/String" 9 "java/lang/String" "value" "[B")) (Or.inr ⟨_, (wk W (.laysFinal "java/lang/String" "java/lang/String" "value" "[B"))⟩) (Or.inl ⟨rfl, hnm⟩) f1 (Or.inl rfl) bl13 (t := (.array .byte)) (by decide +kernel) rfl (g := (mkF m 54 #[.val (.ref a), .val (.ref b), .val (.int (Int32.ofNat o)), .val (.int (Int32.ofNat len)), .val .null, .val (.ref s.heap.size)] [.ref s.heap.size, .ref a])) rfl (rest := []) rfl (hb hbytes d54)
  have c16 : Steps p.tables e below (s₁.setTop (entryFrame m #[.ref a, .ref b, .int (Int32.ofNat o), .int (Int32.ofNat len), .null] 6)) (T15.setTop (mkF m 57 #[.val (.ref a), .val (.ref b), .val (.int (Int32.ofNat o)), .val (.int (Int32.ofNat len)), .val .null, .val (.ref s.heap.size)] [])) := c14.trans (st15 _ (Steps.refl _))
  have ap := apart (Or.inr ⟨_, (wk W (.laysFinal "java/lang/String" "java/lang/String" "value" "[B"))⟩) (Or.inr ⟨_, (wk W (.laysFinal "java/lang/String" "java/lang/String" "coder" "B"))⟩) f1 f2 (t₁ := .array .byte) (t₂ := .byte) (by decide +kernel) (by decide +kernel) (by decide)
  have al := X8.warmed.alike.symm.trans X15.warmed.alike
  have n7 : T11.heap[s.heap.size]? = some N := by rw [q11]; exact n1.1
  exact ⟨T15, none, _, _, _, X15, by simp, rfl, by omega, (fun _ => rfl), ⟨rfl, _, N, bl15, ((Same.refl D _).set _ (by simp)).set _ (by simp), sl15, (Cell.slots_setSlot_ne _ ap).trans sl13, n1.keep al (p15.other hne (p13.other hne n7)), n2, by rw [al.findClass]; exact n3, n4, n5, fun y c h1 h2 => p15.other h1 (p13.other h1 (by rw [q11]; exact n6 y c h2)), by rw [p15.2.2, p13.2.2, q11]; exact z8⟩, fun fs hl => c16.trans (X15.returnOut hexec hret (hb hbytes d57) hl)⟩
end New4
namespace New1
def yN : MethodName := ⟨"java/lang/String", "<init>", "([C)V"⟩
abbrev yB : ByteArray := jdk_42_method_3_code
theorem d0 : decode yB 0 = .ok (.aload_n 0, 1) := by decide +kernel
theorem d1 : decode yB 1 = .ok (.aload_n 1, 1) := by decide +kernel
theorem d2 : decode yB 2 = .ok (.iconst 0, 1) := by decide +kernel
theorem d3 : decode yB 3 = .ok (.aload_n 1, 1) := by decide +kernel
theorem d4 : decode yB 4 = .ok (.arraylength, 1) := by decide +kernel
theorem d5 : decode yB 5 = .ok (.aconst_null, 1) := by decide +kernel
theorem d6 : decode yB 6 = .ok (.invokespecial 27, 3) := by decide +kernel
theorem d9 : decode yB 9 = .ok (.return_, 1) := by decide +kernel
def site : List Cond := [New4.tab] ++ initW "java/lang/String" 27 New4.yN
def tab : Cond := tabOf yN yB 2 none site
def P (a : Addr) (D : Cell) (fV fC : Field) (b : Addr) (A : Cell) (z : Int32) (args : Array Value) (s : State) : Prop := args = #[.ref a, .ref b] ∧ Blank "java/lang/String" a D s ∧ Found "java/lang/String" "value" "[B" fV s ∧ Found "java/lang/String" "coder" "B" fC s ∧ Ch b A s ∧ StaticIs s "java/lang/String" "COMPACT_STRINGS" "Z" (.int z) ∧ ¬ z = 0 ∧ 0 < A.slots.size ∧ A.slots.size ≤ 536870912 ∧ ∀ i, i < A.slots.size → ¬ 255 < cv A i
def E (a : Addr) (D : Cell) (fV fC : Field) (A : Cell) (r : Option Value) (s u : State) : Prop := Got a D fV fC A 0 A.slots.size r s u
/-- new String(chars), not empty, no char above 255: a Latin-1 String of their low bytes -/
theorem law (l : Launch) (a : Addr) (D : Cell) (fV fC : Field) (b : Addr) (A : Cell) (z : Int32) : Law l yN 2 1 3 52 yB 2 none site (P a D fV fC b A z) (E a D fV fC A) [⟨a, fC.slot⟩, ⟨a, fV.slot⟩] 1 A.slots.size := by
  refine Law.of_walk (plainFor_of_name (by decide +kernel)) (by decide +kernel) (by decide +kernel) (by decide) (fun _ _ h => by rw [h.1]; rfl) (fun _ U U' hal hh h => ⟨h.1, h.2.1.mv hal hh, h.2.2.1.al hal, h.2.2.2.1.al hal, h.2.2.2.2.1.mv hal hh, h.2.2.2.2.2.1.there hal hh, h.2.2.2.2.2.2⟩) (fun r U U' V V' h1 hal h2 h => Got.mv r U U' V V' h1 hal h2 h) ?_
  intro p e s m args below meth c s₁ X0 hexec hbytes hml hret hlk hnm hown hh0 W hP
  obtain ⟨rfl, hB, f1, f2, hA, s1, hz, l0, l2, hp⟩ := hP
  have c1 : Steps p.tables e below (s₁.setTop (entryFrame m #[.ref a, .ref b] 2)) (s₁.setTop (mkF m 0 #[.val (.ref a), .val (.ref b)] [])) := entry rfl
  have c2 : Steps p.tables e below (s₁.setTop (entryFrame m #[.ref a, .ref b] 2)) (s₁.setTop (mkF m 6 #[.val (.ref a), .val (.ref b)] [.null, .int (Int32.ofNat A.slots.size), .int 0, .ref b, .ref a])) := c1.trans (by
    refine XS.aloadN X0.here hexec rfl (hb hbytes d0) rfl rfl ?_
    refine XS.aloadN X0.here hexec rfl (hb hbytes d1) rfl rfl ?_
    refine iconstV X0.here hexec rfl 0 (hb hbytes d2) (by decide) ?_
    refine XS.aloadN X0.here hexec rfl (hb hbytes d3) rfl rfl ?_
    refine X0.alen hexec (hA.1.mv X0.warmed.alike hh0) rfl rfl (hb hbytes d4) ?_
    refine XS.aconstNull X0.here hexec rfl (hb hbytes d5) ?_
    exact Steps.refl _)
  obtain ⟨v3, T3, X3, E3, g3⟩ := X0.callN hexec (New4.law l a D fV fC b A z 0 A.slots.size) rfl hown (wks W (initW "java/lang/String" 27 New4.yN)) (W New4.tab (by simp only [site, List.mem_cons, List.mem_append, true_or, or_true])) (W := 0) (Nat.le_of_ble_eq_true rfl) (Nat.le_of_ble_eq_true rfl) (Nat.le_refl _) (by show 0 + A.slots.size ≤ A.slots.size; omega) (g := (mkF m 6 #[.val (.ref a), .val (.ref b)] [.null, .int (Int32.ofNat A.slots.size), .int (Int32.ofNat 0), .ref b, .ref a])) rfl (by rw [hml]; rfl) c2 (argsL := [.ref b, .int (Int32.ofNat 0), .int (Int32.ofNat A.slots.size), .null]) (rest := []) rfl rfl (by show 2 * 0 + 0 ≤ _; decide) (hb hbytes d6) (⟨rfl, hB.mv X0.warmed.alike hh0, f1.al X0.warmed.alike, f2.al X0.warmed.alike, hA.mv X0.warmed.alike hh0, s1.there X0.warmed.alike hh0, hz, l0, by omega, l2, fun i hi => by rw [Nat.zero_add]; exact hp i hi⟩)
  have e0 := Got.mv _ s₁ s _ _ hh0.symm (Vm.Alike.refl _) rfl E3
  obtain rfl := e0.1
  have c4 : Steps p.tables e below (s₁.setTop (entryFrame m #[.ref a, .ref b] 2)) (T3.setTop (mkF m 9 #[.val (.ref a), .val (.ref b)] [])) := g3
  exact ⟨T3, none, _, _, _, X3, by simp, rfl, by omega, (fun _ => rfl), e0, fun fs hl => c4.trans (X3.returnOut hexec hret (hb hbytes d9) hl)⟩
theorem pays {l : Launch} {R : Room} {p : Program} {e : Env} {below : List Frame} {s : State} {sargs : Array Value} {len W : Nat} (a : Addr) (D : Cell) (fV fC : Field) (b : Addr) (A : Cell) (z : Int32) (htab : tab.before sargs s = true) (hfr : 4 ≤ R.frames) (hlo : W + 65 ≤ R.locals) :
    Back l R p e below s sargs yN len W (fun A₁ a₁ => A₁.cells + 1 ≤ R.cells ∧ A₁.slots + A.slots.size ≤ R.slots ∧ P a D fV fC b A z a₁ A₁.U) (fun A₁ _ v₁ B₁ => E a D fV fC A v₁ A₁.U B₁.U ∧ B₁.locs = A₁.locs ++ [⟨a, fC.slot⟩, ⟨a, fV.slot⟩] ∧ B₁.cells = A₁.cells + 1 ∧ B₁.slots = A₁.slots + A.slots.size) :=
  (law l a D fV fC b A z).pays htab hfr (by omega)
end New1
/-- the byte, read back as charAt reads it, is the char -/
theorem lo8_mask {x : Int32} (h0 : ¬ x < 0) (h1 : ¬ 255 < x) : lo8 x &&& 255 = x := by
  have t : ∀ k : Fin 256, lo8 (Int32.ofNat k.val) &&& 255 = Int32.ofNat k.val := by decide +kernel
  rw [Int32.lt_iff_toInt_lt] at h0 h1
  have e0 : (0 : Int32).toInt = 0 := rfl
  have e1 : (255 : Int32).toInt = 255 := rfl
  obtain ⟨k, hk⟩ : ∃ k : Nat, x.toInt = k := ⟨x.toInt.toNat, by omega⟩
  have hx : x = Int32.ofNat k := Int32.toInt_inj.mp (by rw [hk, Int32.toInt_ofNat_small (by omega)])
  rw [hx]
  exact t ⟨k, by omega⟩
end StrChars
namespace StrChars.Road
open Jvm Sem ClassFile Op Lib Jvm.Stand Jvm.Free Jvm.Free.XT
open Jvm.Lib.Cold (StaticIs)
abbrev ST : String := "java/lang/String"
/-- every table word that New1's law asks, flat -/
abbrev words : List Jvm.Cond := [.code New1.yN New1.yB 2 none, .initialized ST, .methodLink ST 27 New4.yN, .instanceMethod New4.yN,
  .code New4.yN New4.yB 6 none, .fieldLink ST 38 ST "COMPACT_STRINGS" "Z", .laysFinal ST ST "value" "[B", .fieldLink ST 9 ST "value" "[B", .laysFinal ST ST "coder" "B", .fieldLink ST 15 ST "coder" "B",
  .methodLink ST 1 Lib.objectInit, .instanceMethod Lib.objectInit, .code Lib.objectInit ⟨#[0xb1]⟩ 1 none, .methodLink ST 177 Cmp3.yN, .static Cmp3.yN, .methodLink ST 47 CodL.yN, .static CodL.yN,
  .code Cmp3.yN Cmp3.yB 6 (some (.array .byte)), .initialized U16, .arrayClass .byte, .methodLink U16 115 Cmp5.yN, .static Cmp5.yN, .code Cmp5.yN Cmp5.yB 7 (some .int), .code CodL.yN CodL.yB 2 (some .byte)]
theorem tab_of {a : Array Value} {s : State} (h : ∀ w ∈ words, w.before a s = true) : New1.tab.before a s = true := by
  have h5 : Cmp5.tab.before a s = true := unparts (wk h (.code Cmp5.yN Cmp5.yB 7 (some .int))) (wks h (.initialized Cmp5.yN.cls :: Cmp5.site))
  have hc : CodL.tab.before a s = true := unparts (wk h (.code CodL.yN CodL.yB 2 (some .byte))) (wks h (.initialized CodL.yN.cls :: CodL.site))
  have q5 : ∀ w ∈ Cmp5.tab :: words, w.before a s = true := fun w hw => (List.mem_cons.mp hw).elim (fun e => e ▸ h5) (h w)
  have h3 : Cmp3.tab.before a s = true := unparts (wk q5 (.code Cmp3.yN Cmp3.yB 6 (some (.array .byte)))) (wks q5 (.initialized Cmp3.yN.cls :: Cmp3.site))
  have q3 : ∀ w ∈ Cmp3.tab :: CodL.tab :: words, w.before a s = true := fun w hw => (List.mem_cons.mp hw).elim (fun e => e ▸ h3) fun hw => (List.mem_cons.mp hw).elim (fun e => e ▸ hc) (h w)
  have h4 : New4.tab.before a s = true := unparts (wk q3 (.code New4.yN New4.yB 6 none)) (wks q3 (.initialized New4.yN.cls :: New4.site))
  have q4 : ∀ w ∈ New4.tab :: words, w.before a s = true := fun w hw => (List.mem_cons.mp hw).elim (fun e => e ▸ h4) (h w)
  exact unparts (wk q4 (.code New1.yN New1.yB 2 none)) (wks q4 (.initialized New1.yN.cls :: New1.site))
/-- the words ride from the start Z to the walk's own state -/
theorem moved {Z s : State} {a0 args : Array Value} (hZ : Z.Warmed39 s.vm) (hw : ∀ d ∈ words, d.before a0 Z = true) : ∀ d ∈ words, d.before args s = true := fun d hd => by
  have q := hw d hd
  have t : ∀ d ∈ words, d = .arrayClass .byte ∨ (d.onTables && d.keepsFace) = true := by decide +kernel
  rcases t d hd with rfl | t
  · exact RoadKit.mvA hZ q
  · exact RoadKit.mv hZ q t
/-- WHAT COMES BACK, over the tables of the start Z: h the heap at the call, h' behind it -/
def Q (Z : State) (x : Addr) (A : Cell) (h : Heap) (v : Option Value) (h' : Heap) (L : List Loc) : Prop := v = none ∧ (∀ y ∈ L, y.base = x) ∧ RoadKit.Keep h h' [x] ∧ h'.size = h.size + 1 ∧ RoadKit.Exa Z h' x ST ∧ RoadKit.Fld Z h' x ST "value" "[B" (.ref h.size) ∧ RoadKit.Fld Z h' x ST "coder" "B" (.int 0) ∧
  (∃ V : Cell, RoadKit.Arr Z h' h.size V .byte ∧ V.vm = .none ∧ Z.vm.findClass "[B" = some V.cls ∧ V.slots.size = A.slots.size ∧ ∀ j, j < A.slots.size → V.slots[j]? = some (.int (lo8 (cv A j)))) ∧
  ∀ (O n d : String) (w : Value), RoadKit.Fld Z h x O n d w → RoadKit.slotOf Z O n d ≠ RoadKit.slotOf Z ST "value" "[B" → RoadKit.slotOf Z O n d ≠ RoadKit.slotOf Z ST "coder" "B" → RoadKit.Fld Z h' x O n d w
/-- **new String(chars) AT A CALL, IN THE ROAD'S FORM**: for specialBack behind newO: x the fresh String, b the char[] with the cell A -/
theorem back {p : Program} {l : Launch} {e : Env} {R : Room} {s : State} {args : Array Value} {below : List Frame} {len W : Nat} {Z : State} {a0 : Array Value} {h : Heap} (hZ : Z.Warmed39 s.vm) (hw : ∀ d ∈ words, d.before a0 Z = true) {kI : Nat} (wi : (Jvm.Cond.instantiable ST kI).before a0 Z = true)
    {x b : Addr} {A : Cell} {z : Int32} {v0 c0 : Value} (E : RoadKit.Exa Z h x ST) (V : RoadKit.Fld Z h x ST "value" "[B" v0) (C : RoadKit.Fld Z h x ST "coder" "B" c0) (K : RoadKit.Arr Z h b A .char) (hty : Typed .char A) (S : RoadKit.Sta Z h ST "COMPACT_STRINGS" "Z" (.int z)) (hz : ¬ z = 0)
    (l0 : 0 < A.slots.size) (l2 : A.slots.size ≤ 536870912) (hp : ∀ i, i < A.slots.size → ¬ 255 < cv A i) (hfr : 4 ≤ R.frames) (hlo : W + 65 ≤ R.locals) :
    Back l R p e below s args New1.yN len W (fun P a => a = #[.ref x, .ref b] ∧ P.U.heap = h ∧ P.cells + 1 ≤ R.cells ∧ P.slots + A.slots.size ≤ R.slots)
      (fun P _ v B => ∃ L, Q Z x A h v B.U.heap L ∧ B.locs = P.locs ++ L ∧ B.cells = P.cells + 1 ∧ B.slots = P.slots + A.slots.size) := by
  intro m meth c P g ig mk a X hg hsize hdg hW hn hp'
  obtain ⟨rfl, rfl, r1, r2⟩ := hp'
  have al : Z.vm.Alike P.U.vm := hZ.alike.trans X.warmed.alike
  obtain ⟨D, cfV, kV, iV, fV, hD, gV, stV, knV, obV, asV, slV⟩ := id V
  obtain ⟨D', cfC, kC, iC, fC, hD', gC, stC, -, -, asC, slC⟩ := id C
  cases hD.symm.trans hD'
  obtain ⟨D2, kD, e1, e2, e3, e4, e5⟩ := id E
  cases hD.symm.trans e1
  obtain ⟨c2, k2, i1, i2, i3, -⟩ := Cond.instantiable_spec wi
  cases e2.symm.trans i1
  cases e3.symm.trans i2
  obtain ⟨kU, u1, u2⟩ := al.2.2 _ _ e3
  have hB : Blank ST x D P.U := ⟨hD, ⟨knV, fun q hq => by rw [hq] at obV; cases obV⟩, by rw [al.findClass]; exact e2, kU, u1, by rw [u2]; exact i3, by rw [u2]; exact e5 i3⟩
  have F1 : Found ST "value" "[B" fV P.U := ⟨SBG.found_only al ⟨cfV, kV, iV, gV⟩, stV⟩
  have F2 : Found ST "coder" "B" fC P.U := ⟨SBG.found_only al ⟨cfC, kC, iC, gC⟩, stC⟩
  have hA : Ch b A P.U := ⟨⟨K.1, State.isArrayOf_alike al K.2.1, K.2.2, by omega⟩, hty⟩
  have hS : StaticIs P.U ST "COMPACT_STRINGS" "Z" (.int z) := by
    obtain ⟨cfS, iS, kS, fS, st, cS, t1, t2, t3, t4, t5, t6, t7⟩ := S
    exact StaticIs.there (s := { Z with heap := P.U.heap }) ⟨cfS, iS, kS, fS, st, cS, t1, t2, t3, t4, t5, (fun q => by rw [q] at t6; cases t6), t7⟩ al rfl
  obtain ⟨v, B, X', ⟨⟨hv, E', V', q1, q2, q3, q4, q5, q6, q7, q8, q9, q10, q11⟩, hl, hc, hs⟩, st⟩ := New1.pays x D fV fC b A z (tab_of (moved hZ hw)) hfr hlo m meth c P g ig mk _ X hg hsize hdg hW hn ⟨r1, r2, rfl, hB, F1, F2, hA, hS, hz, l0, l2, hp⟩
  have al' : Z.vm.Alike B.U.vm := hZ.alike.trans X'.warmed.alike
  have hsz : E'.slots.size = D.slots.size := by
    obtain ⟨-, -, -, kB, w1, w2, w3⟩ := q1
    obtain ⟨kB', y1, y2⟩ := al'.2.2 _ _ e3
    rw [q2.2.1] at w1
    cases w1.symm.trans y1
    rw [w3, e5 i3, y2]
  refine ⟨v, B, X', ⟨_, ⟨hv, ?_, ⟨by omega, fun y cy hy hn' => q10 y cy (by simpa using hn') hy, fun y cy hy => ?_⟩, q11, ⟨E', _, q1.1, by rw [q2.2.1]; exact e2, by rw [q2.2.1]; exact e3, by rw [q2.1]; exact obV, fun _ => by rw [hsz]; exact e5 i3⟩,
    ⟨E', cfV, kV, iV, fV, q1.1, gV, stV, by rw [q2.1]; exact knV, by rw [q2.1]; exact obV, by rw [q2.2.1]; exact asV, q3⟩, ⟨E', cfC, kC, iC, fC, q1.1, gC, stC, by rw [q2.1]; exact knV, by rw [q2.1]; exact obV, by rw [q2.2.1]; exact asC, q4⟩,
    ⟨V', ⟨q5.1, State.isArrayOf_alike al'.symm q5.2.1, q5.2.2.1⟩, q6, by rw [← al'.findClass]; exact q7, q8, fun j hj => by have := q9 j hj; rwa [Nat.zero_add] at this⟩, fun O n d w F n1 n2 => ?_⟩, hl, hc, hs⟩, st⟩
  · intro y hy
    simp only [List.mem_cons, List.not_mem_nil, or_false] at hy
    rcases hy with rfl | rfl <;> rfl
  · by_cases q : y = x
    · subst q
      cases hD.symm.trans hy
      exact ⟨E', q1.1, q2.2.1, q2.1, hsz⟩
    · exact ⟨cy, q10 y cy q hy, rfl, rfl, rfl⟩
  · obtain ⟨D3, cf, k, i, f, g1, g2, g3, g4, g5, g6, g7⟩ := F
    cases hD.symm.trans g1
    simp only [RoadKit.slotOf, g2, gV, gC, Option.map_some, Option.getD_some] at n1 n2
    exact ⟨E', cf, k, i, f, q1.1, g2, g3, by rw [q2.1]; exact g4, by rw [q2.1]; exact g5, by rw [q2.2.1]; exact g6, by rw [q2.2.2 f.slot (by simp [n1, n2])]; exact g7⟩
end StrChars.Road
namespace StrChars.Road
open Jvm Sem ClassFile Op Lib Jvm.Stand Jvm.Free Jvm.Free.XT
/-- WHAT COMES BACK, the byte[] as a list of values -/
def QA (Z : State) (x : Addr) (zn : Int32) (cs : List Int32) (h : Heap) (v : Option Value) (h' : Heap) (L : List Loc) : Prop := v = none ∧ (∀ y ∈ L, y.base = x) ∧ RoadKit.Keep h h' [x] ∧ h'.size = h.size + 1 ∧ RoadKit.Exa Z h' x ST ∧ RoadKit.Fld Z h' x ST "value" "[B" (.ref h.size) ∧ RoadKit.Fld Z h' x ST "coder" "B" (.int 0) ∧
  (∃ kb, Z.vm.findClass "[B" = some kb ∧ RoadKit.Arv Z h' h.size kb .byte zn (cs.map fun c => .int (lo8 c)) (.int 0)) ∧
  ∀ (O n d : String) (w : Value), RoadKit.Fld Z h x O n d w → RoadKit.slotOf Z O n d ≠ RoadKit.slotOf Z ST "value" "[B" → RoadKit.slotOf Z O n d ≠ RoadKit.slotOf Z ST "coder" "B" → RoadKit.Fld Z h' x O n d w
/-- **new String(chars) AT A CALL, THE ARRAYS AS LISTS**: the char[] at b holds cs, not empty, no char above 255 -/
theorem backArv {p : Program} {l : Launch} {e : Env} {R : Room} {s : State} {args : Array Value} {below : List Frame} {len W : Nat} {Z : State} {a0 : Array Value} {h : Heap} (hZ : Z.Warmed39 s.vm) (hw : ∀ d ∈ words, d.before a0 Z = true) {kI : Nat} (wi : (Jvm.Cond.instantiable ST kI).before a0 Z = true)
    {x b : Addr} {k : ClassId} {zn z : Int32} {cs : List Int32} {dv v0 c0 : Value} (E : RoadKit.Exa Z h x ST) (V : RoadKit.Fld Z h x ST "value" "[B" v0) (C : RoadKit.Fld Z h x ST "coder" "B" c0) (K : RoadKit.Arv Z h b k .char zn (cs.map Value.int) dv) (S : RoadKit.Sta Z h ST "COMPACT_STRINGS" "Z" (.int z)) (hz : ¬ z = 0)
    (hlen : zn.toNatClampNeg = cs.length) (h0 : 0 < cs.length) (hbig : cs.length ≤ 536870912) (hall : ∀ c ∈ cs, ¬ 255 < c) (hfr : 4 ≤ R.frames) (hlo : W + 65 ≤ R.locals) :
    Back l R p e below s args New1.yN len W (fun P a => a = #[.ref x, .ref b] ∧ P.U.heap = h ∧ P.cells + 1 ≤ R.cells ∧ P.slots + cs.length ≤ R.slots)
      (fun P _ v B => ∃ L, QA Z x zn cs h v B.U.heap L ∧ B.locs = P.locs ++ L ∧ B.cells = P.cells + 1 ∧ B.slots = P.slots + cs.length) := by
  obtain ⟨A, K1, K2, K3, K4, K5, K6⟩ := K
  have e : A.slots.size = cs.length := K3.trans hlen
  have hat : ∀ (i : Nat) (hi : i < cs.length), A.slots[i]? = some (.int cs[i]) := fun i hi => by rw [K5 i (by omega)]; simp [List.getD_eq_getElem?_getD, hi]
  have hcv : ∀ (i : Nat) (hi : i < cs.length), cv A i = cs[i] := fun i hi => by unfold cv; rw [hat i hi]
  have hty : Typed .char A := fun i v hv => by
    have hi : i < A.slots.size := (Array.getElem?_eq_some_iff.mp hv).1
    have q := K5 i hi
    rw [hv] at q
    rw [Option.some.inj q]
    exact K6 i hi
  refine Back.mono (back hZ hw wi E V C K1 hty S hz (by omega) (by omega) (fun i hi => by rw [hcv i (by omega)]; exact hall _ (List.getElem_mem _)) hfr hlo) (fun P a hp => ⟨hp.1, hp.2.1, hp.2.2.1, by rw [e]; exact hp.2.2.2⟩) (fun P a v B hp hq => ?_)
  obtain ⟨L, ⟨q1, q2, q3, q4, q5, q6, q7, ⟨V', v1, v2, v3, v4, v5⟩, q9⟩, hl, hc, hs⟩ := hq
  refine ⟨L, ⟨q1, q2, q3, q4, q5, q6, q7, ⟨V'.cls, v3, V', v1, rfl, by rw [v4, e, hlen], K4, fun i hi => ?_, fun i hi => ?_⟩, q9⟩, hl, hc, by rw [hs, e]⟩
  · have hi' : i < cs.length := by omega
    rw [v5 i (by omega), hcv i hi']; simp [List.getD_eq_getElem?_getD, hi']
  · have hi' : i < cs.length := by omega
    simp only [List.getD_eq_getElem?_getD, List.getElem?_map, List.getElem?_eq_getElem hi', Option.map_some, Option.getD_some]
    exact fits_lo8 _
end StrChars.Road
namespace StrChars.Road
open Jvm Sem ClassFile Op Lib Jvm.Stand Jvm.Free Jvm.Free.XT
/-- WHAT COMES BACK, in the writer's own shape -/
def QV (Z : State) (x : Addr) (N : Int32) (bs : List Int32) (h : Heap) (n0 : Nat) (v : Option Value) (h' : Heap) (L : List Loc) : Prop := v = none ∧ RoadKit.Fr n0 L ∧ RoadKit.Keep h h' [x] ∧ RoadKit.Exa Z h' x ST ∧ RoadKit.Fld Z h' x ST "coder" "B" (.int 0) ∧
  ∃ (t : Addr) (kb : ClassId), n0 ≤ t ∧ h.size ≤ t ∧ ¬ t = x ∧ RoadKit.Fld Z h' x ST "value" "[B" (.ref t) ∧ RoadKit.Arv Z h' t kb .byte N (bs.map Value.int) (.int 0)
/-- **new String(chars) AT A CALL, FOR THE WRITER**: a char[] of n known ints, each 0 to 255 -/
theorem backV {p : Program} {l : Launch} {e : Env} {R : Room} {s : State} {args : Array Value} {below : List Frame} {len W : Nat} {Z : State} {a0 : Array Value} {h : Heap} (hZ : Z.Warmed39 s.vm) (hw : ∀ d ∈ words, d.before a0 Z = true) {kI : Nat} (wi : (Jvm.Cond.instantiable ST kI).before a0 Z = true)
    {x b : Addr} {kC : ClassId} {cs bs : List Int32} {d v0 c0 : Value} {z N : Int32} {n n0 : Nat} (hx0 : n0 ≤ x) (hh0 : n0 ≤ h.size) (E : RoadKit.Exa Z h x ST) (V : RoadKit.Fld Z h x ST "value" "[B" v0) (C : RoadKit.Fld Z h x ST "coder" "B" c0) (K : RoadKit.Arv Z h b kC .char N (cs.map Value.int) d) (S : RoadKit.Sta Z h ST "COMPACT_STRINGS" "Z" (.int z)) (hz : ¬ z = 0)
    (hn : cs.length = n) (hN : N = Int32.ofNat n) (l0 : 0 < n) (l2 : n ≤ 4000) (hp : ∀ c ∈ cs, ¬ c < 0 ∧ ¬ (255 : Int32) < c) (hb : bs = cs.map (fun c => c.toInt8.toInt32)) (hfr : 4 ≤ R.frames) (hlo : W + 65 ≤ R.locals) :
    Back l R p e below s args (⟨"java/lang/String", "<init>", "([C)V"⟩ : MethodName) len W (fun P a => a = #[.ref x, .ref b] ∧ P.U.heap = h ∧ P.cells + 1 ≤ R.cells ∧ P.slots + n ≤ R.slots)
      (fun P _ v B => ∃ L, QV Z x N bs h n0 v B.U.heap L ∧ B.locs = P.locs ++ L ∧ B.cells = P.cells + 1 ∧ B.slots = P.slots + n) := by
  subst hn hN hb
  refine Back.mono (backArv hZ hw wi E V C K S hz (n32 (by omega)) l0 (by omega) (fun c hc => (hp c hc).2) hfr hlo) (fun P a hp => hp) (fun P a v B hp hq => ?_)
  obtain ⟨L, ⟨q1, q2, q3, q4, q5, q6, q7, ⟨kb, v1, v2⟩, q9⟩, hl, hc, hs⟩ := hq
  exact ⟨L, ⟨q1, fun y hy => by rw [q2 y hy]; exact hx0, q3, q5, q7, h.size, kb, hh0, Nat.le_refl _, Nat.ne_of_gt E.lt, q6, by rw [List.map_map]; exact v2⟩, hl, hc, hs⟩
end StrChars.Road
namespace StrChars
open Jvm Sem ClassFile Op Lib Jvm.Stand Jvm.Free.XT Jvm.Free.ALB Jvm.Free.JM Jvm.Free
open Jvm.Lib.Cold (StaticIs)
def hi8 (x : Int32) : Int32 := lo8 (x >>> ((8 : Int32) &&& 31))
/-- what StringUTF16.getChar makes of two bytes -/
def pairCh (u v : Int32) : Int32 := (((u &&& 255) <<< ((0 : Int32) &&& 31)) ||| ((v &&& 255) <<< ((8 : Int32) &&& 31))).toUInt32.toUInt16.toUInt32.toInt32
theorem lo8_and (x : Int32) : (lo8 x &&& 255).toBitVec.toNat = x.toBitVec.toNat % 256 := by
  have h : (lo8 x).toBitVec = (x.toBitVec.signExtend 8).signExtend 32 := by rw [lo8, Int8.toBitVec_toInt32, Int32.toBitVec_toInt8]
  rw [Int32.toBitVec_and, BitVec.toNat_and, h]
  have e : ((x.toBitVec.signExtend 8).signExtend 32).toNat % 256 = x.toBitVec.toNat % 256 := by
    rw [BitVec.toNat_signExtend]
    have hlt := x.toBitVec.isLt
    simp only [BitVec.toNat_setWidth, BitVec.toNat_signExtend]
    split <;> split <;> omega
  rw [← e]
  exact Nat.and_two_pow_sub_one_eq_mod _ 8
theorem pair_says {c : Int32} (h0 : ¬ c < 0) (h1 : ¬ 65535 < c) : pairCh (lo8 c) (hi8 c) = c := by
  rw [Int32.lt_iff_toInt_lt] at h0 h1
  have e0 : (0 : Int32).toInt = 0 := rfl
  have e1 : (65535 : Int32).toInt = 65535 := rfl
  have hc : c.toInt = c.toBitVec.toNat := by
    have := c.toBitVec.isLt
    have e : c.toInt = c.toBitVec.toInt := rfl
    rw [e] at h0 h1
    rw [e]
    rw [BitVec.toInt_eq_toNat_cond] at h0 h1 ⊢
    split at h0 <;> split <;> omega
  have hn : c.toBitVec.toNat < 65536 := by omega
  have a1 := lo8_and c
  have a2 : (hi8 c &&& 255).toBitVec.toNat = c.toBitVec.toNat / 256 := by
    rw [hi8, lo8_and]
    have e : ((8 : Int32) &&& 31) = 8 := by decide
    rw [e, Int32.toBitVec_shiftRight]
    have e2 : ((8 : Int32).toBitVec.smod 32) = 8#32 := by decide
    rw [e2, BitVec.sshiftRight_eq', BitVec.toNat_sshiftRight_of_msb_false (by rw [BitVec.msb_eq_false_iff_two_mul_lt]; omega)]
    show c.toBitVec.toNat >>> 8 % 256 = _
    rw [Nat.shiftRight_eq_div_pow]
    omega
  unfold pairCh
  apply Int32.toBitVec_inj.mp
  apply BitVec.eq_of_toNat_eq
  have f0 : ((0 : Int32) &&& 31) = 0 := by decide
  have f8 : ((8 : Int32) &&& 31) = 8 := by decide
  rw [f0, f8]
  have g : (((lo8 c &&& 255) <<< (0 : Int32)) ||| ((hi8 c &&& 255) <<< (8 : Int32))).toBitVec.toNat = c.toBitVec.toNat := by
    rw [Int32.toBitVec_or, Int32.toBitVec_shiftLeft, Int32.toBitVec_shiftLeft]
    have s0 : ((0 : Int32).toBitVec.smod 32) = 0#32 := by decide
    have s8 : ((8 : Int32).toBitVec.smod 32) = 8#32 := by decide
    rw [s0, s8, BitVec.toNat_or]
    simp only [BitVec.shiftLeft_eq', BitVec.toNat_shiftLeft, a1, a2]
    show (c.toBitVec.toNat % 256) <<< 0 % 2 ^ 32 ||| (c.toBitVec.toNat / 256) <<< 8 % 2 ^ 32 = _
    rw [Nat.shiftLeft_zero, Nat.mod_eq_of_lt (show c.toBitVec.toNat % 256 < 2 ^ 32 by omega), Nat.mod_eq_of_lt (show (c.toBitVec.toNat / 256) <<< 8 < 2 ^ 32 by rw [Nat.shiftLeft_eq]; omega), Nat.or_comm, ← Nat.shiftLeft_add_eq_or_of_lt (by omega), Nat.shiftLeft_eq]
    omega
  show BitVec.toNat (((((lo8 c &&& 255) <<< (0 : Int32)) ||| ((hi8 c &&& 255) <<< (8 : Int32))).toBitVec.setWidth 16).setWidth 32) = _
  rw [BitVec.toNat_setWidth, BitVec.toNat_setWidth, g]
  omega
end StrChars
namespace StrChars
open Jvm Sem ClassFile Op Lib Jvm.Stand Jvm.Free.XT Jvm.Free.ALB Jvm.Free.JM Jvm.Free
open Jvm.Lib.Cold (StaticIs)
/-- the array's cell V codes the n chars f 0 .. f (n - 1) by the coder cd, as the JDK does: coder 1 just where some char is above 255 -/
def Cod (cd : Int32) (n : Nat) (f : Nat → Int32) (V : Cell) : Prop := (cd = 0 ∧ V.slots.size = n ∧ ∀ j, j < n → V.slots[j]? = some (.int (lo8 (f j))) ∧ ¬ 255 < f j) ∨ (cd = 1 ∧ V.slots.size = 2 * n ∧ (∀ j, j < n → V.slots[2 * j]? = some (.int (lo8 (f j))) ∧ V.slots[2 * j + 1]? = some (.int (hi8 (f j)))) ∧ ∃ j, j < n ∧ 255 < f j)
/-- **x is a String of the n chars f 0 .. f (n - 1)**, Latin-1 or UTF-16; its array at t has the cell V -/
def Txt (x t : Addr) (V : Cell) (cd : Int32) (n : Nat) (f : Nat → Int32) (U : State) : Prop := Exact "java/lang/String" x U ∧ Has x "java/lang/String" "value" "[B" (.ref t) U ∧ Has x "java/lang/String" "coder" "B" (.int cd) U ∧ XT.Arr .byte t V U ∧ Cod cd n f V ∧ ∀ j, j < n → ¬ f j < 0 ∧ ¬ 65535 < f j
theorem Txt.mv {x t : Addr} {V : Cell} {cd : Int32} {n : Nat} {f : Nat → Int32} {U U' : State} (h : Txt x t V cd n f U) (hal : U.vm.Alike U'.vm) (hh : U'.heap = U.heap) : Txt x t V cd n f U' := ⟨h.1.mv hal hh, h.2.1.mv hal hh, h.2.2.1.mv hal hh, h.2.2.2.1.mv hal hh, h.2.2.2.2⟩
end StrChars
namespace StrChars.Road
open Jvm Sem ClassFile Op Lib Jvm.Stand Jvm.Free Jvm.Free.XT
open Jvm.Lib.Cold (StaticIs)
theorem consq {a : Array Value} {s : State} {c : Jvm.Cond} {L : List Jvm.Cond} (h0 : c.before a s = true) (h : ∀ w ∈ L, w.before a s = true) : ∀ w ∈ c :: L, w.before a s = true := fun w hw => (List.mem_cons.mp hw).elim (fun e => e ▸ h0) (h w)
/-- the bytes of the chars cs, low before high -/
def wideBytes : List Int32 → List Value
  | [] => []
  | c :: cs => .int (lo8 c) :: .int (hi8 c) :: wideBytes cs
theorem wide_lo (d : Value) : ∀ (cs : List Int32) (j : Nat), j < cs.length → (wideBytes cs).getD (2 * j) d = .int (lo8 (cs.getD j 0))
  | [], j, h => absurd h (Nat.not_lt_zero j)
  | c :: cs, 0, _ => rfl
  | c :: cs, j + 1, h => by
    have q := wide_lo d cs j (by simpa using h)
    rw [show 2 * (j + 1) = 2 * j + 1 + 1 from by omega]
    simpa [wideBytes] using q
theorem wide_hi (d : Value) : ∀ (cs : List Int32) (j : Nat), j < cs.length → (wideBytes cs).getD (2 * j + 1) d = .int (hi8 (cs.getD j 0))
  | [], j, h => absurd h (Nat.not_lt_zero j)
  | c :: cs, 0, _ => rfl
  | c :: cs, j + 1, h => by
    have q := wide_hi d cs j (by simpa using h)
    rw [show 2 * (j + 1) + 1 = 2 * j + 1 + 1 + 1 from by omega]
    simpa [wideBytes] using q
theorem low_at (d : Value) (cs : List Int32) (j : Nat) (h : j < cs.length) : (cs.map fun c => Value.int (lo8 c)).getD j d = .int (lo8 (cs.getD j 0)) := by
  simp [List.getD_eq_getElem?_getD, h]
/-- an array of N2 bytes vs codes the chars cs by the coder cd -/
def CodA (cs : List Int32) (cd N2 : Int32) (vs : List Value) : Prop := (cd = 0 ∧ N2 = Int32.ofNat cs.length ∧ vs = (cs.map fun c => Value.int (lo8 c)) ∧ ∀ c ∈ cs, ¬ 255 < c) ∨ (cd = 1 ∧ N2 = Int32.ofNat (2 * cs.length) ∧ vs = wideBytes cs ∧ ∃ c ∈ cs, 255 < c)
theorem CodA.cod {cs : List Int32} {cd N2 : Int32} {vs : List Value} {V : Cell} (h : CodA cs cd N2 vs) (hn : 2 * cs.length < 2 ^ 31) (hs : V.slots.size = N2.toNatClampNeg) (hv : RoadKit.Has V vs (.int 0)) : Cod cd cs.length (fun j => cs.getD j 0) V := by
  rcases h with ⟨rfl, rfl, rfl, h⟩ | ⟨rfl, rfl, rfl, c, hc, hw⟩
  · rw [n32 (by omega)] at hs
    exact Or.inl ⟨rfl, hs, fun j hj => ⟨by rw [hv j (by omega), low_at _ _ _ hj], by
      have e : cs.getD j 0 = cs[j] := by simp [List.getD_eq_getElem?_getD, hj]
      show ¬ 255 < cs.getD j 0
      rw [e]; exact h _ (List.getElem_mem _)⟩⟩
  · rw [n32 (by omega)] at hs
    obtain ⟨j, hj, rfl⟩ := List.getElem_of_mem hc
    exact Or.inr ⟨rfl, hs, fun j hj => ⟨by rw [hv _ (by omega), wide_lo _ _ _ hj], by rw [hv _ (by omega), wide_hi _ _ _ hj]⟩, j, hj, by
      have e : cs.getD j 0 = cs[j] := by simp [List.getD_eq_getElem?_getD, hj]
      show 255 < cs.getD j 0
      rw [e]; exact hw⟩
/-- an object of exactly java/lang/String, its two fields found: as the laws ask it -/
theorem strObj {Z U : State} {a0 : Array Value} {kI : Nat} (wi : (Jvm.Cond.instantiable ST kI).before a0 Z = true) (al : Z.vm.Alike U.vm) {x : Addr} {v0 c0 : Value} (E : RoadKit.Exa Z U.heap x ST) (V : RoadKit.Fld Z U.heap x ST "value" "[B" v0) (C : RoadKit.Fld Z U.heap x ST "coder" "B" c0) :
    ∃ (D : Cell) (fV fC : Field), Blank ST x D U ∧ Found ST "value" "[B" fV U ∧ Found ST "coder" "B" fC U ∧ D.slots[fV.slot]? = some v0 ∧ D.slots[fC.slot]? = some c0 ∧ RoadKit.slotOf Z ST "value" "[B" = fV.slot ∧ RoadKit.slotOf Z ST "coder" "B" = fC.slot := by
  obtain ⟨D, cfV, kV, iV, fV, hD, gV, stV, knV, obV, asV, slV⟩ := V
  obtain ⟨D', cfC, kC, iC, fC, hD', gC, stC, -, -, asC, slC⟩ := C
  cases hD.symm.trans hD'
  obtain ⟨D2, kD, e1, e2, e3, e4, e5⟩ := E
  cases hD.symm.trans e1
  obtain ⟨c2, k2, i1, i2, i3, -⟩ := Cond.instantiable_spec wi
  cases e2.symm.trans i1
  cases e3.symm.trans i2
  obtain ⟨kU, u1, u2⟩ := al.2.2 _ _ e3
  exact ⟨D, fV, fC, ⟨hD, ⟨knV, fun q hq => by rw [hq] at obV; cases obV⟩, by rw [al.findClass]; exact e2, kU, u1, by rw [u2]; exact i3, by rw [u2]; exact e5 i3⟩, ⟨SBG.found_only al ⟨cfV, kV, iV, gV⟩, stV⟩, ⟨SBG.found_only al ⟨cfC, kC, iC, gC⟩, stC⟩, slV, slC, by simp [RoadKit.slotOf, gV], by simp [RoadKit.slotOf, gC]⟩
theorem sta_is {Z U : State} (al : Z.vm.Alike U.vm) {C n d : String} {v : Value} (S : RoadKit.Sta Z U.heap C n d v) : StaticIs U C n d v := by
  obtain ⟨cfS, iS, kS, fS, st, cS, t1, t2, t3, t4, t5, t6, t7⟩ := S
  exact StaticIs.there (s := { Z with heap := U.heap }) ⟨cfS, iS, kS, fS, st, cS, t1, t2, t3, t4, t5, (fun q => by rw [q] at t6; cases t6), t7⟩ al rfl
end StrChars.Road
namespace StrChars
open Jvm Sem ClassFile Op Lib Jvm.Stand Jvm.Free.XT Jvm.Free.ALB Jvm.Free.JM Jvm.Free
open Jvm.Lib.Cold (StaticIs)
/-- what place i of a byte[]'s cell holds -/
def yv (A : Cell) (i : Nat) : Int32 := match A.slots[i]? with | some (.int x) => x | _ => 0
theorem yv_get {a : Addr} {A : Cell} {U : State} (h : XT.Arr .byte a A U) (ht : Typed .byte A) {i : Nat} (hi : i < A.slots.size) : A.slots[i]? = some (.int (yv A i)) := by
  have e := Array.getElem?_eq_getElem hi
  have f := ht i _ e
  unfold yv; rw [e]
  generalize A.slots[i] = v at f
  cases v <;> simp [fits] at f ⊢
/-- the two arrays are equal, place for place -/
def EqC (A B : Cell) : Prop := A.slots.size = B.slots.size ∧ ∀ i, i < A.slots.size → yv A i = yv B i
/-- a boolean that says whether p -/
def Says01 (q : Prop) (r : Option Value) (s u : State) : Prop := ∃ v : Int32, r = some (.int v) ∧ u.heap = s.heap ∧ ((v = 1 ∧ q) ∨ (v = 0 ∧ ¬ q))
theorem Says01.mv {q : Prop} : ∀ r (U U' V V' : State), U'.heap = U.heap → V.vm.Alike V'.vm → V'.heap = V.heap → Says01 q r U V → Says01 q r U' V' :=
  fun r U U' V V' h1 _ h2 ⟨v, a, b, c⟩ => ⟨v, a, by rw [h1, h2]; exact b, c⟩
namespace LEq
def yN : MethodName := ⟨"java/lang/StringLatin1", "equals", "([B[B)Z"⟩
abbrev yB : ByteArray := jdk_43_method_13_code
theorem d0 : decode yB 0 = .ok (.aload_n 0, 1) := by decide +kernel
theorem d1 : decode yB 1 = .ok (.arraylength, 1) := by decide +kernel
theorem d2 : decode yB 2 = .ok (.aload_n 1, 1) := by decide +kernel
theorem d3 : decode yB 3 = .ok (.arraylength, 1) := by decide +kernel
theorem d4 : decode yB 4 = .ok (.if_icmp (.ne) 30, 3) := by decide +kernel
theorem d7 : decode yB 7 = .ok (.iconst 0, 1) := by decide +kernel
theorem d8 : decode yB 8 = .ok (.istore_n 2, 1) := by decide +kernel
theorem d9 : decode yB 9 = .ok (.iload_n 2, 1) := by decide +kernel
theorem d10 : decode yB 10 = .ok (.aload_n 0, 1) := by decide +kernel
theorem d11 : decode yB 11 = .ok (.arraylength, 1) := by decide +kernel
theorem d12 : decode yB 12 = .ok (.if_icmp (.ge) 20, 3) := by decide +kernel
theorem d15 : decode yB 15 = .ok (.aload_n 0, 1) := by decide +kernel
theorem d16 : decode yB 16 = .ok (.iload_n 2, 1) := by decide +kernel
theorem d17 : decode yB 17 = .ok (.baload, 1) := by decide +kernel
theorem d18 : decode yB 18 = .ok (.aload_n 1, 1) := by decide +kernel
theorem d19 : decode yB 19 = .ok (.iload_n 2, 1) := by decide +kernel
theorem d20 : decode yB 20 = .ok (.baload, 1) := by decide +kernel
theorem d21 : decode yB 21 = .ok (.if_icmp (.eq) 5, 3) := by decide +kernel
theorem d24 : decode yB 24 = .ok (.iconst 0, 1) := by decide +kernel
theorem d25 : decode yB 25 = .ok (.ireturn, 1) := by decide +kernel
theorem d26 : decode yB 26 = .ok (.iinc 2 1, 3) := by decide +kernel
theorem d29 : decode yB 29 = .ok (.goto (-20), 3) := by decide +kernel
theorem d32 : decode yB 32 = .ok (.iconst 1, 1) := by decide +kernel
theorem d33 : decode yB 33 = .ok (.ireturn, 1) := by decide +kernel
theorem d34 : decode yB 34 = .ok (.iconst 0, 1) := by decide +kernel
theorem d35 : decode yB 35 = .ok (.ireturn, 1) := by decide +kernel
def site : List Cond := []
def tab : Cond := tabOf yN yB 3 (some .boolean) site
def P (a : Addr) (A : Cell) (b : Addr) (B : Cell) (args : Array Value) (s : State) : Prop := args = #[.ref a, .ref b] ∧ XT.Arr .byte a A s ∧ Typed .byte A ∧ XT.Arr .byte b B s ∧ Typed .byte B
/-- whether two byte[] are equal, place for place -/
theorem law (l : Launch) (a : Addr) (A : Cell) (b : Addr) (B : Cell) : Law l yN 2 2 0 0 yB 3 (some .boolean) site (P a A b B) (Says01 (EqC A B)) [] 0 0 := by
  refine Law.of_walk (plainFor_of_name (by decide +kernel)) (by decide +kernel) (by decide +kernel) (by decide) (fun _ _ h => by rw [h.1]; rfl) (fun _ U U' hal hh h => ⟨h.1, h.2.1.mv hal hh, h.2.2.1, h.2.2.2.1.mv hal hh, h.2.2.2.2⟩) (fun r U U' V V' h1 hal h2 h => Says01.mv r U U' V V' h1 hal h2 h) ?_
  intro p e s m args below meth c s₁ X0 hexec hbytes hml hret hlk hnm hown hh0 W hP
  obtain ⟨rfl, hA, tA, hB, tB⟩ := hP
  have a31 := hA.2.2.2
  have b31 := hB.2.2.2
  have hA0 := hA.mv X0.warmed.alike hh0
  have hB0 := hB.mv X0.warmed.alike hh0
  have c1 : Steps p.tables e below (s₁.setTop (entryFrame m #[.ref a, .ref b] 3)) (s₁.setTop (mkF m 0 #[.val (.ref a), .val (.ref b), .unset] [])) := entry rfl
  have c2 : Steps p.tables e below (s₁.setTop (entryFrame m #[.ref a, .ref b] 3)) (s₁.setTop (mkF m 4 #[.val (.ref a), .val (.ref b), .unset] [.int (Int32.ofNat B.slots.size), .int (Int32.ofNat A.slots.size)])) := c1.trans (by
    refine XS.aloadN X0.here hexec rfl (hb hbytes d0) rfl rfl ?_
    refine X0.alen hexec hA0 rfl rfl (hb hbytes d1) ?_
    refine XS.aloadN X0.here hexec rfl (hb hbytes d2) rfl rfl ?_
    refine X0.alen hexec hB0 rfl rfl (hb hbytes d3) ?_
    exact Steps.refl _)
  by_cases hs : A.slots.size = B.slots.size
  · have c3 : Steps p.tables e below (s₁.setTop (entryFrame m #[.ref a, .ref b] 3)) (s₁.setTop (mkF m 9 #[.val (.ref a), .val (.ref b), .val (.int 0)] [])) := c2.trans (by
      refine XS.icmpNo X0.here hexec rfl (hb hbytes d4) rfl (ii_ne_f (by rw [hs])) ?_
      refine iconstV X0.here hexec rfl 0 (hb hbytes d7) (by decide) ?_
      refine XS.istoreN X0.here hexec rfl (hb hbytes d8) rfl rfl ?_
      exact Steps.refl _)
    have loop : ∀ (r i : Nat), i + r = A.slots.size → (∀ j, j < i → yv A j = yv B j) → Steps p.tables e below (s₁.setTop (entryFrame m #[.ref a, .ref b] 3)) (s₁.setTop (mkF m 9 #[.val (.ref a), .val (.ref b), .val (.int (Int32.ofNat i))] [])) → ∃ (pc : Nat) (Ls : Array Slot) (v : Int32), (pc = 25 ∨ pc = 33) ∧ ((v = 1 ∧ EqC A B) ∨ (v = 0 ∧ ¬ EqC A B)) ∧ Steps p.tables e below (s₁.setTop (entryFrame m #[.ref a, .ref b] 3)) (s₁.setTop (mkF m pc Ls [.int v])) := by
      intro r
      induction r with
      | zero =>
        intro i hi he cl
        exact ⟨33, _, 1, Or.inr rfl, Or.inl ⟨rfl, hs, fun j hj => he j (by omega)⟩, cl.trans (by
          refine XS.iloadN X0.here hexec rfl (hb hbytes d9) rfl ?_
          refine XS.aloadN X0.here hexec rfl (hb hbytes d10) rfl rfl ?_
          refine X0.alen hexec hA0 rfl rfl (hb hbytes d11) ?_
          refine XS.icmpYes X0.here hexec rfl (pc0 := 12) rfl (hb hbytes d12) rfl (ii_ge_t (nlt32 (by omega) (by omega))) (by decide) rfl ?_
          refine iconstV X0.here hexec rfl 1 (hb hbytes d32) (by decide) ?_
          exact Steps.refl _)⟩
      | succ r ih =>
        intro i hi he cl
        have c4 : Steps p.tables e below (s₁.setTop (entryFrame m #[.ref a, .ref b] 3)) (s₁.setTop (mkF m 21 #[.val (.ref a), .val (.ref b), .val (.int (Int32.ofNat i))] [.int (yv B i), .int (yv A i)])) := cl.trans (by
          refine XS.iloadN X0.here hexec rfl (hb hbytes d9) rfl ?_
          refine XS.aloadN X0.here hexec rfl (hb hbytes d10) rfl rfl ?_
          refine X0.alen hexec hA0 rfl rfl (hb hbytes d11) ?_
          refine XS.icmpNo X0.here hexec rfl (hb hbytes d12) rfl (ii_ge_f (lt32 (by omega) (by omega))) ?_
          refine XS.aloadN X0.here hexec rfl (hb hbytes d15) rfl rfl ?_
          refine XS.iloadN X0.here hexec rfl (hb hbytes d16) rfl ?_
          refine X0.aget hexec hA0 rfl (yv_get hA tA (i := i) (by omega)) rfl rfl (hb hbytes d17) ?_
          refine XS.aloadN X0.here hexec rfl (hb hbytes d18) rfl rfl ?_
          refine XS.iloadN X0.here hexec rfl (hb hbytes d19) rfl ?_
          refine X0.aget hexec hB0 rfl (yv_get hB tB (i := i) (by omega)) rfl rfl (hb hbytes d20) ?_
          exact Steps.refl _)
        by_cases hv : yv A i = yv B i
        · have c5 : Steps p.tables e below (s₁.setTop (entryFrame m #[.ref a, .ref b] 3)) (s₁.setTop (mkF m 9 #[.val (.ref a), .val (.ref b), .val (.int (Int32.ofNat i + 1))] [])) := c4.trans (by
            refine XS.icmpYes X0.here hexec rfl (pc0 := 21) rfl (hb hbytes d21) rfl (ii_eq_t hv) (by decide) rfl ?_
            refine iincV X0.here hexec rfl 1 (hb hbytes d26) (by decide) rfl rfl ?_
            refine XS.goto X0.here hexec rfl (pc0 := 29) rfl (hb hbytes d29) (by decide) rfl ?_
            exact Steps.refl _)
          rw [succ32] at c5
          exact ih (i + 1) (by omega) (fun j hj => by
            by_cases e : j = i
            · rw [e]; exact hv
            · exact he j (by omega)) c5
        · exact ⟨25, _, 0, Or.inl rfl, Or.inr ⟨rfl, fun q => hv (q.2 i (by omega))⟩, c4.trans (by
            refine XS.icmpNo X0.here hexec rfl (hb hbytes d21) rfl (ii_eq_f hv) ?_
            refine iconstV X0.here hexec rfl 0 (hb hbytes d24) (by decide) ?_
            exact Steps.refl _)⟩
    obtain ⟨pc, Ls, v, hpc, hv, cz⟩ := loop A.slots.size 0 (by omega) (fun j hj => absurd hj (Nat.not_lt_zero j)) c3
    have nv : narrow .boolean (.int v) = .int v := by rcases hv with ⟨rfl, -⟩ | ⟨rfl, -⟩ <;> rfl
    rcases hpc with rfl | rfl
    · exact ⟨s₁, some (.int v), _, _, _, X0, rfl, rfl, rfl, (fun h => by cases h), ⟨v, rfl, hh0, hv⟩, fun fs hl => cz.trans (X0.ireturnOut hexec hret nv (Or.inr (Or.inl rfl)) (hb hbytes d25) hl)⟩
    · exact ⟨s₁, some (.int v), _, _, _, X0, rfl, rfl, rfl, (fun h => by cases h), ⟨v, rfl, hh0, hv⟩, fun fs hl => cz.trans (X0.ireturnOut hexec hret nv (Or.inr (Or.inl rfl)) (hb hbytes d33) hl)⟩
  · have c3 : Steps p.tables e below (s₁.setTop (entryFrame m #[.ref a, .ref b] 3)) (s₁.setTop (mkF m 35 #[.val (.ref a), .val (.ref b), .unset] [.int 0])) := c2.trans (by
      refine XS.icmpYes X0.here hexec rfl (pc0 := 4) rfl (hb hbytes d4) rfl (ii_ne_t (ne32 a31 b31 hs)) (by decide) rfl ?_
      refine iconstV X0.here hexec rfl 0 (hb hbytes d34) (by decide) ?_
      exact Steps.refl _)
    exact ⟨s₁, some (.int 0), _, _, _, X0, rfl, rfl, rfl, (fun h => by cases h), ⟨0, rfl, hh0, Or.inr ⟨rfl, fun q => hs q.1⟩⟩, fun fs hl => c3.trans (X0.ireturnOut hexec hret rfl (Or.inr (Or.inl rfl)) (hb hbytes d35) hl)⟩
end LEq
theorem Cod.ty {cd : Int32} {n : Nat} {f : Nat → Int32} {V : Cell} (h : Cod cd n f V) : Typed .byte V := fun i v hv => by
  have hi : i < V.slots.size := (Array.getElem?_eq_some_iff.mp hv).1
  rcases h with ⟨-, k1, k2⟩ | ⟨-, k1, k2, -⟩
  · rw [(k2 i (by omega)).1] at hv; cases hv; exact fits_lo8 _
  · rcases Nat.mod_two_eq_zero_or_one i with e | e
    · obtain ⟨j, rfl⟩ : ∃ j, i = 2 * j := ⟨i / 2, by omega⟩
      rw [(k2 j (by omega)).1] at hv; cases hv; exact fits_lo8 _
    · obtain ⟨j, rfl⟩ : ∃ j, i = 2 * j + 1 := ⟨i / 2, by omega⟩
      rw [(k2 j (by omega)).2] at hv; cases hv; exact fits_lo8 _
/-- the same text -/
def SameT (n : Nat) (f : Nat → Int32) (k : Nat) (g : Nat → Int32) : Prop := n = k ∧ ∀ j, j < n → f j = g j
theorem lo8_inj {x y : Int32} (h0 : ¬ x < 0) (h1 : ¬ 255 < x) (k0 : ¬ y < 0) (k1 : ¬ 255 < y) (h : lo8 x = lo8 y) : x = y := by
  rw [← lo8_mask h0 h1, ← lo8_mask k0 k1, h]
/-- arrays coded by one coder are equal just where the texts are -/
theorem Cod.eqv {cd : Int32} {n k : Nat} {f g : Nat → Int32} {V V' : Cell} (h : Cod cd n f V) (h' : Cod cd k g V') (hf : ∀ j, j < n → ¬ f j < 0 ∧ ¬ 65535 < f j) (hg : ∀ j, j < k → ¬ g j < 0 ∧ ¬ 65535 < g j) : EqC V V' ↔ SameT n f k g := by
  have yvv : ∀ {W : Cell} {i : Nat} {x : Int32}, W.slots[i]? = some (.int x) → yv W i = x := fun q => by unfold yv; rw [q]
  rcases h with ⟨rfl, k1, k2⟩ | ⟨rfl, k1, k2, -⟩
  · rcases h' with ⟨-, m1, m2⟩ | ⟨e, -⟩
    · constructor
      · rintro ⟨e1, e2⟩
        refine ⟨by omega, fun j hj => ?_⟩
        have q := e2 j (by omega)
        rw [yvv (k2 j hj).1, yvv (m2 j (by omega)).1] at q
        exact lo8_inj (hf j hj).1 (k2 j hj).2 (hg j (by omega)).1 (m2 j (by omega)).2 q
      · rintro ⟨rfl, e2⟩
        refine ⟨by omega, fun j hj => ?_⟩
        rw [yvv (k2 j (by omega)).1, yvv (m2 j (by omega)).1, e2 j (by omega)]
    · exact absurd e (by decide)
  · rcases h' with ⟨e, -⟩ | ⟨-, m1, m2, -⟩
    · exact absurd e (by decide)
    · constructor
      · rintro ⟨e1, e2⟩
        refine ⟨by omega, fun j hj => ?_⟩
        have q1 := e2 (2 * j) (by omega)
        have q2 := e2 (2 * j + 1) (by omega)
        rw [yvv (k2 j hj).1, yvv (m2 j (by omega)).1] at q1
        rw [yvv (k2 j hj).2, yvv (m2 j (by omega)).2] at q2
        rw [← pair_says (hf j hj).1 (hf j hj).2, ← pair_says (hg j (by omega)).1 (hg j (by omega)).2, q1, q2]
      · rintro ⟨rfl, e2⟩
        refine ⟨by omega, fun i hi => ?_⟩
        rcases Nat.mod_two_eq_zero_or_one i with e | e
        · obtain ⟨j, rfl⟩ : ∃ j, i = 2 * j := ⟨i / 2, by omega⟩
          rw [yvv (k2 j (by omega)).1, yvv (m2 j (by omega)).1, e2 j (by omega)]
        · obtain ⟨j, rfl⟩ : ∃ j, i = 2 * j + 1 := ⟨i / 2, by omega⟩
          rw [yvv (k2 j (by omega)).2, yvv (m2 j (by omega)).2, e2 j (by omega)]
/-- two codings differ: so do the texts -/
theorem Cod.dif {cd cd' : Int32} {n k : Nat} {f g : Nat → Int32} {V V' : Cell} (h : Cod cd n f V) (h' : Cod cd' k g V') (hne : ¬ cd = cd') : ¬ SameT n f k g := by
  rintro ⟨rfl, e⟩
  rcases h with ⟨rfl, -, k2⟩ | ⟨rfl, -, -, j, hj, hw⟩
  · rcases h' with ⟨rfl, -⟩ | ⟨-, -, -, j, hj, hw⟩
    · exact hne rfl
    · exact (k2 j hj).2 (by rw [e j hj]; exact hw)
  · rcases h' with ⟨-, -, m2⟩ | ⟨rfl, -⟩
    · exact (m2 j hj).2 (by rw [← e j hj]; exact hw)
    · exact hne rfl
/-- an object of exactly C is an instance of C -/
theorem cinst {p : Program} {l : Launch} {e : Env} {R : Room} {s : State} {m : MethodId} {args : Array Value} {below : List Frame} {meth : Method} {c : Code} {T : State} {locs : List Loc} {cells slots : Nat} (X : Stand p l e R s m args below meth c T locs cells slots) (hexec : p.tables.exec = Jvm.exec) {own C : String} {index : Nat} (hown : s.vm.findClass own = some m.cls) (hlink : (Cond.classLink own index C).before args s = true) {a : Addr} (hE : Exact C a T)
    {g : JFrame} (hg : g.method = m) {rest : List Value} (hstack : g.stack = .ref a :: rest) (hdg : decode c.code g.pc = .ok (.instanceof index, 3)) :
    ∃ T', Stand p l e R s m args below meth c T' locs cells slots ∧ T'.heap = T.heap ∧ ∀ target, Steps p.tables e below (T'.setTop { g with pc := g.pc + 3, stack := .int 1 :: rest }) target → Steps p.tables e below (T.setTop g) target := by
  obtain ⟨cB, h1, D, h2, h3, h4⟩ := hE
  have h1' : s.vm.findClass C = some cB := by rw [← X.warmed.alike.findClass]; exact h1
  obtain ⟨vm', X', st⟩ := X.instanceofYes hexec hown hlink h2 h4 h1' (by rw [h3]; exact Jvm.Free.SB.assignable_self _ _) hg hstack hdg
  exact ⟨_, X', rfl, st⟩
theorem cself {p : Program} {l : Launch} {e : Env} {R : Room} {s : State} {m : MethodId} {args : Array Value} {below : List Frame} {meth : Method} {c : Code} {T : State} {locs : List Loc} {cells slots : Nat} (X : Stand p l e R s m args below meth c T locs cells slots) (hexec : p.tables.exec = Jvm.exec) {own C : String} {index : Nat} (hown : s.vm.findClass own = some m.cls) (hlink : (Cond.classLink own index C).before args s = true) {a : Addr} (hE : Exact C a T)
    {g : JFrame} (hg : g.method = m) {rest : List Value} (hstack : g.stack = .ref a :: rest) (hdg : decode c.code g.pc = .ok (.checkcast index, 3)) :
    ∃ T', Stand p l e R s m args below meth c T' locs cells slots ∧ T'.heap = T.heap ∧ ∀ target, Steps p.tables e below (T'.setTop { g with pc := g.pc + 3, stack := .ref a :: rest }) target → Steps p.tables e below (T.setTop g) target := by
  obtain ⟨cB, h1, D, h2, h3, h4⟩ := hE
  have h1' : s.vm.findClass C = some cB := by rw [← X.warmed.alike.findClass]; exact h1
  obtain ⟨vm', X', st⟩ := X.checkcastYes hexec hown hlink h2 h4 h1' (by rw [h3]; exact Jvm.Free.SB.assignable_self _ _) hg hstack hdg
  exact ⟨_, X', rfl, fun t h => st t (by rw [← hstack] at h; exact h)⟩
namespace SEq
def yN : MethodName := ⟨"java/lang/String", "equals", "(Ljava/lang/Object;)Z"⟩
abbrev yB : ByteArray := jdk_42_method_66_code
theorem d0 : decode yB 0 = .ok (.aload_n 0, 1) := by decide +kernel
theorem d1 : decode yB 1 = .ok (.aload_n 1, 1) := by decide +kernel
theorem d2 : decode yB 2 = .ok (.if_acmp (.ne) 5, 3) := by decide +kernel
theorem d5 : decode yB 5 = .ok (.iconst 1, 1) := by decide +kernel
theorem d6 : decode yB 6 = .ok (.ireturn, 1) := by decide +kernel
theorem d7 : decode yB 7 = .ok (.aload_n 1, 1) := by decide +kernel
theorem d8 : decode yB 8 = .ok (.instanceof 10, 3) := by decide +kernel
theorem d11 : decode yB 11 = .ok (.ifCond (.eq) 43, 3) := by decide +kernel
theorem d14 : decode yB 14 = .ok (.aload_n 1, 1) := by decide +kernel
theorem d15 : decode yB 15 = .ok (.checkcast 10, 3) := by decide +kernel
theorem d18 : decode yB 18 = .ok (.astore_n 2, 1) := by decide +kernel
theorem d19 : decode yB 19 = .ok (.getstatic 38, 3) := by decide +kernel
theorem d22 : decode yB 22 = .ok (.ifCond (.eq) 14, 3) := by decide +kernel
theorem d25 : decode yB 25 = .ok (.aload_n 0, 1) := by decide +kernel
theorem d26 : decode yB 26 = .ok (.getfield 15, 3) := by decide +kernel
theorem d29 : decode yB 29 = .ok (.aload_n 2, 1) := by decide +kernel
theorem d30 : decode yB 30 = .ok (.getfield 15, 3) := by decide +kernel
theorem d33 : decode yB 33 = .ok (.if_icmp (.ne) 21, 3) := by decide +kernel
theorem d36 : decode yB 36 = .ok (.aload_n 0, 1) := by decide +kernel
theorem d37 : decode yB 37 = .ok (.getfield 9, 3) := by decide +kernel
theorem d40 : decode yB 40 = .ok (.aload_n 2, 1) := by decide +kernel
theorem d41 : decode yB 41 = .ok (.getfield 9, 3) := by decide +kernel
theorem d44 : decode yB 44 = .ok (.invokestatic 541, 3) := by decide +kernel
theorem d47 : decode yB 47 = .ok (.ifCond (.eq) 7, 3) := by decide +kernel
theorem d50 : decode yB 50 = .ok (.iconst 1, 1) := by decide +kernel
theorem d51 : decode yB 51 = .ok (.goto 4, 3) := by decide +kernel
theorem d54 : decode yB 54 = .ok (.iconst 0, 1) := by decide +kernel
theorem d55 : decode yB 55 = .ok (.ireturn, 1) := by decide +kernel
def site : List Cond := [.classLink "java/lang/String" 10 "java/lang/String", .fieldLink "java/lang/String" 38 "java/lang/String" "COMPACT_STRINGS" "Z", .fieldLink "java/lang/String" 15 "java/lang/String" "coder" "B", .fieldLink "java/lang/String" 9 "java/lang/String" "value" "[B", LEq.tab] ++ staticW "java/lang/String" 541 LEq.yN
def tab : Cond := tabOf yN yB 3 (some .boolean) site
def P (x t : Addr) (V : Cell) (cd : Int32) (n : Nat) (f : Nat → Int32) (y t' : Addr) (V' : Cell) (cd' : Int32) (k : Nat) (g : Nat → Int32) (z : Int32) (args : Array Value) (s : State) : Prop := args = #[.ref x, .ref y] ∧ Txt x t V cd n f s ∧ Txt y t' V' cd' k g s ∧ StaticIs s "java/lang/String" "COMPACT_STRINGS" "Z" (.int z) ∧ ¬ z = 0
/-- equals(Object) of two Strings: whether the texts are the same -/
theorem law (l : Launch) (x t : Addr) (V : Cell) (cd : Int32) (n : Nat) (f : Nat → Int32) (y t' : Addr) (V' : Cell) (cd' : Int32) (k : Nat) (g : Nat → Int32) (z : Int32) : Law l yN 2 1 1 14 yB 3 (some .boolean) site (P x t V cd n f y t' V' cd' k g z) (Says01 (SameT n f k g)) [] 0 0 := by
  refine Law.of_walk (plainFor_of_name (by decide +kernel)) (by decide +kernel) (by decide +kernel) (by decide) (fun _ _ h => by rw [h.1]; rfl) (fun _ U U' hal hh h => ⟨h.1, h.2.1.mv hal hh, h.2.2.1.mv hal hh, h.2.2.2.1.there hal hh, h.2.2.2.2⟩) (fun r U U' V V' h1 hal h2 h => Says01.mv r U U' V V' h1 hal h2 h) ?_
  intro p e s m args below meth c s₁ X0 hexec hbytes hml hret hlk hnm hown hh0 W hP
  obtain ⟨rfl, hx, hy, s1, hz⟩ := hP
  have c1 : Steps p.tables e below (s₁.setTop (entryFrame m #[.ref x, .ref y] 3)) (s₁.setTop (mkF m 2 #[.val (.ref x), .val (.ref y), .unset] [.ref y, .ref x])) := Steps.trans (entry rfl) (by
    show Steps p.tables e below (s₁.setTop (mkF m 0 #[.val (.ref x), .val (.ref y), .unset] [])) _
    refine XS.aloadN X0.here hexec rfl (hb hbytes d0) rfl rfl ?_
    refine XS.aloadN X0.here hexec rfl (hb hbytes d1) rfl rfl ?_
    exact Steps.refl _)
  by_cases hxy : x = y
  · have c2 : Steps p.tables e below (s₁.setTop (entryFrame m #[.ref x, .ref y] 3)) (s₁.setTop (mkF m 6 #[.val (.ref x), .val (.ref y), .unset] [.int 1])) := c1.trans (by
      refine acmpNo X0.here hexec rfl (hb hbytes d2) rfl rfl rfl (by simp [acmp, hxy]) ?_
      refine iconstV X0.here hexec rfl 1 (hb hbytes d5) (by decide) ?_
      exact Steps.refl _)
    subst hxy
    have ec : cd = cd' := by
      obtain ⟨D, fd, a1, a2, a3⟩ := hx.2.2.1
      obtain ⟨D', fd', b1, b2, b3⟩ := hy.2.2.1
      cases a1.symm.trans b1
      obtain ⟨q1, q2, q3, q4⟩ := a2.1
      obtain ⟨r1, r2, r3, r4⟩ := b2.1
      cases q4.symm.trans r4
      cases a3.symm.trans b3; rfl
    have et : t = t' := by
      obtain ⟨D, fd, a1, a2, a3⟩ := hx.2.1
      obtain ⟨D', fd', b1, b2, b3⟩ := hy.2.1
      cases a1.symm.trans b1
      obtain ⟨q1, q2, q3, q4⟩ := a2.1
      obtain ⟨r1, r2, r3, r4⟩ := b2.1
      cases q4.symm.trans r4
      cases a3.symm.trans b3; rfl
    subst ec et
    have ev : V = V' := by cases hx.2.2.2.1.1.symm.trans hy.2.2.2.1.1; rfl
    subst ev
    have hs : SameT n f k g := (Cod.eqv hx.2.2.2.2.1 hy.2.2.2.2.1 hx.2.2.2.2.2 hy.2.2.2.2.2).mp ⟨rfl, fun _ _ => rfl⟩
    exact ⟨s₁, some (.int 1), _, _, _, X0, rfl, rfl, rfl, (fun h => by cases h), ⟨1, rfl, hh0, Or.inl ⟨rfl, hs⟩⟩, fun fs hl => c2.trans (X0.ireturnOut hexec hret rfl (Or.inr (Or.inl rfl)) (hb hbytes d6) hl)⟩
  · have c2 : Steps p.tables e below (s₁.setTop (entryFrame m #[.ref x, .ref y] 3)) (s₁.setTop (mkF m 8 #[.val (.ref x), .val (.ref y), .unset] [.ref y])) := c1.trans (by
      refine acmpYes X0.here hexec rfl (pc0 := 2) rfl (hb hbytes d2) rfl rfl rfl (by simp [acmp, hxy]) (by decide) rfl ?_
      refine XS.aloadN X0.here hexec rfl (hb hbytes d7) rfl rfl ?_
      exact Steps.refl _)
    obtain ⟨T3, X3, q3, st3⟩ := cinst X0 hexec hown (wk W (.classLink "java/lang/String" 10 "java/lang/String")) (hy.mv X0.warmed.alike hh0).1 (g := (mkF m 8 #[.val (.ref x), .val (.ref y), .unset] [.ref y])) rfl (rest := []) rfl (hb hbytes d8)
    have hh3 := q3.trans hh0
    have c4 : Steps p.tables e below (s₁.setTop (entryFrame m #[.ref x, .ref y] 3)) (T3.setTop (mkF m 15 #[.val (.ref x), .val (.ref y), .unset] [.ref y])) := (c2.trans (st3 _ (Steps.refl _))).trans (by
      refine XS.ifNo X3.here hexec rfl (hb hbytes d11) rfl (i0_eq_f (by decide)) ?_
      refine XS.aloadN X3.here hexec rfl (hb hbytes d14) rfl rfl ?_
      exact Steps.refl _)
    obtain ⟨T5, X5, q5, st5⟩ := cself X3 hexec hown (wk W (.classLink "java/lang/String" 10 "java/lang/String")) (hy.mv X3.warmed.alike hh3).1 (g := (mkF m 15 #[.val (.ref x), .val (.ref y), .unset] [.ref y])) rfl (rest := []) rfl (hb hbytes d15)
    have hh5 := q5.trans hh3
    have c6 : Steps p.tables e below (s₁.setTop (entryFrame m #[.ref x, .ref y] 3)) (T5.setTop (mkF m 19 #[.val (.ref x), .val (.ref y), .val (.ref y)] [])) := (c4.trans (st5 _ (Steps.refl _))).trans (by
      refine XS.astoreN X5.here hexec rfl (hb hbytes d18) rfl rfl rfl ?_
      exact Steps.refl _)
    obtain ⟨T7, X7, q7, st7⟩ := X5.sget hexec hown (wk W (.fieldLink "java/lang/String" 38 "java/lang/String" "COMPACT_STRINGS" "Z")) s1 (fun _ _ h => by rw [hh5]; exact h) (g := (mkF m 19 #[.val (.ref x), .val (.ref y), .val (.ref y)] [])) rfl (hb hbytes d19)
    have hh7 := q7.trans hh5
    have c8 : Steps p.tables e below (s₁.setTop (entryFrame m #[.ref x, .ref y] 3)) (T7.setTop (mkF m 26 #[.val (.ref x), .val (.ref y), .val (.ref y)] [.ref x])) := (c6.trans (st7 _ (Steps.refl _))).trans (by
      refine XS.ifNo X7.here hexec rfl (hb hbytes d22) rfl (i0_eq_f hz) ?_
      refine XS.aloadN X7.here hexec rfl (hb hbytes d25) rfl rfl ?_
      exact Steps.refl _)
    obtain ⟨T9, X9, q9, st9⟩ := X7.hget hexec hown (wk W (.fieldLink "java/lang/String" 15 "java/lang/String" "coder" "B")) (hx.mv X7.warmed.alike hh7).2.2.1 (g := (mkF m 26 #[.val (.ref x), .val (.ref y), .val (.ref y)] [.ref x])) rfl (rest := []) rfl (hb hbytes d26)
    have hh9 := q9.trans hh7
    have c10 : Steps p.tables e below (s₁.setTop (entryFrame m #[.ref x, .ref y] 3)) (T9.setTop (mkF m 30 #[.val (.ref x), .val (.ref y), .val (.ref y)] [.ref y, .int cd])) := (c8.trans (st9 _ (Steps.refl _))).trans (by
      refine XS.aloadN X9.here hexec rfl (hb hbytes d29) rfl rfl ?_
      exact Steps.refl _)
    obtain ⟨T11, X11, q11, st11⟩ := X9.hget hexec hown (wk W (.fieldLink "java/lang/String" 15 "java/lang/String" "coder" "B")) (hy.mv X9.warmed.alike hh9).2.2.1 (g := (mkF m 30 #[.val (.ref x), .val (.ref y), .val (.ref y)] [.ref y, .int cd])) rfl (rest := [.int cd]) rfl (hb hbytes d30)
    have hh11 := q11.trans hh9
    have c12 : Steps p.tables e below (s₁.setTop (entryFrame m #[.ref x, .ref y] 3)) (T11.setTop (mkF m 33 #[.val (.ref x), .val (.ref y), .val (.ref y)] [.int cd', .int cd])) := c10.trans (st11 _ (Steps.refl _))
    by_cases hcd : cd = cd'
    · subst hcd
      have c13 : Steps p.tables e below (s₁.setTop (entryFrame m #[.ref x, .ref y] 3)) (T11.setTop (mkF m 37 #[.val (.ref x), .val (.ref y), .val (.ref y)] [.ref x])) := c12.trans (by
        refine XS.icmpNo X11.here hexec rfl (hb hbytes d33) rfl (ii_ne_f rfl) ?_
        refine XS.aloadN X11.here hexec rfl (hb hbytes d36) rfl rfl ?_
        exact Steps.refl _)
      obtain ⟨T14, X14, q14, st14⟩ := X11.hget hexec hown (wk W (.fieldLink "java/lang/String" 9 "java/lang/String" "value" "[B")) (hx.mv X11.warmed.alike hh11).2.1 (g := (mkF m 37 #[.val (.ref x), .val (.ref y), .val (.ref y)] [.ref x])) rfl (rest := []) rfl (hb hbytes d37)
      have hh14 := q14.trans hh11
      have c15 : Steps p.tables e below (s₁.setTop (entryFrame m #[.ref x, .ref y] 3)) (T14.setTop (mkF m 41 #[.val (.ref x), .val (.ref y), .val (.ref y)] [.ref y, .ref t])) := (c13.trans (st14 _ (Steps.refl _))).trans (by
        refine XS.aloadN X14.here hexec rfl (hb hbytes d40) rfl rfl ?_
        exact Steps.refl _)
      obtain ⟨T16, X16, q16, st16⟩ := X14.hget hexec hown (wk W (.fieldLink "java/lang/String" 9 "java/lang/String" "value" "[B")) (hy.mv X14.warmed.alike hh14).2.1 (g := (mkF m 41 #[.val (.ref x), .val (.ref y), .val (.ref y)] [.ref y, .ref t])) rfl (rest := [.ref t]) rfl (hb hbytes d41)
      have hh16 := q16.trans hh14
      have c17 : Steps p.tables e below (s₁.setTop (entryFrame m #[.ref x, .ref y] 3)) (T16.setTop (mkF m 44 #[.val (.ref x), .val (.ref y), .val (.ref y)] [.ref t', .ref t])) := c15.trans (st16 _ (Steps.refl _))
      obtain ⟨v18, T18, X18, E18, g18⟩ := X16.callS hexec (LEq.law l t V t' V') hown (wks W (staticW "java/lang/String" 541 LEq.yN)) (wk W LEq.tab) (W := 0) (Nat.le_of_ble_eq_true rfl) (Nat.le_of_ble_eq_true rfl) (Nat.le_refl _) (Nat.le_refl _) (g := (mkF m 44 #[.val (.ref x), .val (.ref y), .val (.ref y)] [.ref t', .ref t])) rfl (by rw [hml]; rfl) c17 (argsL := [.ref t, .ref t']) (rest := []) rfl rfl (by show 2 * 0 + 0 ≤ _; decide) (hb hbytes d44) (⟨rfl, hx.2.2.2.1.mv X16.warmed.alike hh16, hx.2.2.2.2.1.ty, hy.2.2.2.1.mv X16.warmed.alike hh16, hy.2.2.2.2.1.ty⟩)
      obtain ⟨v, rfl, q18, hv⟩ := E18
      have iff := Cod.eqv hx.2.2.2.2.1 hy.2.2.2.2.1 hx.2.2.2.2.2 hy.2.2.2.2.2
      rcases hv with ⟨rfl, he⟩ | ⟨rfl, he⟩
      · have c19 : Steps p.tables e below (s₁.setTop (entryFrame m #[.ref x, .ref y] 3)) (T18.setTop (mkF m 55 #[.val (.ref x), .val (.ref y), .val (.ref y)] [.int 1])) := Steps.trans g18 (by
          refine XS.ifNo X18.here hexec rfl (hb hbytes d47) rfl (i0_eq_f (by decide)) ?_
          refine iconstV X18.here hexec rfl 1 (hb hbytes d50) (by decide) ?_
          refine XS.goto X18.here hexec rfl (pc0 := 51) rfl (hb hbytes d51) (by decide) rfl ?_
          exact Steps.refl _)
        exact ⟨T18, some (.int 1), _, _, _, X18, rfl, rfl, rfl, (fun h => by cases h), ⟨1, rfl, q18.trans hh16, Or.inl ⟨rfl, iff.mp he⟩⟩, fun fs hl => c19.trans (X18.ireturnOut hexec hret rfl (Or.inr (Or.inl rfl)) (hb hbytes d55) hl)⟩
      · have c19 : Steps p.tables e below (s₁.setTop (entryFrame m #[.ref x, .ref y] 3)) (T18.setTop (mkF m 55 #[.val (.ref x), .val (.ref y), .val (.ref y)] [.int 0])) := Steps.trans g18 (by
          refine XS.ifYes X18.here hexec rfl (pc0 := 47) rfl (hb hbytes d47) rfl (i0_eq_t rfl) (by decide) rfl ?_
          refine iconstV X18.here hexec rfl 0 (hb hbytes d54) (by decide) ?_
          exact Steps.refl _)
        exact ⟨T18, some (.int 0), _, _, _, X18, rfl, rfl, rfl, (fun h => by cases h), ⟨0, rfl, q18.trans hh16, Or.inr ⟨rfl, fun q => he (iff.mpr q)⟩⟩, fun fs hl => c19.trans (X18.ireturnOut hexec hret rfl (Or.inr (Or.inl rfl)) (hb hbytes d55) hl)⟩
    · have c13 : Steps p.tables e below (s₁.setTop (entryFrame m #[.ref x, .ref y] 3)) (T11.setTop (mkF m 55 #[.val (.ref x), .val (.ref y), .val (.ref y)] [.int 0])) := c12.trans (by
        refine XS.icmpYes X11.here hexec rfl (pc0 := 33) rfl (hb hbytes d33) rfl (ii_ne_t hcd) (by decide) rfl ?_
        refine iconstV X11.here hexec rfl 0 (hb hbytes d54) (by decide) ?_
        exact Steps.refl _)
      exact ⟨T11, some (.int 0), _, _, _, X11, rfl, rfl, rfl, (fun h => by cases h), ⟨0, rfl, hh11, Or.inr ⟨rfl, Cod.dif hx.2.2.2.2.1 hy.2.2.2.2.1 hcd⟩⟩, fun fs hl => c13.trans (X11.ireturnOut hexec hret rfl (Or.inr (Or.inl rfl)) (hb hbytes d55) hl)⟩
theorem pays {l : Launch} {R : Room} {p : Program} {e : Env} {below : List Frame} {s : State} {sargs : Array Value} {len W : Nat} (x t : Addr) (V : Cell) (cd : Int32) (n : Nat) (f : Nat → Int32) (y t' : Addr) (V' : Cell) (cd' : Int32) (k : Nat) (g : Nat → Int32) (z : Int32) (htab : tab.before sargs s = true) (hfr : 2 ≤ R.frames) (hlo : W + 28 ≤ R.locals) :
    Back l R p e below s sargs yN len W (fun A₁ a₁ => A₁.cells + 0 ≤ R.cells ∧ A₁.slots + 0 ≤ R.slots ∧ P x t V cd n f y t' V' cd' k g z a₁ A₁.U) (fun A₁ _ v₁ B₁ => Says01 (SameT n f k g) v₁ A₁.U B₁.U ∧ B₁.locs = A₁.locs ++ [] ∧ B₁.cells = A₁.cells + 0 ∧ B₁.slots = A₁.slots + 0) :=
  (law l x t V cd n f y t' V' cd' k g z).pays htab hfr (by omega)
end SEq
end StrChars
namespace StrChars.Road
open Jvm Sem ClassFile Op Lib Jvm.Stand Jvm.Free Jvm.Free.XT
open Jvm.Lib.Cold (StaticIs)
/-- the words of String.equals(Object) -/
abbrev wordsEq : List Jvm.Cond := [.code SEq.yN SEq.yB 3 (some .boolean), .initialized ST, .classLink ST 10 ST, .fieldLink ST 38 ST "COMPACT_STRINGS" "Z", .fieldLink ST 15 ST "coder" "B", .fieldLink ST 9 ST "value" "[B", .methodLink ST 541 LEq.yN, .static LEq.yN, .code LEq.yN LEq.yB 3 (some .boolean), .initialized "java/lang/StringLatin1"]
theorem tabEq_of {a : Array Value} {s : State} (h : ∀ w ∈ wordsEq, w.before a s = true) : SEq.tab.before a s = true := by
  have hl : LEq.tab.before a s = true := unparts (wk h (.code LEq.yN LEq.yB 3 (some .boolean))) (wks h (.initialized LEq.yN.cls :: LEq.site))
  have q := consq hl h
  exact unparts (wk q (.code SEq.yN SEq.yB 3 (some .boolean))) (wks q (.initialized SEq.yN.cls :: SEq.site))
theorem movedEq {Z s : State} {a0 args : Array Value} (hZ : Z.Warmed39 s.vm) (hw : ∀ d ∈ wordsEq, d.before a0 Z = true) : ∀ d ∈ wordsEq, d.before args s = true := fun d hd => by
  have t : ∀ d ∈ wordsEq, (d.onTables && d.keepsFace) = true := by decide +kernel
  exact RoadKit.mv hZ (hw d hd) (t d hd)
/-- the road's facts of a String, as the laws ask it -/
theorem txt_of {Z U : State} {a0 : Array Value} {kI : Nat} (wi : (Jvm.Cond.instantiable ST kI).before a0 Z = true) (al : Z.vm.Alike U.vm) {x t : Addr} {kb : ClassId} {cs : List Int32} {cd N2 : Int32} {vs : List Value} (E : RoadKit.Exa Z U.heap x ST) (V : RoadKit.Fld Z U.heap x ST "value" "[B" (.ref t)) (C : RoadKit.Fld Z U.heap x ST "coder" "B" (.int cd)) (K : RoadKit.Arv Z U.heap t kb .byte N2 vs (.int 0)) (hc : CodA cs cd N2 vs) (hb : ∀ c ∈ cs, ¬ c < 0 ∧ ¬ (65535 : Int32) < c) (l2 : cs.length ≤ 4000) :
    ∃ A, Txt x t A cd cs.length (fun j => cs.getD j 0) U := by
  obtain ⟨A, K1, K2, K3, K4, K5, K6⟩ := K
  have hcod := hc.cod (by omega) K3 K5
  obtain ⟨D, fV, fC, hB, F1, F2, g1, g2, -, -⟩ := strObj wi al E V C
  exact ⟨A, ⟨_, hB.2.2.1, D, hB.1, rfl, by cases q : D.vm <;> first | rfl | exact absurd q (hB.2.1.2 _)⟩, Has.of hB F1 g1, Has.of hB F2 g2, ⟨K1.1, State.isArrayOf_alike al K1.2.1, K1.2.2, by rcases hcod with ⟨-, q, -⟩ | ⟨-, q, -⟩ <;> omega⟩, hcod, fun j hj => by
    have e : cs.getD j 0 = cs[j] := by simp [List.getD_eq_getElem?_getD, hj]
    show ¬ cs.getD j 0 < 0 ∧ ¬ 65535 < cs.getD j 0
    rw [e]; exact hb _ (List.getElem_mem _)⟩
theorem same_list (cs ds : List Int32) : SameT cs.length (fun j => cs.getD j 0) ds.length (fun j => ds.getD j 0) ↔ cs = ds := by
  constructor
  · rintro ⟨e, q⟩
    refine List.ext_getElem e fun j h1 h2 => ?_
    have := q j h1
    simpa [List.getD_eq_getElem?_getD, h1, h2] using this
  · rintro rfl
    exact ⟨rfl, fun _ _ => rfl⟩
/-- **equals(Object) OF TWO SUCH STRINGS**: 1 just where the chars are the same -/
theorem eqW {p : Program} {l : Launch} {e : Env} {R : Room} {s : State} {args : Array Value} {below : List Frame} {len W : Nat} {Z : State} {a0 : Array Value} {h : Heap} (hZ : Z.Warmed39 s.vm) (hw : ∀ d ∈ wordsEq, d.before a0 Z = true) {kI : Nat} (wi : (Jvm.Cond.instantiable ST kI).before a0 Z = true)
    {x t : Addr} {kb : ClassId} {cs : List Int32} {cd N2 : Int32} {vs : List Value} (E : RoadKit.Exa Z h x ST) (V : RoadKit.Fld Z h x ST "value" "[B" (.ref t)) (C : RoadKit.Fld Z h x ST "coder" "B" (.int cd)) (K : RoadKit.Arv Z h t kb .byte N2 vs (.int 0)) (hc : CodA cs cd N2 vs) (hb : ∀ c ∈ cs, ¬ c < 0 ∧ ¬ (65535 : Int32) < c) (l2 : cs.length ≤ 4000)
    {y t' : Addr} {kb' : ClassId} {ds : List Int32} {cd' N2' : Int32} {vs' : List Value} (E' : RoadKit.Exa Z h y ST) (V' : RoadKit.Fld Z h y ST "value" "[B" (.ref t')) (C' : RoadKit.Fld Z h y ST "coder" "B" (.int cd')) (K' : RoadKit.Arv Z h t' kb' .byte N2' vs' (.int 0)) (hc' : CodA ds cd' N2' vs') (hb' : ∀ c ∈ ds, ¬ c < 0 ∧ ¬ (65535 : Int32) < c) (l2' : ds.length ≤ 4000)
    {z : Int32} (S : RoadKit.Sta Z h ST "COMPACT_STRINGS" "Z" (.int z)) (hz : ¬ z = 0) (hfr : 2 ≤ R.frames) (hlo : W + 28 ≤ R.locals) :
    Back l R p e below s args (⟨"java/lang/String", "equals", "(Ljava/lang/Object;)Z"⟩ : MethodName) len W (fun P a => a = #[.ref x, .ref y] ∧ P.U.heap = h ∧ P.cells + 0 ≤ R.cells ∧ P.slots + 0 ≤ R.slots)
      (fun P _ v B => ∃ L, (((v = some (.int 1) ∧ cs = ds) ∨ (v = some (.int 0) ∧ ¬ cs = ds)) ∧ L = [] ∧ B.U.heap = h) ∧ B.locs = P.locs ++ L ∧ B.cells = P.cells + 0 ∧ B.slots = P.slots + 0) := by
  intro m meth c P g ig mk a X hg hsize hdg hW hn hp'
  obtain ⟨rfl, rfl, r1, r2⟩ := hp'
  have al : Z.vm.Alike P.U.vm := hZ.alike.trans X.warmed.alike
  obtain ⟨A, hx⟩ := txt_of wi al E V C K hc hb l2
  obtain ⟨A', hy⟩ := txt_of wi al E' V' C' K' hc' hb' l2'
  obtain ⟨v, B, X', ⟨⟨w, hv, hh, hq⟩, hl, hk, hs⟩, st⟩ := SEq.pays x t A cd cs.length (fun j => cs.getD j 0) y t' A' cd' ds.length (fun j => ds.getD j 0) z (tabEq_of (movedEq hZ hw)) hfr hlo m meth c P g ig mk _ X hg hsize hdg hW hn ⟨r1, r2, rfl, hx, hy, sta_is al S, hz⟩
  refine ⟨v, B, X', ⟨[], ⟨?_, rfl, hh⟩, hl, hk, hs⟩, st⟩
  rcases hq with ⟨rfl, q⟩ | ⟨rfl, q⟩
  · exact Or.inl ⟨hv, (same_list cs ds).mp q⟩
  · exact Or.inr ⟨hv, fun e => q ((same_list cs ds).mpr e)⟩
end StrChars.Road
namespace StrChars.Road
open Jvm Sem ClassFile Op Lib Jvm.Stand Jvm.Free Jvm.Free.XT
open Jvm.Lib.Cold (StaticIs)
/-- what backV says of its String, as the contracts of this text ask it: cs's low bytes, coder 0 -/
theorem codOf {cs : List Int32} {n : Nat} (hn : cs.length = n) (hb : ∀ c ∈ cs, ¬ 255 < c) : CodA cs 0 (Int32.ofNat n) ((cs.map lo8).map Value.int) := Or.inl ⟨rfl, by rw [hn], by simp [List.map_map, Function.comp_def], hb⟩
end StrChars.Road
end Jvm.Pilot.@@N@@

namespace Jvm.Pilot.@@N@@
open Jvm Jvm.ClassFile Sem Op Lib Jvm.Free Jvm.Stand Jvm.LawKit Jvm.RoadKit Bundle Jvm.Pilot.@@N@@.Jvm.D
abbrev oI (x : Int32) : Slot := .val (.int x)
abbrev oJ (x : Int64) : Slot := .val (.long x)
abbrev oR (a : Addr) : Slot := .val (.ref a)
abbrev oN : Slot := .val .null
abbrev oV (v : Value) : Slot := .val v
abbrev oU : Slot := .unset
abbrev oS : Slot := .second
abbrev oP (p : Program) (e : Env) (below : List Frame) (T : State) (g : JFrame) (t : State) : Prop := Steps p.tables e below (T.setTop g) t
def own_svW (Z : State) (C n d : String) (k : Nat) : Addr :=
  match k with
  | 0 => match (Term.static C n d).eval #[] Z none [] Z with | some (.ref a) => a | _ => 0
  | j + 1 => own_svW Z C n d j
termination_by k
def own_sv (Z : State) (C n d : String) : Addr := own_svW Z C n d 0
theorem own_sv_eq (Z : State) (C n d : String) : own_sv Z C n d = match (Term.static C n d).eval #[] Z none [] Z with | some (.ref a) => a | _ => 0 := by
  unfold own_sv own_svW
  rfl
theorem own_sv_of {Z : State} {args : Array Value} {C n d : String} {a : Addr} (h : (Term.static C n d).eval args Z none [] Z = some (.ref a)) : (Term.static C n d).eval args Z none [] Z = some (.ref (own_sv Z C n d)) := by
  have h' : (Term.static C n d).eval #[] Z none [] Z = some (.ref a) := h
  rw [h, own_sv_eq, h']
theorem own_at {Z : State} {args : Array Value} {C n d K : String} (h : (Cond.exactly (Term.static C n d) K).value args Z none Z [] = some true) : (Term.static C n d).eval args Z none [] Z = some (.ref (own_sv Z C n d)) := by
  obtain ⟨a, ha⟩ := exa_v h
  exact own_sv_of ha
theorem own_sta {Z : State} {args : Array Value} {C n d K : String} (h : (Cond.exactly (Term.static C n d) K).value args Z none Z [] = some true) (hi : (Cond.initializedFor C n d).before args Z = true ∨ ((Cond.initialized C).before args Z = true ∧ (Cond.laysStatic C n d).before args Z = true)) : Sta Z Z.heap C n d (.ref (own_sv Z C n d)) := Sta.start (own_at h) hi
theorem own_exa {Z : State} {args : Array Value} {C n d K : String} (h : (Cond.exactly (Term.static C n d) K).value args Z none Z [] = some true) : Exa Z Z.heap (own_sv Z C n d) K := Exa.start (own_at h) h
theorem own_fldV {Z : State} {args : Array Value} {C n d O f fd : String} {v : Value} (h : (Term.field (Term.static C n d) O f fd).eval args Z none [] Z = some v) : Fld Z Z.heap (own_sv Z C n d) O f fd v := by
  obtain ⟨a, ha⟩ := fld_v h
  rw [fld_at (own_sv_of ha)] at h
  exact Fld.start h
theorem own_fldI {Z : State} {args : Array Value} {C n d O f fd : String} {k : Int32} (h : (Cond.eq (Term.field (Term.static C n d) O f fd) (Term.int k)).value args Z none Z [] = some true) : Fld Z Z.heap (own_sv Z C n d) O f fd (.int k) := by
  refine own_fldV (args := args) ?_
  cases hv : (Term.field (Term.static C n d) O f fd).eval args Z none [] Z with
  | none => simp [Cond.value, hv] at h
  | some v => cases v <;> simp_all [Cond.value, Term.eval]
abbrev own_Q (Q : Option Value → Heap → List Loc → Prop) (v : Option Value) (h : Heap) (L : List Loc) : Prop := Q v h L
theorem own_ite {P : Addr → Prop} {c : Prop} [Decidable c] {a b : Addr} (ha : P a) (hb : P b) : P (if c then a else b) := by split <;> assumption
theorem own_clamp (x : Int32) : x.toNatClampNeg = x.toInt.toNat := rfl
theorem own_and_le (x c : Int32) (hc : 0 ≤ c.toInt) : 0 ≤ (x &&& c).toInt ∧ (x &&& c).toInt ≤ c.toInt := by
  have hm : c.toBitVec.msb = false := by
    cases h : c.toBitVec.msb with
    | false => rfl
    | true =>
      have := BitVec.toInt_neg_of_msb_true h
      rw [Int32.toInt_toBitVec] at this
      omega
  have h : (x &&& c).toBitVec.msb = false := by
    rw [Int32.toBitVec_and, BitVec.msb_and, hm]; simp
  have e1 : (x &&& c).toInt = ((x &&& c).toBitVec.toNat : Int) := by
    rw [← Int32.toInt_toBitVec, BitVec.toInt_eq_toNat_of_msb h]
  have e2 : c.toInt = (c.toBitVec.toNat : Int) := by
    rw [← Int32.toInt_toBitVec, BitVec.toInt_eq_toNat_of_msb hm]
  have h3 : (x &&& c).toBitVec.toNat ≤ c.toBitVec.toNat := by
    rw [Int32.toBitVec_and, BitVec.toNat_and]; exact Nat.and_le_right
  omega
theorem own_rem {x y : Int32} (hx : 0 ≤ x.toInt) (hy : 0 < y.toInt) : (x - (x / y) * y).toInt = x.toInt % y.toInt := by
  have h1 : (x / y).toInt = x.toInt / y.toInt := by
    rw [Int32.toInt_div]
    rw [Int.tdiv_eq_ediv_of_nonneg hx]
    have := Int32.toInt_lt x
    have h2 : 0 ≤ x.toInt / y.toInt := Int.ediv_nonneg hx (by omega)
    have h3 : x.toInt / y.toInt ≤ x.toInt := Int.ediv_le_self _ hx
    apply Int.bmod_eq_of_le <;> omega
  rw [Int32.toInt_sub, Int32.toInt_mul, h1]
  have h2 : 0 ≤ x.toInt / y.toInt * y.toInt := Int.mul_nonneg (Int.ediv_nonneg hx (by omega)) (by omega)
  have h3 : x.toInt / y.toInt * y.toInt ≤ x.toInt := Int.ediv_mul_le _ (by omega)
  have h4 := Int32.toInt_lt x
  rw [Int.bmod_eq_of_le (n := x.toInt / y.toInt * y.toInt) (by omega) (by omega)]
  have h5 : x.toInt - x.toInt / y.toInt * y.toInt = x.toInt % y.toInt := by
    have := Int.emod_add_mul_ediv x.toInt y.toInt
    have h6 : x.toInt / y.toInt * y.toInt = y.toInt * (x.toInt / y.toInt) := Int.mul_comm _ _
    omega
  rw [h5]
  have h6 := Int.emod_nonneg x.toInt (b := y.toInt) (by omega)
  have h7 := Int.emod_lt_of_pos x.toInt hy
  have h8 := Int32.toInt_lt y
  apply Int.bmod_eq_of_le <;> omega
theorem own_mem {i : Int32} {n : Nat} (h0 : 0 ≤ i.toInt) (h1 : i.toInt < n) : ∃ k, k < n ∧ i = Int32.ofNat k := by
  refine ⟨i.toInt.toNat, by omega, ?_⟩
  apply Int32.toInt_inj.mp
  have := Int32.toInt_lt i
  rw [Int32.toInt_ofNat_of_lt (by omega)]
  omega
theorem own_old_le {Z : State} {n0 : Nat} {h : Heap} (O : Old Z n0 h) : n0 ≤ h.size := O.1 ▸ O.2.1
def own_Vals (Z : State) (a : Addr) (ty : FieldType) (z : Int32) (vs : List Value) (dv : Value) : Prop := ∃ cl : Cell, Arr Z Z.heap a cl ty ∧ FitC Z cl ∧ cl.slots.size = z.toNatClampNeg ∧ Has cl vs dv ∧ ∀ i, i < cl.slots.size → fits ty (vs.getD i dv) = true
theorem own_clone {Z : State} {h : Heap} {b : Addr} {cl : Cell} {ty : FieldType} {z : Int32} {vs : List Value} {dv : Value} (A : Arr Z h b (cloneOf cl) ty) (S : cl.slots.size = z.toNatClampNeg) (hz : ¬ z < 0) (H : Has cl vs dv) (G : ∀ i, i < cl.slots.size → fits ty (vs.getD i dv) = true) : Arv Z h b cl.cls ty z vs dv := ⟨_, A, rfl, S, hz, H, G⟩
theorem own_elem {Z : State} {args : Array Value} {C n d C2 n2 d2 : String} {i : Int32} {cl : Cell} {ty : FieldType} {j : Nat} (h : (Cond.eq (Term.elem (Term.static C n d) (Term.int i)) (Term.static C2 n2 d2)).value args Z none Z [] = some true) (ht : (Term.static C2 n2 d2).eval args Z none [] Z = some (.ref (own_sv Z C2 n2 d2))) (A : Arr Z Z.heap (own_sv Z C n d) cl ty) (hj : i.toNatClampNeg = j) : cl.slots[j]? = some (.ref (own_sv Z C2 n2 d2)) := by
  subst hj
  have hi : (Term.int i).eval args Z none [] Z = some (.int i) := Term.int_eval i
  cases hv : (Term.elem (Term.static C n d) (Term.int i)).eval args Z none [] Z with
  | none => simp [Cond.value, hv] at h
  | some w =>
    obtain ⟨⟨x, hx⟩, -⟩ := elem_v hv
    have h2 := (elem_in hv (own_sv_of hx) hi A.1).2
    rw [h2]
    cases w <;> simp_all [Cond.value]
theorem own_getD {P : Value → Prop} {dv : Value} (hd : P dv) : ∀ (vs : List Value) (h : ∀ v ∈ vs, P v) (i : Nat), P (vs.getD i dv)
  | [], _, _ => by simpa using hd
  | v :: vs, h, 0 => h v (List.mem_cons_self ..)
  | v :: vs, h, i + 1 => own_getD hd vs (fun w hw => h w (List.mem_cons_of_mem _ hw)) i
theorem own_vals {Z : State} {args : Array Value} {C n d C2 : String} {k : Int32} {vs : List Value} (hf : Fit Z) (h1 : (Cond.arrayOf (Term.static C n d) (.object C2)).value args Z none Z [] = some true) (h2 : (Cond.eq (Term.length (Term.static C n d)) (Term.int k)).value args Z none Z [] = some true) (hl : k.toNatClampNeg = vs.length) (hk : ¬ k < 0)
    (h3 : ∀ cl, Arr Z Z.heap (own_sv Z C n d) cl (.object C2) → HasL cl 0 vs) (h4 : ∀ v ∈ vs, fits (.object C2) v = true) : own_Vals Z (own_sv Z C n d) (.object C2) k vs .null := by
  obtain ⟨x, hx⟩ := arr_v h1
  have ev := own_sv_of hx
  obtain ⟨cl, A⟩ := Arr.start ev h1
  have hs : cl.slots.size = k.toNatClampNeg := by
    cases hv : (Term.length (Term.static C n d)).eval args Z none [] Z with
    | none => simp [Cond.value, hv] at h2
    | some w =>
      obtain ⟨a, cell, e1, e2, e3⟩ := Term.length_spec hv
      cases ev.symm.trans e1
      have e4 := A.fin (Vm.Alike.refl _)
      cases e4.symm.trans e2
      have hlt : cl.slots.size < 2 ^ 31 := SBG.length_lt ev e4 hv
      subst e3
      have e5 : cl.slots.size.toInt32 = k := by
        have hi : (Term.int k).eval args Z none [] Z = some (.int k) := Term.int_eval k
        simpa [Cond.value, hv, hi] using h2
      rw [← e5]
      have e6 := len_toInt hlt
      simp only [own_clamp]
      omega
  have H := h3 cl A
  refine ⟨cl, A, FitC.start hf A, hs, fun i hi => ?_, fun i _ => own_getD (P := fun v => fits (.object C2) v = true) rfl vs h4 i⟩
  have := HasL.at (dv := .null) vs 0 H i (by omega)
  simpa using this
theorem own_fldN {Z : State} {args : Array Value} {C n d O f fd : String} (h : (Cond.eq (Term.field (Term.static C n d) O f fd) Term.null).value args Z none Z [] = some true) : Fld Z Z.heap (own_sv Z C n d) O f fd .null := own_fldV (args := args) (null_v h)
theorem own_fldS {Z : State} {args : Array Value} {C n d O f fd C2 n2 d2 K2 : String} (h : (Cond.eq (Term.field (Term.static C n d) O f fd) (Term.static C2 n2 d2)).value args Z none Z [] = some true) (h2 : (Cond.exactly (Term.static C2 n2 d2) K2).value args Z none Z [] = some true) : Fld Z Z.heap (own_sv Z C n d) O f fd (.ref (own_sv Z C2 n2 d2)) := by
  refine own_fldV (args := args) ?_
  have e2 := own_at h2
  cases hv : (Term.field (Term.static C n d) O f fd).eval args Z none [] Z with
  | none => simp [Cond.value, hv] at h
  | some v => cases v <;> simp_all [Cond.value]
theorem own_fldL {Z : State} {args : Array Value} {C n d O f fd : String} {k : Int64} (h : (Cond.eq (Term.field (Term.static C n d) O f fd) (Term.long k)).value args Z none Z [] = some true) : Fld Z Z.heap (own_sv Z C n d) O f fd (.long k) := by
  refine own_fldV (args := args) ?_
  cases hv : (Term.field (Term.static C n d) O f fd).eval args Z none [] Z with
  | none => simp [Cond.value, hv] at h
  | some v => cases v <;> simp_all [Cond.value, Term.eval]
theorem own_staI {Z : State} {args : Array Value} {C n d : String} {k : Int32} (h : (Cond.eq (Term.static C n d) (Term.int k)).value args Z none Z [] = some true) (hi : (Cond.initializedFor C n d).before args Z = true ∨ ((Cond.initialized C).before args Z = true ∧ (Cond.laysStatic C n d).before args Z = true)) : Sta Z Z.heap C n d (.int k) := by
  refine Sta.start (args := args) ?_ hi
  cases hv : (Term.static C n d).eval args Z none [] Z with
  | none => simp [Cond.value, hv] at h
  | some v =>
    have hk : (Term.int k).eval args Z none [] Z = some (.int k) := Term.int_eval k
    cases v <;> simp_all [Cond.value]
def own_Cache (Z : State) (a : Addr) (C : String) (n : Nat) : Prop := ∃ cl : Cell, Arr Z Z.heap a cl (.object C) ∧ cl.slots.size = n ∧ ∀ j, j < n → ∃ x, cl.slots[j]? = some (.ref x) ∧ Exa Z Z.heap x C
theorem own_nsroot {Z : State} {a0 : Array Value} {O K : String} {n : Nat} (w : (Cond.noSuperclass O).before a0 Z = true) (wk : (Cond.instantiable K n).before a0 Z = true) (hn : O ≠ K) : NS Z O K := by
  obtain ⟨c, k, h1, h2, h3, -, -⟩ := Cond.noSuperclass_spec w
  obtain ⟨t, kt, g1, -⟩ := Cond.instantiable_spec wk
  have ne := ids_ne h1 g1 hn
  refine ⟨c, t, h1, g1, fun fuel => ?_⟩
  cases fuel with
  | zero => rfl
  | succ f => simp [Vm.isSubclassAux, ne, h2, h3]
theorem own_nsno {Z : State} {a0 : Array Value} {C S K : String} {n : Nat} (w : (Cond.superclass C S).before a0 Z = true) (wk : (Cond.instantiable K n).before a0 Z = true) (m : NS Z C K) (hn : C ≠ K) : ∃ c t, Z.vm.findClass C = some c ∧ Z.vm.findClass K = some t ∧ Z.vm.assignable c t = false := by
  obtain ⟨c, t, h0, g0, n3⟩ := m
  obtain ⟨p, k, kp, h1, h2, h3, h4, h5, -, h7⟩ := Cond.superclass_spec h0 w
  obtain ⟨t', k', g1, g2, g3, g4, -⟩ := Cond.instantiable_spec wk
  cases g0.symm.trans g1
  have g5 : k'.isInterface = false := by
    cases hq : k'.isInterface with
    | false => rfl
    | true => simp [hq] at g4
  have ne := ids_ne h0 g0 hn
  refine ⟨c, t, h0, g0, ?_⟩
  show Z.vm.assignableAux (255 + 1) c t = false
  simp [Vm.assignableAux, ne, h2, g2, h5, g3, g5, Vm.isSubclass, n3]
theorem own_fitsR {v : Value} {C : String} (h : v.isRef = true) : fits (.object C) v = true := by cases v <;> simp_all [Value.isRef, fits]
def own_si (Z : State) (C n d : String) : Int32 := match (Term.static C n d).eval #[] Z none [] Z with | some (.int a) => a | _ => 0
theorem own_si_of {Z : State} {args : Array Value} {C n d : String} (h : (Cond.isInt (Term.static C n d)).value args Z none Z [] = some true) : (Term.static C n d).eval args Z none [] Z = some (.int (own_si Z C n d)) := by
  obtain ⟨x, hx⟩ := is_v h
  have h' : (Term.static C n d).eval #[] Z none [] Z = some (.int x) := hx
  rw [hx]; unfold own_si; rw [h']
theorem own_sti {Z : State} {args : Array Value} {C n d : String} (h : (Cond.isInt (Term.static C n d)).value args Z none Z [] = some true) (hi : (Cond.initializedFor C n d).before args Z = true ∨ ((Cond.initialized C).before args Z = true ∧ (Cond.laysStatic C n d).before args Z = true)) : Sta Z Z.heap C n d (.int (own_si Z C n d)) := Sta.start (own_si_of h) hi
theorem own_stn {Z : State} {args : Array Value} {C n d : String} (h : (Cond.isInt (Term.static C n d)).value args Z none Z [] = some true) (hn : (Cond.not (Cond.eq (Term.static C n d) (Term.int 0))).value args Z none Z [] = some true) : ¬ own_si Z C n d = 0 := by
  have e := own_si_of h
  have h0 : (Term.int 0).eval args Z none [] Z = some (.int 0) := Term.int_eval 0
  have q := not_v hn
  intro z
  rw [z] at e
  simp [Cond.value, e, h0] at q
theorem own_char {c x : Int32} (h : c = (x &&& (255 : Int32))) : ¬ c < 0 ∧ ¬ (255 : Int32) < c := by
  have q := own_and_le x 255 (by decide)
  rw [← h] at q
  have e : (255 : Int32).toInt = 255 := by decide
  have e0 : (0 : Int32).toInt = 0 := by decide
  rw [Int32.lt_iff_toInt_lt, Int32.lt_iff_toInt_lt, e, e0]
  omega
theorem own_narc {c : Int32} (h : ¬ c < 0 ∧ ¬ (255 : Int32) < c) : nar .char c = c := by
  rw [Int32.lt_iff_toInt_lt, Int32.lt_iff_toInt_lt] at h
  have e : (255 : Int32).toInt = 255 := by decide
  have e0 : (0 : Int32).toInt = 0 := by decide
  rw [e, e0] at h
  obtain ⟨k, hk, rfl⟩ := own_mem (i := c) (n := 256) (by omega) (by omega)
  have t : ∀ k : Fin 256, nar .char (Int32.ofNat k.val) = Int32.ofNat k.val := by decide +kernel
  exact t ⟨k, hk⟩
theorem own_hb {cs : List Int32} (h : ∀ c ∈ cs, ¬ c < 0 ∧ ¬ (255 : Int32) < c) : ∀ c ∈ cs, ¬ c < 0 ∧ ¬ (65535 : Int32) < c := fun c hc => by
  have q := h c hc
  refine ⟨q.1, fun z => q.2 ?_⟩
  rw [Int32.lt_iff_toInt_lt] at z ⊢
  have e : (255 : Int32).toInt = 255 := by decide
  have e0 : (65535 : Int32).toInt = 65535 := by decide
  omega
theorem own_eqv {v : Option Value} {cs ds : List Int32} (h : (v = some (.int 1) ∧ cs = ds) ∨ (v = some (.int 0) ∧ ¬ cs = ds)) : v = some (.int (if cs = ds then (1 : Int32) else (0 : Int32))) := by
  rcases h with ⟨h1, h2⟩ | ⟨h1, h2⟩
  · rw [if_pos h2]; exact h1
  · rw [if_neg h2]; exact h1
theorem own_since (s : State) : s.Since s.vm 0 := (State.WarmedH.refl s).since 0
theorem own_rwmono {s t : State} {o : Outcome} {L : List Loc} {k n k' n' : Nat} (h : ReturnedEndW s o t L k n) (hk : k ≤ k') (hn : n ≤ n') : ReturnedEndW s o t L k' n' := ⟨h.1, h.2.1, h.2.2.1, h.2.2.2.mono hk hn⟩
theorem own_cache {Z : State} {args : Array Value} {C n d K : String} {k : Int32} {N : Nat} {rest : Cond} (h1 : (Cond.arrayOf (Term.static C n d) (.object K)).value args Z none Z [] = some true) (h2 : (Cond.eq (Term.length (Term.static C n d)) (Term.int k)).value args Z none Z [] = some true)
    (h3 : (Cond.all (Term.static C n d) (.and (.exactly (.elem (Term.static C n d) (.index 0)) K) rest)).value args Z none Z [] = some true) (hN : k.toNatClampNeg = N) : own_Cache Z (own_sv Z C n d) K N := by
  obtain ⟨x, hx⟩ := arr_v h1
  have ev := own_sv_of hx
  obtain ⟨cl, A⟩ := Arr.start ev h1
  have e4 := A.fin (Vm.Alike.refl _)
  have hs : cl.slots.size = k.toNatClampNeg ∧ cl.slots.size < 2 ^ 31 := by
    cases hv : (Term.length (Term.static C n d)).eval args Z none [] Z with
    | none => simp [Cond.value, hv] at h2
    | some w =>
      obtain ⟨a, cell, e1, e2, e3⟩ := Term.length_spec hv
      cases ev.symm.trans e1
      cases e4.symm.trans e2
      have hlt : cl.slots.size < 2 ^ 31 := SBG.length_lt ev e4 hv
      subst e3
      have e5 : cl.slots.size.toInt32 = k := by
        have hi : (Term.int k).eval args Z none [] Z = some (.int k) := Term.int_eval k
        simpa [Cond.value, hv, hi] using h2
      rw [← e5]
      have e6 := len_toInt hlt
      refine ⟨?_, hlt⟩
      simp only [own_clamp]
      omega
  refine ⟨cl, A, hs.1.trans hN, fun j hj => ?_⟩
  have q := Cond.all_elim ev e4 h3 j (by omega)
  obtain ⟨q1, -⟩ := and_e q
  obtain ⟨y, hy⟩ := exa_v q1
  have ev' : (Term.static C n d).eval args Z none [j] Z = some (.ref (own_sv Z C n d)) := ev
  have hj' : (Term.index 0).eval args Z none [j] Z = some (.int (Int32.ofNat j)) := Term.index_eval _
  have r := (elem_in hy ev' hj' A.1).2
  have e6 : (Int32.ofNat j).toNatClampNeg = j := by
    have := len_toInt (n := j) (by omega)
    simp only [own_clamp]
    have e7 : (Int32.ofNat j).toInt = j := this
    omega
  rw [e6] at r
  exact ⟨y, r, exa_at hy q1⟩
theorem own_cacheix {p : Int32} {cl : Cell} (h1 : ¬ p < (-128 : Int32)) (h2 : ¬ (127 : Int32) < p) (S : cl.slots.size = 256) : ¬ (p + (128 : Int32) < 0 ∨ cl.slots.size ≤ (p + (128 : Int32)).toNatClampNeg) ∧ (p + (128 : Int32)).toNatClampNeg < 256 := by
  rw [Int32.lt_iff_toInt_lt] at h1 h2 ⊢
  have e1 : (-128 : Int32).toInt = -128 := by decide
  have e2 : (127 : Int32).toInt = 127 := by decide
  have e3 : (0 : Int32).toInt = 0 := by decide
  have e4 : (128 : Int32).toInt = 128 := by decide
  have e5 : (p + (128 : Int32)).toInt = p.toInt + 128 := by
    rw [Int32.toInt_add, e4]
    apply Int.bmod_eq_of_le <;> omega
  simp only [own_clamp]
  omega
theorem own_staA {Z : State} {args : Array Value} {C n d : String} {ty : FieldType} (h : (Cond.arrayOf (Term.static C n d) ty).value args Z none Z [] = some true) (hi : (Cond.initializedFor C n d).before args Z = true ∨ ((Cond.initialized C).before args Z = true ∧ (Cond.laysStatic C n d).before args Z = true)) : Sta Z Z.heap C n d (.ref (own_sv Z C n d)) := by
  obtain ⟨a, ha⟩ := arr_v h
  exact Sta.start (own_sv_of ha) hi
end Jvm.Pilot.@@N@@
namespace Jvm.Pilot.@@N@@
open Jvm Jvm.ClassFile Sem Op Lib Jvm.Free Jvm.Stand Jvm.LawKit Jvm.RoadKit Bundle Jvm.Pilot.@@N@@.Jvm.D
def St (Z : State) : Prop := (Sta Z Z.heap "java/lang/String" "COMPACT_STRINGS" "Z" (.int (own_si Z "java/lang/String" "COMPACT_STRINGS" "Z"))) ∧ (¬ own_si Z "java/lang/String" "COMPACT_STRINGS" "Z" = 0)
theorem s_compact {Z : State} (h : St Z) : Sta Z Z.heap "java/lang/String" "COMPACT_STRINGS" "Z" (.int (own_si Z "java/lang/String" "COMPACT_STRINGS" "Z")) := h.1
theorem n_compact {Z : State} (h : St Z) : ¬ own_si Z "java/lang/String" "COMPACT_STRINGS" "Z" = 0 := h.2
theorem own_ws {Z : State} {a0 : Array Value} (hw : ∀ d ∈ tables_1, d.before a0 Z = true) : ∀ d ∈ StrChars.Road.words, d.before a0 Z = true := fun d hd => hw d ((by decide +kernel : ∀ d ∈ StrChars.Road.words, d ∈ tables_1) d hd)
theorem own_wsEq {Z : State} {a0 : Array Value} (hw : ∀ d ∈ tables_1, d.before a0 Z = true) : ∀ d ∈ StrChars.Road.wordsEq, d.before a0 Z = true := fun d hd => hw d ((by decide +kernel : ∀ d ∈ StrChars.Road.wordsEq, d ∈ tables_1) d hd)
theorem d7_0 : decode prog_39_method_1_code 0 = .ok (.aload_n 0, 1) := by decide +kernel
theorem d7_1 : decode prog_39_method_1_code 1 = .ok (.invokespecial 1, 3) := by decide +kernel
theorem d7_4 : decode prog_39_method_1_code 4 = .ok (.aload_n 0, 1) := by decide +kernel
theorem d7_5 : decode prog_39_method_1_code 5 = .ok (.aload_n 1, 1) := by decide +kernel
theorem d7_6 : decode prog_39_method_1_code 6 = .ok (.putfield 7, 3) := by decide +kernel
theorem d7_9 : decode prog_39_method_1_code 9 = .ok (.aload_n 0, 1) := by decide +kernel
theorem d7_10 : decode prog_39_method_1_code 10 = .ok (.iload_n 2, 1) := by decide +kernel
theorem d7_11 : decode prog_39_method_1_code 11 = .ok (.putfield 13, 3) := by decide +kernel
theorem d7_14 : decode prog_39_method_1_code 14 = .ok (.return_, 1) := by decide +kernel
theorem ef_7 (m : MethodId) (x0 : Addr) (x1 : Addr) (x2 : Int32) : entryFrame m #[(.ref x0), (.ref x1), (.int x2)] 3 = mkF m 0 #[.val (.ref x0), .val (.ref x1), .val (.int x2)] [] := by first | (simp [entryFrame, mkF, argsToLocals, Value.category]; done) | rfl
theorem pn_0 : plainName "com/example/narada/narada/store/QueueKey" = true := by first | (simp [plainName, overriddenIn]; done) | decide +kernel
set_option maxRecDepth 65536 in
set_option maxHeartbeats 40000000 in
theorem rm7 (l : Launch) (Z : State) (a0 : Array Value) (hw : ∀ d ∈ tables_1, d.before a0 Z = true) (hS : St Z) (ws : List Jvm.Cond) (r0 : Addr) (r1 : Addr) (p2 : Int32) (h0 : Heap) (n0 : Nat) (O0 : Old Z n0 h0) (E_r0 : Exa Z h0 r0 "com/example/narada/narada/store/QueueKey") (F_topic_r0 : Fld Z h0 r0 "com/example/narada/narada/store/QueueKey" "topic" "Ljava/lang/String;" .null) (F_queueId_r0 : Fld Z h0 r0 "com/example/narada/narada/store/QueueKey" "queueId" "I" (.int (0 : Int32))) (g_r0 : n0 ≤ r0) :
    MetFree l (⟨"com/example/narada/narada/store/QueueKey", "<init>", "(Ljava/lang/String;I)V"⟩ : MethodName) (head1 (Jvm.Cond.code (⟨"com/example/narada/narada/store/QueueKey", "<init>", "(Ljava/lang/String;I)V"⟩ : MethodName) prog_39_method_1_code 3 none :: ws) ({ frames := 1, cells := 0, slots := 0, locals := 12 } : Room)) (fun a U => a = #[(.ref r0), (.ref r1), (.int p2)] ∧ Z.Warmed39 U.vm ∧ U.heap = h0) (fun _ _ _ _ _ => True) (fun _ U o U' => ∃ v L, o = .returned v ∧ own_Q (fun v hE L => v = none ∧ Fr n0 L ∧ Keep h0 hE [r0] ∧ Exa Z hE r0 "com/example/narada/narada/store/QueueKey" ∧ Fld Z hE r0 "com/example/narada/narada/store/QueueKey" "topic" "Ljava/lang/String;" (.ref r1) ∧ Fld Z hE r0 "com/example/narada/narada/store/QueueKey" "queueId" "I" (.int p2)) v U'.heap L ∧ FrameEnd U o U' L ({ frames := 1, cells := 0, slots := 0, locals := 12 } : Room).cells ({ frames := 1, cells := 0, slots := 0, locals := 12 } : Room).slots) := by
  refine MetFree.of_bodySF (plainFor_of_name pn_0) hisR ?_
  intro p e s m args below meth c s₁ Bd hml0 hP hK
  obtain ⟨rfl, hZ, hh⟩ := hP
  have hx := Bd.exec
  have hby := Bd.bytes
  have hml : c.maxLocals = 3 := hml0
  have hown : s.vm.findClass "com/example/narada/narada/store/QueueKey" = some m.cls := findClass_of_methodNamed Bd.named
  have hnm := (name_of_methodNamed Bd.named Bd.method).1
  have X0 : Stand p l e ({ frames := 1, cells := 0, slots := 0, locals := 12 } : Room) s m #[(.ref r0), (.ref r1), (.int p2)] below meth c s₁ [] 0 0 := Stand.of_body Bd
  have e0 : s₁.heap = h0 := by rw [← hh, Bd.state]; rfl
  have N0 := Fr.nil n0
  have pre0 : ∀ t, Steps p.tables e below (s₁.setTop (mkF m 0 #[oR r0, oR r1, oI p2] [])) t → Steps p.tables e below (s₁.setTop (entryFrame m #[(.ref r0), (.ref r1), (.int p2)] 3)) t := fun t k => castTop (ef_7 m r0 r1 p2) k
  obtain ⟨T1, X1, e1, st1⟩ := initO X0 hx hZ hown (hw _ (List.mem_of_getElem? (i := 36) rfl)) (hw _ (List.mem_of_getElem? (i := 12) rfl)) (hw _ (List.mem_of_getElem? (i := 13) rfl)) e0 (g := (mkF m 1 #[oR r0, oR r1, oI p2] [(.ref r0)])) rfl (by rw [hml]; rfl) rfl (hb hby d7_1) (by decide) (W := 0) (by show 2 * 0 + _ ≤ _; exact Nat.le_of_eq rfl) (by decide)
  obtain ⟨T2, h2, X2, e2, W2, st2⟩ := putF X1 hx hZ hown (host := "") (Or.inl (hw _ (List.mem_of_getElem? (i := 37) rfl))) Via.refl e1 F_topic_r0 E_r0 (Or.inr ⟨(hw _ (List.mem_of_getElem? (i := 38) rfl)), rfl, hnm⟩) (hw _ (List.mem_of_getElem? (i := 31) rfl)) (ty := (.object "java/lang/String")) (by decide) rfl rfl (g := (mkF m 6 #[oR r0, oR r1, oI p2] [(.ref r1), (.ref r0)])) rfl rfl (hb hby d7_6)
  have N2 := Fr.snoc X2 N0 g_r0
  have O2 := O0.wr W2 g_r0
  have Kc2 := (Keep.refl h0 [r0]).wr W2 (Or.inl (List.mem_of_getElem? (i := 0) rfl))
  have Fw2 := F_topic_r0.same W2
  have fx3 := (E_r0.wr W2)
  have fx4 := (F_queueId_r0.other W2 (Or.inr (slot_ne (Or.inr (hw _ (List.mem_of_getElem? (i := 40) rfl))) (Or.inr (hw _ (List.mem_of_getElem? (i := 38) rfl))) (by decide) (t := .int) (t' := (.object "java/lang/String")) (by decide) (by decide))))
  obtain ⟨T5, h5, X5, e5, W5, st5⟩ := putF X2 hx hZ hown (host := "") (Or.inl (hw _ (List.mem_of_getElem? (i := 39) rfl))) Via.refl e2 fx4 fx3 (Or.inr ⟨(hw _ (List.mem_of_getElem? (i := 40) rfl)), rfl, hnm⟩) (hw _ (List.mem_of_getElem? (i := 31) rfl)) (ty := .int) (by decide) rfl rfl (g := (mkF m 11 #[oR r0, oR r1, oI p2] [(.int p2), (.ref r0)])) rfl rfl (hb hby d7_11)
  have N5 := Fr.snoc X5 N2 g_r0
  have O5 := O2.wr W5 g_r0
  have Kc5 := Kc2.wr W5 (Or.inl (List.mem_of_getElem? (i := 0) rfl))
  have Fw5 := fx4.same W5
  obtain ⟨fs, hr, hrun, hended, hW, hsame⟩ := X5.leave (v := none) (fun _ => rfl)
  refine ⟨_, _, pre0 _ ?_, hrun, hended, _, _, rfl, ?_, ⟨_, rfl⟩, hW, hsame.mono (by decide) (by decide)⟩
  · show oP p e below s₁ (mkF m 0 #[oR r0, oR r1, oI p2] []) _
    refine XS.aloadN X0.here hx rfl (hb hby d7_0) rfl rfl ?_
    show oP p e below s₁ (mkF m 1 #[oR r0, oR r1, oI p2] [(.ref r0)]) _
    refine st1 _ ?_
    show oP p e below T1 (mkF m 4 #[oR r0, oR r1, oI p2] []) _
    refine XS.aloadN X1.here hx rfl (hb hby d7_4) rfl rfl ?_
    show oP p e below T1 (mkF m 5 #[oR r0, oR r1, oI p2] [(.ref r0)]) _
    refine XS.aloadN X1.here hx rfl (hb hby d7_5) rfl rfl ?_
    show oP p e below T1 (mkF m 6 #[oR r0, oR r1, oI p2] [(.ref r1), (.ref r0)]) _
    refine st2 _ ?_
    show oP p e below T2 (mkF m 9 #[oR r0, oR r1, oI p2] []) _
    refine XS.aloadN X2.here hx rfl (hb hby d7_9) rfl rfl ?_
    show oP p e below T2 (mkF m 10 #[oR r0, oR r1, oI p2] [(.ref r0)]) _
    refine XS.iloadN X2.here hx rfl (hb hby d7_10) rfl ?_
    show oP p e below T2 (mkF m 11 #[oR r0, oR r1, oI p2] [(.int p2), (.ref r0)]) _
    refine st5 _ ?_
    show oP p e below T5 (mkF m 14 #[oR r0, oR r1, oI p2] []) _
    exact X5.returnOut hx Bd.returns (hb hby d7_14) hr
  · show (none : Option Value) = none ∧ Fr n0 _ ∧ Keep h0 T5.heap [r0] ∧ Exa Z T5.heap r0 "com/example/narada/narada/store/QueueKey" ∧ Fld Z T5.heap r0 "com/example/narada/narada/store/QueueKey" "topic" "Ljava/lang/String;" (.ref r1) ∧ Fld Z T5.heap r0 "com/example/narada/narada/store/QueueKey" "queueId" "I" (.int p2)
    rw [e5]
    have fx6 := (fx3.wr W5)
    have fx7 := (Fw2.other W5 (Or.inr (slot_ne (Or.inr (hw _ (List.mem_of_getElem? (i := 38) rfl))) (Or.inr (hw _ (List.mem_of_getElem? (i := 40) rfl))) (by decide) (t := (.object "java/lang/String")) (t' := .int) (by decide) (by decide))))
    exact ⟨rfl, N5, Kc5, fx6, fx7, Fw5⟩
theorem d8_0 : decode prog_39_method_4_code 0 = .ok (.aload_n 1, 1) := by decide +kernel
theorem d8_1 : decode prog_39_method_4_code 1 = .ok (.instanceof 8, 3) := by decide +kernel
theorem d8_4 : decode prog_39_method_4_code 4 = .ok (.ifCond .eq 38, 3) := by decide +kernel
theorem d8_42 : decode prog_39_method_4_code 42 = .ok (.iconst 0, 1) := by decide +kernel
theorem d8_43 : decode prog_39_method_4_code 43 = .ok (.ireturn, 1) := by decide +kernel
def fn8n (Z : State) (r0 : Addr) : Int32 :=
  (0 : Int32)
theorem ef_8n (m : MethodId) (x0 : Addr) : entryFrame m #[(.ref x0), .null] 2 = mkF m 0 #[.val (.ref x0), .val .null] [] := by first | (simp [entryFrame, mkF, argsToLocals, Value.category]; done) | rfl
set_option maxRecDepth 65536 in
set_option maxHeartbeats 40000000 in
theorem rm8n (l : Launch) (Z : State) (a0 : Array Value) (hw : ∀ d ∈ tables_1, d.before a0 Z = true) (hS : St Z) (ws : List Jvm.Cond) (r0 : Addr) (h0 : Heap) (n0 : Nat) (O0 : Old Z n0 h0) :
    MetFree l (⟨"com/example/narada/narada/store/QueueKey", "equals", "(Ljava/lang/Object;)Z"⟩ : MethodName) (head1 (Jvm.Cond.code (⟨"com/example/narada/narada/store/QueueKey", "equals", "(Ljava/lang/Object;)Z"⟩ : MethodName) prog_39_method_4_code 2 (some .boolean) :: ws) ({ frames := 0, cells := 0, slots := 0, locals := 0 } : Room)) (fun a U => a = #[(.ref r0), .null] ∧ Z.Warmed39 U.vm ∧ U.heap = h0) (fun _ _ _ _ _ => True) (fun _ U o U' => ∃ v L, o = .returned v ∧ own_Q (fun v hE L => v = some (.int (fn8n Z r0)) ∧ Fr n0 L ∧ Keep h0 hE []) v U'.heap L ∧ FrameEnd U o U' L ({ frames := 0, cells := 0, slots := 0, locals := 0 } : Room).cells ({ frames := 0, cells := 0, slots := 0, locals := 0 } : Room).slots) := by
  refine MetFree.of_bodySF (plainFor_of_name pn_0) hisR ?_
  intro p e s m args below meth c s₁ Bd hml0 hP hK
  obtain ⟨rfl, hZ, hh⟩ := hP
  have hx := Bd.exec
  have hby := Bd.bytes
  have hml : c.maxLocals = 2 := hml0
  have hown : s.vm.findClass "com/example/narada/narada/store/QueueKey" = some m.cls := findClass_of_methodNamed Bd.named
  have hnm := (name_of_methodNamed Bd.named Bd.method).1
  have X0 : Stand p l e ({ frames := 0, cells := 0, slots := 0, locals := 0 } : Room) s m #[(.ref r0), .null] below meth c s₁ [] 0 0 := Stand.of_body Bd
  have e0 : s₁.heap = h0 := by rw [← hh, Bd.state]; rfl
  have N0 := Fr.nil n0
  have pre0 : ∀ t, Steps p.tables e below (s₁.setTop (mkF m 0 #[oR r0, oN] [])) t → Steps p.tables e below (s₁.setTop (entryFrame m #[(.ref r0), .null] 2)) t := fun t k => castTop (ef_8n m r0) k
  obtain ⟨fs, hr, hrun, hended, hW, hsame⟩ := X0.leave (v := some (.int (0 : Int32))) (fun h => by rw [Bd.returns] at h; cases h)
  refine ⟨_, _, pre0 _ ?_, hrun, hended, _, _, rfl, ?_, ⟨_, rfl⟩, hW, hsame.mono (by decide) (by decide)⟩
  · show oP p e below s₁ (mkF m 0 #[oR r0, oN] []) _
    refine XS.aloadN X0.here hx rfl (hb hby d8_0) rfl rfl ?_
    show oP p e below s₁ (mkF m 1 #[oR r0, oN] [.null]) _
    refine X0.instanceofNull hx (g := (mkF m 1 #[oR r0, oN] [.null])) rfl rfl (hb hby d8_1) _ ?_
    show oP p e below s₁ (mkF m 4 #[oR r0, oN] [(.int (0 : Int32))]) _
    refine XS.ifYes X0.here hx rfl (pc0 := 4) (pc' := 42) rfl (hb hby d8_4) rfl ((if0 _ _).trans (teq (by decide : (0 : Int32) = (0 : Int32))).1) (by decide) (by decide) ?_
    show oP p e below s₁ (mkF m 42 #[oR r0, oN] []) _
    refine XS.iconst X0.here hx rfl (hb hby d8_42) ?_
    show oP p e below s₁ (mkF m 43 #[oR r0, oN] [(.int (0 : Int32))]) _
    exact retN X0 hx (t := .boolean) Bd.returns (by simp) (hb hby d8_43) hr
  · show (some (.int (0 : Int32)) : Option Value) = some (.int (fn8n Z r0)) ∧ Fr n0 _ ∧ Keep h0 s₁.heap []
    rw [e0]
    refine ⟨?_, N0, (Keep.refl h0 [])⟩
    rfl
def fn8s (Z : State) (r0 : Addr) (r1 : Addr) : Int32 :=
  (0 : Int32)
theorem ef_8s (m : MethodId) (x0 : Addr) (x1 : Addr) : entryFrame m #[(.ref x0), (.ref x1)] 2 = mkF m 0 #[.val (.ref x0), .val (.ref x1)] [] := by first | (simp [entryFrame, mkF, argsToLocals, Value.category]; done) | rfl
set_option maxRecDepth 65536 in
set_option maxHeartbeats 40000000 in
theorem rm8s (l : Launch) (Z : State) (a0 : Array Value) (hw : ∀ d ∈ tables_1, d.before a0 Z = true) (hS : St Z) (ws : List Jvm.Cond) (r0 : Addr) (r1 : Addr) (h0 : Heap) (n0 : Nat) (O0 : Old Z n0 h0) (E_r1 : Exa Z h0 r1 "java/lang/String") :
    MetFree l (⟨"com/example/narada/narada/store/QueueKey", "equals", "(Ljava/lang/Object;)Z"⟩ : MethodName) (head1 (Jvm.Cond.code (⟨"com/example/narada/narada/store/QueueKey", "equals", "(Ljava/lang/Object;)Z"⟩ : MethodName) prog_39_method_4_code 2 (some .boolean) :: ws) ({ frames := 0, cells := 0, slots := 0, locals := 0 } : Room)) (fun a U => a = #[(.ref r0), (.ref r1)] ∧ Z.Warmed39 U.vm ∧ U.heap = h0) (fun _ _ _ _ _ => True) (fun _ U o U' => ∃ v L, o = .returned v ∧ own_Q (fun v hE L => v = some (.int (fn8s Z r0 r1)) ∧ Fr n0 L ∧ Keep h0 hE []) v U'.heap L ∧ FrameEnd U o U' L ({ frames := 0, cells := 0, slots := 0, locals := 0 } : Room).cells ({ frames := 0, cells := 0, slots := 0, locals := 0 } : Room).slots) := by
  refine MetFree.of_bodySF (plainFor_of_name pn_0) hisR ?_
  intro p e s m args below meth c s₁ Bd hml0 hP hK
  obtain ⟨rfl, hZ, hh⟩ := hP
  have hx := Bd.exec
  have hby := Bd.bytes
  have hml : c.maxLocals = 2 := hml0
  have hown : s.vm.findClass "com/example/narada/narada/store/QueueKey" = some m.cls := findClass_of_methodNamed Bd.named
  have hnm := (name_of_methodNamed Bd.named Bd.method).1
  have X0 : Stand p l e ({ frames := 0, cells := 0, slots := 0, locals := 0 } : Room) s m #[(.ref r0), (.ref r1)] below meth c s₁ [] 0 0 := Stand.of_body Bd
  have e0 : s₁.heap = h0 := by rw [← hh, Bd.state]; rfl
  have N0 := Fr.nil n0
  have pre0 : ∀ t, Steps p.tables e below (s₁.setTop (mkF m 0 #[oR r0, oR r1] [])) t → Steps p.tables e below (s₁.setTop (entryFrame m #[(.ref r0), (.ref r1)] 2)) t := fun t k => castTop (ef_8s m r0 r1) k
  obtain ⟨T8, X8, e8, st8⟩ := instNo X0 hx hZ hown (hw _ (List.mem_of_getElem? (i := 46) rfl)) e0 E_r1 (own_nsno (hw _ (List.mem_of_getElem? (i := 58) rfl)) (hw _ (List.mem_of_getElem? (i := 31) rfl)) (NS.step (hw _ (List.mem_of_getElem? (i := 58) rfl)) (own_nsroot (hw _ (List.mem_of_getElem? (i := 59) rfl)) (hw _ (List.mem_of_getElem? (i := 31) rfl)) (by decide)) (by decide)) (by decide)) (g := (mkF m 1 #[oR r0, oR r1] [(.ref r1)])) rfl rfl (hb hby d8_1)
  obtain ⟨fs, hr, hrun, hended, hW, hsame⟩ := X8.leave (v := some (.int (0 : Int32))) (fun h => by rw [Bd.returns] at h; cases h)
  refine ⟨_, _, pre0 _ ?_, hrun, hended, _, _, rfl, ?_, ⟨_, rfl⟩, hW, hsame.mono (by decide) (by decide)⟩
  · show oP p e below s₁ (mkF m 0 #[oR r0, oR r1] []) _
    refine XS.aloadN X0.here hx rfl (hb hby d8_0) rfl rfl ?_
    show oP p e below s₁ (mkF m 1 #[oR r0, oR r1] [(.ref r1)]) _
    refine st8 _ ?_
    show oP p e below T8 (mkF m 4 #[oR r0, oR r1] [(.int (0 : Int32))]) _
    refine XS.ifYes X8.here hx rfl (pc0 := 4) (pc' := 42) rfl (hb hby d8_4) rfl ((if0 _ _).trans (teq (by decide : (0 : Int32) = (0 : Int32))).1) (by decide) (by decide) ?_
    show oP p e below T8 (mkF m 42 #[oR r0, oR r1] []) _
    refine XS.iconst X8.here hx rfl (hb hby d8_42) ?_
    show oP p e below T8 (mkF m 43 #[oR r0, oR r1] [(.int (0 : Int32))]) _
    exact retN X8 hx (t := .boolean) Bd.returns (by simp) (hb hby d8_43) hr
  · show (some (.int (0 : Int32)) : Option Value) = some (.int (fn8s Z r0 r1)) ∧ Fr n0 _ ∧ Keep h0 T8.heap []
    rw [e8]
    refine ⟨?_, N0, (Keep.refl h0 [])⟩
    rfl
theorem d8_7 : decode prog_39_method_4_code 7 = .ok (.aload_n 1, 1) := by decide +kernel
theorem d8_8 : decode prog_39_method_4_code 8 = .ok (.checkcast 8, 3) := by decide +kernel
theorem d8_11 : decode prog_39_method_4_code 11 = .ok (.getfield 7, 3) := by decide +kernel
theorem d8_14 : decode prog_39_method_4_code 14 = .ok (.aload_n 0, 1) := by decide +kernel
theorem d8_15 : decode prog_39_method_4_code 15 = .ok (.getfield 7, 3) := by decide +kernel
theorem d8_18 : decode prog_39_method_4_code 18 = .ok (.invokevirtual 17, 3) := by decide +kernel
theorem pd_0 : parseMethodDescriptor "(Ljava/lang/Object;)Z" = some ⟨[(.object "java/lang/Object")], some .boolean⟩ := by decide +kernel
theorem d8_21 : decode prog_39_method_4_code 21 = .ok (.ifCond .eq 21, 3) := by decide +kernel
theorem d8_24 : decode prog_39_method_4_code 24 = .ok (.aload_n 1, 1) := by decide +kernel
theorem d8_25 : decode prog_39_method_4_code 25 = .ok (.checkcast 8, 3) := by decide +kernel
theorem d8_28 : decode prog_39_method_4_code 28 = .ok (.getfield 13, 3) := by decide +kernel
theorem d8_31 : decode prog_39_method_4_code 31 = .ok (.aload_n 0, 1) := by decide +kernel
theorem d8_32 : decode prog_39_method_4_code 32 = .ok (.getfield 13, 3) := by decide +kernel
theorem d8_35 : decode prog_39_method_4_code 35 = .ok (.if_icmp .ne 7, 3) := by decide +kernel
theorem d8_38 : decode prog_39_method_4_code 38 = .ok (.iconst 1, 1) := by decide +kernel
theorem d8_39 : decode prog_39_method_4_code 39 = .ok (.goto 4, 3) := by decide +kernel
def fn8q (Z : State) (r0 : Addr) (r1 : Addr) (x1 : Addr) (x2 : Addr) (u1 : Int32) (u2 : Int32) (t1 : Addr) (k1 : ClassId) (cs1 : List Int32) (t2 : Addr) (k2 : ClassId) (cs2 : List Int32) : Int32 :=
  if (if cs2 = cs1 then (1 : Int32) else (0 : Int32)) = (0 : Int32) then
    (0 : Int32)
  else
    if u2 = u1 then
      (1 : Int32)
    else
      (0 : Int32)
theorem ef_8q (m : MethodId) (x0 : Addr) (x1 : Addr) : entryFrame m #[(.ref x0), (.ref x1)] 2 = mkF m 0 #[.val (.ref x0), .val (.ref x1)] [] := by first | (simp [entryFrame, mkF, argsToLocals, Value.category]; done) | rfl
set_option maxRecDepth 65536 in
set_option maxHeartbeats 40000000 in
theorem rm8q (l : Launch) (Z : State) (a0 : Array Value) (hw : ∀ d ∈ tables_1, d.before a0 Z = true) (hS : St Z) (ws : List Jvm.Cond) (r0 : Addr) (r1 : Addr) (x1 : Addr) (x2 : Addr) (u1 : Int32) (u2 : Int32) (t1 : Addr) (k1 : ClassId) (cs1 : List Int32) (t2 : Addr) (k2 : ClassId) (cs2 : List Int32) (h0 : Heap) (n0 : Nat) (O0 : Old Z n0 h0) (E_r1 : Exa Z h0 r1 "com/example/narada/narada/store/QueueKey") (F_topic_r0 : Fld Z h0 r0 "com/example/narada/narada/store/QueueKey" "topic" "Ljava/lang/String;" (.ref x1)) (F_topic_r1 : Fld Z h0 r1 "com/example/narada/narada/store/QueueKey" "topic" "Ljava/lang/String;" (.ref x2)) (F_queueId_r0 : Fld Z h0 r0 "com/example/narada/narada/store/QueueKey" "queueId" "I" (.int u1)) (F_queueId_r1 : Fld Z h0 r1 "com/example/narada/narada/store/QueueKey" "queueId" "I" (.int u2)) (E_x1 : Exa Z h0 x1 "java/lang/String") (F_coder_x1 : Fld Z h0 x1 "java/lang/String" "coder" "B" (.int (0 : Int32))) (F_value_x1 : Fld Z h0 x1 "java/lang/String" "value" "[B" (.ref t1)) (V_t1 : Arv Z h0 t1 k1 .byte (Int32.ofNat cs1.length) ((cs1.map (fun c => c.toInt8.toInt32)).map Value.int) (.int (0 : Int32))) (hp_x1 : ∀ c ∈ cs1, ¬ c < 0 ∧ ¬ (255 : Int32) < c) (hl_x1 : cs1.length ≤ 4000) (E_x2 : Exa Z h0 x2 "java/lang/String") (F_coder_x2 : Fld Z h0 x2 "java/lang/String" "coder" "B" (.int (0 : Int32))) (F_value_x2 : Fld Z h0 x2 "java/lang/String" "value" "[B" (.ref t2)) (V_t2 : Arv Z h0 t2 k2 .byte (Int32.ofNat cs2.length) ((cs2.map (fun c => c.toInt8.toInt32)).map Value.int) (.int (0 : Int32))) (hp_x2 : ∀ c ∈ cs2, ¬ c < 0 ∧ ¬ (255 : Int32) < c) (hl_x2 : cs2.length ≤ 4000) :
    MetFree l (⟨"com/example/narada/narada/store/QueueKey", "equals", "(Ljava/lang/Object;)Z"⟩ : MethodName) (head1 (Jvm.Cond.code (⟨"com/example/narada/narada/store/QueueKey", "equals", "(Ljava/lang/Object;)Z"⟩ : MethodName) prog_39_method_4_code 2 (some .boolean) :: ws) ({ frames := 2, cells := 0, slots := 0, locals := 28 } : Room)) (fun a U => a = #[(.ref r0), (.ref r1)] ∧ Z.Warmed39 U.vm ∧ U.heap = h0) (fun _ _ _ _ _ => True) (fun _ U o U' => ∃ v L, o = .returned v ∧ own_Q (fun v hE L => v = some (.int (fn8q Z r0 r1 x1 x2 u1 u2 t1 k1 cs1 t2 k2 cs2)) ∧ Fr n0 L ∧ Keep h0 hE []) v U'.heap L ∧ FrameEnd U o U' L ({ frames := 2, cells := 0, slots := 0, locals := 28 } : Room).cells ({ frames := 2, cells := 0, slots := 0, locals := 28 } : Room).slots) := by
  refine MetFree.of_bodySF (plainFor_of_name pn_0) hisR ?_
  intro p e s m args below meth c s₁ Bd hml0 hP hK
  obtain ⟨rfl, hZ, hh⟩ := hP
  have hx := Bd.exec
  have hby := Bd.bytes
  have hml : c.maxLocals = 2 := hml0
  have hown : s.vm.findClass "com/example/narada/narada/store/QueueKey" = some m.cls := findClass_of_methodNamed Bd.named
  have hnm := (name_of_methodNamed Bd.named Bd.method).1
  have X0 : Stand p l e ({ frames := 2, cells := 0, slots := 0, locals := 28 } : Room) s m #[(.ref r0), (.ref r1)] below meth c s₁ [] 0 0 := Stand.of_body Bd
  have e0 : s₁.heap = h0 := by rw [← hh, Bd.state]; rfl
  have N0 := Fr.nil n0
  have pre0 : ∀ t, Steps p.tables e below (s₁.setTop (mkF m 0 #[oR r0, oR r1] [])) t → Steps p.tables e below (s₁.setTop (entryFrame m #[(.ref r0), (.ref r1)] 2)) t := fun t k => castTop (ef_8q m r0 r1) k
  obtain ⟨T9, X9, e9, st9⟩ := instY X0 hx hZ hown (hw _ (List.mem_of_getElem? (i := 46) rfl)) e0 (Ins.of_exa E_r1 (hw _ (List.mem_of_getElem? (i := 47) rfl))) (g := (mkF m 1 #[oR r0, oR r1] [(.ref r1)])) rfl rfl (hb hby d8_1)
  obtain ⟨T10, X10, e10, st10⟩ := castY X9 hx hZ hown (hw _ (List.mem_of_getElem? (i := 46) rfl)) e9 (Ins.of_exa E_r1 (hw _ (List.mem_of_getElem? (i := 47) rfl))) (g := (mkF m 8 #[oR r0, oR r1] [(.ref r1)])) rfl rfl (hb hby d8_8)
  obtain ⟨T11, X11, e11, st11⟩ := getF X10 hx hZ hown (host := "") (Or.inl (hw _ (List.mem_of_getElem? (i := 37) rfl))) Via.refl e10 F_topic_r1 (g := (mkF m 11 #[oR r0, oR r1] [(.ref r1)])) rfl rfl (hb hby d8_11)
  obtain ⟨T12, X12, e12, st12⟩ := getF X11 hx hZ hown (host := "") (Or.inl (hw _ (List.mem_of_getElem? (i := 37) rfl))) Via.refl e11 F_topic_r0 (g := (mkF m 15 #[oR r0, oR r1] [(.ref r0), (.ref x2)])) rfl rfl (hb hby d8_15)
  obtain ⟨cq13, kq13, q13a, q13b, q13c⟩ := isOf hZ e12 E_x2
  obtain ⟨_, _, ⟨T13, L13, k13, n13⟩, -, X13, ⟨Lc13, hQ13, l13, y13, z13⟩, st13⟩ := X12.virtualBack hx (y := (⟨"java/lang/String", "equals", "(Ljava/lang/Object;)Z"⟩ : MethodName)) (z := (⟨"java/lang/String", "equals", "(Ljava/lang/Object;)Z"⟩ : MethodName)) hown (mvT hZ (hw _ (List.mem_of_getElem? (i := 48) rfl))) (mvT hZ (hw _ (List.mem_of_getElem? (i := 49) rfl))) (notFace_of_selects (args := #[]) (mvT hZ (hw _ (List.mem_of_getElem? (i := 51) rfl)))) (mvT hZ (hw _ (List.mem_of_getElem? (i := 51) rfl))) (mvT hZ (hw _ (List.mem_of_getElem? (i := 50) rfl))) (by decide) (StrChars.Road.eqW (W := 0) hZ (own_wsEq hw) (kI := 4) (hw _ (List.mem_of_getElem? (i := 1) rfl)) E_x2 F_value_x2 F_coder_x2 V_t2 (StrChars.Road.codOf rfl (fun c hc => (hp_x2 c hc).2)) (own_hb hp_x2) hl_x2 E_x1 F_value_x1 F_coder_x1 V_t1 (StrChars.Road.codOf rfl (fun c hc => (hp_x1 c hc).2)) (own_hb hp_x1) hl_x1 ((s_compact hS).ext O0.2) (n_compact hS) (by decide) (by decide)) q13a q13c (g := (mkF m 18 #[oR r0, oR r1] [(.ref x1), (.ref x2)])) rfl (by rw [hml]; rfl) (Steps.refl _) (argsL := [(.ref x1)]) (rest := []) (lenOf pd_0 rfl) rfl (by show 2 * 0 + _ ≤ _; exact Nat.le_of_eq rfl) (hb hby d8_18) (fun _ _ => ⟨rfl, e12, (by decide : 0 + 0 ≤ _), (by decide : 0 + 0 ≤ _)⟩)
  dsimp only [Pt.U, Pt.locs, Pt.cells, Pt.slots] at X13 l13 y13 z13 st13 hQ13
  subst l13 y13 z13
  obtain ⟨hc13, lq13, h13q⟩ := hQ13
  have v13 := own_eqv hc13
  subst v13 lq13
  have N13 := Fr.app N0 (Fr.nil n0)
  have pre14 : ∀ t, oP p e below T13 (mkF m 21 #[oR r0, oR r1] [(.int (if cs2 = cs1 then (1 : Int32) else (0 : Int32)))]) t → oP p e below s₁ (entryFrame m #[(.ref r0), (.ref r1)] 2) t := fun t k => pre0 t (by
    show oP p e below s₁ (mkF m 0 #[oR r0, oR r1] []) _
    refine XS.aloadN X0.here hx rfl (hb hby d8_0) rfl rfl ?_
    show oP p e below s₁ (mkF m 1 #[oR r0, oR r1] [(.ref r1)]) _
    refine st9 _ ?_
    show oP p e below T9 (mkF m 4 #[oR r0, oR r1] [(.int (1 : Int32))]) _
    refine XS.ifNo X9.here hx rfl (hb hby d8_4) rfl ((if0 _ _).trans (feq (by decide : ¬ ((1 : Int32) = (0 : Int32)))).1) ?_
    show oP p e below T9 (mkF m 7 #[oR r0, oR r1] []) _
    refine XS.aloadN X9.here hx rfl (hb hby d8_7) rfl rfl ?_
    show oP p e below T9 (mkF m 8 #[oR r0, oR r1] [(.ref r1)]) _
    refine st10 _ ?_
    show oP p e below T10 (mkF m 11 #[oR r0, oR r1] [(.ref r1)]) _
    refine st11 _ ?_
    show oP p e below T11 (mkF m 14 #[oR r0, oR r1] [(.ref x2)]) _
    refine XS.aloadN X11.here hx rfl (hb hby d8_14) rfl rfl ?_
    show oP p e below T11 (mkF m 15 #[oR r0, oR r1] [(.ref r0), (.ref x2)]) _
    refine st12 _ ?_
    show oP p e below T12 (mkF m 18 #[oR r0, oR r1] [(.ref x1), (.ref x2)]) _
    refine st13.trans ?_
    exact k)
  by_cases hc15 : (if cs2 = cs1 then (1 : Int32) else (0 : Int32)) = (0 : Int32)
  · obtain ⟨fs, hr, hrun, hended, hW, hsame⟩ := X13.leave (v := some (.int (0 : Int32))) (fun h => by rw [Bd.returns] at h; cases h)
    refine ⟨_, _, pre14 _ ?_, hrun, hended, _, _, rfl, ?_, ⟨_, rfl⟩, hW, hsame.mono (by decide) (by decide)⟩
    · show oP p e below T13 (mkF m 21 #[oR r0, oR r1] [(.int (if cs2 = cs1 then (1 : Int32) else (0 : Int32)))]) _
      refine XS.ifYes X13.here hx rfl (pc0 := 21) (pc' := 42) rfl (hb hby d8_21) rfl ((if0 _ _).trans (teq hc15).1) (by decide) (by decide) ?_
      show oP p e below T13 (mkF m 42 #[oR r0, oR r1] []) _
      refine XS.iconst X13.here hx rfl (hb hby d8_42) ?_
      show oP p e below T13 (mkF m 43 #[oR r0, oR r1] [(.int (0 : Int32))]) _
      exact retN X13 hx (t := .boolean) Bd.returns (by simp) (hb hby d8_43) hr
    · show (some (.int (0 : Int32)) : Option Value) = some (.int (fn8q Z r0 r1 x1 x2 u1 u2 t1 k1 cs1 t2 k2 cs2)) ∧ Fr n0 _ ∧ Keep h0 T13.heap []
      rw [h13q]
      refine ⟨?_, N13, (Keep.refl h0 [])⟩
      unfold fn8q
      rw [if_pos hc15]
  · obtain ⟨T16, X16, e16, st16⟩ := castY X13 hx hZ hown (hw _ (List.mem_of_getElem? (i := 46) rfl)) h13q (Ins.of_exa E_r1 (hw _ (List.mem_of_getElem? (i := 47) rfl))) (g := (mkF m 25 #[oR r0, oR r1] [(.ref r1)])) rfl rfl (hb hby d8_25)
    obtain ⟨T17, X17, e17, st17⟩ := getF X16 hx hZ hown (host := "") (Or.inl (hw _ (List.mem_of_getElem? (i := 39) rfl))) Via.refl e16 F_queueId_r1 (g := (mkF m 28 #[oR r0, oR r1] [(.ref r1)])) rfl rfl (hb hby d8_28)
    obtain ⟨T18, X18, e18, st18⟩ := getF X17 hx hZ hown (host := "") (Or.inl (hw _ (List.mem_of_getElem? (i := 39) rfl))) Via.refl e17 F_queueId_r0 (g := (mkF m 32 #[oR r0, oR r1] [(.ref r0), (.int u2)])) rfl rfl (hb hby d8_32)
    have pre19 : ∀ t, oP p e below T18 (mkF m 35 #[oR r0, oR r1] [(.int u1), (.int u2)]) t → oP p e below s₁ (entryFrame m #[(.ref r0), (.ref r1)] 2) t := fun t k => pre14 t (by
      show oP p e below T13 (mkF m 21 #[oR r0, oR r1] [(.int (if cs2 = cs1 then (1 : Int32) else (0 : Int32)))]) _
      refine XS.ifNo X13.here hx rfl (hb hby d8_21) rfl ((if0 _ _).trans (feq hc15).1) ?_
      show oP p e below T13 (mkF m 24 #[oR r0, oR r1] []) _
      refine XS.aloadN X13.here hx rfl (hb hby d8_24) rfl rfl ?_
      show oP p e below T13 (mkF m 25 #[oR r0, oR r1] [(.ref r1)]) _
      refine st16 _ ?_
      show oP p e below T16 (mkF m 28 #[oR r0, oR r1] [(.ref r1)]) _
      refine st17 _ ?_
      show oP p e below T17 (mkF m 31 #[oR r0, oR r1] [(.int u2)]) _
      refine XS.aloadN X17.here hx rfl (hb hby d8_31) rfl rfl ?_
      show oP p e below T17 (mkF m 32 #[oR r0, oR r1] [(.ref r0), (.int u2)]) _
      refine st18 _ ?_
      exact k)
    by_cases hc20 : u2 = u1
    · obtain ⟨fs, hr, hrun, hended, hW, hsame⟩ := X18.leave (v := some (.int (1 : Int32))) (fun h => by rw [Bd.returns] at h; cases h)
      refine ⟨_, _, pre19 _ ?_, hrun, hended, _, _, rfl, ?_, ⟨_, rfl⟩, hW, hsame.mono (by decide) (by decide)⟩
      · show oP p e below T18 (mkF m 35 #[oR r0, oR r1] [(.int u1), (.int u2)]) _
        refine XS.icmpNo X18.here hx rfl (hb hby d8_35) rfl (teq hc20).2 ?_
        show oP p e below T18 (mkF m 38 #[oR r0, oR r1] []) _
        refine XS.iconst X18.here hx rfl (hb hby d8_38) ?_
        show oP p e below T18 (mkF m 39 #[oR r0, oR r1] [(.int (1 : Int32))]) _
        refine XS.goto X18.here hx rfl (pc0 := 39) (pc' := 43) rfl (hb hby d8_39) (by decide) (by decide) ?_
        show oP p e below T18 (mkF m 43 #[oR r0, oR r1] [(.int (1 : Int32))]) _
        exact retN X18 hx (t := .boolean) Bd.returns (by simp) (hb hby d8_43) hr
      · show (some (.int (1 : Int32)) : Option Value) = some (.int (fn8q Z r0 r1 x1 x2 u1 u2 t1 k1 cs1 t2 k2 cs2)) ∧ Fr n0 _ ∧ Keep h0 T18.heap []
        rw [e18]
        refine ⟨?_, N13, (Keep.refl h0 [])⟩
        unfold fn8q
        rw [if_neg hc15, if_pos hc20]
    · obtain ⟨fs, hr, hrun, hended, hW, hsame⟩ := X18.leave (v := some (.int (0 : Int32))) (fun h => by rw [Bd.returns] at h; cases h)
      refine ⟨_, _, pre19 _ ?_, hrun, hended, _, _, rfl, ?_, ⟨_, rfl⟩, hW, hsame.mono (by decide) (by decide)⟩
      · show oP p e below T18 (mkF m 35 #[oR r0, oR r1] [(.int u1), (.int u2)]) _
        refine XS.icmpYes X18.here hx rfl (pc0 := 35) (pc' := 42) rfl (hb hby d8_35) rfl (feq hc20).2 (by decide) (by decide) ?_
        show oP p e below T18 (mkF m 42 #[oR r0, oR r1] []) _
        refine XS.iconst X18.here hx rfl (hb hby d8_42) ?_
        show oP p e below T18 (mkF m 43 #[oR r0, oR r1] [(.int (0 : Int32))]) _
        exact retN X18 hx (t := .boolean) Bd.returns (by simp) (hb hby d8_43) hr
      · show (some (.int (0 : Int32)) : Option Value) = some (.int (fn8q Z r0 r1 x1 x2 u1 u2 t1 k1 cs1 t2 k2 cs2)) ∧ Fr n0 _ ∧ Keep h0 T18.heap []
        rw [e18]
        refine ⟨?_, N13, (Keep.refl h0 [])⟩
        unfold fn8q
        rw [if_neg hc15, if_neg hc20]
theorem rng_mask3 (k : Int32) : (k &&& (3 : Int32)) = (0 : Int32) ∨ (k &&& (3 : Int32)) = (1 : Int32) ∨ (k &&& (3 : Int32)) = (2 : Int32) ∨ (k &&& (3 : Int32)) = (3 : Int32) := by
  have h := own_and_le k 3 (by decide)
  obtain ⟨j, hj, e⟩ := own_mem (n := 4) h.1 (Int.lt_of_le_of_lt h.2 (by decide))
  rw [e]
  match j, hj with
  | 0, _ => decide
  | 1, _ => decide
  | 2, _ => decide
  | 3, _ => decide
theorem pd_1 : parseMethodDescriptor "([C)V" = some ⟨[(.array .char)], none⟩ := by decide +kernel
theorem pd_2 : parseMethodDescriptor "(Ljava/lang/String;I)V" = some ⟨[(.object "java/lang/String"), .int], none⟩ := by decide +kernel
theorem ab123 {Z : State} (hS : St Z) (p2 : Int32) (sa : Int32) (sb : Int32) (a0c : Int32) (a1c : Int32) (b0c : Int32) (b1c : Int32) (jd : Int32) (rsa : sa = (0 : Int32) ∨ sa = (1 : Int32)) (rsb : sb = (0 : Int32) ∨ sb = (1 : Int32)) (hc40 : sa = (0 : Int32)) (hc51 : sb = (0 : Int32)) (hc85 : sa = sb) (hc87 : a0c = b0c) (hc89 : a1c = b1c) (hc91 : p2 = jd) (hc105 : (fn8q Z b69 b76 b41 b52 p2 jd t45 kt45 ([a0c, a1c] : List Int32) t61 kt61 ([b0c, b1c] : List Int32)) = (1 : Int32)) (hc122 : ¬ ((fn8q Z b76 b69 b52 b41 jd p2 t61 kt61 ([b0c, b1c] : List Int32) t45 kt45 ([a0c, a1c] : List Int32)) = (1 : Int32))) : False := by
  have s_hc122 : ¬ ((1 : Int32) = (fn8q Z b76 b69 b52 b41 jd p2 t61 kt61 ([b0c, b1c] : List Int32) t45 kt45 ([a0c, a1c] : List Int32))) := fun q => hc122 q.symm
  simp_all [fn8q]
theorem ab124 {Z : State} (hS : St Z) (p2 : Int32) (sa : Int32) (sb : Int32) (a0c : Int32) (a1c : Int32) (b0c : Int32) (b1c : Int32) (jd : Int32) (rsa : sa = (0 : Int32) ∨ sa = (1 : Int32)) (rsb : sb = (0 : Int32) ∨ sb = (1 : Int32)) (hc40 : sa = (0 : Int32)) (hc51 : sb = (0 : Int32)) (hc85 : sa = sb) (hc87 : a0c = b0c) (hc89 : a1c = b1c) (hc91 : p2 = jd) (hc105 : ¬ ((fn8q Z b69 b76 b41 b52 p2 jd t45 kt45 ([a0c, a1c] : List Int32) t61 kt61 ([b0c, b1c] : List Int32)) = (1 : Int32))) : False := by
  have s_hc105 : ¬ ((1 : Int32) = (fn8q Z b69 b76 b41 b52 p2 jd t45 kt45 ([a0c, a1c] : List Int32) t61 kt61 ([b0c, b1c] : List Int32))) := fun q => hc105 q.symm
  simp_all [fn8q]
theorem ab156 {Z : State} (hS : St Z) (p2 : Int32) (sa : Int32) (sb : Int32) (a0c : Int32) (a1c : Int32) (b0c : Int32) (b1c : Int32) (jd : Int32) (rsa : sa = (0 : Int32) ∨ sa = (1 : Int32)) (rsb : sb = (0 : Int32) ∨ sb = (1 : Int32)) (hc40 : sa = (0 : Int32)) (hc51 : sb = (0 : Int32)) (hc85 : sa = sb) (hc87 : a0c = b0c) (hc89 : a1c = b1c) (hc91 : ¬ (p2 = jd)) (hc138 : (fn8q Z b69 b76 b41 b52 p2 jd t45 kt45 ([a0c, a1c] : List Int32) t61 kt61 ([b0c, b1c] : List Int32)) = (0 : Int32)) (hc155 : ¬ ((fn8q Z b76 b69 b52 b41 jd p2 t61 kt61 ([b0c, b1c] : List Int32) t45 kt45 ([a0c, a1c] : List Int32)) = (0 : Int32))) : False := by
  have s_hc91 : ¬ (jd = p2) := fun q => hc91 q.symm
  have s_hc155 : ¬ ((0 : Int32) = (fn8q Z b76 b69 b52 b41 jd p2 t61 kt61 ([b0c, b1c] : List Int32) t45 kt45 ([a0c, a1c] : List Int32))) := fun q => hc155 q.symm
  simp_all [fn8q]
theorem ab157 {Z : State} (hS : St Z) (p2 : Int32) (sa : Int32) (sb : Int32) (a0c : Int32) (a1c : Int32) (b0c : Int32) (b1c : Int32) (jd : Int32) (rsa : sa = (0 : Int32) ∨ sa = (1 : Int32)) (rsb : sb = (0 : Int32) ∨ sb = (1 : Int32)) (hc40 : sa = (0 : Int32)) (hc51 : sb = (0 : Int32)) (hc85 : sa = sb) (hc87 : a0c = b0c) (hc89 : a1c = b1c) (hc91 : ¬ (p2 = jd)) (hc138 : ¬ ((fn8q Z b69 b76 b41 b52 p2 jd t45 kt45 ([a0c, a1c] : List Int32) t61 kt61 ([b0c, b1c] : List Int32)) = (0 : Int32))) : False := by
  have s_hc91 : ¬ (jd = p2) := fun q => hc91 q.symm
  have s_hc138 : ¬ ((0 : Int32) = (fn8q Z b69 b76 b41 b52 p2 jd t45 kt45 ([a0c, a1c] : List Int32) t61 kt61 ([b0c, b1c] : List Int32))) := fun q => hc138 q.symm
  simp_all [fn8q]
theorem ab189 {Z : State} (hS : St Z) (p2 : Int32) (sa : Int32) (sb : Int32) (a0c : Int32) (a1c : Int32) (b0c : Int32) (b1c : Int32) (jd : Int32) (rsa : sa = (0 : Int32) ∨ sa = (1 : Int32)) (rsb : sb = (0 : Int32) ∨ sb = (1 : Int32)) (hc40 : sa = (0 : Int32)) (hc51 : sb = (0 : Int32)) (hc85 : sa = sb) (hc87 : a0c = b0c) (hc89 : ¬ (a1c = b1c)) (hc171 : (fn8q Z b69 b76 b41 b52 p2 jd t45 kt45 ([a0c, a1c] : List Int32) t61 kt61 ([b0c, b1c] : List Int32)) = (0 : Int32)) (hc188 : ¬ ((fn8q Z b76 b69 b52 b41 jd p2 t61 kt61 ([b0c, b1c] : List Int32) t45 kt45 ([a0c, a1c] : List Int32)) = (0 : Int32))) : False := by
  have s_hc89 : ¬ (b1c = a1c) := fun q => hc89 q.symm
  have s_hc188 : ¬ ((0 : Int32) = (fn8q Z b76 b69 b52 b41 jd p2 t61 kt61 ([b0c, b1c] : List Int32) t45 kt45 ([a0c, a1c] : List Int32))) := fun q => hc188 q.symm
  simp_all [fn8q]
theorem ab190 {Z : State} (hS : St Z) (p2 : Int32) (sa : Int32) (sb : Int32) (a0c : Int32) (a1c : Int32) (b0c : Int32) (b1c : Int32) (jd : Int32) (rsa : sa = (0 : Int32) ∨ sa = (1 : Int32)) (rsb : sb = (0 : Int32) ∨ sb = (1 : Int32)) (hc40 : sa = (0 : Int32)) (hc51 : sb = (0 : Int32)) (hc85 : sa = sb) (hc87 : a0c = b0c) (hc89 : ¬ (a1c = b1c)) (hc171 : ¬ ((fn8q Z b69 b76 b41 b52 p2 jd t45 kt45 ([a0c, a1c] : List Int32) t61 kt61 ([b0c, b1c] : List Int32)) = (0 : Int32))) : False := by
  have s_hc89 : ¬ (b1c = a1c) := fun q => hc89 q.symm
  have s_hc171 : ¬ ((0 : Int32) = (fn8q Z b69 b76 b41 b52 p2 jd t45 kt45 ([a0c, a1c] : List Int32) t61 kt61 ([b0c, b1c] : List Int32))) := fun q => hc171 q.symm
  simp_all [fn8q]
theorem ab222 {Z : State} (hS : St Z) (p2 : Int32) (sa : Int32) (sb : Int32) (a0c : Int32) (a1c : Int32) (b0c : Int32) (b1c : Int32) (jd : Int32) (rsa : sa = (0 : Int32) ∨ sa = (1 : Int32)) (rsb : sb = (0 : Int32) ∨ sb = (1 : Int32)) (hc40 : sa = (0 : Int32)) (hc51 : sb = (0 : Int32)) (hc85 : sa = sb) (hc87 : ¬ (a0c = b0c)) (hc204 : (fn8q Z b69 b76 b41 b52 p2 jd t45 kt45 ([a0c, a1c] : List Int32) t61 kt61 ([b0c, b1c] : List Int32)) = (0 : Int32)) (hc221 : ¬ ((fn8q Z b76 b69 b52 b41 jd p2 t61 kt61 ([b0c, b1c] : List Int32) t45 kt45 ([a0c, a1c] : List Int32)) = (0 : Int32))) : False := by
  have s_hc87 : ¬ (b0c = a0c) := fun q => hc87 q.symm
  have s_hc221 : ¬ ((0 : Int32) = (fn8q Z b76 b69 b52 b41 jd p2 t61 kt61 ([b0c, b1c] : List Int32) t45 kt45 ([a0c, a1c] : List Int32))) := fun q => hc221 q.symm
  simp_all [fn8q]
theorem ab223 {Z : State} (hS : St Z) (p2 : Int32) (sa : Int32) (sb : Int32) (a0c : Int32) (a1c : Int32) (b0c : Int32) (b1c : Int32) (jd : Int32) (rsa : sa = (0 : Int32) ∨ sa = (1 : Int32)) (rsb : sb = (0 : Int32) ∨ sb = (1 : Int32)) (hc40 : sa = (0 : Int32)) (hc51 : sb = (0 : Int32)) (hc85 : sa = sb) (hc87 : ¬ (a0c = b0c)) (hc204 : ¬ ((fn8q Z b69 b76 b41 b52 p2 jd t45 kt45 ([a0c, a1c] : List Int32) t61 kt61 ([b0c, b1c] : List Int32)) = (0 : Int32))) : False := by
  have s_hc87 : ¬ (b0c = a0c) := fun q => hc87 q.symm
  have s_hc204 : ¬ ((0 : Int32) = (fn8q Z b69 b76 b41 b52 p2 jd t45 kt45 ([a0c, a1c] : List Int32) t61 kt61 ([b0c, b1c] : List Int32))) := fun q => hc204 q.symm
  simp_all [fn8q]
theorem ab255 {Z : State} (hS : St Z) (p2 : Int32) (sa : Int32) (sb : Int32) (a0c : Int32) (a1c : Int32) (b0c : Int32) (b1c : Int32) (jd : Int32) (rsa : sa = (0 : Int32) ∨ sa = (1 : Int32)) (rsb : sb = (0 : Int32) ∨ sb = (1 : Int32)) (hc40 : sa = (0 : Int32)) (hc51 : sb = (0 : Int32)) (hc85 : ¬ (sa = sb)) (hc237 : (fn8q Z b69 b76 b41 b52 p2 jd t45 kt45 ([a0c, a1c] : List Int32) t61 kt61 ([b0c, b1c] : List Int32)) = (0 : Int32)) (hc254 : ¬ ((fn8q Z b76 b69 b52 b41 jd p2 t61 kt61 ([b0c, b1c] : List Int32) t45 kt45 ([a0c, a1c] : List Int32)) = (0 : Int32))) : False := by
  have s_hc85 : ¬ (sb = sa) := fun q => hc85 q.symm
  have s_hc254 : ¬ ((0 : Int32) = (fn8q Z b76 b69 b52 b41 jd p2 t61 kt61 ([b0c, b1c] : List Int32) t45 kt45 ([a0c, a1c] : List Int32))) := fun q => hc254 q.symm
  simp_all [fn8q]
theorem ab256 {Z : State} (hS : St Z) (p2 : Int32) (sa : Int32) (sb : Int32) (a0c : Int32) (a1c : Int32) (b0c : Int32) (b1c : Int32) (jd : Int32) (rsa : sa = (0 : Int32) ∨ sa = (1 : Int32)) (rsb : sb = (0 : Int32) ∨ sb = (1 : Int32)) (hc40 : sa = (0 : Int32)) (hc51 : sb = (0 : Int32)) (hc85 : ¬ (sa = sb)) (hc237 : ¬ ((fn8q Z b69 b76 b41 b52 p2 jd t45 kt45 ([a0c, a1c] : List Int32) t61 kt61 ([b0c, b1c] : List Int32)) = (0 : Int32))) : False := by
  have s_hc85 : ¬ (sb = sa) := fun q => hc85 q.symm
  have s_hc237 : ¬ ((0 : Int32) = (fn8q Z b69 b76 b41 b52 p2 jd t45 kt45 ([a0c, a1c] : List Int32) t61 kt61 ([b0c, b1c] : List Int32))) := fun q => hc237 q.symm
  simp_all [fn8q]
theorem ab335 {Z : State} (hS : St Z) (p2 : Int32) (sa : Int32) (sb : Int32) (a0c : Int32) (a1c : Int32) (b0c : Int32) (b1c : Int32) (jd : Int32) (rsa : sa = (0 : Int32) ∨ sa = (1 : Int32)) (rsb : sb = (0 : Int32) ∨ sb = (1 : Int32)) (hc40 : sa = (0 : Int32)) (hc51 : ¬ (sb = (0 : Int32))) (hc297 : sa = sb) (hc299 : a0c = b0c) (hc301 : a1c = b1c) (hc303 : p2 = jd) (hc317 : (fn8q Z b280 b288 b41 b265 p2 jd t45 kt45 ([a0c, a1c] : List Int32) t272 kt272 ([b0c] : List Int32)) = (1 : Int32)) (hc334 : ¬ ((fn8q Z b288 b280 b265 b41 jd p2 t272 kt272 ([b0c] : List Int32) t45 kt45 ([a0c, a1c] : List Int32)) = (1 : Int32))) : False := by
  have s_hc51 : ¬ ((0 : Int32) = sb) := fun q => hc51 q.symm
  have s_hc334 : ¬ ((1 : Int32) = (fn8q Z b288 b280 b265 b41 jd p2 t272 kt272 ([b0c] : List Int32) t45 kt45 ([a0c, a1c] : List Int32))) := fun q => hc334 q.symm
  simp_all [fn8q]
theorem ab336 {Z : State} (hS : St Z) (p2 : Int32) (sa : Int32) (sb : Int32) (a0c : Int32) (a1c : Int32) (b0c : Int32) (b1c : Int32) (jd : Int32) (rsa : sa = (0 : Int32) ∨ sa = (1 : Int32)) (rsb : sb = (0 : Int32) ∨ sb = (1 : Int32)) (hc40 : sa = (0 : Int32)) (hc51 : ¬ (sb = (0 : Int32))) (hc297 : sa = sb) (hc299 : a0c = b0c) (hc301 : a1c = b1c) (hc303 : p2 = jd) (hc317 : ¬ ((fn8q Z b280 b288 b41 b265 p2 jd t45 kt45 ([a0c, a1c] : List Int32) t272 kt272 ([b0c] : List Int32)) = (1 : Int32))) : False := by
  have s_hc51 : ¬ ((0 : Int32) = sb) := fun q => hc51 q.symm
  have s_hc317 : ¬ ((1 : Int32) = (fn8q Z b280 b288 b41 b265 p2 jd t45 kt45 ([a0c, a1c] : List Int32) t272 kt272 ([b0c] : List Int32))) := fun q => hc317 q.symm
  simp_all [fn8q]
theorem ab368 {Z : State} (hS : St Z) (p2 : Int32) (sa : Int32) (sb : Int32) (a0c : Int32) (a1c : Int32) (b0c : Int32) (b1c : Int32) (jd : Int32) (rsa : sa = (0 : Int32) ∨ sa = (1 : Int32)) (rsb : sb = (0 : Int32) ∨ sb = (1 : Int32)) (hc40 : sa = (0 : Int32)) (hc51 : ¬ (sb = (0 : Int32))) (hc297 : sa = sb) (hc299 : a0c = b0c) (hc301 : a1c = b1c) (hc303 : ¬ (p2 = jd)) (hc350 : (fn8q Z b280 b288 b41 b265 p2 jd t45 kt45 ([a0c, a1c] : List Int32) t272 kt272 ([b0c] : List Int32)) = (0 : Int32)) (hc367 : ¬ ((fn8q Z b288 b280 b265 b41 jd p2 t272 kt272 ([b0c] : List Int32) t45 kt45 ([a0c, a1c] : List Int32)) = (0 : Int32))) : False := by
  have s_hc51 : ¬ ((0 : Int32) = sb) := fun q => hc51 q.symm
  have s_hc303 : ¬ (jd = p2) := fun q => hc303 q.symm
  have s_hc367 : ¬ ((0 : Int32) = (fn8q Z b288 b280 b265 b41 jd p2 t272 kt272 ([b0c] : List Int32) t45 kt45 ([a0c, a1c] : List Int32))) := fun q => hc367 q.symm
  simp_all [fn8q]
theorem ab369 {Z : State} (hS : St Z) (p2 : Int32) (sa : Int32) (sb : Int32) (a0c : Int32) (a1c : Int32) (b0c : Int32) (b1c : Int32) (jd : Int32) (rsa : sa = (0 : Int32) ∨ sa = (1 : Int32)) (rsb : sb = (0 : Int32) ∨ sb = (1 : Int32)) (hc40 : sa = (0 : Int32)) (hc51 : ¬ (sb = (0 : Int32))) (hc297 : sa = sb) (hc299 : a0c = b0c) (hc301 : a1c = b1c) (hc303 : ¬ (p2 = jd)) (hc350 : ¬ ((fn8q Z b280 b288 b41 b265 p2 jd t45 kt45 ([a0c, a1c] : List Int32) t272 kt272 ([b0c] : List Int32)) = (0 : Int32))) : False := by
  have s_hc51 : ¬ ((0 : Int32) = sb) := fun q => hc51 q.symm
  have s_hc303 : ¬ (jd = p2) := fun q => hc303 q.symm
  have s_hc350 : ¬ ((0 : Int32) = (fn8q Z b280 b288 b41 b265 p2 jd t45 kt45 ([a0c, a1c] : List Int32) t272 kt272 ([b0c] : List Int32))) := fun q => hc350 q.symm
  simp_all [fn8q]
theorem ab401 {Z : State} (hS : St Z) (p2 : Int32) (sa : Int32) (sb : Int32) (a0c : Int32) (a1c : Int32) (b0c : Int32) (b1c : Int32) (jd : Int32) (rsa : sa = (0 : Int32) ∨ sa = (1 : Int32)) (rsb : sb = (0 : Int32) ∨ sb = (1 : Int32)) (hc40 : sa = (0 : Int32)) (hc51 : ¬ (sb = (0 : Int32))) (hc297 : sa = sb) (hc299 : a0c = b0c) (hc301 : ¬ (a1c = b1c)) (hc383 : (fn8q Z b280 b288 b41 b265 p2 jd t45 kt45 ([a0c, a1c] : List Int32) t272 kt272 ([b0c] : List Int32)) = (0 : Int32)) (hc400 : ¬ ((fn8q Z b288 b280 b265 b41 jd p2 t272 kt272 ([b0c] : List Int32) t45 kt45 ([a0c, a1c] : List Int32)) = (0 : Int32))) : False := by
  have s_hc51 : ¬ ((0 : Int32) = sb) := fun q => hc51 q.symm
  have s_hc301 : ¬ (b1c = a1c) := fun q => hc301 q.symm
  have s_hc400 : ¬ ((0 : Int32) = (fn8q Z b288 b280 b265 b41 jd p2 t272 kt272 ([b0c] : List Int32) t45 kt45 ([a0c, a1c] : List Int32))) := fun q => hc400 q.symm
  simp_all [fn8q]
theorem ab402 {Z : State} (hS : St Z) (p2 : Int32) (sa : Int32) (sb : Int32) (a0c : Int32) (a1c : Int32) (b0c : Int32) (b1c : Int32) (jd : Int32) (rsa : sa = (0 : Int32) ∨ sa = (1 : Int32)) (rsb : sb = (0 : Int32) ∨ sb = (1 : Int32)) (hc40 : sa = (0 : Int32)) (hc51 : ¬ (sb = (0 : Int32))) (hc297 : sa = sb) (hc299 : a0c = b0c) (hc301 : ¬ (a1c = b1c)) (hc383 : ¬ ((fn8q Z b280 b288 b41 b265 p2 jd t45 kt45 ([a0c, a1c] : List Int32) t272 kt272 ([b0c] : List Int32)) = (0 : Int32))) : False := by
  have s_hc51 : ¬ ((0 : Int32) = sb) := fun q => hc51 q.symm
  have s_hc301 : ¬ (b1c = a1c) := fun q => hc301 q.symm
  have s_hc383 : ¬ ((0 : Int32) = (fn8q Z b280 b288 b41 b265 p2 jd t45 kt45 ([a0c, a1c] : List Int32) t272 kt272 ([b0c] : List Int32))) := fun q => hc383 q.symm
  simp_all [fn8q]
theorem ab434 {Z : State} (hS : St Z) (p2 : Int32) (sa : Int32) (sb : Int32) (a0c : Int32) (a1c : Int32) (b0c : Int32) (jd : Int32) (rsa : sa = (0 : Int32) ∨ sa = (1 : Int32)) (rsb : sb = (0 : Int32) ∨ sb = (1 : Int32)) (hc40 : sa = (0 : Int32)) (hc51 : ¬ (sb = (0 : Int32))) (hc297 : sa = sb) (hc299 : ¬ (a0c = b0c)) (hc416 : (fn8q Z b280 b288 b41 b265 p2 jd t45 kt45 ([a0c, a1c] : List Int32) t272 kt272 ([b0c] : List Int32)) = (0 : Int32)) (hc433 : ¬ ((fn8q Z b288 b280 b265 b41 jd p2 t272 kt272 ([b0c] : List Int32) t45 kt45 ([a0c, a1c] : List Int32)) = (0 : Int32))) : False := by
  have s_hc51 : ¬ ((0 : Int32) = sb) := fun q => hc51 q.symm
  have s_hc299 : ¬ (b0c = a0c) := fun q => hc299 q.symm
  have s_hc433 : ¬ ((0 : Int32) = (fn8q Z b288 b280 b265 b41 jd p2 t272 kt272 ([b0c] : List Int32) t45 kt45 ([a0c, a1c] : List Int32))) := fun q => hc433 q.symm
  simp_all [fn8q]
theorem ab435 {Z : State} (hS : St Z) (p2 : Int32) (sa : Int32) (sb : Int32) (a0c : Int32) (a1c : Int32) (b0c : Int32) (jd : Int32) (rsa : sa = (0 : Int32) ∨ sa = (1 : Int32)) (rsb : sb = (0 : Int32) ∨ sb = (1 : Int32)) (hc40 : sa = (0 : Int32)) (hc51 : ¬ (sb = (0 : Int32))) (hc297 : sa = sb) (hc299 : ¬ (a0c = b0c)) (hc416 : ¬ ((fn8q Z b280 b288 b41 b265 p2 jd t45 kt45 ([a0c, a1c] : List Int32) t272 kt272 ([b0c] : List Int32)) = (0 : Int32))) : False := by
  have s_hc51 : ¬ ((0 : Int32) = sb) := fun q => hc51 q.symm
  have s_hc299 : ¬ (b0c = a0c) := fun q => hc299 q.symm
  have s_hc416 : ¬ ((0 : Int32) = (fn8q Z b280 b288 b41 b265 p2 jd t45 kt45 ([a0c, a1c] : List Int32) t272 kt272 ([b0c] : List Int32))) := fun q => hc416 q.symm
  simp_all [fn8q]
theorem ab467 {Z : State} (hS : St Z) (p2 : Int32) (sa : Int32) (sb : Int32) (a0c : Int32) (a1c : Int32) (b0c : Int32) (jd : Int32) (rsa : sa = (0 : Int32) ∨ sa = (1 : Int32)) (rsb : sb = (0 : Int32) ∨ sb = (1 : Int32)) (hc40 : sa = (0 : Int32)) (hc51 : ¬ (sb = (0 : Int32))) (hc297 : ¬ (sa = sb)) (hc449 : (fn8q Z b280 b288 b41 b265 p2 jd t45 kt45 ([a0c, a1c] : List Int32) t272 kt272 ([b0c] : List Int32)) = (0 : Int32)) (hc466 : ¬ ((fn8q Z b288 b280 b265 b41 jd p2 t272 kt272 ([b0c] : List Int32) t45 kt45 ([a0c, a1c] : List Int32)) = (0 : Int32))) : False := by
  have s_hc51 : ¬ ((0 : Int32) = sb) := fun q => hc51 q.symm
  have s_hc297 : ¬ (sb = sa) := fun q => hc297 q.symm
  have s_hc466 : ¬ ((0 : Int32) = (fn8q Z b288 b280 b265 b41 jd p2 t272 kt272 ([b0c] : List Int32) t45 kt45 ([a0c, a1c] : List Int32))) := fun q => hc466 q.symm
  simp_all [fn8q]
theorem ab468 {Z : State} (hS : St Z) (p2 : Int32) (sa : Int32) (sb : Int32) (a0c : Int32) (a1c : Int32) (b0c : Int32) (jd : Int32) (rsa : sa = (0 : Int32) ∨ sa = (1 : Int32)) (rsb : sb = (0 : Int32) ∨ sb = (1 : Int32)) (hc40 : sa = (0 : Int32)) (hc51 : ¬ (sb = (0 : Int32))) (hc297 : ¬ (sa = sb)) (hc449 : ¬ ((fn8q Z b280 b288 b41 b265 p2 jd t45 kt45 ([a0c, a1c] : List Int32) t272 kt272 ([b0c] : List Int32)) = (0 : Int32))) : False := by
  have s_hc51 : ¬ ((0 : Int32) = sb) := fun q => hc51 q.symm
  have s_hc297 : ¬ (sb = sa) := fun q => hc297 q.symm
  have s_hc449 : ¬ ((0 : Int32) = (fn8q Z b280 b288 b41 b265 p2 jd t45 kt45 ([a0c, a1c] : List Int32) t272 kt272 ([b0c] : List Int32))) := fun q => hc449 q.symm
  simp_all [fn8q]
theorem ab556 {Z : State} (hS : St Z) (p2 : Int32) (sa : Int32) (sb : Int32) (a0c : Int32) (b0c : Int32) (b1c : Int32) (jd : Int32) (rsa : sa = (0 : Int32) ∨ sa = (1 : Int32)) (rsb : sb = (0 : Int32) ∨ sb = (1 : Int32)) (hc40 : ¬ (sa = (0 : Int32))) (hc486 : sb = (0 : Int32)) (hc520 : sa = sb) (hc522 : a0c = b0c) (hc524 : p2 = jd) (hc538 : (fn8q Z b503 b511 b477 b487 p2 jd t480 kt480 ([a0c] : List Int32) t495 kt495 ([b0c, b1c] : List Int32)) = (1 : Int32)) (hc555 : ¬ ((fn8q Z b511 b503 b487 b477 jd p2 t495 kt495 ([b0c, b1c] : List Int32) t480 kt480 ([a0c] : List Int32)) = (1 : Int32))) : False := by
  have s_hc40 : ¬ ((0 : Int32) = sa) := fun q => hc40 q.symm
  have s_hc555 : ¬ ((1 : Int32) = (fn8q Z b511 b503 b487 b477 jd p2 t495 kt495 ([b0c, b1c] : List Int32) t480 kt480 ([a0c] : List Int32))) := fun q => hc555 q.symm
  simp_all [fn8q]
theorem ab557 {Z : State} (hS : St Z) (p2 : Int32) (sa : Int32) (sb : Int32) (a0c : Int32) (b0c : Int32) (b1c : Int32) (jd : Int32) (rsa : sa = (0 : Int32) ∨ sa = (1 : Int32)) (rsb : sb = (0 : Int32) ∨ sb = (1 : Int32)) (hc40 : ¬ (sa = (0 : Int32))) (hc486 : sb = (0 : Int32)) (hc520 : sa = sb) (hc522 : a0c = b0c) (hc524 : p2 = jd) (hc538 : ¬ ((fn8q Z b503 b511 b477 b487 p2 jd t480 kt480 ([a0c] : List Int32) t495 kt495 ([b0c, b1c] : List Int32)) = (1 : Int32))) : False := by
  have s_hc40 : ¬ ((0 : Int32) = sa) := fun q => hc40 q.symm
  have s_hc538 : ¬ ((1 : Int32) = (fn8q Z b503 b511 b477 b487 p2 jd t480 kt480 ([a0c] : List Int32) t495 kt495 ([b0c, b1c] : List Int32))) := fun q => hc538 q.symm
  simp_all [fn8q]
theorem ab589 {Z : State} (hS : St Z) (p2 : Int32) (sa : Int32) (sb : Int32) (a0c : Int32) (b0c : Int32) (b1c : Int32) (jd : Int32) (rsa : sa = (0 : Int32) ∨ sa = (1 : Int32)) (rsb : sb = (0 : Int32) ∨ sb = (1 : Int32)) (hc40 : ¬ (sa = (0 : Int32))) (hc486 : sb = (0 : Int32)) (hc520 : sa = sb) (hc522 : a0c = b0c) (hc524 : ¬ (p2 = jd)) (hc571 : (fn8q Z b503 b511 b477 b487 p2 jd t480 kt480 ([a0c] : List Int32) t495 kt495 ([b0c, b1c] : List Int32)) = (0 : Int32)) (hc588 : ¬ ((fn8q Z b511 b503 b487 b477 jd p2 t495 kt495 ([b0c, b1c] : List Int32) t480 kt480 ([a0c] : List Int32)) = (0 : Int32))) : False := by
  have s_hc40 : ¬ ((0 : Int32) = sa) := fun q => hc40 q.symm
  have s_hc524 : ¬ (jd = p2) := fun q => hc524 q.symm
  have s_hc588 : ¬ ((0 : Int32) = (fn8q Z b511 b503 b487 b477 jd p2 t495 kt495 ([b0c, b1c] : List Int32) t480 kt480 ([a0c] : List Int32))) := fun q => hc588 q.symm
  simp_all [fn8q]
theorem ab590 {Z : State} (hS : St Z) (p2 : Int32) (sa : Int32) (sb : Int32) (a0c : Int32) (b0c : Int32) (b1c : Int32) (jd : Int32) (rsa : sa = (0 : Int32) ∨ sa = (1 : Int32)) (rsb : sb = (0 : Int32) ∨ sb = (1 : Int32)) (hc40 : ¬ (sa = (0 : Int32))) (hc486 : sb = (0 : Int32)) (hc520 : sa = sb) (hc522 : a0c = b0c) (hc524 : ¬ (p2 = jd)) (hc571 : ¬ ((fn8q Z b503 b511 b477 b487 p2 jd t480 kt480 ([a0c] : List Int32) t495 kt495 ([b0c, b1c] : List Int32)) = (0 : Int32))) : False := by
  have s_hc40 : ¬ ((0 : Int32) = sa) := fun q => hc40 q.symm
  have s_hc524 : ¬ (jd = p2) := fun q => hc524 q.symm
  have s_hc571 : ¬ ((0 : Int32) = (fn8q Z b503 b511 b477 b487 p2 jd t480 kt480 ([a0c] : List Int32) t495 kt495 ([b0c, b1c] : List Int32))) := fun q => hc571 q.symm
  simp_all [fn8q]
theorem ab622 {Z : State} (hS : St Z) (p2 : Int32) (sa : Int32) (sb : Int32) (a0c : Int32) (b0c : Int32) (b1c : Int32) (jd : Int32) (rsa : sa = (0 : Int32) ∨ sa = (1 : Int32)) (rsb : sb = (0 : Int32) ∨ sb = (1 : Int32)) (hc40 : ¬ (sa = (0 : Int32))) (hc486 : sb = (0 : Int32)) (hc520 : sa = sb) (hc522 : ¬ (a0c = b0c)) (hc604 : (fn8q Z b503 b511 b477 b487 p2 jd t480 kt480 ([a0c] : List Int32) t495 kt495 ([b0c, b1c] : List Int32)) = (0 : Int32)) (hc621 : ¬ ((fn8q Z b511 b503 b487 b477 jd p2 t495 kt495 ([b0c, b1c] : List Int32) t480 kt480 ([a0c] : List Int32)) = (0 : Int32))) : False := by
  have s_hc40 : ¬ ((0 : Int32) = sa) := fun q => hc40 q.symm
  have s_hc522 : ¬ (b0c = a0c) := fun q => hc522 q.symm
  have s_hc621 : ¬ ((0 : Int32) = (fn8q Z b511 b503 b487 b477 jd p2 t495 kt495 ([b0c, b1c] : List Int32) t480 kt480 ([a0c] : List Int32))) := fun q => hc621 q.symm
  simp_all [fn8q]
theorem ab623 {Z : State} (hS : St Z) (p2 : Int32) (sa : Int32) (sb : Int32) (a0c : Int32) (b0c : Int32) (b1c : Int32) (jd : Int32) (rsa : sa = (0 : Int32) ∨ sa = (1 : Int32)) (rsb : sb = (0 : Int32) ∨ sb = (1 : Int32)) (hc40 : ¬ (sa = (0 : Int32))) (hc486 : sb = (0 : Int32)) (hc520 : sa = sb) (hc522 : ¬ (a0c = b0c)) (hc604 : ¬ ((fn8q Z b503 b511 b477 b487 p2 jd t480 kt480 ([a0c] : List Int32) t495 kt495 ([b0c, b1c] : List Int32)) = (0 : Int32))) : False := by
  have s_hc40 : ¬ ((0 : Int32) = sa) := fun q => hc40 q.symm
  have s_hc522 : ¬ (b0c = a0c) := fun q => hc522 q.symm
  have s_hc604 : ¬ ((0 : Int32) = (fn8q Z b503 b511 b477 b487 p2 jd t480 kt480 ([a0c] : List Int32) t495 kt495 ([b0c, b1c] : List Int32))) := fun q => hc604 q.symm
  simp_all [fn8q]
theorem ab655 {Z : State} (hS : St Z) (p2 : Int32) (sa : Int32) (sb : Int32) (a0c : Int32) (b0c : Int32) (b1c : Int32) (jd : Int32) (rsa : sa = (0 : Int32) ∨ sa = (1 : Int32)) (rsb : sb = (0 : Int32) ∨ sb = (1 : Int32)) (hc40 : ¬ (sa = (0 : Int32))) (hc486 : sb = (0 : Int32)) (hc520 : ¬ (sa = sb)) (hc637 : (fn8q Z b503 b511 b477 b487 p2 jd t480 kt480 ([a0c] : List Int32) t495 kt495 ([b0c, b1c] : List Int32)) = (0 : Int32)) (hc654 : ¬ ((fn8q Z b511 b503 b487 b477 jd p2 t495 kt495 ([b0c, b1c] : List Int32) t480 kt480 ([a0c] : List Int32)) = (0 : Int32))) : False := by
  have s_hc40 : ¬ ((0 : Int32) = sa) := fun q => hc40 q.symm
  have s_hc520 : ¬ (sb = sa) := fun q => hc520 q.symm
  have s_hc654 : ¬ ((0 : Int32) = (fn8q Z b511 b503 b487 b477 jd p2 t495 kt495 ([b0c, b1c] : List Int32) t480 kt480 ([a0c] : List Int32))) := fun q => hc654 q.symm
  simp_all [fn8q]
theorem ab656 {Z : State} (hS : St Z) (p2 : Int32) (sa : Int32) (sb : Int32) (a0c : Int32) (b0c : Int32) (b1c : Int32) (jd : Int32) (rsa : sa = (0 : Int32) ∨ sa = (1 : Int32)) (rsb : sb = (0 : Int32) ∨ sb = (1 : Int32)) (hc40 : ¬ (sa = (0 : Int32))) (hc486 : sb = (0 : Int32)) (hc520 : ¬ (sa = sb)) (hc637 : ¬ ((fn8q Z b503 b511 b477 b487 p2 jd t480 kt480 ([a0c] : List Int32) t495 kt495 ([b0c, b1c] : List Int32)) = (0 : Int32))) : False := by
  have s_hc40 : ¬ ((0 : Int32) = sa) := fun q => hc40 q.symm
  have s_hc520 : ¬ (sb = sa) := fun q => hc520 q.symm
  have s_hc637 : ¬ ((0 : Int32) = (fn8q Z b503 b511 b477 b487 p2 jd t480 kt480 ([a0c] : List Int32) t495 kt495 ([b0c, b1c] : List Int32))) := fun q => hc637 q.symm
  simp_all [fn8q]
theorem ab733 {Z : State} (hS : St Z) (p2 : Int32) (sa : Int32) (sb : Int32) (a0c : Int32) (b0c : Int32) (jd : Int32) (rsa : sa = (0 : Int32) ∨ sa = (1 : Int32)) (rsb : sb = (0 : Int32) ∨ sb = (1 : Int32)) (hc40 : ¬ (sa = (0 : Int32))) (hc486 : ¬ (sb = (0 : Int32))) (hc697 : sa = sb) (hc699 : a0c = b0c) (hc701 : p2 = jd) (hc715 : (fn8q Z b680 b687 b477 b665 p2 jd t480 kt480 ([a0c] : List Int32) t672 kt672 ([b0c] : List Int32)) = (1 : Int32)) (hc732 : ¬ ((fn8q Z b687 b680 b665 b477 jd p2 t672 kt672 ([b0c] : List Int32) t480 kt480 ([a0c] : List Int32)) = (1 : Int32))) : False := by
  have s_hc40 : ¬ ((0 : Int32) = sa) := fun q => hc40 q.symm
  have s_hc486 : ¬ ((0 : Int32) = sb) := fun q => hc486 q.symm
  have s_hc732 : ¬ ((1 : Int32) = (fn8q Z b687 b680 b665 b477 jd p2 t672 kt672 ([b0c] : List Int32) t480 kt480 ([a0c] : List Int32))) := fun q => hc732 q.symm
  simp_all [fn8q]
theorem ab734 {Z : State} (hS : St Z) (p2 : Int32) (sa : Int32) (sb : Int32) (a0c : Int32) (b0c : Int32) (jd : Int32) (rsa : sa = (0 : Int32) ∨ sa = (1 : Int32)) (rsb : sb = (0 : Int32) ∨ sb = (1 : Int32)) (hc40 : ¬ (sa = (0 : Int32))) (hc486 : ¬ (sb = (0 : Int32))) (hc697 : sa = sb) (hc699 : a0c = b0c) (hc701 : p2 = jd) (hc715 : ¬ ((fn8q Z b680 b687 b477 b665 p2 jd t480 kt480 ([a0c] : List Int32) t672 kt672 ([b0c] : List Int32)) = (1 : Int32))) : False := by
  have s_hc40 : ¬ ((0 : Int32) = sa) := fun q => hc40 q.symm
  have s_hc486 : ¬ ((0 : Int32) = sb) := fun q => hc486 q.symm
  have s_hc715 : ¬ ((1 : Int32) = (fn8q Z b680 b687 b477 b665 p2 jd t480 kt480 ([a0c] : List Int32) t672 kt672 ([b0c] : List Int32))) := fun q => hc715 q.symm
  simp_all [fn8q]
theorem ab766 {Z : State} (hS : St Z) (p2 : Int32) (sa : Int32) (sb : Int32) (a0c : Int32) (b0c : Int32) (jd : Int32) (rsa : sa = (0 : Int32) ∨ sa = (1 : Int32)) (rsb : sb = (0 : Int32) ∨ sb = (1 : Int32)) (hc40 : ¬ (sa = (0 : Int32))) (hc486 : ¬ (sb = (0 : Int32))) (hc697 : sa = sb) (hc699 : a0c = b0c) (hc701 : ¬ (p2 = jd)) (hc748 : (fn8q Z b680 b687 b477 b665 p2 jd t480 kt480 ([a0c] : List Int32) t672 kt672 ([b0c] : List Int32)) = (0 : Int32)) (hc765 : ¬ ((fn8q Z b687 b680 b665 b477 jd p2 t672 kt672 ([b0c] : List Int32) t480 kt480 ([a0c] : List Int32)) = (0 : Int32))) : False := by
  have s_hc40 : ¬ ((0 : Int32) = sa) := fun q => hc40 q.symm
  have s_hc486 : ¬ ((0 : Int32) = sb) := fun q => hc486 q.symm
  have s_hc701 : ¬ (jd = p2) := fun q => hc701 q.symm
  have s_hc765 : ¬ ((0 : Int32) = (fn8q Z b687 b680 b665 b477 jd p2 t672 kt672 ([b0c] : List Int32) t480 kt480 ([a0c] : List Int32))) := fun q => hc765 q.symm
  simp_all [fn8q]
theorem ab767 {Z : State} (hS : St Z) (p2 : Int32) (sa : Int32) (sb : Int32) (a0c : Int32) (b0c : Int32) (jd : Int32) (rsa : sa = (0 : Int32) ∨ sa = (1 : Int32)) (rsb : sb = (0 : Int32) ∨ sb = (1 : Int32)) (hc40 : ¬ (sa = (0 : Int32))) (hc486 : ¬ (sb = (0 : Int32))) (hc697 : sa = sb) (hc699 : a0c = b0c) (hc701 : ¬ (p2 = jd)) (hc748 : ¬ ((fn8q Z b680 b687 b477 b665 p2 jd t480 kt480 ([a0c] : List Int32) t672 kt672 ([b0c] : List Int32)) = (0 : Int32))) : False := by
  have s_hc40 : ¬ ((0 : Int32) = sa) := fun q => hc40 q.symm
  have s_hc486 : ¬ ((0 : Int32) = sb) := fun q => hc486 q.symm
  have s_hc701 : ¬ (jd = p2) := fun q => hc701 q.symm
  have s_hc748 : ¬ ((0 : Int32) = (fn8q Z b680 b687 b477 b665 p2 jd t480 kt480 ([a0c] : List Int32) t672 kt672 ([b0c] : List Int32))) := fun q => hc748 q.symm
  simp_all [fn8q]
theorem ab799 {Z : State} (hS : St Z) (p2 : Int32) (sa : Int32) (sb : Int32) (a0c : Int32) (b0c : Int32) (jd : Int32) (rsa : sa = (0 : Int32) ∨ sa = (1 : Int32)) (rsb : sb = (0 : Int32) ∨ sb = (1 : Int32)) (hc40 : ¬ (sa = (0 : Int32))) (hc486 : ¬ (sb = (0 : Int32))) (hc697 : sa = sb) (hc699 : ¬ (a0c = b0c)) (hc781 : (fn8q Z b680 b687 b477 b665 p2 jd t480 kt480 ([a0c] : List Int32) t672 kt672 ([b0c] : List Int32)) = (0 : Int32)) (hc798 : ¬ ((fn8q Z b687 b680 b665 b477 jd p2 t672 kt672 ([b0c] : List Int32) t480 kt480 ([a0c] : List Int32)) = (0 : Int32))) : False := by
  have s_hc40 : ¬ ((0 : Int32) = sa) := fun q => hc40 q.symm
  have s_hc486 : ¬ ((0 : Int32) = sb) := fun q => hc486 q.symm
  have s_hc699 : ¬ (b0c = a0c) := fun q => hc699 q.symm
  have s_hc798 : ¬ ((0 : Int32) = (fn8q Z b687 b680 b665 b477 jd p2 t672 kt672 ([b0c] : List Int32) t480 kt480 ([a0c] : List Int32))) := fun q => hc798 q.symm
  simp_all [fn8q]
theorem ab800 {Z : State} (hS : St Z) (p2 : Int32) (sa : Int32) (sb : Int32) (a0c : Int32) (b0c : Int32) (jd : Int32) (rsa : sa = (0 : Int32) ∨ sa = (1 : Int32)) (rsb : sb = (0 : Int32) ∨ sb = (1 : Int32)) (hc40 : ¬ (sa = (0 : Int32))) (hc486 : ¬ (sb = (0 : Int32))) (hc697 : sa = sb) (hc699 : ¬ (a0c = b0c)) (hc781 : ¬ ((fn8q Z b680 b687 b477 b665 p2 jd t480 kt480 ([a0c] : List Int32) t672 kt672 ([b0c] : List Int32)) = (0 : Int32))) : False := by
  have s_hc40 : ¬ ((0 : Int32) = sa) := fun q => hc40 q.symm
  have s_hc486 : ¬ ((0 : Int32) = sb) := fun q => hc486 q.symm
  have s_hc699 : ¬ (b0c = a0c) := fun q => hc699 q.symm
  have s_hc781 : ¬ ((0 : Int32) = (fn8q Z b680 b687 b477 b665 p2 jd t480 kt480 ([a0c] : List Int32) t672 kt672 ([b0c] : List Int32))) := fun q => hc781 q.symm
  simp_all [fn8q]
theorem ab832 {Z : State} (hS : St Z) (p2 : Int32) (sa : Int32) (sb : Int32) (a0c : Int32) (b0c : Int32) (jd : Int32) (rsa : sa = (0 : Int32) ∨ sa = (1 : Int32)) (rsb : sb = (0 : Int32) ∨ sb = (1 : Int32)) (hc40 : ¬ (sa = (0 : Int32))) (hc486 : ¬ (sb = (0 : Int32))) (hc697 : ¬ (sa = sb)) (hc814 : (fn8q Z b680 b687 b477 b665 p2 jd t480 kt480 ([a0c] : List Int32) t672 kt672 ([b0c] : List Int32)) = (0 : Int32)) (hc831 : ¬ ((fn8q Z b687 b680 b665 b477 jd p2 t672 kt672 ([b0c] : List Int32) t480 kt480 ([a0c] : List Int32)) = (0 : Int32))) : False := by
  have s_hc40 : ¬ ((0 : Int32) = sa) := fun q => hc40 q.symm
  have s_hc486 : ¬ ((0 : Int32) = sb) := fun q => hc486 q.symm
  have s_hc697 : ¬ (sb = sa) := fun q => hc697 q.symm
  have s_hc831 : ¬ ((0 : Int32) = (fn8q Z b687 b680 b665 b477 jd p2 t672 kt672 ([b0c] : List Int32) t480 kt480 ([a0c] : List Int32))) := fun q => hc831 q.symm
  simp_all [fn8q]
theorem ab833 {Z : State} (hS : St Z) (p2 : Int32) (sa : Int32) (sb : Int32) (a0c : Int32) (b0c : Int32) (jd : Int32) (rsa : sa = (0 : Int32) ∨ sa = (1 : Int32)) (rsb : sb = (0 : Int32) ∨ sb = (1 : Int32)) (hc40 : ¬ (sa = (0 : Int32))) (hc486 : ¬ (sb = (0 : Int32))) (hc697 : ¬ (sa = sb)) (hc814 : ¬ ((fn8q Z b680 b687 b477 b665 p2 jd t480 kt480 ([a0c] : List Int32) t672 kt672 ([b0c] : List Int32)) = (0 : Int32))) : False := by
  have s_hc40 : ¬ ((0 : Int32) = sa) := fun q => hc40 q.symm
  have s_hc486 : ¬ ((0 : Int32) = sb) := fun q => hc486 q.symm
  have s_hc697 : ¬ (sb = sa) := fun q => hc697 q.symm
  have s_hc814 : ¬ ((0 : Int32) = (fn8q Z b680 b687 b477 b665 p2 jd t480 kt480 ([a0c] : List Int32) t672 kt672 ([b0c] : List Int32))) := fun q => hc814 q.symm
  simp_all [fn8q]
theorem ef_0 (m : MethodId) (x0 : Int32) (x1 : Int32) (x2 : Int32) (x3 : Int32) (x4 : Int32) : entryFrame m #[(.int x0), (.int x1), (.int x2), (.int x3), (.int x4)] maxLocals = mkF m 0 #[.val (.int x0), .val (.int x1), .val (.int x2), .val (.int x3), .val (.int x4), .unset, .unset, .unset, .unset, .unset, .unset, .unset, .unset, .unset, .unset, .unset, .unset, .unset, .unset, .unset, .unset, .unset] [] := by first | (simp [entryFrame, mkF, argsToLocals, Value.category, maxLocals]; done) | rfl
theorem pn_1 : plainName "com/example/narada/narada/store/QueueKeyEqualsPinLaw" = true := by first | (simp [plainName, overriddenIn]; done) | decide +kernel
set_option maxRecDepth 65536 in
set_option maxHeartbeats 40000000 in
theorem rm0 (l : Launch) (Z : State) (a0 : Array Value) (hw : ∀ d ∈ tables_1, d.before a0 Z = true) (hS : St Z) (ws : List Jvm.Cond) (p0 : Int32) (p1 : Int32) (p2 : Int32) (p3 : Int32) (p4 : Int32) (h0 : Heap) (n0 : Nat) (O0 : Old Z n0 h0) :
    MetFree l x (head1 (Jvm.Cond.code x code maxLocals ret :: ws) room_1) (fun a U => a = #[(.int p0), (.int p1), (.int p2), (.int p3), (.int p4)] ∧ Z.Warmed39 U.vm ∧ U.heap = h0) (fun _ _ _ _ _ => True) (fun _ U o U' => ∃ v L, o = .returned v ∧ own_Q (fun v hE L => v = some (.int (1 : Int32)) ∧ Fr n0 L ∧ Keep h0 hE []) v U'.heap L ∧ FrameEnd U o U' L room_1.cells room_1.slots) := by
  refine MetFree.of_bodySF (plainFor_of_name pn_1) hisR ?_
  intro p e s m args below meth c s₁ Bd hml0 hP hK
  obtain ⟨rfl, hZ, hh⟩ := hP
  have hx := Bd.exec
  have hby := Bd.bytes
  have hml : c.maxLocals = 22 := hml0
  have hown : s.vm.findClass "com/example/narada/narada/store/QueueKeyEqualsPinLaw" = some m.cls := findClass_of_methodNamed Bd.named
  have hnm := (name_of_methodNamed Bd.named Bd.method).1
  have X0 : Stand p l e room_1 s m #[(.int p0), (.int p1), (.int p2), (.int p3), (.int p4)] below meth c s₁ [] 0 0 := Stand.of_body Bd
  have e0 : s₁.heap = h0 := by rw [← hh, Bd.state]; rfl
  have N0 := Fr.nil n0
  have pre0 : ∀ t, Steps p.tables e below (s₁.setTop (mkF m 0 #[oI p0, oI p1, oI p2, oI p3, oI p4, oU, oU, oU, oU, oU, oU, oU, oU, oU, oU, oU, oU, oU, oU, oU, oU, oU] [])) t → Steps p.tables e below (s₁.setTop (entryFrame m #[(.int p0), (.int p1), (.int p2), (.int p3), (.int p4)] maxLocals)) t := fun t k => castTop (ef_0 m p0 p1 p2 p3 p4) k
  have pre21 : ∀ t, oP p e below s₁ (mkF m 4 #[oI p0, oI p1, oI p2, oI p3, oI p4, oU, oU, oU, oU, oU, oU, oU, oU, oU, oU, oU, oU, oU, oU, oU, oU, oU] [(.int (p4 &&& (1 : Int32)))]) t → oP p e below s₁ (entryFrame m #[(.int p0), (.int p1), (.int p2), (.int p3), (.int p4)] maxLocals) t := fun t k => pre0 t (by
    show oP p e below s₁ (mkF m 0 #[oI p0, oI p1, oI p2, oI p3, oI p4, oU, oU, oU, oU, oU, oU, oU, oU, oU, oU, oU, oU, oU, oU, oU, oU, oU] []) _
    refine XS.iload X0.here hx rfl (hb hby at_0) rfl ?_
    show oP p e below s₁ (mkF m 2 #[oI p0, oI p1, oI p2, oI p3, oI p4, oU, oU, oU, oU, oU, oU, oU, oU, oU, oU, oU, oU, oU, oU, oU, oU, oU] [(.int p4)]) _
    refine XS.iconst X0.here hx rfl (hb hby at_2) ?_
    show oP p e below s₁ (mkF m 3 #[oI p0, oI p1, oI p2, oI p3, oI p4, oU, oU, oU, oU, oU, oU, oU, oU, oU, oU, oU, oU, oU, oU, oU, oU, oU] [(.int (1 : Int32)), (.int p4)]) _
    refine XS.iand X0.here hx rfl (hb hby at_3) rfl ?_
    exact k)
  obtain ⟨sc, hsc, pre23⟩ : ∃ sc : Int32, ((((p4 &&& (1 : Int32)) = (0 : Int32)) ∧ sc = (0 : Int32)) ∨ (¬ ((p4 &&& (1 : Int32)) = (0 : Int32)) ∧ sc = (1 : Int32))) ∧ ∀ t, oP p e below s₁ (mkF m 12 #[oI p0, oI p1, oI p2, oI p3, oI p4, oU, oU, oU, oU, oU, oU, oU, oU, oU, oU, oU, oU, oU, oU, oU, oU, oU] [(.int sc)]) t → oP p e below s₁ (entryFrame m #[(.int p0), (.int p1), (.int p2), (.int p3), (.int p4)] maxLocals) t := by
    by_cases hc22 : (p4 &&& (1 : Int32)) = (0 : Int32)
    · refine ⟨(0 : Int32), Or.inl ⟨hc22, rfl⟩, fun t k => pre21 t (by
        show oP p e below s₁ (mkF m 4 #[oI p0, oI p1, oI p2, oI p3, oI p4, oU, oU, oU, oU, oU, oU, oU, oU, oU, oU, oU, oU, oU, oU, oU, oU, oU] [(.int (p4 &&& (1 : Int32)))]) _
        refine XS.ifYes X0.here hx rfl (pc0 := 4) (pc' := 11) rfl (hb hby at_4) rfl ((if0 _ _).trans (teq hc22).1) (by decide) (by decide) ?_
        show oP p e below s₁ (mkF m 11 #[oI p0, oI p1, oI p2, oI p3, oI p4, oU, oU, oU, oU, oU, oU, oU, oU, oU, oU, oU, oU, oU, oU, oU, oU, oU] []) _
        refine XS.iconst X0.here hx rfl (hb hby at_11) ?_
        exact k)⟩
    · refine ⟨(1 : Int32), Or.inr (⟨hc22, rfl⟩), fun t k => pre21 t (by
        show oP p e below s₁ (mkF m 4 #[oI p0, oI p1, oI p2, oI p3, oI p4, oU, oU, oU, oU, oU, oU, oU, oU, oU, oU, oU, oU, oU, oU, oU, oU, oU] [(.int (p4 &&& (1 : Int32)))]) _
        refine XS.ifNo X0.here hx rfl (hb hby at_4) rfl ((if0 _ _).trans (feq hc22).1) ?_
        show oP p e below s₁ (mkF m 7 #[oI p0, oI p1, oI p2, oI p3, oI p4, oU, oU, oU, oU, oU, oU, oU, oU, oU, oU, oU, oU, oU, oU, oU, oU, oU] []) _
        refine XS.iconst X0.here hx rfl (hb hby at_7) ?_
        show oP p e below s₁ (mkF m 8 #[oI p0, oI p1, oI p2, oI p3, oI p4, oU, oU, oU, oU, oU, oU, oU, oU, oU, oU, oU, oU, oU, oU, oU, oU, oU] [(.int (1 : Int32))]) _
        refine XS.goto X0.here hx rfl (pc0 := 8) (pc' := 12) rfl (hb hby at_8) (by decide) (by decide) ?_
        exact k)⟩
  have rsc : sc = (0 : Int32) ∨ sc = (1 : Int32) := by rcases hsc with ⟨-, h⟩ | ⟨-, h⟩ <;> first | exact Or.inl h | exact Or.inr h
  have pre24 : ∀ t, oP p e below s₁ (mkF m 18 #[oI p0, oI p1, oI p2, oI p3, oI p4, oI sc, oU, oU, oU, oU, oU, oU, oU, oU, oU, oU, oU, oU, oU, oU, oU, oU] [(.int (p4 &&& (2 : Int32)))]) t → oP p e below s₁ (entryFrame m #[(.int p0), (.int p1), (.int p2), (.int p3), (.int p4)] maxLocals) t := fun t k => pre23 t (by
    show oP p e below s₁ (mkF m 12 #[oI p0, oI p1, oI p2, oI p3, oI p4, oU, oU, oU, oU, oU, oU, oU, oU, oU, oU, oU, oU, oU, oU, oU, oU, oU] [(.int sc)]) _
    refine XS.istore X0.here hx rfl (hb hby at_12) rfl (l' := #[oI p0, oI p1, oI p2, oI p3, oI p4, oI sc, oU, oU, oU, oU, oU, oU, oU, oU, oU, oU, oU, oU, oU, oU, oU, oU]) rfl ?_
    show oP p e below s₁ (mkF m 14 #[oI p0, oI p1, oI p2, oI p3, oI p4, oI sc, oU, oU, oU, oU, oU, oU, oU, oU, oU, oU, oU, oU, oU, oU, oU, oU] []) _
    refine XS.iload X0.here hx rfl (hb hby at_14) rfl ?_
    show oP p e below s₁ (mkF m 16 #[oI p0, oI p1, oI p2, oI p3, oI p4, oI sc, oU, oU, oU, oU, oU, oU, oU, oU, oU, oU, oU, oU, oU, oU, oU, oU] [(.int p4)]) _
    refine XS.iconst X0.here hx rfl (hb hby at_16) ?_
    show oP p e below s₁ (mkF m 17 #[oI p0, oI p1, oI p2, oI p3, oI p4, oI sc, oU, oU, oU, oU, oU, oU, oU, oU, oU, oU, oU, oU, oU, oU, oU, oU] [(.int (2 : Int32)), (.int p4)]) _
    refine XS.iand X0.here hx rfl (hb hby at_17) rfl ?_
    exact k)
  obtain ⟨sa, hsa, pre26⟩ : ∃ sa : Int32, ((((p4 &&& (2 : Int32)) = (0 : Int32)) ∧ sa = (0 : Int32)) ∨ (¬ ((p4 &&& (2 : Int32)) = (0 : Int32)) ∧ sa = (1 : Int32))) ∧ ∀ t, oP p e below s₁ (mkF m 26 #[oI p0, oI p1, oI p2, oI p3, oI p4, oI sc, oU, oU, oU, oU, oU, oU, oU, oU, oU, oU, oU, oU, oU, oU, oU, oU] [(.int sa)]) t → oP p e below s₁ (entryFrame m #[(.int p0), (.int p1), (.int p2), (.int p3), (.int p4)] maxLocals) t := by
    by_cases hc25 : (p4 &&& (2 : Int32)) = (0 : Int32)
    · refine ⟨(0 : Int32), Or.inl ⟨hc25, rfl⟩, fun t k => pre24 t (by
        show oP p e below s₁ (mkF m 18 #[oI p0, oI p1, oI p2, oI p3, oI p4, oI sc, oU, oU, oU, oU, oU, oU, oU, oU, oU, oU, oU, oU, oU, oU, oU, oU] [(.int (p4 &&& (2 : Int32)))]) _
        refine XS.ifYes X0.here hx rfl (pc0 := 18) (pc' := 25) rfl (hb hby at_18) rfl ((if0 _ _).trans (teq hc25).1) (by decide) (by decide) ?_
        show oP p e below s₁ (mkF m 25 #[oI p0, oI p1, oI p2, oI p3, oI p4, oI sc, oU, oU, oU, oU, oU, oU, oU, oU, oU, oU, oU, oU, oU, oU, oU, oU] []) _
        refine XS.iconst X0.here hx rfl (hb hby at_25) ?_
        exact k)⟩
    · refine ⟨(1 : Int32), Or.inr (⟨hc25, rfl⟩), fun t k => pre24 t (by
        show oP p e below s₁ (mkF m 18 #[oI p0, oI p1, oI p2, oI p3, oI p4, oI sc, oU, oU, oU, oU, oU, oU, oU, oU, oU, oU, oU, oU, oU, oU, oU, oU] [(.int (p4 &&& (2 : Int32)))]) _
        refine XS.ifNo X0.here hx rfl (hb hby at_18) rfl ((if0 _ _).trans (feq hc25).1) ?_
        show oP p e below s₁ (mkF m 21 #[oI p0, oI p1, oI p2, oI p3, oI p4, oI sc, oU, oU, oU, oU, oU, oU, oU, oU, oU, oU, oU, oU, oU, oU, oU, oU] []) _
        refine XS.iconst X0.here hx rfl (hb hby at_21) ?_
        show oP p e below s₁ (mkF m 22 #[oI p0, oI p1, oI p2, oI p3, oI p4, oI sc, oU, oU, oU, oU, oU, oU, oU, oU, oU, oU, oU, oU, oU, oU, oU, oU] [(.int (1 : Int32))]) _
        refine XS.goto X0.here hx rfl (pc0 := 22) (pc' := 26) rfl (hb hby at_22) (by decide) (by decide) ?_
        exact k)⟩
  have rsa : sa = (0 : Int32) ∨ sa = (1 : Int32) := by rcases hsa with ⟨-, h⟩ | ⟨-, h⟩ <;> first | exact Or.inl h | exact Or.inr h
  have pre27 : ∀ t, oP p e below s₁ (mkF m 32 #[oI p0, oI p1, oI p2, oI p3, oI p4, oI sc, oI sa, oU, oU, oU, oU, oU, oU, oU, oU, oU, oU, oU, oU, oU, oU, oU] [(.int (p4 &&& (4 : Int32)))]) t → oP p e below s₁ (entryFrame m #[(.int p0), (.int p1), (.int p2), (.int p3), (.int p4)] maxLocals) t := fun t k => pre26 t (by
    show oP p e below s₁ (mkF m 26 #[oI p0, oI p1, oI p2, oI p3, oI p4, oI sc, oU, oU, oU, oU, oU, oU, oU, oU, oU, oU, oU, oU, oU, oU, oU, oU] [(.int sa)]) _
    refine XS.istore X0.here hx rfl (hb hby at_26) rfl (l' := #[oI p0, oI p1, oI p2, oI p3, oI p4, oI sc, oI sa, oU, oU, oU, oU, oU, oU, oU, oU, oU, oU, oU, oU, oU, oU, oU]) rfl ?_
    show oP p e below s₁ (mkF m 28 #[oI p0, oI p1, oI p2, oI p3, oI p4, oI sc, oI sa, oU, oU, oU, oU, oU, oU, oU, oU, oU, oU, oU, oU, oU, oU, oU] []) _
    refine XS.iload X0.here hx rfl (hb hby at_28) rfl ?_
    show oP p e below s₁ (mkF m 30 #[oI p0, oI p1, oI p2, oI p3, oI p4, oI sc, oI sa, oU, oU, oU, oU, oU, oU, oU, oU, oU, oU, oU, oU, oU, oU, oU] [(.int p4)]) _
    refine XS.iconst X0.here hx rfl (hb hby at_30) ?_
    show oP p e below s₁ (mkF m 31 #[oI p0, oI p1, oI p2, oI p3, oI p4, oI sc, oI sa, oU, oU, oU, oU, oU, oU, oU, oU, oU, oU, oU, oU, oU, oU, oU] [(.int (4 : Int32)), (.int p4)]) _
    refine XS.iand X0.here hx rfl (hb hby at_31) rfl ?_
    exact k)
  obtain ⟨sb, hsb, pre29⟩ : ∃ sb : Int32, ((((p4 &&& (4 : Int32)) = (0 : Int32)) ∧ sb = (0 : Int32)) ∨ (¬ ((p4 &&& (4 : Int32)) = (0 : Int32)) ∧ sb = (1 : Int32))) ∧ ∀ t, oP p e below s₁ (mkF m 40 #[oI p0, oI p1, oI p2, oI p3, oI p4, oI sc, oI sa, oU, oU, oU, oU, oU, oU, oU, oU, oU, oU, oU, oU, oU, oU, oU] [(.int sb)]) t → oP p e below s₁ (entryFrame m #[(.int p0), (.int p1), (.int p2), (.int p3), (.int p4)] maxLocals) t := by
    by_cases hc28 : (p4 &&& (4 : Int32)) = (0 : Int32)
    · refine ⟨(0 : Int32), Or.inl ⟨hc28, rfl⟩, fun t k => pre27 t (by
        show oP p e below s₁ (mkF m 32 #[oI p0, oI p1, oI p2, oI p3, oI p4, oI sc, oI sa, oU, oU, oU, oU, oU, oU, oU, oU, oU, oU, oU, oU, oU, oU, oU] [(.int (p4 &&& (4 : Int32)))]) _
        refine XS.ifYes X0.here hx rfl (pc0 := 32) (pc' := 39) rfl (hb hby at_32) rfl ((if0 _ _).trans (teq hc28).1) (by decide) (by decide) ?_
        show oP p e below s₁ (mkF m 39 #[oI p0, oI p1, oI p2, oI p3, oI p4, oI sc, oI sa, oU, oU, oU, oU, oU, oU, oU, oU, oU, oU, oU, oU, oU, oU, oU] []) _
        refine XS.iconst X0.here hx rfl (hb hby at_39) ?_
        exact k)⟩
    · refine ⟨(1 : Int32), Or.inr (⟨hc28, rfl⟩), fun t k => pre27 t (by
        show oP p e below s₁ (mkF m 32 #[oI p0, oI p1, oI p2, oI p3, oI p4, oI sc, oI sa, oU, oU, oU, oU, oU, oU, oU, oU, oU, oU, oU, oU, oU, oU, oU] [(.int (p4 &&& (4 : Int32)))]) _
        refine XS.ifNo X0.here hx rfl (hb hby at_32) rfl ((if0 _ _).trans (feq hc28).1) ?_
        show oP p e below s₁ (mkF m 35 #[oI p0, oI p1, oI p2, oI p3, oI p4, oI sc, oI sa, oU, oU, oU, oU, oU, oU, oU, oU, oU, oU, oU, oU, oU, oU, oU] []) _
        refine XS.iconst X0.here hx rfl (hb hby at_35) ?_
        show oP p e below s₁ (mkF m 36 #[oI p0, oI p1, oI p2, oI p3, oI p4, oI sc, oI sa, oU, oU, oU, oU, oU, oU, oU, oU, oU, oU, oU, oU, oU, oU, oU] [(.int (1 : Int32))]) _
        refine XS.goto X0.here hx rfl (pc0 := 36) (pc' := 40) rfl (hb hby at_36) (by decide) (by decide) ?_
        exact k)⟩
  have rsb : sb = (0 : Int32) ∨ sb = (1 : Int32) := by rcases hsb with ⟨-, h⟩ | ⟨-, h⟩ <;> first | exact Or.inl h | exact Or.inr h
  have pre30 : ∀ t, oP p e below s₁ (mkF m 47 #[oI p0, oI p1, oI p2, oI p3, oI p4, oI sc, oI sa, oI sb, oU, oU, oU, oU, oU, oU, oU, oU, oU, oU, oU, oU, oU, oU] [(.int (p4 &&& (8 : Int32)))]) t → oP p e below s₁ (entryFrame m #[(.int p0), (.int p1), (.int p2), (.int p3), (.int p4)] maxLocals) t := fun t k => pre29 t (by
    show oP p e below s₁ (mkF m 40 #[oI p0, oI p1, oI p2, oI p3, oI p4, oI sc, oI sa, oU, oU, oU, oU, oU, oU, oU, oU, oU, oU, oU, oU, oU, oU, oU] [(.int sb)]) _
    refine XS.istore X0.here hx rfl (hb hby at_40) rfl (l' := #[oI p0, oI p1, oI p2, oI p3, oI p4, oI sc, oI sa, oI sb, oU, oU, oU, oU, oU, oU, oU, oU, oU, oU, oU, oU, oU, oU]) rfl ?_
    show oP p e below s₁ (mkF m 42 #[oI p0, oI p1, oI p2, oI p3, oI p4, oI sc, oI sa, oI sb, oU, oU, oU, oU, oU, oU, oU, oU, oU, oU, oU, oU, oU, oU] []) _
    refine XS.iload X0.here hx rfl (hb hby at_42) rfl ?_
    show oP p e below s₁ (mkF m 44 #[oI p0, oI p1, oI p2, oI p3, oI p4, oI sc, oI sa, oI sb, oU, oU, oU, oU, oU, oU, oU, oU, oU, oU, oU, oU, oU, oU] [(.int p4)]) _
    refine XS.bipush X0.here hx rfl (hb hby at_44) ?_
    show oP p e below s₁ (mkF m 46 #[oI p0, oI p1, oI p2, oI p3, oI p4, oI sc, oI sa, oI sb, oU, oU, oU, oU, oU, oU, oU, oU, oU, oU, oU, oU, oU, oU] [(.int (8 : Int32)), (.int p4)]) _
    refine XS.iand X0.here hx rfl (hb hby at_46) rfl ?_
    exact k)
  obtain ⟨si, hsi, pre32⟩ : ∃ si : Int32, ((((p4 &&& (8 : Int32)) = (0 : Int32)) ∧ si = (0 : Int32)) ∨ (¬ ((p4 &&& (8 : Int32)) = (0 : Int32)) ∧ si = (1 : Int32))) ∧ ∀ t, oP p e below s₁ (mkF m 55 #[oI p0, oI p1, oI p2, oI p3, oI p4, oI sc, oI sa, oI sb, oU, oU, oU, oU, oU, oU, oU, oU, oU, oU, oU, oU, oU, oU] [(.int si)]) t → oP p e below s₁ (entryFrame m #[(.int p0), (.int p1), (.int p2), (.int p3), (.int p4)] maxLocals) t := by
    by_cases hc31 : (p4 &&& (8 : Int32)) = (0 : Int32)
    · refine ⟨(0 : Int32), Or.inl ⟨hc31, rfl⟩, fun t k => pre30 t (by
        show oP p e below s₁ (mkF m 47 #[oI p0, oI p1, oI p2, oI p3, oI p4, oI sc, oI sa, oI sb, oU, oU, oU, oU, oU, oU, oU, oU, oU, oU, oU, oU, oU, oU] [(.int (p4 &&& (8 : Int32)))]) _
        refine XS.ifYes X0.here hx rfl (pc0 := 47) (pc' := 54) rfl (hb hby at_47) rfl ((if0 _ _).trans (teq hc31).1) (by decide) (by decide) ?_
        show oP p e below s₁ (mkF m 54 #[oI p0, oI p1, oI p2, oI p3, oI p4, oI sc, oI sa, oI sb, oU, oU, oU, oU, oU, oU, oU, oU, oU, oU, oU, oU, oU, oU] []) _
        refine XS.iconst X0.here hx rfl (hb hby at_54) ?_
        exact k)⟩
    · refine ⟨(1 : Int32), Or.inr (⟨hc31, rfl⟩), fun t k => pre30 t (by
        show oP p e below s₁ (mkF m 47 #[oI p0, oI p1, oI p2, oI p3, oI p4, oI sc, oI sa, oI sb, oU, oU, oU, oU, oU, oU, oU, oU, oU, oU, oU, oU, oU, oU] [(.int (p4 &&& (8 : Int32)))]) _
        refine XS.ifNo X0.here hx rfl (hb hby at_47) rfl ((if0 _ _).trans (feq hc31).1) ?_
        show oP p e below s₁ (mkF m 50 #[oI p0, oI p1, oI p2, oI p3, oI p4, oI sc, oI sa, oI sb, oU, oU, oU, oU, oU, oU, oU, oU, oU, oU, oU, oU, oU, oU] []) _
        refine XS.iconst X0.here hx rfl (hb hby at_50) ?_
        show oP p e below s₁ (mkF m 51 #[oI p0, oI p1, oI p2, oI p3, oI p4, oI sc, oI sa, oI sb, oU, oU, oU, oU, oU, oU, oU, oU, oU, oU, oU, oU, oU, oU] [(.int (1 : Int32))]) _
        refine XS.goto X0.here hx rfl (pc0 := 51) (pc' := 55) rfl (hb hby at_51) (by decide) (by decide) ?_
        exact k)⟩
  have rsi : si = (0 : Int32) ∨ si = (1 : Int32) := by rcases hsi with ⟨-, h⟩ | ⟨-, h⟩ <;> first | exact Or.inl h | exact Or.inr h
  obtain ⟨kd, hkd⟩ : ∃ z, z = (((p4.toUInt32 >>> ((4 : Int32) &&& 31).toUInt32).toInt32) &&& (3 : Int32)) := ⟨_, rfl⟩
  have rkd : kd = (0 : Int32) ∨ kd = (1 : Int32) ∨ kd = (2 : Int32) ∨ kd = (3 : Int32) := by rw [hkd]; exact rng_mask3 _
  obtain ⟨a0c, ha0c⟩ : ∃ z, z = ((p0 &&& (255 : Int32)).toUInt32.toUInt16.toUInt32.toInt32) := ⟨_, rfl⟩
  have ea0c : a0c = (p0 &&& (255 : Int32)) := ha0c.trans (i2c_mask _)
  have ra0c := own_char ea0c
  obtain ⟨a1c, ha1c⟩ : ∃ z, z = ((((p0.toUInt32 >>> ((8 : Int32) &&& 31).toUInt32).toInt32) &&& (255 : Int32)).toUInt32.toUInt16.toUInt32.toInt32) := ⟨_, rfl⟩
  have ea1c : a1c = (((p0.toUInt32 >>> ((8 : Int32) &&& 31).toUInt32).toInt32) &&& (255 : Int32)) := ha1c.trans (i2c_mask _)
  have ra1c := own_char ea1c
  have pre33 : ∀ t, oP p e below s₁ (mkF m 86 #[oI p0, oI p1, oI p2, oI p3, oI p4, oI sc, oI sa, oI sb, oI si, oI kd, oI a0c, oI a1c, oU, oU, oU, oU, oU, oU, oU, oU, oU, oU] [(.int sc)]) t → oP p e below s₁ (entryFrame m #[(.int p0), (.int p1), (.int p2), (.int p3), (.int p4)] maxLocals) t := fun t k => pre32 t (by
    show oP p e below s₁ (mkF m 55 #[oI p0, oI p1, oI p2, oI p3, oI p4, oI sc, oI sa, oI sb, oU, oU, oU, oU, oU, oU, oU, oU, oU, oU, oU, oU, oU, oU] [(.int si)]) _
    refine XS.istore X0.here hx rfl (hb hby at_55) rfl (l' := #[oI p0, oI p1, oI p2, oI p3, oI p4, oI sc, oI sa, oI sb, oI si, oU, oU, oU, oU, oU, oU, oU, oU, oU, oU, oU, oU, oU]) rfl ?_
    show oP p e below s₁ (mkF m 57 #[oI p0, oI p1, oI p2, oI p3, oI p4, oI sc, oI sa, oI sb, oI si, oU, oU, oU, oU, oU, oU, oU, oU, oU, oU, oU, oU, oU] []) _
    refine XS.iload X0.here hx rfl (hb hby at_57) rfl ?_
    show oP p e below s₁ (mkF m 59 #[oI p0, oI p1, oI p2, oI p3, oI p4, oI sc, oI sa, oI sb, oI si, oU, oU, oU, oU, oU, oU, oU, oU, oU, oU, oU, oU, oU] [(.int p4)]) _
    refine XS.iconst X0.here hx rfl (hb hby at_59) ?_
    show oP p e below s₁ (mkF m 60 #[oI p0, oI p1, oI p2, oI p3, oI p4, oI sc, oI sa, oI sb, oI si, oU, oU, oU, oU, oU, oU, oU, oU, oU, oU, oU, oU, oU] [(.int (4 : Int32)), (.int p4)]) _
    refine XS.iushr X0.here hx rfl (hb hby at_60) rfl ?_
    show oP p e below s₁ (mkF m 61 #[oI p0, oI p1, oI p2, oI p3, oI p4, oI sc, oI sa, oI sb, oI si, oU, oU, oU, oU, oU, oU, oU, oU, oU, oU, oU, oU, oU] [(.int ((p4.toUInt32 >>> ((4 : Int32) &&& 31).toUInt32).toInt32))]) _
    refine XS.iconst X0.here hx rfl (hb hby at_61) ?_
    show oP p e below s₁ (mkF m 62 #[oI p0, oI p1, oI p2, oI p3, oI p4, oI sc, oI sa, oI sb, oI si, oU, oU, oU, oU, oU, oU, oU, oU, oU, oU, oU, oU, oU] [(.int (3 : Int32)), (.int ((p4.toUInt32 >>> ((4 : Int32) &&& 31).toUInt32).toInt32))]) _
    refine XS.iand X0.here hx rfl (hb hby at_62) rfl ?_
    show oP p e below s₁ (mkF m 63 #[oI p0, oI p1, oI p2, oI p3, oI p4, oI sc, oI sa, oI sb, oI si, oU, oU, oU, oU, oU, oU, oU, oU, oU, oU, oU, oU, oU] [(.int (((p4.toUInt32 >>> ((4 : Int32) &&& 31).toUInt32).toInt32) &&& (3 : Int32)))]) _
    rw [← hkd]
    show oP p e below s₁ (mkF m 63 #[oI p0, oI p1, oI p2, oI p3, oI p4, oI sc, oI sa, oI sb, oI si, oU, oU, oU, oU, oU, oU, oU, oU, oU, oU, oU, oU, oU] [(.int kd)]) _
    refine XS.istore X0.here hx rfl (hb hby at_63) rfl (l' := #[oI p0, oI p1, oI p2, oI p3, oI p4, oI sc, oI sa, oI sb, oI si, oI kd, oU, oU, oU, oU, oU, oU, oU, oU, oU, oU, oU, oU]) rfl ?_
    show oP p e below s₁ (mkF m 65 #[oI p0, oI p1, oI p2, oI p3, oI p4, oI sc, oI sa, oI sb, oI si, oI kd, oU, oU, oU, oU, oU, oU, oU, oU, oU, oU, oU, oU] []) _
    refine XS.iloadN X0.here hx rfl (hb hby at_65) rfl ?_
    show oP p e below s₁ (mkF m 66 #[oI p0, oI p1, oI p2, oI p3, oI p4, oI sc, oI sa, oI sb, oI si, oI kd, oU, oU, oU, oU, oU, oU, oU, oU, oU, oU, oU, oU] [(.int p0)]) _
    refine XS.sipush X0.here hx rfl (hb hby at_66) ?_
    show oP p e below s₁ (mkF m 69 #[oI p0, oI p1, oI p2, oI p3, oI p4, oI sc, oI sa, oI sb, oI si, oI kd, oU, oU, oU, oU, oU, oU, oU, oU, oU, oU, oU, oU] [(.int (255 : Int32)), (.int p0)]) _
    refine XS.iand X0.here hx rfl (hb hby at_69) rfl ?_
    show oP p e below s₁ (mkF m 70 #[oI p0, oI p1, oI p2, oI p3, oI p4, oI sc, oI sa, oI sb, oI si, oI kd, oU, oU, oU, oU, oU, oU, oU, oU, oU, oU, oU, oU] [(.int (p0 &&& (255 : Int32)))]) _
    refine XS.i2c X0.here hx rfl (hb hby at_70) rfl ?_
    show oP p e below s₁ (mkF m 71 #[oI p0, oI p1, oI p2, oI p3, oI p4, oI sc, oI sa, oI sb, oI si, oI kd, oU, oU, oU, oU, oU, oU, oU, oU, oU, oU, oU, oU] [(.int ((p0 &&& (255 : Int32)).toUInt32.toUInt16.toUInt32.toInt32))]) _
    rw [← ha0c]
    show oP p e below s₁ (mkF m 71 #[oI p0, oI p1, oI p2, oI p3, oI p4, oI sc, oI sa, oI sb, oI si, oI kd, oU, oU, oU, oU, oU, oU, oU, oU, oU, oU, oU, oU] [(.int a0c)]) _
    refine XS.istore X0.here hx rfl (hb hby at_71) rfl (l' := #[oI p0, oI p1, oI p2, oI p3, oI p4, oI sc, oI sa, oI sb, oI si, oI kd, oI a0c, oU, oU, oU, oU, oU, oU, oU, oU, oU, oU, oU]) rfl ?_
    show oP p e below s₁ (mkF m 73 #[oI p0, oI p1, oI p2, oI p3, oI p4, oI sc, oI sa, oI sb, oI si, oI kd, oI a0c, oU, oU, oU, oU, oU, oU, oU, oU, oU, oU, oU] []) _
    refine XS.iloadN X0.here hx rfl (hb hby at_73) rfl ?_
    show oP p e below s₁ (mkF m 74 #[oI p0, oI p1, oI p2, oI p3, oI p4, oI sc, oI sa, oI sb, oI si, oI kd, oI a0c, oU, oU, oU, oU, oU, oU, oU, oU, oU, oU, oU] [(.int p0)]) _
    refine XS.bipush X0.here hx rfl (hb hby at_74) ?_
    show oP p e below s₁ (mkF m 76 #[oI p0, oI p1, oI p2, oI p3, oI p4, oI sc, oI sa, oI sb, oI si, oI kd, oI a0c, oU, oU, oU, oU, oU, oU, oU, oU, oU, oU, oU] [(.int (8 : Int32)), (.int p0)]) _
    refine XS.iushr X0.here hx rfl (hb hby at_76) rfl ?_
    show oP p e below s₁ (mkF m 77 #[oI p0, oI p1, oI p2, oI p3, oI p4, oI sc, oI sa, oI sb, oI si, oI kd, oI a0c, oU, oU, oU, oU, oU, oU, oU, oU, oU, oU, oU] [(.int ((p0.toUInt32 >>> ((8 : Int32) &&& 31).toUInt32).toInt32))]) _
    refine XS.sipush X0.here hx rfl (hb hby at_77) ?_
    show oP p e below s₁ (mkF m 80 #[oI p0, oI p1, oI p2, oI p3, oI p4, oI sc, oI sa, oI sb, oI si, oI kd, oI a0c, oU, oU, oU, oU, oU, oU, oU, oU, oU, oU, oU] [(.int (255 : Int32)), (.int ((p0.toUInt32 >>> ((8 : Int32) &&& 31).toUInt32).toInt32))]) _
    refine XS.iand X0.here hx rfl (hb hby at_80) rfl ?_
    show oP p e below s₁ (mkF m 81 #[oI p0, oI p1, oI p2, oI p3, oI p4, oI sc, oI sa, oI sb, oI si, oI kd, oI a0c, oU, oU, oU, oU, oU, oU, oU, oU, oU, oU, oU] [(.int (((p0.toUInt32 >>> ((8 : Int32) &&& 31).toUInt32).toInt32) &&& (255 : Int32)))]) _
    refine XS.i2c X0.here hx rfl (hb hby at_81) rfl ?_
    show oP p e below s₁ (mkF m 82 #[oI p0, oI p1, oI p2, oI p3, oI p4, oI sc, oI sa, oI sb, oI si, oI kd, oI a0c, oU, oU, oU, oU, oU, oU, oU, oU, oU, oU, oU] [(.int ((((p0.toUInt32 >>> ((8 : Int32) &&& 31).toUInt32).toInt32) &&& (255 : Int32)).toUInt32.toUInt16.toUInt32.toInt32))]) _
    rw [← ha1c]
    show oP p e below s₁ (mkF m 82 #[oI p0, oI p1, oI p2, oI p3, oI p4, oI sc, oI sa, oI sb, oI si, oI kd, oI a0c, oU, oU, oU, oU, oU, oU, oU, oU, oU, oU, oU] [(.int a1c)]) _
    refine XS.istore X0.here hx rfl (hb hby at_82) rfl (l' := #[oI p0, oI p1, oI p2, oI p3, oI p4, oI sc, oI sa, oI sb, oI si, oI kd, oI a0c, oI a1c, oU, oU, oU, oU, oU, oU, oU, oU, oU, oU]) rfl ?_
    show oP p e below s₁ (mkF m 84 #[oI p0, oI p1, oI p2, oI p3, oI p4, oI sc, oI sa, oI sb, oI si, oI kd, oI a0c, oI a1c, oU, oU, oU, oU, oU, oU, oU, oU, oU, oU] []) _
    refine XS.iload X0.here hx rfl (hb hby at_84) rfl ?_
    exact k)
  obtain ⟨u, hu, pre35⟩ : ∃ u : Int32, (((sc = (0 : Int32)) ∧ u = p1) ∨ (¬ (sc = (0 : Int32)) ∧ u = p0)) ∧ ∀ t, oP p e below s₁ (mkF m 94 #[oI p0, oI p1, oI p2, oI p3, oI p4, oI sc, oI sa, oI sb, oI si, oI kd, oI a0c, oI a1c, oU, oU, oU, oU, oU, oU, oU, oU, oU, oU] [(.int u)]) t → oP p e below s₁ (entryFrame m #[(.int p0), (.int p1), (.int p2), (.int p3), (.int p4)] maxLocals) t := by
    by_cases hc34 : sc = (0 : Int32)
    · refine ⟨p1, Or.inl ⟨hc34, rfl⟩, fun t k => pre33 t (by
        show oP p e below s₁ (mkF m 86 #[oI p0, oI p1, oI p2, oI p3, oI p4, oI sc, oI sa, oI sb, oI si, oI kd, oI a0c, oI a1c, oU, oU, oU, oU, oU, oU, oU, oU, oU, oU] [(.int sc)]) _
        refine XS.ifYes X0.here hx rfl (pc0 := 86) (pc' := 93) rfl (hb hby at_86) rfl ((if0 _ _).trans (teq hc34).1) (by decide) (by decide) ?_
        show oP p e below s₁ (mkF m 93 #[oI p0, oI p1, oI p2, oI p3, oI p4, oI sc, oI sa, oI sb, oI si, oI kd, oI a0c, oI a1c, oU, oU, oU, oU, oU, oU, oU, oU, oU, oU] []) _
        refine XS.iloadN X0.here hx rfl (hb hby at_93) rfl ?_
        exact k)⟩
    · refine ⟨p0, Or.inr (⟨hc34, rfl⟩), fun t k => pre33 t (by
        show oP p e below s₁ (mkF m 86 #[oI p0, oI p1, oI p2, oI p3, oI p4, oI sc, oI sa, oI sb, oI si, oI kd, oI a0c, oI a1c, oU, oU, oU, oU, oU, oU, oU, oU, oU, oU] [(.int sc)]) _
        refine XS.ifNo X0.here hx rfl (hb hby at_86) rfl ((if0 _ _).trans (feq hc34).1) ?_
        show oP p e below s₁ (mkF m 89 #[oI p0, oI p1, oI p2, oI p3, oI p4, oI sc, oI sa, oI sb, oI si, oI kd, oI a0c, oI a1c, oU, oU, oU, oU, oU, oU, oU, oU, oU, oU] []) _
        refine XS.iloadN X0.here hx rfl (hb hby at_89) rfl ?_
        show oP p e below s₁ (mkF m 90 #[oI p0, oI p1, oI p2, oI p3, oI p4, oI sc, oI sa, oI sb, oI si, oI kd, oI a0c, oI a1c, oU, oU, oU, oU, oU, oU, oU, oU, oU, oU] [(.int p0)]) _
        refine XS.goto X0.here hx rfl (pc0 := 90) (pc' := 94) rfl (hb hby at_90) (by decide) (by decide) ?_
        exact k)⟩
  obtain ⟨b0c, hb0c⟩ : ∃ z, z = ((u &&& (255 : Int32)).toUInt32.toUInt16.toUInt32.toInt32) := ⟨_, rfl⟩
  have eb0c : b0c = (u &&& (255 : Int32)) := hb0c.trans (i2c_mask _)
  have rb0c := own_char eb0c
  obtain ⟨b1c, hb1c⟩ : ∃ z, z = ((((u.toUInt32 >>> ((8 : Int32) &&& 31).toUInt32).toInt32) &&& (255 : Int32)).toUInt32.toUInt16.toUInt32.toInt32) := ⟨_, rfl⟩
  have eb1c : b1c = (((u.toUInt32 >>> ((8 : Int32) &&& 31).toUInt32).toInt32) &&& (255 : Int32)) := hb1c.trans (i2c_mask _)
  have rb1c := own_char eb1c
  have pre36 : ∀ t, oP p e below s₁ (mkF m 119 #[oI p0, oI p1, oI p2, oI p3, oI p4, oI sc, oI sa, oI sb, oI si, oI kd, oI a0c, oI a1c, oI u, oI b0c, oI b1c, oU, oU, oU, oU, oU, oU, oU] [(.int si)]) t → oP p e below s₁ (entryFrame m #[(.int p0), (.int p1), (.int p2), (.int p3), (.int p4)] maxLocals) t := fun t k => pre35 t (by
    show oP p e below s₁ (mkF m 94 #[oI p0, oI p1, oI p2, oI p3, oI p4, oI sc, oI sa, oI sb, oI si, oI kd, oI a0c, oI a1c, oU, oU, oU, oU, oU, oU, oU, oU, oU, oU] [(.int u)]) _
    refine XS.istore X0.here hx rfl (hb hby at_94) rfl (l' := #[oI p0, oI p1, oI p2, oI p3, oI p4, oI sc, oI sa, oI sb, oI si, oI kd, oI a0c, oI a1c, oI u, oU, oU, oU, oU, oU, oU, oU, oU, oU]) rfl ?_
    show oP p e below s₁ (mkF m 96 #[oI p0, oI p1, oI p2, oI p3, oI p4, oI sc, oI sa, oI sb, oI si, oI kd, oI a0c, oI a1c, oI u, oU, oU, oU, oU, oU, oU, oU, oU, oU] []) _
    refine XS.iload X0.here hx rfl (hb hby at_96) rfl ?_
    show oP p e below s₁ (mkF m 98 #[oI p0, oI p1, oI p2, oI p3, oI p4, oI sc, oI sa, oI sb, oI si, oI kd, oI a0c, oI a1c, oI u, oU, oU, oU, oU, oU, oU, oU, oU, oU] [(.int u)]) _
    refine XS.sipush X0.here hx rfl (hb hby at_98) ?_
    show oP p e below s₁ (mkF m 101 #[oI p0, oI p1, oI p2, oI p3, oI p4, oI sc, oI sa, oI sb, oI si, oI kd, oI a0c, oI a1c, oI u, oU, oU, oU, oU, oU, oU, oU, oU, oU] [(.int (255 : Int32)), (.int u)]) _
    refine XS.iand X0.here hx rfl (hb hby at_101) rfl ?_
    show oP p e below s₁ (mkF m 102 #[oI p0, oI p1, oI p2, oI p3, oI p4, oI sc, oI sa, oI sb, oI si, oI kd, oI a0c, oI a1c, oI u, oU, oU, oU, oU, oU, oU, oU, oU, oU] [(.int (u &&& (255 : Int32)))]) _
    refine XS.i2c X0.here hx rfl (hb hby at_102) rfl ?_
    show oP p e below s₁ (mkF m 103 #[oI p0, oI p1, oI p2, oI p3, oI p4, oI sc, oI sa, oI sb, oI si, oI kd, oI a0c, oI a1c, oI u, oU, oU, oU, oU, oU, oU, oU, oU, oU] [(.int ((u &&& (255 : Int32)).toUInt32.toUInt16.toUInt32.toInt32))]) _
    rw [← hb0c]
    show oP p e below s₁ (mkF m 103 #[oI p0, oI p1, oI p2, oI p3, oI p4, oI sc, oI sa, oI sb, oI si, oI kd, oI a0c, oI a1c, oI u, oU, oU, oU, oU, oU, oU, oU, oU, oU] [(.int b0c)]) _
    refine XS.istore X0.here hx rfl (hb hby at_103) rfl (l' := #[oI p0, oI p1, oI p2, oI p3, oI p4, oI sc, oI sa, oI sb, oI si, oI kd, oI a0c, oI a1c, oI u, oI b0c, oU, oU, oU, oU, oU, oU, oU, oU]) rfl ?_
    show oP p e below s₁ (mkF m 105 #[oI p0, oI p1, oI p2, oI p3, oI p4, oI sc, oI sa, oI sb, oI si, oI kd, oI a0c, oI a1c, oI u, oI b0c, oU, oU, oU, oU, oU, oU, oU, oU] []) _
    refine XS.iload X0.here hx rfl (hb hby at_105) rfl ?_
    show oP p e below s₁ (mkF m 107 #[oI p0, oI p1, oI p2, oI p3, oI p4, oI sc, oI sa, oI sb, oI si, oI kd, oI a0c, oI a1c, oI u, oI b0c, oU, oU, oU, oU, oU, oU, oU, oU] [(.int u)]) _
    refine XS.bipush X0.here hx rfl (hb hby at_107) ?_
    show oP p e below s₁ (mkF m 109 #[oI p0, oI p1, oI p2, oI p3, oI p4, oI sc, oI sa, oI sb, oI si, oI kd, oI a0c, oI a1c, oI u, oI b0c, oU, oU, oU, oU, oU, oU, oU, oU] [(.int (8 : Int32)), (.int u)]) _
    refine XS.iushr X0.here hx rfl (hb hby at_109) rfl ?_
    show oP p e below s₁ (mkF m 110 #[oI p0, oI p1, oI p2, oI p3, oI p4, oI sc, oI sa, oI sb, oI si, oI kd, oI a0c, oI a1c, oI u, oI b0c, oU, oU, oU, oU, oU, oU, oU, oU] [(.int ((u.toUInt32 >>> ((8 : Int32) &&& 31).toUInt32).toInt32))]) _
    refine XS.sipush X0.here hx rfl (hb hby at_110) ?_
    show oP p e below s₁ (mkF m 113 #[oI p0, oI p1, oI p2, oI p3, oI p4, oI sc, oI sa, oI sb, oI si, oI kd, oI a0c, oI a1c, oI u, oI b0c, oU, oU, oU, oU, oU, oU, oU, oU] [(.int (255 : Int32)), (.int ((u.toUInt32 >>> ((8 : Int32) &&& 31).toUInt32).toInt32))]) _
    refine XS.iand X0.here hx rfl (hb hby at_113) rfl ?_
    show oP p e below s₁ (mkF m 114 #[oI p0, oI p1, oI p2, oI p3, oI p4, oI sc, oI sa, oI sb, oI si, oI kd, oI a0c, oI a1c, oI u, oI b0c, oU, oU, oU, oU, oU, oU, oU, oU] [(.int (((u.toUInt32 >>> ((8 : Int32) &&& 31).toUInt32).toInt32) &&& (255 : Int32)))]) _
    refine XS.i2c X0.here hx rfl (hb hby at_114) rfl ?_
    show oP p e below s₁ (mkF m 115 #[oI p0, oI p1, oI p2, oI p3, oI p4, oI sc, oI sa, oI sb, oI si, oI kd, oI a0c, oI a1c, oI u, oI b0c, oU, oU, oU, oU, oU, oU, oU, oU] [(.int ((((u.toUInt32 >>> ((8 : Int32) &&& 31).toUInt32).toInt32) &&& (255 : Int32)).toUInt32.toUInt16.toUInt32.toInt32))]) _
    rw [← hb1c]
    show oP p e below s₁ (mkF m 115 #[oI p0, oI p1, oI p2, oI p3, oI p4, oI sc, oI sa, oI sb, oI si, oI kd, oI a0c, oI a1c, oI u, oI b0c, oU, oU, oU, oU, oU, oU, oU, oU] [(.int b1c)]) _
    refine XS.istore X0.here hx rfl (hb hby at_115) rfl (l' := #[oI p0, oI p1, oI p2, oI p3, oI p4, oI sc, oI sa, oI sb, oI si, oI kd, oI a0c, oI a1c, oI u, oI b0c, oI b1c, oU, oU, oU, oU, oU, oU, oU]) rfl ?_
    show oP p e below s₁ (mkF m 117 #[oI p0, oI p1, oI p2, oI p3, oI p4, oI sc, oI sa, oI sb, oI si, oI kd, oI a0c, oI a1c, oI u, oI b0c, oI b1c, oU, oU, oU, oU, oU, oU, oU] []) _
    refine XS.iload X0.here hx rfl (hb hby at_117) rfl ?_
    exact k)
  obtain ⟨jd, hjd, pre38⟩ : ∃ jd : Int32, (((si = (0 : Int32)) ∧ jd = p3) ∨ (¬ (si = (0 : Int32)) ∧ jd = p2)) ∧ ∀ t, oP p e below s₁ (mkF m 127 #[oI p0, oI p1, oI p2, oI p3, oI p4, oI sc, oI sa, oI sb, oI si, oI kd, oI a0c, oI a1c, oI u, oI b0c, oI b1c, oU, oU, oU, oU, oU, oU, oU] [(.int jd)]) t → oP p e below s₁ (entryFrame m #[(.int p0), (.int p1), (.int p2), (.int p3), (.int p4)] maxLocals) t := by
    by_cases hc37 : si = (0 : Int32)
    · refine ⟨p3, Or.inl ⟨hc37, rfl⟩, fun t k => pre36 t (by
        show oP p e below s₁ (mkF m 119 #[oI p0, oI p1, oI p2, oI p3, oI p4, oI sc, oI sa, oI sb, oI si, oI kd, oI a0c, oI a1c, oI u, oI b0c, oI b1c, oU, oU, oU, oU, oU, oU, oU] [(.int si)]) _
        refine XS.ifYes X0.here hx rfl (pc0 := 119) (pc' := 126) rfl (hb hby at_119) rfl ((if0 _ _).trans (teq hc37).1) (by decide) (by decide) ?_
        show oP p e below s₁ (mkF m 126 #[oI p0, oI p1, oI p2, oI p3, oI p4, oI sc, oI sa, oI sb, oI si, oI kd, oI a0c, oI a1c, oI u, oI b0c, oI b1c, oU, oU, oU, oU, oU, oU, oU] []) _
        refine XS.iloadN X0.here hx rfl (hb hby at_126) rfl ?_
        exact k)⟩
    · refine ⟨p2, Or.inr (⟨hc37, rfl⟩), fun t k => pre36 t (by
        show oP p e below s₁ (mkF m 119 #[oI p0, oI p1, oI p2, oI p3, oI p4, oI sc, oI sa, oI sb, oI si, oI kd, oI a0c, oI a1c, oI u, oI b0c, oI b1c, oU, oU, oU, oU, oU, oU, oU] [(.int si)]) _
        refine XS.ifNo X0.here hx rfl (hb hby at_119) rfl ((if0 _ _).trans (feq hc37).1) ?_
        show oP p e below s₁ (mkF m 122 #[oI p0, oI p1, oI p2, oI p3, oI p4, oI sc, oI sa, oI sb, oI si, oI kd, oI a0c, oI a1c, oI u, oI b0c, oI b1c, oU, oU, oU, oU, oU, oU, oU] []) _
        refine XS.iloadN X0.here hx rfl (hb hby at_122) rfl ?_
        show oP p e below s₁ (mkF m 123 #[oI p0, oI p1, oI p2, oI p3, oI p4, oI sc, oI sa, oI sb, oI si, oI kd, oI a0c, oI a1c, oI u, oI b0c, oI b1c, oU, oU, oU, oU, oU, oU, oU] [(.int p2)]) _
        refine XS.goto X0.here hx rfl (pc0 := 123) (pc' := 127) rfl (hb hby at_123) (by decide) (by decide) ?_
        exact k)⟩
  have pre39 : ∀ t, oP p e below s₁ (mkF m 131 #[oI p0, oI p1, oI p2, oI p3, oI p4, oI sc, oI sa, oI sb, oI si, oI kd, oI a0c, oI a1c, oI u, oI b0c, oI b1c, oI jd, oU, oU, oU, oU, oU, oU] [(.int sa)]) t → oP p e below s₁ (entryFrame m #[(.int p0), (.int p1), (.int p2), (.int p3), (.int p4)] maxLocals) t := fun t k => pre38 t (by
    show oP p e below s₁ (mkF m 127 #[oI p0, oI p1, oI p2, oI p3, oI p4, oI sc, oI sa, oI sb, oI si, oI kd, oI a0c, oI a1c, oI u, oI b0c, oI b1c, oU, oU, oU, oU, oU, oU, oU] [(.int jd)]) _
    refine XS.istore X0.here hx rfl (hb hby at_127) rfl (l' := #[oI p0, oI p1, oI p2, oI p3, oI p4, oI sc, oI sa, oI sb, oI si, oI kd, oI a0c, oI a1c, oI u, oI b0c, oI b1c, oI jd, oU, oU, oU, oU, oU, oU]) rfl ?_
    show oP p e below s₁ (mkF m 129 #[oI p0, oI p1, oI p2, oI p3, oI p4, oI sc, oI sa, oI sb, oI si, oI kd, oI a0c, oI a1c, oI u, oI b0c, oI b1c, oI jd, oU, oU, oU, oU, oU, oU] []) _
    refine XS.iload X0.here hx rfl (hb hby at_129) rfl ?_
    exact k)
  by_cases hc40 : sa = (0 : Int32)
  · obtain ⟨T41, h41, X41, e41, E41, A41, D41, -, st41⟩ := newO X0 hx hZ hown (hw _ (List.mem_of_getElem? (i := 0) rfl)) (hw _ (List.mem_of_getElem? (i := 1) rfl)) (hw _ (List.mem_of_getElem? (i := 2) rfl)) e0 (g := (mkF m 152 #[oI p0, oI p1, oI p2, oI p3, oI p4, oI sc, oI sa, oI sb, oI si, oI kd, oI a0c, oI a1c, oI u, oI b0c, oI b1c, oI jd, oU, oU, oU, oU, oU, oU] [])) rfl (hb hby at_152) (by decide) (by decide)
    obtain ⟨b41, g41⟩ : ∃ z, z = h0.size := ⟨_, rfl⟩
    have g_b41 : n0 ≤ b41 := Nat.le_trans (own_old_le O0) (Nat.le_of_eq g41.symm)
    have sz_b41 : h0.size ≤ b41 := Nat.le_trans (Keep.refl h0 []).1 (Nat.le_of_eq g41.symm)
    rw [← g41] at A41 D41 st41
    have O41 := O0.ext E41
    have Kc41 := (Keep.refl h0 []).ext E41
    have F_coder_b41 : Fld Z h41 b41 "java/lang/String" "coder" "B" (.int (0 : Int32)) := D41 (Or.inr (hw _ (List.mem_of_getElem? (i := 27) rfl))) (ty := .byte) (by decide)
    have F_value_b41 : Fld Z h41 b41 "java/lang/String" "value" "[B" .null := D41 (Or.inr (hw _ (List.mem_of_getElem? (i := 29) rfl))) (ty := (.array .byte)) (by decide)
    obtain ⟨T42, h42, k42, X42, e42, E42, A42, st42⟩ := newP X41 hx hZ (hw _ (List.mem_of_getElem? (i := 3) rfl)) e41 (g := (mkF m 157 #[oI p0, oI p1, oI p2, oI p3, oI p4, oI sc, oI sa, oI sb, oI si, oI kd, oI a0c, oI a1c, oI u, oI b0c, oI b1c, oI jd, oU, oU, oU, oU, oU, oU] [(.int (2 : Int32)), (.ref b41), (.ref b41)])) rfl (hb hby at_157) rfl (by decide) (cap := 2) (by decide) (by decide) (by decide) (by decide)
    obtain ⟨b42, g42⟩ : ∃ z, z = h41.size := ⟨_, rfl⟩
    have g_b42 : n0 ≤ b42 := Nat.le_trans (own_old_le O41) (Nat.le_of_eq g42.symm)
    have sz_b42 : h0.size ≤ b42 := Nat.le_trans Kc41.1 (Nat.le_of_eq g42.symm)
    have ne_b41_b42 : b41 ≠ b42 := Nat.ne_of_lt (Nat.lt_of_lt_of_le A41.lt (Nat.le_of_eq g42.symm))
    rw [← g42] at A42 st42
    have O42 := O41.ext E42
    have Kc42 := Kc41.ext E42
    have V42 : Arv Z h42 b42 k42 .char (2 : Int32) [(.int (0 : Int32)), (.int (0 : Int32))] (.int (0 : Int32)) := (Arv.new A42 (by decide)).pad (pad_rep [] (.int (0 : Int32)) 2)
    obtain ⟨T43, h43, X43, e43, W43, V43', st43⟩ := own_stC X42 hx hZ e42 V42 (j := (0 : Int32)) ⟨by decide, by decide⟩ rfl (by decide : ((0 : Int32) : Int32).toNatClampNeg < 2) (g := (mkF m 163 #[oI p0, oI p1, oI p2, oI p3, oI p4, oI sc, oI sa, oI sb, oI si, oI kd, oI a0c, oI a1c, oI u, oI b0c, oI b1c, oI jd, oU, oU, oU, oU, oU, oU] [(.int a0c), (.int (0 : Int32)), (.ref b42), (.ref b42), (.ref b41), (.ref b41)])) rfl rfl (hb hby at_163)
    rw [own_narc ra0c] at W43 V43'
    have N43 := Fr.snoc X43 N0 g_b42
    have O43 := O42.wr W43 g_b42
    have Kc43 := Kc42.wr W43 (Or.inr sz_b42)
    have V43 : Arv Z h43 b42 k42 .char (2 : Int32) [(.int a0c), (.int (0 : Int32))] (.int (0 : Int32)) := V43'
    obtain ⟨T44, h44, X44, e44, W44, V44', st44⟩ := own_stC X43 hx hZ e43 V43 (j := (1 : Int32)) ⟨by decide, by decide⟩ rfl (by decide : ((1 : Int32) : Int32).toNatClampNeg < 2) (g := (mkF m 168 #[oI p0, oI p1, oI p2, oI p3, oI p4, oI sc, oI sa, oI sb, oI si, oI kd, oI a0c, oI a1c, oI u, oI b0c, oI b1c, oI jd, oU, oU, oU, oU, oU, oU] [(.int a1c), (.int (1 : Int32)), (.ref b42), (.ref b42), (.ref b41), (.ref b41)])) rfl rfl (hb hby at_168)
    rw [own_narc ra1c] at W44 V44'
    have N44 := Fr.snoc X44 N43 g_b42
    have O44 := O43.wr W44 g_b42
    have Kc44 := Kc43.wr W44 (Or.inr sz_b42)
    have V44 : Arv Z h44 b42 k42 .char (2 : Int32) [(.int a0c), (.int a1c)] (.int (0 : Int32)) := V44'
    have fx46 := (((A41.ext E42).wr W43).wr W44)
    have fx47 := (((F_value_b41.ext E42).other W43 (Or.inl ne_b41_b42)).other W44 (Or.inl ne_b41_b42))
    have fx48 := (((F_coder_b41.ext E42).other W43 (Or.inl ne_b41_b42)).other W44 (Or.inl ne_b41_b42))
    have hp49 : ∀ c ∈ ([a0c, a1c] : List Int32), ¬ c < 0 ∧ ¬ (255 : Int32) < c := by
      intro c hc
      simp only [List.mem_cons, List.not_mem_nil, or_false] at hc
      rcases hc with rfl | rfl
      · exact ra0c
      · exact ra1c
    obtain ⟨_, _, ⟨T45, L45, k45, n45⟩, -, X45, ⟨Lc45, hQ45, l45, y45, z45⟩, st45⟩ := X44.specialBack hx (y := (⟨"java/lang/String", "<init>", "([C)V"⟩ : MethodName)) rfl hown (mvT hZ (hw _ (List.mem_of_getElem? (i := 4) rfl))) (mvT hZ (hw _ (List.mem_of_getElem? (i := 5) rfl))) (mvT hZ (hw _ (List.mem_of_getElem? (i := 6) rfl))) (by decide) (StrChars.Road.backV (W := 1) hZ (own_ws hw) (kI := 4) (hw _ (List.mem_of_getElem? (i := 1) rfl)) (cs := ([a0c, a1c] : List Int32)) (bs := (([a0c, a1c] : List Int32)).map (fun c => c.toInt8.toInt32)) (n := 2) g_b41 (own_old_le O44) fx46 fx47 fx48 V44 ((s_compact hS).ext O44.2) (n_compact hS) rfl rfl (by decide) (by decide) hp49 rfl (by decide) (by decide)) (g := (mkF m 169 #[oI p0, oI p1, oI p2, oI p3, oI p4, oI sc, oI sa, oI sb, oI si, oI kd, oI a0c, oI a1c, oI u, oI b0c, oI b1c, oI jd, oU, oU, oU, oU, oU, oU] [(.ref b42), (.ref b41), (.ref b41)])) rfl (by rw [hml]; rfl) (Steps.refl _) (a := b41) (argsL := [(.ref b42)]) (rest := [(.ref b41)]) (lenOf pd_1 rfl) rfl (by show 2 * 0 + _ ≤ _; exact Nat.le_of_eq rfl) (hb hby at_169) (fun _ _ => ⟨rfl, e44, (by decide : 2 + 1 ≤ _), (by decide : 6 + 2 ≤ _)⟩)
    dsimp only [Pt.U, Pt.locs, Pt.cells, Pt.slots] at X45 l45 y45 z45 st45 hQ45
    subst l45 y45 z45
    obtain ⟨v45, N45q, K45q, pE45, pC45, t45, kt45, g_t45, hs45, ns45, pV45, pA45⟩ := hQ45
    subst v45
    have N45 := Fr.app N44 N45q
    have ne_b41_t45 : b41 ≠ t45 := Nat.ne_of_lt (Nat.lt_of_lt_of_le fx46.lt hs45)
    have ne_b42_t45 : b42 ≠ t45 := Nat.ne_of_lt (Nat.lt_of_lt_of_le V44.lt hs45)
    have sz_t45 : h0.size ≤ t45 := Nat.le_trans Kc44.1 hs45
    have O45 := O44.keep K45q (allS g_b41 all0)
    have Kc45 := Kc44.trans K45q (allS (Or.inr sz_b41) all0)
    have pre50 : ∀ t, oP p e below T45 (mkF m 176 #[oI p0, oI p1, oI p2, oI p3, oI p4, oI sc, oI sa, oI sb, oI si, oI kd, oI a0c, oI a1c, oI u, oI b0c, oI b1c, oI jd, oR b41, oU, oU, oU, oU, oU] [(.int sb)]) t → oP p e below s₁ (entryFrame m #[(.int p0), (.int p1), (.int p2), (.int p3), (.int p4)] maxLocals) t := fun t k => pre39 t (by
      show oP p e below s₁ (mkF m 131 #[oI p0, oI p1, oI p2, oI p3, oI p4, oI sc, oI sa, oI sb, oI si, oI kd, oI a0c, oI a1c, oI u, oI b0c, oI b1c, oI jd, oU, oU, oU, oU, oU, oU] [(.int sa)]) _
      refine XS.ifYes X0.here hx rfl (pc0 := 131) (pc' := 152) rfl (hb hby at_131) rfl ((if0 _ _).trans (teq hc40).1) (by decide) (by decide) ?_
      show oP p e below s₁ (mkF m 152 #[oI p0, oI p1, oI p2, oI p3, oI p4, oI sc, oI sa, oI sb, oI si, oI kd, oI a0c, oI a1c, oI u, oI b0c, oI b1c, oI jd, oU, oU, oU, oU, oU, oU] []) _
      refine st41 _ ?_
      show oP p e below T41 (mkF m 155 #[oI p0, oI p1, oI p2, oI p3, oI p4, oI sc, oI sa, oI sb, oI si, oI kd, oI a0c, oI a1c, oI u, oI b0c, oI b1c, oI jd, oU, oU, oU, oU, oU, oU] [(.ref b41)]) _
      refine XS.dup X41.here hx rfl (hb hby at_155) rfl rfl ?_
      show oP p e below T41 (mkF m 156 #[oI p0, oI p1, oI p2, oI p3, oI p4, oI sc, oI sa, oI sb, oI si, oI kd, oI a0c, oI a1c, oI u, oI b0c, oI b1c, oI jd, oU, oU, oU, oU, oU, oU] [(.ref b41), (.ref b41)]) _
      refine XS.iconst X41.here hx rfl (hb hby at_156) ?_
      show oP p e below T41 (mkF m 157 #[oI p0, oI p1, oI p2, oI p3, oI p4, oI sc, oI sa, oI sb, oI si, oI kd, oI a0c, oI a1c, oI u, oI b0c, oI b1c, oI jd, oU, oU, oU, oU, oU, oU] [(.int (2 : Int32)), (.ref b41), (.ref b41)]) _
      refine st42 _ ?_
      show oP p e below T42 (mkF m 159 #[oI p0, oI p1, oI p2, oI p3, oI p4, oI sc, oI sa, oI sb, oI si, oI kd, oI a0c, oI a1c, oI u, oI b0c, oI b1c, oI jd, oU, oU, oU, oU, oU, oU] [(.ref b42), (.ref b41), (.ref b41)]) _
      refine XS.dup X42.here hx rfl (hb hby at_159) rfl rfl ?_
      show oP p e below T42 (mkF m 160 #[oI p0, oI p1, oI p2, oI p3, oI p4, oI sc, oI sa, oI sb, oI si, oI kd, oI a0c, oI a1c, oI u, oI b0c, oI b1c, oI jd, oU, oU, oU, oU, oU, oU] [(.ref b42), (.ref b42), (.ref b41), (.ref b41)]) _
      refine XS.iconst X42.here hx rfl (hb hby at_160) ?_
      show oP p e below T42 (mkF m 161 #[oI p0, oI p1, oI p2, oI p3, oI p4, oI sc, oI sa, oI sb, oI si, oI kd, oI a0c, oI a1c, oI u, oI b0c, oI b1c, oI jd, oU, oU, oU, oU, oU, oU] [(.int (0 : Int32)), (.ref b42), (.ref b42), (.ref b41), (.ref b41)]) _
      refine XS.iload X42.here hx rfl (hb hby at_161) rfl ?_
      show oP p e below T42 (mkF m 163 #[oI p0, oI p1, oI p2, oI p3, oI p4, oI sc, oI sa, oI sb, oI si, oI kd, oI a0c, oI a1c, oI u, oI b0c, oI b1c, oI jd, oU, oU, oU, oU, oU, oU] [(.int a0c), (.int (0 : Int32)), (.ref b42), (.ref b42), (.ref b41), (.ref b41)]) _
      refine st43 _ ?_
      show oP p e below T43 (mkF m 164 #[oI p0, oI p1, oI p2, oI p3, oI p4, oI sc, oI sa, oI sb, oI si, oI kd, oI a0c, oI a1c, oI u, oI b0c, oI b1c, oI jd, oU, oU, oU, oU, oU, oU] [(.ref b42), (.ref b41), (.ref b41)]) _
      refine XS.dup X43.here hx rfl (hb hby at_164) rfl rfl ?_
      show oP p e below T43 (mkF m 165 #[oI p0, oI p1, oI p2, oI p3, oI p4, oI sc, oI sa, oI sb, oI si, oI kd, oI a0c, oI a1c, oI u, oI b0c, oI b1c, oI jd, oU, oU, oU, oU, oU, oU] [(.ref b42), (.ref b42), (.ref b41), (.ref b41)]) _
      refine XS.iconst X43.here hx rfl (hb hby at_165) ?_
      show oP p e below T43 (mkF m 166 #[oI p0, oI p1, oI p2, oI p3, oI p4, oI sc, oI sa, oI sb, oI si, oI kd, oI a0c, oI a1c, oI u, oI b0c, oI b1c, oI jd, oU, oU, oU, oU, oU, oU] [(.int (1 : Int32)), (.ref b42), (.ref b42), (.ref b41), (.ref b41)]) _
      refine XS.iload X43.here hx rfl (hb hby at_166) rfl ?_
      show oP p e below T43 (mkF m 168 #[oI p0, oI p1, oI p2, oI p3, oI p4, oI sc, oI sa, oI sb, oI si, oI kd, oI a0c, oI a1c, oI u, oI b0c, oI b1c, oI jd, oU, oU, oU, oU, oU, oU] [(.int a1c), (.int (1 : Int32)), (.ref b42), (.ref b42), (.ref b41), (.ref b41)]) _
      refine st44 _ ?_
      show oP p e below T44 (mkF m 169 #[oI p0, oI p1, oI p2, oI p3, oI p4, oI sc, oI sa, oI sb, oI si, oI kd, oI a0c, oI a1c, oI u, oI b0c, oI b1c, oI jd, oU, oU, oU, oU, oU, oU] [(.ref b42), (.ref b41), (.ref b41)]) _
      refine st45.trans ?_
      show oP p e below T45 (mkF m 172 #[oI p0, oI p1, oI p2, oI p3, oI p4, oI sc, oI sa, oI sb, oI si, oI kd, oI a0c, oI a1c, oI u, oI b0c, oI b1c, oI jd, oU, oU, oU, oU, oU, oU] [(.ref b41)]) _
      refine XS.astore X45.here hx rfl (hb hby at_172) rfl rfl (l' := #[oI p0, oI p1, oI p2, oI p3, oI p4, oI sc, oI sa, oI sb, oI si, oI kd, oI a0c, oI a1c, oI u, oI b0c, oI b1c, oI jd, oR b41, oU, oU, oU, oU, oU]) rfl ?_
      show oP p e below T45 (mkF m 174 #[oI p0, oI p1, oI p2, oI p3, oI p4, oI sc, oI sa, oI sb, oI si, oI kd, oI a0c, oI a1c, oI u, oI b0c, oI b1c, oI jd, oR b41, oU, oU, oU, oU, oU] []) _
      refine XS.iload X45.here hx rfl (hb hby at_174) rfl ?_
      exact k)
    by_cases hc51 : sb = (0 : Int32)
    · obtain ⟨T52, h52, X52, e52, E52, A52, D52, -, st52⟩ := newO X45 hx hZ hown (hw _ (List.mem_of_getElem? (i := 0) rfl)) (hw _ (List.mem_of_getElem? (i := 1) rfl)) (hw _ (List.mem_of_getElem? (i := 2) rfl)) rfl (g := (mkF m 197 #[oI p0, oI p1, oI p2, oI p3, oI p4, oI sc, oI sa, oI sb, oI si, oI kd, oI a0c, oI a1c, oI u, oI b0c, oI b1c, oI jd, oR b41, oU, oU, oU, oU, oU] [])) rfl (hb hby at_197) (by decide) (by decide)
      obtain ⟨b52, g52⟩ : ∃ z, z = T45.heap.size := ⟨_, rfl⟩
      have g_b52 : n0 ≤ b52 := Nat.le_trans (own_old_le O45) (Nat.le_of_eq g52.symm)
      have sz_b52 : h0.size ≤ b52 := Nat.le_trans Kc45.1 (Nat.le_of_eq g52.symm)
      have ne_b41_b52 : b41 ≠ b52 := Nat.ne_of_lt (Nat.lt_of_lt_of_le pE45.lt (Nat.le_of_eq g52.symm))
      have fx53 := (V44.keep K45q (ninS (Ne.symm ne_b41_b42) nin0))
      have ne_b42_b52 : b42 ≠ b52 := Nat.ne_of_lt (Nat.lt_of_lt_of_le fx53.lt (Nat.le_of_eq g52.symm))
      have ne_t45_b52 : t45 ≠ b52 := Nat.ne_of_lt (Nat.lt_of_lt_of_le pA45.lt (Nat.le_of_eq g52.symm))
      rw [← g52] at A52 D52 st52
      have O52 := O45.ext E52
      have Kc52 := Kc45.ext E52
      have F_coder_b52 : Fld Z h52 b52 "java/lang/String" "coder" "B" (.int (0 : Int32)) := D52 (Or.inr (hw _ (List.mem_of_getElem? (i := 27) rfl))) (ty := .byte) (by decide)
      have F_value_b52 : Fld Z h52 b52 "java/lang/String" "value" "[B" .null := D52 (Or.inr (hw _ (List.mem_of_getElem? (i := 29) rfl))) (ty := (.array .byte)) (by decide)
      obtain ⟨T54, h54, k54, X54, e54, E54, A54, st54⟩ := newP X52 hx hZ (hw _ (List.mem_of_getElem? (i := 3) rfl)) e52 (g := (mkF m 202 #[oI p0, oI p1, oI p2, oI p3, oI p4, oI sc, oI sa, oI sb, oI si, oI kd, oI a0c, oI a1c, oI u, oI b0c, oI b1c, oI jd, oR b41, oU, oU, oU, oU, oU] [(.int (2 : Int32)), (.ref b52), (.ref b52)])) rfl (hb hby at_202) rfl (by decide) (cap := 2) (by decide) (by decide) (by decide) (by decide)
      obtain ⟨b54, g54⟩ : ∃ z, z = h52.size := ⟨_, rfl⟩
      have g_b54 : n0 ≤ b54 := Nat.le_trans (own_old_le O52) (Nat.le_of_eq g54.symm)
      have sz_b54 : h0.size ≤ b54 := Nat.le_trans Kc52.1 (Nat.le_of_eq g54.symm)
      have fx55 := (pE45.ext E52)
      have ne_b41_b54 : b41 ≠ b54 := Nat.ne_of_lt (Nat.lt_of_lt_of_le fx55.lt (Nat.le_of_eq g54.symm))
      have fx56 := (fx53.ext E52)
      have ne_b42_b54 : b42 ≠ b54 := Nat.ne_of_lt (Nat.lt_of_lt_of_le fx56.lt (Nat.le_of_eq g54.symm))
      have fx57 := (pA45.ext E52)
      have ne_t45_b54 : t45 ≠ b54 := Nat.ne_of_lt (Nat.lt_of_lt_of_le fx57.lt (Nat.le_of_eq g54.symm))
      have ne_b52_b54 : b52 ≠ b54 := Nat.ne_of_lt (Nat.lt_of_lt_of_le A52.lt (Nat.le_of_eq g54.symm))
      rw [← g54] at A54 st54
      have O54 := O52.ext E54
      have Kc54 := Kc52.ext E54
      have V54 : Arv Z h54 b54 k54 .char (2 : Int32) [(.int (0 : Int32)), (.int (0 : Int32))] (.int (0 : Int32)) := (Arv.new A54 (by decide)).pad (pad_rep [] (.int (0 : Int32)) 2)
      obtain ⟨T58, h58, X58, e58, W58, V58', st58⟩ := own_stC X54 hx hZ e54 V54 (j := (0 : Int32)) ⟨by decide, by decide⟩ rfl (by decide : ((0 : Int32) : Int32).toNatClampNeg < 2) (g := (mkF m 208 #[oI p0, oI p1, oI p2, oI p3, oI p4, oI sc, oI sa, oI sb, oI si, oI kd, oI a0c, oI a1c, oI u, oI b0c, oI b1c, oI jd, oR b41, oU, oU, oU, oU, oU] [(.int b0c), (.int (0 : Int32)), (.ref b54), (.ref b54), (.ref b52), (.ref b52)])) rfl rfl (hb hby at_208)
      rw [own_narc rb0c] at W58 V58'
      have N58 := Fr.snoc X58 N45 g_b54
      have O58 := O54.wr W58 g_b54
      have Kc58 := Kc54.wr W58 (Or.inr sz_b54)
      have V58 : Arv Z h58 b54 k54 .char (2 : Int32) [(.int b0c), (.int (0 : Int32))] (.int (0 : Int32)) := V58'
      obtain ⟨T59, h59, X59, e59, W59, V59', st59⟩ := own_stC X58 hx hZ e58 V58 (j := (1 : Int32)) ⟨by decide, by decide⟩ rfl (by decide : ((1 : Int32) : Int32).toNatClampNeg < 2) (g := (mkF m 213 #[oI p0, oI p1, oI p2, oI p3, oI p4, oI sc, oI sa, oI sb, oI si, oI kd, oI a0c, oI a1c, oI u, oI b0c, oI b1c, oI jd, oR b41, oU, oU, oU, oU, oU] [(.int b1c), (.int (1 : Int32)), (.ref b54), (.ref b54), (.ref b52), (.ref b52)])) rfl rfl (hb hby at_213)
      rw [own_narc rb1c] at W59 V59'
      have N59 := Fr.snoc X59 N58 g_b54
      have O59 := O58.wr W59 g_b54
      have Kc59 := Kc58.wr W59 (Or.inr sz_b54)
      have V59 : Arv Z h59 b54 k54 .char (2 : Int32) [(.int b0c), (.int b1c)] (.int (0 : Int32)) := V59'
      obtain ⟨lo60, X60, N60⟩ := own_hide X59 N59
      have fx62 := (((A52.ext E54).wr W58).wr W59)
      have fx63 := (((F_value_b52.ext E54).other W58 (Or.inl ne_b52_b54)).other W59 (Or.inl ne_b52_b54))
      have fx64 := (((F_coder_b52.ext E54).other W58 (Or.inl ne_b52_b54)).other W59 (Or.inl ne_b52_b54))
      have hp65 : ∀ c ∈ ([b0c, b1c] : List Int32), ¬ c < 0 ∧ ¬ (255 : Int32) < c := by
        intro c hc
        simp only [List.mem_cons, List.not_mem_nil, or_false] at hc
        rcases hc with rfl | rfl
        · exact rb0c
        · exact rb1c
      obtain ⟨_, _, ⟨T61, L61, k61, n61⟩, -, X61, ⟨Lc61, hQ61, l61, y61, z61⟩, st61⟩ := X60.specialBack hx (y := (⟨"java/lang/String", "<init>", "([C)V"⟩ : MethodName)) rfl hown (mvT hZ (hw _ (List.mem_of_getElem? (i := 4) rfl))) (mvT hZ (hw _ (List.mem_of_getElem? (i := 5) rfl))) (mvT hZ (hw _ (List.mem_of_getElem? (i := 6) rfl))) (by decide) (StrChars.Road.backV (W := 1) hZ (own_ws hw) (kI := 4) (hw _ (List.mem_of_getElem? (i := 1) rfl)) (cs := ([b0c, b1c] : List Int32)) (bs := (([b0c, b1c] : List Int32)).map (fun c => c.toInt8.toInt32)) (n := 2) g_b52 (own_old_le O59) fx62 fx63 fx64 V59 ((s_compact hS).ext O59.2) (n_compact hS) rfl rfl (by decide) (by decide) hp65 rfl (by decide) (by decide)) (g := (mkF m 214 #[oI p0, oI p1, oI p2, oI p3, oI p4, oI sc, oI sa, oI sb, oI si, oI kd, oI a0c, oI a1c, oI u, oI b0c, oI b1c, oI jd, oR b41, oU, oU, oU, oU, oU] [(.ref b54), (.ref b52), (.ref b52)])) rfl (by rw [hml]; rfl) (Steps.refl _) (a := b52) (argsL := [(.ref b54)]) (rest := [(.ref b52)]) (lenOf pd_1 rfl) rfl (by show 2 * 0 + _ ≤ _; exact Nat.le_of_eq rfl) (hb hby at_214) (fun _ _ => ⟨rfl, e59, (by decide : 5 + 1 ≤ _), (by decide : 14 + 2 ≤ _)⟩)
      dsimp only [Pt.U, Pt.locs, Pt.cells, Pt.slots] at X61 l61 y61 z61 st61 hQ61
      subst l61 y61 z61
      obtain ⟨v61, N61q, K61q, pE61, pC61, t61, kt61, g_t61, hs61, ns61, pV61, pA61⟩ := hQ61
      subst v61
      have N61 := Fr.app N60 N61q
      have fx66 := (((fx55.ext E54).wr W58).wr W59)
      have ne_b41_t61 : b41 ≠ t61 := Nat.ne_of_lt (Nat.lt_of_lt_of_le fx66.lt hs61)
      have fx67 := (((fx56.ext E54).other W58 ne_b42_b54).other W59 ne_b42_b54)
      have ne_b42_t61 : b42 ≠ t61 := Nat.ne_of_lt (Nat.lt_of_lt_of_le fx67.lt hs61)
      have fx68 := (((fx57.ext E54).other W58 ne_t45_b54).other W59 ne_t45_b54)
      have ne_t45_t61 : t45 ≠ t61 := Nat.ne_of_lt (Nat.lt_of_lt_of_le fx68.lt hs61)
      have ne_b52_t61 : b52 ≠ t61 := Nat.ne_of_lt (Nat.lt_of_lt_of_le fx62.lt hs61)
      have ne_b54_t61 : b54 ≠ t61 := Nat.ne_of_lt (Nat.lt_of_lt_of_le V59.lt hs61)
      have sz_t61 : h0.size ≤ t61 := Nat.le_trans Kc59.1 hs61
      have O61 := O59.keep K61q (allS g_b52 all0)
      have Kc61 := Kc59.trans K61q (allS (Or.inr sz_b52) all0)
      obtain ⟨T69, h69, X69, e69, E69, A69, D69, -, st69⟩ := newO X61 hx hZ hown (hw _ (List.mem_of_getElem? (i := 30) rfl)) (hw _ (List.mem_of_getElem? (i := 31) rfl)) (hw _ (List.mem_of_getElem? (i := 32) rfl)) rfl (g := (mkF m 219 #[oI p0, oI p1, oI p2, oI p3, oI p4, oI sc, oI sa, oI sb, oI si, oI kd, oI a0c, oI a1c, oI u, oI b0c, oI b1c, oI jd, oR b41, oR b52, oU, oU, oU, oU] [])) rfl (hb hby at_219) (by decide) (by decide)
      obtain ⟨b69, g69⟩ : ∃ z, z = T61.heap.size := ⟨_, rfl⟩
      have g_b69 : n0 ≤ b69 := Nat.le_trans (own_old_le O61) (Nat.le_of_eq g69.symm)
      have sz_b69 : h0.size ≤ b69 := Nat.le_trans Kc61.1 (Nat.le_of_eq g69.symm)
      have fx70 := (fx66.keep K61q)
      have ne_b41_b69 : b41 ≠ b69 := Nat.ne_of_lt (Nat.lt_of_lt_of_le fx70.lt (Nat.le_of_eq g69.symm))
      have fx71 := (fx67.keep K61q (ninS ne_b42_b52 nin0))
      have ne_b42_b69 : b42 ≠ b69 := Nat.ne_of_lt (Nat.lt_of_lt_of_le fx71.lt (Nat.le_of_eq g69.symm))
      have fx72 := (fx68.keep K61q (ninS ne_t45_b52 nin0))
      have ne_t45_b69 : t45 ≠ b69 := Nat.ne_of_lt (Nat.lt_of_lt_of_le fx72.lt (Nat.le_of_eq g69.symm))
      have ne_b52_b69 : b52 ≠ b69 := Nat.ne_of_lt (Nat.lt_of_lt_of_le pE61.lt (Nat.le_of_eq g69.symm))
      have fx73 := (V59.keep K61q (ninS (Ne.symm ne_b52_b54) nin0))
      have ne_b54_b69 : b54 ≠ b69 := Nat.ne_of_lt (Nat.lt_of_lt_of_le fx73.lt (Nat.le_of_eq g69.symm))
      have ne_t61_b69 : t61 ≠ b69 := Nat.ne_of_lt (Nat.lt_of_lt_of_le pA61.lt (Nat.le_of_eq g69.symm))
      rw [← g69] at A69 D69 st69
      have O69 := O61.ext E69
      have Kc69 := Kc61.ext E69
      have F_topic_b69 : Fld Z h69 b69 "com/example/narada/narada/store/QueueKey" "topic" "Ljava/lang/String;" .null := D69 (Or.inr (hw _ (List.mem_of_getElem? (i := 38) rfl))) (ty := (.object "java/lang/String")) (by decide)
      have F_queueId_b69 : Fld Z h69 b69 "com/example/narada/narada/store/QueueKey" "queueId" "I" (.int (0 : Int32)) := D69 (Or.inr (hw _ (List.mem_of_getElem? (i := 40) rfl))) (ty := .int) (by decide)
      obtain ⟨_, _, ⟨T74, L74, k74, n74⟩, -, X74, ⟨Lc74, hQ74, l74, y74, z74⟩, st74⟩ := X69.specialBack hx (y := (⟨"com/example/narada/narada/store/QueueKey", "<init>", "(Ljava/lang/String;I)V"⟩ : MethodName)) rfl hown (mvT hZ (hw _ (List.mem_of_getElem? (i := 33) rfl))) (mvT hZ (hw _ (List.mem_of_getElem? (i := 34) rfl))) (mvT hZ (hw _ (List.mem_of_getElem? (i := 35) rfl))) (by decide) (backOf (W := 1) (rm7 l Z a0 hw hS [] b69 b41 p2 h69 n0 O69 A69 F_topic_b69 F_queueId_b69 g_b69) hZ (hw _ (List.mem_of_getElem? (i := 35) rfl)) (hw _ (List.mem_of_getElem? (i := 32) rfl)) (by decide) (by decide)) (g := (mkF m 226 #[oI p0, oI p1, oI p2, oI p3, oI p4, oI sc, oI sa, oI sb, oI si, oI kd, oI a0c, oI a1c, oI u, oI b0c, oI b1c, oI jd, oR b41, oR b52, oU, oU, oU, oU] [(.int p2), (.ref b41), (.ref b69), (.ref b69)])) rfl (by rw [hml]; rfl) (Steps.refl _) (a := b69) (argsL := [(.ref b41), (.int p2)]) (rest := [(.ref b69)]) (lenOf pd_2 rfl) rfl (by show 2 * 0 + _ ≤ _; exact Nat.le_of_eq rfl) (hb hby at_226) (fun _ _ => ⟨rfl, e69, (by decide : 7 + 0 ≤ _), (by decide : 18 + 0 ≤ _)⟩)
      dsimp only [Pt.U, Pt.locs, Pt.cells, Pt.slots] at X74 l74 y74 z74 st74 hQ74
      subst l74 y74 z74
      obtain ⟨v74, N74q, K74q, po74_0, po74_1, po74_2⟩ := hQ74
      subst v74
      have N74 := Fr.app N61 N74q
      have O74 := O69.keep K74q (allS g_b69 all0)
      have Kc74 := Kc69.trans K74q (allS (Or.inr sz_b69) all0)
      have pre75 : ∀ t, oP p e below T74 (mkF m 231 #[oI p0, oI p1, oI p2, oI p3, oI p4, oI sc, oI sa, oI sb, oI si, oI kd, oI a0c, oI a1c, oI u, oI b0c, oI b1c, oI jd, oR b41, oR b52, oR b69, oU, oU, oU] []) t → oP p e below s₁ (entryFrame m #[(.int p0), (.int p1), (.int p2), (.int p3), (.int p4)] maxLocals) t := fun t k => pre50 t (by
        show oP p e below T45 (mkF m 176 #[oI p0, oI p1, oI p2, oI p3, oI p4, oI sc, oI sa, oI sb, oI si, oI kd, oI a0c, oI a1c, oI u, oI b0c, oI b1c, oI jd, oR b41, oU, oU, oU, oU, oU] [(.int sb)]) _
        refine XS.ifYes X45.here hx rfl (pc0 := 176) (pc' := 197) rfl (hb hby at_176) rfl ((if0 _ _).trans (teq hc51).1) (by decide) (by decide) ?_
        show oP p e below T45 (mkF m 197 #[oI p0, oI p1, oI p2, oI p3, oI p4, oI sc, oI sa, oI sb, oI si, oI kd, oI a0c, oI a1c, oI u, oI b0c, oI b1c, oI jd, oR b41, oU, oU, oU, oU, oU] []) _
        refine st52 _ ?_
        show oP p e below T52 (mkF m 200 #[oI p0, oI p1, oI p2, oI p3, oI p4, oI sc, oI sa, oI sb, oI si, oI kd, oI a0c, oI a1c, oI u, oI b0c, oI b1c, oI jd, oR b41, oU, oU, oU, oU, oU] [(.ref b52)]) _
        refine XS.dup X52.here hx rfl (hb hby at_200) rfl rfl ?_
        show oP p e below T52 (mkF m 201 #[oI p0, oI p1, oI p2, oI p3, oI p4, oI sc, oI sa, oI sb, oI si, oI kd, oI a0c, oI a1c, oI u, oI b0c, oI b1c, oI jd, oR b41, oU, oU, oU, oU, oU] [(.ref b52), (.ref b52)]) _
        refine XS.iconst X52.here hx rfl (hb hby at_201) ?_
        show oP p e below T52 (mkF m 202 #[oI p0, oI p1, oI p2, oI p3, oI p4, oI sc, oI sa, oI sb, oI si, oI kd, oI a0c, oI a1c, oI u, oI b0c, oI b1c, oI jd, oR b41, oU, oU, oU, oU, oU] [(.int (2 : Int32)), (.ref b52), (.ref b52)]) _
        refine st54 _ ?_
        show oP p e below T54 (mkF m 204 #[oI p0, oI p1, oI p2, oI p3, oI p4, oI sc, oI sa, oI sb, oI si, oI kd, oI a0c, oI a1c, oI u, oI b0c, oI b1c, oI jd, oR b41, oU, oU, oU, oU, oU] [(.ref b54), (.ref b52), (.ref b52)]) _
        refine XS.dup X54.here hx rfl (hb hby at_204) rfl rfl ?_
        show oP p e below T54 (mkF m 205 #[oI p0, oI p1, oI p2, oI p3, oI p4, oI sc, oI sa, oI sb, oI si, oI kd, oI a0c, oI a1c, oI u, oI b0c, oI b1c, oI jd, oR b41, oU, oU, oU, oU, oU] [(.ref b54), (.ref b54), (.ref b52), (.ref b52)]) _
        refine XS.iconst X54.here hx rfl (hb hby at_205) ?_
        show oP p e below T54 (mkF m 206 #[oI p0, oI p1, oI p2, oI p3, oI p4, oI sc, oI sa, oI sb, oI si, oI kd, oI a0c, oI a1c, oI u, oI b0c, oI b1c, oI jd, oR b41, oU, oU, oU, oU, oU] [(.int (0 : Int32)), (.ref b54), (.ref b54), (.ref b52), (.ref b52)]) _
        refine XS.iload X54.here hx rfl (hb hby at_206) rfl ?_
        show oP p e below T54 (mkF m 208 #[oI p0, oI p1, oI p2, oI p3, oI p4, oI sc, oI sa, oI sb, oI si, oI kd, oI a0c, oI a1c, oI u, oI b0c, oI b1c, oI jd, oR b41, oU, oU, oU, oU, oU] [(.int b0c), (.int (0 : Int32)), (.ref b54), (.ref b54), (.ref b52), (.ref b52)]) _
        refine st58 _ ?_
        show oP p e below T58 (mkF m 209 #[oI p0, oI p1, oI p2, oI p3, oI p4, oI sc, oI sa, oI sb, oI si, oI kd, oI a0c, oI a1c, oI u, oI b0c, oI b1c, oI jd, oR b41, oU, oU, oU, oU, oU] [(.ref b54), (.ref b52), (.ref b52)]) _
        refine XS.dup X58.here hx rfl (hb hby at_209) rfl rfl ?_
        show oP p e below T58 (mkF m 210 #[oI p0, oI p1, oI p2, oI p3, oI p4, oI sc, oI sa, oI sb, oI si, oI kd, oI a0c, oI a1c, oI u, oI b0c, oI b1c, oI jd, oR b41, oU, oU, oU, oU, oU] [(.ref b54), (.ref b54), (.ref b52), (.ref b52)]) _
        refine XS.iconst X58.here hx rfl (hb hby at_210) ?_
        show oP p e below T58 (mkF m 211 #[oI p0, oI p1, oI p2, oI p3, oI p4, oI sc, oI sa, oI sb, oI si, oI kd, oI a0c, oI a1c, oI u, oI b0c, oI b1c, oI jd, oR b41, oU, oU, oU, oU, oU] [(.int (1 : Int32)), (.ref b54), (.ref b54), (.ref b52), (.ref b52)]) _
        refine XS.iload X58.here hx rfl (hb hby at_211) rfl ?_
        show oP p e below T58 (mkF m 213 #[oI p0, oI p1, oI p2, oI p3, oI p4, oI sc, oI sa, oI sb, oI si, oI kd, oI a0c, oI a1c, oI u, oI b0c, oI b1c, oI jd, oR b41, oU, oU, oU, oU, oU] [(.int b1c), (.int (1 : Int32)), (.ref b54), (.ref b54), (.ref b52), (.ref b52)]) _
        refine st59 _ ?_
        show oP p e below T59 (mkF m 214 #[oI p0, oI p1, oI p2, oI p3, oI p4, oI sc, oI sa, oI sb, oI si, oI kd, oI a0c, oI a1c, oI u, oI b0c, oI b1c, oI jd, oR b41, oU, oU, oU, oU, oU] [(.ref b54), (.ref b52), (.ref b52)]) _
        refine st61.trans ?_
        show oP p e below T61 (mkF m 217 #[oI p0, oI p1, oI p2, oI p3, oI p4, oI sc, oI sa, oI sb, oI si, oI kd, oI a0c, oI a1c, oI u, oI b0c, oI b1c, oI jd, oR b41, oU, oU, oU, oU, oU] [(.ref b52)]) _
        refine XS.astore X61.here hx rfl (hb hby at_217) rfl rfl (l' := #[oI p0, oI p1, oI p2, oI p3, oI p4, oI sc, oI sa, oI sb, oI si, oI kd, oI a0c, oI a1c, oI u, oI b0c, oI b1c, oI jd, oR b41, oR b52, oU, oU, oU, oU]) rfl ?_
        show oP p e below T61 (mkF m 219 #[oI p0, oI p1, oI p2, oI p3, oI p4, oI sc, oI sa, oI sb, oI si, oI kd, oI a0c, oI a1c, oI u, oI b0c, oI b1c, oI jd, oR b41, oR b52, oU, oU, oU, oU] []) _
        refine st69 _ ?_
        show oP p e below T69 (mkF m 222 #[oI p0, oI p1, oI p2, oI p3, oI p4, oI sc, oI sa, oI sb, oI si, oI kd, oI a0c, oI a1c, oI u, oI b0c, oI b1c, oI jd, oR b41, oR b52, oU, oU, oU, oU] [(.ref b69)]) _
        refine XS.dup X69.here hx rfl (hb hby at_222) rfl rfl ?_
        show oP p e below T69 (mkF m 223 #[oI p0, oI p1, oI p2, oI p3, oI p4, oI sc, oI sa, oI sb, oI si, oI kd, oI a0c, oI a1c, oI u, oI b0c, oI b1c, oI jd, oR b41, oR b52, oU, oU, oU, oU] [(.ref b69), (.ref b69)]) _
        refine XS.aload X69.here hx rfl (hb hby at_223) rfl rfl ?_
        show oP p e below T69 (mkF m 225 #[oI p0, oI p1, oI p2, oI p3, oI p4, oI sc, oI sa, oI sb, oI si, oI kd, oI a0c, oI a1c, oI u, oI b0c, oI b1c, oI jd, oR b41, oR b52, oU, oU, oU, oU] [(.ref b41), (.ref b69), (.ref b69)]) _
        refine XS.iloadN X69.here hx rfl (hb hby at_225) rfl ?_
        show oP p e below T69 (mkF m 226 #[oI p0, oI p1, oI p2, oI p3, oI p4, oI sc, oI sa, oI sb, oI si, oI kd, oI a0c, oI a1c, oI u, oI b0c, oI b1c, oI jd, oR b41, oR b52, oU, oU, oU, oU] [(.int p2), (.ref b41), (.ref b69), (.ref b69)]) _
        refine st74.trans ?_
        show oP p e below T74 (mkF m 229 #[oI p0, oI p1, oI p2, oI p3, oI p4, oI sc, oI sa, oI sb, oI si, oI kd, oI a0c, oI a1c, oI u, oI b0c, oI b1c, oI jd, oR b41, oR b52, oU, oU, oU, oU] [(.ref b69)]) _
        refine XS.astore X74.here hx rfl (hb hby at_229) rfl rfl (l' := #[oI p0, oI p1, oI p2, oI p3, oI p4, oI sc, oI sa, oI sb, oI si, oI kd, oI a0c, oI a1c, oI u, oI b0c, oI b1c, oI jd, oR b41, oR b52, oR b69, oU, oU, oU]) rfl ?_
        exact k)
      rcases rkd with rfl | rfl | rfl | rfl
      · obtain ⟨T76, h76, X76, e76, E76, A76, D76, -, st76⟩ := newO X74 hx hZ hown (hw _ (List.mem_of_getElem? (i := 30) rfl)) (hw _ (List.mem_of_getElem? (i := 31) rfl)) (hw _ (List.mem_of_getElem? (i := 32) rfl)) rfl (g := (mkF m 292 #[oI p0, oI p1, oI p2, oI p3, oI p4, oI sc, oI sa, oI sb, oI si, oI (0 : Int32), oI a0c, oI a1c, oI u, oI b0c, oI b1c, oI jd, oR b41, oR b52, oR b69, oU, oU, oU] [])) rfl (hb hby at_292) (by decide) (by decide)
        obtain ⟨b76, g76⟩ : ∃ z, z = T74.heap.size := ⟨_, rfl⟩
        have g_b76 : n0 ≤ b76 := Nat.le_trans (own_old_le O74) (Nat.le_of_eq g76.symm)
        have sz_b76 : h0.size ≤ b76 := Nat.le_trans Kc74.1 (Nat.le_of_eq g76.symm)
        have fx77 := ((fx70.ext E69).keep K74q)
        have ne_b41_b76 : b41 ≠ b76 := Nat.ne_of_lt (Nat.lt_of_lt_of_le fx77.lt (Nat.le_of_eq g76.symm))
        have fx78 := ((fx71.ext E69).keep K74q (ninS ne_b42_b69 nin0))
        have ne_b42_b76 : b42 ≠ b76 := Nat.ne_of_lt (Nat.lt_of_lt_of_le fx78.lt (Nat.le_of_eq g76.symm))
        have fx79 := ((fx72.ext E69).keep K74q (ninS ne_t45_b69 nin0))
        have ne_t45_b76 : t45 ≠ b76 := Nat.ne_of_lt (Nat.lt_of_lt_of_le fx79.lt (Nat.le_of_eq g76.symm))
        have fx80 := ((pE61.ext E69).keep K74q)
        have ne_b52_b76 : b52 ≠ b76 := Nat.ne_of_lt (Nat.lt_of_lt_of_le fx80.lt (Nat.le_of_eq g76.symm))
        have fx81 := ((fx73.ext E69).keep K74q (ninS ne_b54_b69 nin0))
        have ne_b54_b76 : b54 ≠ b76 := Nat.ne_of_lt (Nat.lt_of_lt_of_le fx81.lt (Nat.le_of_eq g76.symm))
        have fx82 := ((pA61.ext E69).keep K74q (ninS ne_t61_b69 nin0))
        have ne_t61_b76 : t61 ≠ b76 := Nat.ne_of_lt (Nat.lt_of_lt_of_le fx82.lt (Nat.le_of_eq g76.symm))
        have ne_b69_b76 : b69 ≠ b76 := Nat.ne_of_lt (Nat.lt_of_lt_of_le po74_0.lt (Nat.le_of_eq g76.symm))
        rw [← g76] at A76 D76 st76
        have O76 := O74.ext E76
        have Kc76 := Kc74.ext E76
        have F_topic_b76 : Fld Z h76 b76 "com/example/narada/narada/store/QueueKey" "topic" "Ljava/lang/String;" .null := D76 (Or.inr (hw _ (List.mem_of_getElem? (i := 38) rfl))) (ty := (.object "java/lang/String")) (by decide)
        have F_queueId_b76 : Fld Z h76 b76 "com/example/narada/narada/store/QueueKey" "queueId" "I" (.int (0 : Int32)) := D76 (Or.inr (hw _ (List.mem_of_getElem? (i := 40) rfl))) (ty := .int) (by decide)
        obtain ⟨_, _, ⟨T83, L83, k83, n83⟩, -, X83, ⟨Lc83, hQ83, l83, y83, z83⟩, st83⟩ := X76.specialBack hx (y := (⟨"com/example/narada/narada/store/QueueKey", "<init>", "(Ljava/lang/String;I)V"⟩ : MethodName)) rfl hown (mvT hZ (hw _ (List.mem_of_getElem? (i := 33) rfl))) (mvT hZ (hw _ (List.mem_of_getElem? (i := 34) rfl))) (mvT hZ (hw _ (List.mem_of_getElem? (i := 35) rfl))) (by decide) (backOf (W := 1) (rm7 l Z a0 hw hS [] b76 b52 jd h76 n0 O76 A76 F_topic_b76 F_queueId_b76 g_b76) hZ (hw _ (List.mem_of_getElem? (i := 35) rfl)) (hw _ (List.mem_of_getElem? (i := 32) rfl)) (by decide) (by decide)) (g := (mkF m 300 #[oI p0, oI p1, oI p2, oI p3, oI p4, oI sc, oI sa, oI sb, oI si, oI (0 : Int32), oI a0c, oI a1c, oI u, oI b0c, oI b1c, oI jd, oR b41, oR b52, oR b69, oU, oU, oU] [(.int jd), (.ref b52), (.ref b76), (.ref b76)])) rfl (by rw [hml]; rfl) (Steps.refl _) (a := b76) (argsL := [(.ref b52), (.int jd)]) (rest := [(.ref b76)]) (lenOf pd_2 rfl) rfl (by show 2 * 0 + _ ≤ _; exact Nat.le_of_eq rfl) (hb hby at_300) (fun _ _ => ⟨rfl, e76, (by decide : 8 + 0 ≤ _), (by decide : 20 + 0 ≤ _)⟩)
        dsimp only [Pt.U, Pt.locs, Pt.cells, Pt.slots] at X83 l83 y83 z83 st83 hQ83
        subst l83 y83 z83
        obtain ⟨v83, N83q, K83q, po83_0, po83_1, po83_2⟩ := hQ83
        subst v83
        have N83 := Fr.app N74 N83q
        have O83 := O76.keep K83q (allS g_b76 all0)
        have Kc83 := Kc76.trans K83q (allS (Or.inr sz_b76) all0)
        have pre84 : ∀ t, oP p e below T83 (mkF m 309 #[oI p0, oI p1, oI p2, oI p3, oI p4, oI sc, oI sa, oI sb, oI si, oI (0 : Int32), oI a0c, oI a1c, oI u, oI b0c, oI b1c, oI jd, oR b41, oR b52, oR b69, oR b76, oU, oU] [(.int sb), (.int sa)]) t → oP p e below s₁ (entryFrame m #[(.int p0), (.int p1), (.int p2), (.int p3), (.int p4)] maxLocals) t := fun t k => pre75 t (by
          show oP p e below T74 (mkF m 231 #[oI p0, oI p1, oI p2, oI p3, oI p4, oI sc, oI sa, oI sb, oI si, oI (0 : Int32), oI a0c, oI a1c, oI u, oI b0c, oI b1c, oI jd, oR b41, oR b52, oR b69, oU, oU, oU] []) _
          refine XS.iload X74.here hx rfl (hb hby at_231) rfl ?_
          show oP p e below T74 (mkF m 233 #[oI p0, oI p1, oI p2, oI p3, oI p4, oI sc, oI sa, oI sb, oI si, oI (0 : Int32), oI a0c, oI a1c, oI u, oI b0c, oI b1c, oI jd, oR b41, oR b52, oR b69, oU, oU, oU] [(.int (0 : Int32))]) _
          refine XS.iconst X74.here hx rfl (hb hby at_233) ?_
          show oP p e below T74 (mkF m 234 #[oI p0, oI p1, oI p2, oI p3, oI p4, oI sc, oI sa, oI sb, oI si, oI (0 : Int32), oI a0c, oI a1c, oI u, oI b0c, oI b1c, oI jd, oR b41, oR b52, oR b69, oU, oU, oU] [(.int (1 : Int32)), (.int (0 : Int32))]) _
          refine XS.icmpYes X74.here hx rfl (pc0 := 234) (pc' := 252) rfl (hb hby at_234) rfl (feq (by decide : ¬ ((0 : Int32) = (1 : Int32)))).2 (by decide) (by decide) ?_
          show oP p e below T74 (mkF m 252 #[oI p0, oI p1, oI p2, oI p3, oI p4, oI sc, oI sa, oI sb, oI si, oI (0 : Int32), oI a0c, oI a1c, oI u, oI b0c, oI b1c, oI jd, oR b41, oR b52, oR b69, oU, oU, oU] []) _
          refine XS.iload X74.here hx rfl (hb hby at_252) rfl ?_
          show oP p e below T74 (mkF m 254 #[oI p0, oI p1, oI p2, oI p3, oI p4, oI sc, oI sa, oI sb, oI si, oI (0 : Int32), oI a0c, oI a1c, oI u, oI b0c, oI b1c, oI jd, oR b41, oR b52, oR b69, oU, oU, oU] [(.int (0 : Int32))]) _
          refine XS.iconst X74.here hx rfl (hb hby at_254) ?_
          show oP p e below T74 (mkF m 255 #[oI p0, oI p1, oI p2, oI p3, oI p4, oI sc, oI sa, oI sb, oI si, oI (0 : Int32), oI a0c, oI a1c, oI u, oI b0c, oI b1c, oI jd, oR b41, oR b52, oR b69, oU, oU, oU] [(.int (2 : Int32)), (.int (0 : Int32))]) _
          refine XS.icmpYes X74.here hx rfl (pc0 := 255) (pc' := 278) rfl (hb hby at_255) rfl (feq (by decide : ¬ ((0 : Int32) = (2 : Int32)))).2 (by decide) (by decide) ?_
          show oP p e below T74 (mkF m 278 #[oI p0, oI p1, oI p2, oI p3, oI p4, oI sc, oI sa, oI sb, oI si, oI (0 : Int32), oI a0c, oI a1c, oI u, oI b0c, oI b1c, oI jd, oR b41, oR b52, oR b69, oU, oU, oU] []) _
          refine XS.iload X74.here hx rfl (hb hby at_278) rfl ?_
          show oP p e below T74 (mkF m 280 #[oI p0, oI p1, oI p2, oI p3, oI p4, oI sc, oI sa, oI sb, oI si, oI (0 : Int32), oI a0c, oI a1c, oI u, oI b0c, oI b1c, oI jd, oR b41, oR b52, oR b69, oU, oU, oU] [(.int (0 : Int32))]) _
          refine XS.iconst X74.here hx rfl (hb hby at_280) ?_
          show oP p e below T74 (mkF m 281 #[oI p0, oI p1, oI p2, oI p3, oI p4, oI sc, oI sa, oI sb, oI si, oI (0 : Int32), oI a0c, oI a1c, oI u, oI b0c, oI b1c, oI jd, oR b41, oR b52, oR b69, oU, oU, oU] [(.int (3 : Int32)), (.int (0 : Int32))]) _
          refine XS.icmpYes X74.here hx rfl (pc0 := 281) (pc' := 292) rfl (hb hby at_281) rfl (feq (by decide : ¬ ((0 : Int32) = (3 : Int32)))).2 (by decide) (by decide) ?_
          show oP p e below T74 (mkF m 292 #[oI p0, oI p1, oI p2, oI p3, oI p4, oI sc, oI sa, oI sb, oI si, oI (0 : Int32), oI a0c, oI a1c, oI u, oI b0c, oI b1c, oI jd, oR b41, oR b52, oR b69, oU, oU, oU] []) _
          refine st76 _ ?_
          show oP p e below T76 (mkF m 295 #[oI p0, oI p1, oI p2, oI p3, oI p4, oI sc, oI sa, oI sb, oI si, oI (0 : Int32), oI a0c, oI a1c, oI u, oI b0c, oI b1c, oI jd, oR b41, oR b52, oR b69, oU, oU, oU] [(.ref b76)]) _
          refine XS.dup X76.here hx rfl (hb hby at_295) rfl rfl ?_
          show oP p e below T76 (mkF m 296 #[oI p0, oI p1, oI p2, oI p3, oI p4, oI sc, oI sa, oI sb, oI si, oI (0 : Int32), oI a0c, oI a1c, oI u, oI b0c, oI b1c, oI jd, oR b41, oR b52, oR b69, oU, oU, oU] [(.ref b76), (.ref b76)]) _
          refine XS.aload X76.here hx rfl (hb hby at_296) rfl rfl ?_
          show oP p e below T76 (mkF m 298 #[oI p0, oI p1, oI p2, oI p3, oI p4, oI sc, oI sa, oI sb, oI si, oI (0 : Int32), oI a0c, oI a1c, oI u, oI b0c, oI b1c, oI jd, oR b41, oR b52, oR b69, oU, oU, oU] [(.ref b52), (.ref b76), (.ref b76)]) _
          refine XS.iload X76.here hx rfl (hb hby at_298) rfl ?_
          show oP p e below T76 (mkF m 300 #[oI p0, oI p1, oI p2, oI p3, oI p4, oI sc, oI sa, oI sb, oI si, oI (0 : Int32), oI a0c, oI a1c, oI u, oI b0c, oI b1c, oI jd, oR b41, oR b52, oR b69, oU, oU, oU] [(.int jd), (.ref b52), (.ref b76), (.ref b76)]) _
          refine st83.trans ?_
          show oP p e below T83 (mkF m 303 #[oI p0, oI p1, oI p2, oI p3, oI p4, oI sc, oI sa, oI sb, oI si, oI (0 : Int32), oI a0c, oI a1c, oI u, oI b0c, oI b1c, oI jd, oR b41, oR b52, oR b69, oU, oU, oU] [(.ref b76)]) _
          refine XS.astore X83.here hx rfl (hb hby at_303) rfl rfl (l' := #[oI p0, oI p1, oI p2, oI p3, oI p4, oI sc, oI sa, oI sb, oI si, oI (0 : Int32), oI a0c, oI a1c, oI u, oI b0c, oI b1c, oI jd, oR b41, oR b52, oR b69, oR b76, oU, oU]) rfl ?_
          show oP p e below T83 (mkF m 305 #[oI p0, oI p1, oI p2, oI p3, oI p4, oI sc, oI sa, oI sb, oI si, oI (0 : Int32), oI a0c, oI a1c, oI u, oI b0c, oI b1c, oI jd, oR b41, oR b52, oR b69, oR b76, oU, oU] []) _
          refine XS.iload X83.here hx rfl (hb hby at_305) rfl ?_
          show oP p e below T83 (mkF m 307 #[oI p0, oI p1, oI p2, oI p3, oI p4, oI sc, oI sa, oI sb, oI si, oI (0 : Int32), oI a0c, oI a1c, oI u, oI b0c, oI b1c, oI jd, oR b41, oR b52, oR b69, oR b76, oU, oU] [(.int sa)]) _
          refine XS.iload X83.here hx rfl (hb hby at_307) rfl ?_
          exact k)
        by_cases hc85 : sa = sb
        · have pre86 : ∀ t, oP p e below T83 (mkF m 316 #[oI p0, oI p1, oI p2, oI p3, oI p4, oI sc, oI sa, oI sb, oI si, oI (0 : Int32), oI a0c, oI a1c, oI u, oI b0c, oI b1c, oI jd, oR b41, oR b52, oR b69, oR b76, oU, oU] [(.int b0c), (.int a0c)]) t → oP p e below s₁ (entryFrame m #[(.int p0), (.int p1), (.int p2), (.int p3), (.int p4)] maxLocals) t := fun t k => pre84 t (by
            show oP p e below T83 (mkF m 309 #[oI p0, oI p1, oI p2, oI p3, oI p4, oI sc, oI sa, oI sb, oI si, oI (0 : Int32), oI a0c, oI a1c, oI u, oI b0c, oI b1c, oI jd, oR b41, oR b52, oR b69, oR b76, oU, oU] [(.int sb), (.int sa)]) _
            refine XS.icmpNo X83.here hx rfl (hb hby at_309) rfl (teq hc85).2 ?_
            show oP p e below T83 (mkF m 312 #[oI p0, oI p1, oI p2, oI p3, oI p4, oI sc, oI sa, oI sb, oI si, oI (0 : Int32), oI a0c, oI a1c, oI u, oI b0c, oI b1c, oI jd, oR b41, oR b52, oR b69, oR b76, oU, oU] []) _
            refine XS.iload X83.here hx rfl (hb hby at_312) rfl ?_
            show oP p e below T83 (mkF m 314 #[oI p0, oI p1, oI p2, oI p3, oI p4, oI sc, oI sa, oI sb, oI si, oI (0 : Int32), oI a0c, oI a1c, oI u, oI b0c, oI b1c, oI jd, oR b41, oR b52, oR b69, oR b76, oU, oU] [(.int a0c)]) _
            refine XS.iload X83.here hx rfl (hb hby at_314) rfl ?_
            exact k)
          by_cases hc87 : a0c = b0c
          · have pre88 : ∀ t, oP p e below T83 (mkF m 328 #[oI p0, oI p1, oI p2, oI p3, oI p4, oI sc, oI sa, oI sb, oI si, oI (0 : Int32), oI a0c, oI a1c, oI u, oI b0c, oI b1c, oI jd, oR b41, oR b52, oR b69, oR b76, oU, oU] [(.int b1c), (.int a1c)]) t → oP p e below s₁ (entryFrame m #[(.int p0), (.int p1), (.int p2), (.int p3), (.int p4)] maxLocals) t := fun t k => pre86 t (by
              show oP p e below T83 (mkF m 316 #[oI p0, oI p1, oI p2, oI p3, oI p4, oI sc, oI sa, oI sb, oI si, oI (0 : Int32), oI a0c, oI a1c, oI u, oI b0c, oI b1c, oI jd, oR b41, oR b52, oR b69, oR b76, oU, oU] [(.int b0c), (.int a0c)]) _
              refine XS.icmpNo X83.here hx rfl (hb hby at_316) rfl (teq hc87).2 ?_
              show oP p e below T83 (mkF m 319 #[oI p0, oI p1, oI p2, oI p3, oI p4, oI sc, oI sa, oI sb, oI si, oI (0 : Int32), oI a0c, oI a1c, oI u, oI b0c, oI b1c, oI jd, oR b41, oR b52, oR b69, oR b76, oU, oU] []) _
              refine XS.iload X83.here hx rfl (hb hby at_319) rfl ?_
              show oP p e below T83 (mkF m 321 #[oI p0, oI p1, oI p2, oI p3, oI p4, oI sc, oI sa, oI sb, oI si, oI (0 : Int32), oI a0c, oI a1c, oI u, oI b0c, oI b1c, oI jd, oR b41, oR b52, oR b69, oR b76, oU, oU] [(.int sa)]) _
              refine XS.ifNo X83.here hx rfl (hb hby at_321) rfl ((if0 _ _).trans (teq hc40).2) ?_
              show oP p e below T83 (mkF m 324 #[oI p0, oI p1, oI p2, oI p3, oI p4, oI sc, oI sa, oI sb, oI si, oI (0 : Int32), oI a0c, oI a1c, oI u, oI b0c, oI b1c, oI jd, oR b41, oR b52, oR b69, oR b76, oU, oU] []) _
              refine XS.iload X83.here hx rfl (hb hby at_324) rfl ?_
              show oP p e below T83 (mkF m 326 #[oI p0, oI p1, oI p2, oI p3, oI p4, oI sc, oI sa, oI sb, oI si, oI (0 : Int32), oI a0c, oI a1c, oI u, oI b0c, oI b1c, oI jd, oR b41, oR b52, oR b69, oR b76, oU, oU] [(.int a1c)]) _
              refine XS.iload X83.here hx rfl (hb hby at_326) rfl ?_
              exact k)
            by_cases hc89 : a1c = b1c
            · have pre90 : ∀ t, oP p e below T83 (mkF m 346 #[oI p0, oI p1, oI p2, oI p3, oI p4, oI sc, oI sa, oI sb, oI si, oI (0 : Int32), oI a0c, oI a1c, oI u, oI b0c, oI b1c, oI jd, oR b41, oR b52, oR b69, oR b76, oI (1 : Int32), oU] [(.int jd), (.int p2)]) t → oP p e below s₁ (entryFrame m #[(.int p0), (.int p1), (.int p2), (.int p3), (.int p4)] maxLocals) t := fun t k => pre88 t (by
                show oP p e below T83 (mkF m 328 #[oI p0, oI p1, oI p2, oI p3, oI p4, oI sc, oI sa, oI sb, oI si, oI (0 : Int32), oI a0c, oI a1c, oI u, oI b0c, oI b1c, oI jd, oR b41, oR b52, oR b69, oR b76, oU, oU] [(.int b1c), (.int a1c)]) _
                refine XS.icmpNo X83.here hx rfl (hb hby at_328) rfl (teq hc89).2 ?_
                show oP p e below T83 (mkF m 331 #[oI p0, oI p1, oI p2, oI p3, oI p4, oI sc, oI sa, oI sb, oI si, oI (0 : Int32), oI a0c, oI a1c, oI u, oI b0c, oI b1c, oI jd, oR b41, oR b52, oR b69, oR b76, oU, oU] []) _
                refine XS.iconst X83.here hx rfl (hb hby at_331) ?_
                show oP p e below T83 (mkF m 332 #[oI p0, oI p1, oI p2, oI p3, oI p4, oI sc, oI sa, oI sb, oI si, oI (0 : Int32), oI a0c, oI a1c, oI u, oI b0c, oI b1c, oI jd, oR b41, oR b52, oR b69, oR b76, oU, oU] [(.int (1 : Int32))]) _
                refine XS.goto X83.here hx rfl (pc0 := 332) (pc' := 336) rfl (hb hby at_332) (by decide) (by decide) ?_
                show oP p e below T83 (mkF m 336 #[oI p0, oI p1, oI p2, oI p3, oI p4, oI sc, oI sa, oI sb, oI si, oI (0 : Int32), oI a0c, oI a1c, oI u, oI b0c, oI b1c, oI jd, oR b41, oR b52, oR b69, oR b76, oU, oU] [(.int (1 : Int32))]) _
                refine XS.istore X83.here hx rfl (hb hby at_336) rfl (l' := #[oI p0, oI p1, oI p2, oI p3, oI p4, oI sc, oI sa, oI sb, oI si, oI (0 : Int32), oI a0c, oI a1c, oI u, oI b0c, oI b1c, oI jd, oR b41, oR b52, oR b69, oR b76, oI (1 : Int32), oU]) rfl ?_
                show oP p e below T83 (mkF m 338 #[oI p0, oI p1, oI p2, oI p3, oI p4, oI sc, oI sa, oI sb, oI si, oI (0 : Int32), oI a0c, oI a1c, oI u, oI b0c, oI b1c, oI jd, oR b41, oR b52, oR b69, oR b76, oI (1 : Int32), oU] []) _
                refine XS.iload X83.here hx rfl (hb hby at_338) rfl ?_
                show oP p e below T83 (mkF m 340 #[oI p0, oI p1, oI p2, oI p3, oI p4, oI sc, oI sa, oI sb, oI si, oI (0 : Int32), oI a0c, oI a1c, oI u, oI b0c, oI b1c, oI jd, oR b41, oR b52, oR b69, oR b76, oI (1 : Int32), oU] [(.int (1 : Int32))]) _
                refine XS.ifNo X83.here hx rfl (hb hby at_340) rfl ((if0 _ _).trans (feq (by decide : ¬ ((1 : Int32) = (0 : Int32)))).1) ?_
                show oP p e below T83 (mkF m 343 #[oI p0, oI p1, oI p2, oI p3, oI p4, oI sc, oI sa, oI sb, oI si, oI (0 : Int32), oI a0c, oI a1c, oI u, oI b0c, oI b1c, oI jd, oR b41, oR b52, oR b69, oR b76, oI (1 : Int32), oU] []) _
                refine XS.iloadN X83.here hx rfl (hb hby at_343) rfl ?_
                show oP p e below T83 (mkF m 344 #[oI p0, oI p1, oI p2, oI p3, oI p4, oI sc, oI sa, oI sb, oI si, oI (0 : Int32), oI a0c, oI a1c, oI u, oI b0c, oI b1c, oI jd, oR b41, oR b52, oR b69, oR b76, oI (1 : Int32), oU] [(.int p2)]) _
                refine XS.iload X83.here hx rfl (hb hby at_344) rfl ?_
                exact k)
              by_cases hc91 : p2 = jd
              · have fx92 := ((po74_0.ext E76).keep K83q)
                have fx94 := ((po74_1.ext E76).keep K83q (ninS ne_b69_b76 nin0))
                have fx95 := ((po74_2.ext E76).keep K83q (ninS ne_b69_b76 nin0))
                have fx96 := (((((((((pV45.ext E52).ext E54).other W58 (Or.inl ne_b41_b54)).other W59 (Or.inl ne_b41_b54)).keep K61q (ninS ne_b41_b52 nin0)).ext E69).keep K74q (ninS ne_b41_b69 nin0)).ext E76).keep K83q (ninS ne_b41_b76 nin0))
                have fx97 := ((fx79.ext E76).keep K83q (ninS ne_t45_b76 nin0))
                have fx98 := ((((pV61.ext E69).keep K74q (ninS ne_b52_b69 nin0)).ext E76).keep K83q (ninS ne_b52_b76 nin0))
                have fx99 := ((fx82.ext E76).keep K83q (ninS ne_t61_b76 nin0))
                have fx100 := ((fx77.ext E76).keep K83q)
                have fx101 := (((((((((pC45.ext E52).ext E54).other W58 (Or.inl ne_b41_b54)).other W59 (Or.inl ne_b41_b54)).keep K61q (ninS ne_b41_b52 nin0)).ext E69).keep K74q (ninS ne_b41_b69 nin0)).ext E76).keep K83q (ninS ne_b41_b76 nin0))
                have fx102 := ((fx80.ext E76).keep K83q)
                have fx103 := ((((pC61.ext E69).keep K74q (ninS ne_b52_b69 nin0)).ext E76).keep K83q (ninS ne_b52_b76 nin0))
                obtain ⟨cq93, kq93, q93a, q93b, q93c⟩ := isOf hZ rfl fx92
                obtain ⟨_, _, ⟨T93, L93, k93, n93⟩, -, X93, ⟨Lc93, hQ93, l93, y93, z93⟩, st93⟩ := X83.virtualBack hx (y := (⟨"com/example/narada/narada/store/QueueKey", "equals", "(Ljava/lang/Object;)Z"⟩ : MethodName)) (z := (⟨"com/example/narada/narada/store/QueueKey", "equals", "(Ljava/lang/Object;)Z"⟩ : MethodName)) hown (mvT hZ (hw _ (List.mem_of_getElem? (i := 41) rfl))) (mvT hZ (hw _ (List.mem_of_getElem? (i := 42) rfl))) (notFace_of_selects (args := #[]) (mvT hZ (hw _ (List.mem_of_getElem? (i := 44) rfl)))) (mvT hZ (hw _ (List.mem_of_getElem? (i := 44) rfl))) (mvT hZ (hw _ (List.mem_of_getElem? (i := 43) rfl))) (by decide) (backOf (W := 0) (rm8q l Z a0 hw hS [] b69 b76 b41 b52 p2 jd t45 kt45 ([a0c, a1c] : List Int32) t61 kt61 ([b0c, b1c] : List Int32) T83.heap n0 O83 po83_0 fx94 po83_1 fx95 po83_2 fx100 fx101 fx96 fx97 hp49 (Nat.le_of_ble_eq_true rfl) fx102 fx103 fx98 fx99 hp65 (Nat.le_of_ble_eq_true rfl)) hZ (hw _ (List.mem_of_getElem? (i := 45) rfl)) (hw _ (List.mem_of_getElem? (i := 32) rfl)) (by decide) (by decide)) q93a q93c (g := (mkF m 360 #[oI p0, oI p1, oI p2, oI p3, oI p4, oI sc, oI sa, oI sb, oI si, oI (0 : Int32), oI a0c, oI a1c, oI u, oI b0c, oI b1c, oI jd, oR b41, oR b52, oR b69, oR b76, oI (1 : Int32), oI (1 : Int32)] [(.ref b76), (.ref b69)])) rfl (by rw [hml]; rfl) (Steps.refl _) (argsL := [(.ref b76)]) (rest := []) (lenOf pd_0 rfl) rfl (by show 2 * 0 + _ ≤ _; exact Nat.le_of_eq rfl) (hb hby at_360) (fun _ _ => ⟨rfl, rfl, (by decide : 8 + 0 ≤ _), (by decide : 20 + 0 ≤ _)⟩)
                dsimp only [Pt.U, Pt.locs, Pt.cells, Pt.slots] at X93 l93 y93 z93 st93 hQ93
                subst l93 y93 z93
                obtain ⟨v93, N93q, K93q⟩ := hQ93
                subst v93
                have N93 := Fr.app N83 N93q
                have O93 := O83.keep K93q all0
                have Kc93 := Kc83.trans K93q all0
                have pre104 : ∀ t, oP p e below T93 (mkF m 365 #[oI p0, oI p1, oI p2, oI p3, oI p4, oI sc, oI sa, oI sb, oI si, oI (0 : Int32), oI a0c, oI a1c, oI u, oI b0c, oI b1c, oI jd, oR b41, oR b52, oR b69, oR b76, oI (1 : Int32), oI (1 : Int32)] [(.int (1 : Int32)), (.int (fn8q Z b69 b76 b41 b52 p2 jd t45 kt45 ([a0c, a1c] : List Int32) t61 kt61 ([b0c, b1c] : List Int32)))]) t → oP p e below s₁ (entryFrame m #[(.int p0), (.int p1), (.int p2), (.int p3), (.int p4)] maxLocals) t := fun t k => pre90 t (by
                  show oP p e below T83 (mkF m 346 #[oI p0, oI p1, oI p2, oI p3, oI p4, oI sc, oI sa, oI sb, oI si, oI (0 : Int32), oI a0c, oI a1c, oI u, oI b0c, oI b1c, oI jd, oR b41, oR b52, oR b69, oR b76, oI (1 : Int32), oU] [(.int jd), (.int p2)]) _
                  refine XS.icmpNo X83.here hx rfl (hb hby at_346) rfl (teq hc91).2 ?_
                  show oP p e below T83 (mkF m 349 #[oI p0, oI p1, oI p2, oI p3, oI p4, oI sc, oI sa, oI sb, oI si, oI (0 : Int32), oI a0c, oI a1c, oI u, oI b0c, oI b1c, oI jd, oR b41, oR b52, oR b69, oR b76, oI (1 : Int32), oU] []) _
                  refine XS.iconst X83.here hx rfl (hb hby at_349) ?_
                  show oP p e below T83 (mkF m 350 #[oI p0, oI p1, oI p2, oI p3, oI p4, oI sc, oI sa, oI sb, oI si, oI (0 : Int32), oI a0c, oI a1c, oI u, oI b0c, oI b1c, oI jd, oR b41, oR b52, oR b69, oR b76, oI (1 : Int32), oU] [(.int (1 : Int32))]) _
                  refine XS.goto X83.here hx rfl (pc0 := 350) (pc' := 354) rfl (hb hby at_350) (by decide) (by decide) ?_
                  show oP p e below T83 (mkF m 354 #[oI p0, oI p1, oI p2, oI p3, oI p4, oI sc, oI sa, oI sb, oI si, oI (0 : Int32), oI a0c, oI a1c, oI u, oI b0c, oI b1c, oI jd, oR b41, oR b52, oR b69, oR b76, oI (1 : Int32), oU] [(.int (1 : Int32))]) _
                  refine XS.istore X83.here hx rfl (hb hby at_354) rfl (l' := #[oI p0, oI p1, oI p2, oI p3, oI p4, oI sc, oI sa, oI sb, oI si, oI (0 : Int32), oI a0c, oI a1c, oI u, oI b0c, oI b1c, oI jd, oR b41, oR b52, oR b69, oR b76, oI (1 : Int32), oI (1 : Int32)]) rfl ?_
                  show oP p e below T83 (mkF m 356 #[oI p0, oI p1, oI p2, oI p3, oI p4, oI sc, oI sa, oI sb, oI si, oI (0 : Int32), oI a0c, oI a1c, oI u, oI b0c, oI b1c, oI jd, oR b41, oR b52, oR b69, oR b76, oI (1 : Int32), oI (1 : Int32)] []) _
                  refine XS.aload X83.here hx rfl (hb hby at_356) rfl rfl ?_
                  show oP p e below T83 (mkF m 358 #[oI p0, oI p1, oI p2, oI p3, oI p4, oI sc, oI sa, oI sb, oI si, oI (0 : Int32), oI a0c, oI a1c, oI u, oI b0c, oI b1c, oI jd, oR b41, oR b52, oR b69, oR b76, oI (1 : Int32), oI (1 : Int32)] [(.ref b69)]) _
                  refine XS.aload X83.here hx rfl (hb hby at_358) rfl rfl ?_
                  show oP p e below T83 (mkF m 360 #[oI p0, oI p1, oI p2, oI p3, oI p4, oI sc, oI sa, oI sb, oI si, oI (0 : Int32), oI a0c, oI a1c, oI u, oI b0c, oI b1c, oI jd, oR b41, oR b52, oR b69, oR b76, oI (1 : Int32), oI (1 : Int32)] [(.ref b76), (.ref b69)]) _
                  refine st93.trans ?_
                  show oP p e below T93 (mkF m 363 #[oI p0, oI p1, oI p2, oI p3, oI p4, oI sc, oI sa, oI sb, oI si, oI (0 : Int32), oI a0c, oI a1c, oI u, oI b0c, oI b1c, oI jd, oR b41, oR b52, oR b69, oR b76, oI (1 : Int32), oI (1 : Int32)] [(.int (fn8q Z b69 b76 b41 b52 p2 jd t45 kt45 ([a0c, a1c] : List Int32) t61 kt61 ([b0c, b1c] : List Int32)))]) _
                  refine XS.iload X93.here hx rfl (hb hby at_363) rfl ?_
                  exact k)
                by_cases hc105 : (fn8q Z b69 b76 b41 b52 p2 jd t45 kt45 ([a0c, a1c] : List Int32) t61 kt61 ([b0c, b1c] : List Int32)) = (1 : Int32)
                · have fx106 := (po83_0.keep K93q)
                  have fx108 := (po83_1.keep K93q nin0)
                  have fx109 := (fx94.keep K93q nin0)
                  have fx110 := (po83_2.keep K93q nin0)
                  have fx111 := (fx95.keep K93q nin0)
                  have fx112 := (fx98.keep K93q nin0)
                  have fx113 := (fx99.keep K93q nin0)
                  have fx114 := (fx96.keep K93q nin0)
                  have fx115 := (fx97.keep K93q nin0)
                  have fx116 := (fx92.keep K93q)
                  have fx117 := (fx102.keep K93q)
                  have fx118 := (fx103.keep K93q nin0)
                  have fx119 := (fx100.keep K93q)
                  have fx120 := (fx101.keep K93q nin0)
                  obtain ⟨cq107, kq107, q107a, q107b, q107c⟩ := isOf hZ rfl fx106
                  obtain ⟨_, _, ⟨T107, L107, k107, n107⟩, -, X107, ⟨Lc107, hQ107, l107, y107, z107⟩, st107⟩ := X93.virtualBack hx (y := (⟨"com/example/narada/narada/store/QueueKey", "equals", "(Ljava/lang/Object;)Z"⟩ : MethodName)) (z := (⟨"com/example/narada/narada/store/QueueKey", "equals", "(Ljava/lang/Object;)Z"⟩ : MethodName)) hown (mvT hZ (hw _ (List.mem_of_getElem? (i := 41) rfl))) (mvT hZ (hw _ (List.mem_of_getElem? (i := 42) rfl))) (notFace_of_selects (args := #[]) (mvT hZ (hw _ (List.mem_of_getElem? (i := 44) rfl)))) (mvT hZ (hw _ (List.mem_of_getElem? (i := 44) rfl))) (mvT hZ (hw _ (List.mem_of_getElem? (i := 43) rfl))) (by decide) (backOf (W := 0) (rm8q l Z a0 hw hS [] b76 b69 b52 b41 jd p2 t61 kt61 ([b0c, b1c] : List Int32) t45 kt45 ([a0c, a1c] : List Int32) T93.heap n0 O93 fx116 fx108 fx109 fx110 fx111 fx117 fx118 fx112 fx113 hp65 (Nat.le_of_ble_eq_true rfl) fx119 fx120 fx114 fx115 hp49 (Nat.le_of_ble_eq_true rfl)) hZ (hw _ (List.mem_of_getElem? (i := 45) rfl)) (hw _ (List.mem_of_getElem? (i := 32) rfl)) (by decide) (by decide)) q107a q107c (g := (mkF m 372 #[oI p0, oI p1, oI p2, oI p3, oI p4, oI sc, oI sa, oI sb, oI si, oI (0 : Int32), oI a0c, oI a1c, oI u, oI b0c, oI b1c, oI jd, oR b41, oR b52, oR b69, oR b76, oI (1 : Int32), oI (1 : Int32)] [(.ref b69), (.ref b76)])) rfl (by rw [hml]; rfl) (Steps.refl _) (argsL := [(.ref b69)]) (rest := []) (lenOf pd_0 rfl) rfl (by show 2 * 0 + _ ≤ _; exact Nat.le_of_eq rfl) (hb hby at_372) (fun _ _ => ⟨rfl, rfl, (by decide : 8 + 0 ≤ _), (by decide : 20 + 0 ≤ _)⟩)
                  dsimp only [Pt.U, Pt.locs, Pt.cells, Pt.slots] at X107 l107 y107 z107 st107 hQ107
                  subst l107 y107 z107
                  obtain ⟨v107, N107q, K107q⟩ := hQ107
                  subst v107
                  have N107 := Fr.app N93 N107q
                  have O107 := O93.keep K107q all0
                  have Kc107 := Kc93.trans K107q all0
                  have pre121 : ∀ t, oP p e below T107 (mkF m 377 #[oI p0, oI p1, oI p2, oI p3, oI p4, oI sc, oI sa, oI sb, oI si, oI (0 : Int32), oI a0c, oI a1c, oI u, oI b0c, oI b1c, oI jd, oR b41, oR b52, oR b69, oR b76, oI (1 : Int32), oI (1 : Int32)] [(.int (1 : Int32)), (.int (fn8q Z b76 b69 b52 b41 jd p2 t61 kt61 ([b0c, b1c] : List Int32) t45 kt45 ([a0c, a1c] : List Int32)))]) t → oP p e below s₁ (entryFrame m #[(.int p0), (.int p1), (.int p2), (.int p3), (.int p4)] maxLocals) t := fun t k => pre104 t (by
                    show oP p e below T93 (mkF m 365 #[oI p0, oI p1, oI p2, oI p3, oI p4, oI sc, oI sa, oI sb, oI si, oI (0 : Int32), oI a0c, oI a1c, oI u, oI b0c, oI b1c, oI jd, oR b41, oR b52, oR b69, oR b76, oI (1 : Int32), oI (1 : Int32)] [(.int (1 : Int32)), (.int (fn8q Z b69 b76 b41 b52 p2 jd t45 kt45 ([a0c, a1c] : List Int32) t61 kt61 ([b0c, b1c] : List Int32)))]) _
                    refine XS.icmpNo X93.here hx rfl (hb hby at_365) rfl (teq hc105).2 ?_
                    show oP p e below T93 (mkF m 368 #[oI p0, oI p1, oI p2, oI p3, oI p4, oI sc, oI sa, oI sb, oI si, oI (0 : Int32), oI a0c, oI a1c, oI u, oI b0c, oI b1c, oI jd, oR b41, oR b52, oR b69, oR b76, oI (1 : Int32), oI (1 : Int32)] []) _
                    refine XS.aload X93.here hx rfl (hb hby at_368) rfl rfl ?_
                    show oP p e below T93 (mkF m 370 #[oI p0, oI p1, oI p2, oI p3, oI p4, oI sc, oI sa, oI sb, oI si, oI (0 : Int32), oI a0c, oI a1c, oI u, oI b0c, oI b1c, oI jd, oR b41, oR b52, oR b69, oR b76, oI (1 : Int32), oI (1 : Int32)] [(.ref b76)]) _
                    refine XS.aload X93.here hx rfl (hb hby at_370) rfl rfl ?_
                    show oP p e below T93 (mkF m 372 #[oI p0, oI p1, oI p2, oI p3, oI p4, oI sc, oI sa, oI sb, oI si, oI (0 : Int32), oI a0c, oI a1c, oI u, oI b0c, oI b1c, oI jd, oR b41, oR b52, oR b69, oR b76, oI (1 : Int32), oI (1 : Int32)] [(.ref b69), (.ref b76)]) _
                    refine st107.trans ?_
                    show oP p e below T107 (mkF m 375 #[oI p0, oI p1, oI p2, oI p3, oI p4, oI sc, oI sa, oI sb, oI si, oI (0 : Int32), oI a0c, oI a1c, oI u, oI b0c, oI b1c, oI jd, oR b41, oR b52, oR b69, oR b76, oI (1 : Int32), oI (1 : Int32)] [(.int (fn8q Z b76 b69 b52 b41 jd p2 t61 kt61 ([b0c, b1c] : List Int32) t45 kt45 ([a0c, a1c] : List Int32)))]) _
                    refine XS.iload X107.here hx rfl (hb hby at_375) rfl ?_
                    exact k)
                  by_cases hc122 : (fn8q Z b76 b69 b52 b41 jd p2 t61 kt61 ([b0c, b1c] : List Int32) t45 kt45 ([a0c, a1c] : List Int32)) = (1 : Int32)
                  · obtain ⟨fs, hr, hrun, hended, hW, hsame⟩ := X107.leave (v := some (.int (1 : Int32))) (fun h => by rw [Bd.returns] at h; cases h)
                    refine ⟨_, _, pre121 _ ?_, hrun, hended, _, _, rfl, ?_, ⟨_, rfl⟩, hW, hsame.mono (by decide) (by decide)⟩
                    · show oP p e below T107 (mkF m 377 #[oI p0, oI p1, oI p2, oI p3, oI p4, oI sc, oI sa, oI sb, oI si, oI (0 : Int32), oI a0c, oI a1c, oI u, oI b0c, oI b1c, oI jd, oR b41, oR b52, oR b69, oR b76, oI (1 : Int32), oI (1 : Int32)] [(.int (1 : Int32)), (.int (fn8q Z b76 b69 b52 b41 jd p2 t61 kt61 ([b0c, b1c] : List Int32) t45 kt45 ([a0c, a1c] : List Int32)))]) _
                      refine XS.icmpNo X107.here hx rfl (hb hby at_377) rfl (teq hc122).2 ?_
                      show oP p e below T107 (mkF m 380 #[oI p0, oI p1, oI p2, oI p3, oI p4, oI sc, oI sa, oI sb, oI si, oI (0 : Int32), oI a0c, oI a1c, oI u, oI b0c, oI b1c, oI jd, oR b41, oR b52, oR b69, oR b76, oI (1 : Int32), oI (1 : Int32)] []) _
                      refine XS.iconst X107.here hx rfl (hb hby at_380) ?_
                      show oP p e below T107 (mkF m 381 #[oI p0, oI p1, oI p2, oI p3, oI p4, oI sc, oI sa, oI sb, oI si, oI (0 : Int32), oI a0c, oI a1c, oI u, oI b0c, oI b1c, oI jd, oR b41, oR b52, oR b69, oR b76, oI (1 : Int32), oI (1 : Int32)] [(.int (1 : Int32))]) _
                      refine XS.goto X107.here hx rfl (pc0 := 381) (pc' := 385) rfl (hb hby at_381) (by decide) (by decide) ?_
                      show oP p e below T107 (mkF m 385 #[oI p0, oI p1, oI p2, oI p3, oI p4, oI sc, oI sa, oI sb, oI si, oI (0 : Int32), oI a0c, oI a1c, oI u, oI b0c, oI b1c, oI jd, oR b41, oR b52, oR b69, oR b76, oI (1 : Int32), oI (1 : Int32)] [(.int (1 : Int32))]) _
                      exact retN X107 hx (t := .boolean) Bd.returns (by simp) (hb hby at_385) hr
                    · show (some (.int (1 : Int32)) : Option Value) = some (.int (1 : Int32)) ∧ Fr n0 _ ∧ Keep h0 T107.heap []
                      exact ⟨rfl, N107, Kc107⟩
                  · exfalso
                    exact ab123 hS p2 sa sb a0c a1c b0c b1c jd rsa rsb hc40 hc51 hc85 hc87 hc89 hc91 hc105 hc122
                · exfalso
                  exact ab124 hS p2 sa sb a0c a1c b0c b1c jd rsa rsb hc40 hc51 hc85 hc87 hc89 hc91 hc105
              · have fx125 := ((po74_0.ext E76).keep K83q)
                have fx127 := ((po74_1.ext E76).keep K83q (ninS ne_b69_b76 nin0))
                have fx128 := ((po74_2.ext E76).keep K83q (ninS ne_b69_b76 nin0))
                have fx129 := (((((((((pV45.ext E52).ext E54).other W58 (Or.inl ne_b41_b54)).other W59 (Or.inl ne_b41_b54)).keep K61q (ninS ne_b41_b52 nin0)).ext E69).keep K74q (ninS ne_b41_b69 nin0)).ext E76).keep K83q (ninS ne_b41_b76 nin0))
                have fx130 := ((fx79.ext E76).keep K83q (ninS ne_t45_b76 nin0))
                have fx131 := ((((pV61.ext E69).keep K74q (ninS ne_b52_b69 nin0)).ext E76).keep K83q (ninS ne_b52_b76 nin0))
                have fx132 := ((fx82.ext E76).keep K83q (ninS ne_t61_b76 nin0))
                have fx133 := ((fx77.ext E76).keep K83q)
                have fx134 := (((((((((pC45.ext E52).ext E54).other W58 (Or.inl ne_b41_b54)).other W59 (Or.inl ne_b41_b54)).keep K61q (ninS ne_b41_b52 nin0)).ext E69).keep K74q (ninS ne_b41_b69 nin0)).ext E76).keep K83q (ninS ne_b41_b76 nin0))
                have fx135 := ((fx80.ext E76).keep K83q)
                have fx136 := ((((pC61.ext E69).keep K74q (ninS ne_b52_b69 nin0)).ext E76).keep K83q (ninS ne_b52_b76 nin0))
                obtain ⟨cq126, kq126, q126a, q126b, q126c⟩ := isOf hZ rfl fx125
                obtain ⟨_, _, ⟨T126, L126, k126, n126⟩, -, X126, ⟨Lc126, hQ126, l126, y126, z126⟩, st126⟩ := X83.virtualBack hx (y := (⟨"com/example/narada/narada/store/QueueKey", "equals", "(Ljava/lang/Object;)Z"⟩ : MethodName)) (z := (⟨"com/example/narada/narada/store/QueueKey", "equals", "(Ljava/lang/Object;)Z"⟩ : MethodName)) hown (mvT hZ (hw _ (List.mem_of_getElem? (i := 41) rfl))) (mvT hZ (hw _ (List.mem_of_getElem? (i := 42) rfl))) (notFace_of_selects (args := #[]) (mvT hZ (hw _ (List.mem_of_getElem? (i := 44) rfl)))) (mvT hZ (hw _ (List.mem_of_getElem? (i := 44) rfl))) (mvT hZ (hw _ (List.mem_of_getElem? (i := 43) rfl))) (by decide) (backOf (W := 0) (rm8q l Z a0 hw hS [] b69 b76 b41 b52 p2 jd t45 kt45 ([a0c, a1c] : List Int32) t61 kt61 ([b0c, b1c] : List Int32) T83.heap n0 O83 po83_0 fx127 po83_1 fx128 po83_2 fx133 fx134 fx129 fx130 hp49 (Nat.le_of_ble_eq_true rfl) fx135 fx136 fx131 fx132 hp65 (Nat.le_of_ble_eq_true rfl)) hZ (hw _ (List.mem_of_getElem? (i := 45) rfl)) (hw _ (List.mem_of_getElem? (i := 32) rfl)) (by decide) (by decide)) q126a q126c (g := (mkF m 360 #[oI p0, oI p1, oI p2, oI p3, oI p4, oI sc, oI sa, oI sb, oI si, oI (0 : Int32), oI a0c, oI a1c, oI u, oI b0c, oI b1c, oI jd, oR b41, oR b52, oR b69, oR b76, oI (1 : Int32), oI (0 : Int32)] [(.ref b76), (.ref b69)])) rfl (by rw [hml]; rfl) (Steps.refl _) (argsL := [(.ref b76)]) (rest := []) (lenOf pd_0 rfl) rfl (by show 2 * 0 + _ ≤ _; exact Nat.le_of_eq rfl) (hb hby at_360) (fun _ _ => ⟨rfl, rfl, (by decide : 8 + 0 ≤ _), (by decide : 20 + 0 ≤ _)⟩)
                dsimp only [Pt.U, Pt.locs, Pt.cells, Pt.slots] at X126 l126 y126 z126 st126 hQ126
                subst l126 y126 z126
                obtain ⟨v126, N126q, K126q⟩ := hQ126
                subst v126
                have N126 := Fr.app N83 N126q
                have O126 := O83.keep K126q all0
                have Kc126 := Kc83.trans K126q all0
                have pre137 : ∀ t, oP p e below T126 (mkF m 365 #[oI p0, oI p1, oI p2, oI p3, oI p4, oI sc, oI sa, oI sb, oI si, oI (0 : Int32), oI a0c, oI a1c, oI u, oI b0c, oI b1c, oI jd, oR b41, oR b52, oR b69, oR b76, oI (1 : Int32), oI (0 : Int32)] [(.int (0 : Int32)), (.int (fn8q Z b69 b76 b41 b52 p2 jd t45 kt45 ([a0c, a1c] : List Int32) t61 kt61 ([b0c, b1c] : List Int32)))]) t → oP p e below s₁ (entryFrame m #[(.int p0), (.int p1), (.int p2), (.int p3), (.int p4)] maxLocals) t := fun t k => pre90 t (by
                  show oP p e below T83 (mkF m 346 #[oI p0, oI p1, oI p2, oI p3, oI p4, oI sc, oI sa, oI sb, oI si, oI (0 : Int32), oI a0c, oI a1c, oI u, oI b0c, oI b1c, oI jd, oR b41, oR b52, oR b69, oR b76, oI (1 : Int32), oU] [(.int jd), (.int p2)]) _
                  refine XS.icmpYes X83.here hx rfl (pc0 := 346) (pc' := 353) rfl (hb hby at_346) rfl (feq hc91).2 (by decide) (by decide) ?_
                  show oP p e below T83 (mkF m 353 #[oI p0, oI p1, oI p2, oI p3, oI p4, oI sc, oI sa, oI sb, oI si, oI (0 : Int32), oI a0c, oI a1c, oI u, oI b0c, oI b1c, oI jd, oR b41, oR b52, oR b69, oR b76, oI (1 : Int32), oU] []) _
                  refine XS.iconst X83.here hx rfl (hb hby at_353) ?_
                  show oP p e below T83 (mkF m 354 #[oI p0, oI p1, oI p2, oI p3, oI p4, oI sc, oI sa, oI sb, oI si, oI (0 : Int32), oI a0c, oI a1c, oI u, oI b0c, oI b1c, oI jd, oR b41, oR b52, oR b69, oR b76, oI (1 : Int32), oU] [(.int (0 : Int32))]) _
                  refine XS.istore X83.here hx rfl (hb hby at_354) rfl (l' := #[oI p0, oI p1, oI p2, oI p3, oI p4, oI sc, oI sa, oI sb, oI si, oI (0 : Int32), oI a0c, oI a1c, oI u, oI b0c, oI b1c, oI jd, oR b41, oR b52, oR b69, oR b76, oI (1 : Int32), oI (0 : Int32)]) rfl ?_
                  show oP p e below T83 (mkF m 356 #[oI p0, oI p1, oI p2, oI p3, oI p4, oI sc, oI sa, oI sb, oI si, oI (0 : Int32), oI a0c, oI a1c, oI u, oI b0c, oI b1c, oI jd, oR b41, oR b52, oR b69, oR b76, oI (1 : Int32), oI (0 : Int32)] []) _
                  refine XS.aload X83.here hx rfl (hb hby at_356) rfl rfl ?_
                  show oP p e below T83 (mkF m 358 #[oI p0, oI p1, oI p2, oI p3, oI p4, oI sc, oI sa, oI sb, oI si, oI (0 : Int32), oI a0c, oI a1c, oI u, oI b0c, oI b1c, oI jd, oR b41, oR b52, oR b69, oR b76, oI (1 : Int32), oI (0 : Int32)] [(.ref b69)]) _
                  refine XS.aload X83.here hx rfl (hb hby at_358) rfl rfl ?_
                  show oP p e below T83 (mkF m 360 #[oI p0, oI p1, oI p2, oI p3, oI p4, oI sc, oI sa, oI sb, oI si, oI (0 : Int32), oI a0c, oI a1c, oI u, oI b0c, oI b1c, oI jd, oR b41, oR b52, oR b69, oR b76, oI (1 : Int32), oI (0 : Int32)] [(.ref b76), (.ref b69)]) _
                  refine st126.trans ?_
                  show oP p e below T126 (mkF m 363 #[oI p0, oI p1, oI p2, oI p3, oI p4, oI sc, oI sa, oI sb, oI si, oI (0 : Int32), oI a0c, oI a1c, oI u, oI b0c, oI b1c, oI jd, oR b41, oR b52, oR b69, oR b76, oI (1 : Int32), oI (0 : Int32)] [(.int (fn8q Z b69 b76 b41 b52 p2 jd t45 kt45 ([a0c, a1c] : List Int32) t61 kt61 ([b0c, b1c] : List Int32)))]) _
                  refine XS.iload X126.here hx rfl (hb hby at_363) rfl ?_
                  exact k)
                by_cases hc138 : (fn8q Z b69 b76 b41 b52 p2 jd t45 kt45 ([a0c, a1c] : List Int32) t61 kt61 ([b0c, b1c] : List Int32)) = (0 : Int32)
                · have fx139 := (po83_0.keep K126q)
                  have fx141 := (po83_1.keep K126q nin0)
                  have fx142 := (fx127.keep K126q nin0)
                  have fx143 := (po83_2.keep K126q nin0)
                  have fx144 := (fx128.keep K126q nin0)
                  have fx145 := (fx131.keep K126q nin0)
                  have fx146 := (fx132.keep K126q nin0)
                  have fx147 := (fx129.keep K126q nin0)
                  have fx148 := (fx130.keep K126q nin0)
                  have fx149 := (fx125.keep K126q)
                  have fx150 := (fx135.keep K126q)
                  have fx151 := (fx136.keep K126q nin0)
                  have fx152 := (fx133.keep K126q)
                  have fx153 := (fx134.keep K126q nin0)
                  obtain ⟨cq140, kq140, q140a, q140b, q140c⟩ := isOf hZ rfl fx139
                  obtain ⟨_, _, ⟨T140, L140, k140, n140⟩, -, X140, ⟨Lc140, hQ140, l140, y140, z140⟩, st140⟩ := X126.virtualBack hx (y := (⟨"com/example/narada/narada/store/QueueKey", "equals", "(Ljava/lang/Object;)Z"⟩ : MethodName)) (z := (⟨"com/example/narada/narada/store/QueueKey", "equals", "(Ljava/lang/Object;)Z"⟩ : MethodName)) hown (mvT hZ (hw _ (List.mem_of_getElem? (i := 41) rfl))) (mvT hZ (hw _ (List.mem_of_getElem? (i := 42) rfl))) (notFace_of_selects (args := #[]) (mvT hZ (hw _ (List.mem_of_getElem? (i := 44) rfl)))) (mvT hZ (hw _ (List.mem_of_getElem? (i := 44) rfl))) (mvT hZ (hw _ (List.mem_of_getElem? (i := 43) rfl))) (by decide) (backOf (W := 0) (rm8q l Z a0 hw hS [] b76 b69 b52 b41 jd p2 t61 kt61 ([b0c, b1c] : List Int32) t45 kt45 ([a0c, a1c] : List Int32) T126.heap n0 O126 fx149 fx141 fx142 fx143 fx144 fx150 fx151 fx145 fx146 hp65 (Nat.le_of_ble_eq_true rfl) fx152 fx153 fx147 fx148 hp49 (Nat.le_of_ble_eq_true rfl)) hZ (hw _ (List.mem_of_getElem? (i := 45) rfl)) (hw _ (List.mem_of_getElem? (i := 32) rfl)) (by decide) (by decide)) q140a q140c (g := (mkF m 372 #[oI p0, oI p1, oI p2, oI p3, oI p4, oI sc, oI sa, oI sb, oI si, oI (0 : Int32), oI a0c, oI a1c, oI u, oI b0c, oI b1c, oI jd, oR b41, oR b52, oR b69, oR b76, oI (1 : Int32), oI (0 : Int32)] [(.ref b69), (.ref b76)])) rfl (by rw [hml]; rfl) (Steps.refl _) (argsL := [(.ref b69)]) (rest := []) (lenOf pd_0 rfl) rfl (by show 2 * 0 + _ ≤ _; exact Nat.le_of_eq rfl) (hb hby at_372) (fun _ _ => ⟨rfl, rfl, (by decide : 8 + 0 ≤ _), (by decide : 20 + 0 ≤ _)⟩)
                  dsimp only [Pt.U, Pt.locs, Pt.cells, Pt.slots] at X140 l140 y140 z140 st140 hQ140
                  subst l140 y140 z140
                  obtain ⟨v140, N140q, K140q⟩ := hQ140
                  subst v140
                  have N140 := Fr.app N126 N140q
                  have O140 := O126.keep K140q all0
                  have Kc140 := Kc126.trans K140q all0
                  have pre154 : ∀ t, oP p e below T140 (mkF m 377 #[oI p0, oI p1, oI p2, oI p3, oI p4, oI sc, oI sa, oI sb, oI si, oI (0 : Int32), oI a0c, oI a1c, oI u, oI b0c, oI b1c, oI jd, oR b41, oR b52, oR b69, oR b76, oI (1 : Int32), oI (0 : Int32)] [(.int (0 : Int32)), (.int (fn8q Z b76 b69 b52 b41 jd p2 t61 kt61 ([b0c, b1c] : List Int32) t45 kt45 ([a0c, a1c] : List Int32)))]) t → oP p e below s₁ (entryFrame m #[(.int p0), (.int p1), (.int p2), (.int p3), (.int p4)] maxLocals) t := fun t k => pre137 t (by
                    show oP p e below T126 (mkF m 365 #[oI p0, oI p1, oI p2, oI p3, oI p4, oI sc, oI sa, oI sb, oI si, oI (0 : Int32), oI a0c, oI a1c, oI u, oI b0c, oI b1c, oI jd, oR b41, oR b52, oR b69, oR b76, oI (1 : Int32), oI (0 : Int32)] [(.int (0 : Int32)), (.int (fn8q Z b69 b76 b41 b52 p2 jd t45 kt45 ([a0c, a1c] : List Int32) t61 kt61 ([b0c, b1c] : List Int32)))]) _
                    refine XS.icmpNo X126.here hx rfl (hb hby at_365) rfl (teq hc138).2 ?_
                    show oP p e below T126 (mkF m 368 #[oI p0, oI p1, oI p2, oI p3, oI p4, oI sc, oI sa, oI sb, oI si, oI (0 : Int32), oI a0c, oI a1c, oI u, oI b0c, oI b1c, oI jd, oR b41, oR b52, oR b69, oR b76, oI (1 : Int32), oI (0 : Int32)] []) _
                    refine XS.aload X126.here hx rfl (hb hby at_368) rfl rfl ?_
                    show oP p e below T126 (mkF m 370 #[oI p0, oI p1, oI p2, oI p3, oI p4, oI sc, oI sa, oI sb, oI si, oI (0 : Int32), oI a0c, oI a1c, oI u, oI b0c, oI b1c, oI jd, oR b41, oR b52, oR b69, oR b76, oI (1 : Int32), oI (0 : Int32)] [(.ref b76)]) _
                    refine XS.aload X126.here hx rfl (hb hby at_370) rfl rfl ?_
                    show oP p e below T126 (mkF m 372 #[oI p0, oI p1, oI p2, oI p3, oI p4, oI sc, oI sa, oI sb, oI si, oI (0 : Int32), oI a0c, oI a1c, oI u, oI b0c, oI b1c, oI jd, oR b41, oR b52, oR b69, oR b76, oI (1 : Int32), oI (0 : Int32)] [(.ref b69), (.ref b76)]) _
                    refine st140.trans ?_
                    show oP p e below T140 (mkF m 375 #[oI p0, oI p1, oI p2, oI p3, oI p4, oI sc, oI sa, oI sb, oI si, oI (0 : Int32), oI a0c, oI a1c, oI u, oI b0c, oI b1c, oI jd, oR b41, oR b52, oR b69, oR b76, oI (1 : Int32), oI (0 : Int32)] [(.int (fn8q Z b76 b69 b52 b41 jd p2 t61 kt61 ([b0c, b1c] : List Int32) t45 kt45 ([a0c, a1c] : List Int32)))]) _
                    refine XS.iload X140.here hx rfl (hb hby at_375) rfl ?_
                    exact k)
                  by_cases hc155 : (fn8q Z b76 b69 b52 b41 jd p2 t61 kt61 ([b0c, b1c] : List Int32) t45 kt45 ([a0c, a1c] : List Int32)) = (0 : Int32)
                  · obtain ⟨fs, hr, hrun, hended, hW, hsame⟩ := X140.leave (v := some (.int (1 : Int32))) (fun h => by rw [Bd.returns] at h; cases h)
                    refine ⟨_, _, pre154 _ ?_, hrun, hended, _, _, rfl, ?_, ⟨_, rfl⟩, hW, hsame.mono (by decide) (by decide)⟩
                    · show oP p e below T140 (mkF m 377 #[oI p0, oI p1, oI p2, oI p3, oI p4, oI sc, oI sa, oI sb, oI si, oI (0 : Int32), oI a0c, oI a1c, oI u, oI b0c, oI b1c, oI jd, oR b41, oR b52, oR b69, oR b76, oI (1 : Int32), oI (0 : Int32)] [(.int (0 : Int32)), (.int (fn8q Z b76 b69 b52 b41 jd p2 t61 kt61 ([b0c, b1c] : List Int32) t45 kt45 ([a0c, a1c] : List Int32)))]) _
                      refine XS.icmpNo X140.here hx rfl (hb hby at_377) rfl (teq hc155).2 ?_
                      show oP p e below T140 (mkF m 380 #[oI p0, oI p1, oI p2, oI p3, oI p4, oI sc, oI sa, oI sb, oI si, oI (0 : Int32), oI a0c, oI a1c, oI u, oI b0c, oI b1c, oI jd, oR b41, oR b52, oR b69, oR b76, oI (1 : Int32), oI (0 : Int32)] []) _
                      refine XS.iconst X140.here hx rfl (hb hby at_380) ?_
                      show oP p e below T140 (mkF m 381 #[oI p0, oI p1, oI p2, oI p3, oI p4, oI sc, oI sa, oI sb, oI si, oI (0 : Int32), oI a0c, oI a1c, oI u, oI b0c, oI b1c, oI jd, oR b41, oR b52, oR b69, oR b76, oI (1 : Int32), oI (0 : Int32)] [(.int (1 : Int32))]) _
                      refine XS.goto X140.here hx rfl (pc0 := 381) (pc' := 385) rfl (hb hby at_381) (by decide) (by decide) ?_
                      show oP p e below T140 (mkF m 385 #[oI p0, oI p1, oI p2, oI p3, oI p4, oI sc, oI sa, oI sb, oI si, oI (0 : Int32), oI a0c, oI a1c, oI u, oI b0c, oI b1c, oI jd, oR b41, oR b52, oR b69, oR b76, oI (1 : Int32), oI (0 : Int32)] [(.int (1 : Int32))]) _
                      exact retN X140 hx (t := .boolean) Bd.returns (by simp) (hb hby at_385) hr
                    · show (some (.int (1 : Int32)) : Option Value) = some (.int (1 : Int32)) ∧ Fr n0 _ ∧ Keep h0 T140.heap []
                      exact ⟨rfl, N140, Kc140⟩
                  · exfalso
                    exact ab156 hS p2 sa sb a0c a1c b0c b1c jd rsa rsb hc40 hc51 hc85 hc87 hc89 hc91 hc138 hc155
                · exfalso
                  exact ab157 hS p2 sa sb a0c a1c b0c b1c jd rsa rsb hc40 hc51 hc85 hc87 hc89 hc91 hc138
            · have fx158 := ((po74_0.ext E76).keep K83q)
              have fx160 := ((po74_1.ext E76).keep K83q (ninS ne_b69_b76 nin0))
              have fx161 := ((po74_2.ext E76).keep K83q (ninS ne_b69_b76 nin0))
              have fx162 := (((((((((pV45.ext E52).ext E54).other W58 (Or.inl ne_b41_b54)).other W59 (Or.inl ne_b41_b54)).keep K61q (ninS ne_b41_b52 nin0)).ext E69).keep K74q (ninS ne_b41_b69 nin0)).ext E76).keep K83q (ninS ne_b41_b76 nin0))
              have fx163 := ((fx79.ext E76).keep K83q (ninS ne_t45_b76 nin0))
              have fx164 := ((((pV61.ext E69).keep K74q (ninS ne_b52_b69 nin0)).ext E76).keep K83q (ninS ne_b52_b76 nin0))
              have fx165 := ((fx82.ext E76).keep K83q (ninS ne_t61_b76 nin0))
              have fx166 := ((fx77.ext E76).keep K83q)
              have fx167 := (((((((((pC45.ext E52).ext E54).other W58 (Or.inl ne_b41_b54)).other W59 (Or.inl ne_b41_b54)).keep K61q (ninS ne_b41_b52 nin0)).ext E69).keep K74q (ninS ne_b41_b69 nin0)).ext E76).keep K83q (ninS ne_b41_b76 nin0))
              have fx168 := ((fx80.ext E76).keep K83q)
              have fx169 := ((((pC61.ext E69).keep K74q (ninS ne_b52_b69 nin0)).ext E76).keep K83q (ninS ne_b52_b76 nin0))
              obtain ⟨cq159, kq159, q159a, q159b, q159c⟩ := isOf hZ rfl fx158
              obtain ⟨_, _, ⟨T159, L159, k159, n159⟩, -, X159, ⟨Lc159, hQ159, l159, y159, z159⟩, st159⟩ := X83.virtualBack hx (y := (⟨"com/example/narada/narada/store/QueueKey", "equals", "(Ljava/lang/Object;)Z"⟩ : MethodName)) (z := (⟨"com/example/narada/narada/store/QueueKey", "equals", "(Ljava/lang/Object;)Z"⟩ : MethodName)) hown (mvT hZ (hw _ (List.mem_of_getElem? (i := 41) rfl))) (mvT hZ (hw _ (List.mem_of_getElem? (i := 42) rfl))) (notFace_of_selects (args := #[]) (mvT hZ (hw _ (List.mem_of_getElem? (i := 44) rfl)))) (mvT hZ (hw _ (List.mem_of_getElem? (i := 44) rfl))) (mvT hZ (hw _ (List.mem_of_getElem? (i := 43) rfl))) (by decide) (backOf (W := 0) (rm8q l Z a0 hw hS [] b69 b76 b41 b52 p2 jd t45 kt45 ([a0c, a1c] : List Int32) t61 kt61 ([b0c, b1c] : List Int32) T83.heap n0 O83 po83_0 fx160 po83_1 fx161 po83_2 fx166 fx167 fx162 fx163 hp49 (Nat.le_of_ble_eq_true rfl) fx168 fx169 fx164 fx165 hp65 (Nat.le_of_ble_eq_true rfl)) hZ (hw _ (List.mem_of_getElem? (i := 45) rfl)) (hw _ (List.mem_of_getElem? (i := 32) rfl)) (by decide) (by decide)) q159a q159c (g := (mkF m 360 #[oI p0, oI p1, oI p2, oI p3, oI p4, oI sc, oI sa, oI sb, oI si, oI (0 : Int32), oI a0c, oI a1c, oI u, oI b0c, oI b1c, oI jd, oR b41, oR b52, oR b69, oR b76, oI (0 : Int32), oI (0 : Int32)] [(.ref b76), (.ref b69)])) rfl (by rw [hml]; rfl) (Steps.refl _) (argsL := [(.ref b76)]) (rest := []) (lenOf pd_0 rfl) rfl (by show 2 * 0 + _ ≤ _; exact Nat.le_of_eq rfl) (hb hby at_360) (fun _ _ => ⟨rfl, rfl, (by decide : 8 + 0 ≤ _), (by decide : 20 + 0 ≤ _)⟩)
              dsimp only [Pt.U, Pt.locs, Pt.cells, Pt.slots] at X159 l159 y159 z159 st159 hQ159
              subst l159 y159 z159
              obtain ⟨v159, N159q, K159q⟩ := hQ159
              subst v159
              have N159 := Fr.app N83 N159q
              have O159 := O83.keep K159q all0
              have Kc159 := Kc83.trans K159q all0
              have pre170 : ∀ t, oP p e below T159 (mkF m 365 #[oI p0, oI p1, oI p2, oI p3, oI p4, oI sc, oI sa, oI sb, oI si, oI (0 : Int32), oI a0c, oI a1c, oI u, oI b0c, oI b1c, oI jd, oR b41, oR b52, oR b69, oR b76, oI (0 : Int32), oI (0 : Int32)] [(.int (0 : Int32)), (.int (fn8q Z b69 b76 b41 b52 p2 jd t45 kt45 ([a0c, a1c] : List Int32) t61 kt61 ([b0c, b1c] : List Int32)))]) t → oP p e below s₁ (entryFrame m #[(.int p0), (.int p1), (.int p2), (.int p3), (.int p4)] maxLocals) t := fun t k => pre88 t (by
                show oP p e below T83 (mkF m 328 #[oI p0, oI p1, oI p2, oI p3, oI p4, oI sc, oI sa, oI sb, oI si, oI (0 : Int32), oI a0c, oI a1c, oI u, oI b0c, oI b1c, oI jd, oR b41, oR b52, oR b69, oR b76, oU, oU] [(.int b1c), (.int a1c)]) _
                refine XS.icmpYes X83.here hx rfl (pc0 := 328) (pc' := 335) rfl (hb hby at_328) rfl (feq hc89).2 (by decide) (by decide) ?_
                show oP p e below T83 (mkF m 335 #[oI p0, oI p1, oI p2, oI p3, oI p4, oI sc, oI sa, oI sb, oI si, oI (0 : Int32), oI a0c, oI a1c, oI u, oI b0c, oI b1c, oI jd, oR b41, oR b52, oR b69, oR b76, oU, oU] []) _
                refine XS.iconst X83.here hx rfl (hb hby at_335) ?_
                show oP p e below T83 (mkF m 336 #[oI p0, oI p1, oI p2, oI p3, oI p4, oI sc, oI sa, oI sb, oI si, oI (0 : Int32), oI a0c, oI a1c, oI u, oI b0c, oI b1c, oI jd, oR b41, oR b52, oR b69, oR b76, oU, oU] [(.int (0 : Int32))]) _
                refine XS.istore X83.here hx rfl (hb hby at_336) rfl (l' := #[oI p0, oI p1, oI p2, oI p3, oI p4, oI sc, oI sa, oI sb, oI si, oI (0 : Int32), oI a0c, oI a1c, oI u, oI b0c, oI b1c, oI jd, oR b41, oR b52, oR b69, oR b76, oI (0 : Int32), oU]) rfl ?_
                show oP p e below T83 (mkF m 338 #[oI p0, oI p1, oI p2, oI p3, oI p4, oI sc, oI sa, oI sb, oI si, oI (0 : Int32), oI a0c, oI a1c, oI u, oI b0c, oI b1c, oI jd, oR b41, oR b52, oR b69, oR b76, oI (0 : Int32), oU] []) _
                refine XS.iload X83.here hx rfl (hb hby at_338) rfl ?_
                show oP p e below T83 (mkF m 340 #[oI p0, oI p1, oI p2, oI p3, oI p4, oI sc, oI sa, oI sb, oI si, oI (0 : Int32), oI a0c, oI a1c, oI u, oI b0c, oI b1c, oI jd, oR b41, oR b52, oR b69, oR b76, oI (0 : Int32), oU] [(.int (0 : Int32))]) _
                refine XS.ifYes X83.here hx rfl (pc0 := 340) (pc' := 353) rfl (hb hby at_340) rfl ((if0 _ _).trans (teq (by decide : (0 : Int32) = (0 : Int32))).1) (by decide) (by decide) ?_
                show oP p e below T83 (mkF m 353 #[oI p0, oI p1, oI p2, oI p3, oI p4, oI sc, oI sa, oI sb, oI si, oI (0 : Int32), oI a0c, oI a1c, oI u, oI b0c, oI b1c, oI jd, oR b41, oR b52, oR b69, oR b76, oI (0 : Int32), oU] []) _
                refine XS.iconst X83.here hx rfl (hb hby at_353) ?_
                show oP p e below T83 (mkF m 354 #[oI p0, oI p1, oI p2, oI p3, oI p4, oI sc, oI sa, oI sb, oI si, oI (0 : Int32), oI a0c, oI a1c, oI u, oI b0c, oI b1c, oI jd, oR b41, oR b52, oR b69, oR b76, oI (0 : Int32), oU] [(.int (0 : Int32))]) _
                refine XS.istore X83.here hx rfl (hb hby at_354) rfl (l' := #[oI p0, oI p1, oI p2, oI p3, oI p4, oI sc, oI sa, oI sb, oI si, oI (0 : Int32), oI a0c, oI a1c, oI u, oI b0c, oI b1c, oI jd, oR b41, oR b52, oR b69, oR b76, oI (0 : Int32), oI (0 : Int32)]) rfl ?_
                show oP p e below T83 (mkF m 356 #[oI p0, oI p1, oI p2, oI p3, oI p4, oI sc, oI sa, oI sb, oI si, oI (0 : Int32), oI a0c, oI a1c, oI u, oI b0c, oI b1c, oI jd, oR b41, oR b52, oR b69, oR b76, oI (0 : Int32), oI (0 : Int32)] []) _
                refine XS.aload X83.here hx rfl (hb hby at_356) rfl rfl ?_
                show oP p e below T83 (mkF m 358 #[oI p0, oI p1, oI p2, oI p3, oI p4, oI sc, oI sa, oI sb, oI si, oI (0 : Int32), oI a0c, oI a1c, oI u, oI b0c, oI b1c, oI jd, oR b41, oR b52, oR b69, oR b76, oI (0 : Int32), oI (0 : Int32)] [(.ref b69)]) _
                refine XS.aload X83.here hx rfl (hb hby at_358) rfl rfl ?_
                show oP p e below T83 (mkF m 360 #[oI p0, oI p1, oI p2, oI p3, oI p4, oI sc, oI sa, oI sb, oI si, oI (0 : Int32), oI a0c, oI a1c, oI u, oI b0c, oI b1c, oI jd, oR b41, oR b52, oR b69, oR b76, oI (0 : Int32), oI (0 : Int32)] [(.ref b76), (.ref b69)]) _
                refine st159.trans ?_
                show oP p e below T159 (mkF m 363 #[oI p0, oI p1, oI p2, oI p3, oI p4, oI sc, oI sa, oI sb, oI si, oI (0 : Int32), oI a0c, oI a1c, oI u, oI b0c, oI b1c, oI jd, oR b41, oR b52, oR b69, oR b76, oI (0 : Int32), oI (0 : Int32)] [(.int (fn8q Z b69 b76 b41 b52 p2 jd t45 kt45 ([a0c, a1c] : List Int32) t61 kt61 ([b0c, b1c] : List Int32)))]) _
                refine XS.iload X159.here hx rfl (hb hby at_363) rfl ?_
                exact k)
              by_cases hc171 : (fn8q Z b69 b76 b41 b52 p2 jd t45 kt45 ([a0c, a1c] : List Int32) t61 kt61 ([b0c, b1c] : List Int32)) = (0 : Int32)
              · have fx172 := (po83_0.keep K159q)
                have fx174 := (po83_1.keep K159q nin0)
                have fx175 := (fx160.keep K159q nin0)
                have fx176 := (po83_2.keep K159q nin0)
                have fx177 := (fx161.keep K159q nin0)
                have fx178 := (fx164.keep K159q nin0)
                have fx179 := (fx165.keep K159q nin0)
                have fx180 := (fx162.keep K159q nin0)
                have fx181 := (fx163.keep K159q nin0)
                have fx182 := (fx158.keep K159q)
                have fx183 := (fx168.keep K159q)
                have fx184 := (fx169.keep K159q nin0)
                have fx185 := (fx166.keep K159q)
                have fx186 := (fx167.keep K159q nin0)
                obtain ⟨cq173, kq173, q173a, q173b, q173c⟩ := isOf hZ rfl fx172
                obtain ⟨_, _, ⟨T173, L173, k173, n173⟩, -, X173, ⟨Lc173, hQ173, l173, y173, z173⟩, st173⟩ := X159.virtualBack hx (y := (⟨"com/example/narada/narada/store/QueueKey", "equals", "(Ljava/lang/Object;)Z"⟩ : MethodName)) (z := (⟨"com/example/narada/narada/store/QueueKey", "equals", "(Ljava/lang/Object;)Z"⟩ : MethodName)) hown (mvT hZ (hw _ (List.mem_of_getElem? (i := 41) rfl))) (mvT hZ (hw _ (List.mem_of_getElem? (i := 42) rfl))) (notFace_of_selects (args := #[]) (mvT hZ (hw _ (List.mem_of_getElem? (i := 44) rfl)))) (mvT hZ (hw _ (List.mem_of_getElem? (i := 44) rfl))) (mvT hZ (hw _ (List.mem_of_getElem? (i := 43) rfl))) (by decide) (backOf (W := 0) (rm8q l Z a0 hw hS [] b76 b69 b52 b41 jd p2 t61 kt61 ([b0c, b1c] : List Int32) t45 kt45 ([a0c, a1c] : List Int32) T159.heap n0 O159 fx182 fx174 fx175 fx176 fx177 fx183 fx184 fx178 fx179 hp65 (Nat.le_of_ble_eq_true rfl) fx185 fx186 fx180 fx181 hp49 (Nat.le_of_ble_eq_true rfl)) hZ (hw _ (List.mem_of_getElem? (i := 45) rfl)) (hw _ (List.mem_of_getElem? (i := 32) rfl)) (by decide) (by decide)) q173a q173c (g := (mkF m 372 #[oI p0, oI p1, oI p2, oI p3, oI p4, oI sc, oI sa, oI sb, oI si, oI (0 : Int32), oI a0c, oI a1c, oI u, oI b0c, oI b1c, oI jd, oR b41, oR b52, oR b69, oR b76, oI (0 : Int32), oI (0 : Int32)] [(.ref b69), (.ref b76)])) rfl (by rw [hml]; rfl) (Steps.refl _) (argsL := [(.ref b69)]) (rest := []) (lenOf pd_0 rfl) rfl (by show 2 * 0 + _ ≤ _; exact Nat.le_of_eq rfl) (hb hby at_372) (fun _ _ => ⟨rfl, rfl, (by decide : 8 + 0 ≤ _), (by decide : 20 + 0 ≤ _)⟩)
                dsimp only [Pt.U, Pt.locs, Pt.cells, Pt.slots] at X173 l173 y173 z173 st173 hQ173
                subst l173 y173 z173
                obtain ⟨v173, N173q, K173q⟩ := hQ173
                subst v173
                have N173 := Fr.app N159 N173q
                have O173 := O159.keep K173q all0
                have Kc173 := Kc159.trans K173q all0
                have pre187 : ∀ t, oP p e below T173 (mkF m 377 #[oI p0, oI p1, oI p2, oI p3, oI p4, oI sc, oI sa, oI sb, oI si, oI (0 : Int32), oI a0c, oI a1c, oI u, oI b0c, oI b1c, oI jd, oR b41, oR b52, oR b69, oR b76, oI (0 : Int32), oI (0 : Int32)] [(.int (0 : Int32)), (.int (fn8q Z b76 b69 b52 b41 jd p2 t61 kt61 ([b0c, b1c] : List Int32) t45 kt45 ([a0c, a1c] : List Int32)))]) t → oP p e below s₁ (entryFrame m #[(.int p0), (.int p1), (.int p2), (.int p3), (.int p4)] maxLocals) t := fun t k => pre170 t (by
                  show oP p e below T159 (mkF m 365 #[oI p0, oI p1, oI p2, oI p3, oI p4, oI sc, oI sa, oI sb, oI si, oI (0 : Int32), oI a0c, oI a1c, oI u, oI b0c, oI b1c, oI jd, oR b41, oR b52, oR b69, oR b76, oI (0 : Int32), oI (0 : Int32)] [(.int (0 : Int32)), (.int (fn8q Z b69 b76 b41 b52 p2 jd t45 kt45 ([a0c, a1c] : List Int32) t61 kt61 ([b0c, b1c] : List Int32)))]) _
                  refine XS.icmpNo X159.here hx rfl (hb hby at_365) rfl (teq hc171).2 ?_
                  show oP p e below T159 (mkF m 368 #[oI p0, oI p1, oI p2, oI p3, oI p4, oI sc, oI sa, oI sb, oI si, oI (0 : Int32), oI a0c, oI a1c, oI u, oI b0c, oI b1c, oI jd, oR b41, oR b52, oR b69, oR b76, oI (0 : Int32), oI (0 : Int32)] []) _
                  refine XS.aload X159.here hx rfl (hb hby at_368) rfl rfl ?_
                  show oP p e below T159 (mkF m 370 #[oI p0, oI p1, oI p2, oI p3, oI p4, oI sc, oI sa, oI sb, oI si, oI (0 : Int32), oI a0c, oI a1c, oI u, oI b0c, oI b1c, oI jd, oR b41, oR b52, oR b69, oR b76, oI (0 : Int32), oI (0 : Int32)] [(.ref b76)]) _
                  refine XS.aload X159.here hx rfl (hb hby at_370) rfl rfl ?_
                  show oP p e below T159 (mkF m 372 #[oI p0, oI p1, oI p2, oI p3, oI p4, oI sc, oI sa, oI sb, oI si, oI (0 : Int32), oI a0c, oI a1c, oI u, oI b0c, oI b1c, oI jd, oR b41, oR b52, oR b69, oR b76, oI (0 : Int32), oI (0 : Int32)] [(.ref b69), (.ref b76)]) _
                  refine st173.trans ?_
                  show oP p e below T173 (mkF m 375 #[oI p0, oI p1, oI p2, oI p3, oI p4, oI sc, oI sa, oI sb, oI si, oI (0 : Int32), oI a0c, oI a1c, oI u, oI b0c, oI b1c, oI jd, oR b41, oR b52, oR b69, oR b76, oI (0 : Int32), oI (0 : Int32)] [(.int (fn8q Z b76 b69 b52 b41 jd p2 t61 kt61 ([b0c, b1c] : List Int32) t45 kt45 ([a0c, a1c] : List Int32)))]) _
                  refine XS.iload X173.here hx rfl (hb hby at_375) rfl ?_
                  exact k)
                by_cases hc188 : (fn8q Z b76 b69 b52 b41 jd p2 t61 kt61 ([b0c, b1c] : List Int32) t45 kt45 ([a0c, a1c] : List Int32)) = (0 : Int32)
                · obtain ⟨fs, hr, hrun, hended, hW, hsame⟩ := X173.leave (v := some (.int (1 : Int32))) (fun h => by rw [Bd.returns] at h; cases h)
                  refine ⟨_, _, pre187 _ ?_, hrun, hended, _, _, rfl, ?_, ⟨_, rfl⟩, hW, hsame.mono (by decide) (by decide)⟩
                  · show oP p e below T173 (mkF m 377 #[oI p0, oI p1, oI p2, oI p3, oI p4, oI sc, oI sa, oI sb, oI si, oI (0 : Int32), oI a0c, oI a1c, oI u, oI b0c, oI b1c, oI jd, oR b41, oR b52, oR b69, oR b76, oI (0 : Int32), oI (0 : Int32)] [(.int (0 : Int32)), (.int (fn8q Z b76 b69 b52 b41 jd p2 t61 kt61 ([b0c, b1c] : List Int32) t45 kt45 ([a0c, a1c] : List Int32)))]) _
                    refine XS.icmpNo X173.here hx rfl (hb hby at_377) rfl (teq hc188).2 ?_
                    show oP p e below T173 (mkF m 380 #[oI p0, oI p1, oI p2, oI p3, oI p4, oI sc, oI sa, oI sb, oI si, oI (0 : Int32), oI a0c, oI a1c, oI u, oI b0c, oI b1c, oI jd, oR b41, oR b52, oR b69, oR b76, oI (0 : Int32), oI (0 : Int32)] []) _
                    refine XS.iconst X173.here hx rfl (hb hby at_380) ?_
                    show oP p e below T173 (mkF m 381 #[oI p0, oI p1, oI p2, oI p3, oI p4, oI sc, oI sa, oI sb, oI si, oI (0 : Int32), oI a0c, oI a1c, oI u, oI b0c, oI b1c, oI jd, oR b41, oR b52, oR b69, oR b76, oI (0 : Int32), oI (0 : Int32)] [(.int (1 : Int32))]) _
                    refine XS.goto X173.here hx rfl (pc0 := 381) (pc' := 385) rfl (hb hby at_381) (by decide) (by decide) ?_
                    show oP p e below T173 (mkF m 385 #[oI p0, oI p1, oI p2, oI p3, oI p4, oI sc, oI sa, oI sb, oI si, oI (0 : Int32), oI a0c, oI a1c, oI u, oI b0c, oI b1c, oI jd, oR b41, oR b52, oR b69, oR b76, oI (0 : Int32), oI (0 : Int32)] [(.int (1 : Int32))]) _
                    exact retN X173 hx (t := .boolean) Bd.returns (by simp) (hb hby at_385) hr
                  · show (some (.int (1 : Int32)) : Option Value) = some (.int (1 : Int32)) ∧ Fr n0 _ ∧ Keep h0 T173.heap []
                    exact ⟨rfl, N173, Kc173⟩
                · exfalso
                  exact ab189 hS p2 sa sb a0c a1c b0c b1c jd rsa rsb hc40 hc51 hc85 hc87 hc89 hc171 hc188
              · exfalso
                exact ab190 hS p2 sa sb a0c a1c b0c b1c jd rsa rsb hc40 hc51 hc85 hc87 hc89 hc171
          · have fx191 := ((po74_0.ext E76).keep K83q)
            have fx193 := ((po74_1.ext E76).keep K83q (ninS ne_b69_b76 nin0))
            have fx194 := ((po74_2.ext E76).keep K83q (ninS ne_b69_b76 nin0))
            have fx195 := (((((((((pV45.ext E52).ext E54).other W58 (Or.inl ne_b41_b54)).other W59 (Or.inl ne_b41_b54)).keep K61q (ninS ne_b41_b52 nin0)).ext E69).keep K74q (ninS ne_b41_b69 nin0)).ext E76).keep K83q (ninS ne_b41_b76 nin0))
            have fx196 := ((fx79.ext E76).keep K83q (ninS ne_t45_b76 nin0))
            have fx197 := ((((pV61.ext E69).keep K74q (ninS ne_b52_b69 nin0)).ext E76).keep K83q (ninS ne_b52_b76 nin0))
            have fx198 := ((fx82.ext E76).keep K83q (ninS ne_t61_b76 nin0))
            have fx199 := ((fx77.ext E76).keep K83q)
            have fx200 := (((((((((pC45.ext E52).ext E54).other W58 (Or.inl ne_b41_b54)).other W59 (Or.inl ne_b41_b54)).keep K61q (ninS ne_b41_b52 nin0)).ext E69).keep K74q (ninS ne_b41_b69 nin0)).ext E76).keep K83q (ninS ne_b41_b76 nin0))
            have fx201 := ((fx80.ext E76).keep K83q)
            have fx202 := ((((pC61.ext E69).keep K74q (ninS ne_b52_b69 nin0)).ext E76).keep K83q (ninS ne_b52_b76 nin0))
            obtain ⟨cq192, kq192, q192a, q192b, q192c⟩ := isOf hZ rfl fx191
            obtain ⟨_, _, ⟨T192, L192, k192, n192⟩, -, X192, ⟨Lc192, hQ192, l192, y192, z192⟩, st192⟩ := X83.virtualBack hx (y := (⟨"com/example/narada/narada/store/QueueKey", "equals", "(Ljava/lang/Object;)Z"⟩ : MethodName)) (z := (⟨"com/example/narada/narada/store/QueueKey", "equals", "(Ljava/lang/Object;)Z"⟩ : MethodName)) hown (mvT hZ (hw _ (List.mem_of_getElem? (i := 41) rfl))) (mvT hZ (hw _ (List.mem_of_getElem? (i := 42) rfl))) (notFace_of_selects (args := #[]) (mvT hZ (hw _ (List.mem_of_getElem? (i := 44) rfl)))) (mvT hZ (hw _ (List.mem_of_getElem? (i := 44) rfl))) (mvT hZ (hw _ (List.mem_of_getElem? (i := 43) rfl))) (by decide) (backOf (W := 0) (rm8q l Z a0 hw hS [] b69 b76 b41 b52 p2 jd t45 kt45 ([a0c, a1c] : List Int32) t61 kt61 ([b0c, b1c] : List Int32) T83.heap n0 O83 po83_0 fx193 po83_1 fx194 po83_2 fx199 fx200 fx195 fx196 hp49 (Nat.le_of_ble_eq_true rfl) fx201 fx202 fx197 fx198 hp65 (Nat.le_of_ble_eq_true rfl)) hZ (hw _ (List.mem_of_getElem? (i := 45) rfl)) (hw _ (List.mem_of_getElem? (i := 32) rfl)) (by decide) (by decide)) q192a q192c (g := (mkF m 360 #[oI p0, oI p1, oI p2, oI p3, oI p4, oI sc, oI sa, oI sb, oI si, oI (0 : Int32), oI a0c, oI a1c, oI u, oI b0c, oI b1c, oI jd, oR b41, oR b52, oR b69, oR b76, oI (0 : Int32), oI (0 : Int32)] [(.ref b76), (.ref b69)])) rfl (by rw [hml]; rfl) (Steps.refl _) (argsL := [(.ref b76)]) (rest := []) (lenOf pd_0 rfl) rfl (by show 2 * 0 + _ ≤ _; exact Nat.le_of_eq rfl) (hb hby at_360) (fun _ _ => ⟨rfl, rfl, (by decide : 8 + 0 ≤ _), (by decide : 20 + 0 ≤ _)⟩)
            dsimp only [Pt.U, Pt.locs, Pt.cells, Pt.slots] at X192 l192 y192 z192 st192 hQ192
            subst l192 y192 z192
            obtain ⟨v192, N192q, K192q⟩ := hQ192
            subst v192
            have N192 := Fr.app N83 N192q
            have O192 := O83.keep K192q all0
            have Kc192 := Kc83.trans K192q all0
            have pre203 : ∀ t, oP p e below T192 (mkF m 365 #[oI p0, oI p1, oI p2, oI p3, oI p4, oI sc, oI sa, oI sb, oI si, oI (0 : Int32), oI a0c, oI a1c, oI u, oI b0c, oI b1c, oI jd, oR b41, oR b52, oR b69, oR b76, oI (0 : Int32), oI (0 : Int32)] [(.int (0 : Int32)), (.int (fn8q Z b69 b76 b41 b52 p2 jd t45 kt45 ([a0c, a1c] : List Int32) t61 kt61 ([b0c, b1c] : List Int32)))]) t → oP p e below s₁ (entryFrame m #[(.int p0), (.int p1), (.int p2), (.int p3), (.int p4)] maxLocals) t := fun t k => pre86 t (by
              show oP p e below T83 (mkF m 316 #[oI p0, oI p1, oI p2, oI p3, oI p4, oI sc, oI sa, oI sb, oI si, oI (0 : Int32), oI a0c, oI a1c, oI u, oI b0c, oI b1c, oI jd, oR b41, oR b52, oR b69, oR b76, oU, oU] [(.int b0c), (.int a0c)]) _
              refine XS.icmpYes X83.here hx rfl (pc0 := 316) (pc' := 335) rfl (hb hby at_316) rfl (feq hc87).2 (by decide) (by decide) ?_
              show oP p e below T83 (mkF m 335 #[oI p0, oI p1, oI p2, oI p3, oI p4, oI sc, oI sa, oI sb, oI si, oI (0 : Int32), oI a0c, oI a1c, oI u, oI b0c, oI b1c, oI jd, oR b41, oR b52, oR b69, oR b76, oU, oU] []) _
              refine XS.iconst X83.here hx rfl (hb hby at_335) ?_
              show oP p e below T83 (mkF m 336 #[oI p0, oI p1, oI p2, oI p3, oI p4, oI sc, oI sa, oI sb, oI si, oI (0 : Int32), oI a0c, oI a1c, oI u, oI b0c, oI b1c, oI jd, oR b41, oR b52, oR b69, oR b76, oU, oU] [(.int (0 : Int32))]) _
              refine XS.istore X83.here hx rfl (hb hby at_336) rfl (l' := #[oI p0, oI p1, oI p2, oI p3, oI p4, oI sc, oI sa, oI sb, oI si, oI (0 : Int32), oI a0c, oI a1c, oI u, oI b0c, oI b1c, oI jd, oR b41, oR b52, oR b69, oR b76, oI (0 : Int32), oU]) rfl ?_
              show oP p e below T83 (mkF m 338 #[oI p0, oI p1, oI p2, oI p3, oI p4, oI sc, oI sa, oI sb, oI si, oI (0 : Int32), oI a0c, oI a1c, oI u, oI b0c, oI b1c, oI jd, oR b41, oR b52, oR b69, oR b76, oI (0 : Int32), oU] []) _
              refine XS.iload X83.here hx rfl (hb hby at_338) rfl ?_
              show oP p e below T83 (mkF m 340 #[oI p0, oI p1, oI p2, oI p3, oI p4, oI sc, oI sa, oI sb, oI si, oI (0 : Int32), oI a0c, oI a1c, oI u, oI b0c, oI b1c, oI jd, oR b41, oR b52, oR b69, oR b76, oI (0 : Int32), oU] [(.int (0 : Int32))]) _
              refine XS.ifYes X83.here hx rfl (pc0 := 340) (pc' := 353) rfl (hb hby at_340) rfl ((if0 _ _).trans (teq (by decide : (0 : Int32) = (0 : Int32))).1) (by decide) (by decide) ?_
              show oP p e below T83 (mkF m 353 #[oI p0, oI p1, oI p2, oI p3, oI p4, oI sc, oI sa, oI sb, oI si, oI (0 : Int32), oI a0c, oI a1c, oI u, oI b0c, oI b1c, oI jd, oR b41, oR b52, oR b69, oR b76, oI (0 : Int32), oU] []) _
              refine XS.iconst X83.here hx rfl (hb hby at_353) ?_
              show oP p e below T83 (mkF m 354 #[oI p0, oI p1, oI p2, oI p3, oI p4, oI sc, oI sa, oI sb, oI si, oI (0 : Int32), oI a0c, oI a1c, oI u, oI b0c, oI b1c, oI jd, oR b41, oR b52, oR b69, oR b76, oI (0 : Int32), oU] [(.int (0 : Int32))]) _
              refine XS.istore X83.here hx rfl (hb hby at_354) rfl (l' := #[oI p0, oI p1, oI p2, oI p3, oI p4, oI sc, oI sa, oI sb, oI si, oI (0 : Int32), oI a0c, oI a1c, oI u, oI b0c, oI b1c, oI jd, oR b41, oR b52, oR b69, oR b76, oI (0 : Int32), oI (0 : Int32)]) rfl ?_
              show oP p e below T83 (mkF m 356 #[oI p0, oI p1, oI p2, oI p3, oI p4, oI sc, oI sa, oI sb, oI si, oI (0 : Int32), oI a0c, oI a1c, oI u, oI b0c, oI b1c, oI jd, oR b41, oR b52, oR b69, oR b76, oI (0 : Int32), oI (0 : Int32)] []) _
              refine XS.aload X83.here hx rfl (hb hby at_356) rfl rfl ?_
              show oP p e below T83 (mkF m 358 #[oI p0, oI p1, oI p2, oI p3, oI p4, oI sc, oI sa, oI sb, oI si, oI (0 : Int32), oI a0c, oI a1c, oI u, oI b0c, oI b1c, oI jd, oR b41, oR b52, oR b69, oR b76, oI (0 : Int32), oI (0 : Int32)] [(.ref b69)]) _
              refine XS.aload X83.here hx rfl (hb hby at_358) rfl rfl ?_
              show oP p e below T83 (mkF m 360 #[oI p0, oI p1, oI p2, oI p3, oI p4, oI sc, oI sa, oI sb, oI si, oI (0 : Int32), oI a0c, oI a1c, oI u, oI b0c, oI b1c, oI jd, oR b41, oR b52, oR b69, oR b76, oI (0 : Int32), oI (0 : Int32)] [(.ref b76), (.ref b69)]) _
              refine st192.trans ?_
              show oP p e below T192 (mkF m 363 #[oI p0, oI p1, oI p2, oI p3, oI p4, oI sc, oI sa, oI sb, oI si, oI (0 : Int32), oI a0c, oI a1c, oI u, oI b0c, oI b1c, oI jd, oR b41, oR b52, oR b69, oR b76, oI (0 : Int32), oI (0 : Int32)] [(.int (fn8q Z b69 b76 b41 b52 p2 jd t45 kt45 ([a0c, a1c] : List Int32) t61 kt61 ([b0c, b1c] : List Int32)))]) _
              refine XS.iload X192.here hx rfl (hb hby at_363) rfl ?_
              exact k)
            by_cases hc204 : (fn8q Z b69 b76 b41 b52 p2 jd t45 kt45 ([a0c, a1c] : List Int32) t61 kt61 ([b0c, b1c] : List Int32)) = (0 : Int32)
            · have fx205 := (po83_0.keep K192q)
              have fx207 := (po83_1.keep K192q nin0)
              have fx208 := (fx193.keep K192q nin0)
              have fx209 := (po83_2.keep K192q nin0)
              have fx210 := (fx194.keep K192q nin0)
              have fx211 := (fx197.keep K192q nin0)
              have fx212 := (fx198.keep K192q nin0)
              have fx213 := (fx195.keep K192q nin0)
              have fx214 := (fx196.keep K192q nin0)
              have fx215 := (fx191.keep K192q)
              have fx216 := (fx201.keep K192q)
              have fx217 := (fx202.keep K192q nin0)
              have fx218 := (fx199.keep K192q)
              have fx219 := (fx200.keep K192q nin0)
              obtain ⟨cq206, kq206, q206a, q206b, q206c⟩ := isOf hZ rfl fx205
              obtain ⟨_, _, ⟨T206, L206, k206, n206⟩, -, X206, ⟨Lc206, hQ206, l206, y206, z206⟩, st206⟩ := X192.virtualBack hx (y := (⟨"com/example/narada/narada/store/QueueKey", "equals", "(Ljava/lang/Object;)Z"⟩ : MethodName)) (z := (⟨"com/example/narada/narada/store/QueueKey", "equals", "(Ljava/lang/Object;)Z"⟩ : MethodName)) hown (mvT hZ (hw _ (List.mem_of_getElem? (i := 41) rfl))) (mvT hZ (hw _ (List.mem_of_getElem? (i := 42) rfl))) (notFace_of_selects (args := #[]) (mvT hZ (hw _ (List.mem_of_getElem? (i := 44) rfl)))) (mvT hZ (hw _ (List.mem_of_getElem? (i := 44) rfl))) (mvT hZ (hw _ (List.mem_of_getElem? (i := 43) rfl))) (by decide) (backOf (W := 0) (rm8q l Z a0 hw hS [] b76 b69 b52 b41 jd p2 t61 kt61 ([b0c, b1c] : List Int32) t45 kt45 ([a0c, a1c] : List Int32) T192.heap n0 O192 fx215 fx207 fx208 fx209 fx210 fx216 fx217 fx211 fx212 hp65 (Nat.le_of_ble_eq_true rfl) fx218 fx219 fx213 fx214 hp49 (Nat.le_of_ble_eq_true rfl)) hZ (hw _ (List.mem_of_getElem? (i := 45) rfl)) (hw _ (List.mem_of_getElem? (i := 32) rfl)) (by decide) (by decide)) q206a q206c (g := (mkF m 372 #[oI p0, oI p1, oI p2, oI p3, oI p4, oI sc, oI sa, oI sb, oI si, oI (0 : Int32), oI a0c, oI a1c, oI u, oI b0c, oI b1c, oI jd, oR b41, oR b52, oR b69, oR b76, oI (0 : Int32), oI (0 : Int32)] [(.ref b69), (.ref b76)])) rfl (by rw [hml]; rfl) (Steps.refl _) (argsL := [(.ref b69)]) (rest := []) (lenOf pd_0 rfl) rfl (by show 2 * 0 + _ ≤ _; exact Nat.le_of_eq rfl) (hb hby at_372) (fun _ _ => ⟨rfl, rfl, (by decide : 8 + 0 ≤ _), (by decide : 20 + 0 ≤ _)⟩)
              dsimp only [Pt.U, Pt.locs, Pt.cells, Pt.slots] at X206 l206 y206 z206 st206 hQ206
              subst l206 y206 z206
              obtain ⟨v206, N206q, K206q⟩ := hQ206
              subst v206
              have N206 := Fr.app N192 N206q
              have O206 := O192.keep K206q all0
              have Kc206 := Kc192.trans K206q all0
              have pre220 : ∀ t, oP p e below T206 (mkF m 377 #[oI p0, oI p1, oI p2, oI p3, oI p4, oI sc, oI sa, oI sb, oI si, oI (0 : Int32), oI a0c, oI a1c, oI u, oI b0c, oI b1c, oI jd, oR b41, oR b52, oR b69, oR b76, oI (0 : Int32), oI (0 : Int32)] [(.int (0 : Int32)), (.int (fn8q Z b76 b69 b52 b41 jd p2 t61 kt61 ([b0c, b1c] : List Int32) t45 kt45 ([a0c, a1c] : List Int32)))]) t → oP p e below s₁ (entryFrame m #[(.int p0), (.int p1), (.int p2), (.int p3), (.int p4)] maxLocals) t := fun t k => pre203 t (by
                show oP p e below T192 (mkF m 365 #[oI p0, oI p1, oI p2, oI p3, oI p4, oI sc, oI sa, oI sb, oI si, oI (0 : Int32), oI a0c, oI a1c, oI u, oI b0c, oI b1c, oI jd, oR b41, oR b52, oR b69, oR b76, oI (0 : Int32), oI (0 : Int32)] [(.int (0 : Int32)), (.int (fn8q Z b69 b76 b41 b52 p2 jd t45 kt45 ([a0c, a1c] : List Int32) t61 kt61 ([b0c, b1c] : List Int32)))]) _
                refine XS.icmpNo X192.here hx rfl (hb hby at_365) rfl (teq hc204).2 ?_
                show oP p e below T192 (mkF m 368 #[oI p0, oI p1, oI p2, oI p3, oI p4, oI sc, oI sa, oI sb, oI si, oI (0 : Int32), oI a0c, oI a1c, oI u, oI b0c, oI b1c, oI jd, oR b41, oR b52, oR b69, oR b76, oI (0 : Int32), oI (0 : Int32)] []) _
                refine XS.aload X192.here hx rfl (hb hby at_368) rfl rfl ?_
                show oP p e below T192 (mkF m 370 #[oI p0, oI p1, oI p2, oI p3, oI p4, oI sc, oI sa, oI sb, oI si, oI (0 : Int32), oI a0c, oI a1c, oI u, oI b0c, oI b1c, oI jd, oR b41, oR b52, oR b69, oR b76, oI (0 : Int32), oI (0 : Int32)] [(.ref b76)]) _
                refine XS.aload X192.here hx rfl (hb hby at_370) rfl rfl ?_
                show oP p e below T192 (mkF m 372 #[oI p0, oI p1, oI p2, oI p3, oI p4, oI sc, oI sa, oI sb, oI si, oI (0 : Int32), oI a0c, oI a1c, oI u, oI b0c, oI b1c, oI jd, oR b41, oR b52, oR b69, oR b76, oI (0 : Int32), oI (0 : Int32)] [(.ref b69), (.ref b76)]) _
                refine st206.trans ?_
                show oP p e below T206 (mkF m 375 #[oI p0, oI p1, oI p2, oI p3, oI p4, oI sc, oI sa, oI sb, oI si, oI (0 : Int32), oI a0c, oI a1c, oI u, oI b0c, oI b1c, oI jd, oR b41, oR b52, oR b69, oR b76, oI (0 : Int32), oI (0 : Int32)] [(.int (fn8q Z b76 b69 b52 b41 jd p2 t61 kt61 ([b0c, b1c] : List Int32) t45 kt45 ([a0c, a1c] : List Int32)))]) _
                refine XS.iload X206.here hx rfl (hb hby at_375) rfl ?_
                exact k)
              by_cases hc221 : (fn8q Z b76 b69 b52 b41 jd p2 t61 kt61 ([b0c, b1c] : List Int32) t45 kt45 ([a0c, a1c] : List Int32)) = (0 : Int32)
              · obtain ⟨fs, hr, hrun, hended, hW, hsame⟩ := X206.leave (v := some (.int (1 : Int32))) (fun h => by rw [Bd.returns] at h; cases h)
                refine ⟨_, _, pre220 _ ?_, hrun, hended, _, _, rfl, ?_, ⟨_, rfl⟩, hW, hsame.mono (by decide) (by decide)⟩
                · show oP p e below T206 (mkF m 377 #[oI p0, oI p1, oI p2, oI p3, oI p4, oI sc, oI sa, oI sb, oI si, oI (0 : Int32), oI a0c, oI a1c, oI u, oI b0c, oI b1c, oI jd, oR b41, oR b52, oR b69, oR b76, oI (0 : Int32), oI (0 : Int32)] [(.int (0 : Int32)), (.int (fn8q Z b76 b69 b52 b41 jd p2 t61 kt61 ([b0c, b1c] : List Int32) t45 kt45 ([a0c, a1c] : List Int32)))]) _
                  refine XS.icmpNo X206.here hx rfl (hb hby at_377) rfl (teq hc221).2 ?_
                  show oP p e below T206 (mkF m 380 #[oI p0, oI p1, oI p2, oI p3, oI p4, oI sc, oI sa, oI sb, oI si, oI (0 : Int32), oI a0c, oI a1c, oI u, oI b0c, oI b1c, oI jd, oR b41, oR b52, oR b69, oR b76, oI (0 : Int32), oI (0 : Int32)] []) _
                  refine XS.iconst X206.here hx rfl (hb hby at_380) ?_
                  show oP p e below T206 (mkF m 381 #[oI p0, oI p1, oI p2, oI p3, oI p4, oI sc, oI sa, oI sb, oI si, oI (0 : Int32), oI a0c, oI a1c, oI u, oI b0c, oI b1c, oI jd, oR b41, oR b52, oR b69, oR b76, oI (0 : Int32), oI (0 : Int32)] [(.int (1 : Int32))]) _
                  refine XS.goto X206.here hx rfl (pc0 := 381) (pc' := 385) rfl (hb hby at_381) (by decide) (by decide) ?_
                  show oP p e below T206 (mkF m 385 #[oI p0, oI p1, oI p2, oI p3, oI p4, oI sc, oI sa, oI sb, oI si, oI (0 : Int32), oI a0c, oI a1c, oI u, oI b0c, oI b1c, oI jd, oR b41, oR b52, oR b69, oR b76, oI (0 : Int32), oI (0 : Int32)] [(.int (1 : Int32))]) _
                  exact retN X206 hx (t := .boolean) Bd.returns (by simp) (hb hby at_385) hr
                · show (some (.int (1 : Int32)) : Option Value) = some (.int (1 : Int32)) ∧ Fr n0 _ ∧ Keep h0 T206.heap []
                  exact ⟨rfl, N206, Kc206⟩
              · exfalso
                exact ab222 hS p2 sa sb a0c a1c b0c b1c jd rsa rsb hc40 hc51 hc85 hc87 hc204 hc221
            · exfalso
              exact ab223 hS p2 sa sb a0c a1c b0c b1c jd rsa rsb hc40 hc51 hc85 hc87 hc204
        · have fx224 := ((po74_0.ext E76).keep K83q)
          have fx226 := ((po74_1.ext E76).keep K83q (ninS ne_b69_b76 nin0))
          have fx227 := ((po74_2.ext E76).keep K83q (ninS ne_b69_b76 nin0))
          have fx228 := (((((((((pV45.ext E52).ext E54).other W58 (Or.inl ne_b41_b54)).other W59 (Or.inl ne_b41_b54)).keep K61q (ninS ne_b41_b52 nin0)).ext E69).keep K74q (ninS ne_b41_b69 nin0)).ext E76).keep K83q (ninS ne_b41_b76 nin0))
          have fx229 := ((fx79.ext E76).keep K83q (ninS ne_t45_b76 nin0))
          have fx230 := ((((pV61.ext E69).keep K74q (ninS ne_b52_b69 nin0)).ext E76).keep K83q (ninS ne_b52_b76 nin0))
          have fx231 := ((fx82.ext E76).keep K83q (ninS ne_t61_b76 nin0))
          have fx232 := ((fx77.ext E76).keep K83q)
          have fx233 := (((((((((pC45.ext E52).ext E54).other W58 (Or.inl ne_b41_b54)).other W59 (Or.inl ne_b41_b54)).keep K61q (ninS ne_b41_b52 nin0)).ext E69).keep K74q (ninS ne_b41_b69 nin0)).ext E76).keep K83q (ninS ne_b41_b76 nin0))
          have fx234 := ((fx80.ext E76).keep K83q)
          have fx235 := ((((pC61.ext E69).keep K74q (ninS ne_b52_b69 nin0)).ext E76).keep K83q (ninS ne_b52_b76 nin0))
          obtain ⟨cq225, kq225, q225a, q225b, q225c⟩ := isOf hZ rfl fx224
          obtain ⟨_, _, ⟨T225, L225, k225, n225⟩, -, X225, ⟨Lc225, hQ225, l225, y225, z225⟩, st225⟩ := X83.virtualBack hx (y := (⟨"com/example/narada/narada/store/QueueKey", "equals", "(Ljava/lang/Object;)Z"⟩ : MethodName)) (z := (⟨"com/example/narada/narada/store/QueueKey", "equals", "(Ljava/lang/Object;)Z"⟩ : MethodName)) hown (mvT hZ (hw _ (List.mem_of_getElem? (i := 41) rfl))) (mvT hZ (hw _ (List.mem_of_getElem? (i := 42) rfl))) (notFace_of_selects (args := #[]) (mvT hZ (hw _ (List.mem_of_getElem? (i := 44) rfl)))) (mvT hZ (hw _ (List.mem_of_getElem? (i := 44) rfl))) (mvT hZ (hw _ (List.mem_of_getElem? (i := 43) rfl))) (by decide) (backOf (W := 0) (rm8q l Z a0 hw hS [] b69 b76 b41 b52 p2 jd t45 kt45 ([a0c, a1c] : List Int32) t61 kt61 ([b0c, b1c] : List Int32) T83.heap n0 O83 po83_0 fx226 po83_1 fx227 po83_2 fx232 fx233 fx228 fx229 hp49 (Nat.le_of_ble_eq_true rfl) fx234 fx235 fx230 fx231 hp65 (Nat.le_of_ble_eq_true rfl)) hZ (hw _ (List.mem_of_getElem? (i := 45) rfl)) (hw _ (List.mem_of_getElem? (i := 32) rfl)) (by decide) (by decide)) q225a q225c (g := (mkF m 360 #[oI p0, oI p1, oI p2, oI p3, oI p4, oI sc, oI sa, oI sb, oI si, oI (0 : Int32), oI a0c, oI a1c, oI u, oI b0c, oI b1c, oI jd, oR b41, oR b52, oR b69, oR b76, oI (0 : Int32), oI (0 : Int32)] [(.ref b76), (.ref b69)])) rfl (by rw [hml]; rfl) (Steps.refl _) (argsL := [(.ref b76)]) (rest := []) (lenOf pd_0 rfl) rfl (by show 2 * 0 + _ ≤ _; exact Nat.le_of_eq rfl) (hb hby at_360) (fun _ _ => ⟨rfl, rfl, (by decide : 8 + 0 ≤ _), (by decide : 20 + 0 ≤ _)⟩)
          dsimp only [Pt.U, Pt.locs, Pt.cells, Pt.slots] at X225 l225 y225 z225 st225 hQ225
          subst l225 y225 z225
          obtain ⟨v225, N225q, K225q⟩ := hQ225
          subst v225
          have N225 := Fr.app N83 N225q
          have O225 := O83.keep K225q all0
          have Kc225 := Kc83.trans K225q all0
          have pre236 : ∀ t, oP p e below T225 (mkF m 365 #[oI p0, oI p1, oI p2, oI p3, oI p4, oI sc, oI sa, oI sb, oI si, oI (0 : Int32), oI a0c, oI a1c, oI u, oI b0c, oI b1c, oI jd, oR b41, oR b52, oR b69, oR b76, oI (0 : Int32), oI (0 : Int32)] [(.int (0 : Int32)), (.int (fn8q Z b69 b76 b41 b52 p2 jd t45 kt45 ([a0c, a1c] : List Int32) t61 kt61 ([b0c, b1c] : List Int32)))]) t → oP p e below s₁ (entryFrame m #[(.int p0), (.int p1), (.int p2), (.int p3), (.int p4)] maxLocals) t := fun t k => pre84 t (by
            show oP p e below T83 (mkF m 309 #[oI p0, oI p1, oI p2, oI p3, oI p4, oI sc, oI sa, oI sb, oI si, oI (0 : Int32), oI a0c, oI a1c, oI u, oI b0c, oI b1c, oI jd, oR b41, oR b52, oR b69, oR b76, oU, oU] [(.int sb), (.int sa)]) _
            refine XS.icmpYes X83.here hx rfl (pc0 := 309) (pc' := 335) rfl (hb hby at_309) rfl (feq hc85).2 (by decide) (by decide) ?_
            show oP p e below T83 (mkF m 335 #[oI p0, oI p1, oI p2, oI p3, oI p4, oI sc, oI sa, oI sb, oI si, oI (0 : Int32), oI a0c, oI a1c, oI u, oI b0c, oI b1c, oI jd, oR b41, oR b52, oR b69, oR b76, oU, oU] []) _
            refine XS.iconst X83.here hx rfl (hb hby at_335) ?_
            show oP p e below T83 (mkF m 336 #[oI p0, oI p1, oI p2, oI p3, oI p4, oI sc, oI sa, oI sb, oI si, oI (0 : Int32), oI a0c, oI a1c, oI u, oI b0c, oI b1c, oI jd, oR b41, oR b52, oR b69, oR b76, oU, oU] [(.int (0 : Int32))]) _
            refine XS.istore X83.here hx rfl (hb hby at_336) rfl (l' := #[oI p0, oI p1, oI p2, oI p3, oI p4, oI sc, oI sa, oI sb, oI si, oI (0 : Int32), oI a0c, oI a1c, oI u, oI b0c, oI b1c, oI jd, oR b41, oR b52, oR b69, oR b76, oI (0 : Int32), oU]) rfl ?_
            show oP p e below T83 (mkF m 338 #[oI p0, oI p1, oI p2, oI p3, oI p4, oI sc, oI sa, oI sb, oI si, oI (0 : Int32), oI a0c, oI a1c, oI u, oI b0c, oI b1c, oI jd, oR b41, oR b52, oR b69, oR b76, oI (0 : Int32), oU] []) _
            refine XS.iload X83.here hx rfl (hb hby at_338) rfl ?_
            show oP p e below T83 (mkF m 340 #[oI p0, oI p1, oI p2, oI p3, oI p4, oI sc, oI sa, oI sb, oI si, oI (0 : Int32), oI a0c, oI a1c, oI u, oI b0c, oI b1c, oI jd, oR b41, oR b52, oR b69, oR b76, oI (0 : Int32), oU] [(.int (0 : Int32))]) _
            refine XS.ifYes X83.here hx rfl (pc0 := 340) (pc' := 353) rfl (hb hby at_340) rfl ((if0 _ _).trans (teq (by decide : (0 : Int32) = (0 : Int32))).1) (by decide) (by decide) ?_
            show oP p e below T83 (mkF m 353 #[oI p0, oI p1, oI p2, oI p3, oI p4, oI sc, oI sa, oI sb, oI si, oI (0 : Int32), oI a0c, oI a1c, oI u, oI b0c, oI b1c, oI jd, oR b41, oR b52, oR b69, oR b76, oI (0 : Int32), oU] []) _
            refine XS.iconst X83.here hx rfl (hb hby at_353) ?_
            show oP p e below T83 (mkF m 354 #[oI p0, oI p1, oI p2, oI p3, oI p4, oI sc, oI sa, oI sb, oI si, oI (0 : Int32), oI a0c, oI a1c, oI u, oI b0c, oI b1c, oI jd, oR b41, oR b52, oR b69, oR b76, oI (0 : Int32), oU] [(.int (0 : Int32))]) _
            refine XS.istore X83.here hx rfl (hb hby at_354) rfl (l' := #[oI p0, oI p1, oI p2, oI p3, oI p4, oI sc, oI sa, oI sb, oI si, oI (0 : Int32), oI a0c, oI a1c, oI u, oI b0c, oI b1c, oI jd, oR b41, oR b52, oR b69, oR b76, oI (0 : Int32), oI (0 : Int32)]) rfl ?_
            show oP p e below T83 (mkF m 356 #[oI p0, oI p1, oI p2, oI p3, oI p4, oI sc, oI sa, oI sb, oI si, oI (0 : Int32), oI a0c, oI a1c, oI u, oI b0c, oI b1c, oI jd, oR b41, oR b52, oR b69, oR b76, oI (0 : Int32), oI (0 : Int32)] []) _
            refine XS.aload X83.here hx rfl (hb hby at_356) rfl rfl ?_
            show oP p e below T83 (mkF m 358 #[oI p0, oI p1, oI p2, oI p3, oI p4, oI sc, oI sa, oI sb, oI si, oI (0 : Int32), oI a0c, oI a1c, oI u, oI b0c, oI b1c, oI jd, oR b41, oR b52, oR b69, oR b76, oI (0 : Int32), oI (0 : Int32)] [(.ref b69)]) _
            refine XS.aload X83.here hx rfl (hb hby at_358) rfl rfl ?_
            show oP p e below T83 (mkF m 360 #[oI p0, oI p1, oI p2, oI p3, oI p4, oI sc, oI sa, oI sb, oI si, oI (0 : Int32), oI a0c, oI a1c, oI u, oI b0c, oI b1c, oI jd, oR b41, oR b52, oR b69, oR b76, oI (0 : Int32), oI (0 : Int32)] [(.ref b76), (.ref b69)]) _
            refine st225.trans ?_
            show oP p e below T225 (mkF m 363 #[oI p0, oI p1, oI p2, oI p3, oI p4, oI sc, oI sa, oI sb, oI si, oI (0 : Int32), oI a0c, oI a1c, oI u, oI b0c, oI b1c, oI jd, oR b41, oR b52, oR b69, oR b76, oI (0 : Int32), oI (0 : Int32)] [(.int (fn8q Z b69 b76 b41 b52 p2 jd t45 kt45 ([a0c, a1c] : List Int32) t61 kt61 ([b0c, b1c] : List Int32)))]) _
            refine XS.iload X225.here hx rfl (hb hby at_363) rfl ?_
            exact k)
          by_cases hc237 : (fn8q Z b69 b76 b41 b52 p2 jd t45 kt45 ([a0c, a1c] : List Int32) t61 kt61 ([b0c, b1c] : List Int32)) = (0 : Int32)
          · have fx238 := (po83_0.keep K225q)
            have fx240 := (po83_1.keep K225q nin0)
            have fx241 := (fx226.keep K225q nin0)
            have fx242 := (po83_2.keep K225q nin0)
            have fx243 := (fx227.keep K225q nin0)
            have fx244 := (fx230.keep K225q nin0)
            have fx245 := (fx231.keep K225q nin0)
            have fx246 := (fx228.keep K225q nin0)
            have fx247 := (fx229.keep K225q nin0)
            have fx248 := (fx224.keep K225q)
            have fx249 := (fx234.keep K225q)
            have fx250 := (fx235.keep K225q nin0)
            have fx251 := (fx232.keep K225q)
            have fx252 := (fx233.keep K225q nin0)
            obtain ⟨cq239, kq239, q239a, q239b, q239c⟩ := isOf hZ rfl fx238
            obtain ⟨_, _, ⟨T239, L239, k239, n239⟩, -, X239, ⟨Lc239, hQ239, l239, y239, z239⟩, st239⟩ := X225.virtualBack hx (y := (⟨"com/example/narada/narada/store/QueueKey", "equals", "(Ljava/lang/Object;)Z"⟩ : MethodName)) (z := (⟨"com/example/narada/narada/store/QueueKey", "equals", "(Ljava/lang/Object;)Z"⟩ : MethodName)) hown (mvT hZ (hw _ (List.mem_of_getElem? (i := 41) rfl))) (mvT hZ (hw _ (List.mem_of_getElem? (i := 42) rfl))) (notFace_of_selects (args := #[]) (mvT hZ (hw _ (List.mem_of_getElem? (i := 44) rfl)))) (mvT hZ (hw _ (List.mem_of_getElem? (i := 44) rfl))) (mvT hZ (hw _ (List.mem_of_getElem? (i := 43) rfl))) (by decide) (backOf (W := 0) (rm8q l Z a0 hw hS [] b76 b69 b52 b41 jd p2 t61 kt61 ([b0c, b1c] : List Int32) t45 kt45 ([a0c, a1c] : List Int32) T225.heap n0 O225 fx248 fx240 fx241 fx242 fx243 fx249 fx250 fx244 fx245 hp65 (Nat.le_of_ble_eq_true rfl) fx251 fx252 fx246 fx247 hp49 (Nat.le_of_ble_eq_true rfl)) hZ (hw _ (List.mem_of_getElem? (i := 45) rfl)) (hw _ (List.mem_of_getElem? (i := 32) rfl)) (by decide) (by decide)) q239a q239c (g := (mkF m 372 #[oI p0, oI p1, oI p2, oI p3, oI p4, oI sc, oI sa, oI sb, oI si, oI (0 : Int32), oI a0c, oI a1c, oI u, oI b0c, oI b1c, oI jd, oR b41, oR b52, oR b69, oR b76, oI (0 : Int32), oI (0 : Int32)] [(.ref b69), (.ref b76)])) rfl (by rw [hml]; rfl) (Steps.refl _) (argsL := [(.ref b69)]) (rest := []) (lenOf pd_0 rfl) rfl (by show 2 * 0 + _ ≤ _; exact Nat.le_of_eq rfl) (hb hby at_372) (fun _ _ => ⟨rfl, rfl, (by decide : 8 + 0 ≤ _), (by decide : 20 + 0 ≤ _)⟩)
            dsimp only [Pt.U, Pt.locs, Pt.cells, Pt.slots] at X239 l239 y239 z239 st239 hQ239
            subst l239 y239 z239
            obtain ⟨v239, N239q, K239q⟩ := hQ239
            subst v239
            have N239 := Fr.app N225 N239q
            have O239 := O225.keep K239q all0
            have Kc239 := Kc225.trans K239q all0
            have pre253 : ∀ t, oP p e below T239 (mkF m 377 #[oI p0, oI p1, oI p2, oI p3, oI p4, oI sc, oI sa, oI sb, oI si, oI (0 : Int32), oI a0c, oI a1c, oI u, oI b0c, oI b1c, oI jd, oR b41, oR b52, oR b69, oR b76, oI (0 : Int32), oI (0 : Int32)] [(.int (0 : Int32)), (.int (fn8q Z b76 b69 b52 b41 jd p2 t61 kt61 ([b0c, b1c] : List Int32) t45 kt45 ([a0c, a1c] : List Int32)))]) t → oP p e below s₁ (entryFrame m #[(.int p0), (.int p1), (.int p2), (.int p3), (.int p4)] maxLocals) t := fun t k => pre236 t (by
              show oP p e below T225 (mkF m 365 #[oI p0, oI p1, oI p2, oI p3, oI p4, oI sc, oI sa, oI sb, oI si, oI (0 : Int32), oI a0c, oI a1c, oI u, oI b0c, oI b1c, oI jd, oR b41, oR b52, oR b69, oR b76, oI (0 : Int32), oI (0 : Int32)] [(.int (0 : Int32)), (.int (fn8q Z b69 b76 b41 b52 p2 jd t45 kt45 ([a0c, a1c] : List Int32) t61 kt61 ([b0c, b1c] : List Int32)))]) _
              refine XS.icmpNo X225.here hx rfl (hb hby at_365) rfl (teq hc237).2 ?_
              show oP p e below T225 (mkF m 368 #[oI p0, oI p1, oI p2, oI p3, oI p4, oI sc, oI sa, oI sb, oI si, oI (0 : Int32), oI a0c, oI a1c, oI u, oI b0c, oI b1c, oI jd, oR b41, oR b52, oR b69, oR b76, oI (0 : Int32), oI (0 : Int32)] []) _
              refine XS.aload X225.here hx rfl (hb hby at_368) rfl rfl ?_
              show oP p e below T225 (mkF m 370 #[oI p0, oI p1, oI p2, oI p3, oI p4, oI sc, oI sa, oI sb, oI si, oI (0 : Int32), oI a0c, oI a1c, oI u, oI b0c, oI b1c, oI jd, oR b41, oR b52, oR b69, oR b76, oI (0 : Int32), oI (0 : Int32)] [(.ref b76)]) _
              refine XS.aload X225.here hx rfl (hb hby at_370) rfl rfl ?_
              show oP p e below T225 (mkF m 372 #[oI p0, oI p1, oI p2, oI p3, oI p4, oI sc, oI sa, oI sb, oI si, oI (0 : Int32), oI a0c, oI a1c, oI u, oI b0c, oI b1c, oI jd, oR b41, oR b52, oR b69, oR b76, oI (0 : Int32), oI (0 : Int32)] [(.ref b69), (.ref b76)]) _
              refine st239.trans ?_
              show oP p e below T239 (mkF m 375 #[oI p0, oI p1, oI p2, oI p3, oI p4, oI sc, oI sa, oI sb, oI si, oI (0 : Int32), oI a0c, oI a1c, oI u, oI b0c, oI b1c, oI jd, oR b41, oR b52, oR b69, oR b76, oI (0 : Int32), oI (0 : Int32)] [(.int (fn8q Z b76 b69 b52 b41 jd p2 t61 kt61 ([b0c, b1c] : List Int32) t45 kt45 ([a0c, a1c] : List Int32)))]) _
              refine XS.iload X239.here hx rfl (hb hby at_375) rfl ?_
              exact k)
            by_cases hc254 : (fn8q Z b76 b69 b52 b41 jd p2 t61 kt61 ([b0c, b1c] : List Int32) t45 kt45 ([a0c, a1c] : List Int32)) = (0 : Int32)
            · obtain ⟨fs, hr, hrun, hended, hW, hsame⟩ := X239.leave (v := some (.int (1 : Int32))) (fun h => by rw [Bd.returns] at h; cases h)
              refine ⟨_, _, pre253 _ ?_, hrun, hended, _, _, rfl, ?_, ⟨_, rfl⟩, hW, hsame.mono (by decide) (by decide)⟩
              · show oP p e below T239 (mkF m 377 #[oI p0, oI p1, oI p2, oI p3, oI p4, oI sc, oI sa, oI sb, oI si, oI (0 : Int32), oI a0c, oI a1c, oI u, oI b0c, oI b1c, oI jd, oR b41, oR b52, oR b69, oR b76, oI (0 : Int32), oI (0 : Int32)] [(.int (0 : Int32)), (.int (fn8q Z b76 b69 b52 b41 jd p2 t61 kt61 ([b0c, b1c] : List Int32) t45 kt45 ([a0c, a1c] : List Int32)))]) _
                refine XS.icmpNo X239.here hx rfl (hb hby at_377) rfl (teq hc254).2 ?_
                show oP p e below T239 (mkF m 380 #[oI p0, oI p1, oI p2, oI p3, oI p4, oI sc, oI sa, oI sb, oI si, oI (0 : Int32), oI a0c, oI a1c, oI u, oI b0c, oI b1c, oI jd, oR b41, oR b52, oR b69, oR b76, oI (0 : Int32), oI (0 : Int32)] []) _
                refine XS.iconst X239.here hx rfl (hb hby at_380) ?_
                show oP p e below T239 (mkF m 381 #[oI p0, oI p1, oI p2, oI p3, oI p4, oI sc, oI sa, oI sb, oI si, oI (0 : Int32), oI a0c, oI a1c, oI u, oI b0c, oI b1c, oI jd, oR b41, oR b52, oR b69, oR b76, oI (0 : Int32), oI (0 : Int32)] [(.int (1 : Int32))]) _
                refine XS.goto X239.here hx rfl (pc0 := 381) (pc' := 385) rfl (hb hby at_381) (by decide) (by decide) ?_
                show oP p e below T239 (mkF m 385 #[oI p0, oI p1, oI p2, oI p3, oI p4, oI sc, oI sa, oI sb, oI si, oI (0 : Int32), oI a0c, oI a1c, oI u, oI b0c, oI b1c, oI jd, oR b41, oR b52, oR b69, oR b76, oI (0 : Int32), oI (0 : Int32)] [(.int (1 : Int32))]) _
                exact retN X239 hx (t := .boolean) Bd.returns (by simp) (hb hby at_385) hr
              · show (some (.int (1 : Int32)) : Option Value) = some (.int (1 : Int32)) ∧ Fr n0 _ ∧ Keep h0 T239.heap []
                exact ⟨rfl, N239, Kc239⟩
            · exfalso
              exact ab255 hS p2 sa sb a0c a1c b0c b1c jd rsa rsb hc40 hc51 hc85 hc237 hc254
          · exfalso
            exact ab256 hS p2 sa sb a0c a1c b0c b1c jd rsa rsb hc40 hc51 hc85 hc237
      · obtain ⟨cq257, kq257, q257a, q257b, q257c⟩ := isOf hZ rfl po74_0
        obtain ⟨_, _, ⟨T257, L257, k257, n257⟩, -, X257, ⟨Lc257, hQ257, l257, y257, z257⟩, st257⟩ := X74.virtualBack hx (y := (⟨"com/example/narada/narada/store/QueueKey", "equals", "(Ljava/lang/Object;)Z"⟩ : MethodName)) (z := (⟨"com/example/narada/narada/store/QueueKey", "equals", "(Ljava/lang/Object;)Z"⟩ : MethodName)) hown (mvT hZ (hw _ (List.mem_of_getElem? (i := 41) rfl))) (mvT hZ (hw _ (List.mem_of_getElem? (i := 42) rfl))) (notFace_of_selects (args := #[]) (mvT hZ (hw _ (List.mem_of_getElem? (i := 44) rfl)))) (mvT hZ (hw _ (List.mem_of_getElem? (i := 44) rfl))) (mvT hZ (hw _ (List.mem_of_getElem? (i := 43) rfl))) (by decide) (backOf (W := 0) (rm8n l Z a0 hw hS [] b69 T74.heap n0 O74 ) hZ (hw _ (List.mem_of_getElem? (i := 45) rfl)) (hw _ (List.mem_of_getElem? (i := 32) rfl)) (by decide) (by decide)) q257a q257c (g := (mkF m 240 #[oI p0, oI p1, oI p2, oI p3, oI p4, oI sc, oI sa, oI sb, oI si, oI (1 : Int32), oI a0c, oI a1c, oI u, oI b0c, oI b1c, oI jd, oR b41, oR b52, oR b69, oU, oU, oU] [.null, (.ref b69)])) rfl (by rw [hml]; rfl) (Steps.refl _) (argsL := [.null]) (rest := []) (lenOf pd_0 rfl) rfl (by show 2 * 0 + _ ≤ _; exact Nat.le_of_eq rfl) (hb hby at_240) (fun _ _ => ⟨rfl, rfl, (by decide : 7 + 0 ≤ _), (by decide : 18 + 0 ≤ _)⟩)
        dsimp only [Pt.U, Pt.locs, Pt.cells, Pt.slots] at X257 l257 y257 z257 st257 hQ257
        subst l257 y257 z257
        obtain ⟨v257, N257q, K257q⟩ := hQ257
        have w257 : (fn8n Z b69) = (0 : Int32) := rfl
        rw [w257] at v257
        subst v257
        have N257 := Fr.app N74 N257q
        have O257 := O74.keep K257q all0
        have Kc257 := Kc74.trans K257q all0
        obtain ⟨fs, hr, hrun, hended, hW, hsame⟩ := X257.leave (v := some (.int (1 : Int32))) (fun h => by rw [Bd.returns] at h; cases h)
        refine ⟨_, _, pre75 _ ?_, hrun, hended, _, _, rfl, ?_, ⟨_, rfl⟩, hW, hsame.mono (by decide) (by decide)⟩
        · show oP p e below T74 (mkF m 231 #[oI p0, oI p1, oI p2, oI p3, oI p4, oI sc, oI sa, oI sb, oI si, oI (1 : Int32), oI a0c, oI a1c, oI u, oI b0c, oI b1c, oI jd, oR b41, oR b52, oR b69, oU, oU, oU] []) _
          refine XS.iload X74.here hx rfl (hb hby at_231) rfl ?_
          show oP p e below T74 (mkF m 233 #[oI p0, oI p1, oI p2, oI p3, oI p4, oI sc, oI sa, oI sb, oI si, oI (1 : Int32), oI a0c, oI a1c, oI u, oI b0c, oI b1c, oI jd, oR b41, oR b52, oR b69, oU, oU, oU] [(.int (1 : Int32))]) _
          refine XS.iconst X74.here hx rfl (hb hby at_233) ?_
          show oP p e below T74 (mkF m 234 #[oI p0, oI p1, oI p2, oI p3, oI p4, oI sc, oI sa, oI sb, oI si, oI (1 : Int32), oI a0c, oI a1c, oI u, oI b0c, oI b1c, oI jd, oR b41, oR b52, oR b69, oU, oU, oU] [(.int (1 : Int32)), (.int (1 : Int32))]) _
          refine XS.icmpNo X74.here hx rfl (hb hby at_234) rfl (teq (by decide : (1 : Int32) = (1 : Int32))).2 ?_
          show oP p e below T74 (mkF m 237 #[oI p0, oI p1, oI p2, oI p3, oI p4, oI sc, oI sa, oI sb, oI si, oI (1 : Int32), oI a0c, oI a1c, oI u, oI b0c, oI b1c, oI jd, oR b41, oR b52, oR b69, oU, oU, oU] []) _
          refine XS.aload X74.here hx rfl (hb hby at_237) rfl rfl ?_
          show oP p e below T74 (mkF m 239 #[oI p0, oI p1, oI p2, oI p3, oI p4, oI sc, oI sa, oI sb, oI si, oI (1 : Int32), oI a0c, oI a1c, oI u, oI b0c, oI b1c, oI jd, oR b41, oR b52, oR b69, oU, oU, oU] [(.ref b69)]) _
          refine XS.aconstNull X74.here hx rfl (hb hby at_239) ?_
          show oP p e below T74 (mkF m 240 #[oI p0, oI p1, oI p2, oI p3, oI p4, oI sc, oI sa, oI sb, oI si, oI (1 : Int32), oI a0c, oI a1c, oI u, oI b0c, oI b1c, oI jd, oR b41, oR b52, oR b69, oU, oU, oU] [.null, (.ref b69)]) _
          refine st257.trans ?_
          show oP p e below T257 (mkF m 243 #[oI p0, oI p1, oI p2, oI p3, oI p4, oI sc, oI sa, oI sb, oI si, oI (1 : Int32), oI a0c, oI a1c, oI u, oI b0c, oI b1c, oI jd, oR b41, oR b52, oR b69, oU, oU, oU] [(.int (0 : Int32))]) _
          refine XS.ifNo X257.here hx rfl (hb hby at_243) rfl ((if0 _ _).trans (teq (by decide : (0 : Int32) = (0 : Int32))).2) ?_
          show oP p e below T257 (mkF m 246 #[oI p0, oI p1, oI p2, oI p3, oI p4, oI sc, oI sa, oI sb, oI si, oI (1 : Int32), oI a0c, oI a1c, oI u, oI b0c, oI b1c, oI jd, oR b41, oR b52, oR b69, oU, oU, oU] []) _
          refine XS.iconst X257.here hx rfl (hb hby at_246) ?_
          show oP p e below T257 (mkF m 247 #[oI p0, oI p1, oI p2, oI p3, oI p4, oI sc, oI sa, oI sb, oI si, oI (1 : Int32), oI a0c, oI a1c, oI u, oI b0c, oI b1c, oI jd, oR b41, oR b52, oR b69, oU, oU, oU] [(.int (1 : Int32))]) _
          refine XS.goto X257.here hx rfl (pc0 := 247) (pc' := 251) rfl (hb hby at_247) (by decide) (by decide) ?_
          show oP p e below T257 (mkF m 251 #[oI p0, oI p1, oI p2, oI p3, oI p4, oI sc, oI sa, oI sb, oI si, oI (1 : Int32), oI a0c, oI a1c, oI u, oI b0c, oI b1c, oI jd, oR b41, oR b52, oR b69, oU, oU, oU] [(.int (1 : Int32))]) _
          exact retN X257 hx (t := .boolean) Bd.returns (by simp) (hb hby at_251) hr
        · show (some (.int (1 : Int32)) : Option Value) = some (.int (1 : Int32)) ∧ Fr n0 _ ∧ Keep h0 T257.heap []
          exact ⟨rfl, N257, Kc257⟩
      · have fx259 := ((fx70.ext E69).keep K74q)
        obtain ⟨cq258, kq258, q258a, q258b, q258c⟩ := isOf hZ rfl po74_0
        obtain ⟨_, _, ⟨T258, L258, k258, n258⟩, -, X258, ⟨Lc258, hQ258, l258, y258, z258⟩, st258⟩ := X74.virtualBack hx (y := (⟨"com/example/narada/narada/store/QueueKey", "equals", "(Ljava/lang/Object;)Z"⟩ : MethodName)) (z := (⟨"com/example/narada/narada/store/QueueKey", "equals", "(Ljava/lang/Object;)Z"⟩ : MethodName)) hown (mvT hZ (hw _ (List.mem_of_getElem? (i := 41) rfl))) (mvT hZ (hw _ (List.mem_of_getElem? (i := 42) rfl))) (notFace_of_selects (args := #[]) (mvT hZ (hw _ (List.mem_of_getElem? (i := 44) rfl)))) (mvT hZ (hw _ (List.mem_of_getElem? (i := 44) rfl))) (mvT hZ (hw _ (List.mem_of_getElem? (i := 43) rfl))) (by decide) (backOf (W := 0) (rm8s l Z a0 hw hS [] b69 b41 T74.heap n0 O74 fx259) hZ (hw _ (List.mem_of_getElem? (i := 45) rfl)) (hw _ (List.mem_of_getElem? (i := 32) rfl)) (by decide) (by decide)) q258a q258c (g := (mkF m 266 #[oI p0, oI p1, oI p2, oI p3, oI p4, oI sc, oI sa, oI sb, oI si, oI (2 : Int32), oI a0c, oI a1c, oI u, oI b0c, oI b1c, oI jd, oR b41, oR b52, oR b69, oR b41, oU, oU] [(.ref b41), (.ref b69)])) rfl (by rw [hml]; rfl) (Steps.refl _) (argsL := [(.ref b41)]) (rest := []) (lenOf pd_0 rfl) rfl (by show 2 * 0 + _ ≤ _; exact Nat.le_of_eq rfl) (hb hby at_266) (fun _ _ => ⟨rfl, rfl, (by decide : 7 + 0 ≤ _), (by decide : 18 + 0 ≤ _)⟩)
        dsimp only [Pt.U, Pt.locs, Pt.cells, Pt.slots] at X258 l258 y258 z258 st258 hQ258
        subst l258 y258 z258
        obtain ⟨v258, N258q, K258q⟩ := hQ258
        have w258 : (fn8s Z b69 b41) = (0 : Int32) := rfl
        rw [w258] at v258
        subst v258
        have N258 := Fr.app N74 N258q
        have O258 := O74.keep K258q all0
        have Kc258 := Kc74.trans K258q all0
        obtain ⟨fs, hr, hrun, hended, hW, hsame⟩ := X258.leave (v := some (.int (1 : Int32))) (fun h => by rw [Bd.returns] at h; cases h)
        refine ⟨_, _, pre75 _ ?_, hrun, hended, _, _, rfl, ?_, ⟨_, rfl⟩, hW, hsame.mono (by decide) (by decide)⟩
        · show oP p e below T74 (mkF m 231 #[oI p0, oI p1, oI p2, oI p3, oI p4, oI sc, oI sa, oI sb, oI si, oI (2 : Int32), oI a0c, oI a1c, oI u, oI b0c, oI b1c, oI jd, oR b41, oR b52, oR b69, oU, oU, oU] []) _
          refine XS.iload X74.here hx rfl (hb hby at_231) rfl ?_
          show oP p e below T74 (mkF m 233 #[oI p0, oI p1, oI p2, oI p3, oI p4, oI sc, oI sa, oI sb, oI si, oI (2 : Int32), oI a0c, oI a1c, oI u, oI b0c, oI b1c, oI jd, oR b41, oR b52, oR b69, oU, oU, oU] [(.int (2 : Int32))]) _
          refine XS.iconst X74.here hx rfl (hb hby at_233) ?_
          show oP p e below T74 (mkF m 234 #[oI p0, oI p1, oI p2, oI p3, oI p4, oI sc, oI sa, oI sb, oI si, oI (2 : Int32), oI a0c, oI a1c, oI u, oI b0c, oI b1c, oI jd, oR b41, oR b52, oR b69, oU, oU, oU] [(.int (1 : Int32)), (.int (2 : Int32))]) _
          refine XS.icmpYes X74.here hx rfl (pc0 := 234) (pc' := 252) rfl (hb hby at_234) rfl (feq (by decide : ¬ ((2 : Int32) = (1 : Int32)))).2 (by decide) (by decide) ?_
          show oP p e below T74 (mkF m 252 #[oI p0, oI p1, oI p2, oI p3, oI p4, oI sc, oI sa, oI sb, oI si, oI (2 : Int32), oI a0c, oI a1c, oI u, oI b0c, oI b1c, oI jd, oR b41, oR b52, oR b69, oU, oU, oU] []) _
          refine XS.iload X74.here hx rfl (hb hby at_252) rfl ?_
          show oP p e below T74 (mkF m 254 #[oI p0, oI p1, oI p2, oI p3, oI p4, oI sc, oI sa, oI sb, oI si, oI (2 : Int32), oI a0c, oI a1c, oI u, oI b0c, oI b1c, oI jd, oR b41, oR b52, oR b69, oU, oU, oU] [(.int (2 : Int32))]) _
          refine XS.iconst X74.here hx rfl (hb hby at_254) ?_
          show oP p e below T74 (mkF m 255 #[oI p0, oI p1, oI p2, oI p3, oI p4, oI sc, oI sa, oI sb, oI si, oI (2 : Int32), oI a0c, oI a1c, oI u, oI b0c, oI b1c, oI jd, oR b41, oR b52, oR b69, oU, oU, oU] [(.int (2 : Int32)), (.int (2 : Int32))]) _
          refine XS.icmpNo X74.here hx rfl (hb hby at_255) rfl (teq (by decide : (2 : Int32) = (2 : Int32))).2 ?_
          show oP p e below T74 (mkF m 258 #[oI p0, oI p1, oI p2, oI p3, oI p4, oI sc, oI sa, oI sb, oI si, oI (2 : Int32), oI a0c, oI a1c, oI u, oI b0c, oI b1c, oI jd, oR b41, oR b52, oR b69, oU, oU, oU] []) _
          refine XS.aload X74.here hx rfl (hb hby at_258) rfl rfl ?_
          show oP p e below T74 (mkF m 260 #[oI p0, oI p1, oI p2, oI p3, oI p4, oI sc, oI sa, oI sb, oI si, oI (2 : Int32), oI a0c, oI a1c, oI u, oI b0c, oI b1c, oI jd, oR b41, oR b52, oR b69, oU, oU, oU] [(.ref b41)]) _
          refine XS.astore X74.here hx rfl (hb hby at_260) rfl rfl (l' := #[oI p0, oI p1, oI p2, oI p3, oI p4, oI sc, oI sa, oI sb, oI si, oI (2 : Int32), oI a0c, oI a1c, oI u, oI b0c, oI b1c, oI jd, oR b41, oR b52, oR b69, oR b41, oU, oU]) rfl ?_
          show oP p e below T74 (mkF m 262 #[oI p0, oI p1, oI p2, oI p3, oI p4, oI sc, oI sa, oI sb, oI si, oI (2 : Int32), oI a0c, oI a1c, oI u, oI b0c, oI b1c, oI jd, oR b41, oR b52, oR b69, oR b41, oU, oU] []) _
          refine XS.aload X74.here hx rfl (hb hby at_262) rfl rfl ?_
          show oP p e below T74 (mkF m 264 #[oI p0, oI p1, oI p2, oI p3, oI p4, oI sc, oI sa, oI sb, oI si, oI (2 : Int32), oI a0c, oI a1c, oI u, oI b0c, oI b1c, oI jd, oR b41, oR b52, oR b69, oR b41, oU, oU] [(.ref b69)]) _
          refine XS.aload X74.here hx rfl (hb hby at_264) rfl rfl ?_
          show oP p e below T74 (mkF m 266 #[oI p0, oI p1, oI p2, oI p3, oI p4, oI sc, oI sa, oI sb, oI si, oI (2 : Int32), oI a0c, oI a1c, oI u, oI b0c, oI b1c, oI jd, oR b41, oR b52, oR b69, oR b41, oU, oU] [(.ref b41), (.ref b69)]) _
          refine st258.trans ?_
          show oP p e below T258 (mkF m 269 #[oI p0, oI p1, oI p2, oI p3, oI p4, oI sc, oI sa, oI sb, oI si, oI (2 : Int32), oI a0c, oI a1c, oI u, oI b0c, oI b1c, oI jd, oR b41, oR b52, oR b69, oR b41, oU, oU] [(.int (0 : Int32))]) _
          refine XS.ifNo X258.here hx rfl (hb hby at_269) rfl ((if0 _ _).trans (teq (by decide : (0 : Int32) = (0 : Int32))).2) ?_
          show oP p e below T258 (mkF m 272 #[oI p0, oI p1, oI p2, oI p3, oI p4, oI sc, oI sa, oI sb, oI si, oI (2 : Int32), oI a0c, oI a1c, oI u, oI b0c, oI b1c, oI jd, oR b41, oR b52, oR b69, oR b41, oU, oU] []) _
          refine XS.iconst X258.here hx rfl (hb hby at_272) ?_
          show oP p e below T258 (mkF m 273 #[oI p0, oI p1, oI p2, oI p3, oI p4, oI sc, oI sa, oI sb, oI si, oI (2 : Int32), oI a0c, oI a1c, oI u, oI b0c, oI b1c, oI jd, oR b41, oR b52, oR b69, oR b41, oU, oU] [(.int (1 : Int32))]) _
          refine XS.goto X258.here hx rfl (pc0 := 273) (pc' := 277) rfl (hb hby at_273) (by decide) (by decide) ?_
          show oP p e below T258 (mkF m 277 #[oI p0, oI p1, oI p2, oI p3, oI p4, oI sc, oI sa, oI sb, oI si, oI (2 : Int32), oI a0c, oI a1c, oI u, oI b0c, oI b1c, oI jd, oR b41, oR b52, oR b69, oR b41, oU, oU] [(.int (1 : Int32))]) _
          exact retN X258 hx (t := .boolean) Bd.returns (by simp) (hb hby at_277) hr
        · show (some (.int (1 : Int32)) : Option Value) = some (.int (1 : Int32)) ∧ Fr n0 _ ∧ Keep h0 T258.heap []
          exact ⟨rfl, N258, Kc258⟩
      · have fx261 := (((((((pV45.ext E52).ext E54).other W58 (Or.inl ne_b41_b54)).other W59 (Or.inl ne_b41_b54)).keep K61q (ninS ne_b41_b52 nin0)).ext E69).keep K74q (ninS ne_b41_b69 nin0))
        have fx262 := ((fx72.ext E69).keep K74q (ninS ne_t45_b69 nin0))
        have fx263 := ((fx70.ext E69).keep K74q)
        have fx264 := (((((((pC45.ext E52).ext E54).other W58 (Or.inl ne_b41_b54)).other W59 (Or.inl ne_b41_b54)).keep K61q (ninS ne_b41_b52 nin0)).ext E69).keep K74q (ninS ne_b41_b69 nin0))
        obtain ⟨cq260, kq260, q260a, q260b, q260c⟩ := isOf hZ rfl po74_0
        obtain ⟨_, _, ⟨T260, L260, k260, n260⟩, -, X260, ⟨Lc260, hQ260, l260, y260, z260⟩, st260⟩ := X74.virtualBack hx (y := (⟨"com/example/narada/narada/store/QueueKey", "equals", "(Ljava/lang/Object;)Z"⟩ : MethodName)) (z := (⟨"com/example/narada/narada/store/QueueKey", "equals", "(Ljava/lang/Object;)Z"⟩ : MethodName)) hown (mvT hZ (hw _ (List.mem_of_getElem? (i := 41) rfl))) (mvT hZ (hw _ (List.mem_of_getElem? (i := 42) rfl))) (notFace_of_selects (args := #[]) (mvT hZ (hw _ (List.mem_of_getElem? (i := 44) rfl)))) (mvT hZ (hw _ (List.mem_of_getElem? (i := 44) rfl))) (mvT hZ (hw _ (List.mem_of_getElem? (i := 43) rfl))) (by decide) (backOf (W := 0) (rm8q l Z a0 hw hS [] b69 b69 b41 b41 p2 p2 t45 kt45 ([a0c, a1c] : List Int32) t45 kt45 ([a0c, a1c] : List Int32) T74.heap n0 O74 po74_0 po74_1 po74_1 po74_2 po74_2 fx263 fx264 fx261 fx262 hp49 (Nat.le_of_ble_eq_true rfl) fx263 fx264 fx261 fx262 hp49 (Nat.le_of_ble_eq_true rfl)) hZ (hw _ (List.mem_of_getElem? (i := 45) rfl)) (hw _ (List.mem_of_getElem? (i := 32) rfl)) (by decide) (by decide)) q260a q260c (g := (mkF m 288 #[oI p0, oI p1, oI p2, oI p3, oI p4, oI sc, oI sa, oI sb, oI si, oI (3 : Int32), oI a0c, oI a1c, oI u, oI b0c, oI b1c, oI jd, oR b41, oR b52, oR b69, oU, oU, oU] [(.ref b69), (.ref b69)])) rfl (by rw [hml]; rfl) (Steps.refl _) (argsL := [(.ref b69)]) (rest := []) (lenOf pd_0 rfl) rfl (by show 2 * 0 + _ ≤ _; exact Nat.le_of_eq rfl) (hb hby at_288) (fun _ _ => ⟨rfl, rfl, (by decide : 7 + 0 ≤ _), (by decide : 18 + 0 ≤ _)⟩)
        dsimp only [Pt.U, Pt.locs, Pt.cells, Pt.slots] at X260 l260 y260 z260 st260 hQ260
        subst l260 y260 z260
        obtain ⟨v260, N260q, K260q⟩ := hQ260
        have w260 : (fn8q Z b69 b69 b41 b41 p2 p2 t45 kt45 ([a0c, a1c] : List Int32) t45 kt45 ([a0c, a1c] : List Int32)) = (1 : Int32) := by unfold fn8q; rw [if_neg (by simp : ¬ ((if ([a0c, a1c] : List Int32) = ([a0c, a1c] : List Int32) then (1 : Int32) else (0 : Int32)) = (0 : Int32))), if_pos (rfl : p2 = p2)]; all_goals first | rfl | decide
        rw [w260] at v260
        subst v260
        have N260 := Fr.app N74 N260q
        have O260 := O74.keep K260q all0
        have Kc260 := Kc74.trans K260q all0
        obtain ⟨fs, hr, hrun, hended, hW, hsame⟩ := X260.leave (v := some (.int (1 : Int32))) (fun h => by rw [Bd.returns] at h; cases h)
        refine ⟨_, _, pre75 _ ?_, hrun, hended, _, _, rfl, ?_, ⟨_, rfl⟩, hW, hsame.mono (by decide) (by decide)⟩
        · show oP p e below T74 (mkF m 231 #[oI p0, oI p1, oI p2, oI p3, oI p4, oI sc, oI sa, oI sb, oI si, oI (3 : Int32), oI a0c, oI a1c, oI u, oI b0c, oI b1c, oI jd, oR b41, oR b52, oR b69, oU, oU, oU] []) _
          refine XS.iload X74.here hx rfl (hb hby at_231) rfl ?_
          show oP p e below T74 (mkF m 233 #[oI p0, oI p1, oI p2, oI p3, oI p4, oI sc, oI sa, oI sb, oI si, oI (3 : Int32), oI a0c, oI a1c, oI u, oI b0c, oI b1c, oI jd, oR b41, oR b52, oR b69, oU, oU, oU] [(.int (3 : Int32))]) _
          refine XS.iconst X74.here hx rfl (hb hby at_233) ?_
          show oP p e below T74 (mkF m 234 #[oI p0, oI p1, oI p2, oI p3, oI p4, oI sc, oI sa, oI sb, oI si, oI (3 : Int32), oI a0c, oI a1c, oI u, oI b0c, oI b1c, oI jd, oR b41, oR b52, oR b69, oU, oU, oU] [(.int (1 : Int32)), (.int (3 : Int32))]) _
          refine XS.icmpYes X74.here hx rfl (pc0 := 234) (pc' := 252) rfl (hb hby at_234) rfl (feq (by decide : ¬ ((3 : Int32) = (1 : Int32)))).2 (by decide) (by decide) ?_
          show oP p e below T74 (mkF m 252 #[oI p0, oI p1, oI p2, oI p3, oI p4, oI sc, oI sa, oI sb, oI si, oI (3 : Int32), oI a0c, oI a1c, oI u, oI b0c, oI b1c, oI jd, oR b41, oR b52, oR b69, oU, oU, oU] []) _
          refine XS.iload X74.here hx rfl (hb hby at_252) rfl ?_
          show oP p e below T74 (mkF m 254 #[oI p0, oI p1, oI p2, oI p3, oI p4, oI sc, oI sa, oI sb, oI si, oI (3 : Int32), oI a0c, oI a1c, oI u, oI b0c, oI b1c, oI jd, oR b41, oR b52, oR b69, oU, oU, oU] [(.int (3 : Int32))]) _
          refine XS.iconst X74.here hx rfl (hb hby at_254) ?_
          show oP p e below T74 (mkF m 255 #[oI p0, oI p1, oI p2, oI p3, oI p4, oI sc, oI sa, oI sb, oI si, oI (3 : Int32), oI a0c, oI a1c, oI u, oI b0c, oI b1c, oI jd, oR b41, oR b52, oR b69, oU, oU, oU] [(.int (2 : Int32)), (.int (3 : Int32))]) _
          refine XS.icmpYes X74.here hx rfl (pc0 := 255) (pc' := 278) rfl (hb hby at_255) rfl (feq (by decide : ¬ ((3 : Int32) = (2 : Int32)))).2 (by decide) (by decide) ?_
          show oP p e below T74 (mkF m 278 #[oI p0, oI p1, oI p2, oI p3, oI p4, oI sc, oI sa, oI sb, oI si, oI (3 : Int32), oI a0c, oI a1c, oI u, oI b0c, oI b1c, oI jd, oR b41, oR b52, oR b69, oU, oU, oU] []) _
          refine XS.iload X74.here hx rfl (hb hby at_278) rfl ?_
          show oP p e below T74 (mkF m 280 #[oI p0, oI p1, oI p2, oI p3, oI p4, oI sc, oI sa, oI sb, oI si, oI (3 : Int32), oI a0c, oI a1c, oI u, oI b0c, oI b1c, oI jd, oR b41, oR b52, oR b69, oU, oU, oU] [(.int (3 : Int32))]) _
          refine XS.iconst X74.here hx rfl (hb hby at_280) ?_
          show oP p e below T74 (mkF m 281 #[oI p0, oI p1, oI p2, oI p3, oI p4, oI sc, oI sa, oI sb, oI si, oI (3 : Int32), oI a0c, oI a1c, oI u, oI b0c, oI b1c, oI jd, oR b41, oR b52, oR b69, oU, oU, oU] [(.int (3 : Int32)), (.int (3 : Int32))]) _
          refine XS.icmpNo X74.here hx rfl (hb hby at_281) rfl (teq (by decide : (3 : Int32) = (3 : Int32))).2 ?_
          show oP p e below T74 (mkF m 284 #[oI p0, oI p1, oI p2, oI p3, oI p4, oI sc, oI sa, oI sb, oI si, oI (3 : Int32), oI a0c, oI a1c, oI u, oI b0c, oI b1c, oI jd, oR b41, oR b52, oR b69, oU, oU, oU] []) _
          refine XS.aload X74.here hx rfl (hb hby at_284) rfl rfl ?_
          show oP p e below T74 (mkF m 286 #[oI p0, oI p1, oI p2, oI p3, oI p4, oI sc, oI sa, oI sb, oI si, oI (3 : Int32), oI a0c, oI a1c, oI u, oI b0c, oI b1c, oI jd, oR b41, oR b52, oR b69, oU, oU, oU] [(.ref b69)]) _
          refine XS.aload X74.here hx rfl (hb hby at_286) rfl rfl ?_
          show oP p e below T74 (mkF m 288 #[oI p0, oI p1, oI p2, oI p3, oI p4, oI sc, oI sa, oI sb, oI si, oI (3 : Int32), oI a0c, oI a1c, oI u, oI b0c, oI b1c, oI jd, oR b41, oR b52, oR b69, oU, oU, oU] [(.ref b69), (.ref b69)]) _
          refine st260.trans ?_
          show oP p e below T260 (mkF m 291 #[oI p0, oI p1, oI p2, oI p3, oI p4, oI sc, oI sa, oI sb, oI si, oI (3 : Int32), oI a0c, oI a1c, oI u, oI b0c, oI b1c, oI jd, oR b41, oR b52, oR b69, oU, oU, oU] [(.int (1 : Int32))]) _
          exact retN X260 hx (t := .boolean) Bd.returns (by simp) (hb hby at_291) hr
        · show (some (.int (1 : Int32)) : Option Value) = some (.int (1 : Int32)) ∧ Fr n0 _ ∧ Keep h0 T260.heap []
          exact ⟨rfl, N260, Kc260⟩
    · obtain ⟨T265, h265, X265, e265, E265, A265, D265, -, st265⟩ := newO X45 hx hZ hown (hw _ (List.mem_of_getElem? (i := 0) rfl)) (hw _ (List.mem_of_getElem? (i := 1) rfl)) (hw _ (List.mem_of_getElem? (i := 2) rfl)) rfl (g := (mkF m 179 #[oI p0, oI p1, oI p2, oI p3, oI p4, oI sc, oI sa, oI sb, oI si, oI kd, oI a0c, oI a1c, oI u, oI b0c, oI b1c, oI jd, oR b41, oU, oU, oU, oU, oU] [])) rfl (hb hby at_179) (by decide) (by decide)
      obtain ⟨b265, g265⟩ : ∃ z, z = T45.heap.size := ⟨_, rfl⟩
      have g_b265 : n0 ≤ b265 := Nat.le_trans (own_old_le O45) (Nat.le_of_eq g265.symm)
      have sz_b265 : h0.size ≤ b265 := Nat.le_trans Kc45.1 (Nat.le_of_eq g265.symm)
      have ne_b41_b265 : b41 ≠ b265 := Nat.ne_of_lt (Nat.lt_of_lt_of_le pE45.lt (Nat.le_of_eq g265.symm))
      have fx266 := (V44.keep K45q (ninS (Ne.symm ne_b41_b42) nin0))
      have ne_b42_b265 : b42 ≠ b265 := Nat.ne_of_lt (Nat.lt_of_lt_of_le fx266.lt (Nat.le_of_eq g265.symm))
      have ne_t45_b265 : t45 ≠ b265 := Nat.ne_of_lt (Nat.lt_of_lt_of_le pA45.lt (Nat.le_of_eq g265.symm))
      rw [← g265] at A265 D265 st265
      have O265 := O45.ext E265
      have Kc265 := Kc45.ext E265
      have F_coder_b265 : Fld Z h265 b265 "java/lang/String" "coder" "B" (.int (0 : Int32)) := D265 (Or.inr (hw _ (List.mem_of_getElem? (i := 27) rfl))) (ty := .byte) (by decide)
      have F_value_b265 : Fld Z h265 b265 "java/lang/String" "value" "[B" .null := D265 (Or.inr (hw _ (List.mem_of_getElem? (i := 29) rfl))) (ty := (.array .byte)) (by decide)
      obtain ⟨T267, h267, k267, X267, e267, E267, A267, st267⟩ := newP X265 hx hZ (hw _ (List.mem_of_getElem? (i := 3) rfl)) e265 (g := (mkF m 184 #[oI p0, oI p1, oI p2, oI p3, oI p4, oI sc, oI sa, oI sb, oI si, oI kd, oI a0c, oI a1c, oI u, oI b0c, oI b1c, oI jd, oR b41, oU, oU, oU, oU, oU] [(.int (1 : Int32)), (.ref b265), (.ref b265)])) rfl (hb hby at_184) rfl (by decide) (cap := 1) (by decide) (by decide) (by decide) (by decide)
      obtain ⟨b267, g267⟩ : ∃ z, z = h265.size := ⟨_, rfl⟩
      have g_b267 : n0 ≤ b267 := Nat.le_trans (own_old_le O265) (Nat.le_of_eq g267.symm)
      have sz_b267 : h0.size ≤ b267 := Nat.le_trans Kc265.1 (Nat.le_of_eq g267.symm)
      have fx268 := (pE45.ext E265)
      have ne_b41_b267 : b41 ≠ b267 := Nat.ne_of_lt (Nat.lt_of_lt_of_le fx268.lt (Nat.le_of_eq g267.symm))
      have fx269 := (fx266.ext E265)
      have ne_b42_b267 : b42 ≠ b267 := Nat.ne_of_lt (Nat.lt_of_lt_of_le fx269.lt (Nat.le_of_eq g267.symm))
      have fx270 := (pA45.ext E265)
      have ne_t45_b267 : t45 ≠ b267 := Nat.ne_of_lt (Nat.lt_of_lt_of_le fx270.lt (Nat.le_of_eq g267.symm))
      have ne_b265_b267 : b265 ≠ b267 := Nat.ne_of_lt (Nat.lt_of_lt_of_le A265.lt (Nat.le_of_eq g267.symm))
      rw [← g267] at A267 st267
      have O267 := O265.ext E267
      have Kc267 := Kc265.ext E267
      have V267 : Arv Z h267 b267 k267 .char (1 : Int32) [(.int (0 : Int32))] (.int (0 : Int32)) := (Arv.new A267 (by decide)).pad (pad_rep [] (.int (0 : Int32)) 1)
      obtain ⟨T271, h271, X271, e271, W271, V271', st271⟩ := own_stC X267 hx hZ e267 V267 (j := (0 : Int32)) ⟨by decide, by decide⟩ rfl (by decide : ((0 : Int32) : Int32).toNatClampNeg < 1) (g := (mkF m 190 #[oI p0, oI p1, oI p2, oI p3, oI p4, oI sc, oI sa, oI sb, oI si, oI kd, oI a0c, oI a1c, oI u, oI b0c, oI b1c, oI jd, oR b41, oU, oU, oU, oU, oU] [(.int b0c), (.int (0 : Int32)), (.ref b267), (.ref b267), (.ref b265), (.ref b265)])) rfl rfl (hb hby at_190)
      rw [own_narc rb0c] at W271 V271'
      have N271 := Fr.snoc X271 N45 g_b267
      have O271 := O267.wr W271 g_b267
      have Kc271 := Kc267.wr W271 (Or.inr sz_b267)
      have V271 : Arv Z h271 b267 k267 .char (1 : Int32) [(.int b0c)] (.int (0 : Int32)) := V271'
      have fx273 := ((A265.ext E267).wr W271)
      have fx274 := ((F_value_b265.ext E267).other W271 (Or.inl ne_b265_b267))
      have fx275 := ((F_coder_b265.ext E267).other W271 (Or.inl ne_b265_b267))
      have hp276 : ∀ c ∈ ([b0c] : List Int32), ¬ c < 0 ∧ ¬ (255 : Int32) < c := by
        intro c hc
        simp only [List.mem_cons, List.not_mem_nil, or_false] at hc
        rcases hc with rfl
        · exact rb0c
      obtain ⟨_, _, ⟨T272, L272, k272, n272⟩, -, X272, ⟨Lc272, hQ272, l272, y272, z272⟩, st272⟩ := X271.specialBack hx (y := (⟨"java/lang/String", "<init>", "([C)V"⟩ : MethodName)) rfl hown (mvT hZ (hw _ (List.mem_of_getElem? (i := 4) rfl))) (mvT hZ (hw _ (List.mem_of_getElem? (i := 5) rfl))) (mvT hZ (hw _ (List.mem_of_getElem? (i := 6) rfl))) (by decide) (StrChars.Road.backV (W := 1) hZ (own_ws hw) (kI := 4) (hw _ (List.mem_of_getElem? (i := 1) rfl)) (cs := ([b0c] : List Int32)) (bs := (([b0c] : List Int32)).map (fun c => c.toInt8.toInt32)) (n := 1) g_b265 (own_old_le O271) fx273 fx274 fx275 V271 ((s_compact hS).ext O271.2) (n_compact hS) rfl rfl (by decide) (by decide) hp276 rfl (by decide) (by decide)) (g := (mkF m 191 #[oI p0, oI p1, oI p2, oI p3, oI p4, oI sc, oI sa, oI sb, oI si, oI kd, oI a0c, oI a1c, oI u, oI b0c, oI b1c, oI jd, oR b41, oU, oU, oU, oU, oU] [(.ref b267), (.ref b265), (.ref b265)])) rfl (by rw [hml]; rfl) (Steps.refl _) (a := b265) (argsL := [(.ref b267)]) (rest := [(.ref b265)]) (lenOf pd_1 rfl) rfl (by show 2 * 0 + _ ≤ _; exact Nat.le_of_eq rfl) (hb hby at_191) (fun _ _ => ⟨rfl, e271, (by decide : 5 + 1 ≤ _), (by decide : 13 + 1 ≤ _)⟩)
      dsimp only [Pt.U, Pt.locs, Pt.cells, Pt.slots] at X272 l272 y272 z272 st272 hQ272
      subst l272 y272 z272
      obtain ⟨v272, N272q, K272q, pE272, pC272, t272, kt272, g_t272, hs272, ns272, pV272, pA272⟩ := hQ272
      subst v272
      have N272 := Fr.app N271 N272q
      have fx277 := ((fx268.ext E267).wr W271)
      have ne_b41_t272 : b41 ≠ t272 := Nat.ne_of_lt (Nat.lt_of_lt_of_le fx277.lt hs272)
      have fx278 := ((fx269.ext E267).other W271 ne_b42_b267)
      have ne_b42_t272 : b42 ≠ t272 := Nat.ne_of_lt (Nat.lt_of_lt_of_le fx278.lt hs272)
      have fx279 := ((fx270.ext E267).other W271 ne_t45_b267)
      have ne_t45_t272 : t45 ≠ t272 := Nat.ne_of_lt (Nat.lt_of_lt_of_le fx279.lt hs272)
      have ne_b265_t272 : b265 ≠ t272 := Nat.ne_of_lt (Nat.lt_of_lt_of_le fx273.lt hs272)
      have ne_b267_t272 : b267 ≠ t272 := Nat.ne_of_lt (Nat.lt_of_lt_of_le V271.lt hs272)
      have sz_t272 : h0.size ≤ t272 := Nat.le_trans Kc271.1 hs272
      have O272 := O271.keep K272q (allS g_b265 all0)
      have Kc272 := Kc271.trans K272q (allS (Or.inr sz_b265) all0)
      obtain ⟨T280, h280, X280, e280, E280, A280, D280, -, st280⟩ := newO X272 hx hZ hown (hw _ (List.mem_of_getElem? (i := 30) rfl)) (hw _ (List.mem_of_getElem? (i := 31) rfl)) (hw _ (List.mem_of_getElem? (i := 32) rfl)) rfl (g := (mkF m 219 #[oI p0, oI p1, oI p2, oI p3, oI p4, oI sc, oI sa, oI sb, oI si, oI kd, oI a0c, oI a1c, oI u, oI b0c, oI b1c, oI jd, oR b41, oR b265, oU, oU, oU, oU] [])) rfl (hb hby at_219) (by decide) (by decide)
      obtain ⟨b280, g280⟩ : ∃ z, z = T272.heap.size := ⟨_, rfl⟩
      have g_b280 : n0 ≤ b280 := Nat.le_trans (own_old_le O272) (Nat.le_of_eq g280.symm)
      have sz_b280 : h0.size ≤ b280 := Nat.le_trans Kc272.1 (Nat.le_of_eq g280.symm)
      have fx281 := (fx277.keep K272q)
      have ne_b41_b280 : b41 ≠ b280 := Nat.ne_of_lt (Nat.lt_of_lt_of_le fx281.lt (Nat.le_of_eq g280.symm))
      have fx282 := (fx278.keep K272q (ninS ne_b42_b265 nin0))
      have ne_b42_b280 : b42 ≠ b280 := Nat.ne_of_lt (Nat.lt_of_lt_of_le fx282.lt (Nat.le_of_eq g280.symm))
      have fx283 := (fx279.keep K272q (ninS ne_t45_b265 nin0))
      have ne_t45_b280 : t45 ≠ b280 := Nat.ne_of_lt (Nat.lt_of_lt_of_le fx283.lt (Nat.le_of_eq g280.symm))
      have ne_b265_b280 : b265 ≠ b280 := Nat.ne_of_lt (Nat.lt_of_lt_of_le pE272.lt (Nat.le_of_eq g280.symm))
      have fx284 := (V271.keep K272q (ninS (Ne.symm ne_b265_b267) nin0))
      have ne_b267_b280 : b267 ≠ b280 := Nat.ne_of_lt (Nat.lt_of_lt_of_le fx284.lt (Nat.le_of_eq g280.symm))
      have ne_t272_b280 : t272 ≠ b280 := Nat.ne_of_lt (Nat.lt_of_lt_of_le pA272.lt (Nat.le_of_eq g280.symm))
      rw [← g280] at A280 D280 st280
      have O280 := O272.ext E280
      have Kc280 := Kc272.ext E280
      have F_topic_b280 : Fld Z h280 b280 "com/example/narada/narada/store/QueueKey" "topic" "Ljava/lang/String;" .null := D280 (Or.inr (hw _ (List.mem_of_getElem? (i := 38) rfl))) (ty := (.object "java/lang/String")) (by decide)
      have F_queueId_b280 : Fld Z h280 b280 "com/example/narada/narada/store/QueueKey" "queueId" "I" (.int (0 : Int32)) := D280 (Or.inr (hw _ (List.mem_of_getElem? (i := 40) rfl))) (ty := .int) (by decide)
      obtain ⟨lo285, X285, N285⟩ := own_hide X280 N272
      obtain ⟨_, _, ⟨T286, L286, k286, n286⟩, -, X286, ⟨Lc286, hQ286, l286, y286, z286⟩, st286⟩ := X285.specialBack hx (y := (⟨"com/example/narada/narada/store/QueueKey", "<init>", "(Ljava/lang/String;I)V"⟩ : MethodName)) rfl hown (mvT hZ (hw _ (List.mem_of_getElem? (i := 33) rfl))) (mvT hZ (hw _ (List.mem_of_getElem? (i := 34) rfl))) (mvT hZ (hw _ (List.mem_of_getElem? (i := 35) rfl))) (by decide) (backOf (W := 1) (rm7 l Z a0 hw hS [] b280 b41 p2 h280 n0 O280 A280 F_topic_b280 F_queueId_b280 g_b280) hZ (hw _ (List.mem_of_getElem? (i := 35) rfl)) (hw _ (List.mem_of_getElem? (i := 32) rfl)) (by decide) (by decide)) (g := (mkF m 226 #[oI p0, oI p1, oI p2, oI p3, oI p4, oI sc, oI sa, oI sb, oI si, oI kd, oI a0c, oI a1c, oI u, oI b0c, oI b1c, oI jd, oR b41, oR b265, oU, oU, oU, oU] [(.int p2), (.ref b41), (.ref b280), (.ref b280)])) rfl (by rw [hml]; rfl) (Steps.refl _) (a := b280) (argsL := [(.ref b41), (.int p2)]) (rest := [(.ref b280)]) (lenOf pd_2 rfl) rfl (by show 2 * 0 + _ ≤ _; exact Nat.le_of_eq rfl) (hb hby at_226) (fun _ _ => ⟨rfl, e280, (by decide : 7 + 0 ≤ _), (by decide : 16 + 0 ≤ _)⟩)
      dsimp only [Pt.U, Pt.locs, Pt.cells, Pt.slots] at X286 l286 y286 z286 st286 hQ286
      subst l286 y286 z286
      obtain ⟨v286, N286q, K286q, po286_0, po286_1, po286_2⟩ := hQ286
      subst v286
      have N286 := Fr.app N285 N286q
      have O286 := O280.keep K286q (allS g_b280 all0)
      have Kc286 := Kc280.trans K286q (allS (Or.inr sz_b280) all0)
      have pre287 : ∀ t, oP p e below T286 (mkF m 231 #[oI p0, oI p1, oI p2, oI p3, oI p4, oI sc, oI sa, oI sb, oI si, oI kd, oI a0c, oI a1c, oI u, oI b0c, oI b1c, oI jd, oR b41, oR b265, oR b280, oU, oU, oU] []) t → oP p e below s₁ (entryFrame m #[(.int p0), (.int p1), (.int p2), (.int p3), (.int p4)] maxLocals) t := fun t k => pre50 t (by
        show oP p e below T45 (mkF m 176 #[oI p0, oI p1, oI p2, oI p3, oI p4, oI sc, oI sa, oI sb, oI si, oI kd, oI a0c, oI a1c, oI u, oI b0c, oI b1c, oI jd, oR b41, oU, oU, oU, oU, oU] [(.int sb)]) _
        refine XS.ifNo X45.here hx rfl (hb hby at_176) rfl ((if0 _ _).trans (feq hc51).1) ?_
        show oP p e below T45 (mkF m 179 #[oI p0, oI p1, oI p2, oI p3, oI p4, oI sc, oI sa, oI sb, oI si, oI kd, oI a0c, oI a1c, oI u, oI b0c, oI b1c, oI jd, oR b41, oU, oU, oU, oU, oU] []) _
        refine st265 _ ?_
        show oP p e below T265 (mkF m 182 #[oI p0, oI p1, oI p2, oI p3, oI p4, oI sc, oI sa, oI sb, oI si, oI kd, oI a0c, oI a1c, oI u, oI b0c, oI b1c, oI jd, oR b41, oU, oU, oU, oU, oU] [(.ref b265)]) _
        refine XS.dup X265.here hx rfl (hb hby at_182) rfl rfl ?_
        show oP p e below T265 (mkF m 183 #[oI p0, oI p1, oI p2, oI p3, oI p4, oI sc, oI sa, oI sb, oI si, oI kd, oI a0c, oI a1c, oI u, oI b0c, oI b1c, oI jd, oR b41, oU, oU, oU, oU, oU] [(.ref b265), (.ref b265)]) _
        refine XS.iconst X265.here hx rfl (hb hby at_183) ?_
        show oP p e below T265 (mkF m 184 #[oI p0, oI p1, oI p2, oI p3, oI p4, oI sc, oI sa, oI sb, oI si, oI kd, oI a0c, oI a1c, oI u, oI b0c, oI b1c, oI jd, oR b41, oU, oU, oU, oU, oU] [(.int (1 : Int32)), (.ref b265), (.ref b265)]) _
        refine st267 _ ?_
        show oP p e below T267 (mkF m 186 #[oI p0, oI p1, oI p2, oI p3, oI p4, oI sc, oI sa, oI sb, oI si, oI kd, oI a0c, oI a1c, oI u, oI b0c, oI b1c, oI jd, oR b41, oU, oU, oU, oU, oU] [(.ref b267), (.ref b265), (.ref b265)]) _
        refine XS.dup X267.here hx rfl (hb hby at_186) rfl rfl ?_
        show oP p e below T267 (mkF m 187 #[oI p0, oI p1, oI p2, oI p3, oI p4, oI sc, oI sa, oI sb, oI si, oI kd, oI a0c, oI a1c, oI u, oI b0c, oI b1c, oI jd, oR b41, oU, oU, oU, oU, oU] [(.ref b267), (.ref b267), (.ref b265), (.ref b265)]) _
        refine XS.iconst X267.here hx rfl (hb hby at_187) ?_
        show oP p e below T267 (mkF m 188 #[oI p0, oI p1, oI p2, oI p3, oI p4, oI sc, oI sa, oI sb, oI si, oI kd, oI a0c, oI a1c, oI u, oI b0c, oI b1c, oI jd, oR b41, oU, oU, oU, oU, oU] [(.int (0 : Int32)), (.ref b267), (.ref b267), (.ref b265), (.ref b265)]) _
        refine XS.iload X267.here hx rfl (hb hby at_188) rfl ?_
        show oP p e below T267 (mkF m 190 #[oI p0, oI p1, oI p2, oI p3, oI p4, oI sc, oI sa, oI sb, oI si, oI kd, oI a0c, oI a1c, oI u, oI b0c, oI b1c, oI jd, oR b41, oU, oU, oU, oU, oU] [(.int b0c), (.int (0 : Int32)), (.ref b267), (.ref b267), (.ref b265), (.ref b265)]) _
        refine st271 _ ?_
        show oP p e below T271 (mkF m 191 #[oI p0, oI p1, oI p2, oI p3, oI p4, oI sc, oI sa, oI sb, oI si, oI kd, oI a0c, oI a1c, oI u, oI b0c, oI b1c, oI jd, oR b41, oU, oU, oU, oU, oU] [(.ref b267), (.ref b265), (.ref b265)]) _
        refine st272.trans ?_
        show oP p e below T272 (mkF m 194 #[oI p0, oI p1, oI p2, oI p3, oI p4, oI sc, oI sa, oI sb, oI si, oI kd, oI a0c, oI a1c, oI u, oI b0c, oI b1c, oI jd, oR b41, oU, oU, oU, oU, oU] [(.ref b265)]) _
        refine XS.goto X272.here hx rfl (pc0 := 194) (pc' := 217) rfl (hb hby at_194) (by decide) (by decide) ?_
        show oP p e below T272 (mkF m 217 #[oI p0, oI p1, oI p2, oI p3, oI p4, oI sc, oI sa, oI sb, oI si, oI kd, oI a0c, oI a1c, oI u, oI b0c, oI b1c, oI jd, oR b41, oU, oU, oU, oU, oU] [(.ref b265)]) _
        refine XS.astore X272.here hx rfl (hb hby at_217) rfl rfl (l' := #[oI p0, oI p1, oI p2, oI p3, oI p4, oI sc, oI sa, oI sb, oI si, oI kd, oI a0c, oI a1c, oI u, oI b0c, oI b1c, oI jd, oR b41, oR b265, oU, oU, oU, oU]) rfl ?_
        show oP p e below T272 (mkF m 219 #[oI p0, oI p1, oI p2, oI p3, oI p4, oI sc, oI sa, oI sb, oI si, oI kd, oI a0c, oI a1c, oI u, oI b0c, oI b1c, oI jd, oR b41, oR b265, oU, oU, oU, oU] []) _
        refine st280 _ ?_
        show oP p e below T280 (mkF m 222 #[oI p0, oI p1, oI p2, oI p3, oI p4, oI sc, oI sa, oI sb, oI si, oI kd, oI a0c, oI a1c, oI u, oI b0c, oI b1c, oI jd, oR b41, oR b265, oU, oU, oU, oU] [(.ref b280)]) _
        refine XS.dup X280.here hx rfl (hb hby at_222) rfl rfl ?_
        show oP p e below T280 (mkF m 223 #[oI p0, oI p1, oI p2, oI p3, oI p4, oI sc, oI sa, oI sb, oI si, oI kd, oI a0c, oI a1c, oI u, oI b0c, oI b1c, oI jd, oR b41, oR b265, oU, oU, oU, oU] [(.ref b280), (.ref b280)]) _
        refine XS.aload X280.here hx rfl (hb hby at_223) rfl rfl ?_
        show oP p e below T280 (mkF m 225 #[oI p0, oI p1, oI p2, oI p3, oI p4, oI sc, oI sa, oI sb, oI si, oI kd, oI a0c, oI a1c, oI u, oI b0c, oI b1c, oI jd, oR b41, oR b265, oU, oU, oU, oU] [(.ref b41), (.ref b280), (.ref b280)]) _
        refine XS.iloadN X280.here hx rfl (hb hby at_225) rfl ?_
        show oP p e below T280 (mkF m 226 #[oI p0, oI p1, oI p2, oI p3, oI p4, oI sc, oI sa, oI sb, oI si, oI kd, oI a0c, oI a1c, oI u, oI b0c, oI b1c, oI jd, oR b41, oR b265, oU, oU, oU, oU] [(.int p2), (.ref b41), (.ref b280), (.ref b280)]) _
        refine st286.trans ?_
        show oP p e below T286 (mkF m 229 #[oI p0, oI p1, oI p2, oI p3, oI p4, oI sc, oI sa, oI sb, oI si, oI kd, oI a0c, oI a1c, oI u, oI b0c, oI b1c, oI jd, oR b41, oR b265, oU, oU, oU, oU] [(.ref b280)]) _
        refine XS.astore X286.here hx rfl (hb hby at_229) rfl rfl (l' := #[oI p0, oI p1, oI p2, oI p3, oI p4, oI sc, oI sa, oI sb, oI si, oI kd, oI a0c, oI a1c, oI u, oI b0c, oI b1c, oI jd, oR b41, oR b265, oR b280, oU, oU, oU]) rfl ?_
        exact k)
      rcases rkd with rfl | rfl | rfl | rfl
      · obtain ⟨T288, h288, X288, e288, E288, A288, D288, -, st288⟩ := newO X286 hx hZ hown (hw _ (List.mem_of_getElem? (i := 30) rfl)) (hw _ (List.mem_of_getElem? (i := 31) rfl)) (hw _ (List.mem_of_getElem? (i := 32) rfl)) rfl (g := (mkF m 292 #[oI p0, oI p1, oI p2, oI p3, oI p4, oI sc, oI sa, oI sb, oI si, oI (0 : Int32), oI a0c, oI a1c, oI u, oI b0c, oI b1c, oI jd, oR b41, oR b265, oR b280, oU, oU, oU] [])) rfl (hb hby at_292) (by decide) (by decide)
        obtain ⟨b288, g288⟩ : ∃ z, z = T286.heap.size := ⟨_, rfl⟩
        have g_b288 : n0 ≤ b288 := Nat.le_trans (own_old_le O286) (Nat.le_of_eq g288.symm)
        have sz_b288 : h0.size ≤ b288 := Nat.le_trans Kc286.1 (Nat.le_of_eq g288.symm)
        have fx289 := ((fx281.ext E280).keep K286q)
        have ne_b41_b288 : b41 ≠ b288 := Nat.ne_of_lt (Nat.lt_of_lt_of_le fx289.lt (Nat.le_of_eq g288.symm))
        have fx290 := ((fx282.ext E280).keep K286q (ninS ne_b42_b280 nin0))
        have ne_b42_b288 : b42 ≠ b288 := Nat.ne_of_lt (Nat.lt_of_lt_of_le fx290.lt (Nat.le_of_eq g288.symm))
        have fx291 := ((fx283.ext E280).keep K286q (ninS ne_t45_b280 nin0))
        have ne_t45_b288 : t45 ≠ b288 := Nat.ne_of_lt (Nat.lt_of_lt_of_le fx291.lt (Nat.le_of_eq g288.symm))
        have fx292 := ((pE272.ext E280).keep K286q)
        have ne_b265_b288 : b265 ≠ b288 := Nat.ne_of_lt (Nat.lt_of_lt_of_le fx292.lt (Nat.le_of_eq g288.symm))
        have fx293 := ((fx284.ext E280).keep K286q (ninS ne_b267_b280 nin0))
        have ne_b267_b288 : b267 ≠ b288 := Nat.ne_of_lt (Nat.lt_of_lt_of_le fx293.lt (Nat.le_of_eq g288.symm))
        have fx294 := ((pA272.ext E280).keep K286q (ninS ne_t272_b280 nin0))
        have ne_t272_b288 : t272 ≠ b288 := Nat.ne_of_lt (Nat.lt_of_lt_of_le fx294.lt (Nat.le_of_eq g288.symm))
        have ne_b280_b288 : b280 ≠ b288 := Nat.ne_of_lt (Nat.lt_of_lt_of_le po286_0.lt (Nat.le_of_eq g288.symm))
        rw [← g288] at A288 D288 st288
        have O288 := O286.ext E288
        have Kc288 := Kc286.ext E288
        have F_topic_b288 : Fld Z h288 b288 "com/example/narada/narada/store/QueueKey" "topic" "Ljava/lang/String;" .null := D288 (Or.inr (hw _ (List.mem_of_getElem? (i := 38) rfl))) (ty := (.object "java/lang/String")) (by decide)
        have F_queueId_b288 : Fld Z h288 b288 "com/example/narada/narada/store/QueueKey" "queueId" "I" (.int (0 : Int32)) := D288 (Or.inr (hw _ (List.mem_of_getElem? (i := 40) rfl))) (ty := .int) (by decide)
        obtain ⟨_, _, ⟨T295, L295, k295, n295⟩, -, X295, ⟨Lc295, hQ295, l295, y295, z295⟩, st295⟩ := X288.specialBack hx (y := (⟨"com/example/narada/narada/store/QueueKey", "<init>", "(Ljava/lang/String;I)V"⟩ : MethodName)) rfl hown (mvT hZ (hw _ (List.mem_of_getElem? (i := 33) rfl))) (mvT hZ (hw _ (List.mem_of_getElem? (i := 34) rfl))) (mvT hZ (hw _ (List.mem_of_getElem? (i := 35) rfl))) (by decide) (backOf (W := 1) (rm7 l Z a0 hw hS [] b288 b265 jd h288 n0 O288 A288 F_topic_b288 F_queueId_b288 g_b288) hZ (hw _ (List.mem_of_getElem? (i := 35) rfl)) (hw _ (List.mem_of_getElem? (i := 32) rfl)) (by decide) (by decide)) (g := (mkF m 300 #[oI p0, oI p1, oI p2, oI p3, oI p4, oI sc, oI sa, oI sb, oI si, oI (0 : Int32), oI a0c, oI a1c, oI u, oI b0c, oI b1c, oI jd, oR b41, oR b265, oR b280, oU, oU, oU] [(.int jd), (.ref b265), (.ref b288), (.ref b288)])) rfl (by rw [hml]; rfl) (Steps.refl _) (a := b288) (argsL := [(.ref b265), (.int jd)]) (rest := [(.ref b288)]) (lenOf pd_2 rfl) rfl (by show 2 * 0 + _ ≤ _; exact Nat.le_of_eq rfl) (hb hby at_300) (fun _ _ => ⟨rfl, e288, (by decide : 8 + 0 ≤ _), (by decide : 18 + 0 ≤ _)⟩)
        dsimp only [Pt.U, Pt.locs, Pt.cells, Pt.slots] at X295 l295 y295 z295 st295 hQ295
        subst l295 y295 z295
        obtain ⟨v295, N295q, K295q, po295_0, po295_1, po295_2⟩ := hQ295
        subst v295
        have N295 := Fr.app N286 N295q
        have O295 := O288.keep K295q (allS g_b288 all0)
        have Kc295 := Kc288.trans K295q (allS (Or.inr sz_b288) all0)
        have pre296 : ∀ t, oP p e below T295 (mkF m 309 #[oI p0, oI p1, oI p2, oI p3, oI p4, oI sc, oI sa, oI sb, oI si, oI (0 : Int32), oI a0c, oI a1c, oI u, oI b0c, oI b1c, oI jd, oR b41, oR b265, oR b280, oR b288, oU, oU] [(.int sb), (.int sa)]) t → oP p e below s₁ (entryFrame m #[(.int p0), (.int p1), (.int p2), (.int p3), (.int p4)] maxLocals) t := fun t k => pre287 t (by
          show oP p e below T286 (mkF m 231 #[oI p0, oI p1, oI p2, oI p3, oI p4, oI sc, oI sa, oI sb, oI si, oI (0 : Int32), oI a0c, oI a1c, oI u, oI b0c, oI b1c, oI jd, oR b41, oR b265, oR b280, oU, oU, oU] []) _
          refine XS.iload X286.here hx rfl (hb hby at_231) rfl ?_
          show oP p e below T286 (mkF m 233 #[oI p0, oI p1, oI p2, oI p3, oI p4, oI sc, oI sa, oI sb, oI si, oI (0 : Int32), oI a0c, oI a1c, oI u, oI b0c, oI b1c, oI jd, oR b41, oR b265, oR b280, oU, oU, oU] [(.int (0 : Int32))]) _
          refine XS.iconst X286.here hx rfl (hb hby at_233) ?_
          show oP p e below T286 (mkF m 234 #[oI p0, oI p1, oI p2, oI p3, oI p4, oI sc, oI sa, oI sb, oI si, oI (0 : Int32), oI a0c, oI a1c, oI u, oI b0c, oI b1c, oI jd, oR b41, oR b265, oR b280, oU, oU, oU] [(.int (1 : Int32)), (.int (0 : Int32))]) _
          refine XS.icmpYes X286.here hx rfl (pc0 := 234) (pc' := 252) rfl (hb hby at_234) rfl (feq (by decide : ¬ ((0 : Int32) = (1 : Int32)))).2 (by decide) (by decide) ?_
          show oP p e below T286 (mkF m 252 #[oI p0, oI p1, oI p2, oI p3, oI p4, oI sc, oI sa, oI sb, oI si, oI (0 : Int32), oI a0c, oI a1c, oI u, oI b0c, oI b1c, oI jd, oR b41, oR b265, oR b280, oU, oU, oU] []) _
          refine XS.iload X286.here hx rfl (hb hby at_252) rfl ?_
          show oP p e below T286 (mkF m 254 #[oI p0, oI p1, oI p2, oI p3, oI p4, oI sc, oI sa, oI sb, oI si, oI (0 : Int32), oI a0c, oI a1c, oI u, oI b0c, oI b1c, oI jd, oR b41, oR b265, oR b280, oU, oU, oU] [(.int (0 : Int32))]) _
          refine XS.iconst X286.here hx rfl (hb hby at_254) ?_
          show oP p e below T286 (mkF m 255 #[oI p0, oI p1, oI p2, oI p3, oI p4, oI sc, oI sa, oI sb, oI si, oI (0 : Int32), oI a0c, oI a1c, oI u, oI b0c, oI b1c, oI jd, oR b41, oR b265, oR b280, oU, oU, oU] [(.int (2 : Int32)), (.int (0 : Int32))]) _
          refine XS.icmpYes X286.here hx rfl (pc0 := 255) (pc' := 278) rfl (hb hby at_255) rfl (feq (by decide : ¬ ((0 : Int32) = (2 : Int32)))).2 (by decide) (by decide) ?_
          show oP p e below T286 (mkF m 278 #[oI p0, oI p1, oI p2, oI p3, oI p4, oI sc, oI sa, oI sb, oI si, oI (0 : Int32), oI a0c, oI a1c, oI u, oI b0c, oI b1c, oI jd, oR b41, oR b265, oR b280, oU, oU, oU] []) _
          refine XS.iload X286.here hx rfl (hb hby at_278) rfl ?_
          show oP p e below T286 (mkF m 280 #[oI p0, oI p1, oI p2, oI p3, oI p4, oI sc, oI sa, oI sb, oI si, oI (0 : Int32), oI a0c, oI a1c, oI u, oI b0c, oI b1c, oI jd, oR b41, oR b265, oR b280, oU, oU, oU] [(.int (0 : Int32))]) _
          refine XS.iconst X286.here hx rfl (hb hby at_280) ?_
          show oP p e below T286 (mkF m 281 #[oI p0, oI p1, oI p2, oI p3, oI p4, oI sc, oI sa, oI sb, oI si, oI (0 : Int32), oI a0c, oI a1c, oI u, oI b0c, oI b1c, oI jd, oR b41, oR b265, oR b280, oU, oU, oU] [(.int (3 : Int32)), (.int (0 : Int32))]) _
          refine XS.icmpYes X286.here hx rfl (pc0 := 281) (pc' := 292) rfl (hb hby at_281) rfl (feq (by decide : ¬ ((0 : Int32) = (3 : Int32)))).2 (by decide) (by decide) ?_
          show oP p e below T286 (mkF m 292 #[oI p0, oI p1, oI p2, oI p3, oI p4, oI sc, oI sa, oI sb, oI si, oI (0 : Int32), oI a0c, oI a1c, oI u, oI b0c, oI b1c, oI jd, oR b41, oR b265, oR b280, oU, oU, oU] []) _
          refine st288 _ ?_
          show oP p e below T288 (mkF m 295 #[oI p0, oI p1, oI p2, oI p3, oI p4, oI sc, oI sa, oI sb, oI si, oI (0 : Int32), oI a0c, oI a1c, oI u, oI b0c, oI b1c, oI jd, oR b41, oR b265, oR b280, oU, oU, oU] [(.ref b288)]) _
          refine XS.dup X288.here hx rfl (hb hby at_295) rfl rfl ?_
          show oP p e below T288 (mkF m 296 #[oI p0, oI p1, oI p2, oI p3, oI p4, oI sc, oI sa, oI sb, oI si, oI (0 : Int32), oI a0c, oI a1c, oI u, oI b0c, oI b1c, oI jd, oR b41, oR b265, oR b280, oU, oU, oU] [(.ref b288), (.ref b288)]) _
          refine XS.aload X288.here hx rfl (hb hby at_296) rfl rfl ?_
          show oP p e below T288 (mkF m 298 #[oI p0, oI p1, oI p2, oI p3, oI p4, oI sc, oI sa, oI sb, oI si, oI (0 : Int32), oI a0c, oI a1c, oI u, oI b0c, oI b1c, oI jd, oR b41, oR b265, oR b280, oU, oU, oU] [(.ref b265), (.ref b288), (.ref b288)]) _
          refine XS.iload X288.here hx rfl (hb hby at_298) rfl ?_
          show oP p e below T288 (mkF m 300 #[oI p0, oI p1, oI p2, oI p3, oI p4, oI sc, oI sa, oI sb, oI si, oI (0 : Int32), oI a0c, oI a1c, oI u, oI b0c, oI b1c, oI jd, oR b41, oR b265, oR b280, oU, oU, oU] [(.int jd), (.ref b265), (.ref b288), (.ref b288)]) _
          refine st295.trans ?_
          show oP p e below T295 (mkF m 303 #[oI p0, oI p1, oI p2, oI p3, oI p4, oI sc, oI sa, oI sb, oI si, oI (0 : Int32), oI a0c, oI a1c, oI u, oI b0c, oI b1c, oI jd, oR b41, oR b265, oR b280, oU, oU, oU] [(.ref b288)]) _
          refine XS.astore X295.here hx rfl (hb hby at_303) rfl rfl (l' := #[oI p0, oI p1, oI p2, oI p3, oI p4, oI sc, oI sa, oI sb, oI si, oI (0 : Int32), oI a0c, oI a1c, oI u, oI b0c, oI b1c, oI jd, oR b41, oR b265, oR b280, oR b288, oU, oU]) rfl ?_
          show oP p e below T295 (mkF m 305 #[oI p0, oI p1, oI p2, oI p3, oI p4, oI sc, oI sa, oI sb, oI si, oI (0 : Int32), oI a0c, oI a1c, oI u, oI b0c, oI b1c, oI jd, oR b41, oR b265, oR b280, oR b288, oU, oU] []) _
          refine XS.iload X295.here hx rfl (hb hby at_305) rfl ?_
          show oP p e below T295 (mkF m 307 #[oI p0, oI p1, oI p2, oI p3, oI p4, oI sc, oI sa, oI sb, oI si, oI (0 : Int32), oI a0c, oI a1c, oI u, oI b0c, oI b1c, oI jd, oR b41, oR b265, oR b280, oR b288, oU, oU] [(.int sa)]) _
          refine XS.iload X295.here hx rfl (hb hby at_307) rfl ?_
          exact k)
        by_cases hc297 : sa = sb
        · have pre298 : ∀ t, oP p e below T295 (mkF m 316 #[oI p0, oI p1, oI p2, oI p3, oI p4, oI sc, oI sa, oI sb, oI si, oI (0 : Int32), oI a0c, oI a1c, oI u, oI b0c, oI b1c, oI jd, oR b41, oR b265, oR b280, oR b288, oU, oU] [(.int b0c), (.int a0c)]) t → oP p e below s₁ (entryFrame m #[(.int p0), (.int p1), (.int p2), (.int p3), (.int p4)] maxLocals) t := fun t k => pre296 t (by
            show oP p e below T295 (mkF m 309 #[oI p0, oI p1, oI p2, oI p3, oI p4, oI sc, oI sa, oI sb, oI si, oI (0 : Int32), oI a0c, oI a1c, oI u, oI b0c, oI b1c, oI jd, oR b41, oR b265, oR b280, oR b288, oU, oU] [(.int sb), (.int sa)]) _
            refine XS.icmpNo X295.here hx rfl (hb hby at_309) rfl (teq hc297).2 ?_
            show oP p e below T295 (mkF m 312 #[oI p0, oI p1, oI p2, oI p3, oI p4, oI sc, oI sa, oI sb, oI si, oI (0 : Int32), oI a0c, oI a1c, oI u, oI b0c, oI b1c, oI jd, oR b41, oR b265, oR b280, oR b288, oU, oU] []) _
            refine XS.iload X295.here hx rfl (hb hby at_312) rfl ?_
            show oP p e below T295 (mkF m 314 #[oI p0, oI p1, oI p2, oI p3, oI p4, oI sc, oI sa, oI sb, oI si, oI (0 : Int32), oI a0c, oI a1c, oI u, oI b0c, oI b1c, oI jd, oR b41, oR b265, oR b280, oR b288, oU, oU] [(.int a0c)]) _
            refine XS.iload X295.here hx rfl (hb hby at_314) rfl ?_
            exact k)
          by_cases hc299 : a0c = b0c
          · have pre300 : ∀ t, oP p e below T295 (mkF m 328 #[oI p0, oI p1, oI p2, oI p3, oI p4, oI sc, oI sa, oI sb, oI si, oI (0 : Int32), oI a0c, oI a1c, oI u, oI b0c, oI b1c, oI jd, oR b41, oR b265, oR b280, oR b288, oU, oU] [(.int b1c), (.int a1c)]) t → oP p e below s₁ (entryFrame m #[(.int p0), (.int p1), (.int p2), (.int p3), (.int p4)] maxLocals) t := fun t k => pre298 t (by
              show oP p e below T295 (mkF m 316 #[oI p0, oI p1, oI p2, oI p3, oI p4, oI sc, oI sa, oI sb, oI si, oI (0 : Int32), oI a0c, oI a1c, oI u, oI b0c, oI b1c, oI jd, oR b41, oR b265, oR b280, oR b288, oU, oU] [(.int b0c), (.int a0c)]) _
              refine XS.icmpNo X295.here hx rfl (hb hby at_316) rfl (teq hc299).2 ?_
              show oP p e below T295 (mkF m 319 #[oI p0, oI p1, oI p2, oI p3, oI p4, oI sc, oI sa, oI sb, oI si, oI (0 : Int32), oI a0c, oI a1c, oI u, oI b0c, oI b1c, oI jd, oR b41, oR b265, oR b280, oR b288, oU, oU] []) _
              refine XS.iload X295.here hx rfl (hb hby at_319) rfl ?_
              show oP p e below T295 (mkF m 321 #[oI p0, oI p1, oI p2, oI p3, oI p4, oI sc, oI sa, oI sb, oI si, oI (0 : Int32), oI a0c, oI a1c, oI u, oI b0c, oI b1c, oI jd, oR b41, oR b265, oR b280, oR b288, oU, oU] [(.int sa)]) _
              refine XS.ifNo X295.here hx rfl (hb hby at_321) rfl ((if0 _ _).trans (teq hc40).2) ?_
              show oP p e below T295 (mkF m 324 #[oI p0, oI p1, oI p2, oI p3, oI p4, oI sc, oI sa, oI sb, oI si, oI (0 : Int32), oI a0c, oI a1c, oI u, oI b0c, oI b1c, oI jd, oR b41, oR b265, oR b280, oR b288, oU, oU] []) _
              refine XS.iload X295.here hx rfl (hb hby at_324) rfl ?_
              show oP p e below T295 (mkF m 326 #[oI p0, oI p1, oI p2, oI p3, oI p4, oI sc, oI sa, oI sb, oI si, oI (0 : Int32), oI a0c, oI a1c, oI u, oI b0c, oI b1c, oI jd, oR b41, oR b265, oR b280, oR b288, oU, oU] [(.int a1c)]) _
              refine XS.iload X295.here hx rfl (hb hby at_326) rfl ?_
              exact k)
            by_cases hc301 : a1c = b1c
            · have pre302 : ∀ t, oP p e below T295 (mkF m 346 #[oI p0, oI p1, oI p2, oI p3, oI p4, oI sc, oI sa, oI sb, oI si, oI (0 : Int32), oI a0c, oI a1c, oI u, oI b0c, oI b1c, oI jd, oR b41, oR b265, oR b280, oR b288, oI (1 : Int32), oU] [(.int jd), (.int p2)]) t → oP p e below s₁ (entryFrame m #[(.int p0), (.int p1), (.int p2), (.int p3), (.int p4)] maxLocals) t := fun t k => pre300 t (by
                show oP p e below T295 (mkF m 328 #[oI p0, oI p1, oI p2, oI p3, oI p4, oI sc, oI sa, oI sb, oI si, oI (0 : Int32), oI a0c, oI a1c, oI u, oI b0c, oI b1c, oI jd, oR b41, oR b265, oR b280, oR b288, oU, oU] [(.int b1c), (.int a1c)]) _
                refine XS.icmpNo X295.here hx rfl (hb hby at_328) rfl (teq hc301).2 ?_
                show oP p e below T295 (mkF m 331 #[oI p0, oI p1, oI p2, oI p3, oI p4, oI sc, oI sa, oI sb, oI si, oI (0 : Int32), oI a0c, oI a1c, oI u, oI b0c, oI b1c, oI jd, oR b41, oR b265, oR b280, oR b288, oU, oU] []) _
                refine XS.iconst X295.here hx rfl (hb hby at_331) ?_
                show oP p e below T295 (mkF m 332 #[oI p0, oI p1, oI p2, oI p3, oI p4, oI sc, oI sa, oI sb, oI si, oI (0 : Int32), oI a0c, oI a1c, oI u, oI b0c, oI b1c, oI jd, oR b41, oR b265, oR b280, oR b288, oU, oU] [(.int (1 : Int32))]) _
                refine XS.goto X295.here hx rfl (pc0 := 332) (pc' := 336) rfl (hb hby at_332) (by decide) (by decide) ?_
                show oP p e below T295 (mkF m 336 #[oI p0, oI p1, oI p2, oI p3, oI p4, oI sc, oI sa, oI sb, oI si, oI (0 : Int32), oI a0c, oI a1c, oI u, oI b0c, oI b1c, oI jd, oR b41, oR b265, oR b280, oR b288, oU, oU] [(.int (1 : Int32))]) _
                refine XS.istore X295.here hx rfl (hb hby at_336) rfl (l' := #[oI p0, oI p1, oI p2, oI p3, oI p4, oI sc, oI sa, oI sb, oI si, oI (0 : Int32), oI a0c, oI a1c, oI u, oI b0c, oI b1c, oI jd, oR b41, oR b265, oR b280, oR b288, oI (1 : Int32), oU]) rfl ?_
                show oP p e below T295 (mkF m 338 #[oI p0, oI p1, oI p2, oI p3, oI p4, oI sc, oI sa, oI sb, oI si, oI (0 : Int32), oI a0c, oI a1c, oI u, oI b0c, oI b1c, oI jd, oR b41, oR b265, oR b280, oR b288, oI (1 : Int32), oU] []) _
                refine XS.iload X295.here hx rfl (hb hby at_338) rfl ?_
                show oP p e below T295 (mkF m 340 #[oI p0, oI p1, oI p2, oI p3, oI p4, oI sc, oI sa, oI sb, oI si, oI (0 : Int32), oI a0c, oI a1c, oI u, oI b0c, oI b1c, oI jd, oR b41, oR b265, oR b280, oR b288, oI (1 : Int32), oU] [(.int (1 : Int32))]) _
                refine XS.ifNo X295.here hx rfl (hb hby at_340) rfl ((if0 _ _).trans (feq (by decide : ¬ ((1 : Int32) = (0 : Int32)))).1) ?_
                show oP p e below T295 (mkF m 343 #[oI p0, oI p1, oI p2, oI p3, oI p4, oI sc, oI sa, oI sb, oI si, oI (0 : Int32), oI a0c, oI a1c, oI u, oI b0c, oI b1c, oI jd, oR b41, oR b265, oR b280, oR b288, oI (1 : Int32), oU] []) _
                refine XS.iloadN X295.here hx rfl (hb hby at_343) rfl ?_
                show oP p e below T295 (mkF m 344 #[oI p0, oI p1, oI p2, oI p3, oI p4, oI sc, oI sa, oI sb, oI si, oI (0 : Int32), oI a0c, oI a1c, oI u, oI b0c, oI b1c, oI jd, oR b41, oR b265, oR b280, oR b288, oI (1 : Int32), oU] [(.int p2)]) _
                refine XS.iload X295.here hx rfl (hb hby at_344) rfl ?_
                exact k)
              by_cases hc303 : p2 = jd
              · have fx304 := ((po286_0.ext E288).keep K295q)
                have fx306 := ((po286_1.ext E288).keep K295q (ninS ne_b280_b288 nin0))
                have fx307 := ((po286_2.ext E288).keep K295q (ninS ne_b280_b288 nin0))
                have fx308 := ((((((((pV45.ext E265).ext E267).other W271 (Or.inl ne_b41_b267)).keep K272q (ninS ne_b41_b265 nin0)).ext E280).keep K286q (ninS ne_b41_b280 nin0)).ext E288).keep K295q (ninS ne_b41_b288 nin0))
                have fx309 := ((fx291.ext E288).keep K295q (ninS ne_t45_b288 nin0))
                have fx310 := ((((pV272.ext E280).keep K286q (ninS ne_b265_b280 nin0)).ext E288).keep K295q (ninS ne_b265_b288 nin0))
                have fx311 := ((fx294.ext E288).keep K295q (ninS ne_t272_b288 nin0))
                have fx312 := ((fx289.ext E288).keep K295q)
                have fx313 := ((((((((pC45.ext E265).ext E267).other W271 (Or.inl ne_b41_b267)).keep K272q (ninS ne_b41_b265 nin0)).ext E280).keep K286q (ninS ne_b41_b280 nin0)).ext E288).keep K295q (ninS ne_b41_b288 nin0))
                have fx314 := ((fx292.ext E288).keep K295q)
                have fx315 := ((((pC272.ext E280).keep K286q (ninS ne_b265_b280 nin0)).ext E288).keep K295q (ninS ne_b265_b288 nin0))
                obtain ⟨cq305, kq305, q305a, q305b, q305c⟩ := isOf hZ rfl fx304
                obtain ⟨_, _, ⟨T305, L305, k305, n305⟩, -, X305, ⟨Lc305, hQ305, l305, y305, z305⟩, st305⟩ := X295.virtualBack hx (y := (⟨"com/example/narada/narada/store/QueueKey", "equals", "(Ljava/lang/Object;)Z"⟩ : MethodName)) (z := (⟨"com/example/narada/narada/store/QueueKey", "equals", "(Ljava/lang/Object;)Z"⟩ : MethodName)) hown (mvT hZ (hw _ (List.mem_of_getElem? (i := 41) rfl))) (mvT hZ (hw _ (List.mem_of_getElem? (i := 42) rfl))) (notFace_of_selects (args := #[]) (mvT hZ (hw _ (List.mem_of_getElem? (i := 44) rfl)))) (mvT hZ (hw _ (List.mem_of_getElem? (i := 44) rfl))) (mvT hZ (hw _ (List.mem_of_getElem? (i := 43) rfl))) (by decide) (backOf (W := 0) (rm8q l Z a0 hw hS [] b280 b288 b41 b265 p2 jd t45 kt45 ([a0c, a1c] : List Int32) t272 kt272 ([b0c] : List Int32) T295.heap n0 O295 po295_0 fx306 po295_1 fx307 po295_2 fx312 fx313 fx308 fx309 hp49 (Nat.le_of_ble_eq_true rfl) fx314 fx315 fx310 fx311 hp276 (Nat.le_of_ble_eq_true rfl)) hZ (hw _ (List.mem_of_getElem? (i := 45) rfl)) (hw _ (List.mem_of_getElem? (i := 32) rfl)) (by decide) (by decide)) q305a q305c (g := (mkF m 360 #[oI p0, oI p1, oI p2, oI p3, oI p4, oI sc, oI sa, oI sb, oI si, oI (0 : Int32), oI a0c, oI a1c, oI u, oI b0c, oI b1c, oI jd, oR b41, oR b265, oR b280, oR b288, oI (1 : Int32), oI (1 : Int32)] [(.ref b288), (.ref b280)])) rfl (by rw [hml]; rfl) (Steps.refl _) (argsL := [(.ref b288)]) (rest := []) (lenOf pd_0 rfl) rfl (by show 2 * 0 + _ ≤ _; exact Nat.le_of_eq rfl) (hb hby at_360) (fun _ _ => ⟨rfl, rfl, (by decide : 8 + 0 ≤ _), (by decide : 18 + 0 ≤ _)⟩)
                dsimp only [Pt.U, Pt.locs, Pt.cells, Pt.slots] at X305 l305 y305 z305 st305 hQ305
                subst l305 y305 z305
                obtain ⟨v305, N305q, K305q⟩ := hQ305
                subst v305
                have N305 := Fr.app N295 N305q
                have O305 := O295.keep K305q all0
                have Kc305 := Kc295.trans K305q all0
                have pre316 : ∀ t, oP p e below T305 (mkF m 365 #[oI p0, oI p1, oI p2, oI p3, oI p4, oI sc, oI sa, oI sb, oI si, oI (0 : Int32), oI a0c, oI a1c, oI u, oI b0c, oI b1c, oI jd, oR b41, oR b265, oR b280, oR b288, oI (1 : Int32), oI (1 : Int32)] [(.int (1 : Int32)), (.int (fn8q Z b280 b288 b41 b265 p2 jd t45 kt45 ([a0c, a1c] : List Int32) t272 kt272 ([b0c] : List Int32)))]) t → oP p e below s₁ (entryFrame m #[(.int p0), (.int p1), (.int p2), (.int p3), (.int p4)] maxLocals) t := fun t k => pre302 t (by
                  show oP p e below T295 (mkF m 346 #[oI p0, oI p1, oI p2, oI p3, oI p4, oI sc, oI sa, oI sb, oI si, oI (0 : Int32), oI a0c, oI a1c, oI u, oI b0c, oI b1c, oI jd, oR b41, oR b265, oR b280, oR b288, oI (1 : Int32), oU] [(.int jd), (.int p2)]) _
                  refine XS.icmpNo X295.here hx rfl (hb hby at_346) rfl (teq hc303).2 ?_
                  show oP p e below T295 (mkF m 349 #[oI p0, oI p1, oI p2, oI p3, oI p4, oI sc, oI sa, oI sb, oI si, oI (0 : Int32), oI a0c, oI a1c, oI u, oI b0c, oI b1c, oI jd, oR b41, oR b265, oR b280, oR b288, oI (1 : Int32), oU] []) _
                  refine XS.iconst X295.here hx rfl (hb hby at_349) ?_
                  show oP p e below T295 (mkF m 350 #[oI p0, oI p1, oI p2, oI p3, oI p4, oI sc, oI sa, oI sb, oI si, oI (0 : Int32), oI a0c, oI a1c, oI u, oI b0c, oI b1c, oI jd, oR b41, oR b265, oR b280, oR b288, oI (1 : Int32), oU] [(.int (1 : Int32))]) _
                  refine XS.goto X295.here hx rfl (pc0 := 350) (pc' := 354) rfl (hb hby at_350) (by decide) (by decide) ?_
                  show oP p e below T295 (mkF m 354 #[oI p0, oI p1, oI p2, oI p3, oI p4, oI sc, oI sa, oI sb, oI si, oI (0 : Int32), oI a0c, oI a1c, oI u, oI b0c, oI b1c, oI jd, oR b41, oR b265, oR b280, oR b288, oI (1 : Int32), oU] [(.int (1 : Int32))]) _
                  refine XS.istore X295.here hx rfl (hb hby at_354) rfl (l' := #[oI p0, oI p1, oI p2, oI p3, oI p4, oI sc, oI sa, oI sb, oI si, oI (0 : Int32), oI a0c, oI a1c, oI u, oI b0c, oI b1c, oI jd, oR b41, oR b265, oR b280, oR b288, oI (1 : Int32), oI (1 : Int32)]) rfl ?_
                  show oP p e below T295 (mkF m 356 #[oI p0, oI p1, oI p2, oI p3, oI p4, oI sc, oI sa, oI sb, oI si, oI (0 : Int32), oI a0c, oI a1c, oI u, oI b0c, oI b1c, oI jd, oR b41, oR b265, oR b280, oR b288, oI (1 : Int32), oI (1 : Int32)] []) _
                  refine XS.aload X295.here hx rfl (hb hby at_356) rfl rfl ?_
                  show oP p e below T295 (mkF m 358 #[oI p0, oI p1, oI p2, oI p3, oI p4, oI sc, oI sa, oI sb, oI si, oI (0 : Int32), oI a0c, oI a1c, oI u, oI b0c, oI b1c, oI jd, oR b41, oR b265, oR b280, oR b288, oI (1 : Int32), oI (1 : Int32)] [(.ref b280)]) _
                  refine XS.aload X295.here hx rfl (hb hby at_358) rfl rfl ?_
                  show oP p e below T295 (mkF m 360 #[oI p0, oI p1, oI p2, oI p3, oI p4, oI sc, oI sa, oI sb, oI si, oI (0 : Int32), oI a0c, oI a1c, oI u, oI b0c, oI b1c, oI jd, oR b41, oR b265, oR b280, oR b288, oI (1 : Int32), oI (1 : Int32)] [(.ref b288), (.ref b280)]) _
                  refine st305.trans ?_
                  show oP p e below T305 (mkF m 363 #[oI p0, oI p1, oI p2, oI p3, oI p4, oI sc, oI sa, oI sb, oI si, oI (0 : Int32), oI a0c, oI a1c, oI u, oI b0c, oI b1c, oI jd, oR b41, oR b265, oR b280, oR b288, oI (1 : Int32), oI (1 : Int32)] [(.int (fn8q Z b280 b288 b41 b265 p2 jd t45 kt45 ([a0c, a1c] : List Int32) t272 kt272 ([b0c] : List Int32)))]) _
                  refine XS.iload X305.here hx rfl (hb hby at_363) rfl ?_
                  exact k)
                by_cases hc317 : (fn8q Z b280 b288 b41 b265 p2 jd t45 kt45 ([a0c, a1c] : List Int32) t272 kt272 ([b0c] : List Int32)) = (1 : Int32)
                · have fx318 := (po295_0.keep K305q)
                  have fx320 := (po295_1.keep K305q nin0)
                  have fx321 := (fx306.keep K305q nin0)
                  have fx322 := (po295_2.keep K305q nin0)
                  have fx323 := (fx307.keep K305q nin0)
                  have fx324 := (fx310.keep K305q nin0)
                  have fx325 := (fx311.keep K305q nin0)
                  have fx326 := (fx308.keep K305q nin0)
                  have fx327 := (fx309.keep K305q nin0)
                  have fx328 := (fx304.keep K305q)
                  have fx329 := (fx314.keep K305q)
                  have fx330 := (fx315.keep K305q nin0)
                  have fx331 := (fx312.keep K305q)
                  have fx332 := (fx313.keep K305q nin0)
                  obtain ⟨cq319, kq319, q319a, q319b, q319c⟩ := isOf hZ rfl fx318
                  obtain ⟨_, _, ⟨T319, L319, k319, n319⟩, -, X319, ⟨Lc319, hQ319, l319, y319, z319⟩, st319⟩ := X305.virtualBack hx (y := (⟨"com/example/narada/narada/store/QueueKey", "equals", "(Ljava/lang/Object;)Z"⟩ : MethodName)) (z := (⟨"com/example/narada/narada/store/QueueKey", "equals", "(Ljava/lang/Object;)Z"⟩ : MethodName)) hown (mvT hZ (hw _ (List.mem_of_getElem? (i := 41) rfl))) (mvT hZ (hw _ (List.mem_of_getElem? (i := 42) rfl))) (notFace_of_selects (args := #[]) (mvT hZ (hw _ (List.mem_of_getElem? (i := 44) rfl)))) (mvT hZ (hw _ (List.mem_of_getElem? (i := 44) rfl))) (mvT hZ (hw _ (List.mem_of_getElem? (i := 43) rfl))) (by decide) (backOf (W := 0) (rm8q l Z a0 hw hS [] b288 b280 b265 b41 jd p2 t272 kt272 ([b0c] : List Int32) t45 kt45 ([a0c, a1c] : List Int32) T305.heap n0 O305 fx328 fx320 fx321 fx322 fx323 fx329 fx330 fx324 fx325 hp276 (Nat.le_of_ble_eq_true rfl) fx331 fx332 fx326 fx327 hp49 (Nat.le_of_ble_eq_true rfl)) hZ (hw _ (List.mem_of_getElem? (i := 45) rfl)) (hw _ (List.mem_of_getElem? (i := 32) rfl)) (by decide) (by decide)) q319a q319c (g := (mkF m 372 #[oI p0, oI p1, oI p2, oI p3, oI p4, oI sc, oI sa, oI sb, oI si, oI (0 : Int32), oI a0c, oI a1c, oI u, oI b0c, oI b1c, oI jd, oR b41, oR b265, oR b280, oR b288, oI (1 : Int32), oI (1 : Int32)] [(.ref b280), (.ref b288)])) rfl (by rw [hml]; rfl) (Steps.refl _) (argsL := [(.ref b280)]) (rest := []) (lenOf pd_0 rfl) rfl (by show 2 * 0 + _ ≤ _; exact Nat.le_of_eq rfl) (hb hby at_372) (fun _ _ => ⟨rfl, rfl, (by decide : 8 + 0 ≤ _), (by decide : 18 + 0 ≤ _)⟩)
                  dsimp only [Pt.U, Pt.locs, Pt.cells, Pt.slots] at X319 l319 y319 z319 st319 hQ319
                  subst l319 y319 z319
                  obtain ⟨v319, N319q, K319q⟩ := hQ319
                  subst v319
                  have N319 := Fr.app N305 N319q
                  have O319 := O305.keep K319q all0
                  have Kc319 := Kc305.trans K319q all0
                  have pre333 : ∀ t, oP p e below T319 (mkF m 377 #[oI p0, oI p1, oI p2, oI p3, oI p4, oI sc, oI sa, oI sb, oI si, oI (0 : Int32), oI a0c, oI a1c, oI u, oI b0c, oI b1c, oI jd, oR b41, oR b265, oR b280, oR b288, oI (1 : Int32), oI (1 : Int32)] [(.int (1 : Int32)), (.int (fn8q Z b288 b280 b265 b41 jd p2 t272 kt272 ([b0c] : List Int32) t45 kt45 ([a0c, a1c] : List Int32)))]) t → oP p e below s₁ (entryFrame m #[(.int p0), (.int p1), (.int p2), (.int p3), (.int p4)] maxLocals) t := fun t k => pre316 t (by
                    show oP p e below T305 (mkF m 365 #[oI p0, oI p1, oI p2, oI p3, oI p4, oI sc, oI sa, oI sb, oI si, oI (0 : Int32), oI a0c, oI a1c, oI u, oI b0c, oI b1c, oI jd, oR b41, oR b265, oR b280, oR b288, oI (1 : Int32), oI (1 : Int32)] [(.int (1 : Int32)), (.int (fn8q Z b280 b288 b41 b265 p2 jd t45 kt45 ([a0c, a1c] : List Int32) t272 kt272 ([b0c] : List Int32)))]) _
                    refine XS.icmpNo X305.here hx rfl (hb hby at_365) rfl (teq hc317).2 ?_
                    show oP p e below T305 (mkF m 368 #[oI p0, oI p1, oI p2, oI p3, oI p4, oI sc, oI sa, oI sb, oI si, oI (0 : Int32), oI a0c, oI a1c, oI u, oI b0c, oI b1c, oI jd, oR b41, oR b265, oR b280, oR b288, oI (1 : Int32), oI (1 : Int32)] []) _
                    refine XS.aload X305.here hx rfl (hb hby at_368) rfl rfl ?_
                    show oP p e below T305 (mkF m 370 #[oI p0, oI p1, oI p2, oI p3, oI p4, oI sc, oI sa, oI sb, oI si, oI (0 : Int32), oI a0c, oI a1c, oI u, oI b0c, oI b1c, oI jd, oR b41, oR b265, oR b280, oR b288, oI (1 : Int32), oI (1 : Int32)] [(.ref b288)]) _
                    refine XS.aload X305.here hx rfl (hb hby at_370) rfl rfl ?_
                    show oP p e below T305 (mkF m 372 #[oI p0, oI p1, oI p2, oI p3, oI p4, oI sc, oI sa, oI sb, oI si, oI (0 : Int32), oI a0c, oI a1c, oI u, oI b0c, oI b1c, oI jd, oR b41, oR b265, oR b280, oR b288, oI (1 : Int32), oI (1 : Int32)] [(.ref b280), (.ref b288)]) _
                    refine st319.trans ?_
                    show oP p e below T319 (mkF m 375 #[oI p0, oI p1, oI p2, oI p3, oI p4, oI sc, oI sa, oI sb, oI si, oI (0 : Int32), oI a0c, oI a1c, oI u, oI b0c, oI b1c, oI jd, oR b41, oR b265, oR b280, oR b288, oI (1 : Int32), oI (1 : Int32)] [(.int (fn8q Z b288 b280 b265 b41 jd p2 t272 kt272 ([b0c] : List Int32) t45 kt45 ([a0c, a1c] : List Int32)))]) _
                    refine XS.iload X319.here hx rfl (hb hby at_375) rfl ?_
                    exact k)
                  by_cases hc334 : (fn8q Z b288 b280 b265 b41 jd p2 t272 kt272 ([b0c] : List Int32) t45 kt45 ([a0c, a1c] : List Int32)) = (1 : Int32)
                  · obtain ⟨fs, hr, hrun, hended, hW, hsame⟩ := X319.leave (v := some (.int (1 : Int32))) (fun h => by rw [Bd.returns] at h; cases h)
                    refine ⟨_, _, pre333 _ ?_, hrun, hended, _, _, rfl, ?_, ⟨_, rfl⟩, hW, hsame.mono (by decide) (by decide)⟩
                    · show oP p e below T319 (mkF m 377 #[oI p0, oI p1, oI p2, oI p3, oI p4, oI sc, oI sa, oI sb, oI si, oI (0 : Int32), oI a0c, oI a1c, oI u, oI b0c, oI b1c, oI jd, oR b41, oR b265, oR b280, oR b288, oI (1 : Int32), oI (1 : Int32)] [(.int (1 : Int32)), (.int (fn8q Z b288 b280 b265 b41 jd p2 t272 kt272 ([b0c] : List Int32) t45 kt45 ([a0c, a1c] : List Int32)))]) _
                      refine XS.icmpNo X319.here hx rfl (hb hby at_377) rfl (teq hc334).2 ?_
                      show oP p e below T319 (mkF m 380 #[oI p0, oI p1, oI p2, oI p3, oI p4, oI sc, oI sa, oI sb, oI si, oI (0 : Int32), oI a0c, oI a1c, oI u, oI b0c, oI b1c, oI jd, oR b41, oR b265, oR b280, oR b288, oI (1 : Int32), oI (1 : Int32)] []) _
                      refine XS.iconst X319.here hx rfl (hb hby at_380) ?_
                      show oP p e below T319 (mkF m 381 #[oI p0, oI p1, oI p2, oI p3, oI p4, oI sc, oI sa, oI sb, oI si, oI (0 : Int32), oI a0c, oI a1c, oI u, oI b0c, oI b1c, oI jd, oR b41, oR b265, oR b280, oR b288, oI (1 : Int32), oI (1 : Int32)] [(.int (1 : Int32))]) _
                      refine XS.goto X319.here hx rfl (pc0 := 381) (pc' := 385) rfl (hb hby at_381) (by decide) (by decide) ?_
                      show oP p e below T319 (mkF m 385 #[oI p0, oI p1, oI p2, oI p3, oI p4, oI sc, oI sa, oI sb, oI si, oI (0 : Int32), oI a0c, oI a1c, oI u, oI b0c, oI b1c, oI jd, oR b41, oR b265, oR b280, oR b288, oI (1 : Int32), oI (1 : Int32)] [(.int (1 : Int32))]) _
                      exact retN X319 hx (t := .boolean) Bd.returns (by simp) (hb hby at_385) hr
                    · show (some (.int (1 : Int32)) : Option Value) = some (.int (1 : Int32)) ∧ Fr n0 _ ∧ Keep h0 T319.heap []
                      exact ⟨rfl, N319, Kc319⟩
                  · exfalso
                    exact ab335 hS p2 sa sb a0c a1c b0c b1c jd rsa rsb hc40 hc51 hc297 hc299 hc301 hc303 hc317 hc334
                · exfalso
                  exact ab336 hS p2 sa sb a0c a1c b0c b1c jd rsa rsb hc40 hc51 hc297 hc299 hc301 hc303 hc317
              · have fx337 := ((po286_0.ext E288).keep K295q)
                have fx339 := ((po286_1.ext E288).keep K295q (ninS ne_b280_b288 nin0))
                have fx340 := ((po286_2.ext E288).keep K295q (ninS ne_b280_b288 nin0))
                have fx341 := ((((((((pV45.ext E265).ext E267).other W271 (Or.inl ne_b41_b267)).keep K272q (ninS ne_b41_b265 nin0)).ext E280).keep K286q (ninS ne_b41_b280 nin0)).ext E288).keep K295q (ninS ne_b41_b288 nin0))
                have fx342 := ((fx291.ext E288).keep K295q (ninS ne_t45_b288 nin0))
                have fx343 := ((((pV272.ext E280).keep K286q (ninS ne_b265_b280 nin0)).ext E288).keep K295q (ninS ne_b265_b288 nin0))
                have fx344 := ((fx294.ext E288).keep K295q (ninS ne_t272_b288 nin0))
                have fx345 := ((fx289.ext E288).keep K295q)
                have fx346 := ((((((((pC45.ext E265).ext E267).other W271 (Or.inl ne_b41_b267)).keep K272q (ninS ne_b41_b265 nin0)).ext E280).keep K286q (ninS ne_b41_b280 nin0)).ext E288).keep K295q (ninS ne_b41_b288 nin0))
                have fx347 := ((fx292.ext E288).keep K295q)
                have fx348 := ((((pC272.ext E280).keep K286q (ninS ne_b265_b280 nin0)).ext E288).keep K295q (ninS ne_b265_b288 nin0))
                obtain ⟨cq338, kq338, q338a, q338b, q338c⟩ := isOf hZ rfl fx337
                obtain ⟨_, _, ⟨T338, L338, k338, n338⟩, -, X338, ⟨Lc338, hQ338, l338, y338, z338⟩, st338⟩ := X295.virtualBack hx (y := (⟨"com/example/narada/narada/store/QueueKey", "equals", "(Ljava/lang/Object;)Z"⟩ : MethodName)) (z := (⟨"com/example/narada/narada/store/QueueKey", "equals", "(Ljava/lang/Object;)Z"⟩ : MethodName)) hown (mvT hZ (hw _ (List.mem_of_getElem? (i := 41) rfl))) (mvT hZ (hw _ (List.mem_of_getElem? (i := 42) rfl))) (notFace_of_selects (args := #[]) (mvT hZ (hw _ (List.mem_of_getElem? (i := 44) rfl)))) (mvT hZ (hw _ (List.mem_of_getElem? (i := 44) rfl))) (mvT hZ (hw _ (List.mem_of_getElem? (i := 43) rfl))) (by decide) (backOf (W := 0) (rm8q l Z a0 hw hS [] b280 b288 b41 b265 p2 jd t45 kt45 ([a0c, a1c] : List Int32) t272 kt272 ([b0c] : List Int32) T295.heap n0 O295 po295_0 fx339 po295_1 fx340 po295_2 fx345 fx346 fx341 fx342 hp49 (Nat.le_of_ble_eq_true rfl) fx347 fx348 fx343 fx344 hp276 (Nat.le_of_ble_eq_true rfl)) hZ (hw _ (List.mem_of_getElem? (i := 45) rfl)) (hw _ (List.mem_of_getElem? (i := 32) rfl)) (by decide) (by decide)) q338a q338c (g := (mkF m 360 #[oI p0, oI p1, oI p2, oI p3, oI p4, oI sc, oI sa, oI sb, oI si, oI (0 : Int32), oI a0c, oI a1c, oI u, oI b0c, oI b1c, oI jd, oR b41, oR b265, oR b280, oR b288, oI (1 : Int32), oI (0 : Int32)] [(.ref b288), (.ref b280)])) rfl (by rw [hml]; rfl) (Steps.refl _) (argsL := [(.ref b288)]) (rest := []) (lenOf pd_0 rfl) rfl (by show 2 * 0 + _ ≤ _; exact Nat.le_of_eq rfl) (hb hby at_360) (fun _ _ => ⟨rfl, rfl, (by decide : 8 + 0 ≤ _), (by decide : 18 + 0 ≤ _)⟩)
                dsimp only [Pt.U, Pt.locs, Pt.cells, Pt.slots] at X338 l338 y338 z338 st338 hQ338
                subst l338 y338 z338
                obtain ⟨v338, N338q, K338q⟩ := hQ338
                subst v338
                have N338 := Fr.app N295 N338q
                have O338 := O295.keep K338q all0
                have Kc338 := Kc295.trans K338q all0
                have pre349 : ∀ t, oP p e below T338 (mkF m 365 #[oI p0, oI p1, oI p2, oI p3, oI p4, oI sc, oI sa, oI sb, oI si, oI (0 : Int32), oI a0c, oI a1c, oI u, oI b0c, oI b1c, oI jd, oR b41, oR b265, oR b280, oR b288, oI (1 : Int32), oI (0 : Int32)] [(.int (0 : Int32)), (.int (fn8q Z b280 b288 b41 b265 p2 jd t45 kt45 ([a0c, a1c] : List Int32) t272 kt272 ([b0c] : List Int32)))]) t → oP p e below s₁ (entryFrame m #[(.int p0), (.int p1), (.int p2), (.int p3), (.int p4)] maxLocals) t := fun t k => pre302 t (by
                  show oP p e below T295 (mkF m 346 #[oI p0, oI p1, oI p2, oI p3, oI p4, oI sc, oI sa, oI sb, oI si, oI (0 : Int32), oI a0c, oI a1c, oI u, oI b0c, oI b1c, oI jd, oR b41, oR b265, oR b280, oR b288, oI (1 : Int32), oU] [(.int jd), (.int p2)]) _
                  refine XS.icmpYes X295.here hx rfl (pc0 := 346) (pc' := 353) rfl (hb hby at_346) rfl (feq hc303).2 (by decide) (by decide) ?_
                  show oP p e below T295 (mkF m 353 #[oI p0, oI p1, oI p2, oI p3, oI p4, oI sc, oI sa, oI sb, oI si, oI (0 : Int32), oI a0c, oI a1c, oI u, oI b0c, oI b1c, oI jd, oR b41, oR b265, oR b280, oR b288, oI (1 : Int32), oU] []) _
                  refine XS.iconst X295.here hx rfl (hb hby at_353) ?_
                  show oP p e below T295 (mkF m 354 #[oI p0, oI p1, oI p2, oI p3, oI p4, oI sc, oI sa, oI sb, oI si, oI (0 : Int32), oI a0c, oI a1c, oI u, oI b0c, oI b1c, oI jd, oR b41, oR b265, oR b280, oR b288, oI (1 : Int32), oU] [(.int (0 : Int32))]) _
                  refine XS.istore X295.here hx rfl (hb hby at_354) rfl (l' := #[oI p0, oI p1, oI p2, oI p3, oI p4, oI sc, oI sa, oI sb, oI si, oI (0 : Int32), oI a0c, oI a1c, oI u, oI b0c, oI b1c, oI jd, oR b41, oR b265, oR b280, oR b288, oI (1 : Int32), oI (0 : Int32)]) rfl ?_
                  show oP p e below T295 (mkF m 356 #[oI p0, oI p1, oI p2, oI p3, oI p4, oI sc, oI sa, oI sb, oI si, oI (0 : Int32), oI a0c, oI a1c, oI u, oI b0c, oI b1c, oI jd, oR b41, oR b265, oR b280, oR b288, oI (1 : Int32), oI (0 : Int32)] []) _
                  refine XS.aload X295.here hx rfl (hb hby at_356) rfl rfl ?_
                  show oP p e below T295 (mkF m 358 #[oI p0, oI p1, oI p2, oI p3, oI p4, oI sc, oI sa, oI sb, oI si, oI (0 : Int32), oI a0c, oI a1c, oI u, oI b0c, oI b1c, oI jd, oR b41, oR b265, oR b280, oR b288, oI (1 : Int32), oI (0 : Int32)] [(.ref b280)]) _
                  refine XS.aload X295.here hx rfl (hb hby at_358) rfl rfl ?_
                  show oP p e below T295 (mkF m 360 #[oI p0, oI p1, oI p2, oI p3, oI p4, oI sc, oI sa, oI sb, oI si, oI (0 : Int32), oI a0c, oI a1c, oI u, oI b0c, oI b1c, oI jd, oR b41, oR b265, oR b280, oR b288, oI (1 : Int32), oI (0 : Int32)] [(.ref b288), (.ref b280)]) _
                  refine st338.trans ?_
                  show oP p e below T338 (mkF m 363 #[oI p0, oI p1, oI p2, oI p3, oI p4, oI sc, oI sa, oI sb, oI si, oI (0 : Int32), oI a0c, oI a1c, oI u, oI b0c, oI b1c, oI jd, oR b41, oR b265, oR b280, oR b288, oI (1 : Int32), oI (0 : Int32)] [(.int (fn8q Z b280 b288 b41 b265 p2 jd t45 kt45 ([a0c, a1c] : List Int32) t272 kt272 ([b0c] : List Int32)))]) _
                  refine XS.iload X338.here hx rfl (hb hby at_363) rfl ?_
                  exact k)
                by_cases hc350 : (fn8q Z b280 b288 b41 b265 p2 jd t45 kt45 ([a0c, a1c] : List Int32) t272 kt272 ([b0c] : List Int32)) = (0 : Int32)
                · have fx351 := (po295_0.keep K338q)
                  have fx353 := (po295_1.keep K338q nin0)
                  have fx354 := (fx339.keep K338q nin0)
                  have fx355 := (po295_2.keep K338q nin0)
                  have fx356 := (fx340.keep K338q nin0)
                  have fx357 := (fx343.keep K338q nin0)
                  have fx358 := (fx344.keep K338q nin0)
                  have fx359 := (fx341.keep K338q nin0)
                  have fx360 := (fx342.keep K338q nin0)
                  have fx361 := (fx337.keep K338q)
                  have fx362 := (fx347.keep K338q)
                  have fx363 := (fx348.keep K338q nin0)
                  have fx364 := (fx345.keep K338q)
                  have fx365 := (fx346.keep K338q nin0)
                  obtain ⟨cq352, kq352, q352a, q352b, q352c⟩ := isOf hZ rfl fx351
                  obtain ⟨_, _, ⟨T352, L352, k352, n352⟩, -, X352, ⟨Lc352, hQ352, l352, y352, z352⟩, st352⟩ := X338.virtualBack hx (y := (⟨"com/example/narada/narada/store/QueueKey", "equals", "(Ljava/lang/Object;)Z"⟩ : MethodName)) (z := (⟨"com/example/narada/narada/store/QueueKey", "equals", "(Ljava/lang/Object;)Z"⟩ : MethodName)) hown (mvT hZ (hw _ (List.mem_of_getElem? (i := 41) rfl))) (mvT hZ (hw _ (List.mem_of_getElem? (i := 42) rfl))) (notFace_of_selects (args := #[]) (mvT hZ (hw _ (List.mem_of_getElem? (i := 44) rfl)))) (mvT hZ (hw _ (List.mem_of_getElem? (i := 44) rfl))) (mvT hZ (hw _ (List.mem_of_getElem? (i := 43) rfl))) (by decide) (backOf (W := 0) (rm8q l Z a0 hw hS [] b288 b280 b265 b41 jd p2 t272 kt272 ([b0c] : List Int32) t45 kt45 ([a0c, a1c] : List Int32) T338.heap n0 O338 fx361 fx353 fx354 fx355 fx356 fx362 fx363 fx357 fx358 hp276 (Nat.le_of_ble_eq_true rfl) fx364 fx365 fx359 fx360 hp49 (Nat.le_of_ble_eq_true rfl)) hZ (hw _ (List.mem_of_getElem? (i := 45) rfl)) (hw _ (List.mem_of_getElem? (i := 32) rfl)) (by decide) (by decide)) q352a q352c (g := (mkF m 372 #[oI p0, oI p1, oI p2, oI p3, oI p4, oI sc, oI sa, oI sb, oI si, oI (0 : Int32), oI a0c, oI a1c, oI u, oI b0c, oI b1c, oI jd, oR b41, oR b265, oR b280, oR b288, oI (1 : Int32), oI (0 : Int32)] [(.ref b280), (.ref b288)])) rfl (by rw [hml]; rfl) (Steps.refl _) (argsL := [(.ref b280)]) (rest := []) (lenOf pd_0 rfl) rfl (by show 2 * 0 + _ ≤ _; exact Nat.le_of_eq rfl) (hb hby at_372) (fun _ _ => ⟨rfl, rfl, (by decide : 8 + 0 ≤ _), (by decide : 18 + 0 ≤ _)⟩)
                  dsimp only [Pt.U, Pt.locs, Pt.cells, Pt.slots] at X352 l352 y352 z352 st352 hQ352
                  subst l352 y352 z352
                  obtain ⟨v352, N352q, K352q⟩ := hQ352
                  subst v352
                  have N352 := Fr.app N338 N352q
                  have O352 := O338.keep K352q all0
                  have Kc352 := Kc338.trans K352q all0
                  have pre366 : ∀ t, oP p e below T352 (mkF m 377 #[oI p0, oI p1, oI p2, oI p3, oI p4, oI sc, oI sa, oI sb, oI si, oI (0 : Int32), oI a0c, oI a1c, oI u, oI b0c, oI b1c, oI jd, oR b41, oR b265, oR b280, oR b288, oI (1 : Int32), oI (0 : Int32)] [(.int (0 : Int32)), (.int (fn8q Z b288 b280 b265 b41 jd p2 t272 kt272 ([b0c] : List Int32) t45 kt45 ([a0c, a1c] : List Int32)))]) t → oP p e below s₁ (entryFrame m #[(.int p0), (.int p1), (.int p2), (.int p3), (.int p4)] maxLocals) t := fun t k => pre349 t (by
                    show oP p e below T338 (mkF m 365 #[oI p0, oI p1, oI p2, oI p3, oI p4, oI sc, oI sa, oI sb, oI si, oI (0 : Int32), oI a0c, oI a1c, oI u, oI b0c, oI b1c, oI jd, oR b41, oR b265, oR b280, oR b288, oI (1 : Int32), oI (0 : Int32)] [(.int (0 : Int32)), (.int (fn8q Z b280 b288 b41 b265 p2 jd t45 kt45 ([a0c, a1c] : List Int32) t272 kt272 ([b0c] : List Int32)))]) _
                    refine XS.icmpNo X338.here hx rfl (hb hby at_365) rfl (teq hc350).2 ?_
                    show oP p e below T338 (mkF m 368 #[oI p0, oI p1, oI p2, oI p3, oI p4, oI sc, oI sa, oI sb, oI si, oI (0 : Int32), oI a0c, oI a1c, oI u, oI b0c, oI b1c, oI jd, oR b41, oR b265, oR b280, oR b288, oI (1 : Int32), oI (0 : Int32)] []) _
                    refine XS.aload X338.here hx rfl (hb hby at_368) rfl rfl ?_
                    show oP p e below T338 (mkF m 370 #[oI p0, oI p1, oI p2, oI p3, oI p4, oI sc, oI sa, oI sb, oI si, oI (0 : Int32), oI a0c, oI a1c, oI u, oI b0c, oI b1c, oI jd, oR b41, oR b265, oR b280, oR b288, oI (1 : Int32), oI (0 : Int32)] [(.ref b288)]) _
                    refine XS.aload X338.here hx rfl (hb hby at_370) rfl rfl ?_
                    show oP p e below T338 (mkF m 372 #[oI p0, oI p1, oI p2, oI p3, oI p4, oI sc, oI sa, oI sb, oI si, oI (0 : Int32), oI a0c, oI a1c, oI u, oI b0c, oI b1c, oI jd, oR b41, oR b265, oR b280, oR b288, oI (1 : Int32), oI (0 : Int32)] [(.ref b280), (.ref b288)]) _
                    refine st352.trans ?_
                    show oP p e below T352 (mkF m 375 #[oI p0, oI p1, oI p2, oI p3, oI p4, oI sc, oI sa, oI sb, oI si, oI (0 : Int32), oI a0c, oI a1c, oI u, oI b0c, oI b1c, oI jd, oR b41, oR b265, oR b280, oR b288, oI (1 : Int32), oI (0 : Int32)] [(.int (fn8q Z b288 b280 b265 b41 jd p2 t272 kt272 ([b0c] : List Int32) t45 kt45 ([a0c, a1c] : List Int32)))]) _
                    refine XS.iload X352.here hx rfl (hb hby at_375) rfl ?_
                    exact k)
                  by_cases hc367 : (fn8q Z b288 b280 b265 b41 jd p2 t272 kt272 ([b0c] : List Int32) t45 kt45 ([a0c, a1c] : List Int32)) = (0 : Int32)
                  · obtain ⟨fs, hr, hrun, hended, hW, hsame⟩ := X352.leave (v := some (.int (1 : Int32))) (fun h => by rw [Bd.returns] at h; cases h)
                    refine ⟨_, _, pre366 _ ?_, hrun, hended, _, _, rfl, ?_, ⟨_, rfl⟩, hW, hsame.mono (by decide) (by decide)⟩
                    · show oP p e below T352 (mkF m 377 #[oI p0, oI p1, oI p2, oI p3, oI p4, oI sc, oI sa, oI sb, oI si, oI (0 : Int32), oI a0c, oI a1c, oI u, oI b0c, oI b1c, oI jd, oR b41, oR b265, oR b280, oR b288, oI (1 : Int32), oI (0 : Int32)] [(.int (0 : Int32)), (.int (fn8q Z b288 b280 b265 b41 jd p2 t272 kt272 ([b0c] : List Int32) t45 kt45 ([a0c, a1c] : List Int32)))]) _
                      refine XS.icmpNo X352.here hx rfl (hb hby at_377) rfl (teq hc367).2 ?_
                      show oP p e below T352 (mkF m 380 #[oI p0, oI p1, oI p2, oI p3, oI p4, oI sc, oI sa, oI sb, oI si, oI (0 : Int32), oI a0c, oI a1c, oI u, oI b0c, oI b1c, oI jd, oR b41, oR b265, oR b280, oR b288, oI (1 : Int32), oI (0 : Int32)] []) _
                      refine XS.iconst X352.here hx rfl (hb hby at_380) ?_
                      show oP p e below T352 (mkF m 381 #[oI p0, oI p1, oI p2, oI p3, oI p4, oI sc, oI sa, oI sb, oI si, oI (0 : Int32), oI a0c, oI a1c, oI u, oI b0c, oI b1c, oI jd, oR b41, oR b265, oR b280, oR b288, oI (1 : Int32), oI (0 : Int32)] [(.int (1 : Int32))]) _
                      refine XS.goto X352.here hx rfl (pc0 := 381) (pc' := 385) rfl (hb hby at_381) (by decide) (by decide) ?_
                      show oP p e below T352 (mkF m 385 #[oI p0, oI p1, oI p2, oI p3, oI p4, oI sc, oI sa, oI sb, oI si, oI (0 : Int32), oI a0c, oI a1c, oI u, oI b0c, oI b1c, oI jd, oR b41, oR b265, oR b280, oR b288, oI (1 : Int32), oI (0 : Int32)] [(.int (1 : Int32))]) _
                      exact retN X352 hx (t := .boolean) Bd.returns (by simp) (hb hby at_385) hr
                    · show (some (.int (1 : Int32)) : Option Value) = some (.int (1 : Int32)) ∧ Fr n0 _ ∧ Keep h0 T352.heap []
                      exact ⟨rfl, N352, Kc352⟩
                  · exfalso
                    exact ab368 hS p2 sa sb a0c a1c b0c b1c jd rsa rsb hc40 hc51 hc297 hc299 hc301 hc303 hc350 hc367
                · exfalso
                  exact ab369 hS p2 sa sb a0c a1c b0c b1c jd rsa rsb hc40 hc51 hc297 hc299 hc301 hc303 hc350
            · have fx370 := ((po286_0.ext E288).keep K295q)
              have fx372 := ((po286_1.ext E288).keep K295q (ninS ne_b280_b288 nin0))
              have fx373 := ((po286_2.ext E288).keep K295q (ninS ne_b280_b288 nin0))
              have fx374 := ((((((((pV45.ext E265).ext E267).other W271 (Or.inl ne_b41_b267)).keep K272q (ninS ne_b41_b265 nin0)).ext E280).keep K286q (ninS ne_b41_b280 nin0)).ext E288).keep K295q (ninS ne_b41_b288 nin0))
              have fx375 := ((fx291.ext E288).keep K295q (ninS ne_t45_b288 nin0))
              have fx376 := ((((pV272.ext E280).keep K286q (ninS ne_b265_b280 nin0)).ext E288).keep K295q (ninS ne_b265_b288 nin0))
              have fx377 := ((fx294.ext E288).keep K295q (ninS ne_t272_b288 nin0))
              have fx378 := ((fx289.ext E288).keep K295q)
              have fx379 := ((((((((pC45.ext E265).ext E267).other W271 (Or.inl ne_b41_b267)).keep K272q (ninS ne_b41_b265 nin0)).ext E280).keep K286q (ninS ne_b41_b280 nin0)).ext E288).keep K295q (ninS ne_b41_b288 nin0))
              have fx380 := ((fx292.ext E288).keep K295q)
              have fx381 := ((((pC272.ext E280).keep K286q (ninS ne_b265_b280 nin0)).ext E288).keep K295q (ninS ne_b265_b288 nin0))
              obtain ⟨cq371, kq371, q371a, q371b, q371c⟩ := isOf hZ rfl fx370
              obtain ⟨_, _, ⟨T371, L371, k371, n371⟩, -, X371, ⟨Lc371, hQ371, l371, y371, z371⟩, st371⟩ := X295.virtualBack hx (y := (⟨"com/example/narada/narada/store/QueueKey", "equals", "(Ljava/lang/Object;)Z"⟩ : MethodName)) (z := (⟨"com/example/narada/narada/store/QueueKey", "equals", "(Ljava/lang/Object;)Z"⟩ : MethodName)) hown (mvT hZ (hw _ (List.mem_of_getElem? (i := 41) rfl))) (mvT hZ (hw _ (List.mem_of_getElem? (i := 42) rfl))) (notFace_of_selects (args := #[]) (mvT hZ (hw _ (List.mem_of_getElem? (i := 44) rfl)))) (mvT hZ (hw _ (List.mem_of_getElem? (i := 44) rfl))) (mvT hZ (hw _ (List.mem_of_getElem? (i := 43) rfl))) (by decide) (backOf (W := 0) (rm8q l Z a0 hw hS [] b280 b288 b41 b265 p2 jd t45 kt45 ([a0c, a1c] : List Int32) t272 kt272 ([b0c] : List Int32) T295.heap n0 O295 po295_0 fx372 po295_1 fx373 po295_2 fx378 fx379 fx374 fx375 hp49 (Nat.le_of_ble_eq_true rfl) fx380 fx381 fx376 fx377 hp276 (Nat.le_of_ble_eq_true rfl)) hZ (hw _ (List.mem_of_getElem? (i := 45) rfl)) (hw _ (List.mem_of_getElem? (i := 32) rfl)) (by decide) (by decide)) q371a q371c (g := (mkF m 360 #[oI p0, oI p1, oI p2, oI p3, oI p4, oI sc, oI sa, oI sb, oI si, oI (0 : Int32), oI a0c, oI a1c, oI u, oI b0c, oI b1c, oI jd, oR b41, oR b265, oR b280, oR b288, oI (0 : Int32), oI (0 : Int32)] [(.ref b288), (.ref b280)])) rfl (by rw [hml]; rfl) (Steps.refl _) (argsL := [(.ref b288)]) (rest := []) (lenOf pd_0 rfl) rfl (by show 2 * 0 + _ ≤ _; exact Nat.le_of_eq rfl) (hb hby at_360) (fun _ _ => ⟨rfl, rfl, (by decide : 8 + 0 ≤ _), (by decide : 18 + 0 ≤ _)⟩)
              dsimp only [Pt.U, Pt.locs, Pt.cells, Pt.slots] at X371 l371 y371 z371 st371 hQ371
              subst l371 y371 z371
              obtain ⟨v371, N371q, K371q⟩ := hQ371
              subst v371
              have N371 := Fr.app N295 N371q
              have O371 := O295.keep K371q all0
              have Kc371 := Kc295.trans K371q all0
              have pre382 : ∀ t, oP p e below T371 (mkF m 365 #[oI p0, oI p1, oI p2, oI p3, oI p4, oI sc, oI sa, oI sb, oI si, oI (0 : Int32), oI a0c, oI a1c, oI u, oI b0c, oI b1c, oI jd, oR b41, oR b265, oR b280, oR b288, oI (0 : Int32), oI (0 : Int32)] [(.int (0 : Int32)), (.int (fn8q Z b280 b288 b41 b265 p2 jd t45 kt45 ([a0c, a1c] : List Int32) t272 kt272 ([b0c] : List Int32)))]) t → oP p e below s₁ (entryFrame m #[(.int p0), (.int p1), (.int p2), (.int p3), (.int p4)] maxLocals) t := fun t k => pre300 t (by
                show oP p e below T295 (mkF m 328 #[oI p0, oI p1, oI p2, oI p3, oI p4, oI sc, oI sa, oI sb, oI si, oI (0 : Int32), oI a0c, oI a1c, oI u, oI b0c, oI b1c, oI jd, oR b41, oR b265, oR b280, oR b288, oU, oU] [(.int b1c), (.int a1c)]) _
                refine XS.icmpYes X295.here hx rfl (pc0 := 328) (pc' := 335) rfl (hb hby at_328) rfl (feq hc301).2 (by decide) (by decide) ?_
                show oP p e below T295 (mkF m 335 #[oI p0, oI p1, oI p2, oI p3, oI p4, oI sc, oI sa, oI sb, oI si, oI (0 : Int32), oI a0c, oI a1c, oI u, oI b0c, oI b1c, oI jd, oR b41, oR b265, oR b280, oR b288, oU, oU] []) _
                refine XS.iconst X295.here hx rfl (hb hby at_335) ?_
                show oP p e below T295 (mkF m 336 #[oI p0, oI p1, oI p2, oI p3, oI p4, oI sc, oI sa, oI sb, oI si, oI (0 : Int32), oI a0c, oI a1c, oI u, oI b0c, oI b1c, oI jd, oR b41, oR b265, oR b280, oR b288, oU, oU] [(.int (0 : Int32))]) _
                refine XS.istore X295.here hx rfl (hb hby at_336) rfl (l' := #[oI p0, oI p1, oI p2, oI p3, oI p4, oI sc, oI sa, oI sb, oI si, oI (0 : Int32), oI a0c, oI a1c, oI u, oI b0c, oI b1c, oI jd, oR b41, oR b265, oR b280, oR b288, oI (0 : Int32), oU]) rfl ?_
                show oP p e below T295 (mkF m 338 #[oI p0, oI p1, oI p2, oI p3, oI p4, oI sc, oI sa, oI sb, oI si, oI (0 : Int32), oI a0c, oI a1c, oI u, oI b0c, oI b1c, oI jd, oR b41, oR b265, oR b280, oR b288, oI (0 : Int32), oU] []) _
                refine XS.iload X295.here hx rfl (hb hby at_338) rfl ?_
                show oP p e below T295 (mkF m 340 #[oI p0, oI p1, oI p2, oI p3, oI p4, oI sc, oI sa, oI sb, oI si, oI (0 : Int32), oI a0c, oI a1c, oI u, oI b0c, oI b1c, oI jd, oR b41, oR b265, oR b280, oR b288, oI (0 : Int32), oU] [(.int (0 : Int32))]) _
                refine XS.ifYes X295.here hx rfl (pc0 := 340) (pc' := 353) rfl (hb hby at_340) rfl ((if0 _ _).trans (teq (by decide : (0 : Int32) = (0 : Int32))).1) (by decide) (by decide) ?_
                show oP p e below T295 (mkF m 353 #[oI p0, oI p1, oI p2, oI p3, oI p4, oI sc, oI sa, oI sb, oI si, oI (0 : Int32), oI a0c, oI a1c, oI u, oI b0c, oI b1c, oI jd, oR b41, oR b265, oR b280, oR b288, oI (0 : Int32), oU] []) _
                refine XS.iconst X295.here hx rfl (hb hby at_353) ?_
                show oP p e below T295 (mkF m 354 #[oI p0, oI p1, oI p2, oI p3, oI p4, oI sc, oI sa, oI sb, oI si, oI (0 : Int32), oI a0c, oI a1c, oI u, oI b0c, oI b1c, oI jd, oR b41, oR b265, oR b280, oR b288, oI (0 : Int32), oU] [(.int (0 : Int32))]) _
                refine XS.istore X295.here hx rfl (hb hby at_354) rfl (l' := #[oI p0, oI p1, oI p2, oI p3, oI p4, oI sc, oI sa, oI sb, oI si, oI (0 : Int32), oI a0c, oI a1c, oI u, oI b0c, oI b1c, oI jd, oR b41, oR b265, oR b280, oR b288, oI (0 : Int32), oI (0 : Int32)]) rfl ?_
                show oP p e below T295 (mkF m 356 #[oI p0, oI p1, oI p2, oI p3, oI p4, oI sc, oI sa, oI sb, oI si, oI (0 : Int32), oI a0c, oI a1c, oI u, oI b0c, oI b1c, oI jd, oR b41, oR b265, oR b280, oR b288, oI (0 : Int32), oI (0 : Int32)] []) _
                refine XS.aload X295.here hx rfl (hb hby at_356) rfl rfl ?_
                show oP p e below T295 (mkF m 358 #[oI p0, oI p1, oI p2, oI p3, oI p4, oI sc, oI sa, oI sb, oI si, oI (0 : Int32), oI a0c, oI a1c, oI u, oI b0c, oI b1c, oI jd, oR b41, oR b265, oR b280, oR b288, oI (0 : Int32), oI (0 : Int32)] [(.ref b280)]) _
                refine XS.aload X295.here hx rfl (hb hby at_358) rfl rfl ?_
                show oP p e below T295 (mkF m 360 #[oI p0, oI p1, oI p2, oI p3, oI p4, oI sc, oI sa, oI sb, oI si, oI (0 : Int32), oI a0c, oI a1c, oI u, oI b0c, oI b1c, oI jd, oR b41, oR b265, oR b280, oR b288, oI (0 : Int32), oI (0 : Int32)] [(.ref b288), (.ref b280)]) _
                refine st371.trans ?_
                show oP p e below T371 (mkF m 363 #[oI p0, oI p1, oI p2, oI p3, oI p4, oI sc, oI sa, oI sb, oI si, oI (0 : Int32), oI a0c, oI a1c, oI u, oI b0c, oI b1c, oI jd, oR b41, oR b265, oR b280, oR b288, oI (0 : Int32), oI (0 : Int32)] [(.int (fn8q Z b280 b288 b41 b265 p2 jd t45 kt45 ([a0c, a1c] : List Int32) t272 kt272 ([b0c] : List Int32)))]) _
                refine XS.iload X371.here hx rfl (hb hby at_363) rfl ?_
                exact k)
              by_cases hc383 : (fn8q Z b280 b288 b41 b265 p2 jd t45 kt45 ([a0c, a1c] : List Int32) t272 kt272 ([b0c] : List Int32)) = (0 : Int32)
              · have fx384 := (po295_0.keep K371q)
                have fx386 := (po295_1.keep K371q nin0)
                have fx387 := (fx372.keep K371q nin0)
                have fx388 := (po295_2.keep K371q nin0)
                have fx389 := (fx373.keep K371q nin0)
                have fx390 := (fx376.keep K371q nin0)
                have fx391 := (fx377.keep K371q nin0)
                have fx392 := (fx374.keep K371q nin0)
                have fx393 := (fx375.keep K371q nin0)
                have fx394 := (fx370.keep K371q)
                have fx395 := (fx380.keep K371q)
                have fx396 := (fx381.keep K371q nin0)
                have fx397 := (fx378.keep K371q)
                have fx398 := (fx379.keep K371q nin0)
                obtain ⟨cq385, kq385, q385a, q385b, q385c⟩ := isOf hZ rfl fx384
                obtain ⟨_, _, ⟨T385, L385, k385, n385⟩, -, X385, ⟨Lc385, hQ385, l385, y385, z385⟩, st385⟩ := X371.virtualBack hx (y := (⟨"com/example/narada/narada/store/QueueKey", "equals", "(Ljava/lang/Object;)Z"⟩ : MethodName)) (z := (⟨"com/example/narada/narada/store/QueueKey", "equals", "(Ljava/lang/Object;)Z"⟩ : MethodName)) hown (mvT hZ (hw _ (List.mem_of_getElem? (i := 41) rfl))) (mvT hZ (hw _ (List.mem_of_getElem? (i := 42) rfl))) (notFace_of_selects (args := #[]) (mvT hZ (hw _ (List.mem_of_getElem? (i := 44) rfl)))) (mvT hZ (hw _ (List.mem_of_getElem? (i := 44) rfl))) (mvT hZ (hw _ (List.mem_of_getElem? (i := 43) rfl))) (by decide) (backOf (W := 0) (rm8q l Z a0 hw hS [] b288 b280 b265 b41 jd p2 t272 kt272 ([b0c] : List Int32) t45 kt45 ([a0c, a1c] : List Int32) T371.heap n0 O371 fx394 fx386 fx387 fx388 fx389 fx395 fx396 fx390 fx391 hp276 (Nat.le_of_ble_eq_true rfl) fx397 fx398 fx392 fx393 hp49 (Nat.le_of_ble_eq_true rfl)) hZ (hw _ (List.mem_of_getElem? (i := 45) rfl)) (hw _ (List.mem_of_getElem? (i := 32) rfl)) (by decide) (by decide)) q385a q385c (g := (mkF m 372 #[oI p0, oI p1, oI p2, oI p3, oI p4, oI sc, oI sa, oI sb, oI si, oI (0 : Int32), oI a0c, oI a1c, oI u, oI b0c, oI b1c, oI jd, oR b41, oR b265, oR b280, oR b288, oI (0 : Int32), oI (0 : Int32)] [(.ref b280), (.ref b288)])) rfl (by rw [hml]; rfl) (Steps.refl _) (argsL := [(.ref b280)]) (rest := []) (lenOf pd_0 rfl) rfl (by show 2 * 0 + _ ≤ _; exact Nat.le_of_eq rfl) (hb hby at_372) (fun _ _ => ⟨rfl, rfl, (by decide : 8 + 0 ≤ _), (by decide : 18 + 0 ≤ _)⟩)
                dsimp only [Pt.U, Pt.locs, Pt.cells, Pt.slots] at X385 l385 y385 z385 st385 hQ385
                subst l385 y385 z385
                obtain ⟨v385, N385q, K385q⟩ := hQ385
                subst v385
                have N385 := Fr.app N371 N385q
                have O385 := O371.keep K385q all0
                have Kc385 := Kc371.trans K385q all0
                have pre399 : ∀ t, oP p e below T385 (mkF m 377 #[oI p0, oI p1, oI p2, oI p3, oI p4, oI sc, oI sa, oI sb, oI si, oI (0 : Int32), oI a0c, oI a1c, oI u, oI b0c, oI b1c, oI jd, oR b41, oR b265, oR b280, oR b288, oI (0 : Int32), oI (0 : Int32)] [(.int (0 : Int32)), (.int (fn8q Z b288 b280 b265 b41 jd p2 t272 kt272 ([b0c] : List Int32) t45 kt45 ([a0c, a1c] : List Int32)))]) t → oP p e below s₁ (entryFrame m #[(.int p0), (.int p1), (.int p2), (.int p3), (.int p4)] maxLocals) t := fun t k => pre382 t (by
                  show oP p e below T371 (mkF m 365 #[oI p0, oI p1, oI p2, oI p3, oI p4, oI sc, oI sa, oI sb, oI si, oI (0 : Int32), oI a0c, oI a1c, oI u, oI b0c, oI b1c, oI jd, oR b41, oR b265, oR b280, oR b288, oI (0 : Int32), oI (0 : Int32)] [(.int (0 : Int32)), (.int (fn8q Z b280 b288 b41 b265 p2 jd t45 kt45 ([a0c, a1c] : List Int32) t272 kt272 ([b0c] : List Int32)))]) _
                  refine XS.icmpNo X371.here hx rfl (hb hby at_365) rfl (teq hc383).2 ?_
                  show oP p e below T371 (mkF m 368 #[oI p0, oI p1, oI p2, oI p3, oI p4, oI sc, oI sa, oI sb, oI si, oI (0 : Int32), oI a0c, oI a1c, oI u, oI b0c, oI b1c, oI jd, oR b41, oR b265, oR b280, oR b288, oI (0 : Int32), oI (0 : Int32)] []) _
                  refine XS.aload X371.here hx rfl (hb hby at_368) rfl rfl ?_
                  show oP p e below T371 (mkF m 370 #[oI p0, oI p1, oI p2, oI p3, oI p4, oI sc, oI sa, oI sb, oI si, oI (0 : Int32), oI a0c, oI a1c, oI u, oI b0c, oI b1c, oI jd, oR b41, oR b265, oR b280, oR b288, oI (0 : Int32), oI (0 : Int32)] [(.ref b288)]) _
                  refine XS.aload X371.here hx rfl (hb hby at_370) rfl rfl ?_
                  show oP p e below T371 (mkF m 372 #[oI p0, oI p1, oI p2, oI p3, oI p4, oI sc, oI sa, oI sb, oI si, oI (0 : Int32), oI a0c, oI a1c, oI u, oI b0c, oI b1c, oI jd, oR b41, oR b265, oR b280, oR b288, oI (0 : Int32), oI (0 : Int32)] [(.ref b280), (.ref b288)]) _
                  refine st385.trans ?_
                  show oP p e below T385 (mkF m 375 #[oI p0, oI p1, oI p2, oI p3, oI p4, oI sc, oI sa, oI sb, oI si, oI (0 : Int32), oI a0c, oI a1c, oI u, oI b0c, oI b1c, oI jd, oR b41, oR b265, oR b280, oR b288, oI (0 : Int32), oI (0 : Int32)] [(.int (fn8q Z b288 b280 b265 b41 jd p2 t272 kt272 ([b0c] : List Int32) t45 kt45 ([a0c, a1c] : List Int32)))]) _
                  refine XS.iload X385.here hx rfl (hb hby at_375) rfl ?_
                  exact k)
                by_cases hc400 : (fn8q Z b288 b280 b265 b41 jd p2 t272 kt272 ([b0c] : List Int32) t45 kt45 ([a0c, a1c] : List Int32)) = (0 : Int32)
                · obtain ⟨fs, hr, hrun, hended, hW, hsame⟩ := X385.leave (v := some (.int (1 : Int32))) (fun h => by rw [Bd.returns] at h; cases h)
                  refine ⟨_, _, pre399 _ ?_, hrun, hended, _, _, rfl, ?_, ⟨_, rfl⟩, hW, hsame.mono (by decide) (by decide)⟩
                  · show oP p e below T385 (mkF m 377 #[oI p0, oI p1, oI p2, oI p3, oI p4, oI sc, oI sa, oI sb, oI si, oI (0 : Int32), oI a0c, oI a1c, oI u, oI b0c, oI b1c, oI jd, oR b41, oR b265, oR b280, oR b288, oI (0 : Int32), oI (0 : Int32)] [(.int (0 : Int32)), (.int (fn8q Z b288 b280 b265 b41 jd p2 t272 kt272 ([b0c] : List Int32) t45 kt45 ([a0c, a1c] : List Int32)))]) _
                    refine XS.icmpNo X385.here hx rfl (hb hby at_377) rfl (teq hc400).2 ?_
                    show oP p e below T385 (mkF m 380 #[oI p0, oI p1, oI p2, oI p3, oI p4, oI sc, oI sa, oI sb, oI si, oI (0 : Int32), oI a0c, oI a1c, oI u, oI b0c, oI b1c, oI jd, oR b41, oR b265, oR b280, oR b288, oI (0 : Int32), oI (0 : Int32)] []) _
                    refine XS.iconst X385.here hx rfl (hb hby at_380) ?_
                    show oP p e below T385 (mkF m 381 #[oI p0, oI p1, oI p2, oI p3, oI p4, oI sc, oI sa, oI sb, oI si, oI (0 : Int32), oI a0c, oI a1c, oI u, oI b0c, oI b1c, oI jd, oR b41, oR b265, oR b280, oR b288, oI (0 : Int32), oI (0 : Int32)] [(.int (1 : Int32))]) _
                    refine XS.goto X385.here hx rfl (pc0 := 381) (pc' := 385) rfl (hb hby at_381) (by decide) (by decide) ?_
                    show oP p e below T385 (mkF m 385 #[oI p0, oI p1, oI p2, oI p3, oI p4, oI sc, oI sa, oI sb, oI si, oI (0 : Int32), oI a0c, oI a1c, oI u, oI b0c, oI b1c, oI jd, oR b41, oR b265, oR b280, oR b288, oI (0 : Int32), oI (0 : Int32)] [(.int (1 : Int32))]) _
                    exact retN X385 hx (t := .boolean) Bd.returns (by simp) (hb hby at_385) hr
                  · show (some (.int (1 : Int32)) : Option Value) = some (.int (1 : Int32)) ∧ Fr n0 _ ∧ Keep h0 T385.heap []
                    exact ⟨rfl, N385, Kc385⟩
                · exfalso
                  exact ab401 hS p2 sa sb a0c a1c b0c b1c jd rsa rsb hc40 hc51 hc297 hc299 hc301 hc383 hc400
              · exfalso
                exact ab402 hS p2 sa sb a0c a1c b0c b1c jd rsa rsb hc40 hc51 hc297 hc299 hc301 hc383
          · have fx403 := ((po286_0.ext E288).keep K295q)
            have fx405 := ((po286_1.ext E288).keep K295q (ninS ne_b280_b288 nin0))
            have fx406 := ((po286_2.ext E288).keep K295q (ninS ne_b280_b288 nin0))
            have fx407 := ((((((((pV45.ext E265).ext E267).other W271 (Or.inl ne_b41_b267)).keep K272q (ninS ne_b41_b265 nin0)).ext E280).keep K286q (ninS ne_b41_b280 nin0)).ext E288).keep K295q (ninS ne_b41_b288 nin0))
            have fx408 := ((fx291.ext E288).keep K295q (ninS ne_t45_b288 nin0))
            have fx409 := ((((pV272.ext E280).keep K286q (ninS ne_b265_b280 nin0)).ext E288).keep K295q (ninS ne_b265_b288 nin0))
            have fx410 := ((fx294.ext E288).keep K295q (ninS ne_t272_b288 nin0))
            have fx411 := ((fx289.ext E288).keep K295q)
            have fx412 := ((((((((pC45.ext E265).ext E267).other W271 (Or.inl ne_b41_b267)).keep K272q (ninS ne_b41_b265 nin0)).ext E280).keep K286q (ninS ne_b41_b280 nin0)).ext E288).keep K295q (ninS ne_b41_b288 nin0))
            have fx413 := ((fx292.ext E288).keep K295q)
            have fx414 := ((((pC272.ext E280).keep K286q (ninS ne_b265_b280 nin0)).ext E288).keep K295q (ninS ne_b265_b288 nin0))
            obtain ⟨cq404, kq404, q404a, q404b, q404c⟩ := isOf hZ rfl fx403
            obtain ⟨_, _, ⟨T404, L404, k404, n404⟩, -, X404, ⟨Lc404, hQ404, l404, y404, z404⟩, st404⟩ := X295.virtualBack hx (y := (⟨"com/example/narada/narada/store/QueueKey", "equals", "(Ljava/lang/Object;)Z"⟩ : MethodName)) (z := (⟨"com/example/narada/narada/store/QueueKey", "equals", "(Ljava/lang/Object;)Z"⟩ : MethodName)) hown (mvT hZ (hw _ (List.mem_of_getElem? (i := 41) rfl))) (mvT hZ (hw _ (List.mem_of_getElem? (i := 42) rfl))) (notFace_of_selects (args := #[]) (mvT hZ (hw _ (List.mem_of_getElem? (i := 44) rfl)))) (mvT hZ (hw _ (List.mem_of_getElem? (i := 44) rfl))) (mvT hZ (hw _ (List.mem_of_getElem? (i := 43) rfl))) (by decide) (backOf (W := 0) (rm8q l Z a0 hw hS [] b280 b288 b41 b265 p2 jd t45 kt45 ([a0c, a1c] : List Int32) t272 kt272 ([b0c] : List Int32) T295.heap n0 O295 po295_0 fx405 po295_1 fx406 po295_2 fx411 fx412 fx407 fx408 hp49 (Nat.le_of_ble_eq_true rfl) fx413 fx414 fx409 fx410 hp276 (Nat.le_of_ble_eq_true rfl)) hZ (hw _ (List.mem_of_getElem? (i := 45) rfl)) (hw _ (List.mem_of_getElem? (i := 32) rfl)) (by decide) (by decide)) q404a q404c (g := (mkF m 360 #[oI p0, oI p1, oI p2, oI p3, oI p4, oI sc, oI sa, oI sb, oI si, oI (0 : Int32), oI a0c, oI a1c, oI u, oI b0c, oI b1c, oI jd, oR b41, oR b265, oR b280, oR b288, oI (0 : Int32), oI (0 : Int32)] [(.ref b288), (.ref b280)])) rfl (by rw [hml]; rfl) (Steps.refl _) (argsL := [(.ref b288)]) (rest := []) (lenOf pd_0 rfl) rfl (by show 2 * 0 + _ ≤ _; exact Nat.le_of_eq rfl) (hb hby at_360) (fun _ _ => ⟨rfl, rfl, (by decide : 8 + 0 ≤ _), (by decide : 18 + 0 ≤ _)⟩)
            dsimp only [Pt.U, Pt.locs, Pt.cells, Pt.slots] at X404 l404 y404 z404 st404 hQ404
            subst l404 y404 z404
            obtain ⟨v404, N404q, K404q⟩ := hQ404
            subst v404
            have N404 := Fr.app N295 N404q
            have O404 := O295.keep K404q all0
            have Kc404 := Kc295.trans K404q all0
            have pre415 : ∀ t, oP p e below T404 (mkF m 365 #[oI p0, oI p1, oI p2, oI p3, oI p4, oI sc, oI sa, oI sb, oI si, oI (0 : Int32), oI a0c, oI a1c, oI u, oI b0c, oI b1c, oI jd, oR b41, oR b265, oR b280, oR b288, oI (0 : Int32), oI (0 : Int32)] [(.int (0 : Int32)), (.int (fn8q Z b280 b288 b41 b265 p2 jd t45 kt45 ([a0c, a1c] : List Int32) t272 kt272 ([b0c] : List Int32)))]) t → oP p e below s₁ (entryFrame m #[(.int p0), (.int p1), (.int p2), (.int p3), (.int p4)] maxLocals) t := fun t k => pre298 t (by
              show oP p e below T295 (mkF m 316 #[oI p0, oI p1, oI p2, oI p3, oI p4, oI sc, oI sa, oI sb, oI si, oI (0 : Int32), oI a0c, oI a1c, oI u, oI b0c, oI b1c, oI jd, oR b41, oR b265, oR b280, oR b288, oU, oU] [(.int b0c), (.int a0c)]) _
              refine XS.icmpYes X295.here hx rfl (pc0 := 316) (pc' := 335) rfl (hb hby at_316) rfl (feq hc299).2 (by decide) (by decide) ?_
              show oP p e below T295 (mkF m 335 #[oI p0, oI p1, oI p2, oI p3, oI p4, oI sc, oI sa, oI sb, oI si, oI (0 : Int32), oI a0c, oI a1c, oI u, oI b0c, oI b1c, oI jd, oR b41, oR b265, oR b280, oR b288, oU, oU] []) _
              refine XS.iconst X295.here hx rfl (hb hby at_335) ?_
              show oP p e below T295 (mkF m 336 #[oI p0, oI p1, oI p2, oI p3, oI p4, oI sc, oI sa, oI sb, oI si, oI (0 : Int32), oI a0c, oI a1c, oI u, oI b0c, oI b1c, oI jd, oR b41, oR b265, oR b280, oR b288, oU, oU] [(.int (0 : Int32))]) _
              refine XS.istore X295.here hx rfl (hb hby at_336) rfl (l' := #[oI p0, oI p1, oI p2, oI p3, oI p4, oI sc, oI sa, oI sb, oI si, oI (0 : Int32), oI a0c, oI a1c, oI u, oI b0c, oI b1c, oI jd, oR b41, oR b265, oR b280, oR b288, oI (0 : Int32), oU]) rfl ?_
              show oP p e below T295 (mkF m 338 #[oI p0, oI p1, oI p2, oI p3, oI p4, oI sc, oI sa, oI sb, oI si, oI (0 : Int32), oI a0c, oI a1c, oI u, oI b0c, oI b1c, oI jd, oR b41, oR b265, oR b280, oR b288, oI (0 : Int32), oU] []) _
              refine XS.iload X295.here hx rfl (hb hby at_338) rfl ?_
              show oP p e below T295 (mkF m 340 #[oI p0, oI p1, oI p2, oI p3, oI p4, oI sc, oI sa, oI sb, oI si, oI (0 : Int32), oI a0c, oI a1c, oI u, oI b0c, oI b1c, oI jd, oR b41, oR b265, oR b280, oR b288, oI (0 : Int32), oU] [(.int (0 : Int32))]) _
              refine XS.ifYes X295.here hx rfl (pc0 := 340) (pc' := 353) rfl (hb hby at_340) rfl ((if0 _ _).trans (teq (by decide : (0 : Int32) = (0 : Int32))).1) (by decide) (by decide) ?_
              show oP p e below T295 (mkF m 353 #[oI p0, oI p1, oI p2, oI p3, oI p4, oI sc, oI sa, oI sb, oI si, oI (0 : Int32), oI a0c, oI a1c, oI u, oI b0c, oI b1c, oI jd, oR b41, oR b265, oR b280, oR b288, oI (0 : Int32), oU] []) _
              refine XS.iconst X295.here hx rfl (hb hby at_353) ?_
              show oP p e below T295 (mkF m 354 #[oI p0, oI p1, oI p2, oI p3, oI p4, oI sc, oI sa, oI sb, oI si, oI (0 : Int32), oI a0c, oI a1c, oI u, oI b0c, oI b1c, oI jd, oR b41, oR b265, oR b280, oR b288, oI (0 : Int32), oU] [(.int (0 : Int32))]) _
              refine XS.istore X295.here hx rfl (hb hby at_354) rfl (l' := #[oI p0, oI p1, oI p2, oI p3, oI p4, oI sc, oI sa, oI sb, oI si, oI (0 : Int32), oI a0c, oI a1c, oI u, oI b0c, oI b1c, oI jd, oR b41, oR b265, oR b280, oR b288, oI (0 : Int32), oI (0 : Int32)]) rfl ?_
              show oP p e below T295 (mkF m 356 #[oI p0, oI p1, oI p2, oI p3, oI p4, oI sc, oI sa, oI sb, oI si, oI (0 : Int32), oI a0c, oI a1c, oI u, oI b0c, oI b1c, oI jd, oR b41, oR b265, oR b280, oR b288, oI (0 : Int32), oI (0 : Int32)] []) _
              refine XS.aload X295.here hx rfl (hb hby at_356) rfl rfl ?_
              show oP p e below T295 (mkF m 358 #[oI p0, oI p1, oI p2, oI p3, oI p4, oI sc, oI sa, oI sb, oI si, oI (0 : Int32), oI a0c, oI a1c, oI u, oI b0c, oI b1c, oI jd, oR b41, oR b265, oR b280, oR b288, oI (0 : Int32), oI (0 : Int32)] [(.ref b280)]) _
              refine XS.aload X295.here hx rfl (hb hby at_358) rfl rfl ?_
              show oP p e below T295 (mkF m 360 #[oI p0, oI p1, oI p2, oI p3, oI p4, oI sc, oI sa, oI sb, oI si, oI (0 : Int32), oI a0c, oI a1c, oI u, oI b0c, oI b1c, oI jd, oR b41, oR b265, oR b280, oR b288, oI (0 : Int32), oI (0 : Int32)] [(.ref b288), (.ref b280)]) _
              refine st404.trans ?_
              show oP p e below T404 (mkF m 363 #[oI p0, oI p1, oI p2, oI p3, oI p4, oI sc, oI sa, oI sb, oI si, oI (0 : Int32), oI a0c, oI a1c, oI u, oI b0c, oI b1c, oI jd, oR b41, oR b265, oR b280, oR b288, oI (0 : Int32), oI (0 : Int32)] [(.int (fn8q Z b280 b288 b41 b265 p2 jd t45 kt45 ([a0c, a1c] : List Int32) t272 kt272 ([b0c] : List Int32)))]) _
              refine XS.iload X404.here hx rfl (hb hby at_363) rfl ?_
              exact k)
            by_cases hc416 : (fn8q Z b280 b288 b41 b265 p2 jd t45 kt45 ([a0c, a1c] : List Int32) t272 kt272 ([b0c] : List Int32)) = (0 : Int32)
            · have fx417 := (po295_0.keep K404q)
              have fx419 := (po295_1.keep K404q nin0)
              have fx420 := (fx405.keep K404q nin0)
              have fx421 := (po295_2.keep K404q nin0)
              have fx422 := (fx406.keep K404q nin0)
              have fx423 := (fx409.keep K404q nin0)
              have fx424 := (fx410.keep K404q nin0)
              have fx425 := (fx407.keep K404q nin0)
              have fx426 := (fx408.keep K404q nin0)
              have fx427 := (fx403.keep K404q)
              have fx428 := (fx413.keep K404q)
              have fx429 := (fx414.keep K404q nin0)
              have fx430 := (fx411.keep K404q)
              have fx431 := (fx412.keep K404q nin0)
              obtain ⟨cq418, kq418, q418a, q418b, q418c⟩ := isOf hZ rfl fx417
              obtain ⟨_, _, ⟨T418, L418, k418, n418⟩, -, X418, ⟨Lc418, hQ418, l418, y418, z418⟩, st418⟩ := X404.virtualBack hx (y := (⟨"com/example/narada/narada/store/QueueKey", "equals", "(Ljava/lang/Object;)Z"⟩ : MethodName)) (z := (⟨"com/example/narada/narada/store/QueueKey", "equals", "(Ljava/lang/Object;)Z"⟩ : MethodName)) hown (mvT hZ (hw _ (List.mem_of_getElem? (i := 41) rfl))) (mvT hZ (hw _ (List.mem_of_getElem? (i := 42) rfl))) (notFace_of_selects (args := #[]) (mvT hZ (hw _ (List.mem_of_getElem? (i := 44) rfl)))) (mvT hZ (hw _ (List.mem_of_getElem? (i := 44) rfl))) (mvT hZ (hw _ (List.mem_of_getElem? (i := 43) rfl))) (by decide) (backOf (W := 0) (rm8q l Z a0 hw hS [] b288 b280 b265 b41 jd p2 t272 kt272 ([b0c] : List Int32) t45 kt45 ([a0c, a1c] : List Int32) T404.heap n0 O404 fx427 fx419 fx420 fx421 fx422 fx428 fx429 fx423 fx424 hp276 (Nat.le_of_ble_eq_true rfl) fx430 fx431 fx425 fx426 hp49 (Nat.le_of_ble_eq_true rfl)) hZ (hw _ (List.mem_of_getElem? (i := 45) rfl)) (hw _ (List.mem_of_getElem? (i := 32) rfl)) (by decide) (by decide)) q418a q418c (g := (mkF m 372 #[oI p0, oI p1, oI p2, oI p3, oI p4, oI sc, oI sa, oI sb, oI si, oI (0 : Int32), oI a0c, oI a1c, oI u, oI b0c, oI b1c, oI jd, oR b41, oR b265, oR b280, oR b288, oI (0 : Int32), oI (0 : Int32)] [(.ref b280), (.ref b288)])) rfl (by rw [hml]; rfl) (Steps.refl _) (argsL := [(.ref b280)]) (rest := []) (lenOf pd_0 rfl) rfl (by show 2 * 0 + _ ≤ _; exact Nat.le_of_eq rfl) (hb hby at_372) (fun _ _ => ⟨rfl, rfl, (by decide : 8 + 0 ≤ _), (by decide : 18 + 0 ≤ _)⟩)
              dsimp only [Pt.U, Pt.locs, Pt.cells, Pt.slots] at X418 l418 y418 z418 st418 hQ418
              subst l418 y418 z418
              obtain ⟨v418, N418q, K418q⟩ := hQ418
              subst v418
              have N418 := Fr.app N404 N418q
              have O418 := O404.keep K418q all0
              have Kc418 := Kc404.trans K418q all0
              have pre432 : ∀ t, oP p e below T418 (mkF m 377 #[oI p0, oI p1, oI p2, oI p3, oI p4, oI sc, oI sa, oI sb, oI si, oI (0 : Int32), oI a0c, oI a1c, oI u, oI b0c, oI b1c, oI jd, oR b41, oR b265, oR b280, oR b288, oI (0 : Int32), oI (0 : Int32)] [(.int (0 : Int32)), (.int (fn8q Z b288 b280 b265 b41 jd p2 t272 kt272 ([b0c] : List Int32) t45 kt45 ([a0c, a1c] : List Int32)))]) t → oP p e below s₁ (entryFrame m #[(.int p0), (.int p1), (.int p2), (.int p3), (.int p4)] maxLocals) t := fun t k => pre415 t (by
                show oP p e below T404 (mkF m 365 #[oI p0, oI p1, oI p2, oI p3, oI p4, oI sc, oI sa, oI sb, oI si, oI (0 : Int32), oI a0c, oI a1c, oI u, oI b0c, oI b1c, oI jd, oR b41, oR b265, oR b280, oR b288, oI (0 : Int32), oI (0 : Int32)] [(.int (0 : Int32)), (.int (fn8q Z b280 b288 b41 b265 p2 jd t45 kt45 ([a0c, a1c] : List Int32) t272 kt272 ([b0c] : List Int32)))]) _
                refine XS.icmpNo X404.here hx rfl (hb hby at_365) rfl (teq hc416).2 ?_
                show oP p e below T404 (mkF m 368 #[oI p0, oI p1, oI p2, oI p3, oI p4, oI sc, oI sa, oI sb, oI si, oI (0 : Int32), oI a0c, oI a1c, oI u, oI b0c, oI b1c, oI jd, oR b41, oR b265, oR b280, oR b288, oI (0 : Int32), oI (0 : Int32)] []) _
                refine XS.aload X404.here hx rfl (hb hby at_368) rfl rfl ?_
                show oP p e below T404 (mkF m 370 #[oI p0, oI p1, oI p2, oI p3, oI p4, oI sc, oI sa, oI sb, oI si, oI (0 : Int32), oI a0c, oI a1c, oI u, oI b0c, oI b1c, oI jd, oR b41, oR b265, oR b280, oR b288, oI (0 : Int32), oI (0 : Int32)] [(.ref b288)]) _
                refine XS.aload X404.here hx rfl (hb hby at_370) rfl rfl ?_
                show oP p e below T404 (mkF m 372 #[oI p0, oI p1, oI p2, oI p3, oI p4, oI sc, oI sa, oI sb, oI si, oI (0 : Int32), oI a0c, oI a1c, oI u, oI b0c, oI b1c, oI jd, oR b41, oR b265, oR b280, oR b288, oI (0 : Int32), oI (0 : Int32)] [(.ref b280), (.ref b288)]) _
                refine st418.trans ?_
                show oP p e below T418 (mkF m 375 #[oI p0, oI p1, oI p2, oI p3, oI p4, oI sc, oI sa, oI sb, oI si, oI (0 : Int32), oI a0c, oI a1c, oI u, oI b0c, oI b1c, oI jd, oR b41, oR b265, oR b280, oR b288, oI (0 : Int32), oI (0 : Int32)] [(.int (fn8q Z b288 b280 b265 b41 jd p2 t272 kt272 ([b0c] : List Int32) t45 kt45 ([a0c, a1c] : List Int32)))]) _
                refine XS.iload X418.here hx rfl (hb hby at_375) rfl ?_
                exact k)
              by_cases hc433 : (fn8q Z b288 b280 b265 b41 jd p2 t272 kt272 ([b0c] : List Int32) t45 kt45 ([a0c, a1c] : List Int32)) = (0 : Int32)
              · obtain ⟨fs, hr, hrun, hended, hW, hsame⟩ := X418.leave (v := some (.int (1 : Int32))) (fun h => by rw [Bd.returns] at h; cases h)
                refine ⟨_, _, pre432 _ ?_, hrun, hended, _, _, rfl, ?_, ⟨_, rfl⟩, hW, hsame.mono (by decide) (by decide)⟩
                · show oP p e below T418 (mkF m 377 #[oI p0, oI p1, oI p2, oI p3, oI p4, oI sc, oI sa, oI sb, oI si, oI (0 : Int32), oI a0c, oI a1c, oI u, oI b0c, oI b1c, oI jd, oR b41, oR b265, oR b280, oR b288, oI (0 : Int32), oI (0 : Int32)] [(.int (0 : Int32)), (.int (fn8q Z b288 b280 b265 b41 jd p2 t272 kt272 ([b0c] : List Int32) t45 kt45 ([a0c, a1c] : List Int32)))]) _
                  refine XS.icmpNo X418.here hx rfl (hb hby at_377) rfl (teq hc433).2 ?_
                  show oP p e below T418 (mkF m 380 #[oI p0, oI p1, oI p2, oI p3, oI p4, oI sc, oI sa, oI sb, oI si, oI (0 : Int32), oI a0c, oI a1c, oI u, oI b0c, oI b1c, oI jd, oR b41, oR b265, oR b280, oR b288, oI (0 : Int32), oI (0 : Int32)] []) _
                  refine XS.iconst X418.here hx rfl (hb hby at_380) ?_
                  show oP p e below T418 (mkF m 381 #[oI p0, oI p1, oI p2, oI p3, oI p4, oI sc, oI sa, oI sb, oI si, oI (0 : Int32), oI a0c, oI a1c, oI u, oI b0c, oI b1c, oI jd, oR b41, oR b265, oR b280, oR b288, oI (0 : Int32), oI (0 : Int32)] [(.int (1 : Int32))]) _
                  refine XS.goto X418.here hx rfl (pc0 := 381) (pc' := 385) rfl (hb hby at_381) (by decide) (by decide) ?_
                  show oP p e below T418 (mkF m 385 #[oI p0, oI p1, oI p2, oI p3, oI p4, oI sc, oI sa, oI sb, oI si, oI (0 : Int32), oI a0c, oI a1c, oI u, oI b0c, oI b1c, oI jd, oR b41, oR b265, oR b280, oR b288, oI (0 : Int32), oI (0 : Int32)] [(.int (1 : Int32))]) _
                  exact retN X418 hx (t := .boolean) Bd.returns (by simp) (hb hby at_385) hr
                · show (some (.int (1 : Int32)) : Option Value) = some (.int (1 : Int32)) ∧ Fr n0 _ ∧ Keep h0 T418.heap []
                  exact ⟨rfl, N418, Kc418⟩
              · exfalso
                exact ab434 hS p2 sa sb a0c a1c b0c jd rsa rsb hc40 hc51 hc297 hc299 hc416 hc433
            · exfalso
              exact ab435 hS p2 sa sb a0c a1c b0c jd rsa rsb hc40 hc51 hc297 hc299 hc416
        · have fx436 := ((po286_0.ext E288).keep K295q)
          have fx438 := ((po286_1.ext E288).keep K295q (ninS ne_b280_b288 nin0))
          have fx439 := ((po286_2.ext E288).keep K295q (ninS ne_b280_b288 nin0))
          have fx440 := ((((((((pV45.ext E265).ext E267).other W271 (Or.inl ne_b41_b267)).keep K272q (ninS ne_b41_b265 nin0)).ext E280).keep K286q (ninS ne_b41_b280 nin0)).ext E288).keep K295q (ninS ne_b41_b288 nin0))
          have fx441 := ((fx291.ext E288).keep K295q (ninS ne_t45_b288 nin0))
          have fx442 := ((((pV272.ext E280).keep K286q (ninS ne_b265_b280 nin0)).ext E288).keep K295q (ninS ne_b265_b288 nin0))
          have fx443 := ((fx294.ext E288).keep K295q (ninS ne_t272_b288 nin0))
          have fx444 := ((fx289.ext E288).keep K295q)
          have fx445 := ((((((((pC45.ext E265).ext E267).other W271 (Or.inl ne_b41_b267)).keep K272q (ninS ne_b41_b265 nin0)).ext E280).keep K286q (ninS ne_b41_b280 nin0)).ext E288).keep K295q (ninS ne_b41_b288 nin0))
          have fx446 := ((fx292.ext E288).keep K295q)
          have fx447 := ((((pC272.ext E280).keep K286q (ninS ne_b265_b280 nin0)).ext E288).keep K295q (ninS ne_b265_b288 nin0))
          obtain ⟨cq437, kq437, q437a, q437b, q437c⟩ := isOf hZ rfl fx436
          obtain ⟨_, _, ⟨T437, L437, k437, n437⟩, -, X437, ⟨Lc437, hQ437, l437, y437, z437⟩, st437⟩ := X295.virtualBack hx (y := (⟨"com/example/narada/narada/store/QueueKey", "equals", "(Ljava/lang/Object;)Z"⟩ : MethodName)) (z := (⟨"com/example/narada/narada/store/QueueKey", "equals", "(Ljava/lang/Object;)Z"⟩ : MethodName)) hown (mvT hZ (hw _ (List.mem_of_getElem? (i := 41) rfl))) (mvT hZ (hw _ (List.mem_of_getElem? (i := 42) rfl))) (notFace_of_selects (args := #[]) (mvT hZ (hw _ (List.mem_of_getElem? (i := 44) rfl)))) (mvT hZ (hw _ (List.mem_of_getElem? (i := 44) rfl))) (mvT hZ (hw _ (List.mem_of_getElem? (i := 43) rfl))) (by decide) (backOf (W := 0) (rm8q l Z a0 hw hS [] b280 b288 b41 b265 p2 jd t45 kt45 ([a0c, a1c] : List Int32) t272 kt272 ([b0c] : List Int32) T295.heap n0 O295 po295_0 fx438 po295_1 fx439 po295_2 fx444 fx445 fx440 fx441 hp49 (Nat.le_of_ble_eq_true rfl) fx446 fx447 fx442 fx443 hp276 (Nat.le_of_ble_eq_true rfl)) hZ (hw _ (List.mem_of_getElem? (i := 45) rfl)) (hw _ (List.mem_of_getElem? (i := 32) rfl)) (by decide) (by decide)) q437a q437c (g := (mkF m 360 #[oI p0, oI p1, oI p2, oI p3, oI p4, oI sc, oI sa, oI sb, oI si, oI (0 : Int32), oI a0c, oI a1c, oI u, oI b0c, oI b1c, oI jd, oR b41, oR b265, oR b280, oR b288, oI (0 : Int32), oI (0 : Int32)] [(.ref b288), (.ref b280)])) rfl (by rw [hml]; rfl) (Steps.refl _) (argsL := [(.ref b288)]) (rest := []) (lenOf pd_0 rfl) rfl (by show 2 * 0 + _ ≤ _; exact Nat.le_of_eq rfl) (hb hby at_360) (fun _ _ => ⟨rfl, rfl, (by decide : 8 + 0 ≤ _), (by decide : 18 + 0 ≤ _)⟩)
          dsimp only [Pt.U, Pt.locs, Pt.cells, Pt.slots] at X437 l437 y437 z437 st437 hQ437
          subst l437 y437 z437
          obtain ⟨v437, N437q, K437q⟩ := hQ437
          subst v437
          have N437 := Fr.app N295 N437q
          have O437 := O295.keep K437q all0
          have Kc437 := Kc295.trans K437q all0
          have pre448 : ∀ t, oP p e below T437 (mkF m 365 #[oI p0, oI p1, oI p2, oI p3, oI p4, oI sc, oI sa, oI sb, oI si, oI (0 : Int32), oI a0c, oI a1c, oI u, oI b0c, oI b1c, oI jd, oR b41, oR b265, oR b280, oR b288, oI (0 : Int32), oI (0 : Int32)] [(.int (0 : Int32)), (.int (fn8q Z b280 b288 b41 b265 p2 jd t45 kt45 ([a0c, a1c] : List Int32) t272 kt272 ([b0c] : List Int32)))]) t → oP p e below s₁ (entryFrame m #[(.int p0), (.int p1), (.int p2), (.int p3), (.int p4)] maxLocals) t := fun t k => pre296 t (by
            show oP p e below T295 (mkF m 309 #[oI p0, oI p1, oI p2, oI p3, oI p4, oI sc, oI sa, oI sb, oI si, oI (0 : Int32), oI a0c, oI a1c, oI u, oI b0c, oI b1c, oI jd, oR b41, oR b265, oR b280, oR b288, oU, oU] [(.int sb), (.int sa)]) _
            refine XS.icmpYes X295.here hx rfl (pc0 := 309) (pc' := 335) rfl (hb hby at_309) rfl (feq hc297).2 (by decide) (by decide) ?_
            show oP p e below T295 (mkF m 335 #[oI p0, oI p1, oI p2, oI p3, oI p4, oI sc, oI sa, oI sb, oI si, oI (0 : Int32), oI a0c, oI a1c, oI u, oI b0c, oI b1c, oI jd, oR b41, oR b265, oR b280, oR b288, oU, oU] []) _
            refine XS.iconst X295.here hx rfl (hb hby at_335) ?_
            show oP p e below T295 (mkF m 336 #[oI p0, oI p1, oI p2, oI p3, oI p4, oI sc, oI sa, oI sb, oI si, oI (0 : Int32), oI a0c, oI a1c, oI u, oI b0c, oI b1c, oI jd, oR b41, oR b265, oR b280, oR b288, oU, oU] [(.int (0 : Int32))]) _
            refine XS.istore X295.here hx rfl (hb hby at_336) rfl (l' := #[oI p0, oI p1, oI p2, oI p3, oI p4, oI sc, oI sa, oI sb, oI si, oI (0 : Int32), oI a0c, oI a1c, oI u, oI b0c, oI b1c, oI jd, oR b41, oR b265, oR b280, oR b288, oI (0 : Int32), oU]) rfl ?_
            show oP p e below T295 (mkF m 338 #[oI p0, oI p1, oI p2, oI p3, oI p4, oI sc, oI sa, oI sb, oI si, oI (0 : Int32), oI a0c, oI a1c, oI u, oI b0c, oI b1c, oI jd, oR b41, oR b265, oR b280, oR b288, oI (0 : Int32), oU] []) _
            refine XS.iload X295.here hx rfl (hb hby at_338) rfl ?_
            show oP p e below T295 (mkF m 340 #[oI p0, oI p1, oI p2, oI p3, oI p4, oI sc, oI sa, oI sb, oI si, oI (0 : Int32), oI a0c, oI a1c, oI u, oI b0c, oI b1c, oI jd, oR b41, oR b265, oR b280, oR b288, oI (0 : Int32), oU] [(.int (0 : Int32))]) _
            refine XS.ifYes X295.here hx rfl (pc0 := 340) (pc' := 353) rfl (hb hby at_340) rfl ((if0 _ _).trans (teq (by decide : (0 : Int32) = (0 : Int32))).1) (by decide) (by decide) ?_
            show oP p e below T295 (mkF m 353 #[oI p0, oI p1, oI p2, oI p3, oI p4, oI sc, oI sa, oI sb, oI si, oI (0 : Int32), oI a0c, oI a1c, oI u, oI b0c, oI b1c, oI jd, oR b41, oR b265, oR b280, oR b288, oI (0 : Int32), oU] []) _
            refine XS.iconst X295.here hx rfl (hb hby at_353) ?_
            show oP p e below T295 (mkF m 354 #[oI p0, oI p1, oI p2, oI p3, oI p4, oI sc, oI sa, oI sb, oI si, oI (0 : Int32), oI a0c, oI a1c, oI u, oI b0c, oI b1c, oI jd, oR b41, oR b265, oR b280, oR b288, oI (0 : Int32), oU] [(.int (0 : Int32))]) _
            refine XS.istore X295.here hx rfl (hb hby at_354) rfl (l' := #[oI p0, oI p1, oI p2, oI p3, oI p4, oI sc, oI sa, oI sb, oI si, oI (0 : Int32), oI a0c, oI a1c, oI u, oI b0c, oI b1c, oI jd, oR b41, oR b265, oR b280, oR b288, oI (0 : Int32), oI (0 : Int32)]) rfl ?_
            show oP p e below T295 (mkF m 356 #[oI p0, oI p1, oI p2, oI p3, oI p4, oI sc, oI sa, oI sb, oI si, oI (0 : Int32), oI a0c, oI a1c, oI u, oI b0c, oI b1c, oI jd, oR b41, oR b265, oR b280, oR b288, oI (0 : Int32), oI (0 : Int32)] []) _
            refine XS.aload X295.here hx rfl (hb hby at_356) rfl rfl ?_
            show oP p e below T295 (mkF m 358 #[oI p0, oI p1, oI p2, oI p3, oI p4, oI sc, oI sa, oI sb, oI si, oI (0 : Int32), oI a0c, oI a1c, oI u, oI b0c, oI b1c, oI jd, oR b41, oR b265, oR b280, oR b288, oI (0 : Int32), oI (0 : Int32)] [(.ref b280)]) _
            refine XS.aload X295.here hx rfl (hb hby at_358) rfl rfl ?_
            show oP p e below T295 (mkF m 360 #[oI p0, oI p1, oI p2, oI p3, oI p4, oI sc, oI sa, oI sb, oI si, oI (0 : Int32), oI a0c, oI a1c, oI u, oI b0c, oI b1c, oI jd, oR b41, oR b265, oR b280, oR b288, oI (0 : Int32), oI (0 : Int32)] [(.ref b288), (.ref b280)]) _
            refine st437.trans ?_
            show oP p e below T437 (mkF m 363 #[oI p0, oI p1, oI p2, oI p3, oI p4, oI sc, oI sa, oI sb, oI si, oI (0 : Int32), oI a0c, oI a1c, oI u, oI b0c, oI b1c, oI jd, oR b41, oR b265, oR b280, oR b288, oI (0 : Int32), oI (0 : Int32)] [(.int (fn8q Z b280 b288 b41 b265 p2 jd t45 kt45 ([a0c, a1c] : List Int32) t272 kt272 ([b0c] : List Int32)))]) _
            refine XS.iload X437.here hx rfl (hb hby at_363) rfl ?_
            exact k)
          by_cases hc449 : (fn8q Z b280 b288 b41 b265 p2 jd t45 kt45 ([a0c, a1c] : List Int32) t272 kt272 ([b0c] : List Int32)) = (0 : Int32)
          · have fx450 := (po295_0.keep K437q)
            have fx452 := (po295_1.keep K437q nin0)
            have fx453 := (fx438.keep K437q nin0)
            have fx454 := (po295_2.keep K437q nin0)
            have fx455 := (fx439.keep K437q nin0)
            have fx456 := (fx442.keep K437q nin0)
            have fx457 := (fx443.keep K437q nin0)
            have fx458 := (fx440.keep K437q nin0)
            have fx459 := (fx441.keep K437q nin0)
            have fx460 := (fx436.keep K437q)
            have fx461 := (fx446.keep K437q)
            have fx462 := (fx447.keep K437q nin0)
            have fx463 := (fx444.keep K437q)
            have fx464 := (fx445.keep K437q nin0)
            obtain ⟨cq451, kq451, q451a, q451b, q451c⟩ := isOf hZ rfl fx450
            obtain ⟨_, _, ⟨T451, L451, k451, n451⟩, -, X451, ⟨Lc451, hQ451, l451, y451, z451⟩, st451⟩ := X437.virtualBack hx (y := (⟨"com/example/narada/narada/store/QueueKey", "equals", "(Ljava/lang/Object;)Z"⟩ : MethodName)) (z := (⟨"com/example/narada/narada/store/QueueKey", "equals", "(Ljava/lang/Object;)Z"⟩ : MethodName)) hown (mvT hZ (hw _ (List.mem_of_getElem? (i := 41) rfl))) (mvT hZ (hw _ (List.mem_of_getElem? (i := 42) rfl))) (notFace_of_selects (args := #[]) (mvT hZ (hw _ (List.mem_of_getElem? (i := 44) rfl)))) (mvT hZ (hw _ (List.mem_of_getElem? (i := 44) rfl))) (mvT hZ (hw _ (List.mem_of_getElem? (i := 43) rfl))) (by decide) (backOf (W := 0) (rm8q l Z a0 hw hS [] b288 b280 b265 b41 jd p2 t272 kt272 ([b0c] : List Int32) t45 kt45 ([a0c, a1c] : List Int32) T437.heap n0 O437 fx460 fx452 fx453 fx454 fx455 fx461 fx462 fx456 fx457 hp276 (Nat.le_of_ble_eq_true rfl) fx463 fx464 fx458 fx459 hp49 (Nat.le_of_ble_eq_true rfl)) hZ (hw _ (List.mem_of_getElem? (i := 45) rfl)) (hw _ (List.mem_of_getElem? (i := 32) rfl)) (by decide) (by decide)) q451a q451c (g := (mkF m 372 #[oI p0, oI p1, oI p2, oI p3, oI p4, oI sc, oI sa, oI sb, oI si, oI (0 : Int32), oI a0c, oI a1c, oI u, oI b0c, oI b1c, oI jd, oR b41, oR b265, oR b280, oR b288, oI (0 : Int32), oI (0 : Int32)] [(.ref b280), (.ref b288)])) rfl (by rw [hml]; rfl) (Steps.refl _) (argsL := [(.ref b280)]) (rest := []) (lenOf pd_0 rfl) rfl (by show 2 * 0 + _ ≤ _; exact Nat.le_of_eq rfl) (hb hby at_372) (fun _ _ => ⟨rfl, rfl, (by decide : 8 + 0 ≤ _), (by decide : 18 + 0 ≤ _)⟩)
            dsimp only [Pt.U, Pt.locs, Pt.cells, Pt.slots] at X451 l451 y451 z451 st451 hQ451
            subst l451 y451 z451
            obtain ⟨v451, N451q, K451q⟩ := hQ451
            subst v451
            have N451 := Fr.app N437 N451q
            have O451 := O437.keep K451q all0
            have Kc451 := Kc437.trans K451q all0
            have pre465 : ∀ t, oP p e below T451 (mkF m 377 #[oI p0, oI p1, oI p2, oI p3, oI p4, oI sc, oI sa, oI sb, oI si, oI (0 : Int32), oI a0c, oI a1c, oI u, oI b0c, oI b1c, oI jd, oR b41, oR b265, oR b280, oR b288, oI (0 : Int32), oI (0 : Int32)] [(.int (0 : Int32)), (.int (fn8q Z b288 b280 b265 b41 jd p2 t272 kt272 ([b0c] : List Int32) t45 kt45 ([a0c, a1c] : List Int32)))]) t → oP p e below s₁ (entryFrame m #[(.int p0), (.int p1), (.int p2), (.int p3), (.int p4)] maxLocals) t := fun t k => pre448 t (by
              show oP p e below T437 (mkF m 365 #[oI p0, oI p1, oI p2, oI p3, oI p4, oI sc, oI sa, oI sb, oI si, oI (0 : Int32), oI a0c, oI a1c, oI u, oI b0c, oI b1c, oI jd, oR b41, oR b265, oR b280, oR b288, oI (0 : Int32), oI (0 : Int32)] [(.int (0 : Int32)), (.int (fn8q Z b280 b288 b41 b265 p2 jd t45 kt45 ([a0c, a1c] : List Int32) t272 kt272 ([b0c] : List Int32)))]) _
              refine XS.icmpNo X437.here hx rfl (hb hby at_365) rfl (teq hc449).2 ?_
              show oP p e below T437 (mkF m 368 #[oI p0, oI p1, oI p2, oI p3, oI p4, oI sc, oI sa, oI sb, oI si, oI (0 : Int32), oI a0c, oI a1c, oI u, oI b0c, oI b1c, oI jd, oR b41, oR b265, oR b280, oR b288, oI (0 : Int32), oI (0 : Int32)] []) _
              refine XS.aload X437.here hx rfl (hb hby at_368) rfl rfl ?_
              show oP p e below T437 (mkF m 370 #[oI p0, oI p1, oI p2, oI p3, oI p4, oI sc, oI sa, oI sb, oI si, oI (0 : Int32), oI a0c, oI a1c, oI u, oI b0c, oI b1c, oI jd, oR b41, oR b265, oR b280, oR b288, oI (0 : Int32), oI (0 : Int32)] [(.ref b288)]) _
              refine XS.aload X437.here hx rfl (hb hby at_370) rfl rfl ?_
              show oP p e below T437 (mkF m 372 #[oI p0, oI p1, oI p2, oI p3, oI p4, oI sc, oI sa, oI sb, oI si, oI (0 : Int32), oI a0c, oI a1c, oI u, oI b0c, oI b1c, oI jd, oR b41, oR b265, oR b280, oR b288, oI (0 : Int32), oI (0 : Int32)] [(.ref b280), (.ref b288)]) _
              refine st451.trans ?_
              show oP p e below T451 (mkF m 375 #[oI p0, oI p1, oI p2, oI p3, oI p4, oI sc, oI sa, oI sb, oI si, oI (0 : Int32), oI a0c, oI a1c, oI u, oI b0c, oI b1c, oI jd, oR b41, oR b265, oR b280, oR b288, oI (0 : Int32), oI (0 : Int32)] [(.int (fn8q Z b288 b280 b265 b41 jd p2 t272 kt272 ([b0c] : List Int32) t45 kt45 ([a0c, a1c] : List Int32)))]) _
              refine XS.iload X451.here hx rfl (hb hby at_375) rfl ?_
              exact k)
            by_cases hc466 : (fn8q Z b288 b280 b265 b41 jd p2 t272 kt272 ([b0c] : List Int32) t45 kt45 ([a0c, a1c] : List Int32)) = (0 : Int32)
            · obtain ⟨fs, hr, hrun, hended, hW, hsame⟩ := X451.leave (v := some (.int (1 : Int32))) (fun h => by rw [Bd.returns] at h; cases h)
              refine ⟨_, _, pre465 _ ?_, hrun, hended, _, _, rfl, ?_, ⟨_, rfl⟩, hW, hsame.mono (by decide) (by decide)⟩
              · show oP p e below T451 (mkF m 377 #[oI p0, oI p1, oI p2, oI p3, oI p4, oI sc, oI sa, oI sb, oI si, oI (0 : Int32), oI a0c, oI a1c, oI u, oI b0c, oI b1c, oI jd, oR b41, oR b265, oR b280, oR b288, oI (0 : Int32), oI (0 : Int32)] [(.int (0 : Int32)), (.int (fn8q Z b288 b280 b265 b41 jd p2 t272 kt272 ([b0c] : List Int32) t45 kt45 ([a0c, a1c] : List Int32)))]) _
                refine XS.icmpNo X451.here hx rfl (hb hby at_377) rfl (teq hc466).2 ?_
                show oP p e below T451 (mkF m 380 #[oI p0, oI p1, oI p2, oI p3, oI p4, oI sc, oI sa, oI sb, oI si, oI (0 : Int32), oI a0c, oI a1c, oI u, oI b0c, oI b1c, oI jd, oR b41, oR b265, oR b280, oR b288, oI (0 : Int32), oI (0 : Int32)] []) _
                refine XS.iconst X451.here hx rfl (hb hby at_380) ?_
                show oP p e below T451 (mkF m 381 #[oI p0, oI p1, oI p2, oI p3, oI p4, oI sc, oI sa, oI sb, oI si, oI (0 : Int32), oI a0c, oI a1c, oI u, oI b0c, oI b1c, oI jd, oR b41, oR b265, oR b280, oR b288, oI (0 : Int32), oI (0 : Int32)] [(.int (1 : Int32))]) _
                refine XS.goto X451.here hx rfl (pc0 := 381) (pc' := 385) rfl (hb hby at_381) (by decide) (by decide) ?_
                show oP p e below T451 (mkF m 385 #[oI p0, oI p1, oI p2, oI p3, oI p4, oI sc, oI sa, oI sb, oI si, oI (0 : Int32), oI a0c, oI a1c, oI u, oI b0c, oI b1c, oI jd, oR b41, oR b265, oR b280, oR b288, oI (0 : Int32), oI (0 : Int32)] [(.int (1 : Int32))]) _
                exact retN X451 hx (t := .boolean) Bd.returns (by simp) (hb hby at_385) hr
              · show (some (.int (1 : Int32)) : Option Value) = some (.int (1 : Int32)) ∧ Fr n0 _ ∧ Keep h0 T451.heap []
                exact ⟨rfl, N451, Kc451⟩
            · exfalso
              exact ab467 hS p2 sa sb a0c a1c b0c jd rsa rsb hc40 hc51 hc297 hc449 hc466
          · exfalso
            exact ab468 hS p2 sa sb a0c a1c b0c jd rsa rsb hc40 hc51 hc297 hc449
      · obtain ⟨cq469, kq469, q469a, q469b, q469c⟩ := isOf hZ rfl po286_0
        obtain ⟨_, _, ⟨T469, L469, k469, n469⟩, -, X469, ⟨Lc469, hQ469, l469, y469, z469⟩, st469⟩ := X286.virtualBack hx (y := (⟨"com/example/narada/narada/store/QueueKey", "equals", "(Ljava/lang/Object;)Z"⟩ : MethodName)) (z := (⟨"com/example/narada/narada/store/QueueKey", "equals", "(Ljava/lang/Object;)Z"⟩ : MethodName)) hown (mvT hZ (hw _ (List.mem_of_getElem? (i := 41) rfl))) (mvT hZ (hw _ (List.mem_of_getElem? (i := 42) rfl))) (notFace_of_selects (args := #[]) (mvT hZ (hw _ (List.mem_of_getElem? (i := 44) rfl)))) (mvT hZ (hw _ (List.mem_of_getElem? (i := 44) rfl))) (mvT hZ (hw _ (List.mem_of_getElem? (i := 43) rfl))) (by decide) (backOf (W := 0) (rm8n l Z a0 hw hS [] b280 T286.heap n0 O286 ) hZ (hw _ (List.mem_of_getElem? (i := 45) rfl)) (hw _ (List.mem_of_getElem? (i := 32) rfl)) (by decide) (by decide)) q469a q469c (g := (mkF m 240 #[oI p0, oI p1, oI p2, oI p3, oI p4, oI sc, oI sa, oI sb, oI si, oI (1 : Int32), oI a0c, oI a1c, oI u, oI b0c, oI b1c, oI jd, oR b41, oR b265, oR b280, oU, oU, oU] [.null, (.ref b280)])) rfl (by rw [hml]; rfl) (Steps.refl _) (argsL := [.null]) (rest := []) (lenOf pd_0 rfl) rfl (by show 2 * 0 + _ ≤ _; exact Nat.le_of_eq rfl) (hb hby at_240) (fun _ _ => ⟨rfl, rfl, (by decide : 7 + 0 ≤ _), (by decide : 16 + 0 ≤ _)⟩)
        dsimp only [Pt.U, Pt.locs, Pt.cells, Pt.slots] at X469 l469 y469 z469 st469 hQ469
        subst l469 y469 z469
        obtain ⟨v469, N469q, K469q⟩ := hQ469
        have w469 : (fn8n Z b280) = (0 : Int32) := rfl
        rw [w469] at v469
        subst v469
        have N469 := Fr.app N286 N469q
        have O469 := O286.keep K469q all0
        have Kc469 := Kc286.trans K469q all0
        obtain ⟨fs, hr, hrun, hended, hW, hsame⟩ := X469.leave (v := some (.int (1 : Int32))) (fun h => by rw [Bd.returns] at h; cases h)
        refine ⟨_, _, pre287 _ ?_, hrun, hended, _, _, rfl, ?_, ⟨_, rfl⟩, hW, hsame.mono (by decide) (by decide)⟩
        · show oP p e below T286 (mkF m 231 #[oI p0, oI p1, oI p2, oI p3, oI p4, oI sc, oI sa, oI sb, oI si, oI (1 : Int32), oI a0c, oI a1c, oI u, oI b0c, oI b1c, oI jd, oR b41, oR b265, oR b280, oU, oU, oU] []) _
          refine XS.iload X286.here hx rfl (hb hby at_231) rfl ?_
          show oP p e below T286 (mkF m 233 #[oI p0, oI p1, oI p2, oI p3, oI p4, oI sc, oI sa, oI sb, oI si, oI (1 : Int32), oI a0c, oI a1c, oI u, oI b0c, oI b1c, oI jd, oR b41, oR b265, oR b280, oU, oU, oU] [(.int (1 : Int32))]) _
          refine XS.iconst X286.here hx rfl (hb hby at_233) ?_
          show oP p e below T286 (mkF m 234 #[oI p0, oI p1, oI p2, oI p3, oI p4, oI sc, oI sa, oI sb, oI si, oI (1 : Int32), oI a0c, oI a1c, oI u, oI b0c, oI b1c, oI jd, oR b41, oR b265, oR b280, oU, oU, oU] [(.int (1 : Int32)), (.int (1 : Int32))]) _
          refine XS.icmpNo X286.here hx rfl (hb hby at_234) rfl (teq (by decide : (1 : Int32) = (1 : Int32))).2 ?_
          show oP p e below T286 (mkF m 237 #[oI p0, oI p1, oI p2, oI p3, oI p4, oI sc, oI sa, oI sb, oI si, oI (1 : Int32), oI a0c, oI a1c, oI u, oI b0c, oI b1c, oI jd, oR b41, oR b265, oR b280, oU, oU, oU] []) _
          refine XS.aload X286.here hx rfl (hb hby at_237) rfl rfl ?_
          show oP p e below T286 (mkF m 239 #[oI p0, oI p1, oI p2, oI p3, oI p4, oI sc, oI sa, oI sb, oI si, oI (1 : Int32), oI a0c, oI a1c, oI u, oI b0c, oI b1c, oI jd, oR b41, oR b265, oR b280, oU, oU, oU] [(.ref b280)]) _
          refine XS.aconstNull X286.here hx rfl (hb hby at_239) ?_
          show oP p e below T286 (mkF m 240 #[oI p0, oI p1, oI p2, oI p3, oI p4, oI sc, oI sa, oI sb, oI si, oI (1 : Int32), oI a0c, oI a1c, oI u, oI b0c, oI b1c, oI jd, oR b41, oR b265, oR b280, oU, oU, oU] [.null, (.ref b280)]) _
          refine st469.trans ?_
          show oP p e below T469 (mkF m 243 #[oI p0, oI p1, oI p2, oI p3, oI p4, oI sc, oI sa, oI sb, oI si, oI (1 : Int32), oI a0c, oI a1c, oI u, oI b0c, oI b1c, oI jd, oR b41, oR b265, oR b280, oU, oU, oU] [(.int (0 : Int32))]) _
          refine XS.ifNo X469.here hx rfl (hb hby at_243) rfl ((if0 _ _).trans (teq (by decide : (0 : Int32) = (0 : Int32))).2) ?_
          show oP p e below T469 (mkF m 246 #[oI p0, oI p1, oI p2, oI p3, oI p4, oI sc, oI sa, oI sb, oI si, oI (1 : Int32), oI a0c, oI a1c, oI u, oI b0c, oI b1c, oI jd, oR b41, oR b265, oR b280, oU, oU, oU] []) _
          refine XS.iconst X469.here hx rfl (hb hby at_246) ?_
          show oP p e below T469 (mkF m 247 #[oI p0, oI p1, oI p2, oI p3, oI p4, oI sc, oI sa, oI sb, oI si, oI (1 : Int32), oI a0c, oI a1c, oI u, oI b0c, oI b1c, oI jd, oR b41, oR b265, oR b280, oU, oU, oU] [(.int (1 : Int32))]) _
          refine XS.goto X469.here hx rfl (pc0 := 247) (pc' := 251) rfl (hb hby at_247) (by decide) (by decide) ?_
          show oP p e below T469 (mkF m 251 #[oI p0, oI p1, oI p2, oI p3, oI p4, oI sc, oI sa, oI sb, oI si, oI (1 : Int32), oI a0c, oI a1c, oI u, oI b0c, oI b1c, oI jd, oR b41, oR b265, oR b280, oU, oU, oU] [(.int (1 : Int32))]) _
          exact retN X469 hx (t := .boolean) Bd.returns (by simp) (hb hby at_251) hr
        · show (some (.int (1 : Int32)) : Option Value) = some (.int (1 : Int32)) ∧ Fr n0 _ ∧ Keep h0 T469.heap []
          exact ⟨rfl, N469, Kc469⟩
      · have fx471 := ((fx281.ext E280).keep K286q)
        obtain ⟨cq470, kq470, q470a, q470b, q470c⟩ := isOf hZ rfl po286_0
        obtain ⟨_, _, ⟨T470, L470, k470, n470⟩, -, X470, ⟨Lc470, hQ470, l470, y470, z470⟩, st470⟩ := X286.virtualBack hx (y := (⟨"com/example/narada/narada/store/QueueKey", "equals", "(Ljava/lang/Object;)Z"⟩ : MethodName)) (z := (⟨"com/example/narada/narada/store/QueueKey", "equals", "(Ljava/lang/Object;)Z"⟩ : MethodName)) hown (mvT hZ (hw _ (List.mem_of_getElem? (i := 41) rfl))) (mvT hZ (hw _ (List.mem_of_getElem? (i := 42) rfl))) (notFace_of_selects (args := #[]) (mvT hZ (hw _ (List.mem_of_getElem? (i := 44) rfl)))) (mvT hZ (hw _ (List.mem_of_getElem? (i := 44) rfl))) (mvT hZ (hw _ (List.mem_of_getElem? (i := 43) rfl))) (by decide) (backOf (W := 0) (rm8s l Z a0 hw hS [] b280 b41 T286.heap n0 O286 fx471) hZ (hw _ (List.mem_of_getElem? (i := 45) rfl)) (hw _ (List.mem_of_getElem? (i := 32) rfl)) (by decide) (by decide)) q470a q470c (g := (mkF m 266 #[oI p0, oI p1, oI p2, oI p3, oI p4, oI sc, oI sa, oI sb, oI si, oI (2 : Int32), oI a0c, oI a1c, oI u, oI b0c, oI b1c, oI jd, oR b41, oR b265, oR b280, oR b41, oU, oU] [(.ref b41), (.ref b280)])) rfl (by rw [hml]; rfl) (Steps.refl _) (argsL := [(.ref b41)]) (rest := []) (lenOf pd_0 rfl) rfl (by show 2 * 0 + _ ≤ _; exact Nat.le_of_eq rfl) (hb hby at_266) (fun _ _ => ⟨rfl, rfl, (by decide : 7 + 0 ≤ _), (by decide : 16 + 0 ≤ _)⟩)
        dsimp only [Pt.U, Pt.locs, Pt.cells, Pt.slots] at X470 l470 y470 z470 st470 hQ470
        subst l470 y470 z470
        obtain ⟨v470, N470q, K470q⟩ := hQ470
        have w470 : (fn8s Z b280 b41) = (0 : Int32) := rfl
        rw [w470] at v470
        subst v470
        have N470 := Fr.app N286 N470q
        have O470 := O286.keep K470q all0
        have Kc470 := Kc286.trans K470q all0
        obtain ⟨fs, hr, hrun, hended, hW, hsame⟩ := X470.leave (v := some (.int (1 : Int32))) (fun h => by rw [Bd.returns] at h; cases h)
        refine ⟨_, _, pre287 _ ?_, hrun, hended, _, _, rfl, ?_, ⟨_, rfl⟩, hW, hsame.mono (by decide) (by decide)⟩
        · show oP p e below T286 (mkF m 231 #[oI p0, oI p1, oI p2, oI p3, oI p4, oI sc, oI sa, oI sb, oI si, oI (2 : Int32), oI a0c, oI a1c, oI u, oI b0c, oI b1c, oI jd, oR b41, oR b265, oR b280, oU, oU, oU] []) _
          refine XS.iload X286.here hx rfl (hb hby at_231) rfl ?_
          show oP p e below T286 (mkF m 233 #[oI p0, oI p1, oI p2, oI p3, oI p4, oI sc, oI sa, oI sb, oI si, oI (2 : Int32), oI a0c, oI a1c, oI u, oI b0c, oI b1c, oI jd, oR b41, oR b265, oR b280, oU, oU, oU] [(.int (2 : Int32))]) _
          refine XS.iconst X286.here hx rfl (hb hby at_233) ?_
          show oP p e below T286 (mkF m 234 #[oI p0, oI p1, oI p2, oI p3, oI p4, oI sc, oI sa, oI sb, oI si, oI (2 : Int32), oI a0c, oI a1c, oI u, oI b0c, oI b1c, oI jd, oR b41, oR b265, oR b280, oU, oU, oU] [(.int (1 : Int32)), (.int (2 : Int32))]) _
          refine XS.icmpYes X286.here hx rfl (pc0 := 234) (pc' := 252) rfl (hb hby at_234) rfl (feq (by decide : ¬ ((2 : Int32) = (1 : Int32)))).2 (by decide) (by decide) ?_
          show oP p e below T286 (mkF m 252 #[oI p0, oI p1, oI p2, oI p3, oI p4, oI sc, oI sa, oI sb, oI si, oI (2 : Int32), oI a0c, oI a1c, oI u, oI b0c, oI b1c, oI jd, oR b41, oR b265, oR b280, oU, oU, oU] []) _
          refine XS.iload X286.here hx rfl (hb hby at_252) rfl ?_
          show oP p e below T286 (mkF m 254 #[oI p0, oI p1, oI p2, oI p3, oI p4, oI sc, oI sa, oI sb, oI si, oI (2 : Int32), oI a0c, oI a1c, oI u, oI b0c, oI b1c, oI jd, oR b41, oR b265, oR b280, oU, oU, oU] [(.int (2 : Int32))]) _
          refine XS.iconst X286.here hx rfl (hb hby at_254) ?_
          show oP p e below T286 (mkF m 255 #[oI p0, oI p1, oI p2, oI p3, oI p4, oI sc, oI sa, oI sb, oI si, oI (2 : Int32), oI a0c, oI a1c, oI u, oI b0c, oI b1c, oI jd, oR b41, oR b265, oR b280, oU, oU, oU] [(.int (2 : Int32)), (.int (2 : Int32))]) _
          refine XS.icmpNo X286.here hx rfl (hb hby at_255) rfl (teq (by decide : (2 : Int32) = (2 : Int32))).2 ?_
          show oP p e below T286 (mkF m 258 #[oI p0, oI p1, oI p2, oI p3, oI p4, oI sc, oI sa, oI sb, oI si, oI (2 : Int32), oI a0c, oI a1c, oI u, oI b0c, oI b1c, oI jd, oR b41, oR b265, oR b280, oU, oU, oU] []) _
          refine XS.aload X286.here hx rfl (hb hby at_258) rfl rfl ?_
          show oP p e below T286 (mkF m 260 #[oI p0, oI p1, oI p2, oI p3, oI p4, oI sc, oI sa, oI sb, oI si, oI (2 : Int32), oI a0c, oI a1c, oI u, oI b0c, oI b1c, oI jd, oR b41, oR b265, oR b280, oU, oU, oU] [(.ref b41)]) _
          refine XS.astore X286.here hx rfl (hb hby at_260) rfl rfl (l' := #[oI p0, oI p1, oI p2, oI p3, oI p4, oI sc, oI sa, oI sb, oI si, oI (2 : Int32), oI a0c, oI a1c, oI u, oI b0c, oI b1c, oI jd, oR b41, oR b265, oR b280, oR b41, oU, oU]) rfl ?_
          show oP p e below T286 (mkF m 262 #[oI p0, oI p1, oI p2, oI p3, oI p4, oI sc, oI sa, oI sb, oI si, oI (2 : Int32), oI a0c, oI a1c, oI u, oI b0c, oI b1c, oI jd, oR b41, oR b265, oR b280, oR b41, oU, oU] []) _
          refine XS.aload X286.here hx rfl (hb hby at_262) rfl rfl ?_
          show oP p e below T286 (mkF m 264 #[oI p0, oI p1, oI p2, oI p3, oI p4, oI sc, oI sa, oI sb, oI si, oI (2 : Int32), oI a0c, oI a1c, oI u, oI b0c, oI b1c, oI jd, oR b41, oR b265, oR b280, oR b41, oU, oU] [(.ref b280)]) _
          refine XS.aload X286.here hx rfl (hb hby at_264) rfl rfl ?_
          show oP p e below T286 (mkF m 266 #[oI p0, oI p1, oI p2, oI p3, oI p4, oI sc, oI sa, oI sb, oI si, oI (2 : Int32), oI a0c, oI a1c, oI u, oI b0c, oI b1c, oI jd, oR b41, oR b265, oR b280, oR b41, oU, oU] [(.ref b41), (.ref b280)]) _
          refine st470.trans ?_
          show oP p e below T470 (mkF m 269 #[oI p0, oI p1, oI p2, oI p3, oI p4, oI sc, oI sa, oI sb, oI si, oI (2 : Int32), oI a0c, oI a1c, oI u, oI b0c, oI b1c, oI jd, oR b41, oR b265, oR b280, oR b41, oU, oU] [(.int (0 : Int32))]) _
          refine XS.ifNo X470.here hx rfl (hb hby at_269) rfl ((if0 _ _).trans (teq (by decide : (0 : Int32) = (0 : Int32))).2) ?_
          show oP p e below T470 (mkF m 272 #[oI p0, oI p1, oI p2, oI p3, oI p4, oI sc, oI sa, oI sb, oI si, oI (2 : Int32), oI a0c, oI a1c, oI u, oI b0c, oI b1c, oI jd, oR b41, oR b265, oR b280, oR b41, oU, oU] []) _
          refine XS.iconst X470.here hx rfl (hb hby at_272) ?_
          show oP p e below T470 (mkF m 273 #[oI p0, oI p1, oI p2, oI p3, oI p4, oI sc, oI sa, oI sb, oI si, oI (2 : Int32), oI a0c, oI a1c, oI u, oI b0c, oI b1c, oI jd, oR b41, oR b265, oR b280, oR b41, oU, oU] [(.int (1 : Int32))]) _
          refine XS.goto X470.here hx rfl (pc0 := 273) (pc' := 277) rfl (hb hby at_273) (by decide) (by decide) ?_
          show oP p e below T470 (mkF m 277 #[oI p0, oI p1, oI p2, oI p3, oI p4, oI sc, oI sa, oI sb, oI si, oI (2 : Int32), oI a0c, oI a1c, oI u, oI b0c, oI b1c, oI jd, oR b41, oR b265, oR b280, oR b41, oU, oU] [(.int (1 : Int32))]) _
          exact retN X470 hx (t := .boolean) Bd.returns (by simp) (hb hby at_277) hr
        · show (some (.int (1 : Int32)) : Option Value) = some (.int (1 : Int32)) ∧ Fr n0 _ ∧ Keep h0 T470.heap []
          exact ⟨rfl, N470, Kc470⟩
      · have fx473 := ((((((pV45.ext E265).ext E267).other W271 (Or.inl ne_b41_b267)).keep K272q (ninS ne_b41_b265 nin0)).ext E280).keep K286q (ninS ne_b41_b280 nin0))
        have fx474 := ((fx283.ext E280).keep K286q (ninS ne_t45_b280 nin0))
        have fx475 := ((fx281.ext E280).keep K286q)
        have fx476 := ((((((pC45.ext E265).ext E267).other W271 (Or.inl ne_b41_b267)).keep K272q (ninS ne_b41_b265 nin0)).ext E280).keep K286q (ninS ne_b41_b280 nin0))
        obtain ⟨cq472, kq472, q472a, q472b, q472c⟩ := isOf hZ rfl po286_0
        obtain ⟨_, _, ⟨T472, L472, k472, n472⟩, -, X472, ⟨Lc472, hQ472, l472, y472, z472⟩, st472⟩ := X286.virtualBack hx (y := (⟨"com/example/narada/narada/store/QueueKey", "equals", "(Ljava/lang/Object;)Z"⟩ : MethodName)) (z := (⟨"com/example/narada/narada/store/QueueKey", "equals", "(Ljava/lang/Object;)Z"⟩ : MethodName)) hown (mvT hZ (hw _ (List.mem_of_getElem? (i := 41) rfl))) (mvT hZ (hw _ (List.mem_of_getElem? (i := 42) rfl))) (notFace_of_selects (args := #[]) (mvT hZ (hw _ (List.mem_of_getElem? (i := 44) rfl)))) (mvT hZ (hw _ (List.mem_of_getElem? (i := 44) rfl))) (mvT hZ (hw _ (List.mem_of_getElem? (i := 43) rfl))) (by decide) (backOf (W := 0) (rm8q l Z a0 hw hS [] b280 b280 b41 b41 p2 p2 t45 kt45 ([a0c, a1c] : List Int32) t45 kt45 ([a0c, a1c] : List Int32) T286.heap n0 O286 po286_0 po286_1 po286_1 po286_2 po286_2 fx475 fx476 fx473 fx474 hp49 (Nat.le_of_ble_eq_true rfl) fx475 fx476 fx473 fx474 hp49 (Nat.le_of_ble_eq_true rfl)) hZ (hw _ (List.mem_of_getElem? (i := 45) rfl)) (hw _ (List.mem_of_getElem? (i := 32) rfl)) (by decide) (by decide)) q472a q472c (g := (mkF m 288 #[oI p0, oI p1, oI p2, oI p3, oI p4, oI sc, oI sa, oI sb, oI si, oI (3 : Int32), oI a0c, oI a1c, oI u, oI b0c, oI b1c, oI jd, oR b41, oR b265, oR b280, oU, oU, oU] [(.ref b280), (.ref b280)])) rfl (by rw [hml]; rfl) (Steps.refl _) (argsL := [(.ref b280)]) (rest := []) (lenOf pd_0 rfl) rfl (by show 2 * 0 + _ ≤ _; exact Nat.le_of_eq rfl) (hb hby at_288) (fun _ _ => ⟨rfl, rfl, (by decide : 7 + 0 ≤ _), (by decide : 16 + 0 ≤ _)⟩)
        dsimp only [Pt.U, Pt.locs, Pt.cells, Pt.slots] at X472 l472 y472 z472 st472 hQ472
        subst l472 y472 z472
        obtain ⟨v472, N472q, K472q⟩ := hQ472
        have w472 : (fn8q Z b280 b280 b41 b41 p2 p2 t45 kt45 ([a0c, a1c] : List Int32) t45 kt45 ([a0c, a1c] : List Int32)) = (1 : Int32) := by unfold fn8q; rw [if_neg (by simp : ¬ ((if ([a0c, a1c] : List Int32) = ([a0c, a1c] : List Int32) then (1 : Int32) else (0 : Int32)) = (0 : Int32))), if_pos (rfl : p2 = p2)]; all_goals first | rfl | decide
        rw [w472] at v472
        subst v472
        have N472 := Fr.app N286 N472q
        have O472 := O286.keep K472q all0
        have Kc472 := Kc286.trans K472q all0
        obtain ⟨fs, hr, hrun, hended, hW, hsame⟩ := X472.leave (v := some (.int (1 : Int32))) (fun h => by rw [Bd.returns] at h; cases h)
        refine ⟨_, _, pre287 _ ?_, hrun, hended, _, _, rfl, ?_, ⟨_, rfl⟩, hW, hsame.mono (by decide) (by decide)⟩
        · show oP p e below T286 (mkF m 231 #[oI p0, oI p1, oI p2, oI p3, oI p4, oI sc, oI sa, oI sb, oI si, oI (3 : Int32), oI a0c, oI a1c, oI u, oI b0c, oI b1c, oI jd, oR b41, oR b265, oR b280, oU, oU, oU] []) _
          refine XS.iload X286.here hx rfl (hb hby at_231) rfl ?_
          show oP p e below T286 (mkF m 233 #[oI p0, oI p1, oI p2, oI p3, oI p4, oI sc, oI sa, oI sb, oI si, oI (3 : Int32), oI a0c, oI a1c, oI u, oI b0c, oI b1c, oI jd, oR b41, oR b265, oR b280, oU, oU, oU] [(.int (3 : Int32))]) _
          refine XS.iconst X286.here hx rfl (hb hby at_233) ?_
          show oP p e below T286 (mkF m 234 #[oI p0, oI p1, oI p2, oI p3, oI p4, oI sc, oI sa, oI sb, oI si, oI (3 : Int32), oI a0c, oI a1c, oI u, oI b0c, oI b1c, oI jd, oR b41, oR b265, oR b280, oU, oU, oU] [(.int (1 : Int32)), (.int (3 : Int32))]) _
          refine XS.icmpYes X286.here hx rfl (pc0 := 234) (pc' := 252) rfl (hb hby at_234) rfl (feq (by decide : ¬ ((3 : Int32) = (1 : Int32)))).2 (by decide) (by decide) ?_
          show oP p e below T286 (mkF m 252 #[oI p0, oI p1, oI p2, oI p3, oI p4, oI sc, oI sa, oI sb, oI si, oI (3 : Int32), oI a0c, oI a1c, oI u, oI b0c, oI b1c, oI jd, oR b41, oR b265, oR b280, oU, oU, oU] []) _
          refine XS.iload X286.here hx rfl (hb hby at_252) rfl ?_
          show oP p e below T286 (mkF m 254 #[oI p0, oI p1, oI p2, oI p3, oI p4, oI sc, oI sa, oI sb, oI si, oI (3 : Int32), oI a0c, oI a1c, oI u, oI b0c, oI b1c, oI jd, oR b41, oR b265, oR b280, oU, oU, oU] [(.int (3 : Int32))]) _
          refine XS.iconst X286.here hx rfl (hb hby at_254) ?_
          show oP p e below T286 (mkF m 255 #[oI p0, oI p1, oI p2, oI p3, oI p4, oI sc, oI sa, oI sb, oI si, oI (3 : Int32), oI a0c, oI a1c, oI u, oI b0c, oI b1c, oI jd, oR b41, oR b265, oR b280, oU, oU, oU] [(.int (2 : Int32)), (.int (3 : Int32))]) _
          refine XS.icmpYes X286.here hx rfl (pc0 := 255) (pc' := 278) rfl (hb hby at_255) rfl (feq (by decide : ¬ ((3 : Int32) = (2 : Int32)))).2 (by decide) (by decide) ?_
          show oP p e below T286 (mkF m 278 #[oI p0, oI p1, oI p2, oI p3, oI p4, oI sc, oI sa, oI sb, oI si, oI (3 : Int32), oI a0c, oI a1c, oI u, oI b0c, oI b1c, oI jd, oR b41, oR b265, oR b280, oU, oU, oU] []) _
          refine XS.iload X286.here hx rfl (hb hby at_278) rfl ?_
          show oP p e below T286 (mkF m 280 #[oI p0, oI p1, oI p2, oI p3, oI p4, oI sc, oI sa, oI sb, oI si, oI (3 : Int32), oI a0c, oI a1c, oI u, oI b0c, oI b1c, oI jd, oR b41, oR b265, oR b280, oU, oU, oU] [(.int (3 : Int32))]) _
          refine XS.iconst X286.here hx rfl (hb hby at_280) ?_
          show oP p e below T286 (mkF m 281 #[oI p0, oI p1, oI p2, oI p3, oI p4, oI sc, oI sa, oI sb, oI si, oI (3 : Int32), oI a0c, oI a1c, oI u, oI b0c, oI b1c, oI jd, oR b41, oR b265, oR b280, oU, oU, oU] [(.int (3 : Int32)), (.int (3 : Int32))]) _
          refine XS.icmpNo X286.here hx rfl (hb hby at_281) rfl (teq (by decide : (3 : Int32) = (3 : Int32))).2 ?_
          show oP p e below T286 (mkF m 284 #[oI p0, oI p1, oI p2, oI p3, oI p4, oI sc, oI sa, oI sb, oI si, oI (3 : Int32), oI a0c, oI a1c, oI u, oI b0c, oI b1c, oI jd, oR b41, oR b265, oR b280, oU, oU, oU] []) _
          refine XS.aload X286.here hx rfl (hb hby at_284) rfl rfl ?_
          show oP p e below T286 (mkF m 286 #[oI p0, oI p1, oI p2, oI p3, oI p4, oI sc, oI sa, oI sb, oI si, oI (3 : Int32), oI a0c, oI a1c, oI u, oI b0c, oI b1c, oI jd, oR b41, oR b265, oR b280, oU, oU, oU] [(.ref b280)]) _
          refine XS.aload X286.here hx rfl (hb hby at_286) rfl rfl ?_
          show oP p e below T286 (mkF m 288 #[oI p0, oI p1, oI p2, oI p3, oI p4, oI sc, oI sa, oI sb, oI si, oI (3 : Int32), oI a0c, oI a1c, oI u, oI b0c, oI b1c, oI jd, oR b41, oR b265, oR b280, oU, oU, oU] [(.ref b280), (.ref b280)]) _
          refine st472.trans ?_
          show oP p e below T472 (mkF m 291 #[oI p0, oI p1, oI p2, oI p3, oI p4, oI sc, oI sa, oI sb, oI si, oI (3 : Int32), oI a0c, oI a1c, oI u, oI b0c, oI b1c, oI jd, oR b41, oR b265, oR b280, oU, oU, oU] [(.int (1 : Int32))]) _
          exact retN X472 hx (t := .boolean) Bd.returns (by simp) (hb hby at_291) hr
        · show (some (.int (1 : Int32)) : Option Value) = some (.int (1 : Int32)) ∧ Fr n0 _ ∧ Keep h0 T472.heap []
          exact ⟨rfl, N472, Kc472⟩
  · obtain ⟨T477, h477, X477, e477, E477, A477, D477, -, st477⟩ := newO X0 hx hZ hown (hw _ (List.mem_of_getElem? (i := 0) rfl)) (hw _ (List.mem_of_getElem? (i := 1) rfl)) (hw _ (List.mem_of_getElem? (i := 2) rfl)) e0 (g := (mkF m 134 #[oI p0, oI p1, oI p2, oI p3, oI p4, oI sc, oI sa, oI sb, oI si, oI kd, oI a0c, oI a1c, oI u, oI b0c, oI b1c, oI jd, oU, oU, oU, oU, oU, oU] [])) rfl (hb hby at_134) (by decide) (by decide)
    obtain ⟨b477, g477⟩ : ∃ z, z = h0.size := ⟨_, rfl⟩
    have g_b477 : n0 ≤ b477 := Nat.le_trans (own_old_le O0) (Nat.le_of_eq g477.symm)
    have sz_b477 : h0.size ≤ b477 := Nat.le_trans (Keep.refl h0 []).1 (Nat.le_of_eq g477.symm)
    rw [← g477] at A477 D477 st477
    have O477 := O0.ext E477
    have Kc477 := (Keep.refl h0 []).ext E477
    have F_coder_b477 : Fld Z h477 b477 "java/lang/String" "coder" "B" (.int (0 : Int32)) := D477 (Or.inr (hw _ (List.mem_of_getElem? (i := 27) rfl))) (ty := .byte) (by decide)
    have F_value_b477 : Fld Z h477 b477 "java/lang/String" "value" "[B" .null := D477 (Or.inr (hw _ (List.mem_of_getElem? (i := 29) rfl))) (ty := (.array .byte)) (by decide)
    obtain ⟨T478, h478, k478, X478, e478, E478, A478, st478⟩ := newP X477 hx hZ (hw _ (List.mem_of_getElem? (i := 3) rfl)) e477 (g := (mkF m 139 #[oI p0, oI p1, oI p2, oI p3, oI p4, oI sc, oI sa, oI sb, oI si, oI kd, oI a0c, oI a1c, oI u, oI b0c, oI b1c, oI jd, oU, oU, oU, oU, oU, oU] [(.int (1 : Int32)), (.ref b477), (.ref b477)])) rfl (hb hby at_139) rfl (by decide) (cap := 1) (by decide) (by decide) (by decide) (by decide)
    obtain ⟨b478, g478⟩ : ∃ z, z = h477.size := ⟨_, rfl⟩
    have g_b478 : n0 ≤ b478 := Nat.le_trans (own_old_le O477) (Nat.le_of_eq g478.symm)
    have sz_b478 : h0.size ≤ b478 := Nat.le_trans Kc477.1 (Nat.le_of_eq g478.symm)
    have ne_b477_b478 : b477 ≠ b478 := Nat.ne_of_lt (Nat.lt_of_lt_of_le A477.lt (Nat.le_of_eq g478.symm))
    rw [← g478] at A478 st478
    have O478 := O477.ext E478
    have Kc478 := Kc477.ext E478
    have V478 : Arv Z h478 b478 k478 .char (1 : Int32) [(.int (0 : Int32))] (.int (0 : Int32)) := (Arv.new A478 (by decide)).pad (pad_rep [] (.int (0 : Int32)) 1)
    obtain ⟨T479, h479, X479, e479, W479, V479', st479⟩ := own_stC X478 hx hZ e478 V478 (j := (0 : Int32)) ⟨by decide, by decide⟩ rfl (by decide : ((0 : Int32) : Int32).toNatClampNeg < 1) (g := (mkF m 145 #[oI p0, oI p1, oI p2, oI p3, oI p4, oI sc, oI sa, oI sb, oI si, oI kd, oI a0c, oI a1c, oI u, oI b0c, oI b1c, oI jd, oU, oU, oU, oU, oU, oU] [(.int a0c), (.int (0 : Int32)), (.ref b478), (.ref b478), (.ref b477), (.ref b477)])) rfl rfl (hb hby at_145)
    rw [own_narc ra0c] at W479 V479'
    have N479 := Fr.snoc X479 N0 g_b478
    have O479 := O478.wr W479 g_b478
    have Kc479 := Kc478.wr W479 (Or.inr sz_b478)
    have V479 : Arv Z h479 b478 k478 .char (1 : Int32) [(.int a0c)] (.int (0 : Int32)) := V479'
    have fx481 := ((A477.ext E478).wr W479)
    have fx482 := ((F_value_b477.ext E478).other W479 (Or.inl ne_b477_b478))
    have fx483 := ((F_coder_b477.ext E478).other W479 (Or.inl ne_b477_b478))
    have hp484 : ∀ c ∈ ([a0c] : List Int32), ¬ c < 0 ∧ ¬ (255 : Int32) < c := by
      intro c hc
      simp only [List.mem_cons, List.not_mem_nil, or_false] at hc
      rcases hc with rfl
      · exact ra0c
    obtain ⟨_, _, ⟨T480, L480, k480, n480⟩, -, X480, ⟨Lc480, hQ480, l480, y480, z480⟩, st480⟩ := X479.specialBack hx (y := (⟨"java/lang/String", "<init>", "([C)V"⟩ : MethodName)) rfl hown (mvT hZ (hw _ (List.mem_of_getElem? (i := 4) rfl))) (mvT hZ (hw _ (List.mem_of_getElem? (i := 5) rfl))) (mvT hZ (hw _ (List.mem_of_getElem? (i := 6) rfl))) (by decide) (StrChars.Road.backV (W := 1) hZ (own_ws hw) (kI := 4) (hw _ (List.mem_of_getElem? (i := 1) rfl)) (cs := ([a0c] : List Int32)) (bs := (([a0c] : List Int32)).map (fun c => c.toInt8.toInt32)) (n := 1) g_b477 (own_old_le O479) fx481 fx482 fx483 V479 ((s_compact hS).ext O479.2) (n_compact hS) rfl rfl (by decide) (by decide) hp484 rfl (by decide) (by decide)) (g := (mkF m 146 #[oI p0, oI p1, oI p2, oI p3, oI p4, oI sc, oI sa, oI sb, oI si, oI kd, oI a0c, oI a1c, oI u, oI b0c, oI b1c, oI jd, oU, oU, oU, oU, oU, oU] [(.ref b478), (.ref b477), (.ref b477)])) rfl (by rw [hml]; rfl) (Steps.refl _) (a := b477) (argsL := [(.ref b478)]) (rest := [(.ref b477)]) (lenOf pd_1 rfl) rfl (by show 2 * 0 + _ ≤ _; exact Nat.le_of_eq rfl) (hb hby at_146) (fun _ _ => ⟨rfl, e479, (by decide : 2 + 1 ≤ _), (by decide : 5 + 1 ≤ _)⟩)
    dsimp only [Pt.U, Pt.locs, Pt.cells, Pt.slots] at X480 l480 y480 z480 st480 hQ480
    subst l480 y480 z480
    obtain ⟨v480, N480q, K480q, pE480, pC480, t480, kt480, g_t480, hs480, ns480, pV480, pA480⟩ := hQ480
    subst v480
    have N480 := Fr.app N479 N480q
    have ne_b477_t480 : b477 ≠ t480 := Nat.ne_of_lt (Nat.lt_of_lt_of_le fx481.lt hs480)
    have ne_b478_t480 : b478 ≠ t480 := Nat.ne_of_lt (Nat.lt_of_lt_of_le V479.lt hs480)
    have sz_t480 : h0.size ≤ t480 := Nat.le_trans Kc479.1 hs480
    have O480 := O479.keep K480q (allS g_b477 all0)
    have Kc480 := Kc479.trans K480q (allS (Or.inr sz_b477) all0)
    have pre485 : ∀ t, oP p e below T480 (mkF m 176 #[oI p0, oI p1, oI p2, oI p3, oI p4, oI sc, oI sa, oI sb, oI si, oI kd, oI a0c, oI a1c, oI u, oI b0c, oI b1c, oI jd, oR b477, oU, oU, oU, oU, oU] [(.int sb)]) t → oP p e below s₁ (entryFrame m #[(.int p0), (.int p1), (.int p2), (.int p3), (.int p4)] maxLocals) t := fun t k => pre39 t (by
      show oP p e below s₁ (mkF m 131 #[oI p0, oI p1, oI p2, oI p3, oI p4, oI sc, oI sa, oI sb, oI si, oI kd, oI a0c, oI a1c, oI u, oI b0c, oI b1c, oI jd, oU, oU, oU, oU, oU, oU] [(.int sa)]) _
      refine XS.ifNo X0.here hx rfl (hb hby at_131) rfl ((if0 _ _).trans (feq hc40).1) ?_
      show oP p e below s₁ (mkF m 134 #[oI p0, oI p1, oI p2, oI p3, oI p4, oI sc, oI sa, oI sb, oI si, oI kd, oI a0c, oI a1c, oI u, oI b0c, oI b1c, oI jd, oU, oU, oU, oU, oU, oU] []) _
      refine st477 _ ?_
      show oP p e below T477 (mkF m 137 #[oI p0, oI p1, oI p2, oI p3, oI p4, oI sc, oI sa, oI sb, oI si, oI kd, oI a0c, oI a1c, oI u, oI b0c, oI b1c, oI jd, oU, oU, oU, oU, oU, oU] [(.ref b477)]) _
      refine XS.dup X477.here hx rfl (hb hby at_137) rfl rfl ?_
      show oP p e below T477 (mkF m 138 #[oI p0, oI p1, oI p2, oI p3, oI p4, oI sc, oI sa, oI sb, oI si, oI kd, oI a0c, oI a1c, oI u, oI b0c, oI b1c, oI jd, oU, oU, oU, oU, oU, oU] [(.ref b477), (.ref b477)]) _
      refine XS.iconst X477.here hx rfl (hb hby at_138) ?_
      show oP p e below T477 (mkF m 139 #[oI p0, oI p1, oI p2, oI p3, oI p4, oI sc, oI sa, oI sb, oI si, oI kd, oI a0c, oI a1c, oI u, oI b0c, oI b1c, oI jd, oU, oU, oU, oU, oU, oU] [(.int (1 : Int32)), (.ref b477), (.ref b477)]) _
      refine st478 _ ?_
      show oP p e below T478 (mkF m 141 #[oI p0, oI p1, oI p2, oI p3, oI p4, oI sc, oI sa, oI sb, oI si, oI kd, oI a0c, oI a1c, oI u, oI b0c, oI b1c, oI jd, oU, oU, oU, oU, oU, oU] [(.ref b478), (.ref b477), (.ref b477)]) _
      refine XS.dup X478.here hx rfl (hb hby at_141) rfl rfl ?_
      show oP p e below T478 (mkF m 142 #[oI p0, oI p1, oI p2, oI p3, oI p4, oI sc, oI sa, oI sb, oI si, oI kd, oI a0c, oI a1c, oI u, oI b0c, oI b1c, oI jd, oU, oU, oU, oU, oU, oU] [(.ref b478), (.ref b478), (.ref b477), (.ref b477)]) _
      refine XS.iconst X478.here hx rfl (hb hby at_142) ?_
      show oP p e below T478 (mkF m 143 #[oI p0, oI p1, oI p2, oI p3, oI p4, oI sc, oI sa, oI sb, oI si, oI kd, oI a0c, oI a1c, oI u, oI b0c, oI b1c, oI jd, oU, oU, oU, oU, oU, oU] [(.int (0 : Int32)), (.ref b478), (.ref b478), (.ref b477), (.ref b477)]) _
      refine XS.iload X478.here hx rfl (hb hby at_143) rfl ?_
      show oP p e below T478 (mkF m 145 #[oI p0, oI p1, oI p2, oI p3, oI p4, oI sc, oI sa, oI sb, oI si, oI kd, oI a0c, oI a1c, oI u, oI b0c, oI b1c, oI jd, oU, oU, oU, oU, oU, oU] [(.int a0c), (.int (0 : Int32)), (.ref b478), (.ref b478), (.ref b477), (.ref b477)]) _
      refine st479 _ ?_
      show oP p e below T479 (mkF m 146 #[oI p0, oI p1, oI p2, oI p3, oI p4, oI sc, oI sa, oI sb, oI si, oI kd, oI a0c, oI a1c, oI u, oI b0c, oI b1c, oI jd, oU, oU, oU, oU, oU, oU] [(.ref b478), (.ref b477), (.ref b477)]) _
      refine st480.trans ?_
      show oP p e below T480 (mkF m 149 #[oI p0, oI p1, oI p2, oI p3, oI p4, oI sc, oI sa, oI sb, oI si, oI kd, oI a0c, oI a1c, oI u, oI b0c, oI b1c, oI jd, oU, oU, oU, oU, oU, oU] [(.ref b477)]) _
      refine XS.goto X480.here hx rfl (pc0 := 149) (pc' := 172) rfl (hb hby at_149) (by decide) (by decide) ?_
      show oP p e below T480 (mkF m 172 #[oI p0, oI p1, oI p2, oI p3, oI p4, oI sc, oI sa, oI sb, oI si, oI kd, oI a0c, oI a1c, oI u, oI b0c, oI b1c, oI jd, oU, oU, oU, oU, oU, oU] [(.ref b477)]) _
      refine XS.astore X480.here hx rfl (hb hby at_172) rfl rfl (l' := #[oI p0, oI p1, oI p2, oI p3, oI p4, oI sc, oI sa, oI sb, oI si, oI kd, oI a0c, oI a1c, oI u, oI b0c, oI b1c, oI jd, oR b477, oU, oU, oU, oU, oU]) rfl ?_
      show oP p e below T480 (mkF m 174 #[oI p0, oI p1, oI p2, oI p3, oI p4, oI sc, oI sa, oI sb, oI si, oI kd, oI a0c, oI a1c, oI u, oI b0c, oI b1c, oI jd, oR b477, oU, oU, oU, oU, oU] []) _
      refine XS.iload X480.here hx rfl (hb hby at_174) rfl ?_
      exact k)
    by_cases hc486 : sb = (0 : Int32)
    · obtain ⟨T487, h487, X487, e487, E487, A487, D487, -, st487⟩ := newO X480 hx hZ hown (hw _ (List.mem_of_getElem? (i := 0) rfl)) (hw _ (List.mem_of_getElem? (i := 1) rfl)) (hw _ (List.mem_of_getElem? (i := 2) rfl)) rfl (g := (mkF m 197 #[oI p0, oI p1, oI p2, oI p3, oI p4, oI sc, oI sa, oI sb, oI si, oI kd, oI a0c, oI a1c, oI u, oI b0c, oI b1c, oI jd, oR b477, oU, oU, oU, oU, oU] [])) rfl (hb hby at_197) (by decide) (by decide)
      obtain ⟨b487, g487⟩ : ∃ z, z = T480.heap.size := ⟨_, rfl⟩
      have g_b487 : n0 ≤ b487 := Nat.le_trans (own_old_le O480) (Nat.le_of_eq g487.symm)
      have sz_b487 : h0.size ≤ b487 := Nat.le_trans Kc480.1 (Nat.le_of_eq g487.symm)
      have ne_b477_b487 : b477 ≠ b487 := Nat.ne_of_lt (Nat.lt_of_lt_of_le pE480.lt (Nat.le_of_eq g487.symm))
      have fx488 := (V479.keep K480q (ninS (Ne.symm ne_b477_b478) nin0))
      have ne_b478_b487 : b478 ≠ b487 := Nat.ne_of_lt (Nat.lt_of_lt_of_le fx488.lt (Nat.le_of_eq g487.symm))
      have ne_t480_b487 : t480 ≠ b487 := Nat.ne_of_lt (Nat.lt_of_lt_of_le pA480.lt (Nat.le_of_eq g487.symm))
      rw [← g487] at A487 D487 st487
      have O487 := O480.ext E487
      have Kc487 := Kc480.ext E487
      have F_coder_b487 : Fld Z h487 b487 "java/lang/String" "coder" "B" (.int (0 : Int32)) := D487 (Or.inr (hw _ (List.mem_of_getElem? (i := 27) rfl))) (ty := .byte) (by decide)
      have F_value_b487 : Fld Z h487 b487 "java/lang/String" "value" "[B" .null := D487 (Or.inr (hw _ (List.mem_of_getElem? (i := 29) rfl))) (ty := (.array .byte)) (by decide)
      obtain ⟨T489, h489, k489, X489, e489, E489, A489, st489⟩ := newP X487 hx hZ (hw _ (List.mem_of_getElem? (i := 3) rfl)) e487 (g := (mkF m 202 #[oI p0, oI p1, oI p2, oI p3, oI p4, oI sc, oI sa, oI sb, oI si, oI kd, oI a0c, oI a1c, oI u, oI b0c, oI b1c, oI jd, oR b477, oU, oU, oU, oU, oU] [(.int (2 : Int32)), (.ref b487), (.ref b487)])) rfl (hb hby at_202) rfl (by decide) (cap := 2) (by decide) (by decide) (by decide) (by decide)
      obtain ⟨b489, g489⟩ : ∃ z, z = h487.size := ⟨_, rfl⟩
      have g_b489 : n0 ≤ b489 := Nat.le_trans (own_old_le O487) (Nat.le_of_eq g489.symm)
      have sz_b489 : h0.size ≤ b489 := Nat.le_trans Kc487.1 (Nat.le_of_eq g489.symm)
      have fx490 := (pE480.ext E487)
      have ne_b477_b489 : b477 ≠ b489 := Nat.ne_of_lt (Nat.lt_of_lt_of_le fx490.lt (Nat.le_of_eq g489.symm))
      have fx491 := (fx488.ext E487)
      have ne_b478_b489 : b478 ≠ b489 := Nat.ne_of_lt (Nat.lt_of_lt_of_le fx491.lt (Nat.le_of_eq g489.symm))
      have fx492 := (pA480.ext E487)
      have ne_t480_b489 : t480 ≠ b489 := Nat.ne_of_lt (Nat.lt_of_lt_of_le fx492.lt (Nat.le_of_eq g489.symm))
      have ne_b487_b489 : b487 ≠ b489 := Nat.ne_of_lt (Nat.lt_of_lt_of_le A487.lt (Nat.le_of_eq g489.symm))
      rw [← g489] at A489 st489
      have O489 := O487.ext E489
      have Kc489 := Kc487.ext E489
      have V489 : Arv Z h489 b489 k489 .char (2 : Int32) [(.int (0 : Int32)), (.int (0 : Int32))] (.int (0 : Int32)) := (Arv.new A489 (by decide)).pad (pad_rep [] (.int (0 : Int32)) 2)
      obtain ⟨T493, h493, X493, e493, W493, V493', st493⟩ := own_stC X489 hx hZ e489 V489 (j := (0 : Int32)) ⟨by decide, by decide⟩ rfl (by decide : ((0 : Int32) : Int32).toNatClampNeg < 2) (g := (mkF m 208 #[oI p0, oI p1, oI p2, oI p3, oI p4, oI sc, oI sa, oI sb, oI si, oI kd, oI a0c, oI a1c, oI u, oI b0c, oI b1c, oI jd, oR b477, oU, oU, oU, oU, oU] [(.int b0c), (.int (0 : Int32)), (.ref b489), (.ref b489), (.ref b487), (.ref b487)])) rfl rfl (hb hby at_208)
      rw [own_narc rb0c] at W493 V493'
      have N493 := Fr.snoc X493 N480 g_b489
      have O493 := O489.wr W493 g_b489
      have Kc493 := Kc489.wr W493 (Or.inr sz_b489)
      have V493 : Arv Z h493 b489 k489 .char (2 : Int32) [(.int b0c), (.int (0 : Int32))] (.int (0 : Int32)) := V493'
      obtain ⟨T494, h494, X494, e494, W494, V494', st494⟩ := own_stC X493 hx hZ e493 V493 (j := (1 : Int32)) ⟨by decide, by decide⟩ rfl (by decide : ((1 : Int32) : Int32).toNatClampNeg < 2) (g := (mkF m 213 #[oI p0, oI p1, oI p2, oI p3, oI p4, oI sc, oI sa, oI sb, oI si, oI kd, oI a0c, oI a1c, oI u, oI b0c, oI b1c, oI jd, oR b477, oU, oU, oU, oU, oU] [(.int b1c), (.int (1 : Int32)), (.ref b489), (.ref b489), (.ref b487), (.ref b487)])) rfl rfl (hb hby at_213)
      rw [own_narc rb1c] at W494 V494'
      have N494 := Fr.snoc X494 N493 g_b489
      have O494 := O493.wr W494 g_b489
      have Kc494 := Kc493.wr W494 (Or.inr sz_b489)
      have V494 : Arv Z h494 b489 k489 .char (2 : Int32) [(.int b0c), (.int b1c)] (.int (0 : Int32)) := V494'
      have fx496 := (((A487.ext E489).wr W493).wr W494)
      have fx497 := (((F_value_b487.ext E489).other W493 (Or.inl ne_b487_b489)).other W494 (Or.inl ne_b487_b489))
      have fx498 := (((F_coder_b487.ext E489).other W493 (Or.inl ne_b487_b489)).other W494 (Or.inl ne_b487_b489))
      have hp499 : ∀ c ∈ ([b0c, b1c] : List Int32), ¬ c < 0 ∧ ¬ (255 : Int32) < c := by
        intro c hc
        simp only [List.mem_cons, List.not_mem_nil, or_false] at hc
        rcases hc with rfl | rfl
        · exact rb0c
        · exact rb1c
      obtain ⟨_, _, ⟨T495, L495, k495, n495⟩, -, X495, ⟨Lc495, hQ495, l495, y495, z495⟩, st495⟩ := X494.specialBack hx (y := (⟨"java/lang/String", "<init>", "([C)V"⟩ : MethodName)) rfl hown (mvT hZ (hw _ (List.mem_of_getElem? (i := 4) rfl))) (mvT hZ (hw _ (List.mem_of_getElem? (i := 5) rfl))) (mvT hZ (hw _ (List.mem_of_getElem? (i := 6) rfl))) (by decide) (StrChars.Road.backV (W := 1) hZ (own_ws hw) (kI := 4) (hw _ (List.mem_of_getElem? (i := 1) rfl)) (cs := ([b0c, b1c] : List Int32)) (bs := (([b0c, b1c] : List Int32)).map (fun c => c.toInt8.toInt32)) (n := 2) g_b487 (own_old_le O494) fx496 fx497 fx498 V494 ((s_compact hS).ext O494.2) (n_compact hS) rfl rfl (by decide) (by decide) hp499 rfl (by decide) (by decide)) (g := (mkF m 214 #[oI p0, oI p1, oI p2, oI p3, oI p4, oI sc, oI sa, oI sb, oI si, oI kd, oI a0c, oI a1c, oI u, oI b0c, oI b1c, oI jd, oR b477, oU, oU, oU, oU, oU] [(.ref b489), (.ref b487), (.ref b487)])) rfl (by rw [hml]; rfl) (Steps.refl _) (a := b487) (argsL := [(.ref b489)]) (rest := [(.ref b487)]) (lenOf pd_1 rfl) rfl (by show 2 * 0 + _ ≤ _; exact Nat.le_of_eq rfl) (hb hby at_214) (fun _ _ => ⟨rfl, e494, (by decide : 5 + 1 ≤ _), (by decide : 12 + 2 ≤ _)⟩)
      dsimp only [Pt.U, Pt.locs, Pt.cells, Pt.slots] at X495 l495 y495 z495 st495 hQ495
      subst l495 y495 z495
      obtain ⟨v495, N495q, K495q, pE495, pC495, t495, kt495, g_t495, hs495, ns495, pV495, pA495⟩ := hQ495
      subst v495
      have N495 := Fr.app N494 N495q
      have fx500 := (((fx490.ext E489).wr W493).wr W494)
      have ne_b477_t495 : b477 ≠ t495 := Nat.ne_of_lt (Nat.lt_of_lt_of_le fx500.lt hs495)
      have fx501 := (((fx491.ext E489).other W493 ne_b478_b489).other W494 ne_b478_b489)
      have ne_b478_t495 : b478 ≠ t495 := Nat.ne_of_lt (Nat.lt_of_lt_of_le fx501.lt hs495)
      have fx502 := (((fx492.ext E489).other W493 ne_t480_b489).other W494 ne_t480_b489)
      have ne_t480_t495 : t480 ≠ t495 := Nat.ne_of_lt (Nat.lt_of_lt_of_le fx502.lt hs495)
      have ne_b487_t495 : b487 ≠ t495 := Nat.ne_of_lt (Nat.lt_of_lt_of_le fx496.lt hs495)
      have ne_b489_t495 : b489 ≠ t495 := Nat.ne_of_lt (Nat.lt_of_lt_of_le V494.lt hs495)
      have sz_t495 : h0.size ≤ t495 := Nat.le_trans Kc494.1 hs495
      have O495 := O494.keep K495q (allS g_b487 all0)
      have Kc495 := Kc494.trans K495q (allS (Or.inr sz_b487) all0)
      obtain ⟨T503, h503, X503, e503, E503, A503, D503, -, st503⟩ := newO X495 hx hZ hown (hw _ (List.mem_of_getElem? (i := 30) rfl)) (hw _ (List.mem_of_getElem? (i := 31) rfl)) (hw _ (List.mem_of_getElem? (i := 32) rfl)) rfl (g := (mkF m 219 #[oI p0, oI p1, oI p2, oI p3, oI p4, oI sc, oI sa, oI sb, oI si, oI kd, oI a0c, oI a1c, oI u, oI b0c, oI b1c, oI jd, oR b477, oR b487, oU, oU, oU, oU] [])) rfl (hb hby at_219) (by decide) (by decide)
      obtain ⟨b503, g503⟩ : ∃ z, z = T495.heap.size := ⟨_, rfl⟩
      have g_b503 : n0 ≤ b503 := Nat.le_trans (own_old_le O495) (Nat.le_of_eq g503.symm)
      have sz_b503 : h0.size ≤ b503 := Nat.le_trans Kc495.1 (Nat.le_of_eq g503.symm)
      have fx504 := (fx500.keep K495q)
      have ne_b477_b503 : b477 ≠ b503 := Nat.ne_of_lt (Nat.lt_of_lt_of_le fx504.lt (Nat.le_of_eq g503.symm))
      have fx505 := (fx501.keep K495q (ninS ne_b478_b487 nin0))
      have ne_b478_b503 : b478 ≠ b503 := Nat.ne_of_lt (Nat.lt_of_lt_of_le fx505.lt (Nat.le_of_eq g503.symm))
      have fx506 := (fx502.keep K495q (ninS ne_t480_b487 nin0))
      have ne_t480_b503 : t480 ≠ b503 := Nat.ne_of_lt (Nat.lt_of_lt_of_le fx506.lt (Nat.le_of_eq g503.symm))
      have ne_b487_b503 : b487 ≠ b503 := Nat.ne_of_lt (Nat.lt_of_lt_of_le pE495.lt (Nat.le_of_eq g503.symm))
      have fx507 := (V494.keep K495q (ninS (Ne.symm ne_b487_b489) nin0))
      have ne_b489_b503 : b489 ≠ b503 := Nat.ne_of_lt (Nat.lt_of_lt_of_le fx507.lt (Nat.le_of_eq g503.symm))
      have ne_t495_b503 : t495 ≠ b503 := Nat.ne_of_lt (Nat.lt_of_lt_of_le pA495.lt (Nat.le_of_eq g503.symm))
      rw [← g503] at A503 D503 st503
      have O503 := O495.ext E503
      have Kc503 := Kc495.ext E503
      have F_topic_b503 : Fld Z h503 b503 "com/example/narada/narada/store/QueueKey" "topic" "Ljava/lang/String;" .null := D503 (Or.inr (hw _ (List.mem_of_getElem? (i := 38) rfl))) (ty := (.object "java/lang/String")) (by decide)
      have F_queueId_b503 : Fld Z h503 b503 "com/example/narada/narada/store/QueueKey" "queueId" "I" (.int (0 : Int32)) := D503 (Or.inr (hw _ (List.mem_of_getElem? (i := 40) rfl))) (ty := .int) (by decide)
      obtain ⟨lo508, X508, N508⟩ := own_hide X503 N495
      obtain ⟨_, _, ⟨T509, L509, k509, n509⟩, -, X509, ⟨Lc509, hQ509, l509, y509, z509⟩, st509⟩ := X508.specialBack hx (y := (⟨"com/example/narada/narada/store/QueueKey", "<init>", "(Ljava/lang/String;I)V"⟩ : MethodName)) rfl hown (mvT hZ (hw _ (List.mem_of_getElem? (i := 33) rfl))) (mvT hZ (hw _ (List.mem_of_getElem? (i := 34) rfl))) (mvT hZ (hw _ (List.mem_of_getElem? (i := 35) rfl))) (by decide) (backOf (W := 1) (rm7 l Z a0 hw hS [] b503 b477 p2 h503 n0 O503 A503 F_topic_b503 F_queueId_b503 g_b503) hZ (hw _ (List.mem_of_getElem? (i := 35) rfl)) (hw _ (List.mem_of_getElem? (i := 32) rfl)) (by decide) (by decide)) (g := (mkF m 226 #[oI p0, oI p1, oI p2, oI p3, oI p4, oI sc, oI sa, oI sb, oI si, oI kd, oI a0c, oI a1c, oI u, oI b0c, oI b1c, oI jd, oR b477, oR b487, oU, oU, oU, oU] [(.int p2), (.ref b477), (.ref b503), (.ref b503)])) rfl (by rw [hml]; rfl) (Steps.refl _) (a := b503) (argsL := [(.ref b477), (.int p2)]) (rest := [(.ref b503)]) (lenOf pd_2 rfl) rfl (by show 2 * 0 + _ ≤ _; exact Nat.le_of_eq rfl) (hb hby at_226) (fun _ _ => ⟨rfl, e503, (by decide : 7 + 0 ≤ _), (by decide : 16 + 0 ≤ _)⟩)
      dsimp only [Pt.U, Pt.locs, Pt.cells, Pt.slots] at X509 l509 y509 z509 st509 hQ509
      subst l509 y509 z509
      obtain ⟨v509, N509q, K509q, po509_0, po509_1, po509_2⟩ := hQ509
      subst v509
      have N509 := Fr.app N508 N509q
      have O509 := O503.keep K509q (allS g_b503 all0)
      have Kc509 := Kc503.trans K509q (allS (Or.inr sz_b503) all0)
      have pre510 : ∀ t, oP p e below T509 (mkF m 231 #[oI p0, oI p1, oI p2, oI p3, oI p4, oI sc, oI sa, oI sb, oI si, oI kd, oI a0c, oI a1c, oI u, oI b0c, oI b1c, oI jd, oR b477, oR b487, oR b503, oU, oU, oU] []) t → oP p e below s₁ (entryFrame m #[(.int p0), (.int p1), (.int p2), (.int p3), (.int p4)] maxLocals) t := fun t k => pre485 t (by
        show oP p e below T480 (mkF m 176 #[oI p0, oI p1, oI p2, oI p3, oI p4, oI sc, oI sa, oI sb, oI si, oI kd, oI a0c, oI a1c, oI u, oI b0c, oI b1c, oI jd, oR b477, oU, oU, oU, oU, oU] [(.int sb)]) _
        refine XS.ifYes X480.here hx rfl (pc0 := 176) (pc' := 197) rfl (hb hby at_176) rfl ((if0 _ _).trans (teq hc486).1) (by decide) (by decide) ?_
        show oP p e below T480 (mkF m 197 #[oI p0, oI p1, oI p2, oI p3, oI p4, oI sc, oI sa, oI sb, oI si, oI kd, oI a0c, oI a1c, oI u, oI b0c, oI b1c, oI jd, oR b477, oU, oU, oU, oU, oU] []) _
        refine st487 _ ?_
        show oP p e below T487 (mkF m 200 #[oI p0, oI p1, oI p2, oI p3, oI p4, oI sc, oI sa, oI sb, oI si, oI kd, oI a0c, oI a1c, oI u, oI b0c, oI b1c, oI jd, oR b477, oU, oU, oU, oU, oU] [(.ref b487)]) _
        refine XS.dup X487.here hx rfl (hb hby at_200) rfl rfl ?_
        show oP p e below T487 (mkF m 201 #[oI p0, oI p1, oI p2, oI p3, oI p4, oI sc, oI sa, oI sb, oI si, oI kd, oI a0c, oI a1c, oI u, oI b0c, oI b1c, oI jd, oR b477, oU, oU, oU, oU, oU] [(.ref b487), (.ref b487)]) _
        refine XS.iconst X487.here hx rfl (hb hby at_201) ?_
        show oP p e below T487 (mkF m 202 #[oI p0, oI p1, oI p2, oI p3, oI p4, oI sc, oI sa, oI sb, oI si, oI kd, oI a0c, oI a1c, oI u, oI b0c, oI b1c, oI jd, oR b477, oU, oU, oU, oU, oU] [(.int (2 : Int32)), (.ref b487), (.ref b487)]) _
        refine st489 _ ?_
        show oP p e below T489 (mkF m 204 #[oI p0, oI p1, oI p2, oI p3, oI p4, oI sc, oI sa, oI sb, oI si, oI kd, oI a0c, oI a1c, oI u, oI b0c, oI b1c, oI jd, oR b477, oU, oU, oU, oU, oU] [(.ref b489), (.ref b487), (.ref b487)]) _
        refine XS.dup X489.here hx rfl (hb hby at_204) rfl rfl ?_
        show oP p e below T489 (mkF m 205 #[oI p0, oI p1, oI p2, oI p3, oI p4, oI sc, oI sa, oI sb, oI si, oI kd, oI a0c, oI a1c, oI u, oI b0c, oI b1c, oI jd, oR b477, oU, oU, oU, oU, oU] [(.ref b489), (.ref b489), (.ref b487), (.ref b487)]) _
        refine XS.iconst X489.here hx rfl (hb hby at_205) ?_
        show oP p e below T489 (mkF m 206 #[oI p0, oI p1, oI p2, oI p3, oI p4, oI sc, oI sa, oI sb, oI si, oI kd, oI a0c, oI a1c, oI u, oI b0c, oI b1c, oI jd, oR b477, oU, oU, oU, oU, oU] [(.int (0 : Int32)), (.ref b489), (.ref b489), (.ref b487), (.ref b487)]) _
        refine XS.iload X489.here hx rfl (hb hby at_206) rfl ?_
        show oP p e below T489 (mkF m 208 #[oI p0, oI p1, oI p2, oI p3, oI p4, oI sc, oI sa, oI sb, oI si, oI kd, oI a0c, oI a1c, oI u, oI b0c, oI b1c, oI jd, oR b477, oU, oU, oU, oU, oU] [(.int b0c), (.int (0 : Int32)), (.ref b489), (.ref b489), (.ref b487), (.ref b487)]) _
        refine st493 _ ?_
        show oP p e below T493 (mkF m 209 #[oI p0, oI p1, oI p2, oI p3, oI p4, oI sc, oI sa, oI sb, oI si, oI kd, oI a0c, oI a1c, oI u, oI b0c, oI b1c, oI jd, oR b477, oU, oU, oU, oU, oU] [(.ref b489), (.ref b487), (.ref b487)]) _
        refine XS.dup X493.here hx rfl (hb hby at_209) rfl rfl ?_
        show oP p e below T493 (mkF m 210 #[oI p0, oI p1, oI p2, oI p3, oI p4, oI sc, oI sa, oI sb, oI si, oI kd, oI a0c, oI a1c, oI u, oI b0c, oI b1c, oI jd, oR b477, oU, oU, oU, oU, oU] [(.ref b489), (.ref b489), (.ref b487), (.ref b487)]) _
        refine XS.iconst X493.here hx rfl (hb hby at_210) ?_
        show oP p e below T493 (mkF m 211 #[oI p0, oI p1, oI p2, oI p3, oI p4, oI sc, oI sa, oI sb, oI si, oI kd, oI a0c, oI a1c, oI u, oI b0c, oI b1c, oI jd, oR b477, oU, oU, oU, oU, oU] [(.int (1 : Int32)), (.ref b489), (.ref b489), (.ref b487), (.ref b487)]) _
        refine XS.iload X493.here hx rfl (hb hby at_211) rfl ?_
        show oP p e below T493 (mkF m 213 #[oI p0, oI p1, oI p2, oI p3, oI p4, oI sc, oI sa, oI sb, oI si, oI kd, oI a0c, oI a1c, oI u, oI b0c, oI b1c, oI jd, oR b477, oU, oU, oU, oU, oU] [(.int b1c), (.int (1 : Int32)), (.ref b489), (.ref b489), (.ref b487), (.ref b487)]) _
        refine st494 _ ?_
        show oP p e below T494 (mkF m 214 #[oI p0, oI p1, oI p2, oI p3, oI p4, oI sc, oI sa, oI sb, oI si, oI kd, oI a0c, oI a1c, oI u, oI b0c, oI b1c, oI jd, oR b477, oU, oU, oU, oU, oU] [(.ref b489), (.ref b487), (.ref b487)]) _
        refine st495.trans ?_
        show oP p e below T495 (mkF m 217 #[oI p0, oI p1, oI p2, oI p3, oI p4, oI sc, oI sa, oI sb, oI si, oI kd, oI a0c, oI a1c, oI u, oI b0c, oI b1c, oI jd, oR b477, oU, oU, oU, oU, oU] [(.ref b487)]) _
        refine XS.astore X495.here hx rfl (hb hby at_217) rfl rfl (l' := #[oI p0, oI p1, oI p2, oI p3, oI p4, oI sc, oI sa, oI sb, oI si, oI kd, oI a0c, oI a1c, oI u, oI b0c, oI b1c, oI jd, oR b477, oR b487, oU, oU, oU, oU]) rfl ?_
        show oP p e below T495 (mkF m 219 #[oI p0, oI p1, oI p2, oI p3, oI p4, oI sc, oI sa, oI sb, oI si, oI kd, oI a0c, oI a1c, oI u, oI b0c, oI b1c, oI jd, oR b477, oR b487, oU, oU, oU, oU] []) _
        refine st503 _ ?_
        show oP p e below T503 (mkF m 222 #[oI p0, oI p1, oI p2, oI p3, oI p4, oI sc, oI sa, oI sb, oI si, oI kd, oI a0c, oI a1c, oI u, oI b0c, oI b1c, oI jd, oR b477, oR b487, oU, oU, oU, oU] [(.ref b503)]) _
        refine XS.dup X503.here hx rfl (hb hby at_222) rfl rfl ?_
        show oP p e below T503 (mkF m 223 #[oI p0, oI p1, oI p2, oI p3, oI p4, oI sc, oI sa, oI sb, oI si, oI kd, oI a0c, oI a1c, oI u, oI b0c, oI b1c, oI jd, oR b477, oR b487, oU, oU, oU, oU] [(.ref b503), (.ref b503)]) _
        refine XS.aload X503.here hx rfl (hb hby at_223) rfl rfl ?_
        show oP p e below T503 (mkF m 225 #[oI p0, oI p1, oI p2, oI p3, oI p4, oI sc, oI sa, oI sb, oI si, oI kd, oI a0c, oI a1c, oI u, oI b0c, oI b1c, oI jd, oR b477, oR b487, oU, oU, oU, oU] [(.ref b477), (.ref b503), (.ref b503)]) _
        refine XS.iloadN X503.here hx rfl (hb hby at_225) rfl ?_
        show oP p e below T503 (mkF m 226 #[oI p0, oI p1, oI p2, oI p3, oI p4, oI sc, oI sa, oI sb, oI si, oI kd, oI a0c, oI a1c, oI u, oI b0c, oI b1c, oI jd, oR b477, oR b487, oU, oU, oU, oU] [(.int p2), (.ref b477), (.ref b503), (.ref b503)]) _
        refine st509.trans ?_
        show oP p e below T509 (mkF m 229 #[oI p0, oI p1, oI p2, oI p3, oI p4, oI sc, oI sa, oI sb, oI si, oI kd, oI a0c, oI a1c, oI u, oI b0c, oI b1c, oI jd, oR b477, oR b487, oU, oU, oU, oU] [(.ref b503)]) _
        refine XS.astore X509.here hx rfl (hb hby at_229) rfl rfl (l' := #[oI p0, oI p1, oI p2, oI p3, oI p4, oI sc, oI sa, oI sb, oI si, oI kd, oI a0c, oI a1c, oI u, oI b0c, oI b1c, oI jd, oR b477, oR b487, oR b503, oU, oU, oU]) rfl ?_
        exact k)
      rcases rkd with rfl | rfl | rfl | rfl
      · obtain ⟨T511, h511, X511, e511, E511, A511, D511, -, st511⟩ := newO X509 hx hZ hown (hw _ (List.mem_of_getElem? (i := 30) rfl)) (hw _ (List.mem_of_getElem? (i := 31) rfl)) (hw _ (List.mem_of_getElem? (i := 32) rfl)) rfl (g := (mkF m 292 #[oI p0, oI p1, oI p2, oI p3, oI p4, oI sc, oI sa, oI sb, oI si, oI (0 : Int32), oI a0c, oI a1c, oI u, oI b0c, oI b1c, oI jd, oR b477, oR b487, oR b503, oU, oU, oU] [])) rfl (hb hby at_292) (by decide) (by decide)
        obtain ⟨b511, g511⟩ : ∃ z, z = T509.heap.size := ⟨_, rfl⟩
        have g_b511 : n0 ≤ b511 := Nat.le_trans (own_old_le O509) (Nat.le_of_eq g511.symm)
        have sz_b511 : h0.size ≤ b511 := Nat.le_trans Kc509.1 (Nat.le_of_eq g511.symm)
        have fx512 := ((fx504.ext E503).keep K509q)
        have ne_b477_b511 : b477 ≠ b511 := Nat.ne_of_lt (Nat.lt_of_lt_of_le fx512.lt (Nat.le_of_eq g511.symm))
        have fx513 := ((fx505.ext E503).keep K509q (ninS ne_b478_b503 nin0))
        have ne_b478_b511 : b478 ≠ b511 := Nat.ne_of_lt (Nat.lt_of_lt_of_le fx513.lt (Nat.le_of_eq g511.symm))
        have fx514 := ((fx506.ext E503).keep K509q (ninS ne_t480_b503 nin0))
        have ne_t480_b511 : t480 ≠ b511 := Nat.ne_of_lt (Nat.lt_of_lt_of_le fx514.lt (Nat.le_of_eq g511.symm))
        have fx515 := ((pE495.ext E503).keep K509q)
        have ne_b487_b511 : b487 ≠ b511 := Nat.ne_of_lt (Nat.lt_of_lt_of_le fx515.lt (Nat.le_of_eq g511.symm))
        have fx516 := ((fx507.ext E503).keep K509q (ninS ne_b489_b503 nin0))
        have ne_b489_b511 : b489 ≠ b511 := Nat.ne_of_lt (Nat.lt_of_lt_of_le fx516.lt (Nat.le_of_eq g511.symm))
        have fx517 := ((pA495.ext E503).keep K509q (ninS ne_t495_b503 nin0))
        have ne_t495_b511 : t495 ≠ b511 := Nat.ne_of_lt (Nat.lt_of_lt_of_le fx517.lt (Nat.le_of_eq g511.symm))
        have ne_b503_b511 : b503 ≠ b511 := Nat.ne_of_lt (Nat.lt_of_lt_of_le po509_0.lt (Nat.le_of_eq g511.symm))
        rw [← g511] at A511 D511 st511
        have O511 := O509.ext E511
        have Kc511 := Kc509.ext E511
        have F_topic_b511 : Fld Z h511 b511 "com/example/narada/narada/store/QueueKey" "topic" "Ljava/lang/String;" .null := D511 (Or.inr (hw _ (List.mem_of_getElem? (i := 38) rfl))) (ty := (.object "java/lang/String")) (by decide)
        have F_queueId_b511 : Fld Z h511 b511 "com/example/narada/narada/store/QueueKey" "queueId" "I" (.int (0 : Int32)) := D511 (Or.inr (hw _ (List.mem_of_getElem? (i := 40) rfl))) (ty := .int) (by decide)
        obtain ⟨_, _, ⟨T518, L518, k518, n518⟩, -, X518, ⟨Lc518, hQ518, l518, y518, z518⟩, st518⟩ := X511.specialBack hx (y := (⟨"com/example/narada/narada/store/QueueKey", "<init>", "(Ljava/lang/String;I)V"⟩ : MethodName)) rfl hown (mvT hZ (hw _ (List.mem_of_getElem? (i := 33) rfl))) (mvT hZ (hw _ (List.mem_of_getElem? (i := 34) rfl))) (mvT hZ (hw _ (List.mem_of_getElem? (i := 35) rfl))) (by decide) (backOf (W := 1) (rm7 l Z a0 hw hS [] b511 b487 jd h511 n0 O511 A511 F_topic_b511 F_queueId_b511 g_b511) hZ (hw _ (List.mem_of_getElem? (i := 35) rfl)) (hw _ (List.mem_of_getElem? (i := 32) rfl)) (by decide) (by decide)) (g := (mkF m 300 #[oI p0, oI p1, oI p2, oI p3, oI p4, oI sc, oI sa, oI sb, oI si, oI (0 : Int32), oI a0c, oI a1c, oI u, oI b0c, oI b1c, oI jd, oR b477, oR b487, oR b503, oU, oU, oU] [(.int jd), (.ref b487), (.ref b511), (.ref b511)])) rfl (by rw [hml]; rfl) (Steps.refl _) (a := b511) (argsL := [(.ref b487), (.int jd)]) (rest := [(.ref b511)]) (lenOf pd_2 rfl) rfl (by show 2 * 0 + _ ≤ _; exact Nat.le_of_eq rfl) (hb hby at_300) (fun _ _ => ⟨rfl, e511, (by decide : 8 + 0 ≤ _), (by decide : 18 + 0 ≤ _)⟩)
        dsimp only [Pt.U, Pt.locs, Pt.cells, Pt.slots] at X518 l518 y518 z518 st518 hQ518
        subst l518 y518 z518
        obtain ⟨v518, N518q, K518q, po518_0, po518_1, po518_2⟩ := hQ518
        subst v518
        have N518 := Fr.app N509 N518q
        have O518 := O511.keep K518q (allS g_b511 all0)
        have Kc518 := Kc511.trans K518q (allS (Or.inr sz_b511) all0)
        have pre519 : ∀ t, oP p e below T518 (mkF m 309 #[oI p0, oI p1, oI p2, oI p3, oI p4, oI sc, oI sa, oI sb, oI si, oI (0 : Int32), oI a0c, oI a1c, oI u, oI b0c, oI b1c, oI jd, oR b477, oR b487, oR b503, oR b511, oU, oU] [(.int sb), (.int sa)]) t → oP p e below s₁ (entryFrame m #[(.int p0), (.int p1), (.int p2), (.int p3), (.int p4)] maxLocals) t := fun t k => pre510 t (by
          show oP p e below T509 (mkF m 231 #[oI p0, oI p1, oI p2, oI p3, oI p4, oI sc, oI sa, oI sb, oI si, oI (0 : Int32), oI a0c, oI a1c, oI u, oI b0c, oI b1c, oI jd, oR b477, oR b487, oR b503, oU, oU, oU] []) _
          refine XS.iload X509.here hx rfl (hb hby at_231) rfl ?_
          show oP p e below T509 (mkF m 233 #[oI p0, oI p1, oI p2, oI p3, oI p4, oI sc, oI sa, oI sb, oI si, oI (0 : Int32), oI a0c, oI a1c, oI u, oI b0c, oI b1c, oI jd, oR b477, oR b487, oR b503, oU, oU, oU] [(.int (0 : Int32))]) _
          refine XS.iconst X509.here hx rfl (hb hby at_233) ?_
          show oP p e below T509 (mkF m 234 #[oI p0, oI p1, oI p2, oI p3, oI p4, oI sc, oI sa, oI sb, oI si, oI (0 : Int32), oI a0c, oI a1c, oI u, oI b0c, oI b1c, oI jd, oR b477, oR b487, oR b503, oU, oU, oU] [(.int (1 : Int32)), (.int (0 : Int32))]) _
          refine XS.icmpYes X509.here hx rfl (pc0 := 234) (pc' := 252) rfl (hb hby at_234) rfl (feq (by decide : ¬ ((0 : Int32) = (1 : Int32)))).2 (by decide) (by decide) ?_
          show oP p e below T509 (mkF m 252 #[oI p0, oI p1, oI p2, oI p3, oI p4, oI sc, oI sa, oI sb, oI si, oI (0 : Int32), oI a0c, oI a1c, oI u, oI b0c, oI b1c, oI jd, oR b477, oR b487, oR b503, oU, oU, oU] []) _
          refine XS.iload X509.here hx rfl (hb hby at_252) rfl ?_
          show oP p e below T509 (mkF m 254 #[oI p0, oI p1, oI p2, oI p3, oI p4, oI sc, oI sa, oI sb, oI si, oI (0 : Int32), oI a0c, oI a1c, oI u, oI b0c, oI b1c, oI jd, oR b477, oR b487, oR b503, oU, oU, oU] [(.int (0 : Int32))]) _
          refine XS.iconst X509.here hx rfl (hb hby at_254) ?_
          show oP p e below T509 (mkF m 255 #[oI p0, oI p1, oI p2, oI p3, oI p4, oI sc, oI sa, oI sb, oI si, oI (0 : Int32), oI a0c, oI a1c, oI u, oI b0c, oI b1c, oI jd, oR b477, oR b487, oR b503, oU, oU, oU] [(.int (2 : Int32)), (.int (0 : Int32))]) _
          refine XS.icmpYes X509.here hx rfl (pc0 := 255) (pc' := 278) rfl (hb hby at_255) rfl (feq (by decide : ¬ ((0 : Int32) = (2 : Int32)))).2 (by decide) (by decide) ?_
          show oP p e below T509 (mkF m 278 #[oI p0, oI p1, oI p2, oI p3, oI p4, oI sc, oI sa, oI sb, oI si, oI (0 : Int32), oI a0c, oI a1c, oI u, oI b0c, oI b1c, oI jd, oR b477, oR b487, oR b503, oU, oU, oU] []) _
          refine XS.iload X509.here hx rfl (hb hby at_278) rfl ?_
          show oP p e below T509 (mkF m 280 #[oI p0, oI p1, oI p2, oI p3, oI p4, oI sc, oI sa, oI sb, oI si, oI (0 : Int32), oI a0c, oI a1c, oI u, oI b0c, oI b1c, oI jd, oR b477, oR b487, oR b503, oU, oU, oU] [(.int (0 : Int32))]) _
          refine XS.iconst X509.here hx rfl (hb hby at_280) ?_
          show oP p e below T509 (mkF m 281 #[oI p0, oI p1, oI p2, oI p3, oI p4, oI sc, oI sa, oI sb, oI si, oI (0 : Int32), oI a0c, oI a1c, oI u, oI b0c, oI b1c, oI jd, oR b477, oR b487, oR b503, oU, oU, oU] [(.int (3 : Int32)), (.int (0 : Int32))]) _
          refine XS.icmpYes X509.here hx rfl (pc0 := 281) (pc' := 292) rfl (hb hby at_281) rfl (feq (by decide : ¬ ((0 : Int32) = (3 : Int32)))).2 (by decide) (by decide) ?_
          show oP p e below T509 (mkF m 292 #[oI p0, oI p1, oI p2, oI p3, oI p4, oI sc, oI sa, oI sb, oI si, oI (0 : Int32), oI a0c, oI a1c, oI u, oI b0c, oI b1c, oI jd, oR b477, oR b487, oR b503, oU, oU, oU] []) _
          refine st511 _ ?_
          show oP p e below T511 (mkF m 295 #[oI p0, oI p1, oI p2, oI p3, oI p4, oI sc, oI sa, oI sb, oI si, oI (0 : Int32), oI a0c, oI a1c, oI u, oI b0c, oI b1c, oI jd, oR b477, oR b487, oR b503, oU, oU, oU] [(.ref b511)]) _
          refine XS.dup X511.here hx rfl (hb hby at_295) rfl rfl ?_
          show oP p e below T511 (mkF m 296 #[oI p0, oI p1, oI p2, oI p3, oI p4, oI sc, oI sa, oI sb, oI si, oI (0 : Int32), oI a0c, oI a1c, oI u, oI b0c, oI b1c, oI jd, oR b477, oR b487, oR b503, oU, oU, oU] [(.ref b511), (.ref b511)]) _
          refine XS.aload X511.here hx rfl (hb hby at_296) rfl rfl ?_
          show oP p e below T511 (mkF m 298 #[oI p0, oI p1, oI p2, oI p3, oI p4, oI sc, oI sa, oI sb, oI si, oI (0 : Int32), oI a0c, oI a1c, oI u, oI b0c, oI b1c, oI jd, oR b477, oR b487, oR b503, oU, oU, oU] [(.ref b487), (.ref b511), (.ref b511)]) _
          refine XS.iload X511.here hx rfl (hb hby at_298) rfl ?_
          show oP p e below T511 (mkF m 300 #[oI p0, oI p1, oI p2, oI p3, oI p4, oI sc, oI sa, oI sb, oI si, oI (0 : Int32), oI a0c, oI a1c, oI u, oI b0c, oI b1c, oI jd, oR b477, oR b487, oR b503, oU, oU, oU] [(.int jd), (.ref b487), (.ref b511), (.ref b511)]) _
          refine st518.trans ?_
          show oP p e below T518 (mkF m 303 #[oI p0, oI p1, oI p2, oI p3, oI p4, oI sc, oI sa, oI sb, oI si, oI (0 : Int32), oI a0c, oI a1c, oI u, oI b0c, oI b1c, oI jd, oR b477, oR b487, oR b503, oU, oU, oU] [(.ref b511)]) _
          refine XS.astore X518.here hx rfl (hb hby at_303) rfl rfl (l' := #[oI p0, oI p1, oI p2, oI p3, oI p4, oI sc, oI sa, oI sb, oI si, oI (0 : Int32), oI a0c, oI a1c, oI u, oI b0c, oI b1c, oI jd, oR b477, oR b487, oR b503, oR b511, oU, oU]) rfl ?_
          show oP p e below T518 (mkF m 305 #[oI p0, oI p1, oI p2, oI p3, oI p4, oI sc, oI sa, oI sb, oI si, oI (0 : Int32), oI a0c, oI a1c, oI u, oI b0c, oI b1c, oI jd, oR b477, oR b487, oR b503, oR b511, oU, oU] []) _
          refine XS.iload X518.here hx rfl (hb hby at_305) rfl ?_
          show oP p e below T518 (mkF m 307 #[oI p0, oI p1, oI p2, oI p3, oI p4, oI sc, oI sa, oI sb, oI si, oI (0 : Int32), oI a0c, oI a1c, oI u, oI b0c, oI b1c, oI jd, oR b477, oR b487, oR b503, oR b511, oU, oU] [(.int sa)]) _
          refine XS.iload X518.here hx rfl (hb hby at_307) rfl ?_
          exact k)
        by_cases hc520 : sa = sb
        · have pre521 : ∀ t, oP p e below T518 (mkF m 316 #[oI p0, oI p1, oI p2, oI p3, oI p4, oI sc, oI sa, oI sb, oI si, oI (0 : Int32), oI a0c, oI a1c, oI u, oI b0c, oI b1c, oI jd, oR b477, oR b487, oR b503, oR b511, oU, oU] [(.int b0c), (.int a0c)]) t → oP p e below s₁ (entryFrame m #[(.int p0), (.int p1), (.int p2), (.int p3), (.int p4)] maxLocals) t := fun t k => pre519 t (by
            show oP p e below T518 (mkF m 309 #[oI p0, oI p1, oI p2, oI p3, oI p4, oI sc, oI sa, oI sb, oI si, oI (0 : Int32), oI a0c, oI a1c, oI u, oI b0c, oI b1c, oI jd, oR b477, oR b487, oR b503, oR b511, oU, oU] [(.int sb), (.int sa)]) _
            refine XS.icmpNo X518.here hx rfl (hb hby at_309) rfl (teq hc520).2 ?_
            show oP p e below T518 (mkF m 312 #[oI p0, oI p1, oI p2, oI p3, oI p4, oI sc, oI sa, oI sb, oI si, oI (0 : Int32), oI a0c, oI a1c, oI u, oI b0c, oI b1c, oI jd, oR b477, oR b487, oR b503, oR b511, oU, oU] []) _
            refine XS.iload X518.here hx rfl (hb hby at_312) rfl ?_
            show oP p e below T518 (mkF m 314 #[oI p0, oI p1, oI p2, oI p3, oI p4, oI sc, oI sa, oI sb, oI si, oI (0 : Int32), oI a0c, oI a1c, oI u, oI b0c, oI b1c, oI jd, oR b477, oR b487, oR b503, oR b511, oU, oU] [(.int a0c)]) _
            refine XS.iload X518.here hx rfl (hb hby at_314) rfl ?_
            exact k)
          by_cases hc522 : a0c = b0c
          · have pre523 : ∀ t, oP p e below T518 (mkF m 346 #[oI p0, oI p1, oI p2, oI p3, oI p4, oI sc, oI sa, oI sb, oI si, oI (0 : Int32), oI a0c, oI a1c, oI u, oI b0c, oI b1c, oI jd, oR b477, oR b487, oR b503, oR b511, oI (1 : Int32), oU] [(.int jd), (.int p2)]) t → oP p e below s₁ (entryFrame m #[(.int p0), (.int p1), (.int p2), (.int p3), (.int p4)] maxLocals) t := fun t k => pre521 t (by
              show oP p e below T518 (mkF m 316 #[oI p0, oI p1, oI p2, oI p3, oI p4, oI sc, oI sa, oI sb, oI si, oI (0 : Int32), oI a0c, oI a1c, oI u, oI b0c, oI b1c, oI jd, oR b477, oR b487, oR b503, oR b511, oU, oU] [(.int b0c), (.int a0c)]) _
              refine XS.icmpNo X518.here hx rfl (hb hby at_316) rfl (teq hc522).2 ?_
              show oP p e below T518 (mkF m 319 #[oI p0, oI p1, oI p2, oI p3, oI p4, oI sc, oI sa, oI sb, oI si, oI (0 : Int32), oI a0c, oI a1c, oI u, oI b0c, oI b1c, oI jd, oR b477, oR b487, oR b503, oR b511, oU, oU] []) _
              refine XS.iload X518.here hx rfl (hb hby at_319) rfl ?_
              show oP p e below T518 (mkF m 321 #[oI p0, oI p1, oI p2, oI p3, oI p4, oI sc, oI sa, oI sb, oI si, oI (0 : Int32), oI a0c, oI a1c, oI u, oI b0c, oI b1c, oI jd, oR b477, oR b487, oR b503, oR b511, oU, oU] [(.int sa)]) _
              refine XS.ifYes X518.here hx rfl (pc0 := 321) (pc' := 331) rfl (hb hby at_321) rfl ((if0 _ _).trans (feq hc40).2) (by decide) (by decide) ?_
              show oP p e below T518 (mkF m 331 #[oI p0, oI p1, oI p2, oI p3, oI p4, oI sc, oI sa, oI sb, oI si, oI (0 : Int32), oI a0c, oI a1c, oI u, oI b0c, oI b1c, oI jd, oR b477, oR b487, oR b503, oR b511, oU, oU] []) _
              refine XS.iconst X518.here hx rfl (hb hby at_331) ?_
              show oP p e below T518 (mkF m 332 #[oI p0, oI p1, oI p2, oI p3, oI p4, oI sc, oI sa, oI sb, oI si, oI (0 : Int32), oI a0c, oI a1c, oI u, oI b0c, oI b1c, oI jd, oR b477, oR b487, oR b503, oR b511, oU, oU] [(.int (1 : Int32))]) _
              refine XS.goto X518.here hx rfl (pc0 := 332) (pc' := 336) rfl (hb hby at_332) (by decide) (by decide) ?_
              show oP p e below T518 (mkF m 336 #[oI p0, oI p1, oI p2, oI p3, oI p4, oI sc, oI sa, oI sb, oI si, oI (0 : Int32), oI a0c, oI a1c, oI u, oI b0c, oI b1c, oI jd, oR b477, oR b487, oR b503, oR b511, oU, oU] [(.int (1 : Int32))]) _
              refine XS.istore X518.here hx rfl (hb hby at_336) rfl (l' := #[oI p0, oI p1, oI p2, oI p3, oI p4, oI sc, oI sa, oI sb, oI si, oI (0 : Int32), oI a0c, oI a1c, oI u, oI b0c, oI b1c, oI jd, oR b477, oR b487, oR b503, oR b511, oI (1 : Int32), oU]) rfl ?_
              show oP p e below T518 (mkF m 338 #[oI p0, oI p1, oI p2, oI p3, oI p4, oI sc, oI sa, oI sb, oI si, oI (0 : Int32), oI a0c, oI a1c, oI u, oI b0c, oI b1c, oI jd, oR b477, oR b487, oR b503, oR b511, oI (1 : Int32), oU] []) _
              refine XS.iload X518.here hx rfl (hb hby at_338) rfl ?_
              show oP p e below T518 (mkF m 340 #[oI p0, oI p1, oI p2, oI p3, oI p4, oI sc, oI sa, oI sb, oI si, oI (0 : Int32), oI a0c, oI a1c, oI u, oI b0c, oI b1c, oI jd, oR b477, oR b487, oR b503, oR b511, oI (1 : Int32), oU] [(.int (1 : Int32))]) _
              refine XS.ifNo X518.here hx rfl (hb hby at_340) rfl ((if0 _ _).trans (feq (by decide : ¬ ((1 : Int32) = (0 : Int32)))).1) ?_
              show oP p e below T518 (mkF m 343 #[oI p0, oI p1, oI p2, oI p3, oI p4, oI sc, oI sa, oI sb, oI si, oI (0 : Int32), oI a0c, oI a1c, oI u, oI b0c, oI b1c, oI jd, oR b477, oR b487, oR b503, oR b511, oI (1 : Int32), oU] []) _
              refine XS.iloadN X518.here hx rfl (hb hby at_343) rfl ?_
              show oP p e below T518 (mkF m 344 #[oI p0, oI p1, oI p2, oI p3, oI p4, oI sc, oI sa, oI sb, oI si, oI (0 : Int32), oI a0c, oI a1c, oI u, oI b0c, oI b1c, oI jd, oR b477, oR b487, oR b503, oR b511, oI (1 : Int32), oU] [(.int p2)]) _
              refine XS.iload X518.here hx rfl (hb hby at_344) rfl ?_
              exact k)
            by_cases hc524 : p2 = jd
            · have fx525 := ((po509_0.ext E511).keep K518q)
              have fx527 := ((po509_1.ext E511).keep K518q (ninS ne_b503_b511 nin0))
              have fx528 := ((po509_2.ext E511).keep K518q (ninS ne_b503_b511 nin0))
              have fx529 := (((((((((pV480.ext E487).ext E489).other W493 (Or.inl ne_b477_b489)).other W494 (Or.inl ne_b477_b489)).keep K495q (ninS ne_b477_b487 nin0)).ext E503).keep K509q (ninS ne_b477_b503 nin0)).ext E511).keep K518q (ninS ne_b477_b511 nin0))
              have fx530 := ((fx514.ext E511).keep K518q (ninS ne_t480_b511 nin0))
              have fx531 := ((((pV495.ext E503).keep K509q (ninS ne_b487_b503 nin0)).ext E511).keep K518q (ninS ne_b487_b511 nin0))
              have fx532 := ((fx517.ext E511).keep K518q (ninS ne_t495_b511 nin0))
              have fx533 := ((fx512.ext E511).keep K518q)
              have fx534 := (((((((((pC480.ext E487).ext E489).other W493 (Or.inl ne_b477_b489)).other W494 (Or.inl ne_b477_b489)).keep K495q (ninS ne_b477_b487 nin0)).ext E503).keep K509q (ninS ne_b477_b503 nin0)).ext E511).keep K518q (ninS ne_b477_b511 nin0))
              have fx535 := ((fx515.ext E511).keep K518q)
              have fx536 := ((((pC495.ext E503).keep K509q (ninS ne_b487_b503 nin0)).ext E511).keep K518q (ninS ne_b487_b511 nin0))
              obtain ⟨cq526, kq526, q526a, q526b, q526c⟩ := isOf hZ rfl fx525
              obtain ⟨_, _, ⟨T526, L526, k526, n526⟩, -, X526, ⟨Lc526, hQ526, l526, y526, z526⟩, st526⟩ := X518.virtualBack hx (y := (⟨"com/example/narada/narada/store/QueueKey", "equals", "(Ljava/lang/Object;)Z"⟩ : MethodName)) (z := (⟨"com/example/narada/narada/store/QueueKey", "equals", "(Ljava/lang/Object;)Z"⟩ : MethodName)) hown (mvT hZ (hw _ (List.mem_of_getElem? (i := 41) rfl))) (mvT hZ (hw _ (List.mem_of_getElem? (i := 42) rfl))) (notFace_of_selects (args := #[]) (mvT hZ (hw _ (List.mem_of_getElem? (i := 44) rfl)))) (mvT hZ (hw _ (List.mem_of_getElem? (i := 44) rfl))) (mvT hZ (hw _ (List.mem_of_getElem? (i := 43) rfl))) (by decide) (backOf (W := 0) (rm8q l Z a0 hw hS [] b503 b511 b477 b487 p2 jd t480 kt480 ([a0c] : List Int32) t495 kt495 ([b0c, b1c] : List Int32) T518.heap n0 O518 po518_0 fx527 po518_1 fx528 po518_2 fx533 fx534 fx529 fx530 hp484 (Nat.le_of_ble_eq_true rfl) fx535 fx536 fx531 fx532 hp499 (Nat.le_of_ble_eq_true rfl)) hZ (hw _ (List.mem_of_getElem? (i := 45) rfl)) (hw _ (List.mem_of_getElem? (i := 32) rfl)) (by decide) (by decide)) q526a q526c (g := (mkF m 360 #[oI p0, oI p1, oI p2, oI p3, oI p4, oI sc, oI sa, oI sb, oI si, oI (0 : Int32), oI a0c, oI a1c, oI u, oI b0c, oI b1c, oI jd, oR b477, oR b487, oR b503, oR b511, oI (1 : Int32), oI (1 : Int32)] [(.ref b511), (.ref b503)])) rfl (by rw [hml]; rfl) (Steps.refl _) (argsL := [(.ref b511)]) (rest := []) (lenOf pd_0 rfl) rfl (by show 2 * 0 + _ ≤ _; exact Nat.le_of_eq rfl) (hb hby at_360) (fun _ _ => ⟨rfl, rfl, (by decide : 8 + 0 ≤ _), (by decide : 18 + 0 ≤ _)⟩)
              dsimp only [Pt.U, Pt.locs, Pt.cells, Pt.slots] at X526 l526 y526 z526 st526 hQ526
              subst l526 y526 z526
              obtain ⟨v526, N526q, K526q⟩ := hQ526
              subst v526
              have N526 := Fr.app N518 N526q
              have O526 := O518.keep K526q all0
              have Kc526 := Kc518.trans K526q all0
              have pre537 : ∀ t, oP p e below T526 (mkF m 365 #[oI p0, oI p1, oI p2, oI p3, oI p4, oI sc, oI sa, oI sb, oI si, oI (0 : Int32), oI a0c, oI a1c, oI u, oI b0c, oI b1c, oI jd, oR b477, oR b487, oR b503, oR b511, oI (1 : Int32), oI (1 : Int32)] [(.int (1 : Int32)), (.int (fn8q Z b503 b511 b477 b487 p2 jd t480 kt480 ([a0c] : List Int32) t495 kt495 ([b0c, b1c] : List Int32)))]) t → oP p e below s₁ (entryFrame m #[(.int p0), (.int p1), (.int p2), (.int p3), (.int p4)] maxLocals) t := fun t k => pre523 t (by
                show oP p e below T518 (mkF m 346 #[oI p0, oI p1, oI p2, oI p3, oI p4, oI sc, oI sa, oI sb, oI si, oI (0 : Int32), oI a0c, oI a1c, oI u, oI b0c, oI b1c, oI jd, oR b477, oR b487, oR b503, oR b511, oI (1 : Int32), oU] [(.int jd), (.int p2)]) _
                refine XS.icmpNo X518.here hx rfl (hb hby at_346) rfl (teq hc524).2 ?_
                show oP p e below T518 (mkF m 349 #[oI p0, oI p1, oI p2, oI p3, oI p4, oI sc, oI sa, oI sb, oI si, oI (0 : Int32), oI a0c, oI a1c, oI u, oI b0c, oI b1c, oI jd, oR b477, oR b487, oR b503, oR b511, oI (1 : Int32), oU] []) _
                refine XS.iconst X518.here hx rfl (hb hby at_349) ?_
                show oP p e below T518 (mkF m 350 #[oI p0, oI p1, oI p2, oI p3, oI p4, oI sc, oI sa, oI sb, oI si, oI (0 : Int32), oI a0c, oI a1c, oI u, oI b0c, oI b1c, oI jd, oR b477, oR b487, oR b503, oR b511, oI (1 : Int32), oU] [(.int (1 : Int32))]) _
                refine XS.goto X518.here hx rfl (pc0 := 350) (pc' := 354) rfl (hb hby at_350) (by decide) (by decide) ?_
                show oP p e below T518 (mkF m 354 #[oI p0, oI p1, oI p2, oI p3, oI p4, oI sc, oI sa, oI sb, oI si, oI (0 : Int32), oI a0c, oI a1c, oI u, oI b0c, oI b1c, oI jd, oR b477, oR b487, oR b503, oR b511, oI (1 : Int32), oU] [(.int (1 : Int32))]) _
                refine XS.istore X518.here hx rfl (hb hby at_354) rfl (l' := #[oI p0, oI p1, oI p2, oI p3, oI p4, oI sc, oI sa, oI sb, oI si, oI (0 : Int32), oI a0c, oI a1c, oI u, oI b0c, oI b1c, oI jd, oR b477, oR b487, oR b503, oR b511, oI (1 : Int32), oI (1 : Int32)]) rfl ?_
                show oP p e below T518 (mkF m 356 #[oI p0, oI p1, oI p2, oI p3, oI p4, oI sc, oI sa, oI sb, oI si, oI (0 : Int32), oI a0c, oI a1c, oI u, oI b0c, oI b1c, oI jd, oR b477, oR b487, oR b503, oR b511, oI (1 : Int32), oI (1 : Int32)] []) _
                refine XS.aload X518.here hx rfl (hb hby at_356) rfl rfl ?_
                show oP p e below T518 (mkF m 358 #[oI p0, oI p1, oI p2, oI p3, oI p4, oI sc, oI sa, oI sb, oI si, oI (0 : Int32), oI a0c, oI a1c, oI u, oI b0c, oI b1c, oI jd, oR b477, oR b487, oR b503, oR b511, oI (1 : Int32), oI (1 : Int32)] [(.ref b503)]) _
                refine XS.aload X518.here hx rfl (hb hby at_358) rfl rfl ?_
                show oP p e below T518 (mkF m 360 #[oI p0, oI p1, oI p2, oI p3, oI p4, oI sc, oI sa, oI sb, oI si, oI (0 : Int32), oI a0c, oI a1c, oI u, oI b0c, oI b1c, oI jd, oR b477, oR b487, oR b503, oR b511, oI (1 : Int32), oI (1 : Int32)] [(.ref b511), (.ref b503)]) _
                refine st526.trans ?_
                show oP p e below T526 (mkF m 363 #[oI p0, oI p1, oI p2, oI p3, oI p4, oI sc, oI sa, oI sb, oI si, oI (0 : Int32), oI a0c, oI a1c, oI u, oI b0c, oI b1c, oI jd, oR b477, oR b487, oR b503, oR b511, oI (1 : Int32), oI (1 : Int32)] [(.int (fn8q Z b503 b511 b477 b487 p2 jd t480 kt480 ([a0c] : List Int32) t495 kt495 ([b0c, b1c] : List Int32)))]) _
                refine XS.iload X526.here hx rfl (hb hby at_363) rfl ?_
                exact k)
              by_cases hc538 : (fn8q Z b503 b511 b477 b487 p2 jd t480 kt480 ([a0c] : List Int32) t495 kt495 ([b0c, b1c] : List Int32)) = (1 : Int32)
              · have fx539 := (po518_0.keep K526q)
                have fx541 := (po518_1.keep K526q nin0)
                have fx542 := (fx527.keep K526q nin0)
                have fx543 := (po518_2.keep K526q nin0)
                have fx544 := (fx528.keep K526q nin0)
                have fx545 := (fx531.keep K526q nin0)
                have fx546 := (fx532.keep K526q nin0)
                have fx547 := (fx529.keep K526q nin0)
                have fx548 := (fx530.keep K526q nin0)
                have fx549 := (fx525.keep K526q)
                have fx550 := (fx535.keep K526q)
                have fx551 := (fx536.keep K526q nin0)
                have fx552 := (fx533.keep K526q)
                have fx553 := (fx534.keep K526q nin0)
                obtain ⟨cq540, kq540, q540a, q540b, q540c⟩ := isOf hZ rfl fx539
                obtain ⟨_, _, ⟨T540, L540, k540, n540⟩, -, X540, ⟨Lc540, hQ540, l540, y540, z540⟩, st540⟩ := X526.virtualBack hx (y := (⟨"com/example/narada/narada/store/QueueKey", "equals", "(Ljava/lang/Object;)Z"⟩ : MethodName)) (z := (⟨"com/example/narada/narada/store/QueueKey", "equals", "(Ljava/lang/Object;)Z"⟩ : MethodName)) hown (mvT hZ (hw _ (List.mem_of_getElem? (i := 41) rfl))) (mvT hZ (hw _ (List.mem_of_getElem? (i := 42) rfl))) (notFace_of_selects (args := #[]) (mvT hZ (hw _ (List.mem_of_getElem? (i := 44) rfl)))) (mvT hZ (hw _ (List.mem_of_getElem? (i := 44) rfl))) (mvT hZ (hw _ (List.mem_of_getElem? (i := 43) rfl))) (by decide) (backOf (W := 0) (rm8q l Z a0 hw hS [] b511 b503 b487 b477 jd p2 t495 kt495 ([b0c, b1c] : List Int32) t480 kt480 ([a0c] : List Int32) T526.heap n0 O526 fx549 fx541 fx542 fx543 fx544 fx550 fx551 fx545 fx546 hp499 (Nat.le_of_ble_eq_true rfl) fx552 fx553 fx547 fx548 hp484 (Nat.le_of_ble_eq_true rfl)) hZ (hw _ (List.mem_of_getElem? (i := 45) rfl)) (hw _ (List.mem_of_getElem? (i := 32) rfl)) (by decide) (by decide)) q540a q540c (g := (mkF m 372 #[oI p0, oI p1, oI p2, oI p3, oI p4, oI sc, oI sa, oI sb, oI si, oI (0 : Int32), oI a0c, oI a1c, oI u, oI b0c, oI b1c, oI jd, oR b477, oR b487, oR b503, oR b511, oI (1 : Int32), oI (1 : Int32)] [(.ref b503), (.ref b511)])) rfl (by rw [hml]; rfl) (Steps.refl _) (argsL := [(.ref b503)]) (rest := []) (lenOf pd_0 rfl) rfl (by show 2 * 0 + _ ≤ _; exact Nat.le_of_eq rfl) (hb hby at_372) (fun _ _ => ⟨rfl, rfl, (by decide : 8 + 0 ≤ _), (by decide : 18 + 0 ≤ _)⟩)
                dsimp only [Pt.U, Pt.locs, Pt.cells, Pt.slots] at X540 l540 y540 z540 st540 hQ540
                subst l540 y540 z540
                obtain ⟨v540, N540q, K540q⟩ := hQ540
                subst v540
                have N540 := Fr.app N526 N540q
                have O540 := O526.keep K540q all0
                have Kc540 := Kc526.trans K540q all0
                have pre554 : ∀ t, oP p e below T540 (mkF m 377 #[oI p0, oI p1, oI p2, oI p3, oI p4, oI sc, oI sa, oI sb, oI si, oI (0 : Int32), oI a0c, oI a1c, oI u, oI b0c, oI b1c, oI jd, oR b477, oR b487, oR b503, oR b511, oI (1 : Int32), oI (1 : Int32)] [(.int (1 : Int32)), (.int (fn8q Z b511 b503 b487 b477 jd p2 t495 kt495 ([b0c, b1c] : List Int32) t480 kt480 ([a0c] : List Int32)))]) t → oP p e below s₁ (entryFrame m #[(.int p0), (.int p1), (.int p2), (.int p3), (.int p4)] maxLocals) t := fun t k => pre537 t (by
                  show oP p e below T526 (mkF m 365 #[oI p0, oI p1, oI p2, oI p3, oI p4, oI sc, oI sa, oI sb, oI si, oI (0 : Int32), oI a0c, oI a1c, oI u, oI b0c, oI b1c, oI jd, oR b477, oR b487, oR b503, oR b511, oI (1 : Int32), oI (1 : Int32)] [(.int (1 : Int32)), (.int (fn8q Z b503 b511 b477 b487 p2 jd t480 kt480 ([a0c] : List Int32) t495 kt495 ([b0c, b1c] : List Int32)))]) _
                  refine XS.icmpNo X526.here hx rfl (hb hby at_365) rfl (teq hc538).2 ?_
                  show oP p e below T526 (mkF m 368 #[oI p0, oI p1, oI p2, oI p3, oI p4, oI sc, oI sa, oI sb, oI si, oI (0 : Int32), oI a0c, oI a1c, oI u, oI b0c, oI b1c, oI jd, oR b477, oR b487, oR b503, oR b511, oI (1 : Int32), oI (1 : Int32)] []) _
                  refine XS.aload X526.here hx rfl (hb hby at_368) rfl rfl ?_
                  show oP p e below T526 (mkF m 370 #[oI p0, oI p1, oI p2, oI p3, oI p4, oI sc, oI sa, oI sb, oI si, oI (0 : Int32), oI a0c, oI a1c, oI u, oI b0c, oI b1c, oI jd, oR b477, oR b487, oR b503, oR b511, oI (1 : Int32), oI (1 : Int32)] [(.ref b511)]) _
                  refine XS.aload X526.here hx rfl (hb hby at_370) rfl rfl ?_
                  show oP p e below T526 (mkF m 372 #[oI p0, oI p1, oI p2, oI p3, oI p4, oI sc, oI sa, oI sb, oI si, oI (0 : Int32), oI a0c, oI a1c, oI u, oI b0c, oI b1c, oI jd, oR b477, oR b487, oR b503, oR b511, oI (1 : Int32), oI (1 : Int32)] [(.ref b503), (.ref b511)]) _
                  refine st540.trans ?_
                  show oP p e below T540 (mkF m 375 #[oI p0, oI p1, oI p2, oI p3, oI p4, oI sc, oI sa, oI sb, oI si, oI (0 : Int32), oI a0c, oI a1c, oI u, oI b0c, oI b1c, oI jd, oR b477, oR b487, oR b503, oR b511, oI (1 : Int32), oI (1 : Int32)] [(.int (fn8q Z b511 b503 b487 b477 jd p2 t495 kt495 ([b0c, b1c] : List Int32) t480 kt480 ([a0c] : List Int32)))]) _
                  refine XS.iload X540.here hx rfl (hb hby at_375) rfl ?_
                  exact k)
                by_cases hc555 : (fn8q Z b511 b503 b487 b477 jd p2 t495 kt495 ([b0c, b1c] : List Int32) t480 kt480 ([a0c] : List Int32)) = (1 : Int32)
                · obtain ⟨fs, hr, hrun, hended, hW, hsame⟩ := X540.leave (v := some (.int (1 : Int32))) (fun h => by rw [Bd.returns] at h; cases h)
                  refine ⟨_, _, pre554 _ ?_, hrun, hended, _, _, rfl, ?_, ⟨_, rfl⟩, hW, hsame.mono (by decide) (by decide)⟩
                  · show oP p e below T540 (mkF m 377 #[oI p0, oI p1, oI p2, oI p3, oI p4, oI sc, oI sa, oI sb, oI si, oI (0 : Int32), oI a0c, oI a1c, oI u, oI b0c, oI b1c, oI jd, oR b477, oR b487, oR b503, oR b511, oI (1 : Int32), oI (1 : Int32)] [(.int (1 : Int32)), (.int (fn8q Z b511 b503 b487 b477 jd p2 t495 kt495 ([b0c, b1c] : List Int32) t480 kt480 ([a0c] : List Int32)))]) _
                    refine XS.icmpNo X540.here hx rfl (hb hby at_377) rfl (teq hc555).2 ?_
                    show oP p e below T540 (mkF m 380 #[oI p0, oI p1, oI p2, oI p3, oI p4, oI sc, oI sa, oI sb, oI si, oI (0 : Int32), oI a0c, oI a1c, oI u, oI b0c, oI b1c, oI jd, oR b477, oR b487, oR b503, oR b511, oI (1 : Int32), oI (1 : Int32)] []) _
                    refine XS.iconst X540.here hx rfl (hb hby at_380) ?_
                    show oP p e below T540 (mkF m 381 #[oI p0, oI p1, oI p2, oI p3, oI p4, oI sc, oI sa, oI sb, oI si, oI (0 : Int32), oI a0c, oI a1c, oI u, oI b0c, oI b1c, oI jd, oR b477, oR b487, oR b503, oR b511, oI (1 : Int32), oI (1 : Int32)] [(.int (1 : Int32))]) _
                    refine XS.goto X540.here hx rfl (pc0 := 381) (pc' := 385) rfl (hb hby at_381) (by decide) (by decide) ?_
                    show oP p e below T540 (mkF m 385 #[oI p0, oI p1, oI p2, oI p3, oI p4, oI sc, oI sa, oI sb, oI si, oI (0 : Int32), oI a0c, oI a1c, oI u, oI b0c, oI b1c, oI jd, oR b477, oR b487, oR b503, oR b511, oI (1 : Int32), oI (1 : Int32)] [(.int (1 : Int32))]) _
                    exact retN X540 hx (t := .boolean) Bd.returns (by simp) (hb hby at_385) hr
                  · show (some (.int (1 : Int32)) : Option Value) = some (.int (1 : Int32)) ∧ Fr n0 _ ∧ Keep h0 T540.heap []
                    exact ⟨rfl, N540, Kc540⟩
                · exfalso
                  exact ab556 hS p2 sa sb a0c b0c b1c jd rsa rsb hc40 hc486 hc520 hc522 hc524 hc538 hc555
              · exfalso
                exact ab557 hS p2 sa sb a0c b0c b1c jd rsa rsb hc40 hc486 hc520 hc522 hc524 hc538
            · have fx558 := ((po509_0.ext E511).keep K518q)
              have fx560 := ((po509_1.ext E511).keep K518q (ninS ne_b503_b511 nin0))
              have fx561 := ((po509_2.ext E511).keep K518q (ninS ne_b503_b511 nin0))
              have fx562 := (((((((((pV480.ext E487).ext E489).other W493 (Or.inl ne_b477_b489)).other W494 (Or.inl ne_b477_b489)).keep K495q (ninS ne_b477_b487 nin0)).ext E503).keep K509q (ninS ne_b477_b503 nin0)).ext E511).keep K518q (ninS ne_b477_b511 nin0))
              have fx563 := ((fx514.ext E511).keep K518q (ninS ne_t480_b511 nin0))
              have fx564 := ((((pV495.ext E503).keep K509q (ninS ne_b487_b503 nin0)).ext E511).keep K518q (ninS ne_b487_b511 nin0))
              have fx565 := ((fx517.ext E511).keep K518q (ninS ne_t495_b511 nin0))
              have fx566 := ((fx512.ext E511).keep K518q)
              have fx567 := (((((((((pC480.ext E487).ext E489).other W493 (Or.inl ne_b477_b489)).other W494 (Or.inl ne_b477_b489)).keep K495q (ninS ne_b477_b487 nin0)).ext E503).keep K509q (ninS ne_b477_b503 nin0)).ext E511).keep K518q (ninS ne_b477_b511 nin0))
              have fx568 := ((fx515.ext E511).keep K518q)
              have fx569 := ((((pC495.ext E503).keep K509q (ninS ne_b487_b503 nin0)).ext E511).keep K518q (ninS ne_b487_b511 nin0))
              obtain ⟨cq559, kq559, q559a, q559b, q559c⟩ := isOf hZ rfl fx558
              obtain ⟨_, _, ⟨T559, L559, k559, n559⟩, -, X559, ⟨Lc559, hQ559, l559, y559, z559⟩, st559⟩ := X518.virtualBack hx (y := (⟨"com/example/narada/narada/store/QueueKey", "equals", "(Ljava/lang/Object;)Z"⟩ : MethodName)) (z := (⟨"com/example/narada/narada/store/QueueKey", "equals", "(Ljava/lang/Object;)Z"⟩ : MethodName)) hown (mvT hZ (hw _ (List.mem_of_getElem? (i := 41) rfl))) (mvT hZ (hw _ (List.mem_of_getElem? (i := 42) rfl))) (notFace_of_selects (args := #[]) (mvT hZ (hw _ (List.mem_of_getElem? (i := 44) rfl)))) (mvT hZ (hw _ (List.mem_of_getElem? (i := 44) rfl))) (mvT hZ (hw _ (List.mem_of_getElem? (i := 43) rfl))) (by decide) (backOf (W := 0) (rm8q l Z a0 hw hS [] b503 b511 b477 b487 p2 jd t480 kt480 ([a0c] : List Int32) t495 kt495 ([b0c, b1c] : List Int32) T518.heap n0 O518 po518_0 fx560 po518_1 fx561 po518_2 fx566 fx567 fx562 fx563 hp484 (Nat.le_of_ble_eq_true rfl) fx568 fx569 fx564 fx565 hp499 (Nat.le_of_ble_eq_true rfl)) hZ (hw _ (List.mem_of_getElem? (i := 45) rfl)) (hw _ (List.mem_of_getElem? (i := 32) rfl)) (by decide) (by decide)) q559a q559c (g := (mkF m 360 #[oI p0, oI p1, oI p2, oI p3, oI p4, oI sc, oI sa, oI sb, oI si, oI (0 : Int32), oI a0c, oI a1c, oI u, oI b0c, oI b1c, oI jd, oR b477, oR b487, oR b503, oR b511, oI (1 : Int32), oI (0 : Int32)] [(.ref b511), (.ref b503)])) rfl (by rw [hml]; rfl) (Steps.refl _) (argsL := [(.ref b511)]) (rest := []) (lenOf pd_0 rfl) rfl (by show 2 * 0 + _ ≤ _; exact Nat.le_of_eq rfl) (hb hby at_360) (fun _ _ => ⟨rfl, rfl, (by decide : 8 + 0 ≤ _), (by decide : 18 + 0 ≤ _)⟩)
              dsimp only [Pt.U, Pt.locs, Pt.cells, Pt.slots] at X559 l559 y559 z559 st559 hQ559
              subst l559 y559 z559
              obtain ⟨v559, N559q, K559q⟩ := hQ559
              subst v559
              have N559 := Fr.app N518 N559q
              have O559 := O518.keep K559q all0
              have Kc559 := Kc518.trans K559q all0
              have pre570 : ∀ t, oP p e below T559 (mkF m 365 #[oI p0, oI p1, oI p2, oI p3, oI p4, oI sc, oI sa, oI sb, oI si, oI (0 : Int32), oI a0c, oI a1c, oI u, oI b0c, oI b1c, oI jd, oR b477, oR b487, oR b503, oR b511, oI (1 : Int32), oI (0 : Int32)] [(.int (0 : Int32)), (.int (fn8q Z b503 b511 b477 b487 p2 jd t480 kt480 ([a0c] : List Int32) t495 kt495 ([b0c, b1c] : List Int32)))]) t → oP p e below s₁ (entryFrame m #[(.int p0), (.int p1), (.int p2), (.int p3), (.int p4)] maxLocals) t := fun t k => pre523 t (by
                show oP p e below T518 (mkF m 346 #[oI p0, oI p1, oI p2, oI p3, oI p4, oI sc, oI sa, oI sb, oI si, oI (0 : Int32), oI a0c, oI a1c, oI u, oI b0c, oI b1c, oI jd, oR b477, oR b487, oR b503, oR b511, oI (1 : Int32), oU] [(.int jd), (.int p2)]) _
                refine XS.icmpYes X518.here hx rfl (pc0 := 346) (pc' := 353) rfl (hb hby at_346) rfl (feq hc524).2 (by decide) (by decide) ?_
                show oP p e below T518 (mkF m 353 #[oI p0, oI p1, oI p2, oI p3, oI p4, oI sc, oI sa, oI sb, oI si, oI (0 : Int32), oI a0c, oI a1c, oI u, oI b0c, oI b1c, oI jd, oR b477, oR b487, oR b503, oR b511, oI (1 : Int32), oU] []) _
                refine XS.iconst X518.here hx rfl (hb hby at_353) ?_
                show oP p e below T518 (mkF m 354 #[oI p0, oI p1, oI p2, oI p3, oI p4, oI sc, oI sa, oI sb, oI si, oI (0 : Int32), oI a0c, oI a1c, oI u, oI b0c, oI b1c, oI jd, oR b477, oR b487, oR b503, oR b511, oI (1 : Int32), oU] [(.int (0 : Int32))]) _
                refine XS.istore X518.here hx rfl (hb hby at_354) rfl (l' := #[oI p0, oI p1, oI p2, oI p3, oI p4, oI sc, oI sa, oI sb, oI si, oI (0 : Int32), oI a0c, oI a1c, oI u, oI b0c, oI b1c, oI jd, oR b477, oR b487, oR b503, oR b511, oI (1 : Int32), oI (0 : Int32)]) rfl ?_
                show oP p e below T518 (mkF m 356 #[oI p0, oI p1, oI p2, oI p3, oI p4, oI sc, oI sa, oI sb, oI si, oI (0 : Int32), oI a0c, oI a1c, oI u, oI b0c, oI b1c, oI jd, oR b477, oR b487, oR b503, oR b511, oI (1 : Int32), oI (0 : Int32)] []) _
                refine XS.aload X518.here hx rfl (hb hby at_356) rfl rfl ?_
                show oP p e below T518 (mkF m 358 #[oI p0, oI p1, oI p2, oI p3, oI p4, oI sc, oI sa, oI sb, oI si, oI (0 : Int32), oI a0c, oI a1c, oI u, oI b0c, oI b1c, oI jd, oR b477, oR b487, oR b503, oR b511, oI (1 : Int32), oI (0 : Int32)] [(.ref b503)]) _
                refine XS.aload X518.here hx rfl (hb hby at_358) rfl rfl ?_
                show oP p e below T518 (mkF m 360 #[oI p0, oI p1, oI p2, oI p3, oI p4, oI sc, oI sa, oI sb, oI si, oI (0 : Int32), oI a0c, oI a1c, oI u, oI b0c, oI b1c, oI jd, oR b477, oR b487, oR b503, oR b511, oI (1 : Int32), oI (0 : Int32)] [(.ref b511), (.ref b503)]) _
                refine st559.trans ?_
                show oP p e below T559 (mkF m 363 #[oI p0, oI p1, oI p2, oI p3, oI p4, oI sc, oI sa, oI sb, oI si, oI (0 : Int32), oI a0c, oI a1c, oI u, oI b0c, oI b1c, oI jd, oR b477, oR b487, oR b503, oR b511, oI (1 : Int32), oI (0 : Int32)] [(.int (fn8q Z b503 b511 b477 b487 p2 jd t480 kt480 ([a0c] : List Int32) t495 kt495 ([b0c, b1c] : List Int32)))]) _
                refine XS.iload X559.here hx rfl (hb hby at_363) rfl ?_
                exact k)
              by_cases hc571 : (fn8q Z b503 b511 b477 b487 p2 jd t480 kt480 ([a0c] : List Int32) t495 kt495 ([b0c, b1c] : List Int32)) = (0 : Int32)
              · have fx572 := (po518_0.keep K559q)
                have fx574 := (po518_1.keep K559q nin0)
                have fx575 := (fx560.keep K559q nin0)
                have fx576 := (po518_2.keep K559q nin0)
                have fx577 := (fx561.keep K559q nin0)
                have fx578 := (fx564.keep K559q nin0)
                have fx579 := (fx565.keep K559q nin0)
                have fx580 := (fx562.keep K559q nin0)
                have fx581 := (fx563.keep K559q nin0)
                have fx582 := (fx558.keep K559q)
                have fx583 := (fx568.keep K559q)
                have fx584 := (fx569.keep K559q nin0)
                have fx585 := (fx566.keep K559q)
                have fx586 := (fx567.keep K559q nin0)
                obtain ⟨cq573, kq573, q573a, q573b, q573c⟩ := isOf hZ rfl fx572
                obtain ⟨_, _, ⟨T573, L573, k573, n573⟩, -, X573, ⟨Lc573, hQ573, l573, y573, z573⟩, st573⟩ := X559.virtualBack hx (y := (⟨"com/example/narada/narada/store/QueueKey", "equals", "(Ljava/lang/Object;)Z"⟩ : MethodName)) (z := (⟨"com/example/narada/narada/store/QueueKey", "equals", "(Ljava/lang/Object;)Z"⟩ : MethodName)) hown (mvT hZ (hw _ (List.mem_of_getElem? (i := 41) rfl))) (mvT hZ (hw _ (List.mem_of_getElem? (i := 42) rfl))) (notFace_of_selects (args := #[]) (mvT hZ (hw _ (List.mem_of_getElem? (i := 44) rfl)))) (mvT hZ (hw _ (List.mem_of_getElem? (i := 44) rfl))) (mvT hZ (hw _ (List.mem_of_getElem? (i := 43) rfl))) (by decide) (backOf (W := 0) (rm8q l Z a0 hw hS [] b511 b503 b487 b477 jd p2 t495 kt495 ([b0c, b1c] : List Int32) t480 kt480 ([a0c] : List Int32) T559.heap n0 O559 fx582 fx574 fx575 fx576 fx577 fx583 fx584 fx578 fx579 hp499 (Nat.le_of_ble_eq_true rfl) fx585 fx586 fx580 fx581 hp484 (Nat.le_of_ble_eq_true rfl)) hZ (hw _ (List.mem_of_getElem? (i := 45) rfl)) (hw _ (List.mem_of_getElem? (i := 32) rfl)) (by decide) (by decide)) q573a q573c (g := (mkF m 372 #[oI p0, oI p1, oI p2, oI p3, oI p4, oI sc, oI sa, oI sb, oI si, oI (0 : Int32), oI a0c, oI a1c, oI u, oI b0c, oI b1c, oI jd, oR b477, oR b487, oR b503, oR b511, oI (1 : Int32), oI (0 : Int32)] [(.ref b503), (.ref b511)])) rfl (by rw [hml]; rfl) (Steps.refl _) (argsL := [(.ref b503)]) (rest := []) (lenOf pd_0 rfl) rfl (by show 2 * 0 + _ ≤ _; exact Nat.le_of_eq rfl) (hb hby at_372) (fun _ _ => ⟨rfl, rfl, (by decide : 8 + 0 ≤ _), (by decide : 18 + 0 ≤ _)⟩)
                dsimp only [Pt.U, Pt.locs, Pt.cells, Pt.slots] at X573 l573 y573 z573 st573 hQ573
                subst l573 y573 z573
                obtain ⟨v573, N573q, K573q⟩ := hQ573
                subst v573
                have N573 := Fr.app N559 N573q
                have O573 := O559.keep K573q all0
                have Kc573 := Kc559.trans K573q all0
                have pre587 : ∀ t, oP p e below T573 (mkF m 377 #[oI p0, oI p1, oI p2, oI p3, oI p4, oI sc, oI sa, oI sb, oI si, oI (0 : Int32), oI a0c, oI a1c, oI u, oI b0c, oI b1c, oI jd, oR b477, oR b487, oR b503, oR b511, oI (1 : Int32), oI (0 : Int32)] [(.int (0 : Int32)), (.int (fn8q Z b511 b503 b487 b477 jd p2 t495 kt495 ([b0c, b1c] : List Int32) t480 kt480 ([a0c] : List Int32)))]) t → oP p e below s₁ (entryFrame m #[(.int p0), (.int p1), (.int p2), (.int p3), (.int p4)] maxLocals) t := fun t k => pre570 t (by
                  show oP p e below T559 (mkF m 365 #[oI p0, oI p1, oI p2, oI p3, oI p4, oI sc, oI sa, oI sb, oI si, oI (0 : Int32), oI a0c, oI a1c, oI u, oI b0c, oI b1c, oI jd, oR b477, oR b487, oR b503, oR b511, oI (1 : Int32), oI (0 : Int32)] [(.int (0 : Int32)), (.int (fn8q Z b503 b511 b477 b487 p2 jd t480 kt480 ([a0c] : List Int32) t495 kt495 ([b0c, b1c] : List Int32)))]) _
                  refine XS.icmpNo X559.here hx rfl (hb hby at_365) rfl (teq hc571).2 ?_
                  show oP p e below T559 (mkF m 368 #[oI p0, oI p1, oI p2, oI p3, oI p4, oI sc, oI sa, oI sb, oI si, oI (0 : Int32), oI a0c, oI a1c, oI u, oI b0c, oI b1c, oI jd, oR b477, oR b487, oR b503, oR b511, oI (1 : Int32), oI (0 : Int32)] []) _
                  refine XS.aload X559.here hx rfl (hb hby at_368) rfl rfl ?_
                  show oP p e below T559 (mkF m 370 #[oI p0, oI p1, oI p2, oI p3, oI p4, oI sc, oI sa, oI sb, oI si, oI (0 : Int32), oI a0c, oI a1c, oI u, oI b0c, oI b1c, oI jd, oR b477, oR b487, oR b503, oR b511, oI (1 : Int32), oI (0 : Int32)] [(.ref b511)]) _
                  refine XS.aload X559.here hx rfl (hb hby at_370) rfl rfl ?_
                  show oP p e below T559 (mkF m 372 #[oI p0, oI p1, oI p2, oI p3, oI p4, oI sc, oI sa, oI sb, oI si, oI (0 : Int32), oI a0c, oI a1c, oI u, oI b0c, oI b1c, oI jd, oR b477, oR b487, oR b503, oR b511, oI (1 : Int32), oI (0 : Int32)] [(.ref b503), (.ref b511)]) _
                  refine st573.trans ?_
                  show oP p e below T573 (mkF m 375 #[oI p0, oI p1, oI p2, oI p3, oI p4, oI sc, oI sa, oI sb, oI si, oI (0 : Int32), oI a0c, oI a1c, oI u, oI b0c, oI b1c, oI jd, oR b477, oR b487, oR b503, oR b511, oI (1 : Int32), oI (0 : Int32)] [(.int (fn8q Z b511 b503 b487 b477 jd p2 t495 kt495 ([b0c, b1c] : List Int32) t480 kt480 ([a0c] : List Int32)))]) _
                  refine XS.iload X573.here hx rfl (hb hby at_375) rfl ?_
                  exact k)
                by_cases hc588 : (fn8q Z b511 b503 b487 b477 jd p2 t495 kt495 ([b0c, b1c] : List Int32) t480 kt480 ([a0c] : List Int32)) = (0 : Int32)
                · obtain ⟨fs, hr, hrun, hended, hW, hsame⟩ := X573.leave (v := some (.int (1 : Int32))) (fun h => by rw [Bd.returns] at h; cases h)
                  refine ⟨_, _, pre587 _ ?_, hrun, hended, _, _, rfl, ?_, ⟨_, rfl⟩, hW, hsame.mono (by decide) (by decide)⟩
                  · show oP p e below T573 (mkF m 377 #[oI p0, oI p1, oI p2, oI p3, oI p4, oI sc, oI sa, oI sb, oI si, oI (0 : Int32), oI a0c, oI a1c, oI u, oI b0c, oI b1c, oI jd, oR b477, oR b487, oR b503, oR b511, oI (1 : Int32), oI (0 : Int32)] [(.int (0 : Int32)), (.int (fn8q Z b511 b503 b487 b477 jd p2 t495 kt495 ([b0c, b1c] : List Int32) t480 kt480 ([a0c] : List Int32)))]) _
                    refine XS.icmpNo X573.here hx rfl (hb hby at_377) rfl (teq hc588).2 ?_
                    show oP p e below T573 (mkF m 380 #[oI p0, oI p1, oI p2, oI p3, oI p4, oI sc, oI sa, oI sb, oI si, oI (0 : Int32), oI a0c, oI a1c, oI u, oI b0c, oI b1c, oI jd, oR b477, oR b487, oR b503, oR b511, oI (1 : Int32), oI (0 : Int32)] []) _
                    refine XS.iconst X573.here hx rfl (hb hby at_380) ?_
                    show oP p e below T573 (mkF m 381 #[oI p0, oI p1, oI p2, oI p3, oI p4, oI sc, oI sa, oI sb, oI si, oI (0 : Int32), oI a0c, oI a1c, oI u, oI b0c, oI b1c, oI jd, oR b477, oR b487, oR b503, oR b511, oI (1 : Int32), oI (0 : Int32)] [(.int (1 : Int32))]) _
                    refine XS.goto X573.here hx rfl (pc0 := 381) (pc' := 385) rfl (hb hby at_381) (by decide) (by decide) ?_
                    show oP p e below T573 (mkF m 385 #[oI p0, oI p1, oI p2, oI p3, oI p4, oI sc, oI sa, oI sb, oI si, oI (0 : Int32), oI a0c, oI a1c, oI u, oI b0c, oI b1c, oI jd, oR b477, oR b487, oR b503, oR b511, oI (1 : Int32), oI (0 : Int32)] [(.int (1 : Int32))]) _
                    exact retN X573 hx (t := .boolean) Bd.returns (by simp) (hb hby at_385) hr
                  · show (some (.int (1 : Int32)) : Option Value) = some (.int (1 : Int32)) ∧ Fr n0 _ ∧ Keep h0 T573.heap []
                    exact ⟨rfl, N573, Kc573⟩
                · exfalso
                  exact ab589 hS p2 sa sb a0c b0c b1c jd rsa rsb hc40 hc486 hc520 hc522 hc524 hc571 hc588
              · exfalso
                exact ab590 hS p2 sa sb a0c b0c b1c jd rsa rsb hc40 hc486 hc520 hc522 hc524 hc571
          · have fx591 := ((po509_0.ext E511).keep K518q)
            have fx593 := ((po509_1.ext E511).keep K518q (ninS ne_b503_b511 nin0))
            have fx594 := ((po509_2.ext E511).keep K518q (ninS ne_b503_b511 nin0))
            have fx595 := (((((((((pV480.ext E487).ext E489).other W493 (Or.inl ne_b477_b489)).other W494 (Or.inl ne_b477_b489)).keep K495q (ninS ne_b477_b487 nin0)).ext E503).keep K509q (ninS ne_b477_b503 nin0)).ext E511).keep K518q (ninS ne_b477_b511 nin0))
            have fx596 := ((fx514.ext E511).keep K518q (ninS ne_t480_b511 nin0))
            have fx597 := ((((pV495.ext E503).keep K509q (ninS ne_b487_b503 nin0)).ext E511).keep K518q (ninS ne_b487_b511 nin0))
            have fx598 := ((fx517.ext E511).keep K518q (ninS ne_t495_b511 nin0))
            have fx599 := ((fx512.ext E511).keep K518q)
            have fx600 := (((((((((pC480.ext E487).ext E489).other W493 (Or.inl ne_b477_b489)).other W494 (Or.inl ne_b477_b489)).keep K495q (ninS ne_b477_b487 nin0)).ext E503).keep K509q (ninS ne_b477_b503 nin0)).ext E511).keep K518q (ninS ne_b477_b511 nin0))
            have fx601 := ((fx515.ext E511).keep K518q)
            have fx602 := ((((pC495.ext E503).keep K509q (ninS ne_b487_b503 nin0)).ext E511).keep K518q (ninS ne_b487_b511 nin0))
            obtain ⟨cq592, kq592, q592a, q592b, q592c⟩ := isOf hZ rfl fx591
            obtain ⟨_, _, ⟨T592, L592, k592, n592⟩, -, X592, ⟨Lc592, hQ592, l592, y592, z592⟩, st592⟩ := X518.virtualBack hx (y := (⟨"com/example/narada/narada/store/QueueKey", "equals", "(Ljava/lang/Object;)Z"⟩ : MethodName)) (z := (⟨"com/example/narada/narada/store/QueueKey", "equals", "(Ljava/lang/Object;)Z"⟩ : MethodName)) hown (mvT hZ (hw _ (List.mem_of_getElem? (i := 41) rfl))) (mvT hZ (hw _ (List.mem_of_getElem? (i := 42) rfl))) (notFace_of_selects (args := #[]) (mvT hZ (hw _ (List.mem_of_getElem? (i := 44) rfl)))) (mvT hZ (hw _ (List.mem_of_getElem? (i := 44) rfl))) (mvT hZ (hw _ (List.mem_of_getElem? (i := 43) rfl))) (by decide) (backOf (W := 0) (rm8q l Z a0 hw hS [] b503 b511 b477 b487 p2 jd t480 kt480 ([a0c] : List Int32) t495 kt495 ([b0c, b1c] : List Int32) T518.heap n0 O518 po518_0 fx593 po518_1 fx594 po518_2 fx599 fx600 fx595 fx596 hp484 (Nat.le_of_ble_eq_true rfl) fx601 fx602 fx597 fx598 hp499 (Nat.le_of_ble_eq_true rfl)) hZ (hw _ (List.mem_of_getElem? (i := 45) rfl)) (hw _ (List.mem_of_getElem? (i := 32) rfl)) (by decide) (by decide)) q592a q592c (g := (mkF m 360 #[oI p0, oI p1, oI p2, oI p3, oI p4, oI sc, oI sa, oI sb, oI si, oI (0 : Int32), oI a0c, oI a1c, oI u, oI b0c, oI b1c, oI jd, oR b477, oR b487, oR b503, oR b511, oI (0 : Int32), oI (0 : Int32)] [(.ref b511), (.ref b503)])) rfl (by rw [hml]; rfl) (Steps.refl _) (argsL := [(.ref b511)]) (rest := []) (lenOf pd_0 rfl) rfl (by show 2 * 0 + _ ≤ _; exact Nat.le_of_eq rfl) (hb hby at_360) (fun _ _ => ⟨rfl, rfl, (by decide : 8 + 0 ≤ _), (by decide : 18 + 0 ≤ _)⟩)
            dsimp only [Pt.U, Pt.locs, Pt.cells, Pt.slots] at X592 l592 y592 z592 st592 hQ592
            subst l592 y592 z592
            obtain ⟨v592, N592q, K592q⟩ := hQ592
            subst v592
            have N592 := Fr.app N518 N592q
            have O592 := O518.keep K592q all0
            have Kc592 := Kc518.trans K592q all0
            have pre603 : ∀ t, oP p e below T592 (mkF m 365 #[oI p0, oI p1, oI p2, oI p3, oI p4, oI sc, oI sa, oI sb, oI si, oI (0 : Int32), oI a0c, oI a1c, oI u, oI b0c, oI b1c, oI jd, oR b477, oR b487, oR b503, oR b511, oI (0 : Int32), oI (0 : Int32)] [(.int (0 : Int32)), (.int (fn8q Z b503 b511 b477 b487 p2 jd t480 kt480 ([a0c] : List Int32) t495 kt495 ([b0c, b1c] : List Int32)))]) t → oP p e below s₁ (entryFrame m #[(.int p0), (.int p1), (.int p2), (.int p3), (.int p4)] maxLocals) t := fun t k => pre521 t (by
              show oP p e below T518 (mkF m 316 #[oI p0, oI p1, oI p2, oI p3, oI p4, oI sc, oI sa, oI sb, oI si, oI (0 : Int32), oI a0c, oI a1c, oI u, oI b0c, oI b1c, oI jd, oR b477, oR b487, oR b503, oR b511, oU, oU] [(.int b0c), (.int a0c)]) _
              refine XS.icmpYes X518.here hx rfl (pc0 := 316) (pc' := 335) rfl (hb hby at_316) rfl (feq hc522).2 (by decide) (by decide) ?_
              show oP p e below T518 (mkF m 335 #[oI p0, oI p1, oI p2, oI p3, oI p4, oI sc, oI sa, oI sb, oI si, oI (0 : Int32), oI a0c, oI a1c, oI u, oI b0c, oI b1c, oI jd, oR b477, oR b487, oR b503, oR b511, oU, oU] []) _
              refine XS.iconst X518.here hx rfl (hb hby at_335) ?_
              show oP p e below T518 (mkF m 336 #[oI p0, oI p1, oI p2, oI p3, oI p4, oI sc, oI sa, oI sb, oI si, oI (0 : Int32), oI a0c, oI a1c, oI u, oI b0c, oI b1c, oI jd, oR b477, oR b487, oR b503, oR b511, oU, oU] [(.int (0 : Int32))]) _
              refine XS.istore X518.here hx rfl (hb hby at_336) rfl (l' := #[oI p0, oI p1, oI p2, oI p3, oI p4, oI sc, oI sa, oI sb, oI si, oI (0 : Int32), oI a0c, oI a1c, oI u, oI b0c, oI b1c, oI jd, oR b477, oR b487, oR b503, oR b511, oI (0 : Int32), oU]) rfl ?_
              show oP p e below T518 (mkF m 338 #[oI p0, oI p1, oI p2, oI p3, oI p4, oI sc, oI sa, oI sb, oI si, oI (0 : Int32), oI a0c, oI a1c, oI u, oI b0c, oI b1c, oI jd, oR b477, oR b487, oR b503, oR b511, oI (0 : Int32), oU] []) _
              refine XS.iload X518.here hx rfl (hb hby at_338) rfl ?_
              show oP p e below T518 (mkF m 340 #[oI p0, oI p1, oI p2, oI p3, oI p4, oI sc, oI sa, oI sb, oI si, oI (0 : Int32), oI a0c, oI a1c, oI u, oI b0c, oI b1c, oI jd, oR b477, oR b487, oR b503, oR b511, oI (0 : Int32), oU] [(.int (0 : Int32))]) _
              refine XS.ifYes X518.here hx rfl (pc0 := 340) (pc' := 353) rfl (hb hby at_340) rfl ((if0 _ _).trans (teq (by decide : (0 : Int32) = (0 : Int32))).1) (by decide) (by decide) ?_
              show oP p e below T518 (mkF m 353 #[oI p0, oI p1, oI p2, oI p3, oI p4, oI sc, oI sa, oI sb, oI si, oI (0 : Int32), oI a0c, oI a1c, oI u, oI b0c, oI b1c, oI jd, oR b477, oR b487, oR b503, oR b511, oI (0 : Int32), oU] []) _
              refine XS.iconst X518.here hx rfl (hb hby at_353) ?_
              show oP p e below T518 (mkF m 354 #[oI p0, oI p1, oI p2, oI p3, oI p4, oI sc, oI sa, oI sb, oI si, oI (0 : Int32), oI a0c, oI a1c, oI u, oI b0c, oI b1c, oI jd, oR b477, oR b487, oR b503, oR b511, oI (0 : Int32), oU] [(.int (0 : Int32))]) _
              refine XS.istore X518.here hx rfl (hb hby at_354) rfl (l' := #[oI p0, oI p1, oI p2, oI p3, oI p4, oI sc, oI sa, oI sb, oI si, oI (0 : Int32), oI a0c, oI a1c, oI u, oI b0c, oI b1c, oI jd, oR b477, oR b487, oR b503, oR b511, oI (0 : Int32), oI (0 : Int32)]) rfl ?_
              show oP p e below T518 (mkF m 356 #[oI p0, oI p1, oI p2, oI p3, oI p4, oI sc, oI sa, oI sb, oI si, oI (0 : Int32), oI a0c, oI a1c, oI u, oI b0c, oI b1c, oI jd, oR b477, oR b487, oR b503, oR b511, oI (0 : Int32), oI (0 : Int32)] []) _
              refine XS.aload X518.here hx rfl (hb hby at_356) rfl rfl ?_
              show oP p e below T518 (mkF m 358 #[oI p0, oI p1, oI p2, oI p3, oI p4, oI sc, oI sa, oI sb, oI si, oI (0 : Int32), oI a0c, oI a1c, oI u, oI b0c, oI b1c, oI jd, oR b477, oR b487, oR b503, oR b511, oI (0 : Int32), oI (0 : Int32)] [(.ref b503)]) _
              refine XS.aload X518.here hx rfl (hb hby at_358) rfl rfl ?_
              show oP p e below T518 (mkF m 360 #[oI p0, oI p1, oI p2, oI p3, oI p4, oI sc, oI sa, oI sb, oI si, oI (0 : Int32), oI a0c, oI a1c, oI u, oI b0c, oI b1c, oI jd, oR b477, oR b487, oR b503, oR b511, oI (0 : Int32), oI (0 : Int32)] [(.ref b511), (.ref b503)]) _
              refine st592.trans ?_
              show oP p e below T592 (mkF m 363 #[oI p0, oI p1, oI p2, oI p3, oI p4, oI sc, oI sa, oI sb, oI si, oI (0 : Int32), oI a0c, oI a1c, oI u, oI b0c, oI b1c, oI jd, oR b477, oR b487, oR b503, oR b511, oI (0 : Int32), oI (0 : Int32)] [(.int (fn8q Z b503 b511 b477 b487 p2 jd t480 kt480 ([a0c] : List Int32) t495 kt495 ([b0c, b1c] : List Int32)))]) _
              refine XS.iload X592.here hx rfl (hb hby at_363) rfl ?_
              exact k)
            by_cases hc604 : (fn8q Z b503 b511 b477 b487 p2 jd t480 kt480 ([a0c] : List Int32) t495 kt495 ([b0c, b1c] : List Int32)) = (0 : Int32)
            · have fx605 := (po518_0.keep K592q)
              have fx607 := (po518_1.keep K592q nin0)
              have fx608 := (fx593.keep K592q nin0)
              have fx609 := (po518_2.keep K592q nin0)
              have fx610 := (fx594.keep K592q nin0)
              have fx611 := (fx597.keep K592q nin0)
              have fx612 := (fx598.keep K592q nin0)
              have fx613 := (fx595.keep K592q nin0)
              have fx614 := (fx596.keep K592q nin0)
              have fx615 := (fx591.keep K592q)
              have fx616 := (fx601.keep K592q)
              have fx617 := (fx602.keep K592q nin0)
              have fx618 := (fx599.keep K592q)
              have fx619 := (fx600.keep K592q nin0)
              obtain ⟨cq606, kq606, q606a, q606b, q606c⟩ := isOf hZ rfl fx605
              obtain ⟨_, _, ⟨T606, L606, k606, n606⟩, -, X606, ⟨Lc606, hQ606, l606, y606, z606⟩, st606⟩ := X592.virtualBack hx (y := (⟨"com/example/narada/narada/store/QueueKey", "equals", "(Ljava/lang/Object;)Z"⟩ : MethodName)) (z := (⟨"com/example/narada/narada/store/QueueKey", "equals", "(Ljava/lang/Object;)Z"⟩ : MethodName)) hown (mvT hZ (hw _ (List.mem_of_getElem? (i := 41) rfl))) (mvT hZ (hw _ (List.mem_of_getElem? (i := 42) rfl))) (notFace_of_selects (args := #[]) (mvT hZ (hw _ (List.mem_of_getElem? (i := 44) rfl)))) (mvT hZ (hw _ (List.mem_of_getElem? (i := 44) rfl))) (mvT hZ (hw _ (List.mem_of_getElem? (i := 43) rfl))) (by decide) (backOf (W := 0) (rm8q l Z a0 hw hS [] b511 b503 b487 b477 jd p2 t495 kt495 ([b0c, b1c] : List Int32) t480 kt480 ([a0c] : List Int32) T592.heap n0 O592 fx615 fx607 fx608 fx609 fx610 fx616 fx617 fx611 fx612 hp499 (Nat.le_of_ble_eq_true rfl) fx618 fx619 fx613 fx614 hp484 (Nat.le_of_ble_eq_true rfl)) hZ (hw _ (List.mem_of_getElem? (i := 45) rfl)) (hw _ (List.mem_of_getElem? (i := 32) rfl)) (by decide) (by decide)) q606a q606c (g := (mkF m 372 #[oI p0, oI p1, oI p2, oI p3, oI p4, oI sc, oI sa, oI sb, oI si, oI (0 : Int32), oI a0c, oI a1c, oI u, oI b0c, oI b1c, oI jd, oR b477, oR b487, oR b503, oR b511, oI (0 : Int32), oI (0 : Int32)] [(.ref b503), (.ref b511)])) rfl (by rw [hml]; rfl) (Steps.refl _) (argsL := [(.ref b503)]) (rest := []) (lenOf pd_0 rfl) rfl (by show 2 * 0 + _ ≤ _; exact Nat.le_of_eq rfl) (hb hby at_372) (fun _ _ => ⟨rfl, rfl, (by decide : 8 + 0 ≤ _), (by decide : 18 + 0 ≤ _)⟩)
              dsimp only [Pt.U, Pt.locs, Pt.cells, Pt.slots] at X606 l606 y606 z606 st606 hQ606
              subst l606 y606 z606
              obtain ⟨v606, N606q, K606q⟩ := hQ606
              subst v606
              have N606 := Fr.app N592 N606q
              have O606 := O592.keep K606q all0
              have Kc606 := Kc592.trans K606q all0
              have pre620 : ∀ t, oP p e below T606 (mkF m 377 #[oI p0, oI p1, oI p2, oI p3, oI p4, oI sc, oI sa, oI sb, oI si, oI (0 : Int32), oI a0c, oI a1c, oI u, oI b0c, oI b1c, oI jd, oR b477, oR b487, oR b503, oR b511, oI (0 : Int32), oI (0 : Int32)] [(.int (0 : Int32)), (.int (fn8q Z b511 b503 b487 b477 jd p2 t495 kt495 ([b0c, b1c] : List Int32) t480 kt480 ([a0c] : List Int32)))]) t → oP p e below s₁ (entryFrame m #[(.int p0), (.int p1), (.int p2), (.int p3), (.int p4)] maxLocals) t := fun t k => pre603 t (by
                show oP p e below T592 (mkF m 365 #[oI p0, oI p1, oI p2, oI p3, oI p4, oI sc, oI sa, oI sb, oI si, oI (0 : Int32), oI a0c, oI a1c, oI u, oI b0c, oI b1c, oI jd, oR b477, oR b487, oR b503, oR b511, oI (0 : Int32), oI (0 : Int32)] [(.int (0 : Int32)), (.int (fn8q Z b503 b511 b477 b487 p2 jd t480 kt480 ([a0c] : List Int32) t495 kt495 ([b0c, b1c] : List Int32)))]) _
                refine XS.icmpNo X592.here hx rfl (hb hby at_365) rfl (teq hc604).2 ?_
                show oP p e below T592 (mkF m 368 #[oI p0, oI p1, oI p2, oI p3, oI p4, oI sc, oI sa, oI sb, oI si, oI (0 : Int32), oI a0c, oI a1c, oI u, oI b0c, oI b1c, oI jd, oR b477, oR b487, oR b503, oR b511, oI (0 : Int32), oI (0 : Int32)] []) _
                refine XS.aload X592.here hx rfl (hb hby at_368) rfl rfl ?_
                show oP p e below T592 (mkF m 370 #[oI p0, oI p1, oI p2, oI p3, oI p4, oI sc, oI sa, oI sb, oI si, oI (0 : Int32), oI a0c, oI a1c, oI u, oI b0c, oI b1c, oI jd, oR b477, oR b487, oR b503, oR b511, oI (0 : Int32), oI (0 : Int32)] [(.ref b511)]) _
                refine XS.aload X592.here hx rfl (hb hby at_370) rfl rfl ?_
                show oP p e below T592 (mkF m 372 #[oI p0, oI p1, oI p2, oI p3, oI p4, oI sc, oI sa, oI sb, oI si, oI (0 : Int32), oI a0c, oI a1c, oI u, oI b0c, oI b1c, oI jd, oR b477, oR b487, oR b503, oR b511, oI (0 : Int32), oI (0 : Int32)] [(.ref b503), (.ref b511)]) _
                refine st606.trans ?_
                show oP p e below T606 (mkF m 375 #[oI p0, oI p1, oI p2, oI p3, oI p4, oI sc, oI sa, oI sb, oI si, oI (0 : Int32), oI a0c, oI a1c, oI u, oI b0c, oI b1c, oI jd, oR b477, oR b487, oR b503, oR b511, oI (0 : Int32), oI (0 : Int32)] [(.int (fn8q Z b511 b503 b487 b477 jd p2 t495 kt495 ([b0c, b1c] : List Int32) t480 kt480 ([a0c] : List Int32)))]) _
                refine XS.iload X606.here hx rfl (hb hby at_375) rfl ?_
                exact k)
              by_cases hc621 : (fn8q Z b511 b503 b487 b477 jd p2 t495 kt495 ([b0c, b1c] : List Int32) t480 kt480 ([a0c] : List Int32)) = (0 : Int32)
              · obtain ⟨fs, hr, hrun, hended, hW, hsame⟩ := X606.leave (v := some (.int (1 : Int32))) (fun h => by rw [Bd.returns] at h; cases h)
                refine ⟨_, _, pre620 _ ?_, hrun, hended, _, _, rfl, ?_, ⟨_, rfl⟩, hW, hsame.mono (by decide) (by decide)⟩
                · show oP p e below T606 (mkF m 377 #[oI p0, oI p1, oI p2, oI p3, oI p4, oI sc, oI sa, oI sb, oI si, oI (0 : Int32), oI a0c, oI a1c, oI u, oI b0c, oI b1c, oI jd, oR b477, oR b487, oR b503, oR b511, oI (0 : Int32), oI (0 : Int32)] [(.int (0 : Int32)), (.int (fn8q Z b511 b503 b487 b477 jd p2 t495 kt495 ([b0c, b1c] : List Int32) t480 kt480 ([a0c] : List Int32)))]) _
                  refine XS.icmpNo X606.here hx rfl (hb hby at_377) rfl (teq hc621).2 ?_
                  show oP p e below T606 (mkF m 380 #[oI p0, oI p1, oI p2, oI p3, oI p4, oI sc, oI sa, oI sb, oI si, oI (0 : Int32), oI a0c, oI a1c, oI u, oI b0c, oI b1c, oI jd, oR b477, oR b487, oR b503, oR b511, oI (0 : Int32), oI (0 : Int32)] []) _
                  refine XS.iconst X606.here hx rfl (hb hby at_380) ?_
                  show oP p e below T606 (mkF m 381 #[oI p0, oI p1, oI p2, oI p3, oI p4, oI sc, oI sa, oI sb, oI si, oI (0 : Int32), oI a0c, oI a1c, oI u, oI b0c, oI b1c, oI jd, oR b477, oR b487, oR b503, oR b511, oI (0 : Int32), oI (0 : Int32)] [(.int (1 : Int32))]) _
                  refine XS.goto X606.here hx rfl (pc0 := 381) (pc' := 385) rfl (hb hby at_381) (by decide) (by decide) ?_
                  show oP p e below T606 (mkF m 385 #[oI p0, oI p1, oI p2, oI p3, oI p4, oI sc, oI sa, oI sb, oI si, oI (0 : Int32), oI a0c, oI a1c, oI u, oI b0c, oI b1c, oI jd, oR b477, oR b487, oR b503, oR b511, oI (0 : Int32), oI (0 : Int32)] [(.int (1 : Int32))]) _
                  exact retN X606 hx (t := .boolean) Bd.returns (by simp) (hb hby at_385) hr
                · show (some (.int (1 : Int32)) : Option Value) = some (.int (1 : Int32)) ∧ Fr n0 _ ∧ Keep h0 T606.heap []
                  exact ⟨rfl, N606, Kc606⟩
              · exfalso
                exact ab622 hS p2 sa sb a0c b0c b1c jd rsa rsb hc40 hc486 hc520 hc522 hc604 hc621
            · exfalso
              exact ab623 hS p2 sa sb a0c b0c b1c jd rsa rsb hc40 hc486 hc520 hc522 hc604
        · have fx624 := ((po509_0.ext E511).keep K518q)
          have fx626 := ((po509_1.ext E511).keep K518q (ninS ne_b503_b511 nin0))
          have fx627 := ((po509_2.ext E511).keep K518q (ninS ne_b503_b511 nin0))
          have fx628 := (((((((((pV480.ext E487).ext E489).other W493 (Or.inl ne_b477_b489)).other W494 (Or.inl ne_b477_b489)).keep K495q (ninS ne_b477_b487 nin0)).ext E503).keep K509q (ninS ne_b477_b503 nin0)).ext E511).keep K518q (ninS ne_b477_b511 nin0))
          have fx629 := ((fx514.ext E511).keep K518q (ninS ne_t480_b511 nin0))
          have fx630 := ((((pV495.ext E503).keep K509q (ninS ne_b487_b503 nin0)).ext E511).keep K518q (ninS ne_b487_b511 nin0))
          have fx631 := ((fx517.ext E511).keep K518q (ninS ne_t495_b511 nin0))
          have fx632 := ((fx512.ext E511).keep K518q)
          have fx633 := (((((((((pC480.ext E487).ext E489).other W493 (Or.inl ne_b477_b489)).other W494 (Or.inl ne_b477_b489)).keep K495q (ninS ne_b477_b487 nin0)).ext E503).keep K509q (ninS ne_b477_b503 nin0)).ext E511).keep K518q (ninS ne_b477_b511 nin0))
          have fx634 := ((fx515.ext E511).keep K518q)
          have fx635 := ((((pC495.ext E503).keep K509q (ninS ne_b487_b503 nin0)).ext E511).keep K518q (ninS ne_b487_b511 nin0))
          obtain ⟨cq625, kq625, q625a, q625b, q625c⟩ := isOf hZ rfl fx624
          obtain ⟨_, _, ⟨T625, L625, k625, n625⟩, -, X625, ⟨Lc625, hQ625, l625, y625, z625⟩, st625⟩ := X518.virtualBack hx (y := (⟨"com/example/narada/narada/store/QueueKey", "equals", "(Ljava/lang/Object;)Z"⟩ : MethodName)) (z := (⟨"com/example/narada/narada/store/QueueKey", "equals", "(Ljava/lang/Object;)Z"⟩ : MethodName)) hown (mvT hZ (hw _ (List.mem_of_getElem? (i := 41) rfl))) (mvT hZ (hw _ (List.mem_of_getElem? (i := 42) rfl))) (notFace_of_selects (args := #[]) (mvT hZ (hw _ (List.mem_of_getElem? (i := 44) rfl)))) (mvT hZ (hw _ (List.mem_of_getElem? (i := 44) rfl))) (mvT hZ (hw _ (List.mem_of_getElem? (i := 43) rfl))) (by decide) (backOf (W := 0) (rm8q l Z a0 hw hS [] b503 b511 b477 b487 p2 jd t480 kt480 ([a0c] : List Int32) t495 kt495 ([b0c, b1c] : List Int32) T518.heap n0 O518 po518_0 fx626 po518_1 fx627 po518_2 fx632 fx633 fx628 fx629 hp484 (Nat.le_of_ble_eq_true rfl) fx634 fx635 fx630 fx631 hp499 (Nat.le_of_ble_eq_true rfl)) hZ (hw _ (List.mem_of_getElem? (i := 45) rfl)) (hw _ (List.mem_of_getElem? (i := 32) rfl)) (by decide) (by decide)) q625a q625c (g := (mkF m 360 #[oI p0, oI p1, oI p2, oI p3, oI p4, oI sc, oI sa, oI sb, oI si, oI (0 : Int32), oI a0c, oI a1c, oI u, oI b0c, oI b1c, oI jd, oR b477, oR b487, oR b503, oR b511, oI (0 : Int32), oI (0 : Int32)] [(.ref b511), (.ref b503)])) rfl (by rw [hml]; rfl) (Steps.refl _) (argsL := [(.ref b511)]) (rest := []) (lenOf pd_0 rfl) rfl (by show 2 * 0 + _ ≤ _; exact Nat.le_of_eq rfl) (hb hby at_360) (fun _ _ => ⟨rfl, rfl, (by decide : 8 + 0 ≤ _), (by decide : 18 + 0 ≤ _)⟩)
          dsimp only [Pt.U, Pt.locs, Pt.cells, Pt.slots] at X625 l625 y625 z625 st625 hQ625
          subst l625 y625 z625
          obtain ⟨v625, N625q, K625q⟩ := hQ625
          subst v625
          have N625 := Fr.app N518 N625q
          have O625 := O518.keep K625q all0
          have Kc625 := Kc518.trans K625q all0
          have pre636 : ∀ t, oP p e below T625 (mkF m 365 #[oI p0, oI p1, oI p2, oI p3, oI p4, oI sc, oI sa, oI sb, oI si, oI (0 : Int32), oI a0c, oI a1c, oI u, oI b0c, oI b1c, oI jd, oR b477, oR b487, oR b503, oR b511, oI (0 : Int32), oI (0 : Int32)] [(.int (0 : Int32)), (.int (fn8q Z b503 b511 b477 b487 p2 jd t480 kt480 ([a0c] : List Int32) t495 kt495 ([b0c, b1c] : List Int32)))]) t → oP p e below s₁ (entryFrame m #[(.int p0), (.int p1), (.int p2), (.int p3), (.int p4)] maxLocals) t := fun t k => pre519 t (by
            show oP p e below T518 (mkF m 309 #[oI p0, oI p1, oI p2, oI p3, oI p4, oI sc, oI sa, oI sb, oI si, oI (0 : Int32), oI a0c, oI a1c, oI u, oI b0c, oI b1c, oI jd, oR b477, oR b487, oR b503, oR b511, oU, oU] [(.int sb), (.int sa)]) _
            refine XS.icmpYes X518.here hx rfl (pc0 := 309) (pc' := 335) rfl (hb hby at_309) rfl (feq hc520).2 (by decide) (by decide) ?_
            show oP p e below T518 (mkF m 335 #[oI p0, oI p1, oI p2, oI p3, oI p4, oI sc, oI sa, oI sb, oI si, oI (0 : Int32), oI a0c, oI a1c, oI u, oI b0c, oI b1c, oI jd, oR b477, oR b487, oR b503, oR b511, oU, oU] []) _
            refine XS.iconst X518.here hx rfl (hb hby at_335) ?_
            show oP p e below T518 (mkF m 336 #[oI p0, oI p1, oI p2, oI p3, oI p4, oI sc, oI sa, oI sb, oI si, oI (0 : Int32), oI a0c, oI a1c, oI u, oI b0c, oI b1c, oI jd, oR b477, oR b487, oR b503, oR b511, oU, oU] [(.int (0 : Int32))]) _
            refine XS.istore X518.here hx rfl (hb hby at_336) rfl (l' := #[oI p0, oI p1, oI p2, oI p3, oI p4, oI sc, oI sa, oI sb, oI si, oI (0 : Int32), oI a0c, oI a1c, oI u, oI b0c, oI b1c, oI jd, oR b477, oR b487, oR b503, oR b511, oI (0 : Int32), oU]) rfl ?_
            show oP p e below T518 (mkF m 338 #[oI p0, oI p1, oI p2, oI p3, oI p4, oI sc, oI sa, oI sb, oI si, oI (0 : Int32), oI a0c, oI a1c, oI u, oI b0c, oI b1c, oI jd, oR b477, oR b487, oR b503, oR b511, oI (0 : Int32), oU] []) _
            refine XS.iload X518.here hx rfl (hb hby at_338) rfl ?_
            show oP p e below T518 (mkF m 340 #[oI p0, oI p1, oI p2, oI p3, oI p4, oI sc, oI sa, oI sb, oI si, oI (0 : Int32), oI a0c, oI a1c, oI u, oI b0c, oI b1c, oI jd, oR b477, oR b487, oR b503, oR b511, oI (0 : Int32), oU] [(.int (0 : Int32))]) _
            refine XS.ifYes X518.here hx rfl (pc0 := 340) (pc' := 353) rfl (hb hby at_340) rfl ((if0 _ _).trans (teq (by decide : (0 : Int32) = (0 : Int32))).1) (by decide) (by decide) ?_
            show oP p e below T518 (mkF m 353 #[oI p0, oI p1, oI p2, oI p3, oI p4, oI sc, oI sa, oI sb, oI si, oI (0 : Int32), oI a0c, oI a1c, oI u, oI b0c, oI b1c, oI jd, oR b477, oR b487, oR b503, oR b511, oI (0 : Int32), oU] []) _
            refine XS.iconst X518.here hx rfl (hb hby at_353) ?_
            show oP p e below T518 (mkF m 354 #[oI p0, oI p1, oI p2, oI p3, oI p4, oI sc, oI sa, oI sb, oI si, oI (0 : Int32), oI a0c, oI a1c, oI u, oI b0c, oI b1c, oI jd, oR b477, oR b487, oR b503, oR b511, oI (0 : Int32), oU] [(.int (0 : Int32))]) _
            refine XS.istore X518.here hx rfl (hb hby at_354) rfl (l' := #[oI p0, oI p1, oI p2, oI p3, oI p4, oI sc, oI sa, oI sb, oI si, oI (0 : Int32), oI a0c, oI a1c, oI u, oI b0c, oI b1c, oI jd, oR b477, oR b487, oR b503, oR b511, oI (0 : Int32), oI (0 : Int32)]) rfl ?_
            show oP p e below T518 (mkF m 356 #[oI p0, oI p1, oI p2, oI p3, oI p4, oI sc, oI sa, oI sb, oI si, oI (0 : Int32), oI a0c, oI a1c, oI u, oI b0c, oI b1c, oI jd, oR b477, oR b487, oR b503, oR b511, oI (0 : Int32), oI (0 : Int32)] []) _
            refine XS.aload X518.here hx rfl (hb hby at_356) rfl rfl ?_
            show oP p e below T518 (mkF m 358 #[oI p0, oI p1, oI p2, oI p3, oI p4, oI sc, oI sa, oI sb, oI si, oI (0 : Int32), oI a0c, oI a1c, oI u, oI b0c, oI b1c, oI jd, oR b477, oR b487, oR b503, oR b511, oI (0 : Int32), oI (0 : Int32)] [(.ref b503)]) _
            refine XS.aload X518.here hx rfl (hb hby at_358) rfl rfl ?_
            show oP p e below T518 (mkF m 360 #[oI p0, oI p1, oI p2, oI p3, oI p4, oI sc, oI sa, oI sb, oI si, oI (0 : Int32), oI a0c, oI a1c, oI u, oI b0c, oI b1c, oI jd, oR b477, oR b487, oR b503, oR b511, oI (0 : Int32), oI (0 : Int32)] [(.ref b511), (.ref b503)]) _
            refine st625.trans ?_
            show oP p e below T625 (mkF m 363 #[oI p0, oI p1, oI p2, oI p3, oI p4, oI sc, oI sa, oI sb, oI si, oI (0 : Int32), oI a0c, oI a1c, oI u, oI b0c, oI b1c, oI jd, oR b477, oR b487, oR b503, oR b511, oI (0 : Int32), oI (0 : Int32)] [(.int (fn8q Z b503 b511 b477 b487 p2 jd t480 kt480 ([a0c] : List Int32) t495 kt495 ([b0c, b1c] : List Int32)))]) _
            refine XS.iload X625.here hx rfl (hb hby at_363) rfl ?_
            exact k)
          by_cases hc637 : (fn8q Z b503 b511 b477 b487 p2 jd t480 kt480 ([a0c] : List Int32) t495 kt495 ([b0c, b1c] : List Int32)) = (0 : Int32)
          · have fx638 := (po518_0.keep K625q)
            have fx640 := (po518_1.keep K625q nin0)
            have fx641 := (fx626.keep K625q nin0)
            have fx642 := (po518_2.keep K625q nin0)
            have fx643 := (fx627.keep K625q nin0)
            have fx644 := (fx630.keep K625q nin0)
            have fx645 := (fx631.keep K625q nin0)
            have fx646 := (fx628.keep K625q nin0)
            have fx647 := (fx629.keep K625q nin0)
            have fx648 := (fx624.keep K625q)
            have fx649 := (fx634.keep K625q)
            have fx650 := (fx635.keep K625q nin0)
            have fx651 := (fx632.keep K625q)
            have fx652 := (fx633.keep K625q nin0)
            obtain ⟨cq639, kq639, q639a, q639b, q639c⟩ := isOf hZ rfl fx638
            obtain ⟨_, _, ⟨T639, L639, k639, n639⟩, -, X639, ⟨Lc639, hQ639, l639, y639, z639⟩, st639⟩ := X625.virtualBack hx (y := (⟨"com/example/narada/narada/store/QueueKey", "equals", "(Ljava/lang/Object;)Z"⟩ : MethodName)) (z := (⟨"com/example/narada/narada/store/QueueKey", "equals", "(Ljava/lang/Object;)Z"⟩ : MethodName)) hown (mvT hZ (hw _ (List.mem_of_getElem? (i := 41) rfl))) (mvT hZ (hw _ (List.mem_of_getElem? (i := 42) rfl))) (notFace_of_selects (args := #[]) (mvT hZ (hw _ (List.mem_of_getElem? (i := 44) rfl)))) (mvT hZ (hw _ (List.mem_of_getElem? (i := 44) rfl))) (mvT hZ (hw _ (List.mem_of_getElem? (i := 43) rfl))) (by decide) (backOf (W := 0) (rm8q l Z a0 hw hS [] b511 b503 b487 b477 jd p2 t495 kt495 ([b0c, b1c] : List Int32) t480 kt480 ([a0c] : List Int32) T625.heap n0 O625 fx648 fx640 fx641 fx642 fx643 fx649 fx650 fx644 fx645 hp499 (Nat.le_of_ble_eq_true rfl) fx651 fx652 fx646 fx647 hp484 (Nat.le_of_ble_eq_true rfl)) hZ (hw _ (List.mem_of_getElem? (i := 45) rfl)) (hw _ (List.mem_of_getElem? (i := 32) rfl)) (by decide) (by decide)) q639a q639c (g := (mkF m 372 #[oI p0, oI p1, oI p2, oI p3, oI p4, oI sc, oI sa, oI sb, oI si, oI (0 : Int32), oI a0c, oI a1c, oI u, oI b0c, oI b1c, oI jd, oR b477, oR b487, oR b503, oR b511, oI (0 : Int32), oI (0 : Int32)] [(.ref b503), (.ref b511)])) rfl (by rw [hml]; rfl) (Steps.refl _) (argsL := [(.ref b503)]) (rest := []) (lenOf pd_0 rfl) rfl (by show 2 * 0 + _ ≤ _; exact Nat.le_of_eq rfl) (hb hby at_372) (fun _ _ => ⟨rfl, rfl, (by decide : 8 + 0 ≤ _), (by decide : 18 + 0 ≤ _)⟩)
            dsimp only [Pt.U, Pt.locs, Pt.cells, Pt.slots] at X639 l639 y639 z639 st639 hQ639
            subst l639 y639 z639
            obtain ⟨v639, N639q, K639q⟩ := hQ639
            subst v639
            have N639 := Fr.app N625 N639q
            have O639 := O625.keep K639q all0
            have Kc639 := Kc625.trans K639q all0
            have pre653 : ∀ t, oP p e below T639 (mkF m 377 #[oI p0, oI p1, oI p2, oI p3, oI p4, oI sc, oI sa, oI sb, oI si, oI (0 : Int32), oI a0c, oI a1c, oI u, oI b0c, oI b1c, oI jd, oR b477, oR b487, oR b503, oR b511, oI (0 : Int32), oI (0 : Int32)] [(.int (0 : Int32)), (.int (fn8q Z b511 b503 b487 b477 jd p2 t495 kt495 ([b0c, b1c] : List Int32) t480 kt480 ([a0c] : List Int32)))]) t → oP p e below s₁ (entryFrame m #[(.int p0), (.int p1), (.int p2), (.int p3), (.int p4)] maxLocals) t := fun t k => pre636 t (by
              show oP p e below T625 (mkF m 365 #[oI p0, oI p1, oI p2, oI p3, oI p4, oI sc, oI sa, oI sb, oI si, oI (0 : Int32), oI a0c, oI a1c, oI u, oI b0c, oI b1c, oI jd, oR b477, oR b487, oR b503, oR b511, oI (0 : Int32), oI (0 : Int32)] [(.int (0 : Int32)), (.int (fn8q Z b503 b511 b477 b487 p2 jd t480 kt480 ([a0c] : List Int32) t495 kt495 ([b0c, b1c] : List Int32)))]) _
              refine XS.icmpNo X625.here hx rfl (hb hby at_365) rfl (teq hc637).2 ?_
              show oP p e below T625 (mkF m 368 #[oI p0, oI p1, oI p2, oI p3, oI p4, oI sc, oI sa, oI sb, oI si, oI (0 : Int32), oI a0c, oI a1c, oI u, oI b0c, oI b1c, oI jd, oR b477, oR b487, oR b503, oR b511, oI (0 : Int32), oI (0 : Int32)] []) _
              refine XS.aload X625.here hx rfl (hb hby at_368) rfl rfl ?_
              show oP p e below T625 (mkF m 370 #[oI p0, oI p1, oI p2, oI p3, oI p4, oI sc, oI sa, oI sb, oI si, oI (0 : Int32), oI a0c, oI a1c, oI u, oI b0c, oI b1c, oI jd, oR b477, oR b487, oR b503, oR b511, oI (0 : Int32), oI (0 : Int32)] [(.ref b511)]) _
              refine XS.aload X625.here hx rfl (hb hby at_370) rfl rfl ?_
              show oP p e below T625 (mkF m 372 #[oI p0, oI p1, oI p2, oI p3, oI p4, oI sc, oI sa, oI sb, oI si, oI (0 : Int32), oI a0c, oI a1c, oI u, oI b0c, oI b1c, oI jd, oR b477, oR b487, oR b503, oR b511, oI (0 : Int32), oI (0 : Int32)] [(.ref b503), (.ref b511)]) _
              refine st639.trans ?_
              show oP p e below T639 (mkF m 375 #[oI p0, oI p1, oI p2, oI p3, oI p4, oI sc, oI sa, oI sb, oI si, oI (0 : Int32), oI a0c, oI a1c, oI u, oI b0c, oI b1c, oI jd, oR b477, oR b487, oR b503, oR b511, oI (0 : Int32), oI (0 : Int32)] [(.int (fn8q Z b511 b503 b487 b477 jd p2 t495 kt495 ([b0c, b1c] : List Int32) t480 kt480 ([a0c] : List Int32)))]) _
              refine XS.iload X639.here hx rfl (hb hby at_375) rfl ?_
              exact k)
            by_cases hc654 : (fn8q Z b511 b503 b487 b477 jd p2 t495 kt495 ([b0c, b1c] : List Int32) t480 kt480 ([a0c] : List Int32)) = (0 : Int32)
            · obtain ⟨fs, hr, hrun, hended, hW, hsame⟩ := X639.leave (v := some (.int (1 : Int32))) (fun h => by rw [Bd.returns] at h; cases h)
              refine ⟨_, _, pre653 _ ?_, hrun, hended, _, _, rfl, ?_, ⟨_, rfl⟩, hW, hsame.mono (by decide) (by decide)⟩
              · show oP p e below T639 (mkF m 377 #[oI p0, oI p1, oI p2, oI p3, oI p4, oI sc, oI sa, oI sb, oI si, oI (0 : Int32), oI a0c, oI a1c, oI u, oI b0c, oI b1c, oI jd, oR b477, oR b487, oR b503, oR b511, oI (0 : Int32), oI (0 : Int32)] [(.int (0 : Int32)), (.int (fn8q Z b511 b503 b487 b477 jd p2 t495 kt495 ([b0c, b1c] : List Int32) t480 kt480 ([a0c] : List Int32)))]) _
                refine XS.icmpNo X639.here hx rfl (hb hby at_377) rfl (teq hc654).2 ?_
                show oP p e below T639 (mkF m 380 #[oI p0, oI p1, oI p2, oI p3, oI p4, oI sc, oI sa, oI sb, oI si, oI (0 : Int32), oI a0c, oI a1c, oI u, oI b0c, oI b1c, oI jd, oR b477, oR b487, oR b503, oR b511, oI (0 : Int32), oI (0 : Int32)] []) _
                refine XS.iconst X639.here hx rfl (hb hby at_380) ?_
                show oP p e below T639 (mkF m 381 #[oI p0, oI p1, oI p2, oI p3, oI p4, oI sc, oI sa, oI sb, oI si, oI (0 : Int32), oI a0c, oI a1c, oI u, oI b0c, oI b1c, oI jd, oR b477, oR b487, oR b503, oR b511, oI (0 : Int32), oI (0 : Int32)] [(.int (1 : Int32))]) _
                refine XS.goto X639.here hx rfl (pc0 := 381) (pc' := 385) rfl (hb hby at_381) (by decide) (by decide) ?_
                show oP p e below T639 (mkF m 385 #[oI p0, oI p1, oI p2, oI p3, oI p4, oI sc, oI sa, oI sb, oI si, oI (0 : Int32), oI a0c, oI a1c, oI u, oI b0c, oI b1c, oI jd, oR b477, oR b487, oR b503, oR b511, oI (0 : Int32), oI (0 : Int32)] [(.int (1 : Int32))]) _
                exact retN X639 hx (t := .boolean) Bd.returns (by simp) (hb hby at_385) hr
              · show (some (.int (1 : Int32)) : Option Value) = some (.int (1 : Int32)) ∧ Fr n0 _ ∧ Keep h0 T639.heap []
                exact ⟨rfl, N639, Kc639⟩
            · exfalso
              exact ab655 hS p2 sa sb a0c b0c b1c jd rsa rsb hc40 hc486 hc520 hc637 hc654
          · exfalso
            exact ab656 hS p2 sa sb a0c b0c b1c jd rsa rsb hc40 hc486 hc520 hc637
      · obtain ⟨cq657, kq657, q657a, q657b, q657c⟩ := isOf hZ rfl po509_0
        obtain ⟨_, _, ⟨T657, L657, k657, n657⟩, -, X657, ⟨Lc657, hQ657, l657, y657, z657⟩, st657⟩ := X509.virtualBack hx (y := (⟨"com/example/narada/narada/store/QueueKey", "equals", "(Ljava/lang/Object;)Z"⟩ : MethodName)) (z := (⟨"com/example/narada/narada/store/QueueKey", "equals", "(Ljava/lang/Object;)Z"⟩ : MethodName)) hown (mvT hZ (hw _ (List.mem_of_getElem? (i := 41) rfl))) (mvT hZ (hw _ (List.mem_of_getElem? (i := 42) rfl))) (notFace_of_selects (args := #[]) (mvT hZ (hw _ (List.mem_of_getElem? (i := 44) rfl)))) (mvT hZ (hw _ (List.mem_of_getElem? (i := 44) rfl))) (mvT hZ (hw _ (List.mem_of_getElem? (i := 43) rfl))) (by decide) (backOf (W := 0) (rm8n l Z a0 hw hS [] b503 T509.heap n0 O509 ) hZ (hw _ (List.mem_of_getElem? (i := 45) rfl)) (hw _ (List.mem_of_getElem? (i := 32) rfl)) (by decide) (by decide)) q657a q657c (g := (mkF m 240 #[oI p0, oI p1, oI p2, oI p3, oI p4, oI sc, oI sa, oI sb, oI si, oI (1 : Int32), oI a0c, oI a1c, oI u, oI b0c, oI b1c, oI jd, oR b477, oR b487, oR b503, oU, oU, oU] [.null, (.ref b503)])) rfl (by rw [hml]; rfl) (Steps.refl _) (argsL := [.null]) (rest := []) (lenOf pd_0 rfl) rfl (by show 2 * 0 + _ ≤ _; exact Nat.le_of_eq rfl) (hb hby at_240) (fun _ _ => ⟨rfl, rfl, (by decide : 7 + 0 ≤ _), (by decide : 16 + 0 ≤ _)⟩)
        dsimp only [Pt.U, Pt.locs, Pt.cells, Pt.slots] at X657 l657 y657 z657 st657 hQ657
        subst l657 y657 z657
        obtain ⟨v657, N657q, K657q⟩ := hQ657
        have w657 : (fn8n Z b503) = (0 : Int32) := rfl
        rw [w657] at v657
        subst v657
        have N657 := Fr.app N509 N657q
        have O657 := O509.keep K657q all0
        have Kc657 := Kc509.trans K657q all0
        obtain ⟨fs, hr, hrun, hended, hW, hsame⟩ := X657.leave (v := some (.int (1 : Int32))) (fun h => by rw [Bd.returns] at h; cases h)
        refine ⟨_, _, pre510 _ ?_, hrun, hended, _, _, rfl, ?_, ⟨_, rfl⟩, hW, hsame.mono (by decide) (by decide)⟩
        · show oP p e below T509 (mkF m 231 #[oI p0, oI p1, oI p2, oI p3, oI p4, oI sc, oI sa, oI sb, oI si, oI (1 : Int32), oI a0c, oI a1c, oI u, oI b0c, oI b1c, oI jd, oR b477, oR b487, oR b503, oU, oU, oU] []) _
          refine XS.iload X509.here hx rfl (hb hby at_231) rfl ?_
          show oP p e below T509 (mkF m 233 #[oI p0, oI p1, oI p2, oI p3, oI p4, oI sc, oI sa, oI sb, oI si, oI (1 : Int32), oI a0c, oI a1c, oI u, oI b0c, oI b1c, oI jd, oR b477, oR b487, oR b503, oU, oU, oU] [(.int (1 : Int32))]) _
          refine XS.iconst X509.here hx rfl (hb hby at_233) ?_
          show oP p e below T509 (mkF m 234 #[oI p0, oI p1, oI p2, oI p3, oI p4, oI sc, oI sa, oI sb, oI si, oI (1 : Int32), oI a0c, oI a1c, oI u, oI b0c, oI b1c, oI jd, oR b477, oR b487, oR b503, oU, oU, oU] [(.int (1 : Int32)), (.int (1 : Int32))]) _
          refine XS.icmpNo X509.here hx rfl (hb hby at_234) rfl (teq (by decide : (1 : Int32) = (1 : Int32))).2 ?_
          show oP p e below T509 (mkF m 237 #[oI p0, oI p1, oI p2, oI p3, oI p4, oI sc, oI sa, oI sb, oI si, oI (1 : Int32), oI a0c, oI a1c, oI u, oI b0c, oI b1c, oI jd, oR b477, oR b487, oR b503, oU, oU, oU] []) _
          refine XS.aload X509.here hx rfl (hb hby at_237) rfl rfl ?_
          show oP p e below T509 (mkF m 239 #[oI p0, oI p1, oI p2, oI p3, oI p4, oI sc, oI sa, oI sb, oI si, oI (1 : Int32), oI a0c, oI a1c, oI u, oI b0c, oI b1c, oI jd, oR b477, oR b487, oR b503, oU, oU, oU] [(.ref b503)]) _
          refine XS.aconstNull X509.here hx rfl (hb hby at_239) ?_
          show oP p e below T509 (mkF m 240 #[oI p0, oI p1, oI p2, oI p3, oI p4, oI sc, oI sa, oI sb, oI si, oI (1 : Int32), oI a0c, oI a1c, oI u, oI b0c, oI b1c, oI jd, oR b477, oR b487, oR b503, oU, oU, oU] [.null, (.ref b503)]) _
          refine st657.trans ?_
          show oP p e below T657 (mkF m 243 #[oI p0, oI p1, oI p2, oI p3, oI p4, oI sc, oI sa, oI sb, oI si, oI (1 : Int32), oI a0c, oI a1c, oI u, oI b0c, oI b1c, oI jd, oR b477, oR b487, oR b503, oU, oU, oU] [(.int (0 : Int32))]) _
          refine XS.ifNo X657.here hx rfl (hb hby at_243) rfl ((if0 _ _).trans (teq (by decide : (0 : Int32) = (0 : Int32))).2) ?_
          show oP p e below T657 (mkF m 246 #[oI p0, oI p1, oI p2, oI p3, oI p4, oI sc, oI sa, oI sb, oI si, oI (1 : Int32), oI a0c, oI a1c, oI u, oI b0c, oI b1c, oI jd, oR b477, oR b487, oR b503, oU, oU, oU] []) _
          refine XS.iconst X657.here hx rfl (hb hby at_246) ?_
          show oP p e below T657 (mkF m 247 #[oI p0, oI p1, oI p2, oI p3, oI p4, oI sc, oI sa, oI sb, oI si, oI (1 : Int32), oI a0c, oI a1c, oI u, oI b0c, oI b1c, oI jd, oR b477, oR b487, oR b503, oU, oU, oU] [(.int (1 : Int32))]) _
          refine XS.goto X657.here hx rfl (pc0 := 247) (pc' := 251) rfl (hb hby at_247) (by decide) (by decide) ?_
          show oP p e below T657 (mkF m 251 #[oI p0, oI p1, oI p2, oI p3, oI p4, oI sc, oI sa, oI sb, oI si, oI (1 : Int32), oI a0c, oI a1c, oI u, oI b0c, oI b1c, oI jd, oR b477, oR b487, oR b503, oU, oU, oU] [(.int (1 : Int32))]) _
          exact retN X657 hx (t := .boolean) Bd.returns (by simp) (hb hby at_251) hr
        · show (some (.int (1 : Int32)) : Option Value) = some (.int (1 : Int32)) ∧ Fr n0 _ ∧ Keep h0 T657.heap []
          exact ⟨rfl, N657, Kc657⟩
      · have fx659 := ((fx504.ext E503).keep K509q)
        obtain ⟨cq658, kq658, q658a, q658b, q658c⟩ := isOf hZ rfl po509_0
        obtain ⟨_, _, ⟨T658, L658, k658, n658⟩, -, X658, ⟨Lc658, hQ658, l658, y658, z658⟩, st658⟩ := X509.virtualBack hx (y := (⟨"com/example/narada/narada/store/QueueKey", "equals", "(Ljava/lang/Object;)Z"⟩ : MethodName)) (z := (⟨"com/example/narada/narada/store/QueueKey", "equals", "(Ljava/lang/Object;)Z"⟩ : MethodName)) hown (mvT hZ (hw _ (List.mem_of_getElem? (i := 41) rfl))) (mvT hZ (hw _ (List.mem_of_getElem? (i := 42) rfl))) (notFace_of_selects (args := #[]) (mvT hZ (hw _ (List.mem_of_getElem? (i := 44) rfl)))) (mvT hZ (hw _ (List.mem_of_getElem? (i := 44) rfl))) (mvT hZ (hw _ (List.mem_of_getElem? (i := 43) rfl))) (by decide) (backOf (W := 0) (rm8s l Z a0 hw hS [] b503 b477 T509.heap n0 O509 fx659) hZ (hw _ (List.mem_of_getElem? (i := 45) rfl)) (hw _ (List.mem_of_getElem? (i := 32) rfl)) (by decide) (by decide)) q658a q658c (g := (mkF m 266 #[oI p0, oI p1, oI p2, oI p3, oI p4, oI sc, oI sa, oI sb, oI si, oI (2 : Int32), oI a0c, oI a1c, oI u, oI b0c, oI b1c, oI jd, oR b477, oR b487, oR b503, oR b477, oU, oU] [(.ref b477), (.ref b503)])) rfl (by rw [hml]; rfl) (Steps.refl _) (argsL := [(.ref b477)]) (rest := []) (lenOf pd_0 rfl) rfl (by show 2 * 0 + _ ≤ _; exact Nat.le_of_eq rfl) (hb hby at_266) (fun _ _ => ⟨rfl, rfl, (by decide : 7 + 0 ≤ _), (by decide : 16 + 0 ≤ _)⟩)
        dsimp only [Pt.U, Pt.locs, Pt.cells, Pt.slots] at X658 l658 y658 z658 st658 hQ658
        subst l658 y658 z658
        obtain ⟨v658, N658q, K658q⟩ := hQ658
        have w658 : (fn8s Z b503 b477) = (0 : Int32) := rfl
        rw [w658] at v658
        subst v658
        have N658 := Fr.app N509 N658q
        have O658 := O509.keep K658q all0
        have Kc658 := Kc509.trans K658q all0
        obtain ⟨fs, hr, hrun, hended, hW, hsame⟩ := X658.leave (v := some (.int (1 : Int32))) (fun h => by rw [Bd.returns] at h; cases h)
        refine ⟨_, _, pre510 _ ?_, hrun, hended, _, _, rfl, ?_, ⟨_, rfl⟩, hW, hsame.mono (by decide) (by decide)⟩
        · show oP p e below T509 (mkF m 231 #[oI p0, oI p1, oI p2, oI p3, oI p4, oI sc, oI sa, oI sb, oI si, oI (2 : Int32), oI a0c, oI a1c, oI u, oI b0c, oI b1c, oI jd, oR b477, oR b487, oR b503, oU, oU, oU] []) _
          refine XS.iload X509.here hx rfl (hb hby at_231) rfl ?_
          show oP p e below T509 (mkF m 233 #[oI p0, oI p1, oI p2, oI p3, oI p4, oI sc, oI sa, oI sb, oI si, oI (2 : Int32), oI a0c, oI a1c, oI u, oI b0c, oI b1c, oI jd, oR b477, oR b487, oR b503, oU, oU, oU] [(.int (2 : Int32))]) _
          refine XS.iconst X509.here hx rfl (hb hby at_233) ?_
          show oP p e below T509 (mkF m 234 #[oI p0, oI p1, oI p2, oI p3, oI p4, oI sc, oI sa, oI sb, oI si, oI (2 : Int32), oI a0c, oI a1c, oI u, oI b0c, oI b1c, oI jd, oR b477, oR b487, oR b503, oU, oU, oU] [(.int (1 : Int32)), (.int (2 : Int32))]) _
          refine XS.icmpYes X509.here hx rfl (pc0 := 234) (pc' := 252) rfl (hb hby at_234) rfl (feq (by decide : ¬ ((2 : Int32) = (1 : Int32)))).2 (by decide) (by decide) ?_
          show oP p e below T509 (mkF m 252 #[oI p0, oI p1, oI p2, oI p3, oI p4, oI sc, oI sa, oI sb, oI si, oI (2 : Int32), oI a0c, oI a1c, oI u, oI b0c, oI b1c, oI jd, oR b477, oR b487, oR b503, oU, oU, oU] []) _
          refine XS.iload X509.here hx rfl (hb hby at_252) rfl ?_
          show oP p e below T509 (mkF m 254 #[oI p0, oI p1, oI p2, oI p3, oI p4, oI sc, oI sa, oI sb, oI si, oI (2 : Int32), oI a0c, oI a1c, oI u, oI b0c, oI b1c, oI jd, oR b477, oR b487, oR b503, oU, oU, oU] [(.int (2 : Int32))]) _
          refine XS.iconst X509.here hx rfl (hb hby at_254) ?_
          show oP p e below T509 (mkF m 255 #[oI p0, oI p1, oI p2, oI p3, oI p4, oI sc, oI sa, oI sb, oI si, oI (2 : Int32), oI a0c, oI a1c, oI u, oI b0c, oI b1c, oI jd, oR b477, oR b487, oR b503, oU, oU, oU] [(.int (2 : Int32)), (.int (2 : Int32))]) _
          refine XS.icmpNo X509.here hx rfl (hb hby at_255) rfl (teq (by decide : (2 : Int32) = (2 : Int32))).2 ?_
          show oP p e below T509 (mkF m 258 #[oI p0, oI p1, oI p2, oI p3, oI p4, oI sc, oI sa, oI sb, oI si, oI (2 : Int32), oI a0c, oI a1c, oI u, oI b0c, oI b1c, oI jd, oR b477, oR b487, oR b503, oU, oU, oU] []) _
          refine XS.aload X509.here hx rfl (hb hby at_258) rfl rfl ?_
          show oP p e below T509 (mkF m 260 #[oI p0, oI p1, oI p2, oI p3, oI p4, oI sc, oI sa, oI sb, oI si, oI (2 : Int32), oI a0c, oI a1c, oI u, oI b0c, oI b1c, oI jd, oR b477, oR b487, oR b503, oU, oU, oU] [(.ref b477)]) _
          refine XS.astore X509.here hx rfl (hb hby at_260) rfl rfl (l' := #[oI p0, oI p1, oI p2, oI p3, oI p4, oI sc, oI sa, oI sb, oI si, oI (2 : Int32), oI a0c, oI a1c, oI u, oI b0c, oI b1c, oI jd, oR b477, oR b487, oR b503, oR b477, oU, oU]) rfl ?_
          show oP p e below T509 (mkF m 262 #[oI p0, oI p1, oI p2, oI p3, oI p4, oI sc, oI sa, oI sb, oI si, oI (2 : Int32), oI a0c, oI a1c, oI u, oI b0c, oI b1c, oI jd, oR b477, oR b487, oR b503, oR b477, oU, oU] []) _
          refine XS.aload X509.here hx rfl (hb hby at_262) rfl rfl ?_
          show oP p e below T509 (mkF m 264 #[oI p0, oI p1, oI p2, oI p3, oI p4, oI sc, oI sa, oI sb, oI si, oI (2 : Int32), oI a0c, oI a1c, oI u, oI b0c, oI b1c, oI jd, oR b477, oR b487, oR b503, oR b477, oU, oU] [(.ref b503)]) _
          refine XS.aload X509.here hx rfl (hb hby at_264) rfl rfl ?_
          show oP p e below T509 (mkF m 266 #[oI p0, oI p1, oI p2, oI p3, oI p4, oI sc, oI sa, oI sb, oI si, oI (2 : Int32), oI a0c, oI a1c, oI u, oI b0c, oI b1c, oI jd, oR b477, oR b487, oR b503, oR b477, oU, oU] [(.ref b477), (.ref b503)]) _
          refine st658.trans ?_
          show oP p e below T658 (mkF m 269 #[oI p0, oI p1, oI p2, oI p3, oI p4, oI sc, oI sa, oI sb, oI si, oI (2 : Int32), oI a0c, oI a1c, oI u, oI b0c, oI b1c, oI jd, oR b477, oR b487, oR b503, oR b477, oU, oU] [(.int (0 : Int32))]) _
          refine XS.ifNo X658.here hx rfl (hb hby at_269) rfl ((if0 _ _).trans (teq (by decide : (0 : Int32) = (0 : Int32))).2) ?_
          show oP p e below T658 (mkF m 272 #[oI p0, oI p1, oI p2, oI p3, oI p4, oI sc, oI sa, oI sb, oI si, oI (2 : Int32), oI a0c, oI a1c, oI u, oI b0c, oI b1c, oI jd, oR b477, oR b487, oR b503, oR b477, oU, oU] []) _
          refine XS.iconst X658.here hx rfl (hb hby at_272) ?_
          show oP p e below T658 (mkF m 273 #[oI p0, oI p1, oI p2, oI p3, oI p4, oI sc, oI sa, oI sb, oI si, oI (2 : Int32), oI a0c, oI a1c, oI u, oI b0c, oI b1c, oI jd, oR b477, oR b487, oR b503, oR b477, oU, oU] [(.int (1 : Int32))]) _
          refine XS.goto X658.here hx rfl (pc0 := 273) (pc' := 277) rfl (hb hby at_273) (by decide) (by decide) ?_
          show oP p e below T658 (mkF m 277 #[oI p0, oI p1, oI p2, oI p3, oI p4, oI sc, oI sa, oI sb, oI si, oI (2 : Int32), oI a0c, oI a1c, oI u, oI b0c, oI b1c, oI jd, oR b477, oR b487, oR b503, oR b477, oU, oU] [(.int (1 : Int32))]) _
          exact retN X658 hx (t := .boolean) Bd.returns (by simp) (hb hby at_277) hr
        · show (some (.int (1 : Int32)) : Option Value) = some (.int (1 : Int32)) ∧ Fr n0 _ ∧ Keep h0 T658.heap []
          exact ⟨rfl, N658, Kc658⟩
      · have fx661 := (((((((pV480.ext E487).ext E489).other W493 (Or.inl ne_b477_b489)).other W494 (Or.inl ne_b477_b489)).keep K495q (ninS ne_b477_b487 nin0)).ext E503).keep K509q (ninS ne_b477_b503 nin0))
        have fx662 := ((fx506.ext E503).keep K509q (ninS ne_t480_b503 nin0))
        have fx663 := ((fx504.ext E503).keep K509q)
        have fx664 := (((((((pC480.ext E487).ext E489).other W493 (Or.inl ne_b477_b489)).other W494 (Or.inl ne_b477_b489)).keep K495q (ninS ne_b477_b487 nin0)).ext E503).keep K509q (ninS ne_b477_b503 nin0))
        obtain ⟨cq660, kq660, q660a, q660b, q660c⟩ := isOf hZ rfl po509_0
        obtain ⟨_, _, ⟨T660, L660, k660, n660⟩, -, X660, ⟨Lc660, hQ660, l660, y660, z660⟩, st660⟩ := X509.virtualBack hx (y := (⟨"com/example/narada/narada/store/QueueKey", "equals", "(Ljava/lang/Object;)Z"⟩ : MethodName)) (z := (⟨"com/example/narada/narada/store/QueueKey", "equals", "(Ljava/lang/Object;)Z"⟩ : MethodName)) hown (mvT hZ (hw _ (List.mem_of_getElem? (i := 41) rfl))) (mvT hZ (hw _ (List.mem_of_getElem? (i := 42) rfl))) (notFace_of_selects (args := #[]) (mvT hZ (hw _ (List.mem_of_getElem? (i := 44) rfl)))) (mvT hZ (hw _ (List.mem_of_getElem? (i := 44) rfl))) (mvT hZ (hw _ (List.mem_of_getElem? (i := 43) rfl))) (by decide) (backOf (W := 0) (rm8q l Z a0 hw hS [] b503 b503 b477 b477 p2 p2 t480 kt480 ([a0c] : List Int32) t480 kt480 ([a0c] : List Int32) T509.heap n0 O509 po509_0 po509_1 po509_1 po509_2 po509_2 fx663 fx664 fx661 fx662 hp484 (Nat.le_of_ble_eq_true rfl) fx663 fx664 fx661 fx662 hp484 (Nat.le_of_ble_eq_true rfl)) hZ (hw _ (List.mem_of_getElem? (i := 45) rfl)) (hw _ (List.mem_of_getElem? (i := 32) rfl)) (by decide) (by decide)) q660a q660c (g := (mkF m 288 #[oI p0, oI p1, oI p2, oI p3, oI p4, oI sc, oI sa, oI sb, oI si, oI (3 : Int32), oI a0c, oI a1c, oI u, oI b0c, oI b1c, oI jd, oR b477, oR b487, oR b503, oU, oU, oU] [(.ref b503), (.ref b503)])) rfl (by rw [hml]; rfl) (Steps.refl _) (argsL := [(.ref b503)]) (rest := []) (lenOf pd_0 rfl) rfl (by show 2 * 0 + _ ≤ _; exact Nat.le_of_eq rfl) (hb hby at_288) (fun _ _ => ⟨rfl, rfl, (by decide : 7 + 0 ≤ _), (by decide : 16 + 0 ≤ _)⟩)
        dsimp only [Pt.U, Pt.locs, Pt.cells, Pt.slots] at X660 l660 y660 z660 st660 hQ660
        subst l660 y660 z660
        obtain ⟨v660, N660q, K660q⟩ := hQ660
        have w660 : (fn8q Z b503 b503 b477 b477 p2 p2 t480 kt480 ([a0c] : List Int32) t480 kt480 ([a0c] : List Int32)) = (1 : Int32) := by unfold fn8q; rw [if_neg (by simp : ¬ ((if ([a0c] : List Int32) = ([a0c] : List Int32) then (1 : Int32) else (0 : Int32)) = (0 : Int32))), if_pos (rfl : p2 = p2)]; all_goals first | rfl | decide
        rw [w660] at v660
        subst v660
        have N660 := Fr.app N509 N660q
        have O660 := O509.keep K660q all0
        have Kc660 := Kc509.trans K660q all0
        obtain ⟨fs, hr, hrun, hended, hW, hsame⟩ := X660.leave (v := some (.int (1 : Int32))) (fun h => by rw [Bd.returns] at h; cases h)
        refine ⟨_, _, pre510 _ ?_, hrun, hended, _, _, rfl, ?_, ⟨_, rfl⟩, hW, hsame.mono (by decide) (by decide)⟩
        · show oP p e below T509 (mkF m 231 #[oI p0, oI p1, oI p2, oI p3, oI p4, oI sc, oI sa, oI sb, oI si, oI (3 : Int32), oI a0c, oI a1c, oI u, oI b0c, oI b1c, oI jd, oR b477, oR b487, oR b503, oU, oU, oU] []) _
          refine XS.iload X509.here hx rfl (hb hby at_231) rfl ?_
          show oP p e below T509 (mkF m 233 #[oI p0, oI p1, oI p2, oI p3, oI p4, oI sc, oI sa, oI sb, oI si, oI (3 : Int32), oI a0c, oI a1c, oI u, oI b0c, oI b1c, oI jd, oR b477, oR b487, oR b503, oU, oU, oU] [(.int (3 : Int32))]) _
          refine XS.iconst X509.here hx rfl (hb hby at_233) ?_
          show oP p e below T509 (mkF m 234 #[oI p0, oI p1, oI p2, oI p3, oI p4, oI sc, oI sa, oI sb, oI si, oI (3 : Int32), oI a0c, oI a1c, oI u, oI b0c, oI b1c, oI jd, oR b477, oR b487, oR b503, oU, oU, oU] [(.int (1 : Int32)), (.int (3 : Int32))]) _
          refine XS.icmpYes X509.here hx rfl (pc0 := 234) (pc' := 252) rfl (hb hby at_234) rfl (feq (by decide : ¬ ((3 : Int32) = (1 : Int32)))).2 (by decide) (by decide) ?_
          show oP p e below T509 (mkF m 252 #[oI p0, oI p1, oI p2, oI p3, oI p4, oI sc, oI sa, oI sb, oI si, oI (3 : Int32), oI a0c, oI a1c, oI u, oI b0c, oI b1c, oI jd, oR b477, oR b487, oR b503, oU, oU, oU] []) _
          refine XS.iload X509.here hx rfl (hb hby at_252) rfl ?_
          show oP p e below T509 (mkF m 254 #[oI p0, oI p1, oI p2, oI p3, oI p4, oI sc, oI sa, oI sb, oI si, oI (3 : Int32), oI a0c, oI a1c, oI u, oI b0c, oI b1c, oI jd, oR b477, oR b487, oR b503, oU, oU, oU] [(.int (3 : Int32))]) _
          refine XS.iconst X509.here hx rfl (hb hby at_254) ?_
          show oP p e below T509 (mkF m 255 #[oI p0, oI p1, oI p2, oI p3, oI p4, oI sc, oI sa, oI sb, oI si, oI (3 : Int32), oI a0c, oI a1c, oI u, oI b0c, oI b1c, oI jd, oR b477, oR b487, oR b503, oU, oU, oU] [(.int (2 : Int32)), (.int (3 : Int32))]) _
          refine XS.icmpYes X509.here hx rfl (pc0 := 255) (pc' := 278) rfl (hb hby at_255) rfl (feq (by decide : ¬ ((3 : Int32) = (2 : Int32)))).2 (by decide) (by decide) ?_
          show oP p e below T509 (mkF m 278 #[oI p0, oI p1, oI p2, oI p3, oI p4, oI sc, oI sa, oI sb, oI si, oI (3 : Int32), oI a0c, oI a1c, oI u, oI b0c, oI b1c, oI jd, oR b477, oR b487, oR b503, oU, oU, oU] []) _
          refine XS.iload X509.here hx rfl (hb hby at_278) rfl ?_
          show oP p e below T509 (mkF m 280 #[oI p0, oI p1, oI p2, oI p3, oI p4, oI sc, oI sa, oI sb, oI si, oI (3 : Int32), oI a0c, oI a1c, oI u, oI b0c, oI b1c, oI jd, oR b477, oR b487, oR b503, oU, oU, oU] [(.int (3 : Int32))]) _
          refine XS.iconst X509.here hx rfl (hb hby at_280) ?_
          show oP p e below T509 (mkF m 281 #[oI p0, oI p1, oI p2, oI p3, oI p4, oI sc, oI sa, oI sb, oI si, oI (3 : Int32), oI a0c, oI a1c, oI u, oI b0c, oI b1c, oI jd, oR b477, oR b487, oR b503, oU, oU, oU] [(.int (3 : Int32)), (.int (3 : Int32))]) _
          refine XS.icmpNo X509.here hx rfl (hb hby at_281) rfl (teq (by decide : (3 : Int32) = (3 : Int32))).2 ?_
          show oP p e below T509 (mkF m 284 #[oI p0, oI p1, oI p2, oI p3, oI p4, oI sc, oI sa, oI sb, oI si, oI (3 : Int32), oI a0c, oI a1c, oI u, oI b0c, oI b1c, oI jd, oR b477, oR b487, oR b503, oU, oU, oU] []) _
          refine XS.aload X509.here hx rfl (hb hby at_284) rfl rfl ?_
          show oP p e below T509 (mkF m 286 #[oI p0, oI p1, oI p2, oI p3, oI p4, oI sc, oI sa, oI sb, oI si, oI (3 : Int32), oI a0c, oI a1c, oI u, oI b0c, oI b1c, oI jd, oR b477, oR b487, oR b503, oU, oU, oU] [(.ref b503)]) _
          refine XS.aload X509.here hx rfl (hb hby at_286) rfl rfl ?_
          show oP p e below T509 (mkF m 288 #[oI p0, oI p1, oI p2, oI p3, oI p4, oI sc, oI sa, oI sb, oI si, oI (3 : Int32), oI a0c, oI a1c, oI u, oI b0c, oI b1c, oI jd, oR b477, oR b487, oR b503, oU, oU, oU] [(.ref b503), (.ref b503)]) _
          refine st660.trans ?_
          show oP p e below T660 (mkF m 291 #[oI p0, oI p1, oI p2, oI p3, oI p4, oI sc, oI sa, oI sb, oI si, oI (3 : Int32), oI a0c, oI a1c, oI u, oI b0c, oI b1c, oI jd, oR b477, oR b487, oR b503, oU, oU, oU] [(.int (1 : Int32))]) _
          exact retN X660 hx (t := .boolean) Bd.returns (by simp) (hb hby at_291) hr
        · show (some (.int (1 : Int32)) : Option Value) = some (.int (1 : Int32)) ∧ Fr n0 _ ∧ Keep h0 T660.heap []
          exact ⟨rfl, N660, Kc660⟩
    · obtain ⟨T665, h665, X665, e665, E665, A665, D665, -, st665⟩ := newO X480 hx hZ hown (hw _ (List.mem_of_getElem? (i := 0) rfl)) (hw _ (List.mem_of_getElem? (i := 1) rfl)) (hw _ (List.mem_of_getElem? (i := 2) rfl)) rfl (g := (mkF m 179 #[oI p0, oI p1, oI p2, oI p3, oI p4, oI sc, oI sa, oI sb, oI si, oI kd, oI a0c, oI a1c, oI u, oI b0c, oI b1c, oI jd, oR b477, oU, oU, oU, oU, oU] [])) rfl (hb hby at_179) (by decide) (by decide)
      obtain ⟨b665, g665⟩ : ∃ z, z = T480.heap.size := ⟨_, rfl⟩
      have g_b665 : n0 ≤ b665 := Nat.le_trans (own_old_le O480) (Nat.le_of_eq g665.symm)
      have sz_b665 : h0.size ≤ b665 := Nat.le_trans Kc480.1 (Nat.le_of_eq g665.symm)
      have ne_b477_b665 : b477 ≠ b665 := Nat.ne_of_lt (Nat.lt_of_lt_of_le pE480.lt (Nat.le_of_eq g665.symm))
      have fx666 := (V479.keep K480q (ninS (Ne.symm ne_b477_b478) nin0))
      have ne_b478_b665 : b478 ≠ b665 := Nat.ne_of_lt (Nat.lt_of_lt_of_le fx666.lt (Nat.le_of_eq g665.symm))
      have ne_t480_b665 : t480 ≠ b665 := Nat.ne_of_lt (Nat.lt_of_lt_of_le pA480.lt (Nat.le_of_eq g665.symm))
      rw [← g665] at A665 D665 st665
      have O665 := O480.ext E665
      have Kc665 := Kc480.ext E665
      have F_coder_b665 : Fld Z h665 b665 "java/lang/String" "coder" "B" (.int (0 : Int32)) := D665 (Or.inr (hw _ (List.mem_of_getElem? (i := 27) rfl))) (ty := .byte) (by decide)
      have F_value_b665 : Fld Z h665 b665 "java/lang/String" "value" "[B" .null := D665 (Or.inr (hw _ (List.mem_of_getElem? (i := 29) rfl))) (ty := (.array .byte)) (by decide)
      obtain ⟨T667, h667, k667, X667, e667, E667, A667, st667⟩ := newP X665 hx hZ (hw _ (List.mem_of_getElem? (i := 3) rfl)) e665 (g := (mkF m 184 #[oI p0, oI p1, oI p2, oI p3, oI p4, oI sc, oI sa, oI sb, oI si, oI kd, oI a0c, oI a1c, oI u, oI b0c, oI b1c, oI jd, oR b477, oU, oU, oU, oU, oU] [(.int (1 : Int32)), (.ref b665), (.ref b665)])) rfl (hb hby at_184) rfl (by decide) (cap := 1) (by decide) (by decide) (by decide) (by decide)
      obtain ⟨b667, g667⟩ : ∃ z, z = h665.size := ⟨_, rfl⟩
      have g_b667 : n0 ≤ b667 := Nat.le_trans (own_old_le O665) (Nat.le_of_eq g667.symm)
      have sz_b667 : h0.size ≤ b667 := Nat.le_trans Kc665.1 (Nat.le_of_eq g667.symm)
      have fx668 := (pE480.ext E665)
      have ne_b477_b667 : b477 ≠ b667 := Nat.ne_of_lt (Nat.lt_of_lt_of_le fx668.lt (Nat.le_of_eq g667.symm))
      have fx669 := (fx666.ext E665)
      have ne_b478_b667 : b478 ≠ b667 := Nat.ne_of_lt (Nat.lt_of_lt_of_le fx669.lt (Nat.le_of_eq g667.symm))
      have fx670 := (pA480.ext E665)
      have ne_t480_b667 : t480 ≠ b667 := Nat.ne_of_lt (Nat.lt_of_lt_of_le fx670.lt (Nat.le_of_eq g667.symm))
      have ne_b665_b667 : b665 ≠ b667 := Nat.ne_of_lt (Nat.lt_of_lt_of_le A665.lt (Nat.le_of_eq g667.symm))
      rw [← g667] at A667 st667
      have O667 := O665.ext E667
      have Kc667 := Kc665.ext E667
      have V667 : Arv Z h667 b667 k667 .char (1 : Int32) [(.int (0 : Int32))] (.int (0 : Int32)) := (Arv.new A667 (by decide)).pad (pad_rep [] (.int (0 : Int32)) 1)
      obtain ⟨T671, h671, X671, e671, W671, V671', st671⟩ := own_stC X667 hx hZ e667 V667 (j := (0 : Int32)) ⟨by decide, by decide⟩ rfl (by decide : ((0 : Int32) : Int32).toNatClampNeg < 1) (g := (mkF m 190 #[oI p0, oI p1, oI p2, oI p3, oI p4, oI sc, oI sa, oI sb, oI si, oI kd, oI a0c, oI a1c, oI u, oI b0c, oI b1c, oI jd, oR b477, oU, oU, oU, oU, oU] [(.int b0c), (.int (0 : Int32)), (.ref b667), (.ref b667), (.ref b665), (.ref b665)])) rfl rfl (hb hby at_190)
      rw [own_narc rb0c] at W671 V671'
      have N671 := Fr.snoc X671 N480 g_b667
      have O671 := O667.wr W671 g_b667
      have Kc671 := Kc667.wr W671 (Or.inr sz_b667)
      have V671 : Arv Z h671 b667 k667 .char (1 : Int32) [(.int b0c)] (.int (0 : Int32)) := V671'
      have fx673 := ((A665.ext E667).wr W671)
      have fx674 := ((F_value_b665.ext E667).other W671 (Or.inl ne_b665_b667))
      have fx675 := ((F_coder_b665.ext E667).other W671 (Or.inl ne_b665_b667))
      have hp676 : ∀ c ∈ ([b0c] : List Int32), ¬ c < 0 ∧ ¬ (255 : Int32) < c := by
        intro c hc
        simp only [List.mem_cons, List.not_mem_nil, or_false] at hc
        rcases hc with rfl
        · exact rb0c
      obtain ⟨_, _, ⟨T672, L672, k672, n672⟩, -, X672, ⟨Lc672, hQ672, l672, y672, z672⟩, st672⟩ := X671.specialBack hx (y := (⟨"java/lang/String", "<init>", "([C)V"⟩ : MethodName)) rfl hown (mvT hZ (hw _ (List.mem_of_getElem? (i := 4) rfl))) (mvT hZ (hw _ (List.mem_of_getElem? (i := 5) rfl))) (mvT hZ (hw _ (List.mem_of_getElem? (i := 6) rfl))) (by decide) (StrChars.Road.backV (W := 1) hZ (own_ws hw) (kI := 4) (hw _ (List.mem_of_getElem? (i := 1) rfl)) (cs := ([b0c] : List Int32)) (bs := (([b0c] : List Int32)).map (fun c => c.toInt8.toInt32)) (n := 1) g_b665 (own_old_le O671) fx673 fx674 fx675 V671 ((s_compact hS).ext O671.2) (n_compact hS) rfl rfl (by decide) (by decide) hp676 rfl (by decide) (by decide)) (g := (mkF m 191 #[oI p0, oI p1, oI p2, oI p3, oI p4, oI sc, oI sa, oI sb, oI si, oI kd, oI a0c, oI a1c, oI u, oI b0c, oI b1c, oI jd, oR b477, oU, oU, oU, oU, oU] [(.ref b667), (.ref b665), (.ref b665)])) rfl (by rw [hml]; rfl) (Steps.refl _) (a := b665) (argsL := [(.ref b667)]) (rest := [(.ref b665)]) (lenOf pd_1 rfl) rfl (by show 2 * 0 + _ ≤ _; exact Nat.le_of_eq rfl) (hb hby at_191) (fun _ _ => ⟨rfl, e671, (by decide : 5 + 1 ≤ _), (by decide : 11 + 1 ≤ _)⟩)
      dsimp only [Pt.U, Pt.locs, Pt.cells, Pt.slots] at X672 l672 y672 z672 st672 hQ672
      subst l672 y672 z672
      obtain ⟨v672, N672q, K672q, pE672, pC672, t672, kt672, g_t672, hs672, ns672, pV672, pA672⟩ := hQ672
      subst v672
      have N672 := Fr.app N671 N672q
      have fx677 := ((fx668.ext E667).wr W671)
      have ne_b477_t672 : b477 ≠ t672 := Nat.ne_of_lt (Nat.lt_of_lt_of_le fx677.lt hs672)
      have fx678 := ((fx669.ext E667).other W671 ne_b478_b667)
      have ne_b478_t672 : b478 ≠ t672 := Nat.ne_of_lt (Nat.lt_of_lt_of_le fx678.lt hs672)
      have fx679 := ((fx670.ext E667).other W671 ne_t480_b667)
      have ne_t480_t672 : t480 ≠ t672 := Nat.ne_of_lt (Nat.lt_of_lt_of_le fx679.lt hs672)
      have ne_b665_t672 : b665 ≠ t672 := Nat.ne_of_lt (Nat.lt_of_lt_of_le fx673.lt hs672)
      have ne_b667_t672 : b667 ≠ t672 := Nat.ne_of_lt (Nat.lt_of_lt_of_le V671.lt hs672)
      have sz_t672 : h0.size ≤ t672 := Nat.le_trans Kc671.1 hs672
      have O672 := O671.keep K672q (allS g_b665 all0)
      have Kc672 := Kc671.trans K672q (allS (Or.inr sz_b665) all0)
      obtain ⟨T680, h680, X680, e680, E680, A680, D680, -, st680⟩ := newO X672 hx hZ hown (hw _ (List.mem_of_getElem? (i := 30) rfl)) (hw _ (List.mem_of_getElem? (i := 31) rfl)) (hw _ (List.mem_of_getElem? (i := 32) rfl)) rfl (g := (mkF m 219 #[oI p0, oI p1, oI p2, oI p3, oI p4, oI sc, oI sa, oI sb, oI si, oI kd, oI a0c, oI a1c, oI u, oI b0c, oI b1c, oI jd, oR b477, oR b665, oU, oU, oU, oU] [])) rfl (hb hby at_219) (by decide) (by decide)
      obtain ⟨b680, g680⟩ : ∃ z, z = T672.heap.size := ⟨_, rfl⟩
      have g_b680 : n0 ≤ b680 := Nat.le_trans (own_old_le O672) (Nat.le_of_eq g680.symm)
      have sz_b680 : h0.size ≤ b680 := Nat.le_trans Kc672.1 (Nat.le_of_eq g680.symm)
      have fx681 := (fx677.keep K672q)
      have ne_b477_b680 : b477 ≠ b680 := Nat.ne_of_lt (Nat.lt_of_lt_of_le fx681.lt (Nat.le_of_eq g680.symm))
      have fx682 := (fx678.keep K672q (ninS ne_b478_b665 nin0))
      have ne_b478_b680 : b478 ≠ b680 := Nat.ne_of_lt (Nat.lt_of_lt_of_le fx682.lt (Nat.le_of_eq g680.symm))
      have fx683 := (fx679.keep K672q (ninS ne_t480_b665 nin0))
      have ne_t480_b680 : t480 ≠ b680 := Nat.ne_of_lt (Nat.lt_of_lt_of_le fx683.lt (Nat.le_of_eq g680.symm))
      have ne_b665_b680 : b665 ≠ b680 := Nat.ne_of_lt (Nat.lt_of_lt_of_le pE672.lt (Nat.le_of_eq g680.symm))
      have fx684 := (V671.keep K672q (ninS (Ne.symm ne_b665_b667) nin0))
      have ne_b667_b680 : b667 ≠ b680 := Nat.ne_of_lt (Nat.lt_of_lt_of_le fx684.lt (Nat.le_of_eq g680.symm))
      have ne_t672_b680 : t672 ≠ b680 := Nat.ne_of_lt (Nat.lt_of_lt_of_le pA672.lt (Nat.le_of_eq g680.symm))
      rw [← g680] at A680 D680 st680
      have O680 := O672.ext E680
      have Kc680 := Kc672.ext E680
      have F_topic_b680 : Fld Z h680 b680 "com/example/narada/narada/store/QueueKey" "topic" "Ljava/lang/String;" .null := D680 (Or.inr (hw _ (List.mem_of_getElem? (i := 38) rfl))) (ty := (.object "java/lang/String")) (by decide)
      have F_queueId_b680 : Fld Z h680 b680 "com/example/narada/narada/store/QueueKey" "queueId" "I" (.int (0 : Int32)) := D680 (Or.inr (hw _ (List.mem_of_getElem? (i := 40) rfl))) (ty := .int) (by decide)
      obtain ⟨_, _, ⟨T685, L685, k685, n685⟩, -, X685, ⟨Lc685, hQ685, l685, y685, z685⟩, st685⟩ := X680.specialBack hx (y := (⟨"com/example/narada/narada/store/QueueKey", "<init>", "(Ljava/lang/String;I)V"⟩ : MethodName)) rfl hown (mvT hZ (hw _ (List.mem_of_getElem? (i := 33) rfl))) (mvT hZ (hw _ (List.mem_of_getElem? (i := 34) rfl))) (mvT hZ (hw _ (List.mem_of_getElem? (i := 35) rfl))) (by decide) (backOf (W := 1) (rm7 l Z a0 hw hS [] b680 b477 p2 h680 n0 O680 A680 F_topic_b680 F_queueId_b680 g_b680) hZ (hw _ (List.mem_of_getElem? (i := 35) rfl)) (hw _ (List.mem_of_getElem? (i := 32) rfl)) (by decide) (by decide)) (g := (mkF m 226 #[oI p0, oI p1, oI p2, oI p3, oI p4, oI sc, oI sa, oI sb, oI si, oI kd, oI a0c, oI a1c, oI u, oI b0c, oI b1c, oI jd, oR b477, oR b665, oU, oU, oU, oU] [(.int p2), (.ref b477), (.ref b680), (.ref b680)])) rfl (by rw [hml]; rfl) (Steps.refl _) (a := b680) (argsL := [(.ref b477), (.int p2)]) (rest := [(.ref b680)]) (lenOf pd_2 rfl) rfl (by show 2 * 0 + _ ≤ _; exact Nat.le_of_eq rfl) (hb hby at_226) (fun _ _ => ⟨rfl, e680, (by decide : 7 + 0 ≤ _), (by decide : 14 + 0 ≤ _)⟩)
      dsimp only [Pt.U, Pt.locs, Pt.cells, Pt.slots] at X685 l685 y685 z685 st685 hQ685
      subst l685 y685 z685
      obtain ⟨v685, N685q, K685q, po685_0, po685_1, po685_2⟩ := hQ685
      subst v685
      have N685 := Fr.app N672 N685q
      have O685 := O680.keep K685q (allS g_b680 all0)
      have Kc685 := Kc680.trans K685q (allS (Or.inr sz_b680) all0)
      have pre686 : ∀ t, oP p e below T685 (mkF m 231 #[oI p0, oI p1, oI p2, oI p3, oI p4, oI sc, oI sa, oI sb, oI si, oI kd, oI a0c, oI a1c, oI u, oI b0c, oI b1c, oI jd, oR b477, oR b665, oR b680, oU, oU, oU] []) t → oP p e below s₁ (entryFrame m #[(.int p0), (.int p1), (.int p2), (.int p3), (.int p4)] maxLocals) t := fun t k => pre485 t (by
        show oP p e below T480 (mkF m 176 #[oI p0, oI p1, oI p2, oI p3, oI p4, oI sc, oI sa, oI sb, oI si, oI kd, oI a0c, oI a1c, oI u, oI b0c, oI b1c, oI jd, oR b477, oU, oU, oU, oU, oU] [(.int sb)]) _
        refine XS.ifNo X480.here hx rfl (hb hby at_176) rfl ((if0 _ _).trans (feq hc486).1) ?_
        show oP p e below T480 (mkF m 179 #[oI p0, oI p1, oI p2, oI p3, oI p4, oI sc, oI sa, oI sb, oI si, oI kd, oI a0c, oI a1c, oI u, oI b0c, oI b1c, oI jd, oR b477, oU, oU, oU, oU, oU] []) _
        refine st665 _ ?_
        show oP p e below T665 (mkF m 182 #[oI p0, oI p1, oI p2, oI p3, oI p4, oI sc, oI sa, oI sb, oI si, oI kd, oI a0c, oI a1c, oI u, oI b0c, oI b1c, oI jd, oR b477, oU, oU, oU, oU, oU] [(.ref b665)]) _
        refine XS.dup X665.here hx rfl (hb hby at_182) rfl rfl ?_
        show oP p e below T665 (mkF m 183 #[oI p0, oI p1, oI p2, oI p3, oI p4, oI sc, oI sa, oI sb, oI si, oI kd, oI a0c, oI a1c, oI u, oI b0c, oI b1c, oI jd, oR b477, oU, oU, oU, oU, oU] [(.ref b665), (.ref b665)]) _
        refine XS.iconst X665.here hx rfl (hb hby at_183) ?_
        show oP p e below T665 (mkF m 184 #[oI p0, oI p1, oI p2, oI p3, oI p4, oI sc, oI sa, oI sb, oI si, oI kd, oI a0c, oI a1c, oI u, oI b0c, oI b1c, oI jd, oR b477, oU, oU, oU, oU, oU] [(.int (1 : Int32)), (.ref b665), (.ref b665)]) _
        refine st667 _ ?_
        show oP p e below T667 (mkF m 186 #[oI p0, oI p1, oI p2, oI p3, oI p4, oI sc, oI sa, oI sb, oI si, oI kd, oI a0c, oI a1c, oI u, oI b0c, oI b1c, oI jd, oR b477, oU, oU, oU, oU, oU] [(.ref b667), (.ref b665), (.ref b665)]) _
        refine XS.dup X667.here hx rfl (hb hby at_186) rfl rfl ?_
        show oP p e below T667 (mkF m 187 #[oI p0, oI p1, oI p2, oI p3, oI p4, oI sc, oI sa, oI sb, oI si, oI kd, oI a0c, oI a1c, oI u, oI b0c, oI b1c, oI jd, oR b477, oU, oU, oU, oU, oU] [(.ref b667), (.ref b667), (.ref b665), (.ref b665)]) _
        refine XS.iconst X667.here hx rfl (hb hby at_187) ?_
        show oP p e below T667 (mkF m 188 #[oI p0, oI p1, oI p2, oI p3, oI p4, oI sc, oI sa, oI sb, oI si, oI kd, oI a0c, oI a1c, oI u, oI b0c, oI b1c, oI jd, oR b477, oU, oU, oU, oU, oU] [(.int (0 : Int32)), (.ref b667), (.ref b667), (.ref b665), (.ref b665)]) _
        refine XS.iload X667.here hx rfl (hb hby at_188) rfl ?_
        show oP p e below T667 (mkF m 190 #[oI p0, oI p1, oI p2, oI p3, oI p4, oI sc, oI sa, oI sb, oI si, oI kd, oI a0c, oI a1c, oI u, oI b0c, oI b1c, oI jd, oR b477, oU, oU, oU, oU, oU] [(.int b0c), (.int (0 : Int32)), (.ref b667), (.ref b667), (.ref b665), (.ref b665)]) _
        refine st671 _ ?_
        show oP p e below T671 (mkF m 191 #[oI p0, oI p1, oI p2, oI p3, oI p4, oI sc, oI sa, oI sb, oI si, oI kd, oI a0c, oI a1c, oI u, oI b0c, oI b1c, oI jd, oR b477, oU, oU, oU, oU, oU] [(.ref b667), (.ref b665), (.ref b665)]) _
        refine st672.trans ?_
        show oP p e below T672 (mkF m 194 #[oI p0, oI p1, oI p2, oI p3, oI p4, oI sc, oI sa, oI sb, oI si, oI kd, oI a0c, oI a1c, oI u, oI b0c, oI b1c, oI jd, oR b477, oU, oU, oU, oU, oU] [(.ref b665)]) _
        refine XS.goto X672.here hx rfl (pc0 := 194) (pc' := 217) rfl (hb hby at_194) (by decide) (by decide) ?_
        show oP p e below T672 (mkF m 217 #[oI p0, oI p1, oI p2, oI p3, oI p4, oI sc, oI sa, oI sb, oI si, oI kd, oI a0c, oI a1c, oI u, oI b0c, oI b1c, oI jd, oR b477, oU, oU, oU, oU, oU] [(.ref b665)]) _
        refine XS.astore X672.here hx rfl (hb hby at_217) rfl rfl (l' := #[oI p0, oI p1, oI p2, oI p3, oI p4, oI sc, oI sa, oI sb, oI si, oI kd, oI a0c, oI a1c, oI u, oI b0c, oI b1c, oI jd, oR b477, oR b665, oU, oU, oU, oU]) rfl ?_
        show oP p e below T672 (mkF m 219 #[oI p0, oI p1, oI p2, oI p3, oI p4, oI sc, oI sa, oI sb, oI si, oI kd, oI a0c, oI a1c, oI u, oI b0c, oI b1c, oI jd, oR b477, oR b665, oU, oU, oU, oU] []) _
        refine st680 _ ?_
        show oP p e below T680 (mkF m 222 #[oI p0, oI p1, oI p2, oI p3, oI p4, oI sc, oI sa, oI sb, oI si, oI kd, oI a0c, oI a1c, oI u, oI b0c, oI b1c, oI jd, oR b477, oR b665, oU, oU, oU, oU] [(.ref b680)]) _
        refine XS.dup X680.here hx rfl (hb hby at_222) rfl rfl ?_
        show oP p e below T680 (mkF m 223 #[oI p0, oI p1, oI p2, oI p3, oI p4, oI sc, oI sa, oI sb, oI si, oI kd, oI a0c, oI a1c, oI u, oI b0c, oI b1c, oI jd, oR b477, oR b665, oU, oU, oU, oU] [(.ref b680), (.ref b680)]) _
        refine XS.aload X680.here hx rfl (hb hby at_223) rfl rfl ?_
        show oP p e below T680 (mkF m 225 #[oI p0, oI p1, oI p2, oI p3, oI p4, oI sc, oI sa, oI sb, oI si, oI kd, oI a0c, oI a1c, oI u, oI b0c, oI b1c, oI jd, oR b477, oR b665, oU, oU, oU, oU] [(.ref b477), (.ref b680), (.ref b680)]) _
        refine XS.iloadN X680.here hx rfl (hb hby at_225) rfl ?_
        show oP p e below T680 (mkF m 226 #[oI p0, oI p1, oI p2, oI p3, oI p4, oI sc, oI sa, oI sb, oI si, oI kd, oI a0c, oI a1c, oI u, oI b0c, oI b1c, oI jd, oR b477, oR b665, oU, oU, oU, oU] [(.int p2), (.ref b477), (.ref b680), (.ref b680)]) _
        refine st685.trans ?_
        show oP p e below T685 (mkF m 229 #[oI p0, oI p1, oI p2, oI p3, oI p4, oI sc, oI sa, oI sb, oI si, oI kd, oI a0c, oI a1c, oI u, oI b0c, oI b1c, oI jd, oR b477, oR b665, oU, oU, oU, oU] [(.ref b680)]) _
        refine XS.astore X685.here hx rfl (hb hby at_229) rfl rfl (l' := #[oI p0, oI p1, oI p2, oI p3, oI p4, oI sc, oI sa, oI sb, oI si, oI kd, oI a0c, oI a1c, oI u, oI b0c, oI b1c, oI jd, oR b477, oR b665, oR b680, oU, oU, oU]) rfl ?_
        exact k)
      rcases rkd with rfl | rfl | rfl | rfl
      · obtain ⟨T687, h687, X687, e687, E687, A687, D687, -, st687⟩ := newO X685 hx hZ hown (hw _ (List.mem_of_getElem? (i := 30) rfl)) (hw _ (List.mem_of_getElem? (i := 31) rfl)) (hw _ (List.mem_of_getElem? (i := 32) rfl)) rfl (g := (mkF m 292 #[oI p0, oI p1, oI p2, oI p3, oI p4, oI sc, oI sa, oI sb, oI si, oI (0 : Int32), oI a0c, oI a1c, oI u, oI b0c, oI b1c, oI jd, oR b477, oR b665, oR b680, oU, oU, oU] [])) rfl (hb hby at_292) (by decide) (by decide)
        obtain ⟨b687, g687⟩ : ∃ z, z = T685.heap.size := ⟨_, rfl⟩
        have g_b687 : n0 ≤ b687 := Nat.le_trans (own_old_le O685) (Nat.le_of_eq g687.symm)
        have sz_b687 : h0.size ≤ b687 := Nat.le_trans Kc685.1 (Nat.le_of_eq g687.symm)
        have fx688 := ((fx681.ext E680).keep K685q)
        have ne_b477_b687 : b477 ≠ b687 := Nat.ne_of_lt (Nat.lt_of_lt_of_le fx688.lt (Nat.le_of_eq g687.symm))
        have fx689 := ((fx682.ext E680).keep K685q (ninS ne_b478_b680 nin0))
        have ne_b478_b687 : b478 ≠ b687 := Nat.ne_of_lt (Nat.lt_of_lt_of_le fx689.lt (Nat.le_of_eq g687.symm))
        have fx690 := ((fx683.ext E680).keep K685q (ninS ne_t480_b680 nin0))
        have ne_t480_b687 : t480 ≠ b687 := Nat.ne_of_lt (Nat.lt_of_lt_of_le fx690.lt (Nat.le_of_eq g687.symm))
        have fx691 := ((pE672.ext E680).keep K685q)
        have ne_b665_b687 : b665 ≠ b687 := Nat.ne_of_lt (Nat.lt_of_lt_of_le fx691.lt (Nat.le_of_eq g687.symm))
        have fx692 := ((fx684.ext E680).keep K685q (ninS ne_b667_b680 nin0))
        have ne_b667_b687 : b667 ≠ b687 := Nat.ne_of_lt (Nat.lt_of_lt_of_le fx692.lt (Nat.le_of_eq g687.symm))
        have fx693 := ((pA672.ext E680).keep K685q (ninS ne_t672_b680 nin0))
        have ne_t672_b687 : t672 ≠ b687 := Nat.ne_of_lt (Nat.lt_of_lt_of_le fx693.lt (Nat.le_of_eq g687.symm))
        have ne_b680_b687 : b680 ≠ b687 := Nat.ne_of_lt (Nat.lt_of_lt_of_le po685_0.lt (Nat.le_of_eq g687.symm))
        rw [← g687] at A687 D687 st687
        have O687 := O685.ext E687
        have Kc687 := Kc685.ext E687
        have F_topic_b687 : Fld Z h687 b687 "com/example/narada/narada/store/QueueKey" "topic" "Ljava/lang/String;" .null := D687 (Or.inr (hw _ (List.mem_of_getElem? (i := 38) rfl))) (ty := (.object "java/lang/String")) (by decide)
        have F_queueId_b687 : Fld Z h687 b687 "com/example/narada/narada/store/QueueKey" "queueId" "I" (.int (0 : Int32)) := D687 (Or.inr (hw _ (List.mem_of_getElem? (i := 40) rfl))) (ty := .int) (by decide)
        obtain ⟨lo694, X694, N694⟩ := own_hide X687 N685
        obtain ⟨_, _, ⟨T695, L695, k695, n695⟩, -, X695, ⟨Lc695, hQ695, l695, y695, z695⟩, st695⟩ := X694.specialBack hx (y := (⟨"com/example/narada/narada/store/QueueKey", "<init>", "(Ljava/lang/String;I)V"⟩ : MethodName)) rfl hown (mvT hZ (hw _ (List.mem_of_getElem? (i := 33) rfl))) (mvT hZ (hw _ (List.mem_of_getElem? (i := 34) rfl))) (mvT hZ (hw _ (List.mem_of_getElem? (i := 35) rfl))) (by decide) (backOf (W := 1) (rm7 l Z a0 hw hS [] b687 b665 jd h687 n0 O687 A687 F_topic_b687 F_queueId_b687 g_b687) hZ (hw _ (List.mem_of_getElem? (i := 35) rfl)) (hw _ (List.mem_of_getElem? (i := 32) rfl)) (by decide) (by decide)) (g := (mkF m 300 #[oI p0, oI p1, oI p2, oI p3, oI p4, oI sc, oI sa, oI sb, oI si, oI (0 : Int32), oI a0c, oI a1c, oI u, oI b0c, oI b1c, oI jd, oR b477, oR b665, oR b680, oU, oU, oU] [(.int jd), (.ref b665), (.ref b687), (.ref b687)])) rfl (by rw [hml]; rfl) (Steps.refl _) (a := b687) (argsL := [(.ref b665), (.int jd)]) (rest := [(.ref b687)]) (lenOf pd_2 rfl) rfl (by show 2 * 0 + _ ≤ _; exact Nat.le_of_eq rfl) (hb hby at_300) (fun _ _ => ⟨rfl, e687, (by decide : 8 + 0 ≤ _), (by decide : 16 + 0 ≤ _)⟩)
        dsimp only [Pt.U, Pt.locs, Pt.cells, Pt.slots] at X695 l695 y695 z695 st695 hQ695
        subst l695 y695 z695
        obtain ⟨v695, N695q, K695q, po695_0, po695_1, po695_2⟩ := hQ695
        subst v695
        have N695 := Fr.app N694 N695q
        have O695 := O687.keep K695q (allS g_b687 all0)
        have Kc695 := Kc687.trans K695q (allS (Or.inr sz_b687) all0)
        have pre696 : ∀ t, oP p e below T695 (mkF m 309 #[oI p0, oI p1, oI p2, oI p3, oI p4, oI sc, oI sa, oI sb, oI si, oI (0 : Int32), oI a0c, oI a1c, oI u, oI b0c, oI b1c, oI jd, oR b477, oR b665, oR b680, oR b687, oU, oU] [(.int sb), (.int sa)]) t → oP p e below s₁ (entryFrame m #[(.int p0), (.int p1), (.int p2), (.int p3), (.int p4)] maxLocals) t := fun t k => pre686 t (by
          show oP p e below T685 (mkF m 231 #[oI p0, oI p1, oI p2, oI p3, oI p4, oI sc, oI sa, oI sb, oI si, oI (0 : Int32), oI a0c, oI a1c, oI u, oI b0c, oI b1c, oI jd, oR b477, oR b665, oR b680, oU, oU, oU] []) _
          refine XS.iload X685.here hx rfl (hb hby at_231) rfl ?_
          show oP p e below T685 (mkF m 233 #[oI p0, oI p1, oI p2, oI p3, oI p4, oI sc, oI sa, oI sb, oI si, oI (0 : Int32), oI a0c, oI a1c, oI u, oI b0c, oI b1c, oI jd, oR b477, oR b665, oR b680, oU, oU, oU] [(.int (0 : Int32))]) _
          refine XS.iconst X685.here hx rfl (hb hby at_233) ?_
          show oP p e below T685 (mkF m 234 #[oI p0, oI p1, oI p2, oI p3, oI p4, oI sc, oI sa, oI sb, oI si, oI (0 : Int32), oI a0c, oI a1c, oI u, oI b0c, oI b1c, oI jd, oR b477, oR b665, oR b680, oU, oU, oU] [(.int (1 : Int32)), (.int (0 : Int32))]) _
          refine XS.icmpYes X685.here hx rfl (pc0 := 234) (pc' := 252) rfl (hb hby at_234) rfl (feq (by decide : ¬ ((0 : Int32) = (1 : Int32)))).2 (by decide) (by decide) ?_
          show oP p e below T685 (mkF m 252 #[oI p0, oI p1, oI p2, oI p3, oI p4, oI sc, oI sa, oI sb, oI si, oI (0 : Int32), oI a0c, oI a1c, oI u, oI b0c, oI b1c, oI jd, oR b477, oR b665, oR b680, oU, oU, oU] []) _
          refine XS.iload X685.here hx rfl (hb hby at_252) rfl ?_
          show oP p e below T685 (mkF m 254 #[oI p0, oI p1, oI p2, oI p3, oI p4, oI sc, oI sa, oI sb, oI si, oI (0 : Int32), oI a0c, oI a1c, oI u, oI b0c, oI b1c, oI jd, oR b477, oR b665, oR b680, oU, oU, oU] [(.int (0 : Int32))]) _
          refine XS.iconst X685.here hx rfl (hb hby at_254) ?_
          show oP p e below T685 (mkF m 255 #[oI p0, oI p1, oI p2, oI p3, oI p4, oI sc, oI sa, oI sb, oI si, oI (0 : Int32), oI a0c, oI a1c, oI u, oI b0c, oI b1c, oI jd, oR b477, oR b665, oR b680, oU, oU, oU] [(.int (2 : Int32)), (.int (0 : Int32))]) _
          refine XS.icmpYes X685.here hx rfl (pc0 := 255) (pc' := 278) rfl (hb hby at_255) rfl (feq (by decide : ¬ ((0 : Int32) = (2 : Int32)))).2 (by decide) (by decide) ?_
          show oP p e below T685 (mkF m 278 #[oI p0, oI p1, oI p2, oI p3, oI p4, oI sc, oI sa, oI sb, oI si, oI (0 : Int32), oI a0c, oI a1c, oI u, oI b0c, oI b1c, oI jd, oR b477, oR b665, oR b680, oU, oU, oU] []) _
          refine XS.iload X685.here hx rfl (hb hby at_278) rfl ?_
          show oP p e below T685 (mkF m 280 #[oI p0, oI p1, oI p2, oI p3, oI p4, oI sc, oI sa, oI sb, oI si, oI (0 : Int32), oI a0c, oI a1c, oI u, oI b0c, oI b1c, oI jd, oR b477, oR b665, oR b680, oU, oU, oU] [(.int (0 : Int32))]) _
          refine XS.iconst X685.here hx rfl (hb hby at_280) ?_
          show oP p e below T685 (mkF m 281 #[oI p0, oI p1, oI p2, oI p3, oI p4, oI sc, oI sa, oI sb, oI si, oI (0 : Int32), oI a0c, oI a1c, oI u, oI b0c, oI b1c, oI jd, oR b477, oR b665, oR b680, oU, oU, oU] [(.int (3 : Int32)), (.int (0 : Int32))]) _
          refine XS.icmpYes X685.here hx rfl (pc0 := 281) (pc' := 292) rfl (hb hby at_281) rfl (feq (by decide : ¬ ((0 : Int32) = (3 : Int32)))).2 (by decide) (by decide) ?_
          show oP p e below T685 (mkF m 292 #[oI p0, oI p1, oI p2, oI p3, oI p4, oI sc, oI sa, oI sb, oI si, oI (0 : Int32), oI a0c, oI a1c, oI u, oI b0c, oI b1c, oI jd, oR b477, oR b665, oR b680, oU, oU, oU] []) _
          refine st687 _ ?_
          show oP p e below T687 (mkF m 295 #[oI p0, oI p1, oI p2, oI p3, oI p4, oI sc, oI sa, oI sb, oI si, oI (0 : Int32), oI a0c, oI a1c, oI u, oI b0c, oI b1c, oI jd, oR b477, oR b665, oR b680, oU, oU, oU] [(.ref b687)]) _
          refine XS.dup X687.here hx rfl (hb hby at_295) rfl rfl ?_
          show oP p e below T687 (mkF m 296 #[oI p0, oI p1, oI p2, oI p3, oI p4, oI sc, oI sa, oI sb, oI si, oI (0 : Int32), oI a0c, oI a1c, oI u, oI b0c, oI b1c, oI jd, oR b477, oR b665, oR b680, oU, oU, oU] [(.ref b687), (.ref b687)]) _
          refine XS.aload X687.here hx rfl (hb hby at_296) rfl rfl ?_
          show oP p e below T687 (mkF m 298 #[oI p0, oI p1, oI p2, oI p3, oI p4, oI sc, oI sa, oI sb, oI si, oI (0 : Int32), oI a0c, oI a1c, oI u, oI b0c, oI b1c, oI jd, oR b477, oR b665, oR b680, oU, oU, oU] [(.ref b665), (.ref b687), (.ref b687)]) _
          refine XS.iload X687.here hx rfl (hb hby at_298) rfl ?_
          show oP p e below T687 (mkF m 300 #[oI p0, oI p1, oI p2, oI p3, oI p4, oI sc, oI sa, oI sb, oI si, oI (0 : Int32), oI a0c, oI a1c, oI u, oI b0c, oI b1c, oI jd, oR b477, oR b665, oR b680, oU, oU, oU] [(.int jd), (.ref b665), (.ref b687), (.ref b687)]) _
          refine st695.trans ?_
          show oP p e below T695 (mkF m 303 #[oI p0, oI p1, oI p2, oI p3, oI p4, oI sc, oI sa, oI sb, oI si, oI (0 : Int32), oI a0c, oI a1c, oI u, oI b0c, oI b1c, oI jd, oR b477, oR b665, oR b680, oU, oU, oU] [(.ref b687)]) _
          refine XS.astore X695.here hx rfl (hb hby at_303) rfl rfl (l' := #[oI p0, oI p1, oI p2, oI p3, oI p4, oI sc, oI sa, oI sb, oI si, oI (0 : Int32), oI a0c, oI a1c, oI u, oI b0c, oI b1c, oI jd, oR b477, oR b665, oR b680, oR b687, oU, oU]) rfl ?_
          show oP p e below T695 (mkF m 305 #[oI p0, oI p1, oI p2, oI p3, oI p4, oI sc, oI sa, oI sb, oI si, oI (0 : Int32), oI a0c, oI a1c, oI u, oI b0c, oI b1c, oI jd, oR b477, oR b665, oR b680, oR b687, oU, oU] []) _
          refine XS.iload X695.here hx rfl (hb hby at_305) rfl ?_
          show oP p e below T695 (mkF m 307 #[oI p0, oI p1, oI p2, oI p3, oI p4, oI sc, oI sa, oI sb, oI si, oI (0 : Int32), oI a0c, oI a1c, oI u, oI b0c, oI b1c, oI jd, oR b477, oR b665, oR b680, oR b687, oU, oU] [(.int sa)]) _
          refine XS.iload X695.here hx rfl (hb hby at_307) rfl ?_
          exact k)
        by_cases hc697 : sa = sb
        · have pre698 : ∀ t, oP p e below T695 (mkF m 316 #[oI p0, oI p1, oI p2, oI p3, oI p4, oI sc, oI sa, oI sb, oI si, oI (0 : Int32), oI a0c, oI a1c, oI u, oI b0c, oI b1c, oI jd, oR b477, oR b665, oR b680, oR b687, oU, oU] [(.int b0c), (.int a0c)]) t → oP p e below s₁ (entryFrame m #[(.int p0), (.int p1), (.int p2), (.int p3), (.int p4)] maxLocals) t := fun t k => pre696 t (by
            show oP p e below T695 (mkF m 309 #[oI p0, oI p1, oI p2, oI p3, oI p4, oI sc, oI sa, oI sb, oI si, oI (0 : Int32), oI a0c, oI a1c, oI u, oI b0c, oI b1c, oI jd, oR b477, oR b665, oR b680, oR b687, oU, oU] [(.int sb), (.int sa)]) _
            refine XS.icmpNo X695.here hx rfl (hb hby at_309) rfl (teq hc697).2 ?_
            show oP p e below T695 (mkF m 312 #[oI p0, oI p1, oI p2, oI p3, oI p4, oI sc, oI sa, oI sb, oI si, oI (0 : Int32), oI a0c, oI a1c, oI u, oI b0c, oI b1c, oI jd, oR b477, oR b665, oR b680, oR b687, oU, oU] []) _
            refine XS.iload X695.here hx rfl (hb hby at_312) rfl ?_
            show oP p e below T695 (mkF m 314 #[oI p0, oI p1, oI p2, oI p3, oI p4, oI sc, oI sa, oI sb, oI si, oI (0 : Int32), oI a0c, oI a1c, oI u, oI b0c, oI b1c, oI jd, oR b477, oR b665, oR b680, oR b687, oU, oU] [(.int a0c)]) _
            refine XS.iload X695.here hx rfl (hb hby at_314) rfl ?_
            exact k)
          by_cases hc699 : a0c = b0c
          · have pre700 : ∀ t, oP p e below T695 (mkF m 346 #[oI p0, oI p1, oI p2, oI p3, oI p4, oI sc, oI sa, oI sb, oI si, oI (0 : Int32), oI a0c, oI a1c, oI u, oI b0c, oI b1c, oI jd, oR b477, oR b665, oR b680, oR b687, oI (1 : Int32), oU] [(.int jd), (.int p2)]) t → oP p e below s₁ (entryFrame m #[(.int p0), (.int p1), (.int p2), (.int p3), (.int p4)] maxLocals) t := fun t k => pre698 t (by
              show oP p e below T695 (mkF m 316 #[oI p0, oI p1, oI p2, oI p3, oI p4, oI sc, oI sa, oI sb, oI si, oI (0 : Int32), oI a0c, oI a1c, oI u, oI b0c, oI b1c, oI jd, oR b477, oR b665, oR b680, oR b687, oU, oU] [(.int b0c), (.int a0c)]) _
              refine XS.icmpNo X695.here hx rfl (hb hby at_316) rfl (teq hc699).2 ?_
              show oP p e below T695 (mkF m 319 #[oI p0, oI p1, oI p2, oI p3, oI p4, oI sc, oI sa, oI sb, oI si, oI (0 : Int32), oI a0c, oI a1c, oI u, oI b0c, oI b1c, oI jd, oR b477, oR b665, oR b680, oR b687, oU, oU] []) _
              refine XS.iload X695.here hx rfl (hb hby at_319) rfl ?_
              show oP p e below T695 (mkF m 321 #[oI p0, oI p1, oI p2, oI p3, oI p4, oI sc, oI sa, oI sb, oI si, oI (0 : Int32), oI a0c, oI a1c, oI u, oI b0c, oI b1c, oI jd, oR b477, oR b665, oR b680, oR b687, oU, oU] [(.int sa)]) _
              refine XS.ifYes X695.here hx rfl (pc0 := 321) (pc' := 331) rfl (hb hby at_321) rfl ((if0 _ _).trans (feq hc40).2) (by decide) (by decide) ?_
              show oP p e below T695 (mkF m 331 #[oI p0, oI p1, oI p2, oI p3, oI p4, oI sc, oI sa, oI sb, oI si, oI (0 : Int32), oI a0c, oI a1c, oI u, oI b0c, oI b1c, oI jd, oR b477, oR b665, oR b680, oR b687, oU, oU] []) _
              refine XS.iconst X695.here hx rfl (hb hby at_331) ?_
              show oP p e below T695 (mkF m 332 #[oI p0, oI p1, oI p2, oI p3, oI p4, oI sc, oI sa, oI sb, oI si, oI (0 : Int32), oI a0c, oI a1c, oI u, oI b0c, oI b1c, oI jd, oR b477, oR b665, oR b680, oR b687, oU, oU] [(.int (1 : Int32))]) _
              refine XS.goto X695.here hx rfl (pc0 := 332) (pc' := 336) rfl (hb hby at_332) (by decide) (by decide) ?_
              show oP p e below T695 (mkF m 336 #[oI p0, oI p1, oI p2, oI p3, oI p4, oI sc, oI sa, oI sb, oI si, oI (0 : Int32), oI a0c, oI a1c, oI u, oI b0c, oI b1c, oI jd, oR b477, oR b665, oR b680, oR b687, oU, oU] [(.int (1 : Int32))]) _
              refine XS.istore X695.here hx rfl (hb hby at_336) rfl (l' := #[oI p0, oI p1, oI p2, oI p3, oI p4, oI sc, oI sa, oI sb, oI si, oI (0 : Int32), oI a0c, oI a1c, oI u, oI b0c, oI b1c, oI jd, oR b477, oR b665, oR b680, oR b687, oI (1 : Int32), oU]) rfl ?_
              show oP p e below T695 (mkF m 338 #[oI p0, oI p1, oI p2, oI p3, oI p4, oI sc, oI sa, oI sb, oI si, oI (0 : Int32), oI a0c, oI a1c, oI u, oI b0c, oI b1c, oI jd, oR b477, oR b665, oR b680, oR b687, oI (1 : Int32), oU] []) _
              refine XS.iload X695.here hx rfl (hb hby at_338) rfl ?_
              show oP p e below T695 (mkF m 340 #[oI p0, oI p1, oI p2, oI p3, oI p4, oI sc, oI sa, oI sb, oI si, oI (0 : Int32), oI a0c, oI a1c, oI u, oI b0c, oI b1c, oI jd, oR b477, oR b665, oR b680, oR b687, oI (1 : Int32), oU] [(.int (1 : Int32))]) _
              refine XS.ifNo X695.here hx rfl (hb hby at_340) rfl ((if0 _ _).trans (feq (by decide : ¬ ((1 : Int32) = (0 : Int32)))).1) ?_
              show oP p e below T695 (mkF m 343 #[oI p0, oI p1, oI p2, oI p3, oI p4, oI sc, oI sa, oI sb, oI si, oI (0 : Int32), oI a0c, oI a1c, oI u, oI b0c, oI b1c, oI jd, oR b477, oR b665, oR b680, oR b687, oI (1 : Int32), oU] []) _
              refine XS.iloadN X695.here hx rfl (hb hby at_343) rfl ?_
              show oP p e below T695 (mkF m 344 #[oI p0, oI p1, oI p2, oI p3, oI p4, oI sc, oI sa, oI sb, oI si, oI (0 : Int32), oI a0c, oI a1c, oI u, oI b0c, oI b1c, oI jd, oR b477, oR b665, oR b680, oR b687, oI (1 : Int32), oU] [(.int p2)]) _
              refine XS.iload X695.here hx rfl (hb hby at_344) rfl ?_
              exact k)
            by_cases hc701 : p2 = jd
            · have fx702 := ((po685_0.ext E687).keep K695q)
              have fx704 := ((po685_1.ext E687).keep K695q (ninS ne_b680_b687 nin0))
              have fx705 := ((po685_2.ext E687).keep K695q (ninS ne_b680_b687 nin0))
              have fx706 := ((((((((pV480.ext E665).ext E667).other W671 (Or.inl ne_b477_b667)).keep K672q (ninS ne_b477_b665 nin0)).ext E680).keep K685q (ninS ne_b477_b680 nin0)).ext E687).keep K695q (ninS ne_b477_b687 nin0))
              have fx707 := ((fx690.ext E687).keep K695q (ninS ne_t480_b687 nin0))
              have fx708 := ((((pV672.ext E680).keep K685q (ninS ne_b665_b680 nin0)).ext E687).keep K695q (ninS ne_b665_b687 nin0))
              have fx709 := ((fx693.ext E687).keep K695q (ninS ne_t672_b687 nin0))
              have fx710 := ((fx688.ext E687).keep K695q)
              have fx711 := ((((((((pC480.ext E665).ext E667).other W671 (Or.inl ne_b477_b667)).keep K672q (ninS ne_b477_b665 nin0)).ext E680).keep K685q (ninS ne_b477_b680 nin0)).ext E687).keep K695q (ninS ne_b477_b687 nin0))
              have fx712 := ((fx691.ext E687).keep K695q)
              have fx713 := ((((pC672.ext E680).keep K685q (ninS ne_b665_b680 nin0)).ext E687).keep K695q (ninS ne_b665_b687 nin0))
              obtain ⟨cq703, kq703, q703a, q703b, q703c⟩ := isOf hZ rfl fx702
              obtain ⟨_, _, ⟨T703, L703, k703, n703⟩, -, X703, ⟨Lc703, hQ703, l703, y703, z703⟩, st703⟩ := X695.virtualBack hx (y := (⟨"com/example/narada/narada/store/QueueKey", "equals", "(Ljava/lang/Object;)Z"⟩ : MethodName)) (z := (⟨"com/example/narada/narada/store/QueueKey", "equals", "(Ljava/lang/Object;)Z"⟩ : MethodName)) hown (mvT hZ (hw _ (List.mem_of_getElem? (i := 41) rfl))) (mvT hZ (hw _ (List.mem_of_getElem? (i := 42) rfl))) (notFace_of_selects (args := #[]) (mvT hZ (hw _ (List.mem_of_getElem? (i := 44) rfl)))) (mvT hZ (hw _ (List.mem_of_getElem? (i := 44) rfl))) (mvT hZ (hw _ (List.mem_of_getElem? (i := 43) rfl))) (by decide) (backOf (W := 0) (rm8q l Z a0 hw hS [] b680 b687 b477 b665 p2 jd t480 kt480 ([a0c] : List Int32) t672 kt672 ([b0c] : List Int32) T695.heap n0 O695 po695_0 fx704 po695_1 fx705 po695_2 fx710 fx711 fx706 fx707 hp484 (Nat.le_of_ble_eq_true rfl) fx712 fx713 fx708 fx709 hp676 (Nat.le_of_ble_eq_true rfl)) hZ (hw _ (List.mem_of_getElem? (i := 45) rfl)) (hw _ (List.mem_of_getElem? (i := 32) rfl)) (by decide) (by decide)) q703a q703c (g := (mkF m 360 #[oI p0, oI p1, oI p2, oI p3, oI p4, oI sc, oI sa, oI sb, oI si, oI (0 : Int32), oI a0c, oI a1c, oI u, oI b0c, oI b1c, oI jd, oR b477, oR b665, oR b680, oR b687, oI (1 : Int32), oI (1 : Int32)] [(.ref b687), (.ref b680)])) rfl (by rw [hml]; rfl) (Steps.refl _) (argsL := [(.ref b687)]) (rest := []) (lenOf pd_0 rfl) rfl (by show 2 * 0 + _ ≤ _; exact Nat.le_of_eq rfl) (hb hby at_360) (fun _ _ => ⟨rfl, rfl, (by decide : 8 + 0 ≤ _), (by decide : 16 + 0 ≤ _)⟩)
              dsimp only [Pt.U, Pt.locs, Pt.cells, Pt.slots] at X703 l703 y703 z703 st703 hQ703
              subst l703 y703 z703
              obtain ⟨v703, N703q, K703q⟩ := hQ703
              subst v703
              have N703 := Fr.app N695 N703q
              have O703 := O695.keep K703q all0
              have Kc703 := Kc695.trans K703q all0
              have pre714 : ∀ t, oP p e below T703 (mkF m 365 #[oI p0, oI p1, oI p2, oI p3, oI p4, oI sc, oI sa, oI sb, oI si, oI (0 : Int32), oI a0c, oI a1c, oI u, oI b0c, oI b1c, oI jd, oR b477, oR b665, oR b680, oR b687, oI (1 : Int32), oI (1 : Int32)] [(.int (1 : Int32)), (.int (fn8q Z b680 b687 b477 b665 p2 jd t480 kt480 ([a0c] : List Int32) t672 kt672 ([b0c] : List Int32)))]) t → oP p e below s₁ (entryFrame m #[(.int p0), (.int p1), (.int p2), (.int p3), (.int p4)] maxLocals) t := fun t k => pre700 t (by
                show oP p e below T695 (mkF m 346 #[oI p0, oI p1, oI p2, oI p3, oI p4, oI sc, oI sa, oI sb, oI si, oI (0 : Int32), oI a0c, oI a1c, oI u, oI b0c, oI b1c, oI jd, oR b477, oR b665, oR b680, oR b687, oI (1 : Int32), oU] [(.int jd), (.int p2)]) _
                refine XS.icmpNo X695.here hx rfl (hb hby at_346) rfl (teq hc701).2 ?_
                show oP p e below T695 (mkF m 349 #[oI p0, oI p1, oI p2, oI p3, oI p4, oI sc, oI sa, oI sb, oI si, oI (0 : Int32), oI a0c, oI a1c, oI u, oI b0c, oI b1c, oI jd, oR b477, oR b665, oR b680, oR b687, oI (1 : Int32), oU] []) _
                refine XS.iconst X695.here hx rfl (hb hby at_349) ?_
                show oP p e below T695 (mkF m 350 #[oI p0, oI p1, oI p2, oI p3, oI p4, oI sc, oI sa, oI sb, oI si, oI (0 : Int32), oI a0c, oI a1c, oI u, oI b0c, oI b1c, oI jd, oR b477, oR b665, oR b680, oR b687, oI (1 : Int32), oU] [(.int (1 : Int32))]) _
                refine XS.goto X695.here hx rfl (pc0 := 350) (pc' := 354) rfl (hb hby at_350) (by decide) (by decide) ?_
                show oP p e below T695 (mkF m 354 #[oI p0, oI p1, oI p2, oI p3, oI p4, oI sc, oI sa, oI sb, oI si, oI (0 : Int32), oI a0c, oI a1c, oI u, oI b0c, oI b1c, oI jd, oR b477, oR b665, oR b680, oR b687, oI (1 : Int32), oU] [(.int (1 : Int32))]) _
                refine XS.istore X695.here hx rfl (hb hby at_354) rfl (l' := #[oI p0, oI p1, oI p2, oI p3, oI p4, oI sc, oI sa, oI sb, oI si, oI (0 : Int32), oI a0c, oI a1c, oI u, oI b0c, oI b1c, oI jd, oR b477, oR b665, oR b680, oR b687, oI (1 : Int32), oI (1 : Int32)]) rfl ?_
                show oP p e below T695 (mkF m 356 #[oI p0, oI p1, oI p2, oI p3, oI p4, oI sc, oI sa, oI sb, oI si, oI (0 : Int32), oI a0c, oI a1c, oI u, oI b0c, oI b1c, oI jd, oR b477, oR b665, oR b680, oR b687, oI (1 : Int32), oI (1 : Int32)] []) _
                refine XS.aload X695.here hx rfl (hb hby at_356) rfl rfl ?_
                show oP p e below T695 (mkF m 358 #[oI p0, oI p1, oI p2, oI p3, oI p4, oI sc, oI sa, oI sb, oI si, oI (0 : Int32), oI a0c, oI a1c, oI u, oI b0c, oI b1c, oI jd, oR b477, oR b665, oR b680, oR b687, oI (1 : Int32), oI (1 : Int32)] [(.ref b680)]) _
                refine XS.aload X695.here hx rfl (hb hby at_358) rfl rfl ?_
                show oP p e below T695 (mkF m 360 #[oI p0, oI p1, oI p2, oI p3, oI p4, oI sc, oI sa, oI sb, oI si, oI (0 : Int32), oI a0c, oI a1c, oI u, oI b0c, oI b1c, oI jd, oR b477, oR b665, oR b680, oR b687, oI (1 : Int32), oI (1 : Int32)] [(.ref b687), (.ref b680)]) _
                refine st703.trans ?_
                show oP p e below T703 (mkF m 363 #[oI p0, oI p1, oI p2, oI p3, oI p4, oI sc, oI sa, oI sb, oI si, oI (0 : Int32), oI a0c, oI a1c, oI u, oI b0c, oI b1c, oI jd, oR b477, oR b665, oR b680, oR b687, oI (1 : Int32), oI (1 : Int32)] [(.int (fn8q Z b680 b687 b477 b665 p2 jd t480 kt480 ([a0c] : List Int32) t672 kt672 ([b0c] : List Int32)))]) _
                refine XS.iload X703.here hx rfl (hb hby at_363) rfl ?_
                exact k)
              by_cases hc715 : (fn8q Z b680 b687 b477 b665 p2 jd t480 kt480 ([a0c] : List Int32) t672 kt672 ([b0c] : List Int32)) = (1 : Int32)
              · have fx716 := (po695_0.keep K703q)
                have fx718 := (po695_1.keep K703q nin0)
                have fx719 := (fx704.keep K703q nin0)
                have fx720 := (po695_2.keep K703q nin0)
                have fx721 := (fx705.keep K703q nin0)
                have fx722 := (fx708.keep K703q nin0)
                have fx723 := (fx709.keep K703q nin0)
                have fx724 := (fx706.keep K703q nin0)
                have fx725 := (fx707.keep K703q nin0)
                have fx726 := (fx702.keep K703q)
                have fx727 := (fx712.keep K703q)
                have fx728 := (fx713.keep K703q nin0)
                have fx729 := (fx710.keep K703q)
                have fx730 := (fx711.keep K703q nin0)
                obtain ⟨cq717, kq717, q717a, q717b, q717c⟩ := isOf hZ rfl fx716
                obtain ⟨_, _, ⟨T717, L717, k717, n717⟩, -, X717, ⟨Lc717, hQ717, l717, y717, z717⟩, st717⟩ := X703.virtualBack hx (y := (⟨"com/example/narada/narada/store/QueueKey", "equals", "(Ljava/lang/Object;)Z"⟩ : MethodName)) (z := (⟨"com/example/narada/narada/store/QueueKey", "equals", "(Ljava/lang/Object;)Z"⟩ : MethodName)) hown (mvT hZ (hw _ (List.mem_of_getElem? (i := 41) rfl))) (mvT hZ (hw _ (List.mem_of_getElem? (i := 42) rfl))) (notFace_of_selects (args := #[]) (mvT hZ (hw _ (List.mem_of_getElem? (i := 44) rfl)))) (mvT hZ (hw _ (List.mem_of_getElem? (i := 44) rfl))) (mvT hZ (hw _ (List.mem_of_getElem? (i := 43) rfl))) (by decide) (backOf (W := 0) (rm8q l Z a0 hw hS [] b687 b680 b665 b477 jd p2 t672 kt672 ([b0c] : List Int32) t480 kt480 ([a0c] : List Int32) T703.heap n0 O703 fx726 fx718 fx719 fx720 fx721 fx727 fx728 fx722 fx723 hp676 (Nat.le_of_ble_eq_true rfl) fx729 fx730 fx724 fx725 hp484 (Nat.le_of_ble_eq_true rfl)) hZ (hw _ (List.mem_of_getElem? (i := 45) rfl)) (hw _ (List.mem_of_getElem? (i := 32) rfl)) (by decide) (by decide)) q717a q717c (g := (mkF m 372 #[oI p0, oI p1, oI p2, oI p3, oI p4, oI sc, oI sa, oI sb, oI si, oI (0 : Int32), oI a0c, oI a1c, oI u, oI b0c, oI b1c, oI jd, oR b477, oR b665, oR b680, oR b687, oI (1 : Int32), oI (1 : Int32)] [(.ref b680), (.ref b687)])) rfl (by rw [hml]; rfl) (Steps.refl _) (argsL := [(.ref b680)]) (rest := []) (lenOf pd_0 rfl) rfl (by show 2 * 0 + _ ≤ _; exact Nat.le_of_eq rfl) (hb hby at_372) (fun _ _ => ⟨rfl, rfl, (by decide : 8 + 0 ≤ _), (by decide : 16 + 0 ≤ _)⟩)
                dsimp only [Pt.U, Pt.locs, Pt.cells, Pt.slots] at X717 l717 y717 z717 st717 hQ717
                subst l717 y717 z717
                obtain ⟨v717, N717q, K717q⟩ := hQ717
                subst v717
                have N717 := Fr.app N703 N717q
                have O717 := O703.keep K717q all0
                have Kc717 := Kc703.trans K717q all0
                have pre731 : ∀ t, oP p e below T717 (mkF m 377 #[oI p0, oI p1, oI p2, oI p3, oI p4, oI sc, oI sa, oI sb, oI si, oI (0 : Int32), oI a0c, oI a1c, oI u, oI b0c, oI b1c, oI jd, oR b477, oR b665, oR b680, oR b687, oI (1 : Int32), oI (1 : Int32)] [(.int (1 : Int32)), (.int (fn8q Z b687 b680 b665 b477 jd p2 t672 kt672 ([b0c] : List Int32) t480 kt480 ([a0c] : List Int32)))]) t → oP p e below s₁ (entryFrame m #[(.int p0), (.int p1), (.int p2), (.int p3), (.int p4)] maxLocals) t := fun t k => pre714 t (by
                  show oP p e below T703 (mkF m 365 #[oI p0, oI p1, oI p2, oI p3, oI p4, oI sc, oI sa, oI sb, oI si, oI (0 : Int32), oI a0c, oI a1c, oI u, oI b0c, oI b1c, oI jd, oR b477, oR b665, oR b680, oR b687, oI (1 : Int32), oI (1 : Int32)] [(.int (1 : Int32)), (.int (fn8q Z b680 b687 b477 b665 p2 jd t480 kt480 ([a0c] : List Int32) t672 kt672 ([b0c] : List Int32)))]) _
                  refine XS.icmpNo X703.here hx rfl (hb hby at_365) rfl (teq hc715).2 ?_
                  show oP p e below T703 (mkF m 368 #[oI p0, oI p1, oI p2, oI p3, oI p4, oI sc, oI sa, oI sb, oI si, oI (0 : Int32), oI a0c, oI a1c, oI u, oI b0c, oI b1c, oI jd, oR b477, oR b665, oR b680, oR b687, oI (1 : Int32), oI (1 : Int32)] []) _
                  refine XS.aload X703.here hx rfl (hb hby at_368) rfl rfl ?_
                  show oP p e below T703 (mkF m 370 #[oI p0, oI p1, oI p2, oI p3, oI p4, oI sc, oI sa, oI sb, oI si, oI (0 : Int32), oI a0c, oI a1c, oI u, oI b0c, oI b1c, oI jd, oR b477, oR b665, oR b680, oR b687, oI (1 : Int32), oI (1 : Int32)] [(.ref b687)]) _
                  refine XS.aload X703.here hx rfl (hb hby at_370) rfl rfl ?_
                  show oP p e below T703 (mkF m 372 #[oI p0, oI p1, oI p2, oI p3, oI p4, oI sc, oI sa, oI sb, oI si, oI (0 : Int32), oI a0c, oI a1c, oI u, oI b0c, oI b1c, oI jd, oR b477, oR b665, oR b680, oR b687, oI (1 : Int32), oI (1 : Int32)] [(.ref b680), (.ref b687)]) _
                  refine st717.trans ?_
                  show oP p e below T717 (mkF m 375 #[oI p0, oI p1, oI p2, oI p3, oI p4, oI sc, oI sa, oI sb, oI si, oI (0 : Int32), oI a0c, oI a1c, oI u, oI b0c, oI b1c, oI jd, oR b477, oR b665, oR b680, oR b687, oI (1 : Int32), oI (1 : Int32)] [(.int (fn8q Z b687 b680 b665 b477 jd p2 t672 kt672 ([b0c] : List Int32) t480 kt480 ([a0c] : List Int32)))]) _
                  refine XS.iload X717.here hx rfl (hb hby at_375) rfl ?_
                  exact k)
                by_cases hc732 : (fn8q Z b687 b680 b665 b477 jd p2 t672 kt672 ([b0c] : List Int32) t480 kt480 ([a0c] : List Int32)) = (1 : Int32)
                · obtain ⟨fs, hr, hrun, hended, hW, hsame⟩ := X717.leave (v := some (.int (1 : Int32))) (fun h => by rw [Bd.returns] at h; cases h)
                  refine ⟨_, _, pre731 _ ?_, hrun, hended, _, _, rfl, ?_, ⟨_, rfl⟩, hW, hsame.mono (by decide) (by decide)⟩
                  · show oP p e below T717 (mkF m 377 #[oI p0, oI p1, oI p2, oI p3, oI p4, oI sc, oI sa, oI sb, oI si, oI (0 : Int32), oI a0c, oI a1c, oI u, oI b0c, oI b1c, oI jd, oR b477, oR b665, oR b680, oR b687, oI (1 : Int32), oI (1 : Int32)] [(.int (1 : Int32)), (.int (fn8q Z b687 b680 b665 b477 jd p2 t672 kt672 ([b0c] : List Int32) t480 kt480 ([a0c] : List Int32)))]) _
                    refine XS.icmpNo X717.here hx rfl (hb hby at_377) rfl (teq hc732).2 ?_
                    show oP p e below T717 (mkF m 380 #[oI p0, oI p1, oI p2, oI p3, oI p4, oI sc, oI sa, oI sb, oI si, oI (0 : Int32), oI a0c, oI a1c, oI u, oI b0c, oI b1c, oI jd, oR b477, oR b665, oR b680, oR b687, oI (1 : Int32), oI (1 : Int32)] []) _
                    refine XS.iconst X717.here hx rfl (hb hby at_380) ?_
                    show oP p e below T717 (mkF m 381 #[oI p0, oI p1, oI p2, oI p3, oI p4, oI sc, oI sa, oI sb, oI si, oI (0 : Int32), oI a0c, oI a1c, oI u, oI b0c, oI b1c, oI jd, oR b477, oR b665, oR b680, oR b687, oI (1 : Int32), oI (1 : Int32)] [(.int (1 : Int32))]) _
                    refine XS.goto X717.here hx rfl (pc0 := 381) (pc' := 385) rfl (hb hby at_381) (by decide) (by decide) ?_
                    show oP p e below T717 (mkF m 385 #[oI p0, oI p1, oI p2, oI p3, oI p4, oI sc, oI sa, oI sb, oI si, oI (0 : Int32), oI a0c, oI a1c, oI u, oI b0c, oI b1c, oI jd, oR b477, oR b665, oR b680, oR b687, oI (1 : Int32), oI (1 : Int32)] [(.int (1 : Int32))]) _
                    exact retN X717 hx (t := .boolean) Bd.returns (by simp) (hb hby at_385) hr
                  · show (some (.int (1 : Int32)) : Option Value) = some (.int (1 : Int32)) ∧ Fr n0 _ ∧ Keep h0 T717.heap []
                    exact ⟨rfl, N717, Kc717⟩
                · exfalso
                  exact ab733 hS p2 sa sb a0c b0c jd rsa rsb hc40 hc486 hc697 hc699 hc701 hc715 hc732
              · exfalso
                exact ab734 hS p2 sa sb a0c b0c jd rsa rsb hc40 hc486 hc697 hc699 hc701 hc715
            · have fx735 := ((po685_0.ext E687).keep K695q)
              have fx737 := ((po685_1.ext E687).keep K695q (ninS ne_b680_b687 nin0))
              have fx738 := ((po685_2.ext E687).keep K695q (ninS ne_b680_b687 nin0))
              have fx739 := ((((((((pV480.ext E665).ext E667).other W671 (Or.inl ne_b477_b667)).keep K672q (ninS ne_b477_b665 nin0)).ext E680).keep K685q (ninS ne_b477_b680 nin0)).ext E687).keep K695q (ninS ne_b477_b687 nin0))
              have fx740 := ((fx690.ext E687).keep K695q (ninS ne_t480_b687 nin0))
              have fx741 := ((((pV672.ext E680).keep K685q (ninS ne_b665_b680 nin0)).ext E687).keep K695q (ninS ne_b665_b687 nin0))
              have fx742 := ((fx693.ext E687).keep K695q (ninS ne_t672_b687 nin0))
              have fx743 := ((fx688.ext E687).keep K695q)
              have fx744 := ((((((((pC480.ext E665).ext E667).other W671 (Or.inl ne_b477_b667)).keep K672q (ninS ne_b477_b665 nin0)).ext E680).keep K685q (ninS ne_b477_b680 nin0)).ext E687).keep K695q (ninS ne_b477_b687 nin0))
              have fx745 := ((fx691.ext E687).keep K695q)
              have fx746 := ((((pC672.ext E680).keep K685q (ninS ne_b665_b680 nin0)).ext E687).keep K695q (ninS ne_b665_b687 nin0))
              obtain ⟨cq736, kq736, q736a, q736b, q736c⟩ := isOf hZ rfl fx735
              obtain ⟨_, _, ⟨T736, L736, k736, n736⟩, -, X736, ⟨Lc736, hQ736, l736, y736, z736⟩, st736⟩ := X695.virtualBack hx (y := (⟨"com/example/narada/narada/store/QueueKey", "equals", "(Ljava/lang/Object;)Z"⟩ : MethodName)) (z := (⟨"com/example/narada/narada/store/QueueKey", "equals", "(Ljava/lang/Object;)Z"⟩ : MethodName)) hown (mvT hZ (hw _ (List.mem_of_getElem? (i := 41) rfl))) (mvT hZ (hw _ (List.mem_of_getElem? (i := 42) rfl))) (notFace_of_selects (args := #[]) (mvT hZ (hw _ (List.mem_of_getElem? (i := 44) rfl)))) (mvT hZ (hw _ (List.mem_of_getElem? (i := 44) rfl))) (mvT hZ (hw _ (List.mem_of_getElem? (i := 43) rfl))) (by decide) (backOf (W := 0) (rm8q l Z a0 hw hS [] b680 b687 b477 b665 p2 jd t480 kt480 ([a0c] : List Int32) t672 kt672 ([b0c] : List Int32) T695.heap n0 O695 po695_0 fx737 po695_1 fx738 po695_2 fx743 fx744 fx739 fx740 hp484 (Nat.le_of_ble_eq_true rfl) fx745 fx746 fx741 fx742 hp676 (Nat.le_of_ble_eq_true rfl)) hZ (hw _ (List.mem_of_getElem? (i := 45) rfl)) (hw _ (List.mem_of_getElem? (i := 32) rfl)) (by decide) (by decide)) q736a q736c (g := (mkF m 360 #[oI p0, oI p1, oI p2, oI p3, oI p4, oI sc, oI sa, oI sb, oI si, oI (0 : Int32), oI a0c, oI a1c, oI u, oI b0c, oI b1c, oI jd, oR b477, oR b665, oR b680, oR b687, oI (1 : Int32), oI (0 : Int32)] [(.ref b687), (.ref b680)])) rfl (by rw [hml]; rfl) (Steps.refl _) (argsL := [(.ref b687)]) (rest := []) (lenOf pd_0 rfl) rfl (by show 2 * 0 + _ ≤ _; exact Nat.le_of_eq rfl) (hb hby at_360) (fun _ _ => ⟨rfl, rfl, (by decide : 8 + 0 ≤ _), (by decide : 16 + 0 ≤ _)⟩)
              dsimp only [Pt.U, Pt.locs, Pt.cells, Pt.slots] at X736 l736 y736 z736 st736 hQ736
              subst l736 y736 z736
              obtain ⟨v736, N736q, K736q⟩ := hQ736
              subst v736
              have N736 := Fr.app N695 N736q
              have O736 := O695.keep K736q all0
              have Kc736 := Kc695.trans K736q all0
              have pre747 : ∀ t, oP p e below T736 (mkF m 365 #[oI p0, oI p1, oI p2, oI p3, oI p4, oI sc, oI sa, oI sb, oI si, oI (0 : Int32), oI a0c, oI a1c, oI u, oI b0c, oI b1c, oI jd, oR b477, oR b665, oR b680, oR b687, oI (1 : Int32), oI (0 : Int32)] [(.int (0 : Int32)), (.int (fn8q Z b680 b687 b477 b665 p2 jd t480 kt480 ([a0c] : List Int32) t672 kt672 ([b0c] : List Int32)))]) t → oP p e below s₁ (entryFrame m #[(.int p0), (.int p1), (.int p2), (.int p3), (.int p4)] maxLocals) t := fun t k => pre700 t (by
                show oP p e below T695 (mkF m 346 #[oI p0, oI p1, oI p2, oI p3, oI p4, oI sc, oI sa, oI sb, oI si, oI (0 : Int32), oI a0c, oI a1c, oI u, oI b0c, oI b1c, oI jd, oR b477, oR b665, oR b680, oR b687, oI (1 : Int32), oU] [(.int jd), (.int p2)]) _
                refine XS.icmpYes X695.here hx rfl (pc0 := 346) (pc' := 353) rfl (hb hby at_346) rfl (feq hc701).2 (by decide) (by decide) ?_
                show oP p e below T695 (mkF m 353 #[oI p0, oI p1, oI p2, oI p3, oI p4, oI sc, oI sa, oI sb, oI si, oI (0 : Int32), oI a0c, oI a1c, oI u, oI b0c, oI b1c, oI jd, oR b477, oR b665, oR b680, oR b687, oI (1 : Int32), oU] []) _
                refine XS.iconst X695.here hx rfl (hb hby at_353) ?_
                show oP p e below T695 (mkF m 354 #[oI p0, oI p1, oI p2, oI p3, oI p4, oI sc, oI sa, oI sb, oI si, oI (0 : Int32), oI a0c, oI a1c, oI u, oI b0c, oI b1c, oI jd, oR b477, oR b665, oR b680, oR b687, oI (1 : Int32), oU] [(.int (0 : Int32))]) _
                refine XS.istore X695.here hx rfl (hb hby at_354) rfl (l' := #[oI p0, oI p1, oI p2, oI p3, oI p4, oI sc, oI sa, oI sb, oI si, oI (0 : Int32), oI a0c, oI a1c, oI u, oI b0c, oI b1c, oI jd, oR b477, oR b665, oR b680, oR b687, oI (1 : Int32), oI (0 : Int32)]) rfl ?_
                show oP p e below T695 (mkF m 356 #[oI p0, oI p1, oI p2, oI p3, oI p4, oI sc, oI sa, oI sb, oI si, oI (0 : Int32), oI a0c, oI a1c, oI u, oI b0c, oI b1c, oI jd, oR b477, oR b665, oR b680, oR b687, oI (1 : Int32), oI (0 : Int32)] []) _
                refine XS.aload X695.here hx rfl (hb hby at_356) rfl rfl ?_
                show oP p e below T695 (mkF m 358 #[oI p0, oI p1, oI p2, oI p3, oI p4, oI sc, oI sa, oI sb, oI si, oI (0 : Int32), oI a0c, oI a1c, oI u, oI b0c, oI b1c, oI jd, oR b477, oR b665, oR b680, oR b687, oI (1 : Int32), oI (0 : Int32)] [(.ref b680)]) _
                refine XS.aload X695.here hx rfl (hb hby at_358) rfl rfl ?_
                show oP p e below T695 (mkF m 360 #[oI p0, oI p1, oI p2, oI p3, oI p4, oI sc, oI sa, oI sb, oI si, oI (0 : Int32), oI a0c, oI a1c, oI u, oI b0c, oI b1c, oI jd, oR b477, oR b665, oR b680, oR b687, oI (1 : Int32), oI (0 : Int32)] [(.ref b687), (.ref b680)]) _
                refine st736.trans ?_
                show oP p e below T736 (mkF m 363 #[oI p0, oI p1, oI p2, oI p3, oI p4, oI sc, oI sa, oI sb, oI si, oI (0 : Int32), oI a0c, oI a1c, oI u, oI b0c, oI b1c, oI jd, oR b477, oR b665, oR b680, oR b687, oI (1 : Int32), oI (0 : Int32)] [(.int (fn8q Z b680 b687 b477 b665 p2 jd t480 kt480 ([a0c] : List Int32) t672 kt672 ([b0c] : List Int32)))]) _
                refine XS.iload X736.here hx rfl (hb hby at_363) rfl ?_
                exact k)
              by_cases hc748 : (fn8q Z b680 b687 b477 b665 p2 jd t480 kt480 ([a0c] : List Int32) t672 kt672 ([b0c] : List Int32)) = (0 : Int32)
              · have fx749 := (po695_0.keep K736q)
                have fx751 := (po695_1.keep K736q nin0)
                have fx752 := (fx737.keep K736q nin0)
                have fx753 := (po695_2.keep K736q nin0)
                have fx754 := (fx738.keep K736q nin0)
                have fx755 := (fx741.keep K736q nin0)
                have fx756 := (fx742.keep K736q nin0)
                have fx757 := (fx739.keep K736q nin0)
                have fx758 := (fx740.keep K736q nin0)
                have fx759 := (fx735.keep K736q)
                have fx760 := (fx745.keep K736q)
                have fx761 := (fx746.keep K736q nin0)
                have fx762 := (fx743.keep K736q)
                have fx763 := (fx744.keep K736q nin0)
                obtain ⟨cq750, kq750, q750a, q750b, q750c⟩ := isOf hZ rfl fx749
                obtain ⟨_, _, ⟨T750, L750, k750, n750⟩, -, X750, ⟨Lc750, hQ750, l750, y750, z750⟩, st750⟩ := X736.virtualBack hx (y := (⟨"com/example/narada/narada/store/QueueKey", "equals", "(Ljava/lang/Object;)Z"⟩ : MethodName)) (z := (⟨"com/example/narada/narada/store/QueueKey", "equals", "(Ljava/lang/Object;)Z"⟩ : MethodName)) hown (mvT hZ (hw _ (List.mem_of_getElem? (i := 41) rfl))) (mvT hZ (hw _ (List.mem_of_getElem? (i := 42) rfl))) (notFace_of_selects (args := #[]) (mvT hZ (hw _ (List.mem_of_getElem? (i := 44) rfl)))) (mvT hZ (hw _ (List.mem_of_getElem? (i := 44) rfl))) (mvT hZ (hw _ (List.mem_of_getElem? (i := 43) rfl))) (by decide) (backOf (W := 0) (rm8q l Z a0 hw hS [] b687 b680 b665 b477 jd p2 t672 kt672 ([b0c] : List Int32) t480 kt480 ([a0c] : List Int32) T736.heap n0 O736 fx759 fx751 fx752 fx753 fx754 fx760 fx761 fx755 fx756 hp676 (Nat.le_of_ble_eq_true rfl) fx762 fx763 fx757 fx758 hp484 (Nat.le_of_ble_eq_true rfl)) hZ (hw _ (List.mem_of_getElem? (i := 45) rfl)) (hw _ (List.mem_of_getElem? (i := 32) rfl)) (by decide) (by decide)) q750a q750c (g := (mkF m 372 #[oI p0, oI p1, oI p2, oI p3, oI p4, oI sc, oI sa, oI sb, oI si, oI (0 : Int32), oI a0c, oI a1c, oI u, oI b0c, oI b1c, oI jd, oR b477, oR b665, oR b680, oR b687, oI (1 : Int32), oI (0 : Int32)] [(.ref b680), (.ref b687)])) rfl (by rw [hml]; rfl) (Steps.refl _) (argsL := [(.ref b680)]) (rest := []) (lenOf pd_0 rfl) rfl (by show 2 * 0 + _ ≤ _; exact Nat.le_of_eq rfl) (hb hby at_372) (fun _ _ => ⟨rfl, rfl, (by decide : 8 + 0 ≤ _), (by decide : 16 + 0 ≤ _)⟩)
                dsimp only [Pt.U, Pt.locs, Pt.cells, Pt.slots] at X750 l750 y750 z750 st750 hQ750
                subst l750 y750 z750
                obtain ⟨v750, N750q, K750q⟩ := hQ750
                subst v750
                have N750 := Fr.app N736 N750q
                have O750 := O736.keep K750q all0
                have Kc750 := Kc736.trans K750q all0
                have pre764 : ∀ t, oP p e below T750 (mkF m 377 #[oI p0, oI p1, oI p2, oI p3, oI p4, oI sc, oI sa, oI sb, oI si, oI (0 : Int32), oI a0c, oI a1c, oI u, oI b0c, oI b1c, oI jd, oR b477, oR b665, oR b680, oR b687, oI (1 : Int32), oI (0 : Int32)] [(.int (0 : Int32)), (.int (fn8q Z b687 b680 b665 b477 jd p2 t672 kt672 ([b0c] : List Int32) t480 kt480 ([a0c] : List Int32)))]) t → oP p e below s₁ (entryFrame m #[(.int p0), (.int p1), (.int p2), (.int p3), (.int p4)] maxLocals) t := fun t k => pre747 t (by
                  show oP p e below T736 (mkF m 365 #[oI p0, oI p1, oI p2, oI p3, oI p4, oI sc, oI sa, oI sb, oI si, oI (0 : Int32), oI a0c, oI a1c, oI u, oI b0c, oI b1c, oI jd, oR b477, oR b665, oR b680, oR b687, oI (1 : Int32), oI (0 : Int32)] [(.int (0 : Int32)), (.int (fn8q Z b680 b687 b477 b665 p2 jd t480 kt480 ([a0c] : List Int32) t672 kt672 ([b0c] : List Int32)))]) _
                  refine XS.icmpNo X736.here hx rfl (hb hby at_365) rfl (teq hc748).2 ?_
                  show oP p e below T736 (mkF m 368 #[oI p0, oI p1, oI p2, oI p3, oI p4, oI sc, oI sa, oI sb, oI si, oI (0 : Int32), oI a0c, oI a1c, oI u, oI b0c, oI b1c, oI jd, oR b477, oR b665, oR b680, oR b687, oI (1 : Int32), oI (0 : Int32)] []) _
                  refine XS.aload X736.here hx rfl (hb hby at_368) rfl rfl ?_
                  show oP p e below T736 (mkF m 370 #[oI p0, oI p1, oI p2, oI p3, oI p4, oI sc, oI sa, oI sb, oI si, oI (0 : Int32), oI a0c, oI a1c, oI u, oI b0c, oI b1c, oI jd, oR b477, oR b665, oR b680, oR b687, oI (1 : Int32), oI (0 : Int32)] [(.ref b687)]) _
                  refine XS.aload X736.here hx rfl (hb hby at_370) rfl rfl ?_
                  show oP p e below T736 (mkF m 372 #[oI p0, oI p1, oI p2, oI p3, oI p4, oI sc, oI sa, oI sb, oI si, oI (0 : Int32), oI a0c, oI a1c, oI u, oI b0c, oI b1c, oI jd, oR b477, oR b665, oR b680, oR b687, oI (1 : Int32), oI (0 : Int32)] [(.ref b680), (.ref b687)]) _
                  refine st750.trans ?_
                  show oP p e below T750 (mkF m 375 #[oI p0, oI p1, oI p2, oI p3, oI p4, oI sc, oI sa, oI sb, oI si, oI (0 : Int32), oI a0c, oI a1c, oI u, oI b0c, oI b1c, oI jd, oR b477, oR b665, oR b680, oR b687, oI (1 : Int32), oI (0 : Int32)] [(.int (fn8q Z b687 b680 b665 b477 jd p2 t672 kt672 ([b0c] : List Int32) t480 kt480 ([a0c] : List Int32)))]) _
                  refine XS.iload X750.here hx rfl (hb hby at_375) rfl ?_
                  exact k)
                by_cases hc765 : (fn8q Z b687 b680 b665 b477 jd p2 t672 kt672 ([b0c] : List Int32) t480 kt480 ([a0c] : List Int32)) = (0 : Int32)
                · obtain ⟨fs, hr, hrun, hended, hW, hsame⟩ := X750.leave (v := some (.int (1 : Int32))) (fun h => by rw [Bd.returns] at h; cases h)
                  refine ⟨_, _, pre764 _ ?_, hrun, hended, _, _, rfl, ?_, ⟨_, rfl⟩, hW, hsame.mono (by decide) (by decide)⟩
                  · show oP p e below T750 (mkF m 377 #[oI p0, oI p1, oI p2, oI p3, oI p4, oI sc, oI sa, oI sb, oI si, oI (0 : Int32), oI a0c, oI a1c, oI u, oI b0c, oI b1c, oI jd, oR b477, oR b665, oR b680, oR b687, oI (1 : Int32), oI (0 : Int32)] [(.int (0 : Int32)), (.int (fn8q Z b687 b680 b665 b477 jd p2 t672 kt672 ([b0c] : List Int32) t480 kt480 ([a0c] : List Int32)))]) _
                    refine XS.icmpNo X750.here hx rfl (hb hby at_377) rfl (teq hc765).2 ?_
                    show oP p e below T750 (mkF m 380 #[oI p0, oI p1, oI p2, oI p3, oI p4, oI sc, oI sa, oI sb, oI si, oI (0 : Int32), oI a0c, oI a1c, oI u, oI b0c, oI b1c, oI jd, oR b477, oR b665, oR b680, oR b687, oI (1 : Int32), oI (0 : Int32)] []) _
                    refine XS.iconst X750.here hx rfl (hb hby at_380) ?_
                    show oP p e below T750 (mkF m 381 #[oI p0, oI p1, oI p2, oI p3, oI p4, oI sc, oI sa, oI sb, oI si, oI (0 : Int32), oI a0c, oI a1c, oI u, oI b0c, oI b1c, oI jd, oR b477, oR b665, oR b680, oR b687, oI (1 : Int32), oI (0 : Int32)] [(.int (1 : Int32))]) _
                    refine XS.goto X750.here hx rfl (pc0 := 381) (pc' := 385) rfl (hb hby at_381) (by decide) (by decide) ?_
                    show oP p e below T750 (mkF m 385 #[oI p0, oI p1, oI p2, oI p3, oI p4, oI sc, oI sa, oI sb, oI si, oI (0 : Int32), oI a0c, oI a1c, oI u, oI b0c, oI b1c, oI jd, oR b477, oR b665, oR b680, oR b687, oI (1 : Int32), oI (0 : Int32)] [(.int (1 : Int32))]) _
                    exact retN X750 hx (t := .boolean) Bd.returns (by simp) (hb hby at_385) hr
                  · show (some (.int (1 : Int32)) : Option Value) = some (.int (1 : Int32)) ∧ Fr n0 _ ∧ Keep h0 T750.heap []
                    exact ⟨rfl, N750, Kc750⟩
                · exfalso
                  exact ab766 hS p2 sa sb a0c b0c jd rsa rsb hc40 hc486 hc697 hc699 hc701 hc748 hc765
              · exfalso
                exact ab767 hS p2 sa sb a0c b0c jd rsa rsb hc40 hc486 hc697 hc699 hc701 hc748
          · have fx768 := ((po685_0.ext E687).keep K695q)
            have fx770 := ((po685_1.ext E687).keep K695q (ninS ne_b680_b687 nin0))
            have fx771 := ((po685_2.ext E687).keep K695q (ninS ne_b680_b687 nin0))
            have fx772 := ((((((((pV480.ext E665).ext E667).other W671 (Or.inl ne_b477_b667)).keep K672q (ninS ne_b477_b665 nin0)).ext E680).keep K685q (ninS ne_b477_b680 nin0)).ext E687).keep K695q (ninS ne_b477_b687 nin0))
            have fx773 := ((fx690.ext E687).keep K695q (ninS ne_t480_b687 nin0))
            have fx774 := ((((pV672.ext E680).keep K685q (ninS ne_b665_b680 nin0)).ext E687).keep K695q (ninS ne_b665_b687 nin0))
            have fx775 := ((fx693.ext E687).keep K695q (ninS ne_t672_b687 nin0))
            have fx776 := ((fx688.ext E687).keep K695q)
            have fx777 := ((((((((pC480.ext E665).ext E667).other W671 (Or.inl ne_b477_b667)).keep K672q (ninS ne_b477_b665 nin0)).ext E680).keep K685q (ninS ne_b477_b680 nin0)).ext E687).keep K695q (ninS ne_b477_b687 nin0))
            have fx778 := ((fx691.ext E687).keep K695q)
            have fx779 := ((((pC672.ext E680).keep K685q (ninS ne_b665_b680 nin0)).ext E687).keep K695q (ninS ne_b665_b687 nin0))
            obtain ⟨cq769, kq769, q769a, q769b, q769c⟩ := isOf hZ rfl fx768
            obtain ⟨_, _, ⟨T769, L769, k769, n769⟩, -, X769, ⟨Lc769, hQ769, l769, y769, z769⟩, st769⟩ := X695.virtualBack hx (y := (⟨"com/example/narada/narada/store/QueueKey", "equals", "(Ljava/lang/Object;)Z"⟩ : MethodName)) (z := (⟨"com/example/narada/narada/store/QueueKey", "equals", "(Ljava/lang/Object;)Z"⟩ : MethodName)) hown (mvT hZ (hw _ (List.mem_of_getElem? (i := 41) rfl))) (mvT hZ (hw _ (List.mem_of_getElem? (i := 42) rfl))) (notFace_of_selects (args := #[]) (mvT hZ (hw _ (List.mem_of_getElem? (i := 44) rfl)))) (mvT hZ (hw _ (List.mem_of_getElem? (i := 44) rfl))) (mvT hZ (hw _ (List.mem_of_getElem? (i := 43) rfl))) (by decide) (backOf (W := 0) (rm8q l Z a0 hw hS [] b680 b687 b477 b665 p2 jd t480 kt480 ([a0c] : List Int32) t672 kt672 ([b0c] : List Int32) T695.heap n0 O695 po695_0 fx770 po695_1 fx771 po695_2 fx776 fx777 fx772 fx773 hp484 (Nat.le_of_ble_eq_true rfl) fx778 fx779 fx774 fx775 hp676 (Nat.le_of_ble_eq_true rfl)) hZ (hw _ (List.mem_of_getElem? (i := 45) rfl)) (hw _ (List.mem_of_getElem? (i := 32) rfl)) (by decide) (by decide)) q769a q769c (g := (mkF m 360 #[oI p0, oI p1, oI p2, oI p3, oI p4, oI sc, oI sa, oI sb, oI si, oI (0 : Int32), oI a0c, oI a1c, oI u, oI b0c, oI b1c, oI jd, oR b477, oR b665, oR b680, oR b687, oI (0 : Int32), oI (0 : Int32)] [(.ref b687), (.ref b680)])) rfl (by rw [hml]; rfl) (Steps.refl _) (argsL := [(.ref b687)]) (rest := []) (lenOf pd_0 rfl) rfl (by show 2 * 0 + _ ≤ _; exact Nat.le_of_eq rfl) (hb hby at_360) (fun _ _ => ⟨rfl, rfl, (by decide : 8 + 0 ≤ _), (by decide : 16 + 0 ≤ _)⟩)
            dsimp only [Pt.U, Pt.locs, Pt.cells, Pt.slots] at X769 l769 y769 z769 st769 hQ769
            subst l769 y769 z769
            obtain ⟨v769, N769q, K769q⟩ := hQ769
            subst v769
            have N769 := Fr.app N695 N769q
            have O769 := O695.keep K769q all0
            have Kc769 := Kc695.trans K769q all0
            have pre780 : ∀ t, oP p e below T769 (mkF m 365 #[oI p0, oI p1, oI p2, oI p3, oI p4, oI sc, oI sa, oI sb, oI si, oI (0 : Int32), oI a0c, oI a1c, oI u, oI b0c, oI b1c, oI jd, oR b477, oR b665, oR b680, oR b687, oI (0 : Int32), oI (0 : Int32)] [(.int (0 : Int32)), (.int (fn8q Z b680 b687 b477 b665 p2 jd t480 kt480 ([a0c] : List Int32) t672 kt672 ([b0c] : List Int32)))]) t → oP p e below s₁ (entryFrame m #[(.int p0), (.int p1), (.int p2), (.int p3), (.int p4)] maxLocals) t := fun t k => pre698 t (by
              show oP p e below T695 (mkF m 316 #[oI p0, oI p1, oI p2, oI p3, oI p4, oI sc, oI sa, oI sb, oI si, oI (0 : Int32), oI a0c, oI a1c, oI u, oI b0c, oI b1c, oI jd, oR b477, oR b665, oR b680, oR b687, oU, oU] [(.int b0c), (.int a0c)]) _
              refine XS.icmpYes X695.here hx rfl (pc0 := 316) (pc' := 335) rfl (hb hby at_316) rfl (feq hc699).2 (by decide) (by decide) ?_
              show oP p e below T695 (mkF m 335 #[oI p0, oI p1, oI p2, oI p3, oI p4, oI sc, oI sa, oI sb, oI si, oI (0 : Int32), oI a0c, oI a1c, oI u, oI b0c, oI b1c, oI jd, oR b477, oR b665, oR b680, oR b687, oU, oU] []) _
              refine XS.iconst X695.here hx rfl (hb hby at_335) ?_
              show oP p e below T695 (mkF m 336 #[oI p0, oI p1, oI p2, oI p3, oI p4, oI sc, oI sa, oI sb, oI si, oI (0 : Int32), oI a0c, oI a1c, oI u, oI b0c, oI b1c, oI jd, oR b477, oR b665, oR b680, oR b687, oU, oU] [(.int (0 : Int32))]) _
              refine XS.istore X695.here hx rfl (hb hby at_336) rfl (l' := #[oI p0, oI p1, oI p2, oI p3, oI p4, oI sc, oI sa, oI sb, oI si, oI (0 : Int32), oI a0c, oI a1c, oI u, oI b0c, oI b1c, oI jd, oR b477, oR b665, oR b680, oR b687, oI (0 : Int32), oU]) rfl ?_
              show oP p e below T695 (mkF m 338 #[oI p0, oI p1, oI p2, oI p3, oI p4, oI sc, oI sa, oI sb, oI si, oI (0 : Int32), oI a0c, oI a1c, oI u, oI b0c, oI b1c, oI jd, oR b477, oR b665, oR b680, oR b687, oI (0 : Int32), oU] []) _
              refine XS.iload X695.here hx rfl (hb hby at_338) rfl ?_
              show oP p e below T695 (mkF m 340 #[oI p0, oI p1, oI p2, oI p3, oI p4, oI sc, oI sa, oI sb, oI si, oI (0 : Int32), oI a0c, oI a1c, oI u, oI b0c, oI b1c, oI jd, oR b477, oR b665, oR b680, oR b687, oI (0 : Int32), oU] [(.int (0 : Int32))]) _
              refine XS.ifYes X695.here hx rfl (pc0 := 340) (pc' := 353) rfl (hb hby at_340) rfl ((if0 _ _).trans (teq (by decide : (0 : Int32) = (0 : Int32))).1) (by decide) (by decide) ?_
              show oP p e below T695 (mkF m 353 #[oI p0, oI p1, oI p2, oI p3, oI p4, oI sc, oI sa, oI sb, oI si, oI (0 : Int32), oI a0c, oI a1c, oI u, oI b0c, oI b1c, oI jd, oR b477, oR b665, oR b680, oR b687, oI (0 : Int32), oU] []) _
              refine XS.iconst X695.here hx rfl (hb hby at_353) ?_
              show oP p e below T695 (mkF m 354 #[oI p0, oI p1, oI p2, oI p3, oI p4, oI sc, oI sa, oI sb, oI si, oI (0 : Int32), oI a0c, oI a1c, oI u, oI b0c, oI b1c, oI jd, oR b477, oR b665, oR b680, oR b687, oI (0 : Int32), oU] [(.int (0 : Int32))]) _
              refine XS.istore X695.here hx rfl (hb hby at_354) rfl (l' := #[oI p0, oI p1, oI p2, oI p3, oI p4, oI sc, oI sa, oI sb, oI si, oI (0 : Int32), oI a0c, oI a1c, oI u, oI b0c, oI b1c, oI jd, oR b477, oR b665, oR b680, oR b687, oI (0 : Int32), oI (0 : Int32)]) rfl ?_
              show oP p e below T695 (mkF m 356 #[oI p0, oI p1, oI p2, oI p3, oI p4, oI sc, oI sa, oI sb, oI si, oI (0 : Int32), oI a0c, oI a1c, oI u, oI b0c, oI b1c, oI jd, oR b477, oR b665, oR b680, oR b687, oI (0 : Int32), oI (0 : Int32)] []) _
              refine XS.aload X695.here hx rfl (hb hby at_356) rfl rfl ?_
              show oP p e below T695 (mkF m 358 #[oI p0, oI p1, oI p2, oI p3, oI p4, oI sc, oI sa, oI sb, oI si, oI (0 : Int32), oI a0c, oI a1c, oI u, oI b0c, oI b1c, oI jd, oR b477, oR b665, oR b680, oR b687, oI (0 : Int32), oI (0 : Int32)] [(.ref b680)]) _
              refine XS.aload X695.here hx rfl (hb hby at_358) rfl rfl ?_
              show oP p e below T695 (mkF m 360 #[oI p0, oI p1, oI p2, oI p3, oI p4, oI sc, oI sa, oI sb, oI si, oI (0 : Int32), oI a0c, oI a1c, oI u, oI b0c, oI b1c, oI jd, oR b477, oR b665, oR b680, oR b687, oI (0 : Int32), oI (0 : Int32)] [(.ref b687), (.ref b680)]) _
              refine st769.trans ?_
              show oP p e below T769 (mkF m 363 #[oI p0, oI p1, oI p2, oI p3, oI p4, oI sc, oI sa, oI sb, oI si, oI (0 : Int32), oI a0c, oI a1c, oI u, oI b0c, oI b1c, oI jd, oR b477, oR b665, oR b680, oR b687, oI (0 : Int32), oI (0 : Int32)] [(.int (fn8q Z b680 b687 b477 b665 p2 jd t480 kt480 ([a0c] : List Int32) t672 kt672 ([b0c] : List Int32)))]) _
              refine XS.iload X769.here hx rfl (hb hby at_363) rfl ?_
              exact k)
            by_cases hc781 : (fn8q Z b680 b687 b477 b665 p2 jd t480 kt480 ([a0c] : List Int32) t672 kt672 ([b0c] : List Int32)) = (0 : Int32)
            · have fx782 := (po695_0.keep K769q)
              have fx784 := (po695_1.keep K769q nin0)
              have fx785 := (fx770.keep K769q nin0)
              have fx786 := (po695_2.keep K769q nin0)
              have fx787 := (fx771.keep K769q nin0)
              have fx788 := (fx774.keep K769q nin0)
              have fx789 := (fx775.keep K769q nin0)
              have fx790 := (fx772.keep K769q nin0)
              have fx791 := (fx773.keep K769q nin0)
              have fx792 := (fx768.keep K769q)
              have fx793 := (fx778.keep K769q)
              have fx794 := (fx779.keep K769q nin0)
              have fx795 := (fx776.keep K769q)
              have fx796 := (fx777.keep K769q nin0)
              obtain ⟨cq783, kq783, q783a, q783b, q783c⟩ := isOf hZ rfl fx782
              obtain ⟨_, _, ⟨T783, L783, k783, n783⟩, -, X783, ⟨Lc783, hQ783, l783, y783, z783⟩, st783⟩ := X769.virtualBack hx (y := (⟨"com/example/narada/narada/store/QueueKey", "equals", "(Ljava/lang/Object;)Z"⟩ : MethodName)) (z := (⟨"com/example/narada/narada/store/QueueKey", "equals", "(Ljava/lang/Object;)Z"⟩ : MethodName)) hown (mvT hZ (hw _ (List.mem_of_getElem? (i := 41) rfl))) (mvT hZ (hw _ (List.mem_of_getElem? (i := 42) rfl))) (notFace_of_selects (args := #[]) (mvT hZ (hw _ (List.mem_of_getElem? (i := 44) rfl)))) (mvT hZ (hw _ (List.mem_of_getElem? (i := 44) rfl))) (mvT hZ (hw _ (List.mem_of_getElem? (i := 43) rfl))) (by decide) (backOf (W := 0) (rm8q l Z a0 hw hS [] b687 b680 b665 b477 jd p2 t672 kt672 ([b0c] : List Int32) t480 kt480 ([a0c] : List Int32) T769.heap n0 O769 fx792 fx784 fx785 fx786 fx787 fx793 fx794 fx788 fx789 hp676 (Nat.le_of_ble_eq_true rfl) fx795 fx796 fx790 fx791 hp484 (Nat.le_of_ble_eq_true rfl)) hZ (hw _ (List.mem_of_getElem? (i := 45) rfl)) (hw _ (List.mem_of_getElem? (i := 32) rfl)) (by decide) (by decide)) q783a q783c (g := (mkF m 372 #[oI p0, oI p1, oI p2, oI p3, oI p4, oI sc, oI sa, oI sb, oI si, oI (0 : Int32), oI a0c, oI a1c, oI u, oI b0c, oI b1c, oI jd, oR b477, oR b665, oR b680, oR b687, oI (0 : Int32), oI (0 : Int32)] [(.ref b680), (.ref b687)])) rfl (by rw [hml]; rfl) (Steps.refl _) (argsL := [(.ref b680)]) (rest := []) (lenOf pd_0 rfl) rfl (by show 2 * 0 + _ ≤ _; exact Nat.le_of_eq rfl) (hb hby at_372) (fun _ _ => ⟨rfl, rfl, (by decide : 8 + 0 ≤ _), (by decide : 16 + 0 ≤ _)⟩)
              dsimp only [Pt.U, Pt.locs, Pt.cells, Pt.slots] at X783 l783 y783 z783 st783 hQ783
              subst l783 y783 z783
              obtain ⟨v783, N783q, K783q⟩ := hQ783
              subst v783
              have N783 := Fr.app N769 N783q
              have O783 := O769.keep K783q all0
              have Kc783 := Kc769.trans K783q all0
              have pre797 : ∀ t, oP p e below T783 (mkF m 377 #[oI p0, oI p1, oI p2, oI p3, oI p4, oI sc, oI sa, oI sb, oI si, oI (0 : Int32), oI a0c, oI a1c, oI u, oI b0c, oI b1c, oI jd, oR b477, oR b665, oR b680, oR b687, oI (0 : Int32), oI (0 : Int32)] [(.int (0 : Int32)), (.int (fn8q Z b687 b680 b665 b477 jd p2 t672 kt672 ([b0c] : List Int32) t480 kt480 ([a0c] : List Int32)))]) t → oP p e below s₁ (entryFrame m #[(.int p0), (.int p1), (.int p2), (.int p3), (.int p4)] maxLocals) t := fun t k => pre780 t (by
                show oP p e below T769 (mkF m 365 #[oI p0, oI p1, oI p2, oI p3, oI p4, oI sc, oI sa, oI sb, oI si, oI (0 : Int32), oI a0c, oI a1c, oI u, oI b0c, oI b1c, oI jd, oR b477, oR b665, oR b680, oR b687, oI (0 : Int32), oI (0 : Int32)] [(.int (0 : Int32)), (.int (fn8q Z b680 b687 b477 b665 p2 jd t480 kt480 ([a0c] : List Int32) t672 kt672 ([b0c] : List Int32)))]) _
                refine XS.icmpNo X769.here hx rfl (hb hby at_365) rfl (teq hc781).2 ?_
                show oP p e below T769 (mkF m 368 #[oI p0, oI p1, oI p2, oI p3, oI p4, oI sc, oI sa, oI sb, oI si, oI (0 : Int32), oI a0c, oI a1c, oI u, oI b0c, oI b1c, oI jd, oR b477, oR b665, oR b680, oR b687, oI (0 : Int32), oI (0 : Int32)] []) _
                refine XS.aload X769.here hx rfl (hb hby at_368) rfl rfl ?_
                show oP p e below T769 (mkF m 370 #[oI p0, oI p1, oI p2, oI p3, oI p4, oI sc, oI sa, oI sb, oI si, oI (0 : Int32), oI a0c, oI a1c, oI u, oI b0c, oI b1c, oI jd, oR b477, oR b665, oR b680, oR b687, oI (0 : Int32), oI (0 : Int32)] [(.ref b687)]) _
                refine XS.aload X769.here hx rfl (hb hby at_370) rfl rfl ?_
                show oP p e below T769 (mkF m 372 #[oI p0, oI p1, oI p2, oI p3, oI p4, oI sc, oI sa, oI sb, oI si, oI (0 : Int32), oI a0c, oI a1c, oI u, oI b0c, oI b1c, oI jd, oR b477, oR b665, oR b680, oR b687, oI (0 : Int32), oI (0 : Int32)] [(.ref b680), (.ref b687)]) _
                refine st783.trans ?_
                show oP p e below T783 (mkF m 375 #[oI p0, oI p1, oI p2, oI p3, oI p4, oI sc, oI sa, oI sb, oI si, oI (0 : Int32), oI a0c, oI a1c, oI u, oI b0c, oI b1c, oI jd, oR b477, oR b665, oR b680, oR b687, oI (0 : Int32), oI (0 : Int32)] [(.int (fn8q Z b687 b680 b665 b477 jd p2 t672 kt672 ([b0c] : List Int32) t480 kt480 ([a0c] : List Int32)))]) _
                refine XS.iload X783.here hx rfl (hb hby at_375) rfl ?_
                exact k)
              by_cases hc798 : (fn8q Z b687 b680 b665 b477 jd p2 t672 kt672 ([b0c] : List Int32) t480 kt480 ([a0c] : List Int32)) = (0 : Int32)
              · obtain ⟨fs, hr, hrun, hended, hW, hsame⟩ := X783.leave (v := some (.int (1 : Int32))) (fun h => by rw [Bd.returns] at h; cases h)
                refine ⟨_, _, pre797 _ ?_, hrun, hended, _, _, rfl, ?_, ⟨_, rfl⟩, hW, hsame.mono (by decide) (by decide)⟩
                · show oP p e below T783 (mkF m 377 #[oI p0, oI p1, oI p2, oI p3, oI p4, oI sc, oI sa, oI sb, oI si, oI (0 : Int32), oI a0c, oI a1c, oI u, oI b0c, oI b1c, oI jd, oR b477, oR b665, oR b680, oR b687, oI (0 : Int32), oI (0 : Int32)] [(.int (0 : Int32)), (.int (fn8q Z b687 b680 b665 b477 jd p2 t672 kt672 ([b0c] : List Int32) t480 kt480 ([a0c] : List Int32)))]) _
                  refine XS.icmpNo X783.here hx rfl (hb hby at_377) rfl (teq hc798).2 ?_
                  show oP p e below T783 (mkF m 380 #[oI p0, oI p1, oI p2, oI p3, oI p4, oI sc, oI sa, oI sb, oI si, oI (0 : Int32), oI a0c, oI a1c, oI u, oI b0c, oI b1c, oI jd, oR b477, oR b665, oR b680, oR b687, oI (0 : Int32), oI (0 : Int32)] []) _
                  refine XS.iconst X783.here hx rfl (hb hby at_380) ?_
                  show oP p e below T783 (mkF m 381 #[oI p0, oI p1, oI p2, oI p3, oI p4, oI sc, oI sa, oI sb, oI si, oI (0 : Int32), oI a0c, oI a1c, oI u, oI b0c, oI b1c, oI jd, oR b477, oR b665, oR b680, oR b687, oI (0 : Int32), oI (0 : Int32)] [(.int (1 : Int32))]) _
                  refine XS.goto X783.here hx rfl (pc0 := 381) (pc' := 385) rfl (hb hby at_381) (by decide) (by decide) ?_
                  show oP p e below T783 (mkF m 385 #[oI p0, oI p1, oI p2, oI p3, oI p4, oI sc, oI sa, oI sb, oI si, oI (0 : Int32), oI a0c, oI a1c, oI u, oI b0c, oI b1c, oI jd, oR b477, oR b665, oR b680, oR b687, oI (0 : Int32), oI (0 : Int32)] [(.int (1 : Int32))]) _
                  exact retN X783 hx (t := .boolean) Bd.returns (by simp) (hb hby at_385) hr
                · show (some (.int (1 : Int32)) : Option Value) = some (.int (1 : Int32)) ∧ Fr n0 _ ∧ Keep h0 T783.heap []
                  exact ⟨rfl, N783, Kc783⟩
              · exfalso
                exact ab799 hS p2 sa sb a0c b0c jd rsa rsb hc40 hc486 hc697 hc699 hc781 hc798
            · exfalso
              exact ab800 hS p2 sa sb a0c b0c jd rsa rsb hc40 hc486 hc697 hc699 hc781
        · have fx801 := ((po685_0.ext E687).keep K695q)
          have fx803 := ((po685_1.ext E687).keep K695q (ninS ne_b680_b687 nin0))
          have fx804 := ((po685_2.ext E687).keep K695q (ninS ne_b680_b687 nin0))
          have fx805 := ((((((((pV480.ext E665).ext E667).other W671 (Or.inl ne_b477_b667)).keep K672q (ninS ne_b477_b665 nin0)).ext E680).keep K685q (ninS ne_b477_b680 nin0)).ext E687).keep K695q (ninS ne_b477_b687 nin0))
          have fx806 := ((fx690.ext E687).keep K695q (ninS ne_t480_b687 nin0))
          have fx807 := ((((pV672.ext E680).keep K685q (ninS ne_b665_b680 nin0)).ext E687).keep K695q (ninS ne_b665_b687 nin0))
          have fx808 := ((fx693.ext E687).keep K695q (ninS ne_t672_b687 nin0))
          have fx809 := ((fx688.ext E687).keep K695q)
          have fx810 := ((((((((pC480.ext E665).ext E667).other W671 (Or.inl ne_b477_b667)).keep K672q (ninS ne_b477_b665 nin0)).ext E680).keep K685q (ninS ne_b477_b680 nin0)).ext E687).keep K695q (ninS ne_b477_b687 nin0))
          have fx811 := ((fx691.ext E687).keep K695q)
          have fx812 := ((((pC672.ext E680).keep K685q (ninS ne_b665_b680 nin0)).ext E687).keep K695q (ninS ne_b665_b687 nin0))
          obtain ⟨cq802, kq802, q802a, q802b, q802c⟩ := isOf hZ rfl fx801
          obtain ⟨_, _, ⟨T802, L802, k802, n802⟩, -, X802, ⟨Lc802, hQ802, l802, y802, z802⟩, st802⟩ := X695.virtualBack hx (y := (⟨"com/example/narada/narada/store/QueueKey", "equals", "(Ljava/lang/Object;)Z"⟩ : MethodName)) (z := (⟨"com/example/narada/narada/store/QueueKey", "equals", "(Ljava/lang/Object;)Z"⟩ : MethodName)) hown (mvT hZ (hw _ (List.mem_of_getElem? (i := 41) rfl))) (mvT hZ (hw _ (List.mem_of_getElem? (i := 42) rfl))) (notFace_of_selects (args := #[]) (mvT hZ (hw _ (List.mem_of_getElem? (i := 44) rfl)))) (mvT hZ (hw _ (List.mem_of_getElem? (i := 44) rfl))) (mvT hZ (hw _ (List.mem_of_getElem? (i := 43) rfl))) (by decide) (backOf (W := 0) (rm8q l Z a0 hw hS [] b680 b687 b477 b665 p2 jd t480 kt480 ([a0c] : List Int32) t672 kt672 ([b0c] : List Int32) T695.heap n0 O695 po695_0 fx803 po695_1 fx804 po695_2 fx809 fx810 fx805 fx806 hp484 (Nat.le_of_ble_eq_true rfl) fx811 fx812 fx807 fx808 hp676 (Nat.le_of_ble_eq_true rfl)) hZ (hw _ (List.mem_of_getElem? (i := 45) rfl)) (hw _ (List.mem_of_getElem? (i := 32) rfl)) (by decide) (by decide)) q802a q802c (g := (mkF m 360 #[oI p0, oI p1, oI p2, oI p3, oI p4, oI sc, oI sa, oI sb, oI si, oI (0 : Int32), oI a0c, oI a1c, oI u, oI b0c, oI b1c, oI jd, oR b477, oR b665, oR b680, oR b687, oI (0 : Int32), oI (0 : Int32)] [(.ref b687), (.ref b680)])) rfl (by rw [hml]; rfl) (Steps.refl _) (argsL := [(.ref b687)]) (rest := []) (lenOf pd_0 rfl) rfl (by show 2 * 0 + _ ≤ _; exact Nat.le_of_eq rfl) (hb hby at_360) (fun _ _ => ⟨rfl, rfl, (by decide : 8 + 0 ≤ _), (by decide : 16 + 0 ≤ _)⟩)
          dsimp only [Pt.U, Pt.locs, Pt.cells, Pt.slots] at X802 l802 y802 z802 st802 hQ802
          subst l802 y802 z802
          obtain ⟨v802, N802q, K802q⟩ := hQ802
          subst v802
          have N802 := Fr.app N695 N802q
          have O802 := O695.keep K802q all0
          have Kc802 := Kc695.trans K802q all0
          have pre813 : ∀ t, oP p e below T802 (mkF m 365 #[oI p0, oI p1, oI p2, oI p3, oI p4, oI sc, oI sa, oI sb, oI si, oI (0 : Int32), oI a0c, oI a1c, oI u, oI b0c, oI b1c, oI jd, oR b477, oR b665, oR b680, oR b687, oI (0 : Int32), oI (0 : Int32)] [(.int (0 : Int32)), (.int (fn8q Z b680 b687 b477 b665 p2 jd t480 kt480 ([a0c] : List Int32) t672 kt672 ([b0c] : List Int32)))]) t → oP p e below s₁ (entryFrame m #[(.int p0), (.int p1), (.int p2), (.int p3), (.int p4)] maxLocals) t := fun t k => pre696 t (by
            show oP p e below T695 (mkF m 309 #[oI p0, oI p1, oI p2, oI p3, oI p4, oI sc, oI sa, oI sb, oI si, oI (0 : Int32), oI a0c, oI a1c, oI u, oI b0c, oI b1c, oI jd, oR b477, oR b665, oR b680, oR b687, oU, oU] [(.int sb), (.int sa)]) _
            refine XS.icmpYes X695.here hx rfl (pc0 := 309) (pc' := 335) rfl (hb hby at_309) rfl (feq hc697).2 (by decide) (by decide) ?_
            show oP p e below T695 (mkF m 335 #[oI p0, oI p1, oI p2, oI p3, oI p4, oI sc, oI sa, oI sb, oI si, oI (0 : Int32), oI a0c, oI a1c, oI u, oI b0c, oI b1c, oI jd, oR b477, oR b665, oR b680, oR b687, oU, oU] []) _
            refine XS.iconst X695.here hx rfl (hb hby at_335) ?_
            show oP p e below T695 (mkF m 336 #[oI p0, oI p1, oI p2, oI p3, oI p4, oI sc, oI sa, oI sb, oI si, oI (0 : Int32), oI a0c, oI a1c, oI u, oI b0c, oI b1c, oI jd, oR b477, oR b665, oR b680, oR b687, oU, oU] [(.int (0 : Int32))]) _
            refine XS.istore X695.here hx rfl (hb hby at_336) rfl (l' := #[oI p0, oI p1, oI p2, oI p3, oI p4, oI sc, oI sa, oI sb, oI si, oI (0 : Int32), oI a0c, oI a1c, oI u, oI b0c, oI b1c, oI jd, oR b477, oR b665, oR b680, oR b687, oI (0 : Int32), oU]) rfl ?_
            show oP p e below T695 (mkF m 338 #[oI p0, oI p1, oI p2, oI p3, oI p4, oI sc, oI sa, oI sb, oI si, oI (0 : Int32), oI a0c, oI a1c, oI u, oI b0c, oI b1c, oI jd, oR b477, oR b665, oR b680, oR b687, oI (0 : Int32), oU] []) _
            refine XS.iload X695.here hx rfl (hb hby at_338) rfl ?_
            show oP p e below T695 (mkF m 340 #[oI p0, oI p1, oI p2, oI p3, oI p4, oI sc, oI sa, oI sb, oI si, oI (0 : Int32), oI a0c, oI a1c, oI u, oI b0c, oI b1c, oI jd, oR b477, oR b665, oR b680, oR b687, oI (0 : Int32), oU] [(.int (0 : Int32))]) _
            refine XS.ifYes X695.here hx rfl (pc0 := 340) (pc' := 353) rfl (hb hby at_340) rfl ((if0 _ _).trans (teq (by decide : (0 : Int32) = (0 : Int32))).1) (by decide) (by decide) ?_
            show oP p e below T695 (mkF m 353 #[oI p0, oI p1, oI p2, oI p3, oI p4, oI sc, oI sa, oI sb, oI si, oI (0 : Int32), oI a0c, oI a1c, oI u, oI b0c, oI b1c, oI jd, oR b477, oR b665, oR b680, oR b687, oI (0 : Int32), oU] []) _
            refine XS.iconst X695.here hx rfl (hb hby at_353) ?_
            show oP p e below T695 (mkF m 354 #[oI p0, oI p1, oI p2, oI p3, oI p4, oI sc, oI sa, oI sb, oI si, oI (0 : Int32), oI a0c, oI a1c, oI u, oI b0c, oI b1c, oI jd, oR b477, oR b665, oR b680, oR b687, oI (0 : Int32), oU] [(.int (0 : Int32))]) _
            refine XS.istore X695.here hx rfl (hb hby at_354) rfl (l' := #[oI p0, oI p1, oI p2, oI p3, oI p4, oI sc, oI sa, oI sb, oI si, oI (0 : Int32), oI a0c, oI a1c, oI u, oI b0c, oI b1c, oI jd, oR b477, oR b665, oR b680, oR b687, oI (0 : Int32), oI (0 : Int32)]) rfl ?_
            show oP p e below T695 (mkF m 356 #[oI p0, oI p1, oI p2, oI p3, oI p4, oI sc, oI sa, oI sb, oI si, oI (0 : Int32), oI a0c, oI a1c, oI u, oI b0c, oI b1c, oI jd, oR b477, oR b665, oR b680, oR b687, oI (0 : Int32), oI (0 : Int32)] []) _
            refine XS.aload X695.here hx rfl (hb hby at_356) rfl rfl ?_
            show oP p e below T695 (mkF m 358 #[oI p0, oI p1, oI p2, oI p3, oI p4, oI sc, oI sa, oI sb, oI si, oI (0 : Int32), oI a0c, oI a1c, oI u, oI b0c, oI b1c, oI jd, oR b477, oR b665, oR b680, oR b687, oI (0 : Int32), oI (0 : Int32)] [(.ref b680)]) _
            refine XS.aload X695.here hx rfl (hb hby at_358) rfl rfl ?_
            show oP p e below T695 (mkF m 360 #[oI p0, oI p1, oI p2, oI p3, oI p4, oI sc, oI sa, oI sb, oI si, oI (0 : Int32), oI a0c, oI a1c, oI u, oI b0c, oI b1c, oI jd, oR b477, oR b665, oR b680, oR b687, oI (0 : Int32), oI (0 : Int32)] [(.ref b687), (.ref b680)]) _
            refine st802.trans ?_
            show oP p e below T802 (mkF m 363 #[oI p0, oI p1, oI p2, oI p3, oI p4, oI sc, oI sa, oI sb, oI si, oI (0 : Int32), oI a0c, oI a1c, oI u, oI b0c, oI b1c, oI jd, oR b477, oR b665, oR b680, oR b687, oI (0 : Int32), oI (0 : Int32)] [(.int (fn8q Z b680 b687 b477 b665 p2 jd t480 kt480 ([a0c] : List Int32) t672 kt672 ([b0c] : List Int32)))]) _
            refine XS.iload X802.here hx rfl (hb hby at_363) rfl ?_
            exact k)
          by_cases hc814 : (fn8q Z b680 b687 b477 b665 p2 jd t480 kt480 ([a0c] : List Int32) t672 kt672 ([b0c] : List Int32)) = (0 : Int32)
          · have fx815 := (po695_0.keep K802q)
            have fx817 := (po695_1.keep K802q nin0)
            have fx818 := (fx803.keep K802q nin0)
            have fx819 := (po695_2.keep K802q nin0)
            have fx820 := (fx804.keep K802q nin0)
            have fx821 := (fx807.keep K802q nin0)
            have fx822 := (fx808.keep K802q nin0)
            have fx823 := (fx805.keep K802q nin0)
            have fx824 := (fx806.keep K802q nin0)
            have fx825 := (fx801.keep K802q)
            have fx826 := (fx811.keep K802q)
            have fx827 := (fx812.keep K802q nin0)
            have fx828 := (fx809.keep K802q)
            have fx829 := (fx810.keep K802q nin0)
            obtain ⟨cq816, kq816, q816a, q816b, q816c⟩ := isOf hZ rfl fx815
            obtain ⟨_, _, ⟨T816, L816, k816, n816⟩, -, X816, ⟨Lc816, hQ816, l816, y816, z816⟩, st816⟩ := X802.virtualBack hx (y := (⟨"com/example/narada/narada/store/QueueKey", "equals", "(Ljava/lang/Object;)Z"⟩ : MethodName)) (z := (⟨"com/example/narada/narada/store/QueueKey", "equals", "(Ljava/lang/Object;)Z"⟩ : MethodName)) hown (mvT hZ (hw _ (List.mem_of_getElem? (i := 41) rfl))) (mvT hZ (hw _ (List.mem_of_getElem? (i := 42) rfl))) (notFace_of_selects (args := #[]) (mvT hZ (hw _ (List.mem_of_getElem? (i := 44) rfl)))) (mvT hZ (hw _ (List.mem_of_getElem? (i := 44) rfl))) (mvT hZ (hw _ (List.mem_of_getElem? (i := 43) rfl))) (by decide) (backOf (W := 0) (rm8q l Z a0 hw hS [] b687 b680 b665 b477 jd p2 t672 kt672 ([b0c] : List Int32) t480 kt480 ([a0c] : List Int32) T802.heap n0 O802 fx825 fx817 fx818 fx819 fx820 fx826 fx827 fx821 fx822 hp676 (Nat.le_of_ble_eq_true rfl) fx828 fx829 fx823 fx824 hp484 (Nat.le_of_ble_eq_true rfl)) hZ (hw _ (List.mem_of_getElem? (i := 45) rfl)) (hw _ (List.mem_of_getElem? (i := 32) rfl)) (by decide) (by decide)) q816a q816c (g := (mkF m 372 #[oI p0, oI p1, oI p2, oI p3, oI p4, oI sc, oI sa, oI sb, oI si, oI (0 : Int32), oI a0c, oI a1c, oI u, oI b0c, oI b1c, oI jd, oR b477, oR b665, oR b680, oR b687, oI (0 : Int32), oI (0 : Int32)] [(.ref b680), (.ref b687)])) rfl (by rw [hml]; rfl) (Steps.refl _) (argsL := [(.ref b680)]) (rest := []) (lenOf pd_0 rfl) rfl (by show 2 * 0 + _ ≤ _; exact Nat.le_of_eq rfl) (hb hby at_372) (fun _ _ => ⟨rfl, rfl, (by decide : 8 + 0 ≤ _), (by decide : 16 + 0 ≤ _)⟩)
            dsimp only [Pt.U, Pt.locs, Pt.cells, Pt.slots] at X816 l816 y816 z816 st816 hQ816
            subst l816 y816 z816
            obtain ⟨v816, N816q, K816q⟩ := hQ816
            subst v816
            have N816 := Fr.app N802 N816q
            have O816 := O802.keep K816q all0
            have Kc816 := Kc802.trans K816q all0
            have pre830 : ∀ t, oP p e below T816 (mkF m 377 #[oI p0, oI p1, oI p2, oI p3, oI p4, oI sc, oI sa, oI sb, oI si, oI (0 : Int32), oI a0c, oI a1c, oI u, oI b0c, oI b1c, oI jd, oR b477, oR b665, oR b680, oR b687, oI (0 : Int32), oI (0 : Int32)] [(.int (0 : Int32)), (.int (fn8q Z b687 b680 b665 b477 jd p2 t672 kt672 ([b0c] : List Int32) t480 kt480 ([a0c] : List Int32)))]) t → oP p e below s₁ (entryFrame m #[(.int p0), (.int p1), (.int p2), (.int p3), (.int p4)] maxLocals) t := fun t k => pre813 t (by
              show oP p e below T802 (mkF m 365 #[oI p0, oI p1, oI p2, oI p3, oI p4, oI sc, oI sa, oI sb, oI si, oI (0 : Int32), oI a0c, oI a1c, oI u, oI b0c, oI b1c, oI jd, oR b477, oR b665, oR b680, oR b687, oI (0 : Int32), oI (0 : Int32)] [(.int (0 : Int32)), (.int (fn8q Z b680 b687 b477 b665 p2 jd t480 kt480 ([a0c] : List Int32) t672 kt672 ([b0c] : List Int32)))]) _
              refine XS.icmpNo X802.here hx rfl (hb hby at_365) rfl (teq hc814).2 ?_
              show oP p e below T802 (mkF m 368 #[oI p0, oI p1, oI p2, oI p3, oI p4, oI sc, oI sa, oI sb, oI si, oI (0 : Int32), oI a0c, oI a1c, oI u, oI b0c, oI b1c, oI jd, oR b477, oR b665, oR b680, oR b687, oI (0 : Int32), oI (0 : Int32)] []) _
              refine XS.aload X802.here hx rfl (hb hby at_368) rfl rfl ?_
              show oP p e below T802 (mkF m 370 #[oI p0, oI p1, oI p2, oI p3, oI p4, oI sc, oI sa, oI sb, oI si, oI (0 : Int32), oI a0c, oI a1c, oI u, oI b0c, oI b1c, oI jd, oR b477, oR b665, oR b680, oR b687, oI (0 : Int32), oI (0 : Int32)] [(.ref b687)]) _
              refine XS.aload X802.here hx rfl (hb hby at_370) rfl rfl ?_
              show oP p e below T802 (mkF m 372 #[oI p0, oI p1, oI p2, oI p3, oI p4, oI sc, oI sa, oI sb, oI si, oI (0 : Int32), oI a0c, oI a1c, oI u, oI b0c, oI b1c, oI jd, oR b477, oR b665, oR b680, oR b687, oI (0 : Int32), oI (0 : Int32)] [(.ref b680), (.ref b687)]) _
              refine st816.trans ?_
              show oP p e below T816 (mkF m 375 #[oI p0, oI p1, oI p2, oI p3, oI p4, oI sc, oI sa, oI sb, oI si, oI (0 : Int32), oI a0c, oI a1c, oI u, oI b0c, oI b1c, oI jd, oR b477, oR b665, oR b680, oR b687, oI (0 : Int32), oI (0 : Int32)] [(.int (fn8q Z b687 b680 b665 b477 jd p2 t672 kt672 ([b0c] : List Int32) t480 kt480 ([a0c] : List Int32)))]) _
              refine XS.iload X816.here hx rfl (hb hby at_375) rfl ?_
              exact k)
            by_cases hc831 : (fn8q Z b687 b680 b665 b477 jd p2 t672 kt672 ([b0c] : List Int32) t480 kt480 ([a0c] : List Int32)) = (0 : Int32)
            · obtain ⟨fs, hr, hrun, hended, hW, hsame⟩ := X816.leave (v := some (.int (1 : Int32))) (fun h => by rw [Bd.returns] at h; cases h)
              refine ⟨_, _, pre830 _ ?_, hrun, hended, _, _, rfl, ?_, ⟨_, rfl⟩, hW, hsame.mono (by decide) (by decide)⟩
              · show oP p e below T816 (mkF m 377 #[oI p0, oI p1, oI p2, oI p3, oI p4, oI sc, oI sa, oI sb, oI si, oI (0 : Int32), oI a0c, oI a1c, oI u, oI b0c, oI b1c, oI jd, oR b477, oR b665, oR b680, oR b687, oI (0 : Int32), oI (0 : Int32)] [(.int (0 : Int32)), (.int (fn8q Z b687 b680 b665 b477 jd p2 t672 kt672 ([b0c] : List Int32) t480 kt480 ([a0c] : List Int32)))]) _
                refine XS.icmpNo X816.here hx rfl (hb hby at_377) rfl (teq hc831).2 ?_
                show oP p e below T816 (mkF m 380 #[oI p0, oI p1, oI p2, oI p3, oI p4, oI sc, oI sa, oI sb, oI si, oI (0 : Int32), oI a0c, oI a1c, oI u, oI b0c, oI b1c, oI jd, oR b477, oR b665, oR b680, oR b687, oI (0 : Int32), oI (0 : Int32)] []) _
                refine XS.iconst X816.here hx rfl (hb hby at_380) ?_
                show oP p e below T816 (mkF m 381 #[oI p0, oI p1, oI p2, oI p3, oI p4, oI sc, oI sa, oI sb, oI si, oI (0 : Int32), oI a0c, oI a1c, oI u, oI b0c, oI b1c, oI jd, oR b477, oR b665, oR b680, oR b687, oI (0 : Int32), oI (0 : Int32)] [(.int (1 : Int32))]) _
                refine XS.goto X816.here hx rfl (pc0 := 381) (pc' := 385) rfl (hb hby at_381) (by decide) (by decide) ?_
                show oP p e below T816 (mkF m 385 #[oI p0, oI p1, oI p2, oI p3, oI p4, oI sc, oI sa, oI sb, oI si, oI (0 : Int32), oI a0c, oI a1c, oI u, oI b0c, oI b1c, oI jd, oR b477, oR b665, oR b680, oR b687, oI (0 : Int32), oI (0 : Int32)] [(.int (1 : Int32))]) _
                exact retN X816 hx (t := .boolean) Bd.returns (by simp) (hb hby at_385) hr
              · show (some (.int (1 : Int32)) : Option Value) = some (.int (1 : Int32)) ∧ Fr n0 _ ∧ Keep h0 T816.heap []
                exact ⟨rfl, N816, Kc816⟩
            · exfalso
              exact ab832 hS p2 sa sb a0c b0c jd rsa rsb hc40 hc486 hc697 hc814 hc831
          · exfalso
            exact ab833 hS p2 sa sb a0c b0c jd rsa rsb hc40 hc486 hc697 hc814
      · obtain ⟨lo834, X834, N834⟩ := own_hide X685 N685
        obtain ⟨cq835, kq835, q835a, q835b, q835c⟩ := isOf hZ rfl po685_0
        obtain ⟨_, _, ⟨T835, L835, k835, n835⟩, -, X835, ⟨Lc835, hQ835, l835, y835, z835⟩, st835⟩ := X834.virtualBack hx (y := (⟨"com/example/narada/narada/store/QueueKey", "equals", "(Ljava/lang/Object;)Z"⟩ : MethodName)) (z := (⟨"com/example/narada/narada/store/QueueKey", "equals", "(Ljava/lang/Object;)Z"⟩ : MethodName)) hown (mvT hZ (hw _ (List.mem_of_getElem? (i := 41) rfl))) (mvT hZ (hw _ (List.mem_of_getElem? (i := 42) rfl))) (notFace_of_selects (args := #[]) (mvT hZ (hw _ (List.mem_of_getElem? (i := 44) rfl)))) (mvT hZ (hw _ (List.mem_of_getElem? (i := 44) rfl))) (mvT hZ (hw _ (List.mem_of_getElem? (i := 43) rfl))) (by decide) (backOf (W := 0) (rm8n l Z a0 hw hS [] b680 T685.heap n0 O685 ) hZ (hw _ (List.mem_of_getElem? (i := 45) rfl)) (hw _ (List.mem_of_getElem? (i := 32) rfl)) (by decide) (by decide)) q835a q835c (g := (mkF m 240 #[oI p0, oI p1, oI p2, oI p3, oI p4, oI sc, oI sa, oI sb, oI si, oI (1 : Int32), oI a0c, oI a1c, oI u, oI b0c, oI b1c, oI jd, oR b477, oR b665, oR b680, oU, oU, oU] [.null, (.ref b680)])) rfl (by rw [hml]; rfl) (Steps.refl _) (argsL := [.null]) (rest := []) (lenOf pd_0 rfl) rfl (by show 2 * 0 + _ ≤ _; exact Nat.le_of_eq rfl) (hb hby at_240) (fun _ _ => ⟨rfl, rfl, (by decide : 7 + 0 ≤ _), (by decide : 14 + 0 ≤ _)⟩)
        dsimp only [Pt.U, Pt.locs, Pt.cells, Pt.slots] at X835 l835 y835 z835 st835 hQ835
        subst l835 y835 z835
        obtain ⟨v835, N835q, K835q⟩ := hQ835
        have w835 : (fn8n Z b680) = (0 : Int32) := rfl
        rw [w835] at v835
        subst v835
        have N835 := Fr.app N834 N835q
        have O835 := O685.keep K835q all0
        have Kc835 := Kc685.trans K835q all0
        obtain ⟨fs, hr, hrun, hended, hW, hsame⟩ := X835.leave (v := some (.int (1 : Int32))) (fun h => by rw [Bd.returns] at h; cases h)
        refine ⟨_, _, pre686 _ ?_, hrun, hended, _, _, rfl, ?_, ⟨_, rfl⟩, hW, hsame.mono (by decide) (by decide)⟩
        · show oP p e below T685 (mkF m 231 #[oI p0, oI p1, oI p2, oI p3, oI p4, oI sc, oI sa, oI sb, oI si, oI (1 : Int32), oI a0c, oI a1c, oI u, oI b0c, oI b1c, oI jd, oR b477, oR b665, oR b680, oU, oU, oU] []) _
          refine XS.iload X685.here hx rfl (hb hby at_231) rfl ?_
          show oP p e below T685 (mkF m 233 #[oI p0, oI p1, oI p2, oI p3, oI p4, oI sc, oI sa, oI sb, oI si, oI (1 : Int32), oI a0c, oI a1c, oI u, oI b0c, oI b1c, oI jd, oR b477, oR b665, oR b680, oU, oU, oU] [(.int (1 : Int32))]) _
          refine XS.iconst X685.here hx rfl (hb hby at_233) ?_
          show oP p e below T685 (mkF m 234 #[oI p0, oI p1, oI p2, oI p3, oI p4, oI sc, oI sa, oI sb, oI si, oI (1 : Int32), oI a0c, oI a1c, oI u, oI b0c, oI b1c, oI jd, oR b477, oR b665, oR b680, oU, oU, oU] [(.int (1 : Int32)), (.int (1 : Int32))]) _
          refine XS.icmpNo X685.here hx rfl (hb hby at_234) rfl (teq (by decide : (1 : Int32) = (1 : Int32))).2 ?_
          show oP p e below T685 (mkF m 237 #[oI p0, oI p1, oI p2, oI p3, oI p4, oI sc, oI sa, oI sb, oI si, oI (1 : Int32), oI a0c, oI a1c, oI u, oI b0c, oI b1c, oI jd, oR b477, oR b665, oR b680, oU, oU, oU] []) _
          refine XS.aload X685.here hx rfl (hb hby at_237) rfl rfl ?_
          show oP p e below T685 (mkF m 239 #[oI p0, oI p1, oI p2, oI p3, oI p4, oI sc, oI sa, oI sb, oI si, oI (1 : Int32), oI a0c, oI a1c, oI u, oI b0c, oI b1c, oI jd, oR b477, oR b665, oR b680, oU, oU, oU] [(.ref b680)]) _
          refine XS.aconstNull X685.here hx rfl (hb hby at_239) ?_
          show oP p e below T685 (mkF m 240 #[oI p0, oI p1, oI p2, oI p3, oI p4, oI sc, oI sa, oI sb, oI si, oI (1 : Int32), oI a0c, oI a1c, oI u, oI b0c, oI b1c, oI jd, oR b477, oR b665, oR b680, oU, oU, oU] [.null, (.ref b680)]) _
          refine st835.trans ?_
          show oP p e below T835 (mkF m 243 #[oI p0, oI p1, oI p2, oI p3, oI p4, oI sc, oI sa, oI sb, oI si, oI (1 : Int32), oI a0c, oI a1c, oI u, oI b0c, oI b1c, oI jd, oR b477, oR b665, oR b680, oU, oU, oU] [(.int (0 : Int32))]) _
          refine XS.ifNo X835.here hx rfl (hb hby at_243) rfl ((if0 _ _).trans (teq (by decide : (0 : Int32) = (0 : Int32))).2) ?_
          show oP p e below T835 (mkF m 246 #[oI p0, oI p1, oI p2, oI p3, oI p4, oI sc, oI sa, oI sb, oI si, oI (1 : Int32), oI a0c, oI a1c, oI u, oI b0c, oI b1c, oI jd, oR b477, oR b665, oR b680, oU, oU, oU] []) _
          refine XS.iconst X835.here hx rfl (hb hby at_246) ?_
          show oP p e below T835 (mkF m 247 #[oI p0, oI p1, oI p2, oI p3, oI p4, oI sc, oI sa, oI sb, oI si, oI (1 : Int32), oI a0c, oI a1c, oI u, oI b0c, oI b1c, oI jd, oR b477, oR b665, oR b680, oU, oU, oU] [(.int (1 : Int32))]) _
          refine XS.goto X835.here hx rfl (pc0 := 247) (pc' := 251) rfl (hb hby at_247) (by decide) (by decide) ?_
          show oP p e below T835 (mkF m 251 #[oI p0, oI p1, oI p2, oI p3, oI p4, oI sc, oI sa, oI sb, oI si, oI (1 : Int32), oI a0c, oI a1c, oI u, oI b0c, oI b1c, oI jd, oR b477, oR b665, oR b680, oU, oU, oU] [(.int (1 : Int32))]) _
          exact retN X835 hx (t := .boolean) Bd.returns (by simp) (hb hby at_251) hr
        · show (some (.int (1 : Int32)) : Option Value) = some (.int (1 : Int32)) ∧ Fr n0 _ ∧ Keep h0 T835.heap []
          exact ⟨rfl, N835, Kc835⟩
      · obtain ⟨lo836, X836, N836⟩ := own_hide X685 N685
        have fx838 := ((fx681.ext E680).keep K685q)
        obtain ⟨cq837, kq837, q837a, q837b, q837c⟩ := isOf hZ rfl po685_0
        obtain ⟨_, _, ⟨T837, L837, k837, n837⟩, -, X837, ⟨Lc837, hQ837, l837, y837, z837⟩, st837⟩ := X836.virtualBack hx (y := (⟨"com/example/narada/narada/store/QueueKey", "equals", "(Ljava/lang/Object;)Z"⟩ : MethodName)) (z := (⟨"com/example/narada/narada/store/QueueKey", "equals", "(Ljava/lang/Object;)Z"⟩ : MethodName)) hown (mvT hZ (hw _ (List.mem_of_getElem? (i := 41) rfl))) (mvT hZ (hw _ (List.mem_of_getElem? (i := 42) rfl))) (notFace_of_selects (args := #[]) (mvT hZ (hw _ (List.mem_of_getElem? (i := 44) rfl)))) (mvT hZ (hw _ (List.mem_of_getElem? (i := 44) rfl))) (mvT hZ (hw _ (List.mem_of_getElem? (i := 43) rfl))) (by decide) (backOf (W := 0) (rm8s l Z a0 hw hS [] b680 b477 T685.heap n0 O685 fx838) hZ (hw _ (List.mem_of_getElem? (i := 45) rfl)) (hw _ (List.mem_of_getElem? (i := 32) rfl)) (by decide) (by decide)) q837a q837c (g := (mkF m 266 #[oI p0, oI p1, oI p2, oI p3, oI p4, oI sc, oI sa, oI sb, oI si, oI (2 : Int32), oI a0c, oI a1c, oI u, oI b0c, oI b1c, oI jd, oR b477, oR b665, oR b680, oR b477, oU, oU] [(.ref b477), (.ref b680)])) rfl (by rw [hml]; rfl) (Steps.refl _) (argsL := [(.ref b477)]) (rest := []) (lenOf pd_0 rfl) rfl (by show 2 * 0 + _ ≤ _; exact Nat.le_of_eq rfl) (hb hby at_266) (fun _ _ => ⟨rfl, rfl, (by decide : 7 + 0 ≤ _), (by decide : 14 + 0 ≤ _)⟩)
        dsimp only [Pt.U, Pt.locs, Pt.cells, Pt.slots] at X837 l837 y837 z837 st837 hQ837
        subst l837 y837 z837
        obtain ⟨v837, N837q, K837q⟩ := hQ837
        have w837 : (fn8s Z b680 b477) = (0 : Int32) := rfl
        rw [w837] at v837
        subst v837
        have N837 := Fr.app N836 N837q
        have O837 := O685.keep K837q all0
        have Kc837 := Kc685.trans K837q all0
        obtain ⟨fs, hr, hrun, hended, hW, hsame⟩ := X837.leave (v := some (.int (1 : Int32))) (fun h => by rw [Bd.returns] at h; cases h)
        refine ⟨_, _, pre686 _ ?_, hrun, hended, _, _, rfl, ?_, ⟨_, rfl⟩, hW, hsame.mono (by decide) (by decide)⟩
        · show oP p e below T685 (mkF m 231 #[oI p0, oI p1, oI p2, oI p3, oI p4, oI sc, oI sa, oI sb, oI si, oI (2 : Int32), oI a0c, oI a1c, oI u, oI b0c, oI b1c, oI jd, oR b477, oR b665, oR b680, oU, oU, oU] []) _
          refine XS.iload X685.here hx rfl (hb hby at_231) rfl ?_
          show oP p e below T685 (mkF m 233 #[oI p0, oI p1, oI p2, oI p3, oI p4, oI sc, oI sa, oI sb, oI si, oI (2 : Int32), oI a0c, oI a1c, oI u, oI b0c, oI b1c, oI jd, oR b477, oR b665, oR b680, oU, oU, oU] [(.int (2 : Int32))]) _
          refine XS.iconst X685.here hx rfl (hb hby at_233) ?_
          show oP p e below T685 (mkF m 234 #[oI p0, oI p1, oI p2, oI p3, oI p4, oI sc, oI sa, oI sb, oI si, oI (2 : Int32), oI a0c, oI a1c, oI u, oI b0c, oI b1c, oI jd, oR b477, oR b665, oR b680, oU, oU, oU] [(.int (1 : Int32)), (.int (2 : Int32))]) _
          refine XS.icmpYes X685.here hx rfl (pc0 := 234) (pc' := 252) rfl (hb hby at_234) rfl (feq (by decide : ¬ ((2 : Int32) = (1 : Int32)))).2 (by decide) (by decide) ?_
          show oP p e below T685 (mkF m 252 #[oI p0, oI p1, oI p2, oI p3, oI p4, oI sc, oI sa, oI sb, oI si, oI (2 : Int32), oI a0c, oI a1c, oI u, oI b0c, oI b1c, oI jd, oR b477, oR b665, oR b680, oU, oU, oU] []) _
          refine XS.iload X685.here hx rfl (hb hby at_252) rfl ?_
          show oP p e below T685 (mkF m 254 #[oI p0, oI p1, oI p2, oI p3, oI p4, oI sc, oI sa, oI sb, oI si, oI (2 : Int32), oI a0c, oI a1c, oI u, oI b0c, oI b1c, oI jd, oR b477, oR b665, oR b680, oU, oU, oU] [(.int (2 : Int32))]) _
          refine XS.iconst X685.here hx rfl (hb hby at_254) ?_
          show oP p e below T685 (mkF m 255 #[oI p0, oI p1, oI p2, oI p3, oI p4, oI sc, oI sa, oI sb, oI si, oI (2 : Int32), oI a0c, oI a1c, oI u, oI b0c, oI b1c, oI jd, oR b477, oR b665, oR b680, oU, oU, oU] [(.int (2 : Int32)), (.int (2 : Int32))]) _
          refine XS.icmpNo X685.here hx rfl (hb hby at_255) rfl (teq (by decide : (2 : Int32) = (2 : Int32))).2 ?_
          show oP p e below T685 (mkF m 258 #[oI p0, oI p1, oI p2, oI p3, oI p4, oI sc, oI sa, oI sb, oI si, oI (2 : Int32), oI a0c, oI a1c, oI u, oI b0c, oI b1c, oI jd, oR b477, oR b665, oR b680, oU, oU, oU] []) _
          refine XS.aload X685.here hx rfl (hb hby at_258) rfl rfl ?_
          show oP p e below T685 (mkF m 260 #[oI p0, oI p1, oI p2, oI p3, oI p4, oI sc, oI sa, oI sb, oI si, oI (2 : Int32), oI a0c, oI a1c, oI u, oI b0c, oI b1c, oI jd, oR b477, oR b665, oR b680, oU, oU, oU] [(.ref b477)]) _
          refine XS.astore X685.here hx rfl (hb hby at_260) rfl rfl (l' := #[oI p0, oI p1, oI p2, oI p3, oI p4, oI sc, oI sa, oI sb, oI si, oI (2 : Int32), oI a0c, oI a1c, oI u, oI b0c, oI b1c, oI jd, oR b477, oR b665, oR b680, oR b477, oU, oU]) rfl ?_
          show oP p e below T685 (mkF m 262 #[oI p0, oI p1, oI p2, oI p3, oI p4, oI sc, oI sa, oI sb, oI si, oI (2 : Int32), oI a0c, oI a1c, oI u, oI b0c, oI b1c, oI jd, oR b477, oR b665, oR b680, oR b477, oU, oU] []) _
          refine XS.aload X685.here hx rfl (hb hby at_262) rfl rfl ?_
          show oP p e below T685 (mkF m 264 #[oI p0, oI p1, oI p2, oI p3, oI p4, oI sc, oI sa, oI sb, oI si, oI (2 : Int32), oI a0c, oI a1c, oI u, oI b0c, oI b1c, oI jd, oR b477, oR b665, oR b680, oR b477, oU, oU] [(.ref b680)]) _
          refine XS.aload X685.here hx rfl (hb hby at_264) rfl rfl ?_
          show oP p e below T685 (mkF m 266 #[oI p0, oI p1, oI p2, oI p3, oI p4, oI sc, oI sa, oI sb, oI si, oI (2 : Int32), oI a0c, oI a1c, oI u, oI b0c, oI b1c, oI jd, oR b477, oR b665, oR b680, oR b477, oU, oU] [(.ref b477), (.ref b680)]) _
          refine st837.trans ?_
          show oP p e below T837 (mkF m 269 #[oI p0, oI p1, oI p2, oI p3, oI p4, oI sc, oI sa, oI sb, oI si, oI (2 : Int32), oI a0c, oI a1c, oI u, oI b0c, oI b1c, oI jd, oR b477, oR b665, oR b680, oR b477, oU, oU] [(.int (0 : Int32))]) _
          refine XS.ifNo X837.here hx rfl (hb hby at_269) rfl ((if0 _ _).trans (teq (by decide : (0 : Int32) = (0 : Int32))).2) ?_
          show oP p e below T837 (mkF m 272 #[oI p0, oI p1, oI p2, oI p3, oI p4, oI sc, oI sa, oI sb, oI si, oI (2 : Int32), oI a0c, oI a1c, oI u, oI b0c, oI b1c, oI jd, oR b477, oR b665, oR b680, oR b477, oU, oU] []) _
          refine XS.iconst X837.here hx rfl (hb hby at_272) ?_
          show oP p e below T837 (mkF m 273 #[oI p0, oI p1, oI p2, oI p3, oI p4, oI sc, oI sa, oI sb, oI si, oI (2 : Int32), oI a0c, oI a1c, oI u, oI b0c, oI b1c, oI jd, oR b477, oR b665, oR b680, oR b477, oU, oU] [(.int (1 : Int32))]) _
          refine XS.goto X837.here hx rfl (pc0 := 273) (pc' := 277) rfl (hb hby at_273) (by decide) (by decide) ?_
          show oP p e below T837 (mkF m 277 #[oI p0, oI p1, oI p2, oI p3, oI p4, oI sc, oI sa, oI sb, oI si, oI (2 : Int32), oI a0c, oI a1c, oI u, oI b0c, oI b1c, oI jd, oR b477, oR b665, oR b680, oR b477, oU, oU] [(.int (1 : Int32))]) _
          exact retN X837 hx (t := .boolean) Bd.returns (by simp) (hb hby at_277) hr
        · show (some (.int (1 : Int32)) : Option Value) = some (.int (1 : Int32)) ∧ Fr n0 _ ∧ Keep h0 T837.heap []
          exact ⟨rfl, N837, Kc837⟩
      · obtain ⟨lo839, X839, N839⟩ := own_hide X685 N685
        have fx841 := ((((((pV480.ext E665).ext E667).other W671 (Or.inl ne_b477_b667)).keep K672q (ninS ne_b477_b665 nin0)).ext E680).keep K685q (ninS ne_b477_b680 nin0))
        have fx842 := ((fx683.ext E680).keep K685q (ninS ne_t480_b680 nin0))
        have fx843 := ((fx681.ext E680).keep K685q)
        have fx844 := ((((((pC480.ext E665).ext E667).other W671 (Or.inl ne_b477_b667)).keep K672q (ninS ne_b477_b665 nin0)).ext E680).keep K685q (ninS ne_b477_b680 nin0))
        obtain ⟨cq840, kq840, q840a, q840b, q840c⟩ := isOf hZ rfl po685_0
        obtain ⟨_, _, ⟨T840, L840, k840, n840⟩, -, X840, ⟨Lc840, hQ840, l840, y840, z840⟩, st840⟩ := X839.virtualBack hx (y := (⟨"com/example/narada/narada/store/QueueKey", "equals", "(Ljava/lang/Object;)Z"⟩ : MethodName)) (z := (⟨"com/example/narada/narada/store/QueueKey", "equals", "(Ljava/lang/Object;)Z"⟩ : MethodName)) hown (mvT hZ (hw _ (List.mem_of_getElem? (i := 41) rfl))) (mvT hZ (hw _ (List.mem_of_getElem? (i := 42) rfl))) (notFace_of_selects (args := #[]) (mvT hZ (hw _ (List.mem_of_getElem? (i := 44) rfl)))) (mvT hZ (hw _ (List.mem_of_getElem? (i := 44) rfl))) (mvT hZ (hw _ (List.mem_of_getElem? (i := 43) rfl))) (by decide) (backOf (W := 0) (rm8q l Z a0 hw hS [] b680 b680 b477 b477 p2 p2 t480 kt480 ([a0c] : List Int32) t480 kt480 ([a0c] : List Int32) T685.heap n0 O685 po685_0 po685_1 po685_1 po685_2 po685_2 fx843 fx844 fx841 fx842 hp484 (Nat.le_of_ble_eq_true rfl) fx843 fx844 fx841 fx842 hp484 (Nat.le_of_ble_eq_true rfl)) hZ (hw _ (List.mem_of_getElem? (i := 45) rfl)) (hw _ (List.mem_of_getElem? (i := 32) rfl)) (by decide) (by decide)) q840a q840c (g := (mkF m 288 #[oI p0, oI p1, oI p2, oI p3, oI p4, oI sc, oI sa, oI sb, oI si, oI (3 : Int32), oI a0c, oI a1c, oI u, oI b0c, oI b1c, oI jd, oR b477, oR b665, oR b680, oU, oU, oU] [(.ref b680), (.ref b680)])) rfl (by rw [hml]; rfl) (Steps.refl _) (argsL := [(.ref b680)]) (rest := []) (lenOf pd_0 rfl) rfl (by show 2 * 0 + _ ≤ _; exact Nat.le_of_eq rfl) (hb hby at_288) (fun _ _ => ⟨rfl, rfl, (by decide : 7 + 0 ≤ _), (by decide : 14 + 0 ≤ _)⟩)
        dsimp only [Pt.U, Pt.locs, Pt.cells, Pt.slots] at X840 l840 y840 z840 st840 hQ840
        subst l840 y840 z840
        obtain ⟨v840, N840q, K840q⟩ := hQ840
        have w840 : (fn8q Z b680 b680 b477 b477 p2 p2 t480 kt480 ([a0c] : List Int32) t480 kt480 ([a0c] : List Int32)) = (1 : Int32) := by unfold fn8q; rw [if_neg (by simp : ¬ ((if ([a0c] : List Int32) = ([a0c] : List Int32) then (1 : Int32) else (0 : Int32)) = (0 : Int32))), if_pos (rfl : p2 = p2)]; all_goals first | rfl | decide
        rw [w840] at v840
        subst v840
        have N840 := Fr.app N839 N840q
        have O840 := O685.keep K840q all0
        have Kc840 := Kc685.trans K840q all0
        obtain ⟨fs, hr, hrun, hended, hW, hsame⟩ := X840.leave (v := some (.int (1 : Int32))) (fun h => by rw [Bd.returns] at h; cases h)
        refine ⟨_, _, pre686 _ ?_, hrun, hended, _, _, rfl, ?_, ⟨_, rfl⟩, hW, hsame.mono (by decide) (by decide)⟩
        · show oP p e below T685 (mkF m 231 #[oI p0, oI p1, oI p2, oI p3, oI p4, oI sc, oI sa, oI sb, oI si, oI (3 : Int32), oI a0c, oI a1c, oI u, oI b0c, oI b1c, oI jd, oR b477, oR b665, oR b680, oU, oU, oU] []) _
          refine XS.iload X685.here hx rfl (hb hby at_231) rfl ?_
          show oP p e below T685 (mkF m 233 #[oI p0, oI p1, oI p2, oI p3, oI p4, oI sc, oI sa, oI sb, oI si, oI (3 : Int32), oI a0c, oI a1c, oI u, oI b0c, oI b1c, oI jd, oR b477, oR b665, oR b680, oU, oU, oU] [(.int (3 : Int32))]) _
          refine XS.iconst X685.here hx rfl (hb hby at_233) ?_
          show oP p e below T685 (mkF m 234 #[oI p0, oI p1, oI p2, oI p3, oI p4, oI sc, oI sa, oI sb, oI si, oI (3 : Int32), oI a0c, oI a1c, oI u, oI b0c, oI b1c, oI jd, oR b477, oR b665, oR b680, oU, oU, oU] [(.int (1 : Int32)), (.int (3 : Int32))]) _
          refine XS.icmpYes X685.here hx rfl (pc0 := 234) (pc' := 252) rfl (hb hby at_234) rfl (feq (by decide : ¬ ((3 : Int32) = (1 : Int32)))).2 (by decide) (by decide) ?_
          show oP p e below T685 (mkF m 252 #[oI p0, oI p1, oI p2, oI p3, oI p4, oI sc, oI sa, oI sb, oI si, oI (3 : Int32), oI a0c, oI a1c, oI u, oI b0c, oI b1c, oI jd, oR b477, oR b665, oR b680, oU, oU, oU] []) _
          refine XS.iload X685.here hx rfl (hb hby at_252) rfl ?_
          show oP p e below T685 (mkF m 254 #[oI p0, oI p1, oI p2, oI p3, oI p4, oI sc, oI sa, oI sb, oI si, oI (3 : Int32), oI a0c, oI a1c, oI u, oI b0c, oI b1c, oI jd, oR b477, oR b665, oR b680, oU, oU, oU] [(.int (3 : Int32))]) _
          refine XS.iconst X685.here hx rfl (hb hby at_254) ?_
          show oP p e below T685 (mkF m 255 #[oI p0, oI p1, oI p2, oI p3, oI p4, oI sc, oI sa, oI sb, oI si, oI (3 : Int32), oI a0c, oI a1c, oI u, oI b0c, oI b1c, oI jd, oR b477, oR b665, oR b680, oU, oU, oU] [(.int (2 : Int32)), (.int (3 : Int32))]) _
          refine XS.icmpYes X685.here hx rfl (pc0 := 255) (pc' := 278) rfl (hb hby at_255) rfl (feq (by decide : ¬ ((3 : Int32) = (2 : Int32)))).2 (by decide) (by decide) ?_
          show oP p e below T685 (mkF m 278 #[oI p0, oI p1, oI p2, oI p3, oI p4, oI sc, oI sa, oI sb, oI si, oI (3 : Int32), oI a0c, oI a1c, oI u, oI b0c, oI b1c, oI jd, oR b477, oR b665, oR b680, oU, oU, oU] []) _
          refine XS.iload X685.here hx rfl (hb hby at_278) rfl ?_
          show oP p e below T685 (mkF m 280 #[oI p0, oI p1, oI p2, oI p3, oI p4, oI sc, oI sa, oI sb, oI si, oI (3 : Int32), oI a0c, oI a1c, oI u, oI b0c, oI b1c, oI jd, oR b477, oR b665, oR b680, oU, oU, oU] [(.int (3 : Int32))]) _
          refine XS.iconst X685.here hx rfl (hb hby at_280) ?_
          show oP p e below T685 (mkF m 281 #[oI p0, oI p1, oI p2, oI p3, oI p4, oI sc, oI sa, oI sb, oI si, oI (3 : Int32), oI a0c, oI a1c, oI u, oI b0c, oI b1c, oI jd, oR b477, oR b665, oR b680, oU, oU, oU] [(.int (3 : Int32)), (.int (3 : Int32))]) _
          refine XS.icmpNo X685.here hx rfl (hb hby at_281) rfl (teq (by decide : (3 : Int32) = (3 : Int32))).2 ?_
          show oP p e below T685 (mkF m 284 #[oI p0, oI p1, oI p2, oI p3, oI p4, oI sc, oI sa, oI sb, oI si, oI (3 : Int32), oI a0c, oI a1c, oI u, oI b0c, oI b1c, oI jd, oR b477, oR b665, oR b680, oU, oU, oU] []) _
          refine XS.aload X685.here hx rfl (hb hby at_284) rfl rfl ?_
          show oP p e below T685 (mkF m 286 #[oI p0, oI p1, oI p2, oI p3, oI p4, oI sc, oI sa, oI sb, oI si, oI (3 : Int32), oI a0c, oI a1c, oI u, oI b0c, oI b1c, oI jd, oR b477, oR b665, oR b680, oU, oU, oU] [(.ref b680)]) _
          refine XS.aload X685.here hx rfl (hb hby at_286) rfl rfl ?_
          show oP p e below T685 (mkF m 288 #[oI p0, oI p1, oI p2, oI p3, oI p4, oI sc, oI sa, oI sb, oI si, oI (3 : Int32), oI a0c, oI a1c, oI u, oI b0c, oI b1c, oI jd, oR b477, oR b665, oR b680, oU, oU, oU] [(.ref b680), (.ref b680)]) _
          refine st840.trans ?_
          show oP p e below T840 (mkF m 291 #[oI p0, oI p1, oI p2, oI p3, oI p4, oI sc, oI sa, oI sb, oI si, oI (3 : Int32), oI a0c, oI a1c, oI u, oI b0c, oI b1c, oI jd, oR b477, oR b665, oR b680, oU, oU, oU] [(.int (1 : Int32))]) _
          exact retN X840 hx (t := .boolean) Bd.returns (by simp) (hb hby at_291) hr
        · show (some (.int (1 : Int32)) : Option Value) = some (.int (1 : Int32)) ∧ Fr n0 _ ∧ Keep h0 T840.heap []
          exact ⟨rfl, N840, Kc840⟩
set_option maxRecDepth 65536 in
set_option maxHeartbeats 40000000 in
theorem comes_1 {Post : Tables → Env → Array Value → State → Outcome → State → Prop} (hpost : ∀ tb e args s v u, (limb_1_1.after args s (.returned v) u = true ∧ limb_1_2.after args s (.returned v) u = true ∧ True) → FrameEnd s (.returned v) u (Jvm.fieldLocs frame_1_writes args s ++ Jvm.arrayLocs frame_1_arrays args s ++ Jvm.staticLocs frame_1_statics s) 24 128 → Post tb e args s (.returned v) u) :
    ArmFor flags0 classFile x code maxLocals ret World_1 tables_1 room_1 Calls_1 rest_1 Pre_1 Post := by
  intro l hfl _ _ p e ha hc hk s m args below hf hA hF happ hP
  obtain ⟨hcalls, hrest, hpre⟩ := hP
  obtain ⟨-, -, -, hnamed, -, -, -, hat⟩ := (Spec.applies_iff hf).mp happ
  obtain ⟨hg, hn⟩ := and_e (Cond.before_iff.mp (show (Jvm.Cond.and given_1 narrow_1).before args s = true from hpre))
  obtain ⟨g1, g2⟩ := and_e hg
  obtain ⟨g3, g4⟩ := and_e g2
  obtain ⟨g5, g6⟩ := and_e g4
  obtain ⟨g7, g8⟩ := and_e g6
  obtain ⟨g9, g10⟩ := and_e g8
  obtain ⟨w0, w1, w2, w3, w4, rfl⟩ : ∃ w0 w1 w2 w3 w4 : Value, args = #[w0, w1, w2, w3, w4] := by
    have hs : args.size = 5 := by simpa [Cond.value, given_1] using g1
    obtain ⟨L⟩ := args
    match L, hs with
    | [w0, w1, w2, w3, w4], _ => exact ⟨w0, w1, w2, w3, w4, rfl⟩
  have hw := fun d (hd : d ∈ tables_1) => atoms_spec (ws := Jvm.Cond.code x code maxLocals ret :: tables_1) hat d (List.mem_cons_of_mem _ hd)
  have hfit : Fit s := fun {y c} hc i hi => by
    obtain ⟨ha, rfl⟩ := Array.getElem?_eq_some_iff.mp hc
    have q := List.all_eq_true.mp ((Array.all_eq_true_iff_forall_mem.mp hF) _ (Array.getElem_mem ha)) i (List.mem_range.mpr hi)
    simpa [Array.getElem?_eq_getElem hi] using q
  obtain ⟨i0, ei0⟩ := is_v g3
  obtain rfl : w0 = (.int i0) := Option.some.inj ei0
  obtain ⟨i1, ei1⟩ := is_v g5
  obtain rfl : w1 = (.int i1) := Option.some.inj ei1
  obtain ⟨i2, ei2⟩ := is_v g7
  obtain rfl : w2 = (.int i2) := Option.some.inj ei2
  obtain ⟨i3, ei3⟩ := is_v g9
  obtain rfl : w3 = (.int i3) := Option.some.inj ei3
  obtain ⟨i4, ei4⟩ := is_v g10
  obtain rfl : w4 = (.int i4) := Option.some.inj ei4
  have q0 := hn
  obtain ⟨hsets, hown0⟩ := atoms_of _ (rest_1_c_eq ▸ (show rest_1_c.before _ s = true from hrest))
  have j0 := Cond.before_iff.mp (hsets _ (List.mem_of_getElem? (i := 0) rfl))
  have j1 := Cond.before_iff.mp (hsets _ (List.mem_of_getElem? (i := 1) rfl))
  have j2 := Cond.before_iff.mp (hsets _ (List.mem_of_getElem? (i := 2) rfl))
  have j3 := Cond.before_iff.mp (hsets _ (List.mem_of_getElem? (i := 3) rfl))
  have j4 := Cond.before_iff.mp (hsets _ (List.mem_of_getElem? (i := 4) rfl))
  have j5 := Cond.before_iff.mp (hsets _ (List.mem_of_getElem? (i := 5) rfl))
  have j6 := Cond.before_iff.mp (hsets _ (List.mem_of_getElem? (i := 6) rfl))
  have j7 := Cond.before_iff.mp (hsets _ (List.mem_of_getElem? (i := 7) rfl))
  have j8 := Cond.before_iff.mp (hsets _ (List.mem_of_getElem? (i := 8) rfl))
  have hS : St s := ⟨(own_sti j1 (Or.inl (hsets _ (List.mem_of_getElem? (i := 0) rfl)))), (own_stn j1 j2)⟩
  obtain ⟨n, o, h1, h2, h3, _, L, rfl, ⟨rfl, N, -⟩, hq⟩ := rm0 l s _ hw hS tables_1 i0 i1 i2 i3 i4 s.heap s.heap.size (Old.start s) p e ha hc hk s m _ below hf ((Spec.applies_iff_loose hf).mp happ).1 ⟨rfl, State.Warmed39.refl s, rfl⟩ trivial
  refine ⟨n, _, h1, h2, h3, hpost _ _ _ _ _ _ ⟨Cond.after_iff.mpr rfl, Cond.after_iff.mpr (eq_i res_at (Term.int_eval (1)) rfl), trivial⟩ ⟨hq.1, hq.2.1, (hq.2.2.sift fun y hy => Or.inr (N y hy)).mono (by decide) (by decide)⟩⟩
theorem main_1_1 : Claimed_1_1 := comes_1 fun _ _ _ _ _ _ h hF => ⟨h.1, hF⟩
theorem main_1_2 : Claimed_1_2 := comes_1 fun _ _ _ _ _ _ h hF => ⟨h.2.1, hF⟩
end Jvm.Pilot.@@N@@
namespace Jvm.Pilot.@@N@@
open Jvm Jvm.ClassFile Sem Op Lib Jvm.Free Jvm.Stand Jvm.Pilot.@@N@@.Jvm.D
/-! MADE BY PROGRAM (witnessworld.py) out of the Statement's table words and the real class files: 20 classes; the members and pool entries that the words name. The judged class is class 1, her method 1. -/
namespace start1
open Jvm.ClassFile
def u (s : String) : CpInfo := .utf8 (stringToUtf16 s)
/-- a pool by its gaps: so many unusable entries, then the entry; so many at the end -/
def gap : Nat → List CpInfo → List CpInfo
  | 0, r => r
  | n + 1, r => .unusable :: gap n r
def poolList (es : List (Nat × CpInfo)) (last : Nat) : List CpInfo := es.foldr (fun e r => gap e.1 (e.2 :: r)) (gap last [])
def pool (es : List (Nat × CpInfo)) (last : Nat) : Array CpInfo := ⟨poolList es last⟩
def fileOf (pool : Array CpInfo) (this : Nat) (attrs : Array Attribute := #[]) (ms : Array MethodInfo := #[]) (fl : Nat := 33) (sup : Nat := 0) (ifs : Array Nat := #[]) (fds : Array FieldInfo := #[]) : ClassFile where
  minorVersion := 0
  majorVersion := 65
  constantPool := pool
  accessFlags := fl
  thisClass := this
  superClass := sup
  interfaces := ifs
  fields := fds
  methods := ms
  attributes := attrs
def plain (name : String) (sup : Option ClassId) : Class where
  name := name
  kind := .ordinary
  loader := none
  accessFlags := 33
  super := sup
  interfaces := #[]
  cf := none
  fields := #[]
  methods := #[]
  instanceTypes := #[]
  staticTypes := #[]
  resolved := #[]
  callSites := []
  init := .initialized
  statics := none
  mirror := none

def pool0 : Array CpInfo := pool [(5, u "<init>"), (0, u "()V"), (1, .class_ 10), (1, u "java/lang/Object")] 113

def k0c0 : Code := { maxStack := 0, maxLocals := 1, code := object_method_1_code, exceptionTable := #[], attributes := #[] }
def k0m0 : Method := { name := "<init>", desc := "()V", sig := { parameters := [], returnType := none }, accessFlags := 1, code := some k0c0 }
/-- java/lang/Object -/
def k0 : Class := { plain "java/lang/Object" none with
  accessFlags := 33
  interfaces := #[]
  cf := some (fileOf pool0 8 #[] #[{ accessFlags := 1, nameIndex := 5, descriptorIndex := 6, attributes := #[] }] 33 0 #[] #[])
  fields := #[]
  methods := #[k0m0]
  instanceTypes := #[]
  staticTypes := #[]
  resolved := Array.replicate 124 none
  statics := none }

def pool1 : Array CpInfo := pool [(2, .class_ 4), (1, u "java/lang/Object"), (0, u "<init>"), (0, u "()V"), (0, .class_ 8), (0, u "java/lang/String"), (0, .methodref 7 10), (0, .nameAndType 5 11), (0, u "([C)V"), (0, .class_ 13), (0, u "com/example/narada/narada/store/QueueKey"), (0, .methodref 12 15), (0, .nameAndType 5 16), (0, u "(Ljava/lang/String;I)V"), (0, .methodref 12 18), (0, .nameAndType 19 20), (0, u "equals"), (0, u "(Ljava/lang/Object;)Z"), (0, .class_ 22), (0, u "com/example/narada/narada/store/QueueKeyEqualsPinLaw"), (2, u "law"), (0, u "(IIIII)Z")] 3

def k1m0 : Method := { name := "<init>", desc := "()V", sig := { parameters := [], returnType := none }, accessFlags := 1, code := none }
def k1c1 : Code := { maxStack := 6, maxLocals := 22, code := code, exceptionTable := #[], attributes := #[] }
def k1m1 : Method := { name := "law", desc := "(IIIII)Z", sig := { parameters := [.int, .int, .int, .int, .int], returnType := some .boolean }, accessFlags := 9, code := some k1c1 }
/-- com/example/narada/narada/store/QueueKeyEqualsPinLaw -/
def k1 : Class := { plain "com/example/narada/narada/store/QueueKeyEqualsPinLaw" (some 0) with
  accessFlags := 49
  interfaces := #[]
  cf := some (fileOf pool1 21 #[] #[{ accessFlags := 1, nameIndex := 5, descriptorIndex := 6, attributes := #[] }, { accessFlags := 9, nameIndex := 25, descriptorIndex := 26, attributes := #[] }] 49 2 #[] #[])
  fields := #[]
  methods := #[k1m0, k1m1]
  instanceTypes := #[]
  staticTypes := #[]
  resolved := Array.replicate 30 none
  statics := none }

def pool2 : Array CpInfo := pool [(1, .class_ 2), (0, u "java/io/Serializable"), (0, .class_ 4), (0, u "java/lang/Object")] 2

/-- java/io/Serializable -/
def k2 : Class := { plain "java/io/Serializable" (some 0) with
  accessFlags := 1537
  interfaces := #[]
  cf := some (fileOf pool2 1 #[] #[] 1537 3 #[] #[])
  fields := #[]
  methods := #[]
  instanceTypes := #[]
  staticTypes := #[]
  resolved := Array.replicate 7 none
  statics := none }

def pool3 : Array CpInfo := pool [(1, .class_ 2), (0, u "java/lang/Comparable"), (0, .class_ 4), (0, u "java/lang/Object")] 7

/-- java/lang/Comparable -/
def k3 : Class := { plain "java/lang/Comparable" (some 0) with
  accessFlags := 1537
  interfaces := #[]
  cf := some (fileOf pool3 1 #[] #[] 1537 3 #[] #[])
  fields := #[]
  methods := #[]
  instanceTypes := #[]
  staticTypes := #[]
  resolved := Array.replicate 12 none
  statics := none }

def pool4 : Array CpInfo := pool [(2, .class_ 4), (1, u "java/lang/CharSequence"), (42, .class_ 48), (0, u "java/lang/CharSequence$1CodePointIterator"), (10, .class_ 60), (0, u "java/lang/CharSequence$1CharIterator"), (5, .class_ 67), (0, u "java/lang/Object")] 63

/-- java/lang/CharSequence -/
def k4 : Class := { plain "java/lang/CharSequence" (some 0) with
  accessFlags := 1537
  interfaces := #[]
  cf := some (fileOf pool4 2 #[.nestMembers #[47, 59]] #[] 1537 66 #[] #[])
  fields := #[]
  methods := #[]
  instanceTypes := #[]
  staticTypes := #[]
  resolved := Array.replicate 131 none
  statics := none }

def pool5 : Array CpInfo := pool [(1, .class_ 2), (0, u "java/lang/constant/Constable"), (0, .class_ 4), (0, u "java/lang/Object")] 6

/-- java/lang/constant/Constable -/
def k5 : Class := { plain "java/lang/constant/Constable" (some 0) with
  accessFlags := 1537
  interfaces := #[]
  cf := some (fileOf pool5 1 #[] #[] 1537 3 #[] #[])
  fields := #[]
  methods := #[]
  instanceTypes := #[]
  staticTypes := #[]
  resolved := Array.replicate 11 none
  statics := none }

def pool6 : Array CpInfo := pool [(1, .class_ 2), (0, u "java/lang/constant/ConstantDesc"), (0, .class_ 4), (0, u "java/lang/Object")] 32

/-- java/lang/constant/ConstantDesc -/
def k6 : Class := { plain "java/lang/constant/ConstantDesc" (some 0) with
  accessFlags := 1537
  interfaces := #[]
  cf := some (fileOf pool6 1 #[] #[] 1537 3 #[] #[])
  fields := #[]
  methods := #[]
  instanceTypes := #[]
  staticTypes := #[]
  resolved := Array.replicate 37 none
  statics := none }

def pool7 : Array CpInfo := pool [(1, .methodref 2 3), (0, .class_ 4), (0, .nameAndType 5 6), (0, u "java/lang/Object"), (0, u "<init>"), (0, u "()V"), (2, .fieldref 10 11), (0, .class_ 12), (0, .nameAndType 13 14), (0, u "java/lang/String"), (0, u "value"), (0, u "[B"), (0, .fieldref 10 16), (0, .nameAndType 17 18), (0, u "coder"), (0, u "B"), (2, u "hash"), (0, u "I"), (2, u "hashIsZero"), (0, u "Z"), (0, .methodref 10 28), (0, .nameAndType 5 29), (0, u "([CIILjava/lang/Void;)V"), (8, .fieldref 10 39), (0, .nameAndType 40 26), (0, u "COMPACT_STRINGS"), (1, .class_ 44), (1, u "java/lang/StringUTF16"), (0, u "compress"), (1, .methodref 42 48), (0, .nameAndType 49 50), (0, u "coderFromArrayLen"), (0, u "([BI)B"), (56, .class_ 109), (1, u "java/lang/StringLatin1"), (67, .methodref 42 178), (0, .nameAndType 45 179), (0, u "([CII)[B"), (361, .methodref 107 542), (0, .nameAndType 543 544), (0, u "equals"), (0, u "([B[B)Z"), (28, u "(Ljava/lang/Object;)Z"), (1, .class_ 576), (0, u "java/lang/CharSequence"), (22, u "CASE_INSENSITIVE_ORDER"), (0, u "Ljava/util/Comparator;"), (409, u "([C)V"), (90, u "serialPersistentFields"), (0, u "[Ljava/io/ObjectStreamField;"), (0, .class_ 1104), (0, u "java/lang/String$CaseInsensitiveComparator"), (1, .class_ 1107), (0, u "java/io/Serializable"), (0, .class_ 1109), (0, u "java/lang/Comparable"), (0, .class_ 1111), (0, u "java/lang/constant/Constable"), (0, .class_ 1113), (0, u "java/lang/constant/ConstantDesc"), (2, u "serialVersionUID"), (0, u "J"), (3, u "REPL"), (0, u "C"), (2, u "LATIN1"), (1, u "UTF16")] 323

def k7m0 : Method := { name := "<init>", desc := "()V", sig := { parameters := [], returnType := none }, accessFlags := 1, code := none }
def k7c1 : Code := { maxStack := 5, maxLocals := 2, code := jdk_42_method_3_code, exceptionTable := #[], attributes := #[] }
def k7m1 : Method := { name := "<init>", desc := "([C)V", sig := { parameters := [(.array .char)], returnType := none }, accessFlags := 1, code := some k7c1 }
def k7c2 : Code := { maxStack := 2, maxLocals := 3, code := jdk_42_method_66_code, exceptionTable := #[], attributes := #[] }
def k7m2 : Method := { name := "equals", desc := "(Ljava/lang/Object;)Z", sig := { parameters := [(.object "java/lang/Object")], returnType := some .boolean }, accessFlags := 1, code := some k7c2 }
def k7c3 : Code := { maxStack := 4, maxLocals := 6, code := jdk_42_method_149_code, exceptionTable := #[], attributes := #[] }
def k7m3 : Method := { name := "<init>", desc := "([CIILjava/lang/Void;)V", sig := { parameters := [(.array .char), .int, .int, (.object "java/lang/Void")], returnType := none }, accessFlags := 2, code := some k7c3 }
/-- java/lang/String -/
def k7 : Class := { plain "java/lang/String" (some 0) with
  accessFlags := 49
  interfaces := #[2, 3, 4, 5, 6]
  cf := some (fileOf pool7 10 #[.nestMembers #[1103]] #[{ accessFlags := 1, nameIndex := 5, descriptorIndex := 6, attributes := #[] }, { accessFlags := 1, nameIndex := 5, descriptorIndex := 1010, attributes := #[] }, { accessFlags := 1, nameIndex := 543, descriptorIndex := 573, attributes := #[] }, { accessFlags := 2, nameIndex := 5, descriptorIndex := 29, attributes := #[] }] 49 2 #[1106, 1108, 575, 1110, 1112] #[{ accessFlags := 18, nameIndex := 13, descriptorIndex := 14, attributes := #[] }, { accessFlags := 18, nameIndex := 17, descriptorIndex := 18, attributes := #[] }, { accessFlags := 2, nameIndex := 21, descriptorIndex := 22, attributes := #[] }, { accessFlags := 2, nameIndex := 25, descriptorIndex := 26, attributes := #[] }, { accessFlags := 26, nameIndex := 1116, descriptorIndex := 1117, attributes := #[] }, { accessFlags := 24, nameIndex := 40, descriptorIndex := 26, attributes := #[] }, { accessFlags := 26, nameIndex := 1101, descriptorIndex := 1102, attributes := #[] }, { accessFlags := 26, nameIndex := 1121, descriptorIndex := 1122, attributes := #[] }, { accessFlags := 25, nameIndex := 599, descriptorIndex := 600, attributes := #[] }, { accessFlags := 24, nameIndex := 1125, descriptorIndex := 18, attributes := #[] }, { accessFlags := 24, nameIndex := 1127, descriptorIndex := 18, attributes := #[] }])
  fields := #[{ name := "value", type := (.array .byte), accessFlags := 18, slot := 0, constantValue := 0 }, { name := "coder", type := .byte, accessFlags := 18, slot := 1, constantValue := 0 }, { name := "hash", type := .int, accessFlags := 2, slot := 2, constantValue := 0 }, { name := "hashIsZero", type := .boolean, accessFlags := 2, slot := 3, constantValue := 0 }, { name := "serialVersionUID", type := .long, accessFlags := 26, slot := 0, constantValue := 0 }, { name := "COMPACT_STRINGS", type := .boolean, accessFlags := 24, slot := 1, constantValue := 0 }, { name := "serialPersistentFields", type := (.array (.object "java/io/ObjectStreamField")), accessFlags := 26, slot := 2, constantValue := 0 }, { name := "REPL", type := .char, accessFlags := 26, slot := 3, constantValue := 0 }, { name := "CASE_INSENSITIVE_ORDER", type := (.object "java/util/Comparator"), accessFlags := 25, slot := 4, constantValue := 0 }, { name := "LATIN1", type := .byte, accessFlags := 24, slot := 5, constantValue := 0 }, { name := "UTF16", type := .byte, accessFlags := 24, slot := 6, constantValue := 0 }]
  methods := #[k7m0, k7m1, k7m2, k7m3]
  instanceTypes := #[(.array .byte), .byte, .int, .boolean]
  staticTypes := #[.long, .boolean, (.array (.object "java/io/ObjectStreamField")), .char, (.object "java/util/Comparator"), .byte, .byte]
  resolved := Array.replicate 1451 none
  statics := some 0 }

def pool8 : Array CpInfo := pool [(6, .class_ 8), (1, u "java/lang/Object"), (0, u "<init>"), (0, u "()V"), (1, .class_ 14), (1, u "java/lang/StringUTF16"), (31, u "$assertionsDisabled"), (0, u "Z"), (13, u "HI_BYTE_SHIFT"), (0, u "I"), (2, u "LO_BYTE_SHIFT"), (49, .methodref 12 116), (0, .nameAndType 117 118), (0, u "compress"), (0, u "([CI[BII)I"), (3, u "([CII)[B"), (138, u "coderFromArrayLen"), (0, u "([BI)B"), (106, .class_ 371), (1, u "java/lang/StringUTF16$LinesSpliterator"), (58, u "MAX_LENGTH"), (196, .class_ 628), (0, u "java/lang/StringUTF16$CodePointsSpliterator"), (0, .class_ 630), (0, u "java/lang/StringUTF16$CharsSpliterator")] 4

def k8m0 : Method := { name := "<init>", desc := "()V", sig := { parameters := [], returnType := none }, accessFlags := 0, code := none }
def k8c1 : Code := { maxStack := 2, maxLocals := 2, code := jdk_52_method_15_code, exceptionTable := #[], attributes := #[] }
def k8m1 : Method := { name := "coderFromArrayLen", desc := "([BI)B", sig := { parameters := [(.array .byte), .int], returnType := some .byte }, accessFlags := 8, code := some k8c1 }
def k8c2 : Code := { maxStack := 5, maxLocals := 6, code := jdk_52_method_16_code, exceptionTable := #[], attributes := #[] }
def k8m2 : Method := { name := "compress", desc := "([CII)[B", sig := { parameters := [(.array .char), .int, .int], returnType := some (.array .byte) }, accessFlags := 9, code := some k8c2 }
def k8c3 : Code := { maxStack := 3, maxLocals := 7, code := jdk_52_method_21_code, exceptionTable := #[], attributes := #[] }
def k8m3 : Method := { name := "compress", desc := "([CI[BII)I", sig := { parameters := [(.array .char), .int, (.array .byte), .int, .int], returnType := some .int }, accessFlags := 9, code := some k8c3 }
/-- java/lang/StringUTF16 -/
def k8 : Class := { plain "java/lang/StringUTF16" (some 0) with
  accessFlags := 48
  interfaces := #[]
  cf := some (fileOf pool8 12 #[.nestMembers #[627, 629, 369]] #[{ accessFlags := 0, nameIndex := 9, descriptorIndex := 10, attributes := #[] }, { accessFlags := 8, nameIndex := 261, descriptorIndex := 262, attributes := #[] }, { accessFlags := 9, nameIndex := 117, descriptorIndex := 122, attributes := #[] }, { accessFlags := 9, nameIndex := 117, descriptorIndex := 118, attributes := #[] }] 48 6 #[] #[{ accessFlags := 26, nameIndex := 61, descriptorIndex := 62, attributes := #[] }, { accessFlags := 26, nameIndex := 65, descriptorIndex := 62, attributes := #[] }, { accessFlags := 24, nameIndex := 430, descriptorIndex := 62, attributes := #[] }, { accessFlags := 4120, nameIndex := 46, descriptorIndex := 47, attributes := #[] }])
  fields := #[{ name := "HI_BYTE_SHIFT", type := .int, accessFlags := 26, slot := 0, constantValue := 0 }, { name := "LO_BYTE_SHIFT", type := .int, accessFlags := 26, slot := 1, constantValue := 0 }, { name := "MAX_LENGTH", type := .int, accessFlags := 24, slot := 2, constantValue := 0 }, { name := "$assertionsDisabled", type := .boolean, accessFlags := 4120, slot := 3, constantValue := 0 }]
  methods := #[k8m0, k8m1, k8m2, k8m3]
  instanceTypes := #[]
  staticTypes := #[.int, .int, .int, .boolean]
  resolved := Array.replicate 635 none
  statics := none }

def pool9 : Array CpInfo := pool [(1, .methodref 2 3), (0, .class_ 4), (0, .nameAndType 5 6), (0, u "java/lang/Object"), (0, u "<init>"), (0, u "()V"), (0, .fieldref 8 9), (0, .class_ 10), (0, .nameAndType 11 12), (0, u "com/example/narada/narada/store/QueueKey"), (0, u "topic"), (0, u "Ljava/lang/String;"), (0, .fieldref 8 14), (0, .nameAndType 15 16), (0, u "queueId"), (0, u "I"), (0, .methodref 18 19), (0, .class_ 20), (0, .nameAndType 21 22), (0, u "java/lang/String"), (0, u "equals"), (0, u "(Ljava/lang/Object;)Z"), (16, u "(Ljava/lang/String;I)V")] 24

def k9c0 : Code := { maxStack := 2, maxLocals := 3, code := prog_39_method_1_code, exceptionTable := #[], attributes := #[] }
def k9m0 : Method := { name := "<init>", desc := "(Ljava/lang/String;I)V", sig := { parameters := [(.object "java/lang/String"), .int], returnType := none }, accessFlags := 1, code := some k9c0 }
def k9c1 : Code := { maxStack := 2, maxLocals := 2, code := prog_39_method_4_code, exceptionTable := #[], attributes := #[] }
def k9m1 : Method := { name := "equals", desc := "(Ljava/lang/Object;)Z", sig := { parameters := [(.object "java/lang/Object")], returnType := some .boolean }, accessFlags := 1, code := some k9c1 }
/-- com/example/narada/narada/store/QueueKey -/
def k9 : Class := { plain "com/example/narada/narada/store/QueueKey" (some 0) with
  accessFlags := 49
  interfaces := #[]
  cf := some (fileOf pool9 8 #[] #[{ accessFlags := 1, nameIndex := 5, descriptorIndex := 39, attributes := #[] }, { accessFlags := 1, nameIndex := 21, descriptorIndex := 22, attributes := #[] }] 49 2 #[] #[{ accessFlags := 18, nameIndex := 11, descriptorIndex := 12, attributes := #[] }, { accessFlags := 18, nameIndex := 15, descriptorIndex := 16, attributes := #[] }])
  fields := #[{ name := "topic", type := (.object "java/lang/String"), accessFlags := 18, slot := 0, constantValue := 0 }, { name := "queueId", type := .int, accessFlags := 18, slot := 1, constantValue := 0 }]
  methods := #[k9m0, k9m1]
  instanceTypes := #[(.object "java/lang/String"), .int]
  staticTypes := #[]
  resolved := Array.replicate 64 none
  statics := none }

def pool10 : Array CpInfo := pool [(4, .class_ 6), (1, u "java/lang/Object"), (0, u "<init>"), (0, u "()V"), (5, .class_ 16), (1, u "java/lang/StringLatin1"), (104, u "$assertionsDisabled"), (0, u "Z"), (98, .class_ 223), (1, u "java/lang/StringLatin1$LinesSpliterator"), (57, u "equals"), (0, u "([B[B)Z"), (107, .class_ 391), (0, u "java/lang/StringLatin1$CharsSpliterator")] 3

def k10m0 : Method := { name := "<init>", desc := "()V", sig := { parameters := [], returnType := none }, accessFlags := 0, code := none }
def k10c1 : Code := { maxStack := 3, maxLocals := 3, code := jdk_43_method_13_code, exceptionTable := #[], attributes := #[] }
def k10m1 : Method := { name := "equals", desc := "([B[B)Z", sig := { parameters := [(.array .byte), (.array .byte)], returnType := some .boolean }, accessFlags := 9, code := some k10c1 }
/-- java/lang/StringLatin1 -/
def k10 : Class := { plain "java/lang/StringLatin1" (some 0) with
  accessFlags := 48
  interfaces := #[]
  cf := some (fileOf pool10 14 #[.nestMembers #[390, 221]] #[{ accessFlags := 0, nameIndex := 7, descriptorIndex := 8, attributes := #[] }, { accessFlags := 9, nameIndex := 281, descriptorIndex := 282, attributes := #[] }] 48 4 #[] #[{ accessFlags := 4120, nameIndex := 121, descriptorIndex := 122, attributes := #[] }])
  fields := #[{ name := "$assertionsDisabled", type := .boolean, accessFlags := 4120, slot := 0, constantValue := 0 }]
  methods := #[k10m0, k10m1]
  instanceTypes := #[]
  staticTypes := #[.boolean]
  resolved := Array.replicate 395 none
  statics := none }

def pool11 : Array CpInfo := pool [(2, .class_ 4), (1, u "java/lang/Object"), (0, u "<init>"), (0, u "()V"), (17, .class_ 26), (1, u "jdk/internal/util/Preconditions"), (28, .class_ 56), (0, u "jdk/internal/util/Preconditions$4"), (57, .class_ 115), (0, u "jdk/internal/util/Preconditions$1"), (7, u "SIOOBE_FORMATTER"), (0, u "Ljava/util/function/BiFunction;"), (0, .class_ 126), (0, u "jdk/internal/util/Preconditions$2"), (3, u "AIOOBE_FORMATTER"), (0, .class_ 132), (0, u "jdk/internal/util/Preconditions$3"), (3, u "IOOBE_FORMATTER")] 57

def k11m0 : Method := { name := "<init>", desc := "()V", sig := { parameters := [], returnType := none }, accessFlags := 1, code := none }
/-- jdk/internal/util/Preconditions -/
def k11 : Class := { plain "jdk/internal/util/Preconditions" (some 0) with
  accessFlags := 33
  interfaces := #[]
  cf := some (fileOf pool11 24 #[.nestMembers #[55, 131, 125, 114]] #[{ accessFlags := 1, nameIndex := 5, descriptorIndex := 6, attributes := #[] }] 33 2 #[] #[{ accessFlags := 25, nameIndex := 123, descriptorIndex := 124, attributes := #[] }, { accessFlags := 25, nameIndex := 130, descriptorIndex := 124, attributes := #[] }, { accessFlags := 25, nameIndex := 136, descriptorIndex := 124, attributes := #[] }])
  fields := #[{ name := "SIOOBE_FORMATTER", type := (.object "java/util/function/BiFunction"), accessFlags := 25, slot := 0, constantValue := 0 }, { name := "AIOOBE_FORMATTER", type := (.object "java/util/function/BiFunction"), accessFlags := 25, slot := 1, constantValue := 0 }, { name := "IOOBE_FORMATTER", type := (.object "java/util/function/BiFunction"), accessFlags := 25, slot := 2, constantValue := 0 }]
  methods := #[k11m0]
  instanceTypes := #[]
  staticTypes := #[(.object "java/util/function/BiFunction"), (.object "java/util/function/BiFunction"), (.object "java/util/function/BiFunction")]
  resolved := Array.replicate 194 none
  statics := some 1 }

def pool12 : Array CpInfo := pool [(9, u "<init>"), (6, .class_ 18), (1, u "java/lang/Object"), (0, u "()V"), (1, .class_ 23), (1, u "jdk/internal/util/ArraysSupport"), (0, u "LOG2_ARRAY_LONG_INDEX_SCALE"), (0, u "I"), (2, u "U"), (0, u "Ljdk/internal/misc/Unsafe;"), (8, u "BIG_ENDIAN"), (0, u "Z"), (8, u "LOG2_BYTE_BIT_SIZE"), (4, u "LOG2_ARRAY_INT_INDEX_SCALE"), (54, u "JLA"), (0, u "Ljdk/internal/access/JavaLangAccess;"), (11, u "LOG2_ARRAY_BOOLEAN_INDEX_SCALE"), (9, u "LOG2_ARRAY_BYTE_INDEX_SCALE"), (5, u "LOG2_ARRAY_CHAR_INDEX_SCALE"), (5, u "LOG2_ARRAY_SHORT_INDEX_SCALE"), (18, u "LOG2_ARRAY_FLOAT_INDEX_SCALE"), (24, u "LOG2_ARRAY_DOUBLE_INDEX_SCALE"), (89, u "T_BOOLEAN"), (2, u "T_CHAR"), (1, u "T_FLOAT"), (1, u "T_DOUBLE"), (1, u "T_BYTE"), (1, u "T_SHORT"), (1, u "T_INT"), (1, u "T_LONG"), (1, u "SOFT_MAX_ARRAY_LENGTH")] 83

def k12m0 : Method := { name := "<init>", desc := "()V", sig := { parameters := [], returnType := none }, accessFlags := 2, code := none }
/-- jdk/internal/util/ArraysSupport -/
def k12 : Class := { plain "jdk/internal/util/ArraysSupport" (some 0) with
  accessFlags := 33
  interfaces := #[]
  cf := some (fileOf pool12 21 #[] #[{ accessFlags := 2, nameIndex := 9, descriptorIndex := 19, attributes := #[] }] 33 16 #[] #[{ accessFlags := 24, nameIndex := 28, descriptorIndex := 29, attributes := #[] }, { accessFlags := 26, nameIndex := 38, descriptorIndex := 39, attributes := #[] }, { accessFlags := 25, nameIndex := 121, descriptorIndex := 25, attributes := #[] }, { accessFlags := 25, nameIndex := 131, descriptorIndex := 25, attributes := #[] }, { accessFlags := 25, nameIndex := 137, descriptorIndex := 25, attributes := #[] }, { accessFlags := 25, nameIndex := 143, descriptorIndex := 25, attributes := #[] }, { accessFlags := 25, nameIndex := 53, descriptorIndex := 25, attributes := #[] }, { accessFlags := 25, nameIndex := 24, descriptorIndex := 25, attributes := #[] }, { accessFlags := 25, nameIndex := 162, descriptorIndex := 25, attributes := #[] }, { accessFlags := 25, nameIndex := 187, descriptorIndex := 25, attributes := #[] }, { accessFlags := 26, nameIndex := 48, descriptorIndex := 25, attributes := #[] }, { accessFlags := 25, nameIndex := 277, descriptorIndex := 25, attributes := #[] }, { accessFlags := 25, nameIndex := 280, descriptorIndex := 25, attributes := #[] }, { accessFlags := 25, nameIndex := 282, descriptorIndex := 25, attributes := #[] }, { accessFlags := 25, nameIndex := 284, descriptorIndex := 25, attributes := #[] }, { accessFlags := 25, nameIndex := 286, descriptorIndex := 25, attributes := #[] }, { accessFlags := 25, nameIndex := 288, descriptorIndex := 25, attributes := #[] }, { accessFlags := 25, nameIndex := 290, descriptorIndex := 25, attributes := #[] }, { accessFlags := 25, nameIndex := 292, descriptorIndex := 25, attributes := #[] }, { accessFlags := 26, nameIndex := 108, descriptorIndex := 109, attributes := #[] }, { accessFlags := 25, nameIndex := 294, descriptorIndex := 25, attributes := #[] }])
  fields := #[{ name := "U", type := (.object "jdk/internal/misc/Unsafe"), accessFlags := 24, slot := 0, constantValue := 0 }, { name := "BIG_ENDIAN", type := .boolean, accessFlags := 26, slot := 1, constantValue := 0 }, { name := "LOG2_ARRAY_BOOLEAN_INDEX_SCALE", type := .int, accessFlags := 25, slot := 2, constantValue := 0 }, { name := "LOG2_ARRAY_BYTE_INDEX_SCALE", type := .int, accessFlags := 25, slot := 3, constantValue := 0 }, { name := "LOG2_ARRAY_CHAR_INDEX_SCALE", type := .int, accessFlags := 25, slot := 4, constantValue := 0 }, { name := "LOG2_ARRAY_SHORT_INDEX_SCALE", type := .int, accessFlags := 25, slot := 5, constantValue := 0 }, { name := "LOG2_ARRAY_INT_INDEX_SCALE", type := .int, accessFlags := 25, slot := 6, constantValue := 0 }, { name := "LOG2_ARRAY_LONG_INDEX_SCALE", type := .int, accessFlags := 25, slot := 7, constantValue := 0 }, { name := "LOG2_ARRAY_FLOAT_INDEX_SCALE", type := .int, accessFlags := 25, slot := 8, constantValue := 0 }, { name := "LOG2_ARRAY_DOUBLE_INDEX_SCALE", type := .int, accessFlags := 25, slot := 9, constantValue := 0 }, { name := "LOG2_BYTE_BIT_SIZE", type := .int, accessFlags := 26, slot := 10, constantValue := 0 }, { name := "T_BOOLEAN", type := .int, accessFlags := 25, slot := 11, constantValue := 0 }, { name := "T_CHAR", type := .int, accessFlags := 25, slot := 12, constantValue := 0 }, { name := "T_FLOAT", type := .int, accessFlags := 25, slot := 13, constantValue := 0 }, { name := "T_DOUBLE", type := .int, accessFlags := 25, slot := 14, constantValue := 0 }, { name := "T_BYTE", type := .int, accessFlags := 25, slot := 15, constantValue := 0 }, { name := "T_SHORT", type := .int, accessFlags := 25, slot := 16, constantValue := 0 }, { name := "T_INT", type := .int, accessFlags := 25, slot := 17, constantValue := 0 }, { name := "T_LONG", type := .int, accessFlags := 25, slot := 18, constantValue := 0 }, { name := "JLA", type := (.object "jdk/internal/access/JavaLangAccess"), accessFlags := 26, slot := 19, constantValue := 0 }, { name := "SOFT_MAX_ARRAY_LENGTH", type := .int, accessFlags := 25, slot := 20, constantValue := 0 }]
  methods := #[k12m0]
  instanceTypes := #[]
  staticTypes := #[(.object "jdk/internal/misc/Unsafe"), .boolean, .int, .int, .int, .int, .int, .int, .int, .int, .int, .int, .int, .int, .int, .int, .int, .int, .int, (.object "jdk/internal/access/JavaLangAccess"), .int]
  resolved := Array.replicate 378 none
  statics := none }

def pool13 : Array CpInfo := pool [(1, u "java/lang/Cloneable"), (0, .class_ 1), (0, u "java/lang/Object"), (0, .class_ 3)] 3

/-- java/lang/Cloneable -/
def k13 : Class := { plain "java/lang/Cloneable" (some 0) with
  accessFlags := 1537
  interfaces := #[]
  cf := some (fileOf pool13 2 #[] #[] 1537 4 #[] #[])
  fields := #[]
  methods := #[]
  instanceTypes := #[]
  staticTypes := #[]
  resolved := Array.replicate 8 none
  statics := none }

/-- the primitive byte -/
def k14 : Class := { plain "byte" none with kind := .primitive 'B', accessFlags := 0x411 }
/-- [B -/
def k15 : Class := { plain "[B" (some 0) with kind := .array 14 .byte, interfaces := #[13, 2], accessFlags := 1041 }

/-- the primitive char -/
def k16 : Class := { plain "char" none with kind := .primitive 'C', accessFlags := 0x411 }
/-- [C -/
def k17 : Class := { plain "[C" (some 0) with kind := .array 16 .char, interfaces := #[13, 2], accessFlags := 1041 }

/-- the primitive int -/
def k18 : Class := { plain "int" none with kind := .primitive 'I', accessFlags := 0x411 }
/-- [I -/
def k19 : Class := { plain "[I" (some 0) with kind := .array 18 .int, interfaces := #[13, 2], accessFlags := 1041 }

def heap : Heap := #[{ cls := 7, slots := #[.long 0, .int 1, .null, .int 0, .null, .int 0, .int 0], vm := .statics 7 },
  { cls := 11, slots := #[.null, .null, .null], vm := .statics 11 }]
def classes : Array Class := #[k0, k1, k2, k3, k4, k5, k6, k7, k8, k9, k10, k11, k12, k13, k14, k15, k16, k17, k18, k19]
def interned : List (Array UInt16 × Addr) := []
def slotsUsed : Nat := 10
def theMethod : MethodId := ⟨1, 1⟩
def args0 : Array Value := #[.int 5, .int 6, .int 7, .int 8, .int 9]
def aboutOver (below : List Frame) : State where
  vm := { classes := classes, interned := interned.toArray }
  heap := heap
  slotsUsed := slotsUsed
  threads := #[{ frames := .invoking theMethod args0 :: below }]
def below0 : List Frame := [.native { method := ⟨0, 0⟩, args := #[] }]
def about1 : State := aboutOver below0
def p0 : Program := .bare "" "" ""
def e0 : Env := launch0.env 0 0 0
theorem w_frames : about1.frames = Frame.invoking theMethod args0 :: below0 := rfl
set_option maxRecDepth 65536 in
theorem w_args : argsFit about1.vm theMethod args0 = true := by decide +kernel
set_option maxRecDepth 65536 in
theorem w_heap : heapFits about1 = true := by decide +kernel
set_option maxRecDepth 65536 in
theorem w_runnable : about1.curStatus? = some .runnable := by decide +kernel
set_option maxRecDepth 65536 in
theorem w_alone : about1.alone = true := by decide +kernel
set_option maxRecDepth 65536 in
theorem w_named : about1.methodNamed? x = some theMethod := by decide +kernel
set_option maxRecDepth 65536 in
theorem w_hears : about1.hears theMethod below0 = true := by decide +kernel
set_option maxRecDepth 65536 in
theorem w_ripe : about1.ripe theMethod args0 below0 = true := by decide +kernel
theorem w_running : about1.status = .running := rfl
set_option maxRecDepth 65536 in
theorem w_room : about1.hasRoom e0.platform room_1 = true :=
  launch0.hasRoom_least _ room_1 (by decide +kernel) (by decide +kernel) (by decide +kernel) (by decide +kernel) (by decide +kernel) (by decide +kernel)
theorem allAtoms_all (ts : List Jvm.Cond) (a : Array Jvm.Value) (st : Jvm.State) : (allAtoms ts).before a st = ts.all (fun c => c.before a st) := by
  induction ts with
  | nil => rfl
  | cons c t ih =>
    show (Jvm.Cond.and c (allAtoms t)).before a st = _
    rw [Jvm.Cond.before_and, ih, List.all_cons]
def words1 : List Jvm.Cond := Jvm.Cond.code x code maxLocals ret :: tables_1
/-- a 'code' word, met by the world's own term for the bytes: nothing is compared byte by byte -/
theorem code_word {y : MethodName} {bytes : ByteArray} {mx : Nat} {rt : Option FieldType} {a : Array Value} {s : State} {m : MethodId} {meth : Method} {c : Code} (h1 : s.methodNamed? y = some m) (h2 : s.vm.method? m = some meth) (h3 : meth.code = some c) (h4 : c.code = bytes)
    (h5 : (c.maxLocals == mx && c.exceptionTable.isEmpty && decide (c.maxStack ≤ mostOperands) && decide (meth.sig.returnType = rt) && !meth.locks && decide (parseMethodDescriptor y.desc = some meth.sig)) = true) : (Jvm.Cond.code y bytes mx rt).before a s = true := by
  simp only [Bool.and_eq_true, beq_iff_eq, Bool.not_eq_true', decide_eq_true_eq] at h5
  obtain ⟨⟨⟨⟨⟨g1, g2⟩, g3⟩, g4⟩, g5⟩, g6⟩ := h5
  simp [Cond.before, Cond.holds, Cond.value, h1, h2, h3, h4, g1, g2, g3, g4, g5, g6]
def isCode : Jvm.Cond → Bool
  | .code _ _ _ _ => true
  | _ => false
theorem all_split {L : List Jvm.Cond} {P : Jvm.Cond → Bool} (h1 : L.all (fun c => isCode c || P c) = true) (h2 : ∀ c ∈ L.filter isCode, P c = true) : L.all P = true := by
  refine List.all_eq_true.mpr fun c hc => ?_
  have h := List.all_eq_true.mp h1 c hc
  rcases Bool.eq_false_or_eq_true (isCode c) with hi | hi
  · exact h2 c (List.mem_filter.mpr ⟨hc, hi⟩)
  · simpa [hi] using h
set_option maxRecDepth 65536 in
theorem w_c0 : (Jvm.Cond.code x code maxLocals ret).before args0 about1 = true := code_word (m := ⟨1, 1⟩) (meth := k1m1) (c := k1c1) (by decide +kernel) rfl rfl rfl (by decide +kernel)
set_option maxRecDepth 65536 in
theorem w_c1 : (Jvm.Cond.code ({ cls := "java/lang/String", name := "<init>", desc := "([C)V" } : Jvm.MethodName) jdk_42_method_3_code (2 : Nat) (Option.none : Option Jvm.ClassFile.FieldType)).before args0 about1 = true := code_word (m := ⟨7, 1⟩) (meth := k7m1) (c := k7c1) (by decide +kernel) rfl rfl rfl (by decide +kernel)
set_option maxRecDepth 65536 in
theorem w_c2 : (Jvm.Cond.code ({ cls := "java/lang/String", name := "<init>", desc := "([CIILjava/lang/Void;)V" } : Jvm.MethodName) jdk_42_method_149_code (6 : Nat) (Option.none : Option Jvm.ClassFile.FieldType)).before args0 about1 = true := code_word (m := ⟨7, 3⟩) (meth := k7m3) (c := k7c3) (by decide +kernel) rfl rfl rfl (by decide +kernel)
set_option maxRecDepth 65536 in
theorem w_c3 : (Jvm.Cond.code ({ cls := "java/lang/Object", name := "<init>", desc := "()V" } : Jvm.MethodName) object_method_1_code (1 : Nat) (Option.none : Option Jvm.ClassFile.FieldType)).before args0 about1 = true := code_word (m := ⟨0, 0⟩) (meth := k0m0) (c := k0c0) (by decide +kernel) rfl rfl rfl (by decide +kernel)
set_option maxRecDepth 65536 in
theorem w_c4 : (Jvm.Cond.code ({ cls := "java/lang/StringUTF16", name := "compress", desc := "([CII)[B" } : Jvm.MethodName) jdk_52_method_16_code (6 : Nat) (Option.some (Jvm.ClassFile.FieldType.array Jvm.ClassFile.FieldType.byte))).before args0 about1 = true := code_word (m := ⟨8, 2⟩) (meth := k8m2) (c := k8c2) (by decide +kernel) rfl rfl rfl (by decide +kernel)
set_option maxRecDepth 65536 in
theorem w_c5 : (Jvm.Cond.code ({ cls := "java/lang/StringUTF16", name := "compress", desc := "([CI[BII)I" } : Jvm.MethodName) jdk_52_method_21_code (7 : Nat) (Option.some Jvm.ClassFile.FieldType.int)).before args0 about1 = true := code_word (m := ⟨8, 3⟩) (meth := k8m3) (c := k8c3) (by decide +kernel) rfl rfl rfl (by decide +kernel)
set_option maxRecDepth 65536 in
theorem w_c6 : (Jvm.Cond.code ({ cls := "java/lang/StringUTF16", name := "coderFromArrayLen", desc := "([BI)B" } : Jvm.MethodName) jdk_52_method_15_code (2 : Nat) (Option.some Jvm.ClassFile.FieldType.byte)).before args0 about1 = true := code_word (m := ⟨8, 1⟩) (meth := k8m1) (c := k8c1) (by decide +kernel) rfl rfl rfl (by decide +kernel)
set_option maxRecDepth 65536 in
theorem w_c7 : (Jvm.Cond.code ({ cls := "com/example/narada/narada/store/QueueKey", name := "<init>", desc := "(Ljava/lang/String;I)V" } : Jvm.MethodName) prog_39_method_1_code (3 : Nat) (Option.none : Option Jvm.ClassFile.FieldType)).before args0 about1 = true := code_word (m := ⟨9, 0⟩) (meth := k9m0) (c := k9c0) (by decide +kernel) rfl rfl rfl (by decide +kernel)
set_option maxRecDepth 65536 in
theorem w_c8 : (Jvm.Cond.code ({ cls := "com/example/narada/narada/store/QueueKey", name := "equals", desc := "(Ljava/lang/Object;)Z" } : Jvm.MethodName) prog_39_method_4_code (2 : Nat) (Option.some Jvm.ClassFile.FieldType.boolean)).before args0 about1 = true := code_word (m := ⟨9, 1⟩) (meth := k9m1) (c := k9c1) (by decide +kernel) rfl rfl rfl (by decide +kernel)
set_option maxRecDepth 65536 in
theorem w_c9 : (Jvm.Cond.code ({ cls := "java/lang/String", name := "equals", desc := "(Ljava/lang/Object;)Z" } : Jvm.MethodName) jdk_42_method_66_code (3 : Nat) (Option.some Jvm.ClassFile.FieldType.boolean)).before args0 about1 = true := code_word (m := ⟨7, 2⟩) (meth := k7m2) (c := k7c2) (by decide +kernel) rfl rfl rfl (by decide +kernel)
set_option maxRecDepth 65536 in
theorem w_c10 : (Jvm.Cond.code ({ cls := "java/lang/StringLatin1", name := "equals", desc := "([B[B)Z" } : Jvm.MethodName) jdk_43_method_13_code (3 : Nat) (Option.some Jvm.ClassFile.FieldType.boolean)).before args0 about1 = true := code_word (m := ⟨10, 1⟩) (meth := k10m1) (c := k10c1) (by decide +kernel) rfl rfl rfl (by decide +kernel)
def codes1 : List Jvm.Cond := [Jvm.Cond.code x code maxLocals ret, Jvm.Cond.code ({ cls := "java/lang/String", name := "<init>", desc := "([C)V" } : Jvm.MethodName) jdk_42_method_3_code (2 : Nat) (Option.none : Option Jvm.ClassFile.FieldType), Jvm.Cond.code ({ cls := "java/lang/String", name := "<init>", desc := "([CIILjava/lang/Void;)V" } : Jvm.MethodName) jdk_42_method_149_code (6 : Nat) (Option.none : Option Jvm.ClassFile.FieldType), Jvm.Cond.code ({ cls := "java/lang/Object", name := "<init>", desc := "()V" } : Jvm.MethodName) object_method_1_code (1 : Nat) (Option.none : Option Jvm.ClassFile.FieldType), Jvm.Cond.code ({ cls := "java/lang/StringUTF16", name := "compress", desc := "([CII)[B" } : Jvm.MethodName) jdk_52_method_16_code (6 : Nat) (Option.some (Jvm.ClassFile.FieldType.array Jvm.ClassFile.FieldType.byte)), Jvm.Cond.code ({ cls := "java/lang/StringUTF16", name := "compress", desc := "([CI[BII)I" } : Jvm.MethodName) jdk_52_method_21_code (7 : Nat) (Option.some Jvm.ClassFile.FieldType.int), Jvm.Cond.code ({ cls := "java/lang/StringUTF16", name := "coderFromArrayLen", desc := "([BI)B" } : Jvm.MethodName) jdk_52_method_15_code (2 : Nat) (Option.some Jvm.ClassFile.FieldType.byte), Jvm.Cond.code ({ cls := "com/example/narada/narada/store/QueueKey", name := "<init>", desc := "(Ljava/lang/String;I)V" } : Jvm.MethodName) prog_39_method_1_code (3 : Nat) (Option.none : Option Jvm.ClassFile.FieldType), Jvm.Cond.code ({ cls := "com/example/narada/narada/store/QueueKey", name := "equals", desc := "(Ljava/lang/Object;)Z" } : Jvm.MethodName) prog_39_method_4_code (2 : Nat) (Option.some Jvm.ClassFile.FieldType.boolean), Jvm.Cond.code ({ cls := "java/lang/String", name := "equals", desc := "(Ljava/lang/Object;)Z" } : Jvm.MethodName) jdk_42_method_66_code (3 : Nat) (Option.some Jvm.ClassFile.FieldType.boolean), Jvm.Cond.code ({ cls := "java/lang/StringLatin1", name := "equals", desc := "([B[B)Z" } : Jvm.MethodName) jdk_43_method_13_code (3 : Nat) (Option.some Jvm.ClassFile.FieldType.boolean)]
set_option maxRecDepth 65536 in
theorem codes_eq : words1.filter isCode = codes1 := rfl
theorem w_codes : ∀ c ∈ words1.filter isCode, c.before args0 about1 = true := by
  rw [codes_eq]
  intro c hc
  simp only [codes1, List.mem_cons, List.not_mem_nil, or_false] at hc
  rcases hc with rfl | rfl | rfl | rfl | rfl | rfl | rfl | rfl | rfl | rfl | rfl
  · exact w_c0
  · exact w_c1
  · exact w_c2
  · exact w_c3
  · exact w_c4
  · exact w_c5
  · exact w_c6
  · exact w_c7
  · exact w_c8
  · exact w_c9
  · exact w_c10
set_option maxRecDepth 65536 in
theorem w_t1 : (words1.take 24).all (fun c => isCode c || c.before args0 about1) = true := by decide +kernel
set_option maxRecDepth 65536 in
theorem w_t2 : ((words1.drop 24).take 24).all (fun c => isCode c || c.before args0 about1) = true := by decide +kernel
set_option maxRecDepth 65536 in
theorem w_t3 : ((words1.drop 24).drop 24).all (fun c => isCode c || c.before args0 about1) = true := by decide +kernel
theorem w_tables : (allAtoms (Jvm.Cond.code x code maxLocals ret :: tables_1)).before args0 about1 = true := by
  rw [allAtoms_all]
  show words1.all (fun c => c.before args0 about1) = true
  refine all_split ?_ w_codes
  rw [← List.take_append_drop 24 words1, List.all_append, w_t1, ← List.take_append_drop 24 (words1.drop 24), List.all_append, w_t2, w_t3]
  rfl
set_option maxRecDepth 65536 in
theorem w_rest : rest_1_c.before args0 about1 = true := by decide +kernel
set_option maxRecDepth 65536 in
theorem w_case : (Jvm.Cond.and given_1 narrow_1).before args0 about1 = true := by decide +kernel
theorem w_applies : (headSpec (Jvm.Cond.code x code maxLocals ret :: tables_1) room_1).applies x e0.platform about1 = true :=
  (Spec.applies_iff w_frames).mpr ⟨w_running, w_runnable, w_alone, w_named, w_hears, w_ripe, w_room, w_tables⟩
theorem atStart : AtStart classFile x code maxLocals ret World_1 tables_1 room_1 Calls_1 rest_1 Pre_1 launch0 p0 e0 about1 theMethod args0 below0 :=
  ⟨lists_1, trivial, launch0.admits_env _ _ _, launch0.least_env, fairChoices_fair.cas, fairChoices_fair.clock, w_frames, w_args, w_heap, w_applies, trivial, w_rest, w_case⟩
end start1
theorem witness_1 : WitnessClaimed_1 := ⟨start1.p0, start1.e0, start1.about1, start1.theMethod, start1.args0, start1.below0, start1.atStart⟩
end Jvm.Pilot.@@N@@
