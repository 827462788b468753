import JvmDerived
import JvmDerived.Pilot.@@N@@Statement
import JvmDerived.Pilot.@@N@@Code
set_option linter.unusedVariables false
set_option linter.unusedSimpArgs false
namespace Jvm.RoadKit
open Sem ClassFile Op Lib Jvm.Stand Jvm.Free Jvm.LawKit
section New
variable {p : Program} {l : Launch} {e : Env} {R : Room} {s : State} {m : MethodId} {args : Array Value} {below : List Frame} {meth : Method} {c : Code} {T : State} {locs : List Loc} {cells slots : Nat}
theorem retI (X : Stand p l e R s m args below meth c T locs cells slots) (hx : p.tables.exec = Jvm.exec) {pc : Nat} {Ls : Array Slot} {z : Int32} {rest : List Value} (hret : meth.sig.returnType = some .int) (hd : decode c.code pc = .ok (.ireturn, 1)) {fs : List Frame}
    (hl : ∀ (f : JFrame) (acts : List Action), f.method = m → f.locked = none → f.entered = [] → (doReturn e (T.setTop f) acts (some (.int z))).1 = T.setFrames fs) : Steps p.tables e below (T.setTop (mkF m pc Ls (.int z :: rest))) (T.setFrames fs) := by
  have hm' : T.vm.method? m = some meth := X.method'
  have hn : narrow .int (.int z) = .int z := rfl
  show Steps p.tables e below (T.setTop { method := m, pc := pc, locals := Ls, stack := _ :: rest, locked := none }) _
  jvm_step X.here [X.here.top, hx, hd, hm', hret, hn]
  first | (intro acts; rw [hl _ acts rfl rfl rfl]) | rw [hl _ _ rfl rfl rfl]
  exact Steps.refl _
theorem own_retJ (X : Stand p l e R s m args below meth c T locs cells slots) (hx : p.tables.exec = Jvm.exec) {pc : Nat} {Ls : Array Slot} {z : Int64} {rest : List Value} (hret : meth.sig.returnType = some .long) (hd : decode c.code pc = .ok (.lreturn, 1)) {fs : List Frame}
    (hl : ∀ (f : JFrame) (acts : List Action), f.method = m → f.locked = none → f.entered = [] → (doReturn e (T.setTop f) acts (some (.long z))).1 = T.setFrames fs) : Steps p.tables e below (T.setTop (mkF m pc Ls (.long z :: rest))) (T.setFrames fs) := by
  have hm' : T.vm.method? m = some meth := X.method'
  have hn : narrow .long (.long z) = .long z := rfl
  show Steps p.tables e below (T.setTop { method := m, pc := pc, locals := Ls, stack := _ :: rest, locked := none }) _
  jvm_step X.here [X.here.top, hx, hd, hm', hret, hn]
  first | (intro acts; rw [hl _ acts rfl rfl rfl]) | rw [hl _ _ rfl rfl rfl]
  exact Steps.refl _
theorem own_cR (a : Addr) : (Value.ref a).category = 1 := rfl
theorem own_cI (a : Int32) : (Value.int a).category = 1 := rfl
theorem own_cJ (a : Int64) : (Value.long a).category = 2 := rfl
theorem own_cN : Value.null.category = 1 := rfl
theorem own_hide (X : Stand p l e R s m args below meth c T locs cells slots) {n0 : Nat} (N : Fr n0 locs) : ∃ lo, Stand p l e R s m args below meth c T lo cells slots ∧ Fr n0 lo := ⟨locs, X, N⟩
theorem own_catV {v : Value} (h : v.isRef = true) : v.category = 1 := by cases v <;> first | rfl | cases h
theorem own_retA (X : Stand p l e R s m args below meth c T locs cells slots) (hx : p.tables.exec = Jvm.exec) {pc : Nat} {Ls : Array Slot} {w : Value} {t : FieldType} {rest : List Value} (hret : meth.sig.returnType = some t) (ht : t.isReference = true) (hw : w.isRef = true) (hd : decode c.code pc = .ok (.areturn, 1)) {fs : List Frame}
    (hl : ∀ (f : JFrame) (acts : List Action), f.method = m → f.locked = none → f.entered = [] → (doReturn e (T.setTop f) acts (some w)).1 = T.setFrames fs) : Steps p.tables e below (T.setTop (mkF m pc Ls (w :: rest))) (T.setFrames fs) := by
  have hm' : T.vm.method? m = some meth := X.method'
  show Steps p.tables e below (T.setTop { method := m, pc := pc, locals := Ls, stack := w :: rest, locked := none }) _
  jvm_step X.here [X.here.top, hx, hd, hm', hret, ht, hw]
  first | (intro acts; rw [hl _ acts rfl rfl rfl]) | rw [hl _ _ rfl rfl rfl]
  exact Steps.refl _
variable {Z : State} {h : Heap}
theorem own_len (X : Stand p l e R s m args below meth c T locs cells slots) (hx : p.tables.exec = Jvm.exec) (hZ : Z.Warmed39 s.vm) (eT : T.heap = h) {a : Addr} {k : ClassId} {ty : FieldType} {z : Int32} {vs : List Value} {dv : Value} (F : Arv Z h a k ty z vs dv) {g : JFrame} (hg : g.method = m) {rest : List Value} (hs : g.stack = .ref a :: rest) (hd : decode c.code g.pc = .ok (.arraylength, 1)) (target : State)
    (hr : Steps p.tables e below (T.setTop { g with pc := g.pc + 1, stack := .int z :: rest }) target) : Steps p.tables e below (T.setTop g) target := by
  obtain ⟨cl, A, -, S, N, -, -⟩ := F
  refine X.arraylength hx (by rw [eT]; exact A.1) (State.isArrayOf_alike hZ.alike A.2.1) hg hs hd _ ?_
  rw [len_of S N]; exact hr
theorem own_aaload (X : Stand p l e R s m args below meth c T locs cells slots) (hx : p.tables.exec = Jvm.exec) (hZ : Z.Warmed39 s.vm) (eT : T.heap = h) {a : Addr} {k : ClassId} {ty : FieldType} {z : Int32} {vs : List Value} {dv : Value} (F : Arv Z h a k ty z vs dv) (hty : ty.isReference = true) {j : Int32} (hj : ¬ j < 0 ∧ j < z) {v : Value} (hv : vs.getD j.toNatClampNeg dv = v) {g : JFrame} (hg : g.method = m) {rest : List Value} (hs : g.stack = .int j :: .ref a :: rest) (hd : decode c.code g.pc = .ok (.aaload, 1)) (target : State)
    (hr : Steps p.tables e below (T.setTop { g with pc := g.pc + 1, stack := v :: rest }) target) : Steps p.tables e below (T.setTop g) target := by
  obtain ⟨cl, A, -, S, N, H, -⟩ := F
  have hin := inb_of S hj
  exact X.aaload hx (by rw [eT]; exact A.1) (State.isArrayOf_alike hZ.alike A.2.1) hty A.2.2 hin (H.at hin hv) hg hs hd _ hr
theorem own_baload (X : Stand p l e R s m args below meth c T locs cells slots) (hx : p.tables.exec = Jvm.exec) (hZ : Z.Warmed39 s.vm) (eT : T.heap = h) {a : Addr} {k : ClassId} {z : Int32} {vs : List Value} {dv : Value} (F : Arv Z h a k .byte z vs dv) {j : Int32} (hj : ¬ j < 0 ∧ j < z) {v : Value} (hv : vs.getD j.toNatClampNeg dv = v) {g : JFrame} (hg : g.method = m) {rest : List Value} (hs : g.stack = .int j :: .ref a :: rest) (hd : decode c.code g.pc = .ok (.baload, 1)) (target : State)
    (hr : Steps p.tables e below (T.setTop { g with pc := g.pc + 1, stack := v :: rest }) target) : Steps p.tables e below (T.setTop g) target := by
  obtain ⟨cl, A, -, S, N, H, -⟩ := F
  have hin := inb_of S hj
  exact X.baloadBytes hx (by rw [eT]; exact A.1) (State.isArrayOf_alike hZ.alike A.2.1) A.2.2 hin (H.at hin hv) hg hs hd _ hr
theorem own_stR (X : Stand p l e R s m args below meth c T locs cells slots) (hx : p.tables.exec = Jvm.exec) (hZ : Z.Warmed39 s.vm) (eT : T.heap = h) {a y : Addr} {k : ClassId} {C : String} {z : Int32} {vs : List Value} {dv : Value} (F : Arv Z h a k (.object C) z vs dv) (O : Ovr Z k C) (I : Ins Z h y C true) {j : Int32} (hj : ¬ j < 0 ∧ j < z) {i : Nat} (hi : j.toNatClampNeg = i) (hl : i < vs.length) {g : JFrame} (hg : g.method = m) {rest : List Value} (hs : g.stack = .ref y :: .int j :: .ref a :: rest) (hd : decode c.code g.pc = .ok (.aastore, 1)) :
    ∃ T' h', Stand p l e R s m args below meth c T' (locs ++ [⟨a, j.toNatClampNeg⟩]) cells slots ∧ T'.heap = h' ∧ Wr h h' a j.toNatClampNeg (.ref y) ∧ Arv Z h' a k (.object C) z (vs.set i (.ref y)) dv ∧ ∀ target, Steps p.tables e below (T'.setTop { g with pc := g.pc + 1, stack := rest }) target → Steps p.tables e below (T.setTop g) target := by
  obtain ⟨cl, A, q, S, N, H, G⟩ := F
  obtain ⟨T', h', X', e', W, st⟩ := stR X hx hZ eT A (inb_of S hj) rfl (Sto.ofV A q O I) hg hs hd
  exact ⟨T', h', X', e', W, Arv.set A q S N H G rfl W i hi hl, st⟩
theorem own_stC (X : Stand p l e R s m args below meth c T locs cells slots) (hx : p.tables.exec = Jvm.exec) (hZ : Z.Warmed39 s.vm) (eT : T.heap = h) {a : Addr} {k : ClassId} {z x : Int32} {vs : List Value} {dv : Value} (F : Arv Z h a k .char z vs dv) {j : Int32} (hj : ¬ j < 0 ∧ j < z) {i : Nat} (hi : j.toNatClampNeg = i) (hl : i < vs.length) {g : JFrame} (hg : g.method = m) {rest : List Value} (hs : g.stack = .int x :: .int j :: .ref a :: rest) (hd : decode c.code g.pc = .ok (.castore, 1)) :
    ∃ T' h', Stand p l e R s m args below meth c T' (locs ++ [⟨a, j.toNatClampNeg⟩]) cells slots ∧ T'.heap = h' ∧ Wr h h' a j.toNatClampNeg (.int (nar .char x)) ∧ Arv Z h' a k .char z (vs.set i (.int (nar .char x))) dv ∧ ∀ target, Steps p.tables e below (T'.setTop { g with pc := g.pc + 1, stack := rest }) target → Steps p.tables e below (T.setTop g) target := by
  obtain ⟨cl, A, q, S, N, H, G⟩ := F
  obtain ⟨T', h', X', e', W, st⟩ := stC X hx hZ eT A (inb_of S hj) hg hs hd
  exact ⟨T', h', X', e', W, Arv.set A q S N H G (fits_nar_char _) W i hi hl, st⟩
theorem own_stB (X : Stand p l e R s m args below meth c T locs cells slots) (hx : p.tables.exec = Jvm.exec) (hZ : Z.Warmed39 s.vm) (eT : T.heap = h) {a : Addr} {k : ClassId} {z x : Int32} {vs : List Value} {dv : Value} (F : Arv Z h a k .byte z vs dv) {j : Int32} (hj : ¬ j < 0 ∧ j < z) {i : Nat} (hi : j.toNatClampNeg = i) (hl : i < vs.length) {g : JFrame} (hg : g.method = m) {rest : List Value} (hs : g.stack = .int x :: .int j :: .ref a :: rest) (hd : decode c.code g.pc = .ok (.bastore, 1)) :
    ∃ T' h', Stand p l e R s m args below meth c T' (locs ++ [⟨a, j.toNatClampNeg⟩]) cells slots ∧ T'.heap = h' ∧ Wr h h' a j.toNatClampNeg (.int (nar .byte x)) ∧ Arv Z h' a k .byte z (vs.set i (.int (nar .byte x))) dv ∧ ∀ target, Steps p.tables e below (T'.setTop { g with pc := g.pc + 1, stack := rest }) target → Steps p.tables e below (T.setTop g) target := by
  obtain ⟨cl, A, q, S, N, H, G⟩ := F
  obtain ⟨T', h', X', e', W, st⟩ := stB X hx hZ eT A (inb_of S hj) hg hs hd
  exact ⟨T', h', X', e', W, Arv.set A q S N H G (fits_nar_byte _) W i hi hl, st⟩
end New
end Jvm.RoadKit
/- laws to paste: Road.backV, Road.eqW, Road.codOf (cut by pick.py; bodies as the Statement names them) -/
namespace Jvm.Pilot.@@N@@
namespace StrChars
open Jvm Sem ClassFile Op Lib Jvm.Stand Jvm.Free.XT Jvm.Free.ALB Jvm.Free.JM Jvm.Free
open Jvm.Lib.Cold (StaticIs)
/-- a char array whose places are chars -/
def Ch (a : Addr) (A : Cell) (U : State) : Prop := Arr .char a A U ∧ Typed .char A
theorem Ch.mv {a : Addr} {A : Cell} {U U' : State} (h : Ch a A U) (hal : U.vm.Alike U'.vm) (hh : U'.heap = U.heap) : Ch a A U' := ⟨h.1.mv hal hh, h.2⟩
theorem Ch.keep {a : Addr} {A : Cell} {U U' : State} (h : Ch a A U) (hal : U.vm.Alike U'.vm) (hk : U'.heap[a]? = some A) : Ch a A U' := ⟨h.1.keep hal hk, h.2⟩
/-- what place i of a char[]'s cell holds -/
def cv (A : Cell) (i : Nat) : Int32 := match A.slots[i]? with | some (.int x) => x | _ => 0
theorem Ch.get {a : Addr} {A : Cell} {U : State} (h : Ch a A U) {i : Nat} (hi : i < A.slots.size) : A.slots[i]? = some (.int (cv A i)) := by
  have e := Array.getElem?_eq_getElem hi
  have f := h.2 i _ e
  unfold cv; rw [e]
  generalize A.slots[i] = v at f
  cases v <;> simp [fits] at f ⊢
/-- the byte that i2b leaves of a char -/
def lo8 (x : Int32) : Int32 := x.toInt8.toInt32
theorem fits_lo8 (y : Int32) : fits .byte (.int (lo8 y)) = true := by
  have h1 := y.toInt8.le_toInt
  have h2 := y.toInt8.toInt_lt
  simp only [lo8, fits, Bool.and_eq_true, decide_eq_true_eq, Int32.le_iff_toInt_le, Int8.toInt_toInt32, show (-128 : Int32).toInt = -128 from by decide, show (127 : Int32).toInt = 127 from by decide]
  omega
/-- A' is A but that each place j of lo .. hi - 1 holds f j -/
def Laid (A A' : Cell) (lo hi : Nat) (f : Nat → Value) : Prop := A'.cls = A.cls ∧ A'.vm = A.vm ∧ A'.slots.size = A.slots.size ∧ ∀ i, A'.slots[i]? = if lo ≤ i ∧ i < hi then some (f i) else A.slots[i]?
theorem Laid.zero (A : Cell) (lo : Nat) (f : Nat → Value) : Laid A A lo (lo + 0) f := ⟨rfl, rfl, rfl, fun i => by rw [if_neg (by omega)]⟩
theorem Laid.step {A Ak : Cell} {lo k : Nat} {f : Nat → Value} {v : Value} (h : Laid A Ak lo k f) (hlo : lo ≤ k) (hk : k < Ak.slots.size) (hv : v = f k) : Laid A (Ak.setSlot k v) lo (k + 1) f := by
  refine ⟨h.1, h.2.1, by simpa [Cell.setSlot] using h.2.2.1, fun i => ?_⟩
  by_cases e : k = i
  · subst e; rw [Cell.slots_setSlot_self v hk, if_pos (by omega), hv]
  · rw [Cell.slots_setSlot_ne v e, h.2.2.2 i]
    by_cases q : lo ≤ i ∧ i < k
    · rw [if_pos q, if_pos (by omega)]
    · rw [if_neg q, if_neg (by omega)]
def U16 : String := "java/lang/StringUTF16"
namespace Cmp5
def yN : MethodName := ⟨"java/lang/StringUTF16", "compress", "([CI[BII)I"⟩
abbrev yB : ByteArray := jdk_52_method_21_code
theorem d0 : decode yB 0 = .ok (.iconst 0, 1) := by decide +kernel
theorem d1 : decode yB 1 = .ok (.istore 5, 2) := by decide +kernel
theorem d3 : decode yB 3 = .ok (.iload 5, 2) := by decide +kernel
theorem d5 : decode yB 5 = .ok (.iload 4, 2) := by decide +kernel
theorem d7 : decode yB 7 = .ok (.if_icmp (.ge) 37, 3) := by decide +kernel
theorem d10 : decode yB 10 = .ok (.aload_n 0, 1) := by decide +kernel
theorem d11 : decode yB 11 = .ok (.iload_n 1, 1) := by decide +kernel
theorem d12 : decode yB 12 = .ok (.caload, 1) := by decide +kernel
theorem d13 : decode yB 13 = .ok (.istore 6, 2) := by decide +kernel
theorem d15 : decode yB 15 = .ok (.iload 6, 2) := by decide +kernel
theorem d17 : decode yB 17 = .ok (.sipush 255, 3) := by decide +kernel
theorem d20 : decode yB 20 = .ok (.if_icmp (.le) 6, 3) := by decide +kernel
theorem d26 : decode yB 26 = .ok (.aload_n 2, 1) := by decide +kernel
theorem d27 : decode yB 27 = .ok (.iload_n 3, 1) := by decide +kernel
theorem d28 : decode yB 28 = .ok (.iload 6, 2) := by decide +kernel
theorem d30 : decode yB 30 = .ok (.i2b, 1) := by decide +kernel
theorem d31 : decode yB 31 = .ok (.bastore, 1) := by decide +kernel
theorem d32 : decode yB 32 = .ok (.iinc 1 1, 3) := by decide +kernel
theorem d35 : decode yB 35 = .ok (.iinc 3 1, 3) := by decide +kernel
theorem d38 : decode yB 38 = .ok (.iinc 5 1, 3) := by decide +kernel
theorem d41 : decode yB 41 = .ok (.goto (-38), 3) := by decide +kernel
theorem d44 : decode yB 44 = .ok (.iload 4, 2) := by decide +kernel
theorem d46 : decode yB 46 = .ok (.ireturn, 1) := by decide +kernel
def site : List Cond := []
def tab : Cond := tabOf yN yB 7 (some .int) site
def P (b : Addr) (A : Cell) (d : Addr) (B : Cell) (o q len : Nat) (args : Array Value) (s : State) : Prop := args = #[.ref b, .int (Int32.ofNat o), .ref d, .int (Int32.ofNat q), .int (Int32.ofNat len)] ∧ Ch b A s ∧ Arr .byte d B s ∧ b ≠ d ∧ o + len ≤ A.slots.size ∧ q + len ≤ B.slots.size ∧ ∀ i, i < len → ¬ 255 < cv A (o + i)
def E (b : Addr) (A : Cell) (d : Addr) (B : Cell) (o q len : Nat) (r : Option Value) (s u : State) : Prop := r = some (.int (Int32.ofNat len)) ∧ ∃ B', Put d B' s u ∧ Laid B B' q (q + len) (fun j => Value.int (lo8 (cv A (o + (j - q)))))
/-- no char of the range above 255: len; the places written hold each char's low byte -/
theorem law (l : Launch) (b : Addr) (A : Cell) (d : Addr) (B : Cell) (o q len : Nat) : Law l yN 5 5 0 0 yB 7 (some .int) site (P b A d B o q len) (E b A d B o q len) (copyLocs d q len) 0 0 := by
  refine Law.of_walk (plainFor_of_name (by decide +kernel)) (by decide +kernel) (by decide +kernel) (by decide) (fun _ _ h => by rw [h.1]; rfl) (fun _ U U' hal hh h => ⟨h.1, h.2.1.mv hal hh, h.2.2.1.mv hal hh, h.2.2.2⟩) (fun r U U' V V' h1 hal h2 h => ⟨h.1, h.2.elim fun B' q => ⟨B', q.1.mv h1 h2, q.2⟩⟩) ?_
  intro p e s m args below meth c s₁ X0 hexec hbytes hml hret hlk hnm hown hh0 W hP
  obtain ⟨rfl, hA, hB, hne, l1, l2, hp⟩ := hP
  have c1 : Steps p.tables e below (s₁.setTop (entryFrame m #[.ref b, .int (Int32.ofNat o), .ref d, .int (Int32.ofNat q), .int (Int32.ofNat len)] 7)) (s₁.setTop (mkF m 0 #[.val (.ref b), .val (.int (Int32.ofNat o)), .val (.ref d), .val (.int (Int32.ofNat q)), .val (.int (Int32.ofNat len)), .unset, .unset] [])) := entry rfl
  have hA0 := hA.1.mv X0.warmed.alike hh0
  have hB0 := hB.mv X0.warmed.alike hh0
  have a31 := hA.1.2.2.2
  have c2 : Steps p.tables e below (s₁.setTop (entryFrame m #[.ref b, .int (Int32.ofNat o), .ref d, .int (Int32.ofNat q), .int (Int32.ofNat len)] 7)) (s₁.setTop (mkF m 3 #[.val (.ref b), .val (.int (Int32.ofNat o)), .val (.ref d), .val (.int (Int32.ofNat q)), .val (.int (Int32.ofNat len)), .val (.int 0), .unset] [])) := c1.trans (by
    refine iconstV X0.here hexec rfl 0 (hb hbytes d0) (by decide) ?_
    refine XS.istore X0.here hexec rfl (hb hbytes d1) rfl rfl ?_
    exact Steps.refl _)
  have loop : ∀ (r i : Nat), i + r = len → ∀ (z : Slot), (z = .unset ∨ ∃ w, z = .val w ∧ w.category = 1) → ∀ (Tl : State) (Bk : Cell), Stand p l e { frames := 0, locals := 0, cells := 0, slots := 0 } s m #[.ref b, .int (Int32.ofNat o), .ref d, .int (Int32.ofNat q), .int (Int32.ofNat len)] below meth c Tl ([] ++ copyLocs d q i) 0 0 → Put d Bk s₁ Tl → Laid B Bk q (q + i) (fun j => Value.int (lo8 (cv A (o + (j - q))))) →
      Steps p.tables e below (s₁.setTop (entryFrame m #[.ref b, .int (Int32.ofNat o), .ref d, .int (Int32.ofNat q), .int (Int32.ofNat len)] 7)) (Tl.setTop (mkF m 3 #[.val (.ref b), .val (.int (Int32.ofNat (o + i))), .val (.ref d), .val (.int (Int32.ofNat (q + i))), .val (.int (Int32.ofNat len)), .val (.int (Int32.ofNat i)), z] [])) → ∃ (T' : State) (B' : Cell) (z' : Slot), Stand p l e { frames := 0, locals := 0, cells := 0, slots := 0 } s m #[.ref b, .int (Int32.ofNat o), .ref d, .int (Int32.ofNat q), .int (Int32.ofNat len)] below meth c T' ([] ++ copyLocs d q len) 0 0 ∧ Put d B' s₁ T' ∧ Laid B B' q (q + len) (fun j => Value.int (lo8 (cv A (o + (j - q))))) ∧
      Steps p.tables e below (s₁.setTop (entryFrame m #[.ref b, .int (Int32.ofNat o), .ref d, .int (Int32.ofNat q), .int (Int32.ofNat len)] 7)) (T'.setTop (mkF m 3 #[.val (.ref b), .val (.int (Int32.ofNat (o + len))), .val (.ref d), .val (.int (Int32.ofNat (q + len))), .val (.int (Int32.ofNat len)), .val (.int (Int32.ofNat len)), z'] [])) := by
    intro r
    induction r with
    | zero =>
      intro i hi z hz Tl Bk Xl pl fl cl
      have hil : i = len := by omega
      rw [hil] at Xl fl cl
      exact ⟨Tl, Bk, z, Xl, pl, fl, cl⟩
    | succ r ih =>
      intro i hi z hz Tl Bk Xl pl fl cl
      have all := X0.warmed.alike.symm.trans Xl.warmed.alike
      have hAl := hA0.keep all (pl.other hne hA0.1)
      have hBk := hB0.like all pl.1 fl.1 fl.2.1 fl.2.2.1
      have hlt : q + i < Bk.slots.size := by rw [fl.2.2.1]; omega
      have c3 : Steps p.tables e below (s₁.setTop (entryFrame m #[.ref b, .int (Int32.ofNat o), .ref d, .int (Int32.ofNat q), .int (Int32.ofNat len)] 7)) (Tl.setTop (mkF m 12 #[.val (.ref b), .val (.int (Int32.ofNat (o + i))), .val (.ref d), .val (.int (Int32.ofNat (q + i))), .val (.int (Int32.ofNat len)), .val (.int (Int32.ofNat i)), z] [.int (Int32.ofNat (o + i)), .ref b])) := cl.trans (by
        refine XS.iload Xl.here hexec rfl (hb hbytes d3) rfl ?_
        refine XS.iload Xl.here hexec rfl (hb hbytes d5) rfl ?_
        refine XS.icmpNo Xl.here hexec rfl (hb hbytes d7) rfl (ii_ge_f (lt32 (by omega) (by omega))) ?_
        refine XS.aloadN Xl.here hexec rfl (hb hbytes d10) rfl rfl ?_
        refine XS.iloadN Xl.here hexec rfl (hb hbytes d11) rfl ?_
        exact Steps.refl _)
      have c4 : Steps p.tables e below (s₁.setTop (entryFrame m #[.ref b, .int (Int32.ofNat o), .ref d, .int (Int32.ofNat q), .int (Int32.ofNat len)] 7)) (Tl.setTop (mkF m 13 #[.val (.ref b), .val (.int (Int32.ofNat (o + i))), .val (.ref d), .val (.int (Int32.ofNat (q + i))), .val (.int (Int32.ofNat len)), .val (.int (Int32.ofNat i)), z] [.int (cv A (o + i))])) := c3.trans (by
        refine Xl.aget hexec hAl rfl (hA.get (i := o + i) (by omega)) rfl rfl (hb hbytes d12) ?_
        exact Steps.refl _)
      have c5 : Steps p.tables e below (s₁.setTop (entryFrame m #[.ref b, .int (Int32.ofNat o), .ref d, .int (Int32.ofNat q), .int (Int32.ofNat len)] 7)) (Tl.setTop (mkF m 15 #[.val (.ref b), .val (.int (Int32.ofNat (o + i))), .val (.ref d), .val (.int (Int32.ofNat (q + i))), .val (.int (Int32.ofNat len)), .val (.int (Int32.ofNat i)), .val (.int (cv A (o + i)))] [])) := c4.trans (by
        refine XS.istoreS Xl.here hexec rfl (hb hbytes d13) rfl rfl hz ?_
        exact Steps.refl _)
      have c6 : Steps p.tables e below (s₁.setTop (entryFrame m #[.ref b, .int (Int32.ofNat o), .ref d, .int (Int32.ofNat q), .int (Int32.ofNat len)] 7)) (Tl.setTop (mkF m 31 #[.val (.ref b), .val (.int (Int32.ofNat (o + i))), .val (.ref d), .val (.int (Int32.ofNat (q + i))), .val (.int (Int32.ofNat len)), .val (.int (Int32.ofNat i)), .val (.int (cv A (o + i)))] [.int (lo8 (cv A (o + i))), .int (Int32.ofNat (q + i)), .ref d])) := c5.trans (by
        refine XS.iload Xl.here hexec rfl (hb hbytes d15) rfl ?_
        refine sipushV Xl.here hexec rfl 255 (hb hbytes d17) (by decide) ?_
        refine XS.icmpYes Xl.here hexec rfl (pc0 := 20) rfl (hb hbytes d20) rfl (ii_le_t (hp i (by omega))) (by decide) rfl ?_
        refine XS.aloadN Xl.here hexec rfl (hb hbytes d26) rfl rfl ?_
        refine XS.iloadN Xl.here hexec rfl (hb hbytes d27) rfl ?_
        refine XS.iload Xl.here hexec rfl (hb hbytes d28) rfl ?_
        refine i2b Xl.here hexec rfl (hb hbytes d30) rfl ?_
        exact Steps.refl _)
      obtain ⟨T7, X7, p7, st7⟩ := Xl.aput hexec hBk rfl hlt rfl (fits_lo8 (cv A (o + i))) (g := (mkF m 31 #[.val (.ref b), .val (.int (Int32.ofNat (o + i))), .val (.ref d), .val (.int (Int32.ofNat (q + i))), .val (.int (Int32.ofNat len)), .val (.int (Int32.ofNat i)), .val (.int (cv A (o + i)))] [.int (lo8 (cv A (o + i))), .int (Int32.ofNat (q + i)), .ref d])) rfl (rest := []) rfl (hb hbytes d31)
      have c8 : Steps p.tables e below (s₁.setTop (entryFrame m #[.ref b, .int (Int32.ofNat o), .ref d, .int (Int32.ofNat q), .int (Int32.ofNat len)] 7)) (T7.setTop (mkF m 32 #[.val (.ref b), .val (.int (Int32.ofNat (o + i))), .val (.ref d), .val (.int (Int32.ofNat (q + i))), .val (.int (Int32.ofNat len)), .val (.int (Int32.ofNat i)), .val (.int (cv A (o + i)))] [])) := c6.trans (st7 _ (Steps.refl _))
      have c9 : Steps p.tables e below (s₁.setTop (entryFrame m #[.ref b, .int (Int32.ofNat o), .ref d, .int (Int32.ofNat q), .int (Int32.ofNat len)] 7)) (T7.setTop (mkF m 3 #[.val (.ref b), .val (.int (Int32.ofNat (o + i) + 1)), .val (.ref d), .val (.int (Int32.ofNat (q + i) + 1)), .val (.int (Int32.ofNat len)), .val (.int (Int32.ofNat i + 1)), .val (.int (cv A (o + i)))] [])) := c8.trans (by
        refine iincV X7.here hexec rfl 1 (hb hbytes d32) (by decide) rfl rfl ?_
        refine iincV X7.here hexec rfl 1 (hb hbytes d35) (by decide) rfl rfl ?_
        refine iincV X7.here hexec rfl 1 (hb hbytes d38) (by decide) rfl rfl ?_
        refine XS.goto X7.here hexec rfl (pc0 := 41) rfl (hb hbytes d41) (by decide) rfl ?_
        exact Steps.refl _)
      have c10 : Steps p.tables e below (s₁.setTop (entryFrame m #[.ref b, .int (Int32.ofNat o), .ref d, .int (Int32.ofNat q), .int (Int32.ofNat len)] 7)) (T7.setTop (mkF m 3 #[.val (.ref b), .val (.int (Int32.ofNat (o + (i + 1)))), .val (.ref d), .val (.int (Int32.ofNat (q + (i + 1)))), .val (.int (Int32.ofNat len)), .val (.int (Int32.ofNat (i + 1))), .val (.int (cv A (o + i)))] [])) := by
        have := c9
        rw [succ32, succ32, succ32] at this
        exact this
      exact ih (i + 1) (by omega) _ (Or.inr ⟨_, rfl, rfl⟩) T7 _ (by rw [copyLocs_step, ← List.append_assoc]; exact X7) (pl.trans p7) (fl.step (by omega) hlt (by simp)) c10
  obtain ⟨T9, B9, z9, X9, p9, f9, g9⟩ := loop len 0 (by omega) .unset (Or.inl rfl) s₁ B (by simpa [copyLocs] using X0) ⟨hB0.1, fun _ _ => rfl, rfl⟩ (Laid.zero _ _ _) c2
  have c11 : Steps p.tables e below (s₁.setTop (entryFrame m #[.ref b, .int (Int32.ofNat o), .ref d, .int (Int32.ofNat q), .int (Int32.ofNat len)] 7)) (T9.setTop (mkF m 46 #[.val (.ref b), .val (.int (Int32.ofNat (o + len))), .val (.ref d), .val (.int (Int32.ofNat (q + len))), .val (.int (Int32.ofNat len)), .val (.int (Int32.ofNat len)), z9] [.int (Int32.ofNat len)])) := g9.trans (by
    refine XS.iload X9.here hexec rfl (hb hbytes d3) rfl ?_
    refine XS.iload X9.here hexec rfl (hb hbytes d5) rfl ?_
    refine XS.icmpYes X9.here hexec rfl (pc0 := 7) rfl (hb hbytes d7) rfl (ii_ge_t (nlt32 (by omega) (Nat.le_refl _))) (by decide) rfl ?_
    refine XS.iload X9.here hexec rfl (hb hbytes d44) rfl ?_
    exact Steps.refl _)
  exact ⟨T9, some (.int (Int32.ofNat len)), _, _, _, X9, by simp, rfl, rfl, (fun h => by cases h), ⟨rfl, B9, p9.from hh0, f9⟩, fun fs hl => c11.trans (X9.ireturnOut hexec hret rfl (Or.inl rfl) (hb hbytes d46) hl)⟩
end Cmp5
namespace Cmp3
def yN : MethodName := ⟨"java/lang/StringUTF16", "compress", "([CII)[B"⟩
abbrev yB : ByteArray := jdk_52_method_16_code
theorem d0 : decode yB 0 = .ok (.iload_n 2, 1) := by decide +kernel
theorem d1 : decode yB 1 = .ok (.newarray .byte, 2) := by decide +kernel
theorem d3 : decode yB 3 = .ok (.astore_n 3, 1) := by decide +kernel
theorem d4 : decode yB 4 = .ok (.aload_n 0, 1) := by decide +kernel
theorem d5 : decode yB 5 = .ok (.iload_n 1, 1) := by decide +kernel
theorem d6 : decode yB 6 = .ok (.aload_n 3, 1) := by decide +kernel
theorem d7 : decode yB 7 = .ok (.iconst 0, 1) := by decide +kernel
theorem d8 : decode yB 8 = .ok (.iload_n 2, 1) := by decide +kernel
theorem d9 : decode yB 9 = .ok (.invokestatic 115, 3) := by decide +kernel
theorem d12 : decode yB 12 = .ok (.istore 4, 2) := by decide +kernel
theorem d14 : decode yB 14 = .ok (.iload 4, 2) := by decide +kernel
theorem d16 : decode yB 16 = .ok (.iload_n 2, 1) := by decide +kernel
theorem d17 : decode yB 17 = .ok (.if_icmp (.eq) 40, 3) := by decide +kernel
theorem d57 : decode yB 57 = .ok (.aload_n 3, 1) := by decide +kernel
theorem d58 : decode yB 58 = .ok (.areturn, 1) := by decide +kernel
def site : List Cond := [.arrayClass .byte, Cmp5.tab] ++ staticW U16 115 Cmp5.yN
def tab : Cond := tabOf yN yB 6 (some (.array .byte)) site
def P (b : Addr) (A : Cell) (o len : Nat) (args : Array Value) (s : State) : Prop := args = #[.ref b, .int (Int32.ofNat o), .int (Int32.ofNat len)] ∧ Ch b A s ∧ o + len ≤ A.slots.size ∧ len ≤ 536870912 ∧ ∀ i, i < len → ¬ 255 < cv A (o + i)
def E (b : Addr) (A : Cell) (o len : Nat) (r : Option Value) (s u : State) : Prop := NewArr .byte "[B" len (fun j => .int (lo8 (cv A (o + j)))) r s u ∧ u.heap.size = s.heap.size + 1
/-- no char of the range above 255: a new byte[] of their low bytes -/
theorem law (l : Launch) (b : Addr) (A : Cell) (o len : Nat) : Law l yN 3 3 1 18 yB 6 (some (.array .byte)) site (P b A o len) (E b A o len) [] 1 len := by
  refine Law.of_walk (plainFor_of_name (by decide +kernel)) (by decide +kernel) (by decide +kernel) (by decide) (fun _ _ h => by rw [h.1]; rfl) (fun _ U U' hal hh h => ⟨h.1, h.2.1.mv hal hh, h.2.2⟩) (fun r U U' V V' h1 hal h2 h => ⟨NewArr.mv r U U' V V' h1 hal h2 h.1, by rw [h1, h2]; exact h.2⟩) ?_
  intro p e s m args below meth c s₁ X0 hexec hbytes hml hret hlk hnm hown hh0 W hP
  obtain ⟨rfl, hA, l1, l2, hp⟩ := hP
  have a31 := hA.1.2.2.2
  have c1 : Steps p.tables e below (s₁.setTop (entryFrame m #[.ref b, .int (Int32.ofNat o), .int (Int32.ofNat len)] 6)) (s₁.setTop (mkF m 0 #[.val (.ref b), .val (.int (Int32.ofNat o)), .val (.int (Int32.ofNat len)), .unset, .unset, .unset] [])) := entry rfl
  have c2 : Steps p.tables e below (s₁.setTop (entryFrame m #[.ref b, .int (Int32.ofNat o), .int (Int32.ofNat len)] 6)) (s₁.setTop (mkF m 1 #[.val (.ref b), .val (.int (Int32.ofNat o)), .val (.int (Int32.ofNat len)), .unset, .unset, .unset] [.int (Int32.ofNat len)])) := c1.trans (by
    refine XS.iloadN X0.here hexec rfl (hb hbytes d0) rfl ?_
    exact Steps.refl _)
  obtain ⟨T3, B3, X3, ba3, bs3, bv3, bh3, bf3, st3⟩ := X0.anew hexec (atype := .byte) (wk W (.arrayClass .byte)) rfl (by show len * 1 ≤ _; omega) (by omega) (g := (mkF m 1 #[.val (.ref b), .val (.int (Int32.ofNat o)), .val (.int (Int32.ofNat len)), .unset, .unset, .unset] [.int (Int32.ofNat len)])) rfl (hb hbytes d1) (rest := []) rfl (Nat.le_refl _) (by show 0 + len ≤ len; omega)
  rw [hh0] at ba3 st3
  have kp3 : XT.Kept s T3 := (XT.Kept.of_eq hh0).push bh3
  have hA3 := hA.keep X3.warmed.alike (kp3 _ _ hA.1.1)
  have hne : b ≠ s.heap.size := hA.1.ne
  have c4 : Steps p.tables e below (s₁.setTop (entryFrame m #[.ref b, .int (Int32.ofNat o), .int (Int32.ofNat len)] 6)) (T3.setTop (mkF m 3 #[.val (.ref b), .val (.int (Int32.ofNat o)), .val (.int (Int32.ofNat len)), .unset, .unset, .unset] [.ref s.heap.size])) := c2.trans (st3 _ (Steps.refl _))
  have c5 : Steps p.tables e below (s₁.setTop (entryFrame m #[.ref b, .int (Int32.ofNat o), .int (Int32.ofNat len)] 6)) (T3.setTop (mkF m 9 #[.val (.ref b), .val (.int (Int32.ofNat o)), .val (.int (Int32.ofNat len)), .val (.ref s.heap.size), .unset, .unset] [.int (Int32.ofNat len), .int 0, .ref s.heap.size, .int (Int32.ofNat o), .ref b])) := c4.trans (by
    refine XS.astoreN X3.here hexec rfl (hb hbytes d3) rfl rfl rfl ?_
    refine XS.aloadN X3.here hexec rfl (hb hbytes d4) rfl rfl ?_
    refine XS.iloadN X3.here hexec rfl (hb hbytes d5) rfl ?_
    refine XS.aloadN X3.here hexec rfl (hb hbytes d6) rfl rfl ?_
    refine iconstV X3.here hexec rfl 0 (hb hbytes d7) (by decide) ?_
    refine XS.iloadN X3.here hexec rfl (hb hbytes d8) rfl ?_
    exact Steps.refl _)
  obtain ⟨v6, T6, X6, E6, g6⟩ := X3.callS hexec (Cmp5.law l b A s.heap.size B3 o 0 len) hown (wks W (staticW U16 115 Cmp5.yN)) (wk W Cmp5.tab) (W := 0) (Nat.le_of_ble_eq_true rfl) (Nat.le_of_ble_eq_true rfl) (Nat.le_refl _) (by show 0 + len + 0 ≤ len; omega) (g := (mkF m 9 #[.val (.ref b), .val (.int (Int32.ofNat o)), .val (.int (Int32.ofNat len)), .val (.ref s.heap.size), .unset, .unset] [.int (Int32.ofNat len), .int (Int32.ofNat 0), .ref s.heap.size, .int (Int32.ofNat o), .ref b])) rfl (by rw [hml]; rfl) c5 (argsL := [.ref b, .int (Int32.ofNat o), .ref s.heap.size, .int (Int32.ofNat 0), .int (Int32.ofNat len)]) (rest := []) rfl rfl (by show 2 * 0 + 0 ≤ _; decide) (hb hbytes d9) (⟨rfl, hA3, ba3, hne, l1, by rw [bs3]; simp, hp⟩)
  obtain ⟨rfl, B6, p6, f6⟩ := E6
  have c7 : Steps p.tables e below (s₁.setTop (entryFrame m #[.ref b, .int (Int32.ofNat o), .int (Int32.ofNat len)] 6)) (T6.setTop (mkF m 12 #[.val (.ref b), .val (.int (Int32.ofNat o)), .val (.int (Int32.ofNat len)), .val (.ref s.heap.size), .unset, .unset] [.int (Int32.ofNat len)])) := g6
  have c8 : Steps p.tables e below (s₁.setTop (entryFrame m #[.ref b, .int (Int32.ofNat o), .int (Int32.ofNat len)] 6)) (T6.setTop (mkF m 58 #[.val (.ref b), .val (.int (Int32.ofNat o)), .val (.int (Int32.ofNat len)), .val (.ref s.heap.size), .val (.int (Int32.ofNat len)), .unset] [.ref s.heap.size])) := c7.trans (by
    refine XS.istore X6.here hexec rfl (hb hbytes d12) rfl rfl ?_
    refine XS.iload X6.here hexec rfl (hb hbytes d14) rfl ?_
    refine XS.iloadN X6.here hexec rfl (hb hbytes d16) rfl ?_
    refine XS.icmpYes X6.here hexec rfl (pc0 := 17) rfl (hb hbytes d17) rfl (ii_eq_t rfl) (by decide) rfl ?_
    refine XS.aloadN X6.here hexec rfl (hb hbytes d57) rfl rfl ?_
    exact Steps.refl _)
  have X8 := X6.wide (L' := []) (cells' := 1) (slots' := len) (fun x hx hlt => by
    simp only [List.nil_append, copyLocs, List.mem_map, List.mem_range] at hx
    obtain ⟨i, -, rfl⟩ := hx
    exact absurd hlt (Nat.lt_irrefl _)) (Nat.le_refl _) (by omega)
  exact ⟨T6, some (.ref s.heap.size), _, _, _, X8, rfl, rfl, rfl, (fun h => by cases h), ⟨⟨rfl, B6, ba3.like (X3.warmed.alike.symm.trans X6.warmed.alike) p6.1 f6.1 f6.2.1 f6.2.2.1, f6.2.1.trans bv3, by rw [X6.warmed.alike.findClass, f6.1]; exact bf3, by rw [f6.2.2.1, bs3]; simp, fun j hj => by rw [f6.2.2.2 j, if_pos (by omega)]; rfl, kp3.put p6 (Nat.le_refl _)⟩, by rw [p6.2.2, bh3, hh0]; simp⟩, fun fs hl => c8.trans (X8.areturnOut hexec rfl hret rfl (hb hbytes d58) hl)⟩
end Cmp3
namespace CodL
def yN : MethodName := ⟨"java/lang/StringUTF16", "coderFromArrayLen", "([BI)B"⟩
abbrev yB : ByteArray := jdk_52_method_15_code
theorem d0 : decode yB 0 = .ok (.iload_n 1, 1) := by decide +kernel
theorem d1 : decode yB 1 = .ok (.aload_n 0, 1) := by decide +kernel
theorem d2 : decode yB 2 = .ok (.arraylength, 1) := by decide +kernel
theorem d3 : decode yB 3 = .ok (.isub, 1) := by decide +kernel
theorem d4 : decode yB 4 = .ok (.bipush 31, 2) := by decide +kernel
theorem d6 : decode yB 6 = .ok (.iushr, 1) := by decide +kernel
theorem d7 : decode yB 7 = .ok (.i2b, 1) := by decide +kernel
theorem d8 : decode yB 8 = .ok (.ireturn, 1) := by decide +kernel
def site : List Cond := []
def tab : Cond := tabOf yN yB 2 (some .byte) site
def P (d : Addr) (B : Cell) (args : Array Value) (s : State) : Prop := args = #[.ref d, .int (Int32.ofNat B.slots.size)] ∧ Arr .byte d B s
def E (r : Option Value) (s u : State) : Prop := XT.PureE (some (.int 0)) r s u
/-- an array as long as the number of chars: LATIN1 -/
theorem law (l : Launch) (d : Addr) (B : Cell) : Law l yN 2 2 0 0 yB 2 (some .byte) site (P d B) E [] 0 0 := by
  refine Law.of_walk (plainFor_of_name (by decide +kernel)) (by decide +kernel) (by decide +kernel) (by decide) (fun _ _ h => by rw [h.1]; rfl) (fun _ U U' hal hh h => ⟨h.1, h.2.mv hal hh⟩) (fun r U U' V V' h1 hal h2 h => XT.PureE.mv r U U' V V' h1 hal h2 h) ?_
  intro p e s m args below meth c s₁ X0 hexec hbytes hml hret hlk hnm hown hh0 W hP
  obtain ⟨rfl, hB⟩ := hP
  have hB0 := hB.mv X0.warmed.alike hh0
  have c1 : Steps p.tables e below (s₁.setTop (entryFrame m #[.ref d, .int (Int32.ofNat B.slots.size)] 2)) (s₁.setTop (mkF m 0 #[.val (.ref d), .val (.int (Int32.ofNat B.slots.size))] [])) := entry rfl
  have c2 : Steps p.tables e below (s₁.setTop (entryFrame m #[.ref d, .int (Int32.ofNat B.slots.size)] 2)) (s₁.setTop (mkF m 2 #[.val (.ref d), .val (.int (Int32.ofNat B.slots.size))] [.ref d, .int (Int32.ofNat B.slots.size)])) := c1.trans (by
    refine XS.iloadN X0.here hexec rfl (hb hbytes d0) rfl ?_
    refine XS.aloadN X0.here hexec rfl (hb hbytes d1) rfl rfl ?_
    exact Steps.refl _)
  have c3 : Steps p.tables e below (s₁.setTop (entryFrame m #[.ref d, .int (Int32.ofNat B.slots.size)] 2)) (s₁.setTop (mkF m 8 #[.val (.ref d), .val (.int (Int32.ofNat B.slots.size))] [.int (lo8 (ushr (Int32.ofNat B.slots.size - Int32.ofNat B.slots.size) 31))])) := c2.trans (by
    refine X0.alen hexec hB0 rfl rfl (hb hbytes d2) ?_
    refine XS.isub X0.here hexec rfl (hb hbytes d3) rfl ?_
    refine bipushV X0.here hexec rfl 31 (hb hbytes d4) (by decide) ?_
    refine iushr X0.here hexec rfl (hb hbytes d6) rfl ?_
    refine i2b X0.here hexec rfl (hb hbytes d7) rfl ?_
    exact Steps.refl _)
  have e0 : lo8 (ushr (Int32.ofNat B.slots.size - Int32.ofNat B.slots.size) 31) = 0 := by rw [Int32.sub_self]; decide
  rw [e0] at c3
  exact ⟨s₁, some (.int 0), _, _, _, X0, rfl, rfl, rfl, (fun h => by cases h), ⟨rfl, hh0⟩, fun fs hl => c3.trans (X0.ireturnOut hexec hret rfl (Or.inr (Or.inr (Or.inl rfl))) (hb hbytes d8) hl)⟩
end CodL
/-- the String at a is Latin-1 over a new byte[] (the heap's one new cell): the low bytes of the len chars of A from o on; every cell but a is kept -/
def Got (a : Addr) (D : Cell) (fV fC : Field) (A : Cell) (o len : Nat) (r : Option Value) (s u : State) : Prop := r = none ∧ ∃ D' V : Cell, Blank "java/lang/String" a D' u ∧ Same D D' [fV.slot, fC.slot] ∧ D'.slots[fV.slot]? = some (.ref s.heap.size) ∧ D'.slots[fC.slot]? = some (.int 0) ∧ Arr .byte s.heap.size V u ∧ V.vm = .none ∧ u.vm.findClass "[B" = some V.cls ∧ V.slots.size = len ∧ (∀ j, j < len → V.slots[j]? = some (.int (lo8 (cv A (o + j))))) ∧ (∀ (y : Addr) (c : Cell), y ≠ a → s.heap[y]? = some c → u.heap[y]? = some c) ∧ u.heap.size = s.heap.size + 1
theorem Got.mv {a : Addr} {D A : Cell} {fV fC : Field} {o len : Nat} : ∀ r (U U' V V' : State), U'.heap = U.heap → V.vm.Alike V'.vm → V'.heap = V.heap → Got a D fV fC A o len r U V → Got a D fV fC A o len r U' V' :=
  fun r U U' V V' h1 hal h2 ⟨e0, D', X, a1, a2, a3, a4, a5, a6, a7, a8, a9, a10, a11⟩ => ⟨e0, D', X, a1.mv hal h2, a2, by rw [h1]; exact a3, a4, by rw [h1]; exact a5.mv hal h2, a6, by rw [hal.findClass]; exact a7, a8, a9, by rw [h1, h2]; exact a10, by rw [h1, h2]; exact a11⟩
namespace New4
def yN : MethodName := ⟨"java/lang/String", "<init>", "([CIILjava/lang/Void;)V"⟩
abbrev yB : ByteArray := jdk_42_method_149_code
theorem d0 : decode yB 0 = .ok (.aload_n 0, 1) := by decide +kernel
theorem d1 : decode yB 1 = .ok (.invokespecial 1, 3) := by decide +kernel
theorem d4 : decode yB 4 = .ok (.iload_n 3, 1) := by decide +kernel
theorem d5 : decode yB 5 = .ok (.ifCond (.ne) 22, 3) := by decide +kernel
theorem d27 : decode yB 27 = .ok (.getstatic 38, 3) := by decide +kernel
theorem d30 : decode yB 30 = .ok (.ifCond (.eq) 28, 3) := by decide +kernel
theorem d33 : decode yB 33 = .ok (.aload_n 1, 1) := by decide +kernel
theorem d34 : decode yB 34 = .ok (.iload_n 2, 1) := by decide +kernel
theorem d35 : decode yB 35 = .ok (.iload_n 3, 1) := by decide +kernel
theorem d36 : decode yB 36 = .ok (.invokestatic 177, 3) := by decide +kernel
theorem d39 : decode yB 39 = .ok (.astore 5, 2) := by decide +kernel
theorem d41 : decode yB 41 = .ok (.aload_n 0, 1) := by decide +kernel
theorem d42 : decode yB 42 = .ok (.aload 5, 2) := by decide +kernel
theorem d44 : decode yB 44 = .ok (.iload_n 3, 1) := by decide +kernel
theorem d45 : decode yB 45 = .ok (.invokestatic 47, 3) := by decide +kernel
theorem d48 : decode yB 48 = .ok (.putfield 15, 3) := by decide +kernel
theorem d51 : decode yB 51 = .ok (.aload_n 0, 1) := by decide +kernel
theorem d52 : decode yB 52 = .ok (.aload 5, 2) := by decide +kernel
theorem d54 : decode yB 54 = .ok (.putfield 9, 3) := by decide +kernel
theorem d57 : decode yB 57 = .ok (.return_, 1) := by decide +kernel
def site : List Cond := [.fieldLink "java/lang/String" 38 "java/lang/String" "COMPACT_STRINGS" "Z", Cmp3.tab, CodL.tab, .laysFinal "java/lang/String" "java/lang/String" "value" "[B", .fieldLink "java/lang/String" 9 "java/lang/String" "value" "[B", .laysFinal "java/lang/String" "java/lang/String" "coder" "B", .fieldLink "java/lang/String" 15 "java/lang/String" "coder" "B"] ++ objW "java/lang/String" 1 ++ staticW "java/lang/String" 177 Cmp3.yN ++ staticW "java/lang/String" 47 CodL.yN
def tab : Cond := tabOf yN yB 6 none site
def P (a : Addr) (D : Cell) (fV fC : Field) (b : Addr) (A : Cell) (z : Int32) (o len : Nat) (args : Array Value) (s : State) : Prop := args = #[.ref a, .ref b, .int (Int32.ofNat o), .int (Int32.ofNat len), .null] ∧ Blank "java/lang/String" a D s ∧ Found "java/lang/String" "value" "[B" fV s ∧ Found "java/lang/String" "coder" "B" fC s ∧ Ch b A s ∧ StaticIs s "java/lang/String" "COMPACT_STRINGS" "Z" (.int z) ∧ ¬ z = 0 ∧ 0 < len ∧ o + len ≤ A.slots.size ∧ len ≤ 536870912 ∧ ∀ i, i < len → ¬ 255 < cv A (o + i)
def E (a : Addr) (D : Cell) (fV fC : Field) (A : Cell) (o len : Nat) (r : Option Value) (s u : State) : Prop := Got a D fV fC A o len r s u
/-- len > 0, no char of the range above 255: a Latin-1 String of their low bytes -/
theorem law (l : Launch) (a : Addr) (D : Cell) (fV fC : Field) (b : Addr) (A : Cell) (z : Int32) (o len : Nat) : Law l yN 5 4 2 35 yB 6 none site (P a D fV fC b A z o len) (E a D fV fC A o len) [⟨a, fC.slot⟩, ⟨a, fV.slot⟩] 1 len := by
  refine Law.of_walk (plainFor_of_name (by decide +kernel)) (by decide +kernel) (by decide +kernel) (by decide) (fun _ _ h => by rw [h.1]; rfl) (fun _ U U' hal hh h => ⟨h.1, h.2.1.mv hal hh, h.2.2.1.al hal, h.2.2.2.1.al hal, h.2.2.2.2.1.mv hal hh, h.2.2.2.2.2.1.there hal hh, h.2.2.2.2.2.2⟩) (fun r U U' V V' h1 hal h2 h => Got.mv r U U' V V' h1 hal h2 h) ?_
  intro p e s m args below meth c s₁ X0 hexec hbytes hml hret hlk hnm hown hh0 W hP
  obtain ⟨rfl, hB, f1, f2, hA, s1, hz, l0, l1, l2, hp⟩ := hP
  have a31 := hA.1.2.2.2
  have c1 : Steps p.tables e below (s₁.setTop (entryFrame m #[.ref a, .ref b, .int (Int32.ofNat o), .int (Int32.ofNat len), .null] 6)) (s₁.setTop (mkF m 0 #[.val (.ref a), .val (.ref b), .val (.int (Int32.ofNat o)), .val (.int (Int32.ofNat len)), .val .null, .unset] [])) := entry rfl
  have c2 : Steps p.tables e below (s₁.setTop (entryFrame m #[.ref a, .ref b, .int (Int32.ofNat o), .int (Int32.ofNat len), .null] 6)) (s₁.setTop (mkF m 1 #[.val (.ref a), .val (.ref b), .val (.int (Int32.ofNat o)), .val (.int (Int32.ofNat len)), .val .null, .unset] [.ref a])) := c1.trans (by
    refine XS.aloadN X0.here hexec rfl (hb hbytes d0) rfl rfl ?_
    exact Steps.refl _)
  obtain ⟨T3, X3, q3, st3⟩ := X0.oinit hexec hown (wks W (objW "java/lang/String" 1)) (g := (mkF m 1 #[.val (.ref a), .val (.ref b), .val (.int (Int32.ofNat o)), .val (.int (Int32.ofNat len)), .val .null, .unset] [.ref a])) rfl (by rw [hml]; rfl) (rest := []) rfl (hb hbytes d1) (W := 0) (by show 2 * 0 + 0 ≤ _; decide) (Nat.le_of_ble_eq_true rfl) (Nat.le_of_ble_eq_true rfl)
  have hh3 := q3.trans hh0
  have c4 : Steps p.tables e below (s₁.setTop (entryFrame m #[.ref a, .ref b, .int (Int32.ofNat o), .int (Int32.ofNat len), .null] 6)) (T3.setTop (mkF m 27 #[.val (.ref a), .val (.ref b), .val (.int (Int32.ofNat o)), .val (.int (Int32.ofNat len)), .val .null, .unset] [])) := (c2.trans (st3 _ (Steps.refl _))).trans (by
    refine XS.iloadN X3.here hexec rfl (hb hbytes d4) rfl ?_
    refine XS.ifYes X3.here hexec rfl (pc0 := 5) rfl (hb hbytes d5) rfl (i0_ne_t (nz32 (by omega) l0)) (by decide) rfl ?_
    exact Steps.refl _)
  obtain ⟨T5, X5, q5, st5⟩ := X3.sget hexec hown (wk W (.fieldLink "java/lang/String" 38 "java/lang/String" "COMPACT_STRINGS" "Z")) s1 (fun _ _ h => by rw [hh3]; exact h) (g := (mkF m 27 #[.val (.ref a), .val (.ref b), .val (.int (Int32.ofNat o)), .val (.int (Int32.ofNat len)), .val .null, .unset] [])) rfl (hb hbytes d27)
  have hh5 := q5.trans hh3
  have c6 : Steps p.tables e below (s₁.setTop (entryFrame m #[.ref a, .ref b, .int (Int32.ofNat o), .int (Int32.ofNat len), .null] 6)) (T5.setTop (mkF m 30 #[.val (.ref a), .val (.ref b), .val (.int (Int32.ofNat o)), .val (.int (Int32.ofNat len)), .val .null, .unset] [.int z])) := c4.trans (st5 _ (Steps.refl _))
  have c7 : Steps p.tables e below (s₁.setTop (entryFrame m #[.ref a, .ref b, .int (Int32.ofNat o), .int (Int32.ofNat len), .null] 6)) (T5.setTop (mkF m 36 #[.val (.ref a), .val (.ref b), .val (.int (Int32.ofNat o)), .val (.int (Int32.ofNat len)), .val .null, .unset] [.int (Int32.ofNat len), .int (Int32.ofNat o), .ref b])) := c6.trans (by
    refine XS.ifNo X5.here hexec rfl (hb hbytes d30) rfl (i0_eq_f hz) ?_
    refine XS.aloadN X5.here hexec rfl (hb hbytes d33) rfl rfl ?_
    refine XS.iloadN X5.here hexec rfl (hb hbytes d34) rfl ?_
    refine XS.iloadN X5.here hexec rfl (hb hbytes d35) rfl ?_
    exact Steps.refl _)
  obtain ⟨v8, T8, X8, E8, g8⟩ := X5.callS hexec (Cmp3.law l b A o len) hown (wks W (staticW "java/lang/String" 177 Cmp3.yN)) (wk W Cmp3.tab) (W := 0) (Nat.le_of_ble_eq_true rfl) (Nat.le_of_ble_eq_true rfl) (Nat.le_refl _) (by show 0 + len ≤ len; omega) (g := (mkF m 36 #[.val (.ref a), .val (.ref b), .val (.int (Int32.ofNat o)), .val (.int (Int32.ofNat len)), .val .null, .unset] [.int (Int32.ofNat len), .int (Int32.ofNat o), .ref b])) rfl (by rw [hml]; rfl) c7 (argsL := [.ref b, .int (Int32.ofNat o), .int (Int32.ofNat len)]) (rest := []) rfl rfl (by show 2 * 0 + 0 ≤ _; decide) (hb hbytes d36) (⟨rfl, hA.mv X5.warmed.alike hh5, l1, l2, hp⟩)
  obtain ⟨e8, z8⟩ := E8
  obtain ⟨rfl, N, n1, n2, n3, n4, n5, n6⟩ := NewArr.mv _ T5 s _ _ hh5.symm (Vm.Alike.refl _) rfl e8
  rw [hh5] at z8
  have hB1 := hB.keep X8.warmed.alike (n6 _ _ hB.1)
  have hne : s.heap.size ≠ a := (Nat.ne_of_lt (Array.getElem?_eq_some_iff.mp hB.1).1).symm
  have c9 : Steps p.tables e below (s₁.setTop (entryFrame m #[.ref a, .ref b, .int (Int32.ofNat o), .int (Int32.ofNat len), .null] 6)) (T8.setTop (mkF m 39 #[.val (.ref a), .val (.ref b), .val (.int (Int32.ofNat o)), .val (.int (Int32.ofNat len)), .val .null, .unset] [.ref s.heap.size])) := g8
  have c10 : Steps p.tables e below (s₁.setTop (entryFrame m #[.ref a, .ref b, .int (Int32.ofNat o), .int (Int32.ofNat len), .null] 6)) (T8.setTop (mkF m 45 #[.val (.ref a), .val (.ref b), .val (.int (Int32.ofNat o)), .val (.int (Int32.ofNat len)), .val .null, .val (.ref s.heap.size)] [.int (Int32.ofNat N.slots.size), .ref s.heap.size, .ref a])) := by
    have hc : Steps p.tables e below (s₁.setTop (entryFrame m #[.ref a, .ref b, .int (Int32.ofNat o), .int (Int32.ofNat len), .null] 6)) (T8.setTop (mkF m 45 #[.val (.ref a), .val (.ref b), .val (.int (Int32.ofNat o)), .val (.int (Int32.ofNat len)), .val .null, .val (.ref s.heap.size)] [.int (Int32.ofNat len), .ref s.heap.size, .ref a])) := c9.trans (by
      refine XS.astore X8.here hexec rfl (hb hbytes d39) rfl rfl rfl ?_
      refine XS.aloadN X8.here hexec rfl (hb hbytes d41) rfl rfl ?_
      refine XS.aload X8.here hexec rfl (hb hbytes d42) rfl rfl ?_
      refine XS.iloadN X8.here hexec rfl (hb hbytes d44) rfl ?_
      exact Steps.refl _)
    rw [n4]; exact hc
  obtain ⟨v11, T11, X11, E11, g11⟩ := X8.callS hexec (CodL.law l s.heap.size N) hown (wks W (staticW "java/lang/String" 47 CodL.yN)) (wk W CodL.tab) (W := 1) (Nat.le_of_ble_eq_true rfl) (Nat.le_of_ble_eq_true rfl) (Nat.le_refl _) (by show 0 + len + 0 ≤ len; omega) (g := (mkF m 45 #[.val (.ref a), .val (.ref b), .val (.int (Int32.ofNat o)), .val (.int (Int32.ofNat len)), .val .null, .val (.ref s.heap.size)] [.int (Int32.ofNat N.slots.size), .ref s.heap.size, .ref a])) rfl (by rw [hml]; rfl) c10 (argsL := [.ref s.heap.size, .int (Int32.ofNat N.slots.size)]) (rest := [.ref a]) rfl rfl (by show 2 * 0 + (1 + 0) ≤ _; decide) (hb hbytes d45) (⟨rfl, n1⟩)
  obtain ⟨rfl, q11⟩ := E11
  have hB11 := hB1.mv (X8.warmed.alike.symm.trans X11.warmed.alike) q11
  have c12 : Steps p.tables e below (s₁.setTop (entryFrame m #[.ref a, .ref b, .int (Int32.ofNat o), .int (Int32.ofNat len), .null] 6)) (T11.setTop (mkF m 48 #[.val (.ref a), .val (.ref b), .val (.int (Int32.ofNat o)), .val (.int (Int32.ofNat len)), .val .null, .val (.ref s.heap.size)] [.int 0, .ref a])) := g11
  obtain ⟨T13, X13, p13, bl13, sl13, st13⟩ := X11.finit hexec hown (wk W (.fieldLink "java/lang/String" 15 "java/lang/String" "coder" "B")) (Or.inr ⟨_, (wk W (.laysFinal "java/lang/String" "java/lang/String" "coder" "B"))⟩) (Or.inl ⟨rfl, hnm⟩) f2 (Or.inl rfl) hB11 (t := .byte) (by decide +kernel) rfl (g := (mkF m 48 #[.val (.ref a), .val (.ref b), .val (.int (Int32.ofNat o)), .val (.int (Int32.ofNat len)), .val .null, .val (.ref s.heap.size)] [.int 0, .ref a])) rfl (rest := []) rfl (hb hbytes d48)
  have c14 : Steps p.tables e below (s₁.setTop (entryFrame m #[.ref a, .ref b, .int (Int32.ofNat o), .int (Int32.ofNat len), .null] 6)) (T13.setTop (mkF m 54 #[.val (.ref a), .val (.ref b), .val (.int (Int32.ofNat o)), .val (.int (Int32.ofNat len)), .val .null, .val (.ref s.heap.size)] [.ref s.heap.size, .ref a])) := (c12.trans (st13 _ (Steps.refl _))).trans (by
    refine XS.aloadN X13.here hexec rfl (hb hbytes d51) rfl rfl ?_
    refine XS.aload X13.here hexec rfl (hb hbytes d52) rfl rfl ?_
    exact Steps.refl _)
  obtain ⟨T15, X15, p15, bl15, sl15, st15⟩ := X13.finit hexec hown (wk W (.fieldLink "java/lang/String" 9 "java/lang/String" "value" "[B")) (Or.inr ⟨_, (wk W (.laysFinal "java/lang/String" "java/lang/String" "value" "[B"))⟩) (Or.inl ⟨rfl, hnm⟩) f1 (Or.inl rfl) bl13 (t := (.array .byte)) (by decide +kernel) rfl (g := (mkF m 54 #[.val (.ref a), .val (.ref b), .val (.int (Int32.ofNat o)), .val (.int (Int32.ofNat len)), .val .null, .val (.ref s.heap.size)] [.ref s.heap.size, .ref a])) rfl (rest := []) rfl (hb hbytes d54)
  have c16 : Steps p.tables e below (s₁.setTop (entryFrame m #[.ref a, .ref b, .int (Int32.ofNat o), .int (Int32.ofNat len), .null] 6)) (T15.setTop (mkF m 57 #[.val (.ref a), .val (.ref b), .val (.int (Int32.ofNat o)), .val (.int (Int32.ofNat len)), .val .null, .val (.ref s.heap.size)] [])) := c14.trans (st15 _ (Steps.refl _))
  have ap := apart (Or.inr ⟨_, (wk W (.laysFinal "java/lang/String" "java/lang/String" "value" "[B"))⟩) (Or.inr ⟨_, (wk W (.laysFinal "java/lang/String" "java/lang/String" "coder" "B"))⟩) f1 f2 (t₁ := .array .byte) (t₂ := .byte) (by decide +kernel) (by decide +kernel) (by decide)
  have al := X8.warmed.alike.symm.trans X15.warmed.alike
  have n7 : T11.heap[s.heap.size]? = some N := by rw [q11]; exact n1.1
  exact ⟨T15, none, _, _, _, X15, by simp, rfl, by omega, (fun _ => rfl), ⟨rfl, _, N, bl15, ((Same.refl D _).set _ (by simp)).set _ (by simp), sl15, (Cell.slots_setSlot_ne _ ap).trans sl13, n1.keep al (p15.other hne (p13.other hne n7)), n2, by rw [al.findClass]; exact n3, n4, n5, fun y c h1 h2 => p15.other h1 (p13.other h1 (by rw [q11]; exact n6 y c h2)), by rw [p15.2.2, p13.2.2, q11]; exact z8⟩, fun fs hl => c16.trans (X15.returnOut hexec hret (hb hbytes d57) hl)⟩
end New4
namespace New1
def yN : MethodName := ⟨"java/lang/String", "<init>", "([C)V"⟩
abbrev yB : ByteArray := jdk_42_method_3_code
theorem d0 : decode yB 0 = .ok (.aload_n 0, 1) := by decide +kernel
theorem d1 : decode yB 1 = .ok (.aload_n 1, 1) := by decide +kernel
theorem d2 : decode yB 2 = .ok (.iconst 0, 1) := by decide +kernel
theorem d3 : decode yB 3 = .ok (.aload_n 1, 1) := by decide +kernel
theorem d4 : decode yB 4 = .ok (.arraylength, 1) := by decide +kernel
theorem d5 : decode yB 5 = .ok (.aconst_null, 1) := by decide +kernel
theorem d6 : decode yB 6 = .ok (.invokespecial 27, 3) := by decide +kernel
theorem d9 : decode yB 9 = .ok (.return_, 1) := by decide +kernel
def site : List Cond := [New4.tab] ++ initW "java/lang/String" 27 New4.yN
def tab : Cond := tabOf yN yB 2 none site
def P (a : Addr) (D : Cell) (fV fC : Field) (b : Addr) (A : Cell) (z : Int32) (args : Array Value) (s : State) : Prop := args = #[.ref a, .ref b] ∧ Blank "java/lang/String" a D s ∧ Found "java/lang/String" "value" "[B" fV s ∧ Found "java/lang/String" "coder" "B" fC s ∧ Ch b A s ∧ StaticIs s "java/lang/String" "COMPACT_STRINGS" "Z" (.int z) ∧ ¬ z = 0 ∧ 0 < A.slots.size ∧ A.slots.size ≤ 536870912 ∧ ∀ i, i < A.slots.size → ¬ 255 < cv A i
def E (a : Addr) (D : Cell) (fV fC : Field) (A : Cell) (r : Option Value) (s u : State) : Prop := Got a D fV fC A 0 A.slots.size r s u
/-- new String(chars), not empty, no char above 255: a Latin-1 String of their low bytes -/
theorem law (l : Launch) (a : Addr) (D : Cell) (fV fC : Field) (b : Addr) (A : Cell) (z : Int32) : Law l yN 2 1 3 52 yB 2 none site (P a D fV fC b A z) (E a D fV fC A) [⟨a, fC.slot⟩, ⟨a, fV.slot⟩] 1 A.slots.size := by
  refine Law.of_walk (plainFor_of_name (by decide +kernel)) (by decide +kernel) (by decide +kernel) (by decide) (fun _ _ h => by rw [h.1]; rfl) (fun _ U U' hal hh h => ⟨h.1, h.2.1.mv hal hh, h.2.2.1.al hal, h.2.2.2.1.al hal, h.2.2.2.2.1.mv hal hh, h.2.2.2.2.2.1.there hal hh, h.2.2.2.2.2.2⟩) (fun r U U' V V' h1 hal h2 h => Got.mv r U U' V V' h1 hal h2 h) ?_
  intro p e s m args below meth c s₁ X0 hexec hbytes hml hret hlk hnm hown hh0 W hP
  obtain ⟨rfl, hB, f1, f2, hA, s1, hz, l0, l2, hp⟩ := hP
  have c1 : Steps p.tables e below (s₁.setTop (entryFrame m #[.ref a, .ref b] 2)) (s₁.setTop (mkF m 0 #[.val (.ref a), .val (.ref b)] [])) := entry rfl
  have c2 : Steps p.tables e below (s₁.setTop (entryFrame m #[.ref a, .ref b] 2)) (s₁.setTop (mkF m 6 #[.val (.ref a), .val (.ref b)] [.null, .int (Int32.ofNat A.slots.size), .int 0, .ref b, .ref a])) := c1.trans (by
    refine XS.aloadN X0.here hexec rfl (hb hbytes d0) rfl rfl ?_
    refine XS.aloadN X0.here hexec rfl (hb hbytes d1) rfl rfl ?_
    refine iconstV X0.here hexec rfl 0 (hb hbytes d2) (by decide) ?_
    refine XS.aloadN X0.here hexec rfl (hb hbytes d3) rfl rfl ?_
    refine X0.alen hexec (hA.1.mv X0.warmed.alike hh0) rfl rfl (hb hbytes d4) ?_
    refine XS.aconstNull X0.here hexec rfl (hb hbytes d5) ?_
    exact Steps.refl _)
  obtain ⟨v3, T3, X3, E3, g3⟩ := X0.callN hexec (New4.law l a D fV fC b A z 0 A.slots.size) rfl hown (wks W (initW "java/lang/String" 27 New4.yN)) (W New4.tab (by simp only [site, List.mem_cons, List.mem_append, true_or, or_true])) (W := 0) (Nat.le_of_ble_eq_true rfl) (Nat.le_of_ble_eq_true rfl) (Nat.le_refl _) (by show 0 + A.slots.size ≤ A.slots.size; omega) (g := (mkF m 6 #[.val (.ref a), .val (.ref b)] [.null, .int (Int32.ofNat A.slots.size), .int (Int32.ofNat 0), .ref b, .ref a])) rfl (by rw [hml]; rfl) c2 (argsL := [.ref b, .int (Int32.ofNat 0), .int (Int32.ofNat A.slots.size), .null]) (rest := []) rfl rfl (by show 2 * 0 + 0 ≤ _; decide) (hb hbytes d6) (⟨rfl, hB.mv X0.warmed.alike hh0, f1.al X0.warmed.alike, f2.al X0.warmed.alike, hA.mv X0.warmed.alike hh0, s1.there X0.warmed.alike hh0, hz, l0, by omega, l2, fun i hi => by rw [Nat.zero_add]; exact hp i hi⟩)
  have e0 := Got.mv _ s₁ s _ _ hh0.symm (Vm.Alike.refl _) rfl E3
  obtain rfl := e0.1
  have c4 : Steps p.tables e below (s₁.setTop (entryFrame m #[.ref a, .ref b] 2)) (T3.setTop (mkF m 9 #[.val (.ref a), .val (.ref b)] [])) := g3
  exact ⟨T3, none, _, _, _, X3, by simp, rfl, by omega, (fun _ => rfl), e0, fun fs hl => c4.trans (X3.returnOut hexec hret (hb hbytes d9) hl)⟩
theorem pays {l : Launch} {R : Room} {p : Program} {e : Env} {below : List Frame} {s : State} {sargs : Array Value} {len W : Nat} (a : Addr) (D : Cell) (fV fC : Field) (b : Addr) (A : Cell) (z : Int32) (htab : tab.before sargs s = true) (hfr : 4 ≤ R.frames) (hlo : W + 65 ≤ R.locals) :
    Back l R p e below s sargs yN len W (fun A₁ a₁ => A₁.cells + 1 ≤ R.cells ∧ A₁.slots + A.slots.size ≤ R.slots ∧ P a D fV fC b A z a₁ A₁.U) (fun A₁ _ v₁ B₁ => E a D fV fC A v₁ A₁.U B₁.U ∧ B₁.locs = A₁.locs ++ [⟨a, fC.slot⟩, ⟨a, fV.slot⟩] ∧ B₁.cells = A₁.cells + 1 ∧ B₁.slots = A₁.slots + A.slots.size) :=
  (law l a D fV fC b A z).pays htab hfr (by omega)
end New1
/-- the byte, read back as charAt reads it, is the char -/
theorem lo8_mask {x : Int32} (h0 : ¬ x < 0) (h1 : ¬ 255 < x) : lo8 x &&& 255 = x := by
  have t : ∀ k : Fin 256, lo8 (Int32.ofNat k.val) &&& 255 = Int32.ofNat k.val := by decide +kernel
  rw [Int32.lt_iff_toInt_lt] at h0 h1
  have e0 : (0 : Int32).toInt = 0 := rfl
  have e1 : (255 : Int32).toInt = 255 := rfl
  obtain ⟨k, hk⟩ : ∃ k : Nat, x.toInt = k := ⟨x.toInt.toNat, by omega⟩
  have hx : x = Int32.ofNat k := Int32.toInt_inj.mp (by rw [hk, Int32.toInt_ofNat_small (by omega)])
  rw [hx]
  exact t ⟨k, by omega⟩
end StrChars
namespace StrChars.Road
open Jvm Sem ClassFile Op Lib Jvm.Stand Jvm.Free Jvm.Free.XT
open Jvm.Lib.Cold (StaticIs)
abbrev ST : String := "java/lang/String"
/-- every table word that New1's law asks, flat -/
abbrev words : List Jvm.Cond := [.code New1.yN New1.yB 2 none, .initialized ST, .methodLink ST 27 New4.yN, .instanceMethod New4.yN,
  .code New4.yN New4.yB 6 none, .fieldLink ST 38 ST "COMPACT_STRINGS" "Z", .laysFinal ST ST "value" "[B", .fieldLink ST 9 ST "value" "[B", .laysFinal ST ST "coder" "B", .fieldLink ST 15 ST "coder" "B",
  .methodLink ST 1 Lib.objectInit, .instanceMethod Lib.objectInit, .code Lib.objectInit ⟨#[0xb1]⟩ 1 none, .methodLink ST 177 Cmp3.yN, .static Cmp3.yN, .methodLink ST 47 CodL.yN, .static CodL.yN,
  .code Cmp3.yN Cmp3.yB 6 (some (.array .byte)), .initialized U16, .arrayClass .byte, .methodLink U16 115 Cmp5.yN, .static Cmp5.yN, .code Cmp5.yN Cmp5.yB 7 (some .int), .code CodL.yN CodL.yB 2 (some .byte)]
theorem tab_of {a : Array Value} {s : State} (h : ∀ w ∈ words, w.before a s = true) : New1.tab.before a s = true := by
  have h5 : Cmp5.tab.before a s = true := unparts (wk h (.code Cmp5.yN Cmp5.yB 7 (some .int))) (wks h (.initialized Cmp5.yN.cls :: Cmp5.site))
  have hc : CodL.tab.before a s = true := unparts (wk h (.code CodL.yN CodL.yB 2 (some .byte))) (wks h (.initialized CodL.yN.cls :: CodL.site))
  have q5 : ∀ w ∈ Cmp5.tab :: words, w.before a s = true := fun w hw => (List.mem_cons.mp hw).elim (fun e => e ▸ h5) (h w)
  have h3 : Cmp3.tab.before a s = true := unparts (wk q5 (.code Cmp3.yN Cmp3.yB 6 (some (.array .byte)))) (wks q5 (.initialized Cmp3.yN.cls :: Cmp3.site))
  have q3 : ∀ w ∈ Cmp3.tab :: CodL.tab :: words, w.before a s = true := fun w hw => (List.mem_cons.mp hw).elim (fun e => e ▸ h3) fun hw => (List.mem_cons.mp hw).elim (fun e => e ▸ hc) (h w)
  have h4 : New4.tab.before a s = true := unparts (wk q3 (.code New4.yN New4.yB 6 none)) (wks q3 (.initialized New4.yN.cls :: New4.site))
  have q4 : ∀ w ∈ New4.tab :: words, w.before a s = true := fun w hw => (List.mem_cons.mp hw).elim (fun e => e ▸ h4) (h w)
  exact unparts (wk q4 (.code New1.yN New1.yB 2 none)) (wks q4 (.initialized New1.yN.cls :: New1.site))
/-- the words ride from the start Z to the walk's own state -/
theorem moved {Z s : State} {a0 args : Array Value} (hZ : Z.Warmed39 s.vm) (hw : ∀ d ∈ words, d.before a0 Z = true) : ∀ d ∈ words, d.before args s = true := fun d hd => by
  have q := hw d hd
  have t : ∀ d ∈ words, d = .arrayClass .byte ∨ (d.onTables && d.keepsFace) = true := by decide +kernel
  rcases t d hd with rfl | t
  · exact RoadKit.mvA hZ q
  · exact RoadKit.mv hZ q t
/-- WHAT COMES BACK, over the tables of the start Z: h the heap at the call, h' behind it -/
def Q (Z : State) (x : Addr) (A : Cell) (h : Heap) (v : Option Value) (h' : Heap) (L : List Loc) : Prop := v = none ∧ (∀ y ∈ L, y.base = x) ∧ RoadKit.Keep h h' [x] ∧ h'.size = h.size + 1 ∧ RoadKit.Exa Z h' x ST ∧ RoadKit.Fld Z h' x ST "value" "[B" (.ref h.size) ∧ RoadKit.Fld Z h' x ST "coder" "B" (.int 0) ∧
  (∃ V : Cell, RoadKit.Arr Z h' h.size V .byte ∧ V.vm = .none ∧ Z.vm.findClass "[B" = some V.cls ∧ V.slots.size = A.slots.size ∧ ∀ j, j < A.slots.size → V.slots[j]? = some (.int (lo8 (cv A j)))) ∧
  ∀ (O n d : String) (w : Value), RoadKit.Fld Z h x O n d w → RoadKit.slotOf Z O n d ≠ RoadKit.slotOf Z ST "value" "[B" → RoadKit.slotOf Z O n d ≠ RoadKit.slotOf Z ST "coder" "B" → RoadKit.Fld Z h' x O n d w
/-- **new String(chars) AT A CALL, IN THE ROAD'S FORM**: for specialBack behind newO: x the fresh String, b the char[] with the cell A -/
theorem back {p : Program} {l : Launch} {e : Env} {R : Room} {s : State} {args : Array Value} {below : List Frame} {len W : Nat} {Z : State} {a0 : Array Value} {h : Heap} (hZ : Z.Warmed39 s.vm) (hw : ∀ d ∈ words, d.before a0 Z = true) {kI : Nat} (wi : (Jvm.Cond.instantiable ST kI).before a0 Z = true)
    {x b : Addr} {A : Cell} {z : Int32} {v0 c0 : Value} (E : RoadKit.Exa Z h x ST) (V : RoadKit.Fld Z h x ST "value" "[B" v0) (C : RoadKit.Fld Z h x ST "coder" "B" c0) (K : RoadKit.Arr Z h b A .char) (hty : Typed .char A) (S : RoadKit.Sta Z h ST "COMPACT_STRINGS" "Z" (.int z)) (hz : ¬ z = 0)
    (l0 : 0 < A.slots.size) (l2 : A.slots.size ≤ 536870912) (hp : ∀ i, i < A.slots.size → ¬ 255 < cv A i) (hfr : 4 ≤ R.frames) (hlo : W + 65 ≤ R.locals) :
    Back l R p e below s args New1.yN len W (fun P a => a = #[.ref x, .ref b] ∧ P.U.heap = h ∧ P.cells + 1 ≤ R.cells ∧ P.slots + A.slots.size ≤ R.slots)
      (fun P _ v B => ∃ L, Q Z x A h v B.U.heap L ∧ B.locs = P.locs ++ L ∧ B.cells = P.cells + 1 ∧ B.slots = P.slots + A.slots.size) := by
  intro m meth c P g ig mk a X hg hsize hdg hW hn hp'
  obtain ⟨rfl, rfl, r1, r2⟩ := hp'
  have al : Z.vm.Alike P.U.vm := hZ.alike.trans X.warmed.alike
  obtain ⟨D, cfV, kV, iV, fV, hD, gV, stV, knV, obV, asV, slV⟩ := id V
  obtain ⟨D', cfC, kC, iC, fC, hD', gC, stC, -, -, asC, slC⟩ := id C
  cases hD.symm.trans hD'
  obtain ⟨D2, kD, e1, e2, e3, e4, e5⟩ := id E
  cases hD.symm.trans e1
  obtain ⟨c2, k2, i1, i2, i3, -⟩ := Cond.instantiable_spec wi
  cases e2.symm.trans i1
  cases e3.symm.trans i2
  obtain ⟨kU, u1, u2⟩ := al.2.2 _ _ e3
  have hB : Blank ST x D P.U := ⟨hD, ⟨knV, fun q hq => by rw [hq] at obV; cases obV⟩, by rw [al.findClass]; exact e2, kU, u1, by rw [u2]; exact i3, by rw [u2]; exact e5 i3⟩
  have F1 : Found ST "value" "[B" fV P.U := ⟨SBG.found_only al ⟨cfV, kV, iV, gV⟩, stV⟩
  have F2 : Found ST "coder" "B" fC P.U := ⟨SBG.found_only al ⟨cfC, kC, iC, gC⟩, stC⟩
  have hA : Ch b A P.U := ⟨⟨K.1, State.isArrayOf_alike al K.2.1, K.2.2, by omega⟩, hty⟩
  have hS : StaticIs P.U ST "COMPACT_STRINGS" "Z" (.int z) := by
    obtain ⟨cfS, iS, kS, fS, st, cS, t1, t2, t3, t4, t5, t6, t7⟩ := S
    exact StaticIs.there (s := { Z with heap := P.U.heap }) ⟨cfS, iS, kS, fS, st, cS, t1, t2, t3, t4, t5, (fun q => by rw [q] at t6; cases t6), t7⟩ al rfl
  obtain ⟨v, B, X', ⟨⟨hv, E', V', q1, q2, q3, q4, q5, q6, q7, q8, q9, q10, q11⟩, hl, hc, hs⟩, st⟩ := New1.pays x D fV fC b A z (tab_of (moved hZ hw)) hfr hlo m meth c P g ig mk _ X hg hsize hdg hW hn ⟨r1, r2, rfl, hB, F1, F2, hA, hS, hz, l0, l2, hp⟩
  have al' : Z.vm.Alike B.U.vm := hZ.alike.trans X'.warmed.alike
  have hsz : E'.slots.size = D.slots.size := by
    obtain ⟨-, -, -, kB, w1, w2, w3⟩ := q1
    obtain ⟨kB', y1, y2⟩ := al'.2.2 _ _ e3
    rw [q2.2.1] at w1
    cases w1.symm.trans y1
    rw [w3, e5 i3, y2]
  refine ⟨v, B, X', ⟨_, ⟨hv, ?_, ⟨by omega, fun y cy hy hn' => q10 y cy (by simpa using hn') hy, fun y cy hy => ?_⟩, q11, ⟨E', _, q1.1, by rw [q2.2.1]; exact e2, by rw [q2.2.1]; exact e3, by rw [q2.1]; exact obV, fun _ => by rw [hsz]; exact e5 i3⟩,
    ⟨E', cfV, kV, iV, fV, q1.1, gV, stV, by rw [q2.1]; exact knV, by rw [q2.1]; exact obV, by rw [q2.2.1]; exact asV, q3⟩, ⟨E', cfC, kC, iC, fC, q1.1, gC, stC, by rw [q2.1]; exact knV, by rw [q2.1]; exact obV, by rw [q2.2.1]; exact asC, q4⟩,
    ⟨V', ⟨q5.1, State.isArrayOf_alike al'.symm q5.2.1, q5.2.2.1⟩, q6, by rw [← al'.findClass]; exact q7, q8, fun j hj => by have := q9 j hj; rwa [Nat.zero_add] at this⟩, fun O n d w F n1 n2 => ?_⟩, hl, hc, hs⟩, st⟩
  · intro y hy
    simp only [List.mem_cons, List.not_mem_nil, or_false] at hy
    rcases hy with rfl | rfl <;> rfl
  · by_cases q : y = x
    · subst q
      cases hD.symm.trans hy
      exact ⟨E', q1.1, q2.2.1, q2.1, hsz⟩
    · exact ⟨cy, q10 y cy q hy, rfl, rfl, rfl⟩
  · obtain ⟨D3, cf, k, i, f, g1, g2, g3, g4, g5, g6, g7⟩ := F
    cases hD.symm.trans g1
    simp only [RoadKit.slotOf, g2, gV, gC, Option.map_some, Option.getD_some] at n1 n2
    exact ⟨E', cf, k, i, f, q1.1, g2, g3, by rw [q2.1]; exact g4, by rw [q2.1]; exact g5, by rw [q2.2.1]; exact g6, by rw [q2.2.2 f.slot (by simp [n1, n2])]; exact g7⟩
end StrChars.Road
namespace StrChars.Road
open Jvm Sem ClassFile Op Lib Jvm.Stand Jvm.Free Jvm.Free.XT
/-- WHAT COMES BACK, the byte[] as a list of values -/
def QA (Z : State) (x : Addr) (zn : Int32) (cs : List Int32) (h : Heap) (v : Option Value) (h' : Heap) (L : List Loc) : Prop := v = none ∧ (∀ y ∈ L, y.base = x) ∧ RoadKit.Keep h h' [x] ∧ h'.size = h.size + 1 ∧ RoadKit.Exa Z h' x ST ∧ RoadKit.Fld Z h' x ST "value" "[B" (.ref h.size) ∧ RoadKit.Fld Z h' x ST "coder" "B" (.int 0) ∧
  (∃ kb, Z.vm.findClass "[B" = some kb ∧ RoadKit.Arv Z h' h.size kb .byte zn (cs.map fun c => .int (lo8 c)) (.int 0)) ∧
  ∀ (O n d : String) (w : Value), RoadKit.Fld Z h x O n d w → RoadKit.slotOf Z O n d ≠ RoadKit.slotOf Z ST "value" "[B" → RoadKit.slotOf Z O n d ≠ RoadKit.slotOf Z ST "coder" "B" → RoadKit.Fld Z h' x O n d w
/-- **new String(chars) AT A CALL, THE ARRAYS AS LISTS**: the char[] at b holds cs, not empty, no char above 255 -/
theorem backArv {p : Program} {l : Launch} {e : Env} {R : Room} {s : State} {args : Array Value} {below : List Frame} {len W : Nat} {Z : State} {a0 : Array Value} {h : Heap} (hZ : Z.Warmed39 s.vm) (hw : ∀ d ∈ words, d.before a0 Z = true) {kI : Nat} (wi : (Jvm.Cond.instantiable ST kI).before a0 Z = true)
    {x b : Addr} {k : ClassId} {zn z : Int32} {cs : List Int32} {dv v0 c0 : Value} (E : RoadKit.Exa Z h x ST) (V : RoadKit.Fld Z h x ST "value" "[B" v0) (C : RoadKit.Fld Z h x ST "coder" "B" c0) (K : RoadKit.Arv Z h b k .char zn (cs.map Value.int) dv) (S : RoadKit.Sta Z h ST "COMPACT_STRINGS" "Z" (.int z)) (hz : ¬ z = 0)
    (hlen : zn.toNatClampNeg = cs.length) (h0 : 0 < cs.length) (hbig : cs.length ≤ 536870912) (hall : ∀ c ∈ cs, ¬ 255 < c) (hfr : 4 ≤ R.frames) (hlo : W + 65 ≤ R.locals) :
    Back l R p e below s args New1.yN len W (fun P a => a = #[.ref x, .ref b] ∧ P.U.heap = h ∧ P.cells + 1 ≤ R.cells ∧ P.slots + cs.length ≤ R.slots)
      (fun P _ v B => ∃ L, QA Z x zn cs h v B.U.heap L ∧ B.locs = P.locs ++ L ∧ B.cells = P.cells + 1 ∧ B.slots = P.slots + cs.length) := by
  obtain ⟨A, K1, K2, K3, K4, K5, K6⟩ := K
  have e : A.slots.size = cs.length := K3.trans hlen
  have hat : ∀ (i : Nat) (hi : i < cs.length), A.slots[i]? = some (.int cs[i]) := fun i hi => by rw [K5 i (by omega)]; simp [List.getD_eq_getElem?_getD, hi]
  have hcv : ∀ (i : Nat) (hi : i < cs.length), cv A i = cs[i] := fun i hi => by unfold cv; rw [hat i hi]
  have hty : Typed .char A := fun i v hv => by
    have hi : i < A.slots.size := (Array.getElem?_eq_some_iff.mp hv).1
    have q := K5 i hi
    rw [hv] at q
    rw [Option.some.inj q]
    exact K6 i hi
  refine Back.mono (back hZ hw wi E V C K1 hty S hz (by omega) (by omega) (fun i hi => by rw [hcv i (by omega)]; exact hall _ (List.getElem_mem _)) hfr hlo) (fun P a hp => ⟨hp.1, hp.2.1, hp.2.2.1, by rw [e]; exact hp.2.2.2⟩) (fun P a v B hp hq => ?_)
  obtain ⟨L, ⟨q1, q2, q3, q4, q5, q6, q7, ⟨V', v1, v2, v3, v4, v5⟩, q9⟩, hl, hc, hs⟩ := hq
  refine ⟨L, ⟨q1, q2, q3, q4, q5, q6, q7, ⟨V'.cls, v3, V', v1, rfl, by rw [v4, e, hlen], K4, fun i hi => ?_, fun i hi => ?_⟩, q9⟩, hl, hc, by rw [hs, e]⟩
  · have hi' : i < cs.length := by omega
    rw [v5 i (by omega), hcv i hi']; simp [List.getD_eq_getElem?_getD, hi']
  · have hi' : i < cs.length := by omega
    simp only [List.getD_eq_getElem?_getD, List.getElem?_map, List.getElem?_eq_getElem hi', Option.map_some, Option.getD_some]
    exact fits_lo8 _
end StrChars.Road
namespace StrChars.Road
open Jvm Sem ClassFile Op Lib Jvm.Stand Jvm.Free Jvm.Free.XT
/-- WHAT COMES BACK, in the writer's own shape -/
def QV (Z : State) (x : Addr) (N : Int32) (bs : List Int32) (h : Heap) (n0 : Nat) (v : Option Value) (h' : Heap) (L : List Loc) : Prop := v = none ∧ RoadKit.Fr n0 L ∧ RoadKit.Keep h h' [x] ∧ RoadKit.Exa Z h' x ST ∧ RoadKit.Fld Z h' x ST "coder" "B" (.int 0) ∧
  ∃ (t : Addr) (kb : ClassId), n0 ≤ t ∧ h.size ≤ t ∧ ¬ t = x ∧ RoadKit.Fld Z h' x ST "value" "[B" (.ref t) ∧ RoadKit.Arv Z h' t kb .byte N (bs.map Value.int) (.int 0)
/-- **new String(chars) AT A CALL, FOR THE WRITER**: a char[] of n known ints, each 0 to 255 -/
theorem backV {p : Program} {l : Launch} {e : Env} {R : Room} {s : State} {args : Array Value} {below : List Frame} {len W : Nat} {Z : State} {a0 : Array Value} {h : Heap} (hZ : Z.Warmed39 s.vm) (hw : ∀ d ∈ words, d.before a0 Z = true) {kI : Nat} (wi : (Jvm.Cond.instantiable ST kI).before a0 Z = true)
    {x b : Addr} {kC : ClassId} {cs bs : List Int32} {d v0 c0 : Value} {z N : Int32} {n n0 : Nat} (hx0 : n0 ≤ x) (hh0 : n0 ≤ h.size) (E : RoadKit.Exa Z h x ST) (V : RoadKit.Fld Z h x ST "value" "[B" v0) (C : RoadKit.Fld Z h x ST "coder" "B" c0) (K : RoadKit.Arv Z h b kC .char N (cs.map Value.int) d) (S : RoadKit.Sta Z h ST "COMPACT_STRINGS" "Z" (.int z)) (hz : ¬ z = 0)
    (hn : cs.length = n) (hN : N = Int32.ofNat n) (l0 : 0 < n) (l2 : n ≤ 4000) (hp : ∀ c ∈ cs, ¬ c < 0 ∧ ¬ (255 : Int32) < c) (hb : bs = cs.map (fun c => c.toInt8.toInt32)) (hfr : 4 ≤ R.frames) (hlo : W + 65 ≤ R.locals) :
    Back l R p e below s args (⟨"java/lang/String", "<init>", "([C)V"⟩ : MethodName) len W (fun P a => a = #[.ref x, .ref b] ∧ P.U.heap = h ∧ P.cells + 1 ≤ R.cells ∧ P.slots + n ≤ R.slots)
      (fun P _ v B => ∃ L, QV Z x N bs h n0 v B.U.heap L ∧ B.locs = P.locs ++ L ∧ B.cells = P.cells + 1 ∧ B.slots = P.slots + n) := by
  subst hn hN hb
  refine Back.mono (backArv hZ hw wi E V C K S hz (n32 (by omega)) l0 (by omega) (fun c hc => (hp c hc).2) hfr hlo) (fun P a hp => hp) (fun P a v B hp hq => ?_)
  obtain ⟨L, ⟨q1, q2, q3, q4, q5, q6, q7, ⟨kb, v1, v2⟩, q9⟩, hl, hc, hs⟩ := hq
  exact ⟨L, ⟨q1, fun y hy => by rw [q2 y hy]; exact hx0, q3, q5, q7, h.size, kb, hh0, Nat.le_refl _, Nat.ne_of_gt E.lt, q6, by rw [List.map_map]; exact v2⟩, hl, hc, hs⟩
end StrChars.Road
namespace StrChars
open Jvm Sem ClassFile Op Lib Jvm.Stand Jvm.Free.XT Jvm.Free.ALB Jvm.Free.JM Jvm.Free
open Jvm.Lib.Cold (StaticIs)
def hi8 (x : Int32) : Int32 := lo8 (x >>> ((8 : Int32) &&& 31))
/-- what StringUTF16.getChar makes of two bytes -/
def pairCh (u v : Int32) : Int32 := (((u &&& 255) <<< ((0 : Int32) &&& 31)) ||| ((v &&& 255) <<< ((8 : Int32) &&& 31))).toUInt32.toUInt16.toUInt32.toInt32
theorem lo8_and (x : Int32) : (lo8 x &&& 255).toBitVec.toNat = x.toBitVec.toNat % 256 := by
  have h : (lo8 x).toBitVec = (x.toBitVec.signExtend 8).signExtend 32 := by rw [lo8, Int8.toBitVec_toInt32, Int32.toBitVec_toInt8]
  rw [Int32.toBitVec_and, BitVec.toNat_and, h]
  have e : ((x.toBitVec.signExtend 8).signExtend 32).toNat % 256 = x.toBitVec.toNat % 256 := by
    rw [BitVec.toNat_signExtend]
    have hlt := x.toBitVec.isLt
    simp only [BitVec.toNat_setWidth, BitVec.toNat_signExtend]
    split <;> split <;> omega
  rw [← e]
  exact Nat.and_two_pow_sub_one_eq_mod _ 8
theorem pair_says {c : Int32} (h0 : ¬ c < 0) (h1 : ¬ 65535 < c) : pairCh (lo8 c) (hi8 c) = c := by
  rw [Int32.lt_iff_toInt_lt] at h0 h1
  have e0 : (0 : Int32).toInt = 0 := rfl
  have e1 : (65535 : Int32).toInt = 65535 := rfl
  have hc : c.toInt = c.toBitVec.toNat := by
    have := c.toBitVec.isLt
    have e : c.toInt = c.toBitVec.toInt := rfl
    rw [e] at h0 h1
    rw [e]
    rw [BitVec.toInt_eq_toNat_cond] at h0 h1 ⊢
    split at h0 <;> split <;> omega
  have hn : c.toBitVec.toNat < 65536 := by omega
  have a1 := lo8_and c
  have a2 : (hi8 c &&& 255).toBitVec.toNat = c.toBitVec.toNat / 256 := by
    rw [hi8, lo8_and]
    have e : ((8 : Int32) &&& 31) = 8 := by decide
    rw [e, Int32.toBitVec_shiftRight]
    have e2 : ((8 : Int32).toBitVec.smod 32) = 8#32 := by decide
    rw [e2, BitVec.sshiftRight_eq', BitVec.toNat_sshiftRight_of_msb_false (by rw [BitVec.msb_eq_false_iff_two_mul_lt]; omega)]
    show c.toBitVec.toNat >>> 8 % 256 = _
    rw [Nat.shiftRight_eq_div_pow]
    omega
  unfold pairCh
  apply Int32.toBitVec_inj.mp
  apply BitVec.eq_of_toNat_eq
  have f0 : ((0 : Int32) &&& 31) = 0 := by decide
  have f8 : ((8 : Int32) &&& 31) = 8 := by decide
  rw [f0, f8]
  have g : (((lo8 c &&& 255) <<< (0 : Int32)) ||| ((hi8 c &&& 255) <<< (8 : Int32))).toBitVec.toNat = c.toBitVec.toNat := by
    rw [Int32.toBitVec_or, Int32.toBitVec_shiftLeft, Int32.toBitVec_shiftLeft]
    have s0 : ((0 : Int32).toBitVec.smod 32) = 0#32 := by decide
    have s8 : ((8 : Int32).toBitVec.smod 32) = 8#32 := by decide
    rw [s0, s8, BitVec.toNat_or]
    simp only [BitVec.shiftLeft_eq', BitVec.toNat_shiftLeft, a1, a2]
    show (c.toBitVec.toNat % 256) <<< 0 % 2 ^ 32 ||| (c.toBitVec.toNat / 256) <<< 8 % 2 ^ 32 = _
    rw [Nat.shiftLeft_zero, Nat.mod_eq_of_lt (show c.toBitVec.toNat % 256 < 2 ^ 32 by omega), Nat.mod_eq_of_lt (show (c.toBitVec.toNat / 256) <<< 8 < 2 ^ 32 by rw [Nat.shiftLeft_eq]; omega), Nat.or_comm, ← Nat.shiftLeft_add_eq_or_of_lt (by omega), Nat.shiftLeft_eq]
    omega
  show BitVec.toNat (((((lo8 c &&& 255) <<< (0 : Int32)) ||| ((hi8 c &&& 255) <<< (8 : Int32))).toBitVec.setWidth 16).setWidth 32) = _
  rw [BitVec.toNat_setWidth, BitVec.toNat_setWidth, g]
  omega
end StrChars
namespace StrChars
open Jvm Sem ClassFile Op Lib Jvm.Stand Jvm.Free.XT Jvm.Free.ALB Jvm.Free.JM Jvm.Free
open Jvm.Lib.Cold (StaticIs)
/-- the array's cell V codes the n chars f 0 .. f (n - 1) by the coder cd, as the JDK does: coder 1 just where some char is above 255 -/
def Cod (cd : Int32) (n : Nat) (f : Nat → Int32) (V : Cell) : Prop := (cd = 0 ∧ V.slots.size = n ∧ ∀ j, j < n → V.slots[j]? = some (.int (lo8 (f j))) ∧ ¬ 255 < f j) ∨ (cd = 1 ∧ V.slots.size = 2 * n ∧ (∀ j, j < n → V.slots[2 * j]? = some (.int (lo8 (f j))) ∧ V.slots[2 * j + 1]? = some (.int (hi8 (f j)))) ∧ ∃ j, j < n ∧ 255 < f j)
/-- **x is a String of the n chars f 0 .. f (n - 1)**, Latin-1 or UTF-16; its array at t has the cell V -/
def Txt (x t : Addr) (V : Cell) (cd : Int32) (n : Nat) (f : Nat → Int32) (U : State) : Prop := Exact "java/lang/String" x U ∧ Has x "java/lang/String" "value" "[B" (.ref t) U ∧ Has x "java/lang/String" "coder" "B" (.int cd) U ∧ XT.Arr .byte t V U ∧ Cod cd n f V ∧ ∀ j, j < n → ¬ f j < 0 ∧ ¬ 65535 < f j
theorem Txt.mv {x t : Addr} {V : Cell} {cd : Int32} {n : Nat} {f : Nat → Int32} {U U' : State} (h : Txt x t V cd n f U) (hal : U.vm.Alike U'.vm) (hh : U'.heap = U.heap) : Txt x t V cd n f U' := ⟨h.1.mv hal hh, h.2.1.mv hal hh, h.2.2.1.mv hal hh, h.2.2.2.1.mv hal hh, h.2.2.2.2⟩
end StrChars
namespace StrChars.Road
open Jvm Sem ClassFile Op Lib Jvm.Stand Jvm.Free Jvm.Free.XT
open Jvm.Lib.Cold (StaticIs)
theorem consq {a : Array Value} {s : State} {c : Jvm.Cond} {L : List Jvm.Cond} (h0 : c.before a s = true) (h : ∀ w ∈ L, w.before a s = true) : ∀ w ∈ c :: L, w.before a s = true := fun w hw => (List.mem_cons.mp hw).elim (fun e => e ▸ h0) (h w)
/-- the bytes of the chars cs, low before high -/
def wideBytes : List Int32 → List Value
  | [] => []
  | c :: cs => .int (lo8 c) :: .int (hi8 c) :: wideBytes cs
theorem wide_lo (d : Value) : ∀ (cs : List Int32) (j : Nat), j < cs.length → (wideBytes cs).getD (2 * j) d = .int (lo8 (cs.getD j 0))
  | [], j, h => absurd h (Nat.not_lt_zero j)
  | c :: cs, 0, _ => rfl
  | c :: cs, j + 1, h => by
    have q := wide_lo d cs j (by simpa using h)
    rw [show 2 * (j + 1) = 2 * j + 1 + 1 from by omega]
    simpa [wideBytes] using q
theorem wide_hi (d : Value) : ∀ (cs : List Int32) (j : Nat), j < cs.length → (wideBytes cs).getD (2 * j + 1) d = .int (hi8 (cs.getD j 0))
  | [], j, h => absurd h (Nat.not_lt_zero j)
  | c :: cs, 0, _ => rfl
  | c :: cs, j + 1, h => by
    have q := wide_hi d cs j (by simpa using h)
    rw [show 2 * (j + 1) + 1 = 2 * j + 1 + 1 + 1 from by omega]
    simpa [wideBytes] using q
theorem low_at (d : Value) (cs : List Int32) (j : Nat) (h : j < cs.length) : (cs.map fun c => Value.int (lo8 c)).getD j d = .int (lo8 (cs.getD j 0)) := by
  simp [List.getD_eq_getElem?_getD, h]
/-- an array of N2 bytes vs codes the chars cs by the coder cd -/
def CodA (cs : List Int32) (cd N2 : Int32) (vs : List Value) : Prop := (cd = 0 ∧ N2 = Int32.ofNat cs.length ∧ vs = (cs.map fun c => Value.int (lo8 c)) ∧ ∀ c ∈ cs, ¬ 255 < c) ∨ (cd = 1 ∧ N2 = Int32.ofNat (2 * cs.length) ∧ vs = wideBytes cs ∧ ∃ c ∈ cs, 255 < c)
theorem CodA.cod {cs : List Int32} {cd N2 : Int32} {vs : List Value} {V : Cell} (h : CodA cs cd N2 vs) (hn : 2 * cs.length < 2 ^ 31) (hs : V.slots.size = N2.toNatClampNeg) (hv : RoadKit.Has V vs (.int 0)) : Cod cd cs.length (fun j => cs.getD j 0) V := by
  rcases h with ⟨rfl, rfl, rfl, h⟩ | ⟨rfl, rfl, rfl, c, hc, hw⟩
  · rw [n32 (by omega)] at hs
    exact Or.inl ⟨rfl, hs, fun j hj => ⟨by rw [hv j (by omega), low_at _ _ _ hj], by
      have e : cs.getD j 0 = cs[j] := by simp [List.getD_eq_getElem?_getD, hj]
      show ¬ 255 < cs.getD j 0
      rw [e]; exact h _ (List.getElem_mem _)⟩⟩
  · rw [n32 (by omega)] at hs
    obtain ⟨j, hj, rfl⟩ := List.getElem_of_mem hc
    exact Or.inr ⟨rfl, hs, fun j hj => ⟨by rw [hv _ (by omega), wide_lo _ _ _ hj], by rw [hv _ (by omega), wide_hi _ _ _ hj]⟩, j, hj, by
      have e : cs.getD j 0 = cs[j] := by simp [List.getD_eq_getElem?_getD, hj]
      show 255 < cs.getD j 0
      rw [e]; exact hw⟩
/-- an object of exactly java/lang/String, its two fields found: as the laws ask it -/
theorem strObj {Z U : State} {a0 : Array Value} {kI : Nat} (wi : (Jvm.Cond.instantiable ST kI).before a0 Z = true) (al : Z.vm.Alike U.vm) {x : Addr} {v0 c0 : Value} (E : RoadKit.Exa Z U.heap x ST) (V : RoadKit.Fld Z U.heap x ST "value" "[B" v0) (C : RoadKit.Fld Z U.heap x ST "coder" "B" c0) :
    ∃ (D : Cell) (fV fC : Field), Blank ST x D U ∧ Found ST "value" "[B" fV U ∧ Found ST "coder" "B" fC U ∧ D.slots[fV.slot]? = some v0 ∧ D.slots[fC.slot]? = some c0 ∧ RoadKit.slotOf Z ST "value" "[B" = fV.slot ∧ RoadKit.slotOf Z ST "coder" "B" = fC.slot := by
  obtain ⟨D, cfV, kV, iV, fV, hD, gV, stV, knV, obV, asV, slV⟩ := V
  obtain ⟨D', cfC, kC, iC, fC, hD', gC, stC, -, -, asC, slC⟩ := C
  cases hD.symm.trans hD'
  obtain ⟨D2, kD, e1, e2, e3, e4, e5⟩ := E
  cases hD.symm.trans e1
  obtain ⟨c2, k2, i1, i2, i3, -⟩ := Cond.instantiable_spec wi
  cases e2.symm.trans i1
  cases e3.symm.trans i2
  obtain ⟨kU, u1, u2⟩ := al.2.2 _ _ e3
  exact ⟨D, fV, fC, ⟨hD, ⟨knV, fun q hq => by rw [hq] at obV; cases obV⟩, by rw [al.findClass]; exact e2, kU, u1, by rw [u2]; exact i3, by rw [u2]; exact e5 i3⟩, ⟨SBG.found_only al ⟨cfV, kV, iV, gV⟩, stV⟩, ⟨SBG.found_only al ⟨cfC, kC, iC, gC⟩, stC⟩, slV, slC, by simp [RoadKit.slotOf, gV], by simp [RoadKit.slotOf, gC]⟩
theorem sta_is {Z U : State} (al : Z.vm.Alike U.vm) {C n d : String} {v : Value} (S : RoadKit.Sta Z U.heap C n d v) : StaticIs U C n d v := by
  obtain ⟨cfS, iS, kS, fS, st, cS, t1, t2, t3, t4, t5, t6, t7⟩ := S
  exact StaticIs.there (s := { Z with heap := U.heap }) ⟨cfS, iS, kS, fS, st, cS, t1, t2, t3, t4, t5, (fun q => by rw [q] at t6; cases t6), t7⟩ al rfl
end StrChars.Road
namespace StrChars
open Jvm Sem ClassFile Op Lib Jvm.Stand Jvm.Free.XT Jvm.Free.ALB Jvm.Free.JM Jvm.Free
open Jvm.Lib.Cold (StaticIs)
/-- what place i of a byte[]'s cell holds -/
def yv (A : Cell) (i : Nat) : Int32 := match A.slots[i]? with | some (.int x) => x | _ => 0
theorem yv_get {a : Addr} {A : Cell} {U : State} (h : XT.Arr .byte a A U) (ht : Typed .byte A) {i : Nat} (hi : i < A.slots.size) : A.slots[i]? = some (.int (yv A i)) := by
  have e := Array.getElem?_eq_getElem hi
  have f := ht i _ e
  unfold yv; rw [e]
  generalize A.slots[i] = v at f
  cases v <;> simp [fits] at f ⊢
/-- the two arrays are equal, place for place -/
def EqC (A B : Cell) : Prop := A.slots.size = B.slots.size ∧ ∀ i, i < A.slots.size → yv A i = yv B i
/-- a boolean that says whether p -/
def Says01 (q : Prop) (r : Option Value) (s u : State) : Prop := ∃ v : Int32, r = some (.int v) ∧ u.heap = s.heap ∧ ((v = 1 ∧ q) ∨ (v = 0 ∧ ¬ q))
theorem Says01.mv {q : Prop} : ∀ r (U U' V V' : State), U'.heap = U.heap → V.vm.Alike V'.vm → V'.heap = V.heap → Says01 q r U V → Says01 q r U' V' :=
  fun r U U' V V' h1 _ h2 ⟨v, a, b, c⟩ => ⟨v, a, by rw [h1, h2]; exact b, c⟩
namespace LEq
def yN : MethodName := ⟨"java/lang/StringLatin1", "equals", "([B[B)Z"⟩
abbrev yB : ByteArray := jdk_43_method_13_code
theorem d0 : decode yB 0 = .ok (.aload_n 0, 1) := by decide +kernel
theorem d1 : decode yB 1 = .ok (.arraylength, 1) := by decide +kernel
theorem d2 : decode yB 2 = .ok (.aload_n 1, 1) := by decide +kernel
theorem d3 : decode yB 3 = .ok (.arraylength, 1) := by decide +kernel
theorem d4 : decode yB 4 = .ok (.if_icmp (.ne) 30, 3) := by decide +kernel
theorem d7 : decode yB 7 = .ok (.iconst 0, 1) := by decide +kernel
theorem d8 : decode yB 8 = .ok (.istore_n 2, 1) := by decide +kernel
theorem d9 : decode yB 9 = .ok (.iload_n 2, 1) := by decide +kernel
theorem d10 : decode yB 10 = .ok (.aload_n 0, 1) := by decide +kernel
theorem d11 : decode yB 11 = .ok (.arraylength, 1) := by decide +kernel
theorem d12 : decode yB 12 = .ok (.if_icmp (.ge) 20, 3) := by decide +kernel
theorem d15 : decode yB 15 = .ok (.aload_n 0, 1) := by decide +kernel
theorem d16 : decode yB 16 = .ok (.iload_n 2, 1) := by decide +kernel
theorem d17 : decode yB 17 = .ok (.baload, 1) := by decide +kernel
theorem d18 : decode yB 18 = .ok (.aload_n 1, 1) := by decide +kernel
theorem d19 : decode yB 19 = .ok (.iload_n 2, 1) := by decide +kernel
theorem d20 : decode yB 20 = .ok (.baload, 1) := by decide +kernel
theorem d21 : decode yB 21 = .ok (.if_icmp (.eq) 5, 3) := by decide +kernel
theorem d24 : decode yB 24 = .ok (.iconst 0, 1) := by decide +kernel
theorem d25 : decode yB 25 = .ok (.ireturn, 1) := by decide +kernel
theorem d26 : decode yB 26 = .ok (.iinc 2 1, 3) := by decide +kernel
theorem d29 : decode yB 29 = .ok (.goto (-20), 3) := by decide +kernel
theorem d32 : decode yB 32 = .ok (.iconst 1, 1) := by decide +kernel
theorem d33 : decode yB 33 = .ok (.ireturn, 1) := by decide +kernel
theorem d34 : decode yB 34 = .ok (.iconst 0, 1) := by decide +kernel
theorem d35 : decode yB 35 = .ok (.ireturn, 1) := by decide +kernel
def site : List Cond := []
def tab : Cond := tabOf yN yB 3 (some .boolean) site
def P (a : Addr) (A : Cell) (b : Addr) (B : Cell) (args : Array Value) (s : State) : Prop := args = #[.ref a, .ref b] ∧ XT.Arr .byte a A s ∧ Typed .byte A ∧ XT.Arr .byte b B s ∧ Typed .byte B
/-- whether two byte[] are equal, place for place -/
theorem law (l : Launch) (a : Addr) (A : Cell) (b : Addr) (B : Cell) : Law l yN 2 2 0 0 yB 3 (some .boolean) site (P a A b B) (Says01 (EqC A B)) [] 0 0 := by
  refine Law.of_walk (plainFor_of_name (by decide +kernel)) (by decide +kernel) (by decide +kernel) (by decide) (fun _ _ h => by rw [h.1]; rfl) (fun _ U U' hal hh h => ⟨h.1, h.2.1.mv hal hh, h.2.2.1, h.2.2.2.1.mv hal hh, h.2.2.2.2⟩) (fun r U U' V V' h1 hal h2 h => Says01.mv r U U' V V' h1 hal h2 h) ?_
  intro p e s m args below meth c s₁ X0 hexec hbytes hml hret hlk hnm hown hh0 W hP
  obtain ⟨rfl, hA, tA, hB, tB⟩ := hP
  have a31 := hA.2.2.2
  have b31 := hB.2.2.2
  have hA0 := hA.mv X0.warmed.alike hh0
  have hB0 := hB.mv X0.warmed.alike hh0
  have c1 : Steps p.tables e below (s₁.setTop (entryFrame m #[.ref a, .ref b] 3)) (s₁.setTop (mkF m 0 #[.val (.ref a), .val (.ref b), .unset] [])) := entry rfl
  have c2 : Steps p.tables e below (s₁.setTop (entryFrame m #[.ref a, .ref b] 3)) (s₁.setTop (mkF m 4 #[.val (.ref a), .val (.ref b), .unset] [.int (Int32.ofNat B.slots.size), .int (Int32.ofNat A.slots.size)])) := c1.trans (by
    refine XS.aloadN X0.here hexec rfl (hb hbytes d0) rfl rfl ?_
    refine X0.alen hexec hA0 rfl rfl (hb hbytes d1) ?_
    refine XS.aloadN X0.here hexec rfl (hb hbytes d2) rfl rfl ?_
    refine X0.alen hexec hB0 rfl rfl (hb hbytes d3) ?_
    exact Steps.refl _)
  by_cases hs : A.slots.size = B.slots.size
  · have c3 : Steps p.tables e below (s₁.setTop (entryFrame m #[.ref a, .ref b] 3)) (s₁.setTop (mkF m 9 #[.val (.ref a), .val (.ref b), .val (.int 0)] [])) := c2.trans (by
      refine XS.icmpNo X0.here hexec rfl (hb hbytes d4) rfl (ii_ne_f (by rw [hs])) ?_
      refine iconstV X0.here hexec rfl 0 (hb hbytes d7) (by decide) ?_
      refine XS.istoreN X0.here hexec rfl (hb hbytes d8) rfl rfl ?_
      exact Steps.refl _)
    have loop : ∀ (r i : Nat), i + r = A.slots.size → (∀ j, j < i → yv A j = yv B j) → Steps p.tables e below (s₁.setTop (entryFrame m #[.ref a, .ref b] 3)) (s₁.setTop (mkF m 9 #[.val (.ref a), .val (.ref b), .val (.int (Int32.ofNat i))] [])) → ∃ (pc : Nat) (Ls : Array Slot) (v : Int32), (pc = 25 ∨ pc = 33) ∧ ((v = 1 ∧ EqC A B) ∨ (v = 0 ∧ ¬ EqC A B)) ∧ Steps p.tables e below (s₁.setTop (entryFrame m #[.ref a, .ref b] 3)) (s₁.setTop (mkF m pc Ls [.int v])) := by
      intro r
      induction r with
      | zero =>
        intro i hi he cl
        exact ⟨33, _, 1, Or.inr rfl, Or.inl ⟨rfl, hs, fun j hj => he j (by omega)⟩, cl.trans (by
          refine XS.iloadN X0.here hexec rfl (hb hbytes d9) rfl ?_
          refine XS.aloadN X0.here hexec rfl (hb hbytes d10) rfl rfl ?_
          refine X0.alen hexec hA0 rfl rfl (hb hbytes d11) ?_
          refine XS.icmpYes X0.here hexec rfl (pc0 := 12) rfl (hb hbytes d12) rfl (ii_ge_t (nlt32 (by omega) (by omega))) (by decide) rfl ?_
          refine iconstV X0.here hexec rfl 1 (hb hbytes d32) (by decide) ?_
          exact Steps.refl _)⟩
      | succ r ih =>
        intro i hi he cl
        have c4 : Steps p.tables e below (s₁.setTop (entryFrame m #[.ref a, .ref b] 3)) (s₁.setTop (mkF m 21 #[.val (.ref a), .val (.ref b), .val (.int (Int32.ofNat i))] [.int (yv B i), .int (yv A i)])) := cl.trans (by
          refine XS.iloadN X0.here hexec rfl (hb hbytes d9) rfl ?_
          refine XS.aloadN X0.here hexec rfl (hb hbytes d10) rfl rfl ?_
          refine X0.alen hexec hA0 rfl rfl (hb hbytes d11) ?_
          refine XS.icmpNo X0.here hexec rfl (hb hbytes d12) rfl (ii_ge_f (lt32 (by omega) (by omega))) ?_
          refine XS.aloadN X0.here hexec rfl (hb hbytes d15) rfl rfl ?_
          refine XS.iloadN X0.here hexec rfl (hb hbytes d16) rfl ?_
          refine X0.aget hexec hA0 rfl (yv_get hA tA (i := i) (by omega)) rfl rfl (hb hbytes d17) ?_
          refine XS.aloadN X0.here hexec rfl (hb hbytes d18) rfl rfl ?_
          refine XS.iloadN X0.here hexec rfl (hb hbytes d19) rfl ?_
          refine X0.aget hexec hB0 rfl (yv_get hB tB (i := i) (by omega)) rfl rfl (hb hbytes d20) ?_
          exact Steps.refl _)
        by_cases hv : yv A i = yv B i
        · have c5 : Steps p.tables e below (s₁.setTop (entryFrame m #[.ref a, .ref b] 3)) (s₁.setTop (mkF m 9 #[.val (.ref a), .val (.ref b), .val (.int (Int32.ofNat i + 1))] [])) := c4.trans (by
            refine XS.icmpYes X0.here hexec rfl (pc0 := 21) rfl (hb hbytes d21) rfl (ii_eq_t hv) (by decide) rfl ?_
            refine iincV X0.here hexec rfl 1 (hb hbytes d26) (by decide) rfl rfl ?_
            refine XS.goto X0.here hexec rfl (pc0 := 29) rfl (hb hbytes d29) (by decide) rfl ?_
            exact Steps.refl _)
          rw [succ32] at c5
          exact ih (i + 1) (by omega) (fun j hj => by
            by_cases e : j = i
            · rw [e]; exact hv
            · exact he j (by omega)) c5
        · exact ⟨25, _, 0, Or.inl rfl, Or.inr ⟨rfl, fun q => hv (q.2 i (by omega))⟩, c4.trans (by
            refine XS.icmpNo X0.here hexec rfl (hb hbytes d21) rfl (ii_eq_f hv) ?_
            refine iconstV X0.here hexec rfl 0 (hb hbytes d24) (by decide) ?_
            exact Steps.refl _)⟩
    obtain ⟨pc, Ls, v, hpc, hv, cz⟩ := loop A.slots.size 0 (by omega) (fun j hj => absurd hj (Nat.not_lt_zero j)) c3
    have nv : narrow .boolean (.int v) = .int v := by rcases hv with ⟨rfl, -⟩ | ⟨rfl, -⟩ <;> rfl
    rcases hpc with rfl | rfl
    · exact ⟨s₁, some (.int v), _, _, _, X0, rfl, rfl, rfl, (fun h => by cases h), ⟨v, rfl, hh0, hv⟩, fun fs hl => cz.trans (X0.ireturnOut hexec hret nv (Or.inr (Or.inl rfl)) (hb hbytes d25) hl)⟩
    · exact ⟨s₁, some (.int v), _, _, _, X0, rfl, rfl, rfl, (fun h => by cases h), ⟨v, rfl, hh0, hv⟩, fun fs hl => cz.trans (X0.ireturnOut hexec hret nv (Or.inr (Or.inl rfl)) (hb hbytes d33) hl)⟩
  · have c3 : Steps p.tables e below (s₁.setTop (entryFrame m #[.ref a, .ref b] 3)) (s₁.setTop (mkF m 35 #[.val (.ref a), .val (.ref b), .unset] [.int 0])) := c2.trans (by
      refine XS.icmpYes X0.here hexec rfl (pc0 := 4) rfl (hb hbytes d4) rfl (ii_ne_t (ne32 a31 b31 hs)) (by decide) rfl ?_
      refine iconstV X0.here hexec rfl 0 (hb hbytes d34) (by decide) ?_
      exact Steps.refl _)
    exact ⟨s₁, some (.int 0), _, _, _, X0, rfl, rfl, rfl, (fun h => by cases h), ⟨0, rfl, hh0, Or.inr ⟨rfl, fun q => hs q.1⟩⟩, fun fs hl => c3.trans (X0.ireturnOut hexec hret rfl (Or.inr (Or.inl rfl)) (hb hbytes d35) hl)⟩
end LEq
theorem Cod.ty {cd : Int32} {n : Nat} {f : Nat → Int32} {V : Cell} (h : Cod cd n f V) : Typed .byte V := fun i v hv => by
  have hi : i < V.slots.size := (Array.getElem?_eq_some_iff.mp hv).1
  rcases h with ⟨-, k1, k2⟩ | ⟨-, k1, k2, -⟩
  · rw [(k2 i (by omega)).1] at hv; cases hv; exact fits_lo8 _
  · rcases Nat.mod_two_eq_zero_or_one i with e | e
    · obtain ⟨j, rfl⟩ : ∃ j, i = 2 * j := ⟨i / 2, by omega⟩
      rw [(k2 j (by omega)).1] at hv; cases hv; exact fits_lo8 _
    · obtain ⟨j, rfl⟩ : ∃ j, i = 2 * j + 1 := ⟨i / 2, by omega⟩
      rw [(k2 j (by omega)).2] at hv; cases hv; exact fits_lo8 _
/-- the same text -/
def SameT (n : Nat) (f : Nat → Int32) (k : Nat) (g : Nat → Int32) : Prop := n = k ∧ ∀ j, j < n → f j = g j
theorem lo8_inj {x y : Int32} (h0 : ¬ x < 0) (h1 : ¬ 255 < x) (k0 : ¬ y < 0) (k1 : ¬ 255 < y) (h : lo8 x = lo8 y) : x = y := by
  rw [← lo8_mask h0 h1, ← lo8_mask k0 k1, h]
/-- arrays coded by one coder are equal just where the texts are -/
theorem Cod.eqv {cd : Int32} {n k : Nat} {f g : Nat → Int32} {V V' : Cell} (h : Cod cd n f V) (h' : Cod cd k g V') (hf : ∀ j, j < n → ¬ f j < 0 ∧ ¬ 65535 < f j) (hg : ∀ j, j < k → ¬ g j < 0 ∧ ¬ 65535 < g j) : EqC V V' ↔ SameT n f k g := by
  have yvv : ∀ {W : Cell} {i : Nat} {x : Int32}, W.slots[i]? = some (.int x) → yv W i = x := fun q => by unfold yv; rw [q]
  rcases h with ⟨rfl, k1, k2⟩ | ⟨rfl, k1, k2, -⟩
  · rcases h' with ⟨-, m1, m2⟩ | ⟨e, -⟩
    · constructor
      · rintro ⟨e1, e2⟩
        refine ⟨by omega, fun j hj => ?_⟩
        have q := e2 j (by omega)
        rw [yvv (k2 j hj).1, yvv (m2 j (by omega)).1] at q
        exact lo8_inj (hf j hj).1 (k2 j hj).2 (hg j (by omega)).1 (m2 j (by omega)).2 q
      · rintro ⟨rfl, e2⟩
        refine ⟨by omega, fun j hj => ?_⟩
        rw [yvv (k2 j (by omega)).1, yvv (m2 j (by omega)).1, e2 j (by omega)]
    · exact absurd e (by decide)
  · rcases h' with ⟨e, -⟩ | ⟨-, m1, m2, -⟩
    · exact absurd e (by decide)
    · constructor
      · rintro ⟨e1, e2⟩
        refine ⟨by omega, fun j hj => ?_⟩
        have q1 := e2 (2 * j) (by omega)
        have q2 := e2 (2 * j + 1) (by omega)
        rw [yvv (k2 j hj).1, yvv (m2 j (by omega)).1] at q1
        rw [yvv (k2 j hj).2, yvv (m2 j (by omega)).2] at q2
        rw [← pair_says (hf j hj).1 (hf j hj).2, ← pair_says (hg j (by omega)).1 (hg j (by omega)).2, q1, q2]
      · rintro ⟨rfl, e2⟩
        refine ⟨by omega, fun i hi => ?_⟩
        rcases Nat.mod_two_eq_zero_or_one i with e | e
        · obtain ⟨j, rfl⟩ : ∃ j, i = 2 * j := ⟨i / 2, by omega⟩
          rw [yvv (k2 j (by omega)).1, yvv (m2 j (by omega)).1, e2 j (by omega)]
        · obtain ⟨j, rfl⟩ : ∃ j, i = 2 * j + 1 := ⟨i / 2, by omega⟩
          rw [yvv (k2 j (by omega)).2, yvv (m2 j (by omega)).2, e2 j (by omega)]
/-- two codings differ: so do the texts -/
theorem Cod.dif {cd cd' : Int32} {n k : Nat} {f g : Nat → Int32} {V V' : Cell} (h : Cod cd n f V) (h' : Cod cd' k g V') (hne : ¬ cd = cd') : ¬ SameT n f k g := by
  rintro ⟨rfl, e⟩
  rcases h with ⟨rfl, -, k2⟩ | ⟨rfl, -, -, j, hj, hw⟩
  · rcases h' with ⟨rfl, -⟩ | ⟨-, -, -, j, hj, hw⟩
    · exact hne rfl
    · exact (k2 j hj).2 (by rw [e j hj]; exact hw)
  · rcases h' with ⟨-, -, m2⟩ | ⟨rfl, -⟩
    · exact (m2 j hj).2 (by rw [← e j hj]; exact hw)
    · exact hne rfl
/-- an object of exactly C is an instance of C -/
theorem cinst {p : Program} {l : Launch} {e : Env} {R : Room} {s : State} {m : MethodId} {args : Array Value} {below : List Frame} {meth : Method} {c : Code} {T : State} {locs : List Loc} {cells slots : Nat} (X : Stand p l e R s m args below meth c T locs cells slots) (hexec : p.tables.exec = Jvm.exec) {own C : String} {index : Nat} (hown : s.vm.findClass own = some m.cls) (hlink : (Cond.classLink own index C).before args s = true) {a : Addr} (hE : Exact C a T)
    {g : JFrame} (hg : g.method = m) {rest : List Value} (hstack : g.stack = .ref a :: rest) (hdg : decode c.code g.pc = .ok (.instanceof index, 3)) :
    ∃ T', Stand p l e R s m args below meth c T' locs cells slots ∧ T'.heap = T.heap ∧ ∀ target, Steps p.tables e below (T'.setTop { g with pc := g.pc + 3, stack := .int 1 :: rest }) target → Steps p.tables e below (T.setTop g) target := by
  obtain ⟨cB, h1, D, h2, h3, h4⟩ := hE
  have h1' : s.vm.findClass C = some cB := by rw [← X.warmed.alike.findClass]; exact h1
  obtain ⟨vm', X', st⟩ := X.instanceofYes hexec hown hlink h2 h4 h1' (by rw [h3]; exact Jvm.Free.SB.assignable_self _ _) hg hstack hdg
  exact ⟨_, X', rfl, st⟩
theorem cself {p : Program} {l : Launch} {e : Env} {R : Room} {s : State} {m : MethodId} {args : Array Value} {below : List Frame} {meth : Method} {c : Code} {T : State} {locs : List Loc} {cells slots : Nat} (X : Stand p l e R s m args below meth c T locs cells slots) (hexec : p.tables.exec = Jvm.exec) {own C : String} {index : Nat} (hown : s.vm.findClass own = some m.cls) (hlink : (Cond.classLink own index C).before args s = true) {a : Addr} (hE : Exact C a T)
    {g : JFrame} (hg : g.method = m) {rest : List Value} (hstack : g.stack = .ref a :: rest) (hdg : decode c.code g.pc = .ok (.checkcast index, 3)) :
    ∃ T', Stand p l e R s m args below meth c T' locs cells slots ∧ T'.heap = T.heap ∧ ∀ target, Steps p.tables e below (T'.setTop { g with pc := g.pc + 3, stack := .ref a :: rest }) target → Steps p.tables e below (T.setTop g) target := by
  obtain ⟨cB, h1, D, h2, h3, h4⟩ := hE
  have h1' : s.vm.findClass C = some cB := by rw [← X.warmed.alike.findClass]; exact h1
  obtain ⟨vm', X', st⟩ := X.checkcastYes hexec hown hlink h2 h4 h1' (by rw [h3]; exact Jvm.Free.SB.assignable_self _ _) hg hstack hdg
  exact ⟨_, X', rfl, fun t h => st t (by rw [← hstack] at h; exact h)⟩
namespace SEq
def yN : MethodName := ⟨"java/lang/String", "equals", "(Ljava/lang/Object;)Z"⟩
abbrev yB : ByteArray := jdk_42_method_66_code
theorem d0 : decode yB 0 = .ok (.aload_n 0, 1) := by decide +kernel
theorem d1 : decode yB 1 = .ok (.aload_n 1, 1) := by decide +kernel
theorem d2 : decode yB 2 = .ok (.if_acmp (.ne) 5, 3) := by decide +kernel
theorem d5 : decode yB 5 = .ok (.iconst 1, 1) := by decide +kernel
theorem d6 : decode yB 6 = .ok (.ireturn, 1) := by decide +kernel
theorem d7 : decode yB 7 = .ok (.aload_n 1, 1) := by decide +kernel
theorem d8 : decode yB 8 = .ok (.instanceof 10, 3) := by decide +kernel
theorem d11 : decode yB 11 = .ok (.ifCond (.eq) 43, 3) := by decide +kernel
theorem d14 : decode yB 14 = .ok (.aload_n 1, 1) := by decide +kernel
theorem d15 : decode yB 15 = .ok (.checkcast 10, 3) := by decide +kernel
theorem d18 : decode yB 18 = .ok (.astore_n 2, 1) := by decide +kernel
theorem d19 : decode yB 19 = .ok (.getstatic 38, 3) := by decide +kernel
theorem d22 : decode yB 22 = .ok (.ifCond (.eq) 14, 3) := by decide +kernel
theorem d25 : decode yB 25 = .ok (.aload_n 0, 1) := by decide +kernel
theorem d26 : decode yB 26 = .ok (.getfield 15, 3) := by decide +kernel
theorem d29 : decode yB 29 = .ok (.aload_n 2, 1) := by decide +kernel
theorem d30 : decode yB 30 = .ok (.getfield 15, 3) := by decide +kernel
theorem d33 : decode yB 33 = .ok (.if_icmp (.ne) 21, 3) := by decide +kernel
theorem d36 : decode yB 36 = .ok (.aload_n 0, 1) := by decide +kernel
theorem d37 : decode yB 37 = .ok (.getfield 9, 3) := by decide +kernel
theorem d40 : decode yB 40 = .ok (.aload_n 2, 1) := by decide +kernel
theorem d41 : decode yB 41 = .ok (.getfield 9, 3) := by decide +kernel
theorem d44 : decode yB 44 = .ok (.invokestatic 541, 3) := by decide +kernel
theorem d47 : decode yB 47 = .ok (.ifCond (.eq) 7, 3) := by decide +kernel
theorem d50 : decode yB 50 = .ok (.iconst 1, 1) := by decide +kernel
theorem d51 : decode yB 51 = .ok (.goto 4, 3) := by decide +kernel
theorem d54 : decode yB 54 = .ok (.iconst 0, 1) := by decide +kernel
theorem d55 : decode yB 55 = .ok (.ireturn, 1) := by decide +kernel
def site : List Cond := [.classLink "java/lang/String" 10 "java/lang/String", .fieldLink "java/lang/String" 38 "java/lang/String" "COMPACT_STRINGS" "Z", .fieldLink "java/lang/String" 15 "java/lang/String" "coder" "B", .fieldLink "java/lang/String" 9 "java/lang/String" "value" "[B", LEq.tab] ++ staticW "java/lang/String" 541 LEq.yN
def tab : Cond := tabOf yN yB 3 (some .boolean) site
def P (x t : Addr) (V : Cell) (cd : Int32) (n : Nat) (f : Nat → Int32) (y t' : Addr) (V' : Cell) (cd' : Int32) (k : Nat) (g : Nat → Int32) (z : Int32) (args : Array Value) (s : State) : Prop := args = #[.ref x, .ref y] ∧ Txt x t V cd n f s ∧ Txt y t' V' cd' k g s ∧ StaticIs s "java/lang/String" "COMPACT_STRINGS" "Z" (.int z) ∧ ¬ z = 0
/-- equals(Object) of two Strings: whether the texts are the same -/
theorem law (l : Launch) (x t : Addr) (V : Cell) (cd : Int32) (n : Nat) (f : Nat → Int32) (y t' : Addr) (V' : Cell) (cd' : Int32) (k : Nat) (g : Nat → Int32) (z : Int32) : Law l yN 2 1 1 14 yB 3 (some .boolean) site (P x t V cd n f y t' V' cd' k g z) (Says01 (SameT n f k g)) [] 0 0 := by
  refine Law.of_walk (plainFor_of_name (by decide +kernel)) (by decide +kernel) (by decide +kernel) (by decide) (fun _ _ h => by rw [h.1]; rfl) (fun _ U U' hal hh h => ⟨h.1, h.2.1.mv hal hh, h.2.2.1.mv hal hh, h.2.2.2.1.there hal hh, h.2.2.2.2⟩) (fun r U U' V V' h1 hal h2 h => Says01.mv r U U' V V' h1 hal h2 h) ?_
  intro p e s m args below meth c s₁ X0 hexec hbytes hml hret hlk hnm hown hh0 W hP
  obtain ⟨rfl, hx, hy, s1, hz⟩ := hP
  have c1 : Steps p.tables e below (s₁.setTop (entryFrame m #[.ref x, .ref y] 3)) (s₁.setTop (mkF m 2 #[.val (.ref x), .val (.ref y), .unset] [.ref y, .ref x])) := Steps.trans (entry rfl) (by
    show Steps p.tables e below (s₁.setTop (mkF m 0 #[.val (.ref x), .val (.ref y), .unset] [])) _
    refine XS.aloadN X0.here hexec rfl (hb hbytes d0) rfl rfl ?_
    refine XS.aloadN X0.here hexec rfl (hb hbytes d1) rfl rfl ?_
    exact Steps.refl _)
  by_cases hxy : x = y
  · have c2 : Steps p.tables e below (s₁.setTop (entryFrame m #[.ref x, .ref y] 3)) (s₁.setTop (mkF m 6 #[.val (.ref x), .val (.ref y), .unset] [.int 1])) := c1.trans (by
      refine acmpNo X0.here hexec rfl (hb hbytes d2) rfl rfl rfl (by simp [acmp, hxy]) ?_
      refine iconstV X0.here hexec rfl 1 (hb hbytes d5) (by decide) ?_
      exact Steps.refl _)
    subst hxy
    have ec : cd = cd' := by
      obtain ⟨D, fd, a1, a2, a3⟩ := hx.2.2.1
      obtain ⟨D', fd', b1, b2, b3⟩ := hy.2.2.1
      cases a1.symm.trans b1
      obtain ⟨q1, q2, q3, q4⟩ := a2.1
      obtain ⟨r1, r2, r3, r4⟩ := b2.1
      cases q4.symm.trans r4
      cases a3.symm.trans b3; rfl
    have et : t = t' := by
      obtain ⟨D, fd, a1, a2, a3⟩ := hx.2.1
      obtain ⟨D', fd', b1, b2, b3⟩ := hy.2.1
      cases a1.symm.trans b1
      obtain ⟨q1, q2, q3, q4⟩ := a2.1
      obtain ⟨r1, r2, r3, r4⟩ := b2.1
      cases q4.symm.trans r4
      cases a3.symm.trans b3; rfl
    subst ec et
    have ev : V = V' := by cases hx.2.2.2.1.1.symm.trans hy.2.2.2.1.1; rfl
    subst ev
    have hs : SameT n f k g := (Cod.eqv hx.2.2.2.2.1 hy.2.2.2.2.1 hx.2.2.2.2.2 hy.2.2.2.2.2).mp ⟨rfl, fun _ _ => rfl⟩
    exact ⟨s₁, some (.int 1), _, _, _, X0, rfl, rfl, rfl, (fun h => by cases h), ⟨1, rfl, hh0, Or.inl ⟨rfl, hs⟩⟩, fun fs hl => c2.trans (X0.ireturnOut hexec hret rfl (Or.inr (Or.inl rfl)) (hb hbytes d6) hl)⟩
  · have c2 : Steps p.tables e below (s₁.setTop (entryFrame m #[.ref x, .ref y] 3)) (s₁.setTop (mkF m 8 #[.val (.ref x), .val (.ref y), .unset] [.ref y])) := c1.trans (by
      refine acmpYes X0.here hexec rfl (pc0 := 2) rfl (hb hbytes d2) rfl rfl rfl (by simp [acmp, hxy]) (by decide) rfl ?_
      refine XS.aloadN X0.here hexec rfl (hb hbytes d7) rfl rfl ?_
      exact Steps.refl _)
    obtain ⟨T3, X3, q3, st3⟩ := cinst X0 hexec hown (wk W (.classLink "java/lang/String" 10 "java/lang/String")) (hy.mv X0.warmed.alike hh0).1 (g := (mkF m 8 #[.val (.ref x), .val (.ref y), .unset] [.ref y])) rfl (rest := []) rfl (hb hbytes d8)
    have hh3 := q3.trans hh0
    have c4 : Steps p.tables e below (s₁.setTop (entryFrame m #[.ref x, .ref y] 3)) (T3.setTop (mkF m 15 #[.val (.ref x), .val (.ref y), .unset] [.ref y])) := (c2.trans (st3 _ (Steps.refl _))).trans (by
      refine XS.ifNo X3.here hexec rfl (hb hbytes d11) rfl (i0_eq_f (by decide)) ?_
      refine XS.aloadN X3.here hexec rfl (hb hbytes d14) rfl rfl ?_
      exact Steps.refl _)
    obtain ⟨T5, X5, q5, st5⟩ := cself X3 hexec hown (wk W (.classLink "java/lang/String" 10 "java/lang/String")) (hy.mv X3.warmed.alike hh3).1 (g := (mkF m 15 #[.val (.ref x), .val (.ref y), .unset] [.ref y])) rfl (rest := []) rfl (hb hbytes d15)
    have hh5 := q5.trans hh3
    have c6 : Steps p.tables e below (s₁.setTop (entryFrame m #[.ref x, .ref y] 3)) (T5.setTop (mkF m 19 #[.val (.ref x), .val (.ref y), .val (.ref y)] [])) := (c4.trans (st5 _ (Steps.refl _))).trans (by
      refine XS.astoreN X5.here hexec rfl (hb hbytes d18) rfl rfl rfl ?_
      exact Steps.refl _)
    obtain ⟨T7, X7, q7, st7⟩ := X5.sget hexec hown (wk W (.fieldLink "java/lang/String" 38 "java/lang/String" "COMPACT_STRINGS" "Z")) s1 (fun _ _ h => by rw [hh5]; exact h) (g := (mkF m 19 #[.val (.ref x), .val (.ref y), .val (.ref y)] [])) rfl (hb hbytes d19)
    have hh7 := q7.trans hh5
    have c8 : Steps p.tables e below (s₁.setTop (entryFrame m #[.ref x, .ref y] 3)) (T7.setTop (mkF m 26 #[.val (.ref x), .val (.ref y), .val (.ref y)] [.ref x])) := (c6.trans (st7 _ (Steps.refl _))).trans (by
      refine XS.ifNo X7.here hexec rfl (hb hbytes d22) rfl (i0_eq_f hz) ?_
      refine XS.aloadN X7.here hexec rfl (hb hbytes d25) rfl rfl ?_
      exact Steps.refl _)
    obtain ⟨T9, X9, q9, st9⟩ := X7.hget hexec hown (wk W (.fieldLink "java/lang/String" 15 "java/lang/String" "coder" "B")) (hx.mv X7.warmed.alike hh7).2.2.1 (g := (mkF m 26 #[.val (.ref x), .val (.ref y), .val (.ref y)] [.ref x])) rfl (rest := []) rfl (hb hbytes d26)
    have hh9 := q9.trans hh7
    have c10 : Steps p.tables e below (s₁.setTop (entryFrame m #[.ref x, .ref y] 3)) (T9.setTop (mkF m 30 #[.val (.ref x), .val (.ref y), .val (.ref y)] [.ref y, .int cd])) := (c8.trans (st9 _ (Steps.refl _))).trans (by
      refine XS.aloadN X9.here hexec rfl (hb hbytes d29) rfl rfl ?_
      exact Steps.refl _)
    obtain ⟨T11, X11, q11, st11⟩ := X9.hget hexec hown (wk W (.fieldLink "java/lang/String" 15 "java/lang/String" "coder" "B")) (hy.mv X9.warmed.alike hh9).2.2.1 (g := (mkF m 30 #[.val (.ref x), .val (.ref y), .val (.ref y)] [.ref y, .int cd])) rfl (rest := [.int cd]) rfl (hb hbytes d30)
    have hh11 := q11.trans hh9
    have c12 : Steps p.tables e below (s₁.setTop (entryFrame m #[.ref x, .ref y] 3)) (T11.setTop (mkF m 33 #[.val (.ref x), .val (.ref y), .val (.ref y)] [.int cd', .int cd])) := c10.trans (st11 _ (Steps.refl _))
    by_cases hcd : cd = cd'
    · subst hcd
      have c13 : Steps p.tables e below (s₁.setTop (entryFrame m #[.ref x, .ref y] 3)) (T11.setTop (mkF m 37 #[.val (.ref x), .val (.ref y), .val (.ref y)] [.ref x])) := c12.trans (by
        refine XS.icmpNo X11.here hexec rfl (hb hbytes d33) rfl (ii_ne_f rfl) ?_
        refine XS.aloadN X11.here hexec rfl (hb hbytes d36) rfl rfl ?_
        exact Steps.refl _)
      obtain ⟨T14, X14, q14, st14⟩ := X11.hget hexec hown (wk W (.fieldLink "java/lang/String" 9 "java/lang/String" "value" "[B")) (hx.mv X11.warmed.alike hh11).2.1 (g := (mkF m 37 #[.val (.ref x), .val (.ref y), .val (.ref y)] [.ref x])) rfl (rest := []) rfl (hb hbytes d37)
      have hh14 := q14.trans hh11
      have c15 : Steps p.tables e below (s₁.setTop (entryFrame m #[.ref x, .ref y] 3)) (T14.setTop (mkF m 41 #[.val (.ref x), .val (.ref y), .val (.ref y)] [.ref y, .ref t])) := (c13.trans (st14 _ (Steps.refl _))).trans (by
        refine XS.aloadN X14.here hexec rfl (hb hbytes d40) rfl rfl ?_
        exact Steps.refl _)
      obtain ⟨T16, X16, q16, st16⟩ := X14.hget hexec hown (wk W (.fieldLink "java/lang/String" 9 "java/lang/String" "value" "[B")) (hy.mv X14.warmed.alike hh14).2.1 (g := (mkF m 41 #[.val (.ref x), .val (.ref y), .val (.ref y)] [.ref y, .ref t])) rfl (rest := [.ref t]) rfl (hb hbytes d41)
      have hh16 := q16.trans hh14
      have c17 : Steps p.tables e below (s₁.setTop (entryFrame m #[.ref x, .ref y] 3)) (T16.setTop (mkF m 44 #[.val (.ref x), .val (.ref y), .val (.ref y)] [.ref t', .ref t])) := c15.trans (st16 _ (Steps.refl _))
      obtain ⟨v18, T18, X18, E18, g18⟩ := X16.callS hexec (LEq.law l t V t' V') hown (wks W (staticW "java/lang/String" 541 LEq.yN)) (wk W LEq.tab) (W := 0) (Nat.le_of_ble_eq_true rfl) (Nat.le_of_ble_eq_true rfl) (Nat.le_refl _) (Nat.le_refl _) (g := (mkF m 44 #[.val (.ref x), .val (.ref y), .val (.ref y)] [.ref t', .ref t])) rfl (by rw [hml]; rfl) c17 (argsL := [.ref t, .ref t']) (rest := []) rfl rfl (by show 2 * 0 + 0 ≤ _; decide) (hb hbytes d44) (⟨rfl, hx.2.2.2.1.mv X16.warmed.alike hh16, hx.2.2.2.2.1.ty, hy.2.2.2.1.mv X16.warmed.alike hh16, hy.2.2.2.2.1.ty⟩)
      obtain ⟨v, rfl, q18, hv⟩ := E18
      have iff := Cod.eqv hx.2.2.2.2.1 hy.2.2.2.2.1 hx.2.2.2.2.2 hy.2.2.2.2.2
      rcases hv with ⟨rfl, he⟩ | ⟨rfl, he⟩
      · have c19 : Steps p.tables e below (s₁.setTop (entryFrame m #[.ref x, .ref y] 3)) (T18.setTop (mkF m 55 #[.val (.ref x), .val (.ref y), .val (.ref y)] [.int 1])) := Steps.trans g18 (by
          refine XS.ifNo X18.here hexec rfl (hb hbytes d47) rfl (i0_eq_f (by decide)) ?_
          refine iconstV X18.here hexec rfl 1 (hb hbytes d50) (by decide) ?_
          refine XS.goto X18.here hexec rfl (pc0 := 51) rfl (hb hbytes d51) (by decide) rfl ?_
          exact Steps.refl _)
        exact ⟨T18, some (.int 1), _, _, _, X18, rfl, rfl, rfl, (fun h => by cases h), ⟨1, rfl, q18.trans hh16, Or.inl ⟨rfl, iff.mp he⟩⟩, fun fs hl => c19.trans (X18.ireturnOut hexec hret rfl (Or.inr (Or.inl rfl)) (hb hbytes d55) hl)⟩
      · have c19 : Steps p.tables e below (s₁.setTop (entryFrame m #[.ref x, .ref y] 3)) (T18.setTop (mkF m 55 #[.val (.ref x), .val (.ref y), .val (.ref y)] [.int 0])) := Steps.trans g18 (by
          refine XS.ifYes X18.here hexec rfl (pc0 := 47) rfl (hb hbytes d47) rfl (i0_eq_t rfl) (by decide) rfl ?_
          refine iconstV X18.here hexec rfl 0 (hb hbytes d54) (by decide) ?_
          exact Steps.refl _)
        exact ⟨T18, some (.int 0), _, _, _, X18, rfl, rfl, rfl, (fun h => by cases h), ⟨0, rfl, q18.trans hh16, Or.inr ⟨rfl, fun q => he (iff.mpr q)⟩⟩, fun fs hl => c19.trans (X18.ireturnOut hexec hret rfl (Or.inr (Or.inl rfl)) (hb hbytes d55) hl)⟩
    · have c13 : Steps p.tables e below (s₁.setTop (entryFrame m #[.ref x, .ref y] 3)) (T11.setTop (mkF m 55 #[.val (.ref x), .val (.ref y), .val (.ref y)] [.int 0])) := c12.trans (by
        refine XS.icmpYes X11.here hexec rfl (pc0 := 33) rfl (hb hbytes d33) rfl (ii_ne_t hcd) (by decide) rfl ?_
        refine iconstV X11.here hexec rfl 0 (hb hbytes d54) (by decide) ?_
        exact Steps.refl _)
      exact ⟨T11, some (.int 0), _, _, _, X11, rfl, rfl, rfl, (fun h => by cases h), ⟨0, rfl, hh11, Or.inr ⟨rfl, Cod.dif hx.2.2.2.2.1 hy.2.2.2.2.1 hcd⟩⟩, fun fs hl => c13.trans (X11.ireturnOut hexec hret rfl (Or.inr (Or.inl rfl)) (hb hbytes d55) hl)⟩
theorem pays {l : Launch} {R : Room} {p : Program} {e : Env} {below : List Frame} {s : State} {sargs : Array Value} {len W : Nat} (x t : Addr) (V : Cell) (cd : Int32) (n : Nat) (f : Nat → Int32) (y t' : Addr) (V' : Cell) (cd' : Int32) (k : Nat) (g : Nat → Int32) (z : Int32) (htab : tab.before sargs s = true) (hfr : 2 ≤ R.frames) (hlo : W + 28 ≤ R.locals) :
    Back l R p e below s sargs yN len W (fun A₁ a₁ => A₁.cells + 0 ≤ R.cells ∧ A₁.slots + 0 ≤ R.slots ∧ P x t V cd n f y t' V' cd' k g z a₁ A₁.U) (fun A₁ _ v₁ B₁ => Says01 (SameT n f k g) v₁ A₁.U B₁.U ∧ B₁.locs = A₁.locs ++ [] ∧ B₁.cells = A₁.cells + 0 ∧ B₁.slots = A₁.slots + 0) :=
  (law l x t V cd n f y t' V' cd' k g z).pays htab hfr (by omega)
end SEq
end StrChars
namespace StrChars.Road
open Jvm Sem ClassFile Op Lib Jvm.Stand Jvm.Free Jvm.Free.XT
open Jvm.Lib.Cold (StaticIs)
/-- the words of String.equals(Object) -/
abbrev wordsEq : List Jvm.Cond := [.code SEq.yN SEq.yB 3 (some .boolean), .initialized ST, .classLink ST 10 ST, .fieldLink ST 38 ST "COMPACT_STRINGS" "Z", .fieldLink ST 15 ST "coder" "B", .fieldLink ST 9 ST "value" "[B", .methodLink ST 541 LEq.yN, .static LEq.yN, .code LEq.yN LEq.yB 3 (some .boolean), .initialized "java/lang/StringLatin1"]
theorem tabEq_of {a : Array Value} {s : State} (h : ∀ w ∈ wordsEq, w.before a s = true) : SEq.tab.before a s = true := by
  have hl : LEq.tab.before a s = true := unparts (wk h (.code LEq.yN LEq.yB 3 (some .boolean))) (wks h (.initialized LEq.yN.cls :: LEq.site))
  have q := consq hl h
  exact unparts (wk q (.code SEq.yN SEq.yB 3 (some .boolean))) (wks q (.initialized SEq.yN.cls :: SEq.site))
theorem movedEq {Z s : State} {a0 args : Array Value} (hZ : Z.Warmed39 s.vm) (hw : ∀ d ∈ wordsEq, d.before a0 Z = true) : ∀ d ∈ wordsEq, d.before args s = true := fun d hd => by
  have t : ∀ d ∈ wordsEq, (d.onTables && d.keepsFace) = true := by decide +kernel
  exact RoadKit.mv hZ (hw d hd) (t d hd)
/-- the road's facts of a String, as the laws ask it -/
theorem txt_of {Z U : State} {a0 : Array Value} {kI : Nat} (wi : (Jvm.Cond.instantiable ST kI).before a0 Z = true) (al : Z.vm.Alike U.vm) {x t : Addr} {kb : ClassId} {cs : List Int32} {cd N2 : Int32} {vs : List Value} (E : RoadKit.Exa Z U.heap x ST) (V : RoadKit.Fld Z U.heap x ST "value" "[B" (.ref t)) (C : RoadKit.Fld Z U.heap x ST "coder" "B" (.int cd)) (K : RoadKit.Arv Z U.heap t kb .byte N2 vs (.int 0)) (hc : CodA cs cd N2 vs) (hb : ∀ c ∈ cs, ¬ c < 0 ∧ ¬ (65535 : Int32) < c) (l2 : cs.length ≤ 4000) :
    ∃ A, Txt x t A cd cs.length (fun j => cs.getD j 0) U := by
  obtain ⟨A, K1, K2, K3, K4, K5, K6⟩ := K
  have hcod := hc.cod (by omega) K3 K5
  obtain ⟨D, fV, fC, hB, F1, F2, g1, g2, -, -⟩ := strObj wi al E V C
  exact ⟨A, ⟨_, hB.2.2.1, D, hB.1, rfl, by cases q : D.vm <;> first | rfl | exact absurd q (hB.2.1.2 _)⟩, Has.of hB F1 g1, Has.of hB F2 g2, ⟨K1.1, State.isArrayOf_alike al K1.2.1, K1.2.2, by rcases hcod with ⟨-, q, -⟩ | ⟨-, q, -⟩ <;> omega⟩, hcod, fun j hj => by
    have e : cs.getD j 0 = cs[j] := by simp [List.getD_eq_getElem?_getD, hj]
    show ¬ cs.getD j 0 < 0 ∧ ¬ 65535 < cs.getD j 0
    rw [e]; exact hb _ (List.getElem_mem _)⟩
theorem same_list (cs ds : List Int32) : SameT cs.length (fun j => cs.getD j 0) ds.length (fun j => ds.getD j 0) ↔ cs = ds := by
  constructor
  · rintro ⟨e, q⟩
    refine List.ext_getElem e fun j h1 h2 => ?_
    have := q j h1
    simpa [List.getD_eq_getElem?_getD, h1, h2] using this
  · rintro rfl
    exact ⟨rfl, fun _ _ => rfl⟩
/-- **equals(Object) OF TWO SUCH STRINGS**: 1 just where the chars are the same -/
theorem eqW {p : Program} {l : Launch} {e : Env} {R : Room} {s : State} {args : Array Value} {below : List Frame} {len W : Nat} {Z : State} {a0 : Array Value} {h : Heap} (hZ : Z.Warmed39 s.vm) (hw : ∀ d ∈ wordsEq, d.before a0 Z = true) {kI : Nat} (wi : (Jvm.Cond.instantiable ST kI).before a0 Z = true)
    {x t : Addr} {kb : ClassId} {cs : List Int32} {cd N2 : Int32} {vs : List Value} (E : RoadKit.Exa Z h x ST) (V : RoadKit.Fld Z h x ST "value" "[B" (.ref t)) (C : RoadKit.Fld Z h x ST "coder" "B" (.int cd)) (K : RoadKit.Arv Z h t kb .byte N2 vs (.int 0)) (hc : CodA cs cd N2 vs) (hb : ∀ c ∈ cs, ¬ c < 0 ∧ ¬ (65535 : Int32) < c) (l2 : cs.length ≤ 4000)
    {y t' : Addr} {kb' : ClassId} {ds : List Int32} {cd' N2' : Int32} {vs' : List Value} (E' : RoadKit.Exa Z h y ST) (V' : RoadKit.Fld Z h y ST "value" "[B" (.ref t')) (C' : RoadKit.Fld Z h y ST "coder" "B" (.int cd')) (K' : RoadKit.Arv Z h t' kb' .byte N2' vs' (.int 0)) (hc' : CodA ds cd' N2' vs') (hb' : ∀ c ∈ ds, ¬ c < 0 ∧ ¬ (65535 : Int32) < c) (l2' : ds.length ≤ 4000)
    {z : Int32} (S : RoadKit.Sta Z h ST "COMPACT_STRINGS" "Z" (.int z)) (hz : ¬ z = 0) (hfr : 2 ≤ R.frames) (hlo : W + 28 ≤ R.locals) :
    Back l R p e below s args (⟨"java/lang/String", "equals", "(Ljava/lang/Object;)Z"⟩ : MethodName) len W (fun P a => a = #[.ref x, .ref y] ∧ P.U.heap = h ∧ P.cells + 0 ≤ R.cells ∧ P.slots + 0 ≤ R.slots)
      (fun P _ v B => ∃ L, (((v = some (.int 1) ∧ cs = ds) ∨ (v = some (.int 0) ∧ ¬ cs = ds)) ∧ L = [] ∧ B.U.heap = h) ∧ B.locs = P.locs ++ L ∧ B.cells = P.cells + 0 ∧ B.slots = P.slots + 0) := by
  intro m meth c P g ig mk a X hg hsize hdg hW hn hp'
  obtain ⟨rfl, rfl, r1, r2⟩ := hp'
  have al : Z.vm.Alike P.U.vm := hZ.alike.trans X.warmed.alike
  obtain ⟨A, hx⟩ := txt_of wi al E V C K hc hb l2
  obtain ⟨A', hy⟩ := txt_of wi al E' V' C' K' hc' hb' l2'
  obtain ⟨v, B, X', ⟨⟨w, hv, hh, hq⟩, hl, hk, hs⟩, st⟩ := SEq.pays x t A cd cs.length (fun j => cs.getD j 0) y t' A' cd' ds.length (fun j => ds.getD j 0) z (tabEq_of (movedEq hZ hw)) hfr hlo m meth c P g ig mk _ X hg hsize hdg hW hn ⟨r1, r2, rfl, hx, hy, sta_is al S, hz⟩
  refine ⟨v, B, X', ⟨[], ⟨?_, rfl, hh⟩, hl, hk, hs⟩, st⟩
  rcases hq with ⟨rfl, q⟩ | ⟨rfl, q⟩
  · exact Or.inl ⟨hv, (same_list cs ds).mp q⟩
  · exact Or.inr ⟨hv, fun e => q ((same_list cs ds).mpr e)⟩
end StrChars.Road
namespace StrChars.Road
open Jvm Sem ClassFile Op Lib Jvm.Stand Jvm.Free Jvm.Free.XT
open Jvm.Lib.Cold (StaticIs)
/-- what backV says of its String, as the contracts of this text ask it: cs's low bytes, coder 0 -/
theorem codOf {cs : List Int32} {n : Nat} (hn : cs.length = n) (hb : ∀ c ∈ cs, ¬ 255 < c) : CodA cs 0 (Int32.ofNat n) ((cs.map lo8).map Value.int) := Or.inl ⟨rfl, by rw [hn], by simp [List.map_map, Function.comp_def], hb⟩
end StrChars.Road
end Jvm.Pilot.@@N@@

namespace Jvm.Pilot.@@N@@
open Jvm Jvm.ClassFile Sem Op Lib Jvm.Free Jvm.Stand Jvm.LawKit Jvm.RoadKit Bundle Jvm.Pilot.@@N@@.Jvm.D
abbrev oI (x : Int32) : Slot := .val (.int x)
abbrev oJ (x : Int64) : Slot := .val (.long x)
abbrev oR (a : Addr) : Slot := .val (.ref a)
abbrev oN : Slot := .val .null
abbrev oV (v : Value) : Slot := .val v
abbrev oU : Slot := .unset
abbrev oS : Slot := .second
abbrev oP (p : Program) (e : Env) (below : List Frame) (T : State) (g : JFrame) (t : State) : Prop := Steps p.tables e below (T.setTop g) t
def own_svW (Z : State) (C n d : String) (k : Nat) : Addr :=
  match k with
  | 0 => match (Term.static C n d).eval #[] Z none [] Z with | some (.ref a) => a | _ => 0
  | j + 1 => own_svW Z C n d j
termination_by k
def own_sv (Z : State) (C n d : String) : Addr := own_svW Z C n d 0
theorem own_sv_eq (Z : State) (C n d : String) : own_sv Z C n d = match (Term.static C n d).eval #[] Z none [] Z with | some (.ref a) => a | _ => 0 := by
  unfold own_sv own_svW
  rfl
theorem own_sv_of {Z : State} {args : Array Value} {C n d : String} {a : Addr} (h : (Term.static C n d).eval args Z none [] Z = some (.ref a)) : (Term.static C n d).eval args Z none [] Z = some (.ref (own_sv Z C n d)) := by
  have h' : (Term.static C n d).eval #[] Z none [] Z = some (.ref a) := h
  rw [h, own_sv_eq, h']
theorem own_at {Z : State} {args : Array Value} {C n d K : String} (h : (Cond.exactly (Term.static C n d) K).value args Z none Z [] = some true) : (Term.static C n d).eval args Z none [] Z = some (.ref (own_sv Z C n d)) := by
  obtain ⟨a, ha⟩ := exa_v h
  exact own_sv_of ha
theorem own_sta {Z : State} {args : Array Value} {C n d K : String} (h : (Cond.exactly (Term.static C n d) K).value args Z none Z [] = some true) (hi : (Cond.initializedFor C n d).before args Z = true ∨ ((Cond.initialized C).before args Z = true ∧ (Cond.laysStatic C n d).before args Z = true)) : Sta Z Z.heap C n d (.ref (own_sv Z C n d)) := Sta.start (own_at h) hi
theorem own_exa {Z : State} {args : Array Value} {C n d K : String} (h : (Cond.exactly (Term.static C n d) K).value args Z none Z [] = some true) : Exa Z Z.heap (own_sv Z C n d) K := Exa.start (own_at h) h
theorem own_fldV {Z : State} {args : Array Value} {C n d O f fd : String} {v : Value} (h : (Term.field (Term.static C n d) O f fd).eval args Z none [] Z = some v) : Fld Z Z.heap (own_sv Z C n d) O f fd v := by
  obtain ⟨a, ha⟩ := fld_v h
  rw [fld_at (own_sv_of ha)] at h
  exact Fld.start h
theorem own_fldI {Z : State} {args : Array Value} {C n d O f fd : String} {k : Int32} (h : (Cond.eq (Term.field (Term.static C n d) O f fd) (Term.int k)).value args Z none Z [] = some true) : Fld Z Z.heap (own_sv Z C n d) O f fd (.int k) := by
  refine own_fldV (args := args) ?_
  cases hv : (Term.field (Term.static C n d) O f fd).eval args Z none [] Z with
  | none => simp [Cond.value, hv] at h
  | some v => cases v <;> simp_all [Cond.value, Term.eval]
abbrev own_Q (Q : Option Value → Heap → List Loc → Prop) (v : Option Value) (h : Heap) (L : List Loc) : Prop := Q v h L
theorem own_ite {P : Addr → Prop} {c : Prop} [Decidable c] {a b : Addr} (ha : P a) (hb : P b) : P (if c then a else b) := by split <;> assumption
theorem own_clamp (x : Int32) : x.toNatClampNeg = x.toInt.toNat := rfl
theorem own_and_le (x c : Int32) (hc : 0 ≤ c.toInt) : 0 ≤ (x &&& c).toInt ∧ (x &&& c).toInt ≤ c.toInt := by
  have hm : c.toBitVec.msb = false := by
    cases h : c.toBitVec.msb with
    | false => rfl
    | true =>
      have := BitVec.toInt_neg_of_msb_true h
      rw [Int32.toInt_toBitVec] at this
      omega
  have h : (x &&& c).toBitVec.msb = false := by
    rw [Int32.toBitVec_and, BitVec.msb_and, hm]; simp
  have e1 : (x &&& c).toInt = ((x &&& c).toBitVec.toNat : Int) := by
    rw [← Int32.toInt_toBitVec, BitVec.toInt_eq_toNat_of_msb h]
  have e2 : c.toInt = (c.toBitVec.toNat : Int) := by
    rw [← Int32.toInt_toBitVec, BitVec.toInt_eq_toNat_of_msb hm]
  have h3 : (x &&& c).toBitVec.toNat ≤ c.toBitVec.toNat := by
    rw [Int32.toBitVec_and, BitVec.toNat_and]; exact Nat.and_le_right
  omega
theorem own_rem {x y : Int32} (hx : 0 ≤ x.toInt) (hy : 0 < y.toInt) : (x - (x / y) * y).toInt = x.toInt % y.toInt := by
  have h1 : (x / y).toInt = x.toInt / y.toInt := by
    rw [Int32.toInt_div]
    rw [Int.tdiv_eq_ediv_of_nonneg hx]
    have := Int32.toInt_lt x
    have h2 : 0 ≤ x.toInt / y.toInt := Int.ediv_nonneg hx (by omega)
    have h3 : x.toInt / y.toInt ≤ x.toInt := Int.ediv_le_self _ hx
    apply Int.bmod_eq_of_le <;> omega
  rw [Int32.toInt_sub, Int32.toInt_mul, h1]
  have h2 : 0 ≤ x.toInt / y.toInt * y.toInt := Int.mul_nonneg (Int.ediv_nonneg hx (by omega)) (by omega)
  have h3 : x.toInt / y.toInt * y.toInt ≤ x.toInt := Int.ediv_mul_le _ (by omega)
  have h4 := Int32.toInt_lt x
  rw [Int.bmod_eq_of_le (n := x.toInt / y.toInt * y.toInt) (by omega) (by omega)]
  have h5 : x.toInt - x.toInt / y.toInt * y.toInt = x.toInt % y.toInt := by
    have := Int.emod_add_mul_ediv x.toInt y.toInt
    have h6 : x.toInt / y.toInt * y.toInt = y.toInt * (x.toInt / y.toInt) := Int.mul_comm _ _
    omega
  rw [h5]
  have h6 := Int.emod_nonneg x.toInt (b := y.toInt) (by omega)
  have h7 := Int.emod_lt_of_pos x.toInt hy
  have h8 := Int32.toInt_lt y
  apply Int.bmod_eq_of_le <;> omega
theorem own_mem {i : Int32} {n : Nat} (h0 : 0 ≤ i.toInt) (h1 : i.toInt < n) : ∃ k, k < n ∧ i = Int32.ofNat k := by
  refine ⟨i.toInt.toNat, by omega, ?_⟩
  apply Int32.toInt_inj.mp
  have := Int32.toInt_lt i
  rw [Int32.toInt_ofNat_of_lt (by omega)]
  omega
theorem own_old_le {Z : State} {n0 : Nat} {h : Heap} (O : Old Z n0 h) : n0 ≤ h.size := O.1 ▸ O.2.1
def own_Vals (Z : State) (a : Addr) (ty : FieldType) (z : Int32) (vs : List Value) (dv : Value) : Prop := ∃ cl : Cell, Arr Z Z.heap a cl ty ∧ FitC Z cl ∧ cl.slots.size = z.toNatClampNeg ∧ Has cl vs dv ∧ ∀ i, i < cl.slots.size → fits ty (vs.getD i dv) = true
theorem own_clone {Z : State} {h : Heap} {b : Addr} {cl : Cell} {ty : FieldType} {z : Int32} {vs : List Value} {dv : Value} (A : Arr Z h b (cloneOf cl) ty) (S : cl.slots.size = z.toNatClampNeg) (hz : ¬ z < 0) (H : Has cl vs dv) (G : ∀ i, i < cl.slots.size → fits ty (vs.getD i dv) = true) : Arv Z h b cl.cls ty z vs dv := ⟨_, A, rfl, S, hz, H, G⟩
theorem own_elem {Z : State} {args : Array Value} {C n d C2 n2 d2 : String} {i : Int32} {cl : Cell} {ty : FieldType} {j : Nat} (h : (Cond.eq (Term.elem (Term.static C n d) (Term.int i)) (Term.static C2 n2 d2)).value args Z none Z [] = some true) (ht : (Term.static C2 n2 d2).eval args Z none [] Z = some (.ref (own_sv Z C2 n2 d2))) (A : Arr Z Z.heap (own_sv Z C n d) cl ty) (hj : i.toNatClampNeg = j) : cl.slots[j]? = some (.ref (own_sv Z C2 n2 d2)) := by
  subst hj
  have hi : (Term.int i).eval args Z none [] Z = some (.int i) := Term.int_eval i
  cases hv : (Term.elem (Term.static C n d) (Term.int i)).eval args Z none [] Z with
  | none => simp [Cond.value, hv] at h
  | some w =>
    obtain ⟨⟨x, hx⟩, -⟩ := elem_v hv
    have h2 := (elem_in hv (own_sv_of hx) hi A.1).2
    rw [h2]
    cases w <;> simp_all [Cond.value]
theorem own_getD {P : Value → Prop} {dv : Value} (hd : P dv) : ∀ (vs : List Value) (h : ∀ v ∈ vs, P v) (i : Nat), P (vs.getD i dv)
  | [], _, _ => by simpa using hd
  | v :: vs, h, 0 => h v (List.mem_cons_self ..)
  | v :: vs, h, i + 1 => own_getD hd vs (fun w hw => h w (List.mem_cons_of_mem _ hw)) i
theorem own_vals {Z : State} {args : Array Value} {C n d C2 : String} {k : Int32} {vs : List Value} (hf : Fit Z) (h1 : (Cond.arrayOf (Term.static C n d) (.object C2)).value args Z none Z [] = some true) (h2 : (Cond.eq (Term.length (Term.static C n d)) (Term.int k)).value args Z none Z [] = some true) (hl : k.toNatClampNeg = vs.length) (hk : ¬ k < 0)
    (h3 : ∀ cl, Arr Z Z.heap (own_sv Z C n d) cl (.object C2) → HasL cl 0 vs) (h4 : ∀ v ∈ vs, fits (.object C2) v = true) : own_Vals Z (own_sv Z C n d) (.object C2) k vs .null := by
  obtain ⟨x, hx⟩ := arr_v h1
  have ev := own_sv_of hx
  obtain ⟨cl, A⟩ := Arr.start ev h1
  have hs : cl.slots.size = k.toNatClampNeg := by
    cases hv : (Term.length (Term.static C n d)).eval args Z none [] Z with
    | none => simp [Cond.value, hv] at h2
    | some w =>
      obtain ⟨a, cell, e1, e2, e3⟩ := Term.length_spec hv
      cases ev.symm.trans e1
      have e4 := A.fin (Vm.Alike.refl _)
      cases e4.symm.trans e2
      have hlt : cl.slots.size < 2 ^ 31 := SBG.length_lt ev e4 hv
      subst e3
      have e5 : cl.slots.size.toInt32 = k := by
        have hi : (Term.int k).eval args Z none [] Z = some (.int k) := Term.int_eval k
        simpa [Cond.value, hv, hi] using h2
      rw [← e5]
      have e6 := len_toInt hlt
      simp only [own_clamp]
      omega
  have H := h3 cl A
  refine ⟨cl, A, FitC.start hf A, hs, fun i hi => ?_, fun i _ => own_getD (P := fun v => fits (.object C2) v = true) rfl vs h4 i⟩
  have := HasL.at (dv := .null) vs 0 H i (by omega)
  simpa using this
theorem own_fldN {Z : State} {args : Array Value} {C n d O f fd : String} (h : (Cond.eq (Term.field (Term.static C n d) O f fd) Term.null).value args Z none Z [] = some true) : Fld Z Z.heap (own_sv Z C n d) O f fd .null := own_fldV (args := args) (null_v h)
theorem own_fldS {Z : State} {args : Array Value} {C n d O f fd C2 n2 d2 K2 : String} (h : (Cond.eq (Term.field (Term.static C n d) O f fd) (Term.static C2 n2 d2)).value args Z none Z [] = some true) (h2 : (Cond.exactly (Term.static C2 n2 d2) K2).value args Z none Z [] = some true) : Fld Z Z.heap (own_sv Z C n d) O f fd (.ref (own_sv Z C2 n2 d2)) := by
  refine own_fldV (args := args) ?_
  have e2 := own_at h2
  cases hv : (Term.field (Term.static C n d) O f fd).eval args Z none [] Z with
  | none => simp [Cond.value, hv] at h
  | some v => cases v <;> simp_all [Cond.value]
theorem own_fldL {Z : State} {args : Array Value} {C n d O f fd : String} {k : Int64} (h : (Cond.eq (Term.field (Term.static C n d) O f fd) (Term.long k)).value args Z none Z [] = some true) : Fld Z Z.heap (own_sv Z C n d) O f fd (.long k) := by
  refine own_fldV (args := args) ?_
  cases hv : (Term.field (Term.static C n d) O f fd).eval args Z none [] Z with
  | none => simp [Cond.value, hv] at h
  | some v => cases v <;> simp_all [Cond.value, Term.eval]
theorem own_staI {Z : State} {args : Array Value} {C n d : String} {k : Int32} (h : (Cond.eq (Term.static C n d) (Term.int k)).value args Z none Z [] = some true) (hi : (Cond.initializedFor C n d).before args Z = true ∨ ((Cond.initialized C).before args Z = true ∧ (Cond.laysStatic C n d).before args Z = true)) : Sta Z Z.heap C n d (.int k) := by
  refine Sta.start (args := args) ?_ hi
  cases hv : (Term.static C n d).eval args Z none [] Z with
  | none => simp [Cond.value, hv] at h
  | some v =>
    have hk : (Term.int k).eval args Z none [] Z = some (.int k) := Term.int_eval k
    cases v <;> simp_all [Cond.value]
def own_Cache (Z : State) (a : Addr) (C : String) (n : Nat) : Prop := ∃ cl : Cell, Arr Z Z.heap a cl (.object C) ∧ cl.slots.size = n ∧ ∀ j, j < n → ∃ x, cl.slots[j]? = some (.ref x) ∧ Exa Z Z.heap x C
theorem own_nsroot {Z : State} {a0 : Array Value} {O K : String} {n : Nat} (w : (Cond.noSuperclass O).before a0 Z = true) (wk : (Cond.instantiable K n).before a0 Z = true) (hn : O ≠ K) : NS Z O K := by
  obtain ⟨c, k, h1, h2, h3, -, -⟩ := Cond.noSuperclass_spec w
  obtain ⟨t, kt, g1, -⟩ := Cond.instantiable_spec wk
  have ne := ids_ne h1 g1 hn
  refine ⟨c, t, h1, g1, fun fuel => ?_⟩
  cases fuel with
  | zero => rfl
  | succ f => simp [Vm.isSubclassAux, ne, h2, h3]
theorem own_nsno {Z : State} {a0 : Array Value} {C S K : String} {n : Nat} (w : (Cond.superclass C S).before a0 Z = true) (wk : (Cond.instantiable K n).before a0 Z = true) (m : NS Z C K) (hn : C ≠ K) : ∃ c t, Z.vm.findClass C = some c ∧ Z.vm.findClass K = some t ∧ Z.vm.assignable c t = false := by
  obtain ⟨c, t, h0, g0, n3⟩ := m
  obtain ⟨p, k, kp, h1, h2, h3, h4, h5, -, h7⟩ := Cond.superclass_spec h0 w
  obtain ⟨t', k', g1, g2, g3, g4, -⟩ := Cond.instantiable_spec wk
  cases g0.symm.trans g1
  have g5 : k'.isInterface = false := by
    cases hq : k'.isInterface with
    | false => rfl
    | true => simp [hq] at g4
  have ne := ids_ne h0 g0 hn
  refine ⟨c, t, h0, g0, ?_⟩
  show Z.vm.assignableAux (255 + 1) c t = false
  simp [Vm.assignableAux, ne, h2, g2, h5, g3, g5, Vm.isSubclass, n3]
theorem own_fitsR {v : Value} {C : String} (h : v.isRef = true) : fits (.object C) v = true := by cases v <;> simp_all [Value.isRef, fits]
def own_si (Z : State) (C n d : String) : Int32 := match (Term.static C n d).eval #[] Z none [] Z with | some (.int a) => a | _ => 0
theorem own_si_of {Z : State} {args : Array Value} {C n d : String} (h : (Cond.isInt (Term.static C n d)).value args Z none Z [] = some true) : (Term.static C n d).eval args Z none [] Z = some (.int (own_si Z C n d)) := by
  obtain ⟨x, hx⟩ := is_v h
  have h' : (Term.static C n d).eval #[] Z none [] Z = some (.int x) := hx
  rw [hx]; unfold own_si; rw [h']
theorem own_sti {Z : State} {args : Array Value} {C n d : String} (h : (Cond.isInt (Term.static C n d)).value args Z none Z [] = some true) (hi : (Cond.initializedFor C n d).before args Z = true ∨ ((Cond.initialized C).before args Z = true ∧ (Cond.laysStatic C n d).before args Z = true)) : Sta Z Z.heap C n d (.int (own_si Z C n d)) := Sta.start (own_si_of h) hi
theorem own_stn {Z : State} {args : Array Value} {C n d : String} (h : (Cond.isInt (Term.static C n d)).value args Z none Z [] = some true) (hn : (Cond.not (Cond.eq (Term.static C n d) (Term.int 0))).value args Z none Z [] = some true) : ¬ own_si Z C n d = 0 := by
  have e := own_si_of h
  have h0 : (Term.int 0).eval args Z none [] Z = some (.int 0) := Term.int_eval 0
  have q := not_v hn
  intro z
  rw [z] at e
  simp [Cond.value, e, h0] at q
theorem own_char {c x : Int32} (h : c = (x &&& (255 : Int32))) : ¬ c < 0 ∧ ¬ (255 : Int32) < c := by
  have q := own_and_le x 255 (by decide)
  rw [← h] at q
  have e : (255 : Int32).toInt = 255 := by decide
  have e0 : (0 : Int32).toInt = 0 := by decide
  rw [Int32.lt_iff_toInt_lt, Int32.lt_iff_toInt_lt, e, e0]
  omega
theorem own_narc {c : Int32} (h : ¬ c < 0 ∧ ¬ (255 : Int32) < c) : nar .char c = c := by
  rw [Int32.lt_iff_toInt_lt, Int32.lt_iff_toInt_lt] at h
  have e : (255 : Int32).toInt = 255 := by decide
  have e0 : (0 : Int32).toInt = 0 := by decide
  rw [e, e0] at h
  obtain ⟨k, hk, rfl⟩ := own_mem (i := c) (n := 256) (by omega) (by omega)
  have t : ∀ k : Fin 256, nar .char (Int32.ofNat k.val) = Int32.ofNat k.val := by decide +kernel
  exact t ⟨k, hk⟩
theorem own_hb {cs : List Int32} (h : ∀ c ∈ cs, ¬ c < 0 ∧ ¬ (255 : Int32) < c) : ∀ c ∈ cs, ¬ c < 0 ∧ ¬ (65535 : Int32) < c := fun c hc => by
  have q := h c hc
  refine ⟨q.1, fun z => q.2 ?_⟩
  rw [Int32.lt_iff_toInt_lt] at z ⊢
  have e : (255 : Int32).toInt = 255 := by decide
  have e0 : (65535 : Int32).toInt = 65535 := by decide
  omega
theorem own_eqv {v : Option Value} {cs ds : List Int32} (h : (v = some (.int 1) ∧ cs = ds) ∨ (v = some (.int 0) ∧ ¬ cs = ds)) : v = some (.int (if cs = ds then (1 : Int32) else (0 : Int32))) := by
  rcases h with ⟨h1, h2⟩ | ⟨h1, h2⟩
  · rw [if_pos h2]; exact h1
  · rw [if_neg h2]; exact h1
theorem own_since (s : State) : s.Since s.vm 0 := (State.WarmedH.refl s).since 0
theorem own_rwmono {s t : State} {o : Outcome} {L : List Loc} {k n k' n' : Nat} (h : ReturnedEndW s o t L k n) (hk : k ≤ k') (hn : n ≤ n') : ReturnedEndW s o t L k' n' := ⟨h.1, h.2.1, h.2.2.1, h.2.2.2.mono hk hn⟩
theorem own_cache {Z : State} {args : Array Value} {C n d K : String} {k : Int32} {N : Nat} {rest : Cond} (h1 : (Cond.arrayOf (Term.static C n d) (.object K)).value args Z none Z [] = some true) (h2 : (Cond.eq (Term.length (Term.static C n d)) (Term.int k)).value args Z none Z [] = some true)
    (h3 : (Cond.all (Term.static C n d) (.and (.exactly (.elem (Term.static C n d) (.index 0)) K) rest)).value args Z none Z [] = some true) (hN : k.toNatClampNeg = N) : own_Cache Z (own_sv Z C n d) K N := by
  obtain ⟨x, hx⟩ := arr_v h1
  have ev := own_sv_of hx
  obtain ⟨cl, A⟩ := Arr.start ev h1
  have e4 := A.fin (Vm.Alike.refl _)
  have hs : cl.slots.size = k.toNatClampNeg ∧ cl.slots.size < 2 ^ 31 := by
    cases hv : (Term.length (Term.static C n d)).eval args Z none [] Z with
    | none => simp [Cond.value, hv] at h2
    | some w =>
      obtain ⟨a, cell, e1, e2, e3⟩ := Term.length_spec hv
      cases ev.symm.trans e1
      cases e4.symm.trans e2
      have hlt : cl.slots.size < 2 ^ 31 := SBG.length_lt ev e4 hv
      subst e3
      have e5 : cl.slots.size.toInt32 = k := by
        have hi : (Term.int k).eval args Z none [] Z = some (.int k) := Term.int_eval k
        simpa [Cond.value, hv, hi] using h2
      rw [← e5]
      have e6 := len_toInt hlt
      refine ⟨?_, hlt⟩
      simp only [own_clamp]
      omega
  refine ⟨cl, A, hs.1.trans hN, fun j hj => ?_⟩
  have q := Cond.all_elim ev e4 h3 j (by omega)
  obtain ⟨q1, -⟩ := and_e q
  obtain ⟨y, hy⟩ := exa_v q1
  have ev' : (Term.static C n d).eval args Z none [j] Z = some (.ref (own_sv Z C n d)) := ev
  have hj' : (Term.index 0).eval args Z none [j] Z = some (.int (Int32.ofNat j)) := Term.index_eval _
  have r := (elem_in hy ev' hj' A.1).2
  have e6 : (Int32.ofNat j).toNatClampNeg = j := by
    have := len_toInt (n := j) (by omega)
    simp only [own_clamp]
    have e7 : (Int32.ofNat j).toInt = j := this
    omega
  rw [e6] at r
  exact ⟨y, r, exa_at hy q1⟩
theorem own_cacheix {p : Int32} {cl : Cell} (h1 : ¬ p < (-128 : Int32)) (h2 : ¬ (127 : Int32) < p) (S : cl.slots.size = 256) : ¬ (p + (128 : Int32) < 0 ∨ cl.slots.size ≤ (p + (128 : Int32)).toNatClampNeg) ∧ (p + (128 : Int32)).toNatClampNeg < 256 := by
  rw [Int32.lt_iff_toInt_lt] at h1 h2 ⊢
  have e1 : (-128 : Int32).toInt = -128 := by decide
  have e2 : (127 : Int32).toInt = 127 := by decide
  have e3 : (0 : Int32).toInt = 0 := by decide
  have e4 : (128 : Int32).toInt = 128 := by decide
  have e5 : (p + (128 : Int32)).toInt = p.toInt + 128 := by
    rw [Int32.toInt_add, e4]
    apply Int.bmod_eq_of_le <;> omega
  simp only [own_clamp]
  omega
theorem own_staA {Z : State} {args : Array Value} {C n d : String} {ty : FieldType} (h : (Cond.arrayOf (Term.static C n d) ty).value args Z none Z [] = some true) (hi : (Cond.initializedFor C n d).before args Z = true ∨ ((Cond.initialized C).before args Z = true ∧ (Cond.laysStatic C n d).before args Z = true)) : Sta Z Z.heap C n d (.ref (own_sv Z C n d)) := by
  obtain ⟨a, ha⟩ := arr_v h
  exact Sta.start (own_sv_of ha) hi
end Jvm.Pilot.@@N@@
namespace Jvm.Pilot.@@N@@
open Jvm Jvm.ClassFile Sem Op Lib Jvm.Free Jvm.Stand Jvm.LawKit Jvm.RoadKit Bundle Jvm.Pilot.@@N@@.Jvm.D
def a_MAIN (Z : State) : Addr := own_sv Z "com/example/meerkat/meerkat/ExpansionFile$Kind" "MAIN" "Lcom/example/meerkat/meerkat/ExpansionFile$Kind;"
def a_PATCH (Z : State) : Addr := own_sv Z "com/example/meerkat/meerkat/ExpansionFile$Kind" "PATCH" "Lcom/example/meerkat/meerkat/ExpansionFile$Kind;"
def St (Z : State) : Prop := (Sta Z Z.heap "com/example/meerkat/meerkat/ExpansionFile$Kind" "MAIN" "Lcom/example/meerkat/meerkat/ExpansionFile$Kind;" (.ref (a_MAIN Z))) ∧ (Exa Z Z.heap (a_MAIN Z) "com/example/meerkat/meerkat/ExpansionFile$Kind") ∧ (Sta Z Z.heap "com/example/meerkat/meerkat/ExpansionFile$Kind" "PATCH" "Lcom/example/meerkat/meerkat/ExpansionFile$Kind;" (.ref (a_PATCH Z))) ∧ (Exa Z Z.heap (a_PATCH Z) "com/example/meerkat/meerkat/ExpansionFile$Kind") ∧ (Fld Z Z.heap (a_MAIN Z) "java/lang/Enum" "ordinal" "I" (.int (0 : Int32))) ∧ (Fld Z Z.heap (a_PATCH Z) "java/lang/Enum" "ordinal" "I" (.int (1 : Int32))) ∧ (Sta Z Z.heap "java/lang/String" "COMPACT_STRINGS" "Z" (.int (own_si Z "java/lang/String" "COMPACT_STRINGS" "Z"))) ∧ (¬ own_si Z "java/lang/String" "COMPACT_STRINGS" "Z" = 0)
theorem s_a_MAIN {Z : State} (h : St Z) : Sta Z Z.heap "com/example/meerkat/meerkat/ExpansionFile$Kind" "MAIN" "Lcom/example/meerkat/meerkat/ExpansionFile$Kind;" (.ref (a_MAIN Z)) := h.1
theorem e_a_MAIN {Z : State} (h : St Z) : Exa Z Z.heap (a_MAIN Z) "com/example/meerkat/meerkat/ExpansionFile$Kind" := h.2.1
theorem s_a_PATCH {Z : State} (h : St Z) : Sta Z Z.heap "com/example/meerkat/meerkat/ExpansionFile$Kind" "PATCH" "Lcom/example/meerkat/meerkat/ExpansionFile$Kind;" (.ref (a_PATCH Z)) := h.2.2.1
theorem e_a_PATCH {Z : State} (h : St Z) : Exa Z Z.heap (a_PATCH Z) "com/example/meerkat/meerkat/ExpansionFile$Kind" := h.2.2.2.1
theorem f_a_MAIN_ordinal {Z : State} (h : St Z) : Fld Z Z.heap (a_MAIN Z) "java/lang/Enum" "ordinal" "I" (.int (0 : Int32)) := h.2.2.2.2.1
theorem f_a_PATCH_ordinal {Z : State} (h : St Z) : Fld Z Z.heap (a_PATCH Z) "java/lang/Enum" "ordinal" "I" (.int (1 : Int32)) := h.2.2.2.2.2.1
theorem s_compact {Z : State} (h : St Z) : Sta Z Z.heap "java/lang/String" "COMPACT_STRINGS" "Z" (.int (own_si Z "java/lang/String" "COMPACT_STRINGS" "Z")) := h.2.2.2.2.2.2.1
theorem n_compact {Z : State} (h : St Z) : ¬ own_si Z "java/lang/String" "COMPACT_STRINGS" "Z" = 0 := h.2.2.2.2.2.2.2
theorem own_ws {Z : State} {a0 : Array Value} (hw : ∀ d ∈ tables_1, d.before a0 Z = true) : ∀ d ∈ StrChars.Road.words, d.before a0 Z = true := fun d hd => hw d ((by decide +kernel : ∀ d ∈ StrChars.Road.words, d ∈ tables_1) d hd)
theorem own_wsEq {Z : State} {a0 : Array Value} (hw : ∀ d ∈ tables_1, d.before a0 Z = true) : ∀ d ∈ StrChars.Road.wordsEq, d.before a0 Z = true := fun d hd => hw d ((by decide +kernel : ∀ d ∈ StrChars.Road.wordsEq, d ∈ tables_1) d hd)
theorem own_i2c {c : Int32} (h : ¬ c < 0 ∧ ¬ (255 : Int32) < c) : c.toUInt32.toUInt16.toUInt32.toInt32 = c := own_narc h
theorem own_i8 (c : Int32) : (c.toInt8.toInt32).toInt8.toInt32 = c.toInt8.toInt32 := by simp
theorem own_wS {Z : State} {a0 : Array Value} (hw : ∀ d ∈ tables_1, d.before a0 Z = true) : ∀ a ∈ Bundle.stringAtoms, a.before a0 Z = true := by
  intro a ha
  simp only [Bundle.stringAtoms, List.mem_cons, List.not_mem_nil, or_false] at ha
  rcases ha with rfl | rfl | rfl | rfl | rfl | rfl | rfl
  · exact (hw _ (List.mem_of_getElem? (i := 18) rfl))
  · exact (hw _ (List.mem_of_getElem? (i := 19) rfl))
  · exact (hw _ (List.mem_of_getElem? (i := 20) rfl))
  · exact (hw _ (List.mem_of_getElem? (i := 21) rfl))
  · exact (hw _ (List.mem_of_getElem? (i := 22) rfl))
  · exact (hw _ (List.mem_of_getElem? (i := 23) rfl))
  · exact (hw _ (List.mem_of_getElem? (i := 24) rfl))
def own_EL : List (String × Nat) := [("com/example/meerkat/meerkat/ExpansionFileEqualsPinLaw", 49)]
theorem own_EW {Z : State} {a0 : Array Value} (hw : ∀ d ∈ tables_1, d.before a0 Z = true) : EW Z a0 own_EL := (EW.cons (hw _ (List.mem_of_getElem? (i := 17) rfl)) (by decide) EW.nil)
theorem own_cext {Z : State} {EL : List (String × Nat)} {vm vm1 : Vm} {h h' h2 : Heap} (A : CHr Z EL vm h vm1 h') (E : Ext h' h2) : CHr Z EL vm h vm1 h2 := A.trans (CHr.ext E A.1)
theorem own_ckeep {Z : State} {EL : List (String × Nat)} {vm vm1 : Vm} {h h' h2 : Heap} (A : CHr Z EL vm h vm1 h') (K : Keep h' h2 []) : CHr Z EL vm h vm1 h2 := A.trans (CHr.keep K sf0 A.1)
theorem own_cwr {Z : State} {EL : List (String × Nat)} {vm vm1 : Vm} {h h' h2 : Heap} (A : CHr Z EL vm h vm1 h') {a : Addr} {sl : Nat} {v : Value} (W : Wr h' h2 a sl v) (S : Safe Z EL vm1 h' a) : CHr Z EL vm h vm1 h2 := A.trans (CHr.wr W S A.1)
theorem own_cend {p : Program} {l : Launch} {e : Env} {R : Room} {s : State} {m : MethodId} {args : Array Value} {below : List Frame} {meth : Method} {c : Code} {T : State} {locs : List Loc} {cells slots : Nat} {vm0 : Vm} {a0 : Array Value} {Z : State} {EL : List (String × Nat)} {vm : Vm} {h h' : Heap} (X : Stand p l e R (s.setVm vm0) m args below meth c T locs cells slots) (hZ : Z.Warmed39 vm0) (w : EW Z a0 EL) (A : CHr Z EL vm h vm0 h') : CHr Z EL vm h T.vm h' := A.trans (CHv.at X hZ w A.1)
theorem own_e0 : (∀ c ∈ "".toList, c.toNat < 256) ∧ "".toList.map (fun c => Value.int (Jvm.Lit.byteI c.toNat.toUInt16)) = [] := by constructor <;> first | (simp; done) | decide | rfl
theorem d15_0 : decode jdk_43_method_3_code 0 = .ok (.iload_n 0, 1) := by decide +kernel
theorem d15_1 : decode jdk_43_method_3_code 1 = .ok (.sipush 255, 3) := by decide +kernel
theorem d15_4 : decode jdk_43_method_3_code 4 = .ok (.if_icmp .gt 7, 3) := by decide +kernel
theorem d15_11 : decode jdk_43_method_3_code 11 = .ok (.iconst 0, 1) := by decide +kernel
theorem d15_12 : decode jdk_43_method_3_code 12 = .ok (.ireturn, 1) := by decide +kernel
theorem d15_7 : decode jdk_43_method_3_code 7 = .ok (.iconst 1, 1) := by decide +kernel
theorem d15_8 : decode jdk_43_method_3_code 8 = .ok (.goto 4, 3) := by decide +kernel
def fn15 (Z : State) (p0 : Int32) : Int32 :=
  if (255 : Int32) < p0 then
    (0 : Int32)
  else
    (1 : Int32)
theorem ef_15 (m : MethodId) (x0 : Int32) : entryFrame m #[(.int x0)] 1 = mkF m 0 #[.val (.int x0)] [] := by first | (simp [entryFrame, mkF, argsToLocals, Value.category]; done) | rfl
theorem pn_0 : plainName "java/lang/StringLatin1" = true := by first | (simp [plainName, overriddenIn]; done) | decide +kernel
set_option maxRecDepth 65536 in
set_option maxHeartbeats 40000000 in
theorem rm15 (l : Launch) (Z : State) (a0 : Array Value) (hw : ∀ d ∈ tables_1, d.before a0 Z = true) (hS : St Z) (ws : List Jvm.Cond) (p0 : Int32) (h0 : Heap) (n0 : Nat) (O0 : Old Z n0 h0) :
    MetFree l (⟨"java/lang/StringLatin1", "canEncode", "(C)Z"⟩ : MethodName) (head1 (Jvm.Cond.code (⟨"java/lang/StringLatin1", "canEncode", "(C)Z"⟩ : MethodName) jdk_43_method_3_code 1 (some .boolean) :: ws) ({ frames := 0, cells := 0, slots := 0, locals := 0 } : Room)) (fun a U => a = #[(.int p0)] ∧ Z.Warmed39 U.vm ∧ U.heap = h0) (fun _ _ _ _ _ => True) (fun _ U o U' => ∃ v L, o = .returned v ∧ own_Q (fun v hE L => v = some (.int (fn15 Z p0)) ∧ Fr n0 L ∧ hE = h0) v U'.heap L ∧ FrameEnd U o U' L ({ frames := 0, cells := 0, slots := 0, locals := 0 } : Room).cells ({ frames := 0, cells := 0, slots := 0, locals := 0 } : Room).slots) := by
  refine MetFree.of_bodySF (plainFor_of_name pn_0) hisR ?_
  intro p e s m args below meth c s₁ Bd hml0 hP hK
  obtain ⟨rfl, hZ, hh⟩ := hP
  have hx := Bd.exec
  have hby := Bd.bytes
  have hml : c.maxLocals = 1 := hml0
  have hown : s.vm.findClass "java/lang/StringLatin1" = some m.cls := findClass_of_methodNamed Bd.named
  have X0 : Stand p l e ({ frames := 0, cells := 0, slots := 0, locals := 0 } : Room) s m #[(.int p0)] below meth c s₁ [] 0 0 := Stand.of_body Bd
  have e0 : s₁.heap = h0 := by rw [← hh, Bd.state]; rfl
  have N0 := Fr.nil n0
  have pre0 : ∀ t, Steps p.tables e below (s₁.setTop (mkF m 0 #[oI p0] [])) t → Steps p.tables e below (s₁.setTop (entryFrame m #[(.int p0)] 1)) t := fun t k => castTop (ef_15 m p0) k
  have pre1 : ∀ t, oP p e below s₁ (mkF m 4 #[oI p0] [(.int (255 : Int32)), (.int p0)]) t → oP p e below s₁ (entryFrame m #[(.int p0)] 1) t := fun t k => pre0 t (by
    show oP p e below s₁ (mkF m 0 #[oI p0] []) _
    refine XS.iloadN X0.here hx rfl (hb hby d15_0) rfl ?_
    show oP p e below s₁ (mkF m 1 #[oI p0] [(.int p0)]) _
    refine XS.sipush X0.here hx rfl (hb hby d15_1) ?_
    exact k)
  by_cases hc2 : (255 : Int32) < p0
  · obtain ⟨fs, hr, hrun, hended, hW, hsame⟩ := X0.leave (v := some (.int (0 : Int32))) (fun h => by rw [Bd.returns] at h; cases h)
    refine ⟨_, _, pre1 _ ?_, hrun, hended, _, _, rfl, ?_, ⟨_, rfl⟩, hW, hsame.mono (by decide) (by decide)⟩
    · show oP p e below s₁ (mkF m 4 #[oI p0] [(.int (255 : Int32)), (.int p0)]) _
      refine XS.icmpYes X0.here hx rfl (pc0 := 4) (pc' := 11) rfl (hb hby d15_4) rfl (tlt hc2).2.2.1 (by decide) (by decide) ?_
      show oP p e below s₁ (mkF m 11 #[oI p0] []) _
      refine XS.iconst X0.here hx rfl (hb hby d15_11) ?_
      show oP p e below s₁ (mkF m 12 #[oI p0] [(.int (0 : Int32))]) _
      exact retN X0 hx (t := .boolean) Bd.returns (by simp) (hb hby d15_12) hr
    · show (some (.int (0 : Int32)) : Option Value) = some (.int (fn15 Z p0)) ∧ Fr n0 _ ∧ s₁.heap = h0
      rw [e0]
      refine ⟨?_, N0, rfl⟩
      unfold fn15
      rw [if_pos hc2]
  · obtain ⟨fs, hr, hrun, hended, hW, hsame⟩ := X0.leave (v := some (.int (1 : Int32))) (fun h => by rw [Bd.returns] at h; cases h)
    refine ⟨_, _, pre1 _ ?_, hrun, hended, _, _, rfl, ?_, ⟨_, rfl⟩, hW, hsame.mono (by decide) (by decide)⟩
    · show oP p e below s₁ (mkF m 4 #[oI p0] [(.int (255 : Int32)), (.int p0)]) _
      refine XS.icmpNo X0.here hx rfl (hb hby d15_4) rfl (flt hc2).2.2.1 ?_
      show oP p e below s₁ (mkF m 7 #[oI p0] []) _
      refine XS.iconst X0.here hx rfl (hb hby d15_7) ?_
      show oP p e below s₁ (mkF m 8 #[oI p0] [(.int (1 : Int32))]) _
      refine XS.goto X0.here hx rfl (pc0 := 8) (pc' := 12) rfl (hb hby d15_8) (by decide) (by decide) ?_
      show oP p e below s₁ (mkF m 12 #[oI p0] [(.int (1 : Int32))]) _
      exact retN X0 hx (t := .boolean) Bd.returns (by simp) (hb hby d15_12) hr
    · show (some (.int (1 : Int32)) : Option Value) = some (.int (fn15 Z p0)) ∧ Fr n0 _ ∧ s₁.heap = h0
      rw [e0]
      refine ⟨?_, N0, rfl⟩
      unfold fn15
      rw [if_neg hc2]
theorem d16_0 : decode jdk_43_method_46_code 0 = .ok (.iconst 1, 1) := by decide +kernel
theorem d16_1 : decode jdk_43_method_46_code 1 = .ok (.newarray .byte, 2) := by decide +kernel
theorem d16_3 : decode jdk_43_method_46_code 3 = .ok (.dup, 1) := by decide +kernel
theorem d16_4 : decode jdk_43_method_46_code 4 = .ok (.iconst 0, 1) := by decide +kernel
theorem d16_5 : decode jdk_43_method_46_code 5 = .ok (.iload_n 0, 1) := by decide +kernel
theorem d16_6 : decode jdk_43_method_46_code 6 = .ok (.i2b, 1) := by decide +kernel
theorem d16_7 : decode jdk_43_method_46_code 7 = .ok (.bastore, 1) := by decide +kernel
theorem d16_8 : decode jdk_43_method_46_code 8 = .ok (.areturn, 1) := by decide +kernel
theorem ef_16 (m : MethodId) (x0 : Int32) : entryFrame m #[(.int x0)] 1 = mkF m 0 #[.val (.int x0)] [] := by first | (simp [entryFrame, mkF, argsToLocals, Value.category]; done) | rfl
set_option maxRecDepth 65536 in
set_option maxHeartbeats 40000000 in
theorem rm16 (l : Launch) (Z : State) (a0 : Array Value) (hw : ∀ d ∈ tables_1, d.before a0 Z = true) (hS : St Z) (ws : List Jvm.Cond) (p0 : Int32) (h0 : Heap) (n0 : Nat) (O0 : Old Z n0 h0) :
    MetFree l (⟨"java/lang/StringLatin1", "toBytes", "(C)[B"⟩ : MethodName) (head1 (Jvm.Cond.code (⟨"java/lang/StringLatin1", "toBytes", "(C)[B"⟩ : MethodName) jdk_43_method_46_code 1 (some (.array .byte)) :: ws) ({ frames := 0, cells := 1, slots := 1, locals := 0 } : Room)) (fun a U => a = #[(.int p0)] ∧ Z.Warmed39 U.vm ∧ U.heap = h0) (fun _ _ _ _ _ => True) (fun _ U o U' => ∃ v L, o = .returned v ∧ own_Q (fun v hE L => ∃ (b : Addr), ∃ (kb : ClassId), v = some (.ref b) ∧ Fr n0 L ∧ Keep h0 hE [] ∧ h0.size ≤ b ∧ Arv Z hE b kb .byte (1 : Int32) [(.int ((p0.toInt8.toInt32).toInt8.toInt32))] (.int (0 : Int32))) v U'.heap L ∧ FrameEnd U o U' L ({ frames := 0, cells := 1, slots := 1, locals := 0 } : Room).cells ({ frames := 0, cells := 1, slots := 1, locals := 0 } : Room).slots) := by
  refine MetFree.of_bodySF (plainFor_of_name pn_0) hisR ?_
  intro p e s m args below meth c s₁ Bd hml0 hP hK
  obtain ⟨rfl, hZ, hh⟩ := hP
  have hx := Bd.exec
  have hby := Bd.bytes
  have hml : c.maxLocals = 1 := hml0
  have hown : s.vm.findClass "java/lang/StringLatin1" = some m.cls := findClass_of_methodNamed Bd.named
  have hnm := (name_of_methodNamed Bd.named Bd.method).1
  have X0 : Stand p l e ({ frames := 0, cells := 1, slots := 1, locals := 0 } : Room) s m #[(.int p0)] below meth c s₁ [] 0 0 := Stand.of_body Bd
  have e0 : s₁.heap = h0 := by rw [← hh, Bd.state]; rfl
  have N0 := Fr.nil n0
  have pre0 : ∀ t, Steps p.tables e below (s₁.setTop (mkF m 0 #[oI p0] [])) t → Steps p.tables e below (s₁.setTop (entryFrame m #[(.int p0)] 1)) t := fun t k => castTop (ef_16 m p0) k
  obtain ⟨T3, h3, k3, X3, e3, E3, A3, st3⟩ := newP X0 hx hZ (hw _ (List.mem_of_getElem? (i := 20) rfl)) e0 (g := (mkF m 1 #[oI p0] [(.int (1 : Int32))])) rfl (hb hby d16_1) rfl (by decide) (cap := 1) (by decide) (by decide) (by decide) (by decide)
  obtain ⟨b3, g3⟩ : ∃ z, z = h0.size := ⟨_, rfl⟩
  have g_b3 : n0 ≤ b3 := Nat.le_trans (own_old_le O0) (Nat.le_of_eq g3.symm)
  have sz_b3 : h0.size ≤ b3 := Nat.le_trans (Keep.refl h0 []).1 (Nat.le_of_eq g3.symm)
  rw [← g3] at A3 st3
  have O3 := O0.ext E3
  have Kc3 := (Keep.refl h0 []).ext E3
  have V3 : Arv Z h3 b3 k3 .byte (1 : Int32) [(.int (0 : Int32))] (.int (0 : Int32)) := (Arv.new A3 (by decide)).pad (pad_rep [] (.int (0 : Int32)) 1)
  obtain ⟨T4, h4, X4, e4, W4, V4', st4⟩ := own_stB X3 hx hZ e3 V3 (j := (0 : Int32)) ⟨by decide, by decide⟩ rfl (by decide : ((0 : Int32) : Int32).toNatClampNeg < 1) (g := (mkF m 7 #[oI p0] [(.int (p0.toInt8.toInt32)), (.int (0 : Int32)), (.ref b3), (.ref b3)])) rfl rfl (hb hby d16_7)
  have N4 := Fr.snoc X4 N0 g_b3
  have O4 := O3.wr W4 g_b3
  have Kc4 := Kc3.wr W4 (Or.inr sz_b3)
  have V4 : Arv Z h4 b3 k3 .byte (1 : Int32) [(.int ((p0.toInt8.toInt32).toInt8.toInt32))] (.int (0 : Int32)) := V4'
  obtain ⟨fs, hr, hrun, hended, hW, hsame⟩ := X4.leave (v := some (.ref b3)) (fun h => by rw [Bd.returns] at h; cases h)
  refine ⟨_, _, pre0 _ ?_, hrun, hended, _, _, rfl, ?_, ⟨_, rfl⟩, hW, hsame.mono (by decide) (by decide)⟩
  · show oP p e below s₁ (mkF m 0 #[oI p0] []) _
    refine XS.iconst X0.here hx rfl (hb hby d16_0) ?_
    show oP p e below s₁ (mkF m 1 #[oI p0] [(.int (1 : Int32))]) _
    refine st3 _ ?_
    show oP p e below T3 (mkF m 3 #[oI p0] [(.ref b3)]) _
    refine XS.dup X3.here hx rfl (hb hby d16_3) rfl rfl ?_
    show oP p e below T3 (mkF m 4 #[oI p0] [(.ref b3), (.ref b3)]) _
    refine XS.iconst X3.here hx rfl (hb hby d16_4) ?_
    show oP p e below T3 (mkF m 5 #[oI p0] [(.int (0 : Int32)), (.ref b3), (.ref b3)]) _
    refine XS.iloadN X3.here hx rfl (hb hby d16_5) rfl ?_
    show oP p e below T3 (mkF m 6 #[oI p0] [(.int p0), (.int (0 : Int32)), (.ref b3), (.ref b3)]) _
    refine XS.i2b X3.here hx rfl (hb hby d16_6) rfl ?_
    show oP p e below T3 (mkF m 7 #[oI p0] [(.int (p0.toInt8.toInt32)), (.int (0 : Int32)), (.ref b3), (.ref b3)]) _
    refine st4 _ ?_
    show oP p e below T4 (mkF m 8 #[oI p0] [(.ref b3)]) _
    exact own_retA X4 hx Bd.returns rfl rfl (hb hby d16_8) hr
  · show ∃ (b : Addr), ∃ (kb : ClassId), (some (.ref b3) : Option Value) = some (.ref b) ∧ Fr n0 _ ∧ Keep h0 T4.heap [] ∧ h0.size ≤ b ∧ Arv Z T4.heap b kb .byte (1 : Int32) [(.int ((p0.toInt8.toInt32).toInt8.toInt32))] (.int (0 : Int32))
    rw [e4]
    exact ⟨b3, k3, rfl, N4, Kc4, sz_b3, V4⟩
theorem d17_0 : decode jdk_42_method_151_code 0 = .ok (.aload_n 0, 1) := by decide +kernel
theorem d17_1 : decode jdk_42_method_151_code 1 = .ok (.invokespecial 1, 3) := by decide +kernel
theorem d17_4 : decode jdk_42_method_151_code 4 = .ok (.aload_n 0, 1) := by decide +kernel
theorem d17_5 : decode jdk_42_method_151_code 5 = .ok (.aload_n 1, 1) := by decide +kernel
theorem d17_6 : decode jdk_42_method_151_code 6 = .ok (.putfield 9, 3) := by decide +kernel
theorem d17_9 : decode jdk_42_method_151_code 9 = .ok (.aload_n 0, 1) := by decide +kernel
theorem d17_10 : decode jdk_42_method_151_code 10 = .ok (.iload_n 2, 1) := by decide +kernel
theorem d17_11 : decode jdk_42_method_151_code 11 = .ok (.putfield 15, 3) := by decide +kernel
theorem d17_14 : decode jdk_42_method_151_code 14 = .ok (.return_, 1) := by decide +kernel
theorem ef_17 (m : MethodId) (x0 : Addr) (x1 : Addr) (x2 : Int32) : entryFrame m #[(.ref x0), (.ref x1), (.int x2)] 3 = mkF m 0 #[.val (.ref x0), .val (.ref x1), .val (.int x2)] [] := by first | (simp [entryFrame, mkF, argsToLocals, Value.category]; done) | rfl
theorem pn_1 : plainName "java/lang/String" = true := by first | (simp [plainName, overriddenIn]; done) | decide +kernel
set_option maxRecDepth 65536 in
set_option maxHeartbeats 40000000 in
theorem rm17 (l : Launch) (Z : State) (a0 : Array Value) (hw : ∀ d ∈ tables_1, d.before a0 Z = true) (hS : St Z) (ws : List Jvm.Cond) (r0 : Addr) (r1 : Addr) (h0 : Heap) (n0 : Nat) (O0 : Old Z n0 h0) (E_r0 : Exa Z h0 r0 "java/lang/String") (F_value_r0 : Fld Z h0 r0 "java/lang/String" "value" "[B" .null) (F_coder_r0 : Fld Z h0 r0 "java/lang/String" "coder" "B" (.int (0 : Int32))) (g_r0 : n0 ≤ r0) :
    MetFree l (⟨"java/lang/String", "<init>", "([BB)V"⟩ : MethodName) (head1 (Jvm.Cond.code (⟨"java/lang/String", "<init>", "([BB)V"⟩ : MethodName) jdk_42_method_151_code 3 none :: ws) ({ frames := 1, cells := 0, slots := 0, locals := 12 } : Room)) (fun a U => a = #[(.ref r0), (.ref r1), (.int (0 : Int32))] ∧ Z.Warmed39 U.vm ∧ U.heap = h0) (fun _ _ _ _ _ => True) (fun _ U o U' => ∃ v L, o = .returned v ∧ own_Q (fun v hE L => v = none ∧ Fr n0 L ∧ Keep h0 hE [r0] ∧ Exa Z hE r0 "java/lang/String" ∧ Fld Z hE r0 "java/lang/String" "value" "[B" (.ref r1) ∧ Fld Z hE r0 "java/lang/String" "coder" "B" (.int (0 : Int32))) v U'.heap L ∧ FrameEnd U o U' L ({ frames := 1, cells := 0, slots := 0, locals := 12 } : Room).cells ({ frames := 1, cells := 0, slots := 0, locals := 12 } : Room).slots) := by
  refine MetFree.of_bodySF (plainFor_of_name pn_1) hisR ?_
  intro p e s m args below meth c s₁ Bd hml0 hP hK
  obtain ⟨rfl, hZ, hh⟩ := hP
  have hx := Bd.exec
  have hby := Bd.bytes
  have hml : c.maxLocals = 3 := hml0
  have hown : s.vm.findClass "java/lang/String" = some m.cls := findClass_of_methodNamed Bd.named
  have hnm := (name_of_methodNamed Bd.named Bd.method).1
  have X0 : Stand p l e ({ frames := 1, cells := 0, slots := 0, locals := 12 } : Room) s m #[(.ref r0), (.ref r1), (.int (0 : Int32))] below meth c s₁ [] 0 0 := Stand.of_body Bd
  have e0 : s₁.heap = h0 := by rw [← hh, Bd.state]; rfl
  have N0 := Fr.nil n0
  have pre0 : ∀ t, Steps p.tables e below (s₁.setTop (mkF m 0 #[oR r0, oR r1, oI (0 : Int32)] [])) t → Steps p.tables e below (s₁.setTop (entryFrame m #[(.ref r0), (.ref r1), (.int (0 : Int32))] 3)) t := fun t k => castTop (ef_17 m r0 r1 (0 : Int32)) k
  obtain ⟨T5, X5, e5, st5⟩ := initO X0 hx hZ hown (hw _ (List.mem_of_getElem? (i := 64) rfl)) (hw _ (List.mem_of_getElem? (i := 29) rfl)) (hw _ (List.mem_of_getElem? (i := 30) rfl)) e0 (g := (mkF m 1 #[oR r0, oR r1, oI (0 : Int32)] [(.ref r0)])) rfl (by rw [hml]; rfl) rfl (hb hby d17_1) (by decide) (W := 0) (by show 2 * 0 + _ ≤ _; exact Nat.le_of_eq rfl) (by decide)
  obtain ⟨T6, h6, X6, e6, W6, st6⟩ := putF X5 hx hZ hown (host := "") (Or.inl (hw _ (List.mem_of_getElem? (i := 77) rfl))) Via.refl e5 F_value_r0 E_r0 (Or.inr ⟨(hw _ (List.mem_of_getElem? (i := 21) rfl)), rfl, hnm⟩) (hw _ (List.mem_of_getElem? (i := 19) rfl)) (ty := (.array .byte)) (by decide) rfl rfl (g := (mkF m 6 #[oR r0, oR r1, oI (0 : Int32)] [(.ref r1), (.ref r0)])) rfl rfl (hb hby d17_6)
  have N6 := Fr.snoc X6 N0 g_r0
  have O6 := O0.wr W6 g_r0
  have Kc6 := (Keep.refl h0 [r0]).wr W6 (Or.inl (List.mem_of_getElem? (i := 0) rfl))
  have Fw6 := F_value_r0.same W6
  have fx7 := (E_r0.wr W6)
  have fx8 := (F_coder_r0.other W6 (Or.inr (slot_ne (Or.inr (hw _ (List.mem_of_getElem? (i := 22) rfl))) (Or.inr (hw _ (List.mem_of_getElem? (i := 21) rfl))) (by decide) (t := .byte) (t' := (.array .byte)) (by decide) (by decide))))
  obtain ⟨T9, h9, X9, e9, W9, st9⟩ := putFN X6 hx hZ hown (hw _ (List.mem_of_getElem? (i := 76) rfl)) Via.refl e6 fx8 fx7 (Or.inr ⟨(hw _ (List.mem_of_getElem? (i := 22) rfl)), rfl, hnm⟩) (hw _ (List.mem_of_getElem? (i := 19) rfl)) (ty := .byte) (v' := (.int (0 : Int32))) (by decide) rfl rfl (g := (mkF m 11 #[oR r0, oR r1, oI (0 : Int32)] [(.int (0 : Int32)), (.ref r0)])) rfl rfl (hb hby d17_11)
  have N9 := Fr.snoc X9 N6 g_r0
  have O9 := O6.wr W9 g_r0
  have Kc9 := Kc6.wr W9 (Or.inl (List.mem_of_getElem? (i := 0) rfl))
  have Fw9 := fx8.same W9
  obtain ⟨fs, hr, hrun, hended, hW, hsame⟩ := X9.leave (v := none) (fun _ => rfl)
  refine ⟨_, _, pre0 _ ?_, hrun, hended, _, _, rfl, ?_, ⟨_, rfl⟩, hW, hsame.mono (by decide) (by decide)⟩
  · show oP p e below s₁ (mkF m 0 #[oR r0, oR r1, oI (0 : Int32)] []) _
    refine XS.aloadN X0.here hx rfl (hb hby d17_0) rfl rfl ?_
    show oP p e below s₁ (mkF m 1 #[oR r0, oR r1, oI (0 : Int32)] [(.ref r0)]) _
    refine st5 _ ?_
    show oP p e below T5 (mkF m 4 #[oR r0, oR r1, oI (0 : Int32)] []) _
    refine XS.aloadN X5.here hx rfl (hb hby d17_4) rfl rfl ?_
    show oP p e below T5 (mkF m 5 #[oR r0, oR r1, oI (0 : Int32)] [(.ref r0)]) _
    refine XS.aloadN X5.here hx rfl (hb hby d17_5) rfl rfl ?_
    show oP p e below T5 (mkF m 6 #[oR r0, oR r1, oI (0 : Int32)] [(.ref r1), (.ref r0)]) _
    refine st6 _ ?_
    show oP p e below T6 (mkF m 9 #[oR r0, oR r1, oI (0 : Int32)] []) _
    refine XS.aloadN X6.here hx rfl (hb hby d17_9) rfl rfl ?_
    show oP p e below T6 (mkF m 10 #[oR r0, oR r1, oI (0 : Int32)] [(.ref r0)]) _
    refine XS.iloadN X6.here hx rfl (hb hby d17_10) rfl ?_
    show oP p e below T6 (mkF m 11 #[oR r0, oR r1, oI (0 : Int32)] [(.int (0 : Int32)), (.ref r0)]) _
    refine st9 _ ?_
    show oP p e below T9 (mkF m 14 #[oR r0, oR r1, oI (0 : Int32)] []) _
    exact X9.returnOut hx Bd.returns (hb hby d17_14) hr
  · show (none : Option Value) = none ∧ Fr n0 _ ∧ Keep h0 T9.heap [r0] ∧ Exa Z T9.heap r0 "java/lang/String" ∧ Fld Z T9.heap r0 "java/lang/String" "value" "[B" (.ref r1) ∧ Fld Z T9.heap r0 "java/lang/String" "coder" "B" (.int (0 : Int32))
    rw [e9]
    have fx10 := (fx7.wr W9)
    have fx11 := (Fw6.other W9 (Or.inr (slot_ne (Or.inr (hw _ (List.mem_of_getElem? (i := 21) rfl))) (Or.inr (hw _ (List.mem_of_getElem? (i := 22) rfl))) (by decide) (t := (.array .byte)) (t' := .byte) (by decide) (by decide))))
    exact ⟨rfl, N9, Kc9, fx10, fx11, Fw9⟩
theorem d14_0 : decode jdk_42_method_139_code 0 = .ok (.getstatic 38, 3) := by decide +kernel
theorem d14_3 : decode jdk_42_method_139_code 3 = .ok (.ifCond .eq 23, 3) := by decide +kernel
theorem d14_6 : decode jdk_42_method_139_code 6 = .ok (.iload_n 0, 1) := by decide +kernel
theorem d14_7 : decode jdk_42_method_139_code 7 = .ok (.invokestatic 1015, 3) := by decide +kernel
theorem pd_0 : parseMethodDescriptor "(C)Z" = some ⟨[.char], some .boolean⟩ := by decide +kernel
theorem d14_10 : decode jdk_42_method_139_code 10 = .ok (.ifCond .eq 16, 3) := by decide +kernel
theorem d14_13 : decode jdk_42_method_139_code 13 = .ok (.new 10, 3) := by decide +kernel
theorem d14_16 : decode jdk_42_method_139_code 16 = .ok (.dup, 1) := by decide +kernel
theorem d14_17 : decode jdk_42_method_139_code 17 = .ok (.iload_n 0, 1) := by decide +kernel
theorem d14_18 : decode jdk_42_method_139_code 18 = .ok (.invokestatic 1018, 3) := by decide +kernel
theorem pd_1 : parseMethodDescriptor "(C)[B" = some ⟨[.char], some (.array .byte)⟩ := by decide +kernel
theorem d14_21 : decode jdk_42_method_139_code 21 = .ok (.iconst 0, 1) := by decide +kernel
theorem d14_22 : decode jdk_42_method_139_code 22 = .ok (.invokespecial 209, 3) := by decide +kernel
theorem pd_2 : parseMethodDescriptor "([BB)V" = some ⟨[(.array .byte), .byte], none⟩ := by decide +kernel
theorem d14_25 : decode jdk_42_method_139_code 25 = .ok (.areturn, 1) := by decide +kernel
theorem ef_14 (m : MethodId) (x0 : Int32) : entryFrame m #[(.int x0)] 1 = mkF m 0 #[.val (.int x0)] [] := by first | (simp [entryFrame, mkF, argsToLocals, Value.category]; done) | rfl
set_option maxRecDepth 65536 in
set_option maxHeartbeats 40000000 in
theorem rm14 (l : Launch) (Z : State) (a0 : Array Value) (hw : ∀ d ∈ tables_1, d.before a0 Z = true) (hS : St Z) (ws : List Jvm.Cond) (p0 : Int32) (h0 : Heap) (n0 : Nat) (O0 : Old Z n0 h0) (hc0 : ¬ (255 : Int32) < p0) :
    MetFree l (⟨"java/lang/String", "valueOf", "(C)Ljava/lang/String;"⟩ : MethodName) (head1 (Jvm.Cond.code (⟨"java/lang/String", "valueOf", "(C)Ljava/lang/String;"⟩ : MethodName) jdk_42_method_139_code 1 (some (.object "java/lang/String")) :: ws) ({ frames := 2, cells := 2, slots := 5, locals := 27 } : Room)) (fun a U => a = #[(.int p0)] ∧ Z.Warmed39 U.vm ∧ U.heap = h0) (fun _ _ _ _ _ => True) (fun _ U o U' => ∃ v L, o = .returned v ∧ own_Q (fun v hE L => ∃ (b : Addr), ∃ (t : Addr), ∃ (kt : ClassId), v = some (.ref b) ∧ Fr n0 L ∧ Keep h0 hE [] ∧ h0.size ≤ b ∧ h0.size ≤ t ∧ Exa Z hE b "java/lang/String" ∧ Fld Z hE b "java/lang/String" "coder" "B" (.int (0 : Int32)) ∧ Fld Z hE b "java/lang/String" "value" "[B" (.ref t) ∧ Arv Z hE t kt .byte (1 : Int32) [(.int ((p0.toInt8.toInt32).toInt8.toInt32))] (.int (0 : Int32))) v U'.heap L ∧ FrameEnd U o U' L ({ frames := 2, cells := 2, slots := 5, locals := 27 } : Room).cells ({ frames := 2, cells := 2, slots := 5, locals := 27 } : Room).slots) := by
  refine MetFree.of_bodySF (plainFor_of_name pn_1) hisR ?_
  intro p e s m args below meth c s₁ Bd hml0 hP hK
  obtain ⟨rfl, hZ, hh⟩ := hP
  have hx := Bd.exec
  have hby := Bd.bytes
  have hml : c.maxLocals = 1 := hml0
  have hown : s.vm.findClass "java/lang/String" = some m.cls := findClass_of_methodNamed Bd.named
  have hnm := (name_of_methodNamed Bd.named Bd.method).1
  have X0 : Stand p l e ({ frames := 2, cells := 2, slots := 5, locals := 27 } : Room) s m #[(.int p0)] below meth c s₁ [] 0 0 := Stand.of_body Bd
  have e0 : s₁.heap = h0 := by rw [← hh, Bd.state]; rfl
  have N0 := Fr.nil n0
  have pre0 : ∀ t, Steps p.tables e below (s₁.setTop (mkF m 0 #[oI p0] [])) t → Steps p.tables e below (s₁.setTop (entryFrame m #[(.int p0)] 1)) t := fun t k => castTop (ef_14 m p0) k
  obtain ⟨T12, X12, e12, st12⟩ := getS2 X0 hx hZ hown (host := "") (Or.inl (hw _ (List.mem_of_getElem? (i := 65) rfl))) Via.refl e0 ((s_compact hS).ext O0.2) (g := (mkF m 0 #[oI p0] [])) rfl (hb hby d14_0)
  obtain ⟨_, _, ⟨T13, L13, k13, n13⟩, -, X13, ⟨Lc13, hQ13, l13, y13, z13⟩, st13⟩ := Jvm.LawKit.callS X12 hx (y := (⟨"java/lang/StringLatin1", "canEncode", "(C)Z"⟩ : MethodName)) hown (mvT hZ (hw _ (List.mem_of_getElem? (i := 81) rfl))) (mvT hZ (hw _ (List.mem_of_getElem? (i := 82) rfl))) (mvT hZ (hw _ (List.mem_of_getElem? (i := 83) rfl))) (mvT hZ (hw _ (List.mem_of_getElem? (i := 84) rfl))) (by decide) (backOf (W := 0) (rm15 l Z a0 hw hS [] p0 h0 n0 O0) hZ (hw _ (List.mem_of_getElem? (i := 84) rfl)) (hw _ (List.mem_of_getElem? (i := 83) rfl)) (by decide) (by decide)) (g := (mkF m 7 #[oI p0] [(.int p0)])) rfl (by rw [hml]; rfl) (argsL := [(.int p0)]) (rest := []) (lenOf pd_0 rfl) rfl (by show 2 * 0 + _ ≤ _; exact Nat.le_of_eq rfl) (hb hby d14_7) (fun _ _ => ⟨rfl, e12, (by decide : 0 + 0 ≤ _), (by decide : 0 + 0 ≤ _)⟩)
  dsimp only [Pt.U, Pt.locs, Pt.cells, Pt.slots] at X13 l13 y13 z13 st13 hQ13
  subst l13 y13 z13
  obtain ⟨v13, N13q, h13q⟩ := hQ13
  have w13 : (fn15 Z p0) = (1 : Int32) := by unfold fn15; rw [if_neg hc0]; all_goals first | rfl | decide
  rw [w13] at v13
  subst v13
  have N13 := Fr.app N0 N13q
  obtain ⟨T14, h14, X14, e14, E14, A14, D14, -, st14⟩ := newO X13 hx hZ hown (hw _ (List.mem_of_getElem? (i := 85) rfl)) (hw _ (List.mem_of_getElem? (i := 19) rfl)) (hw _ (List.mem_of_getElem? (i := 18) rfl)) h13q (g := (mkF m 13 #[oI p0] [])) rfl (hb hby d14_13) (by decide) (by decide)
  obtain ⟨b14, g14⟩ : ∃ z, z = h0.size := ⟨_, rfl⟩
  have g_b14 : n0 ≤ b14 := Nat.le_trans (own_old_le O0) (Nat.le_of_eq g14.symm)
  have sz_b14 : h0.size ≤ b14 := Nat.le_trans (Keep.refl h0 []).1 (Nat.le_of_eq g14.symm)
  rw [← g14] at A14 D14 st14
  have O14 := O0.ext E14
  have Kc14 := (Keep.refl h0 []).ext E14
  have F_value_b14 : Fld Z h14 b14 "java/lang/String" "value" "[B" .null := D14 (Or.inr (hw _ (List.mem_of_getElem? (i := 21) rfl))) (ty := (.array .byte)) (by decide)
  have F_coder_b14 : Fld Z h14 b14 "java/lang/String" "coder" "B" (.int (0 : Int32)) := D14 (Or.inr (hw _ (List.mem_of_getElem? (i := 22) rfl))) (ty := .byte) (by decide)
  obtain ⟨_, _, ⟨T15, L15, k15, n15⟩, -, X15, ⟨Lc15, hQ15, l15, y15, z15⟩, st15⟩ := Jvm.LawKit.callS X14 hx (y := (⟨"java/lang/StringLatin1", "toBytes", "(C)[B"⟩ : MethodName)) hown (mvT hZ (hw _ (List.mem_of_getElem? (i := 86) rfl))) (mvT hZ (hw _ (List.mem_of_getElem? (i := 87) rfl))) (mvT hZ (hw _ (List.mem_of_getElem? (i := 83) rfl))) (mvT hZ (hw _ (List.mem_of_getElem? (i := 88) rfl))) (by decide) (backOf (W := 2) (rm16 l Z a0 hw hS [] p0 h14 n0 O14 ) hZ (hw _ (List.mem_of_getElem? (i := 88) rfl)) (hw _ (List.mem_of_getElem? (i := 83) rfl)) (by decide) (by decide)) (g := (mkF m 18 #[oI p0] [(.int p0), (.ref b14), (.ref b14)])) rfl (by rw [hml]; rfl) (argsL := [(.int p0)]) (rest := [(.ref b14), (.ref b14)]) (lenOf pd_1 rfl) rfl (by show 2 * 0 + _ ≤ _; exact Nat.le_of_eq rfl) (hb hby d14_18) (fun _ _ => ⟨rfl, e14, (by decide : 1 + 1 ≤ _), (by decide : 4 + 1 ≤ _)⟩)
  dsimp only [Pt.U, Pt.locs, Pt.cells, Pt.slots] at X15 l15 y15 z15 st15 hQ15
  subst l15 y15 z15
  obtain ⟨b_15, kb_15, v15, N15q, K15q, po15_0, po15_1⟩ := hQ15
  subst v15
  have N15 := Fr.app N13 N15q
  have O15 := O14.keep K15q all0
  have Kc15 := Kc14.trans K15q all0
  have ne_b14_b_15 : b14 ≠ b_15 := Nat.ne_of_lt (Nat.lt_of_lt_of_le A14.lt po15_0)
  have g_b_15 : n0 ≤ b_15 := Nat.le_trans (own_old_le O14) po15_0
  have sz_b_15 : h0.size ≤ b_15 := Nat.le_trans Kc14.1 po15_0
  have fx17 := (A14.keep K15q)
  have fx18 := (F_value_b14.keep K15q nin0)
  have fx19 := (F_coder_b14.keep K15q nin0)
  obtain ⟨_, _, ⟨T16, L16, k16, n16⟩, -, X16, ⟨Lc16, hQ16, l16, y16, z16⟩, st16⟩ := X15.specialBack hx (y := (⟨"java/lang/String", "<init>", "([BB)V"⟩ : MethodName)) rfl hown (mvT hZ (hw _ (List.mem_of_getElem? (i := 89) rfl))) (mvT hZ (hw _ (List.mem_of_getElem? (i := 90) rfl))) (mvT hZ (hw _ (List.mem_of_getElem? (i := 91) rfl))) (by decide) (backOf (W := 1) (rm17 l Z a0 hw hS [] b14 b_15 T15.heap n0 O15 fx17 fx18 fx19 g_b14) hZ (hw _ (List.mem_of_getElem? (i := 91) rfl)) (hw _ (List.mem_of_getElem? (i := 18) rfl)) (by decide) (by decide)) (g := (mkF m 22 #[oI p0] [(.int (0 : Int32)), (.ref b_15), (.ref b14), (.ref b14)])) rfl (by rw [hml]; rfl) (Steps.refl _) (a := b14) (argsL := [(.ref b_15), (.int (0 : Int32))]) (rest := [(.ref b14)]) (lenOf pd_2 rfl) rfl (by show 2 * 0 + _ ≤ _; exact Nat.le_of_eq rfl) (hb hby d14_22) (fun _ _ => ⟨rfl, rfl, (by decide : 2 + 0 ≤ _), (by decide : 5 + 0 ≤ _)⟩)
  dsimp only [Pt.U, Pt.locs, Pt.cells, Pt.slots] at X16 l16 y16 z16 st16 hQ16
  subst l16 y16 z16
  obtain ⟨v16, N16q, K16q, po16_0, po16_1, po16_2⟩ := hQ16
  subst v16
  have N16 := Fr.app N15 N16q
  have O16 := O15.keep K16q (allS g_b14 all0)
  have Kc16 := Kc15.trans K16q (allS (Or.inr sz_b14) all0)
  obtain ⟨fs, hr, hrun, hended, hW, hsame⟩ := X16.leave (v := some (.ref b14)) (fun h => by rw [Bd.returns] at h; cases h)
  refine ⟨_, _, pre0 _ ?_, hrun, hended, _, _, rfl, ?_, ⟨_, rfl⟩, hW, hsame.mono (by decide) (by decide)⟩
  · show oP p e below s₁ (mkF m 0 #[oI p0] []) _
    refine st12 _ ?_
    show oP p e below T12 (mkF m 3 #[oI p0] [(.int (own_si Z "java/lang/String" "COMPACT_STRINGS" "Z"))]) _
    refine XS.ifNo X12.here hx rfl (hb hby d14_3) rfl ((if0 _ _).trans (feq (n_compact hS)).1) ?_
    show oP p e below T12 (mkF m 6 #[oI p0] []) _
    refine XS.iloadN X12.here hx rfl (hb hby d14_6) rfl ?_
    show oP p e below T12 (mkF m 7 #[oI p0] [(.int p0)]) _
    refine st13 _ ?_
    show oP p e below T13 (mkF m 10 #[oI p0] [(.int (1 : Int32))]) _
    refine XS.ifNo X13.here hx rfl (hb hby d14_10) rfl ((if0 _ _).trans (feq (by decide : ¬ ((1 : Int32) = (0 : Int32)))).1) ?_
    show oP p e below T13 (mkF m 13 #[oI p0] []) _
    refine st14 _ ?_
    show oP p e below T14 (mkF m 16 #[oI p0] [(.ref b14)]) _
    refine XS.dup X14.here hx rfl (hb hby d14_16) rfl rfl ?_
    show oP p e below T14 (mkF m 17 #[oI p0] [(.ref b14), (.ref b14)]) _
    refine XS.iloadN X14.here hx rfl (hb hby d14_17) rfl ?_
    show oP p e below T14 (mkF m 18 #[oI p0] [(.int p0), (.ref b14), (.ref b14)]) _
    refine st15 _ ?_
    show oP p e below T15 (mkF m 21 #[oI p0] [(.ref b_15), (.ref b14), (.ref b14)]) _
    refine XS.iconst X15.here hx rfl (hb hby d14_21) ?_
    show oP p e below T15 (mkF m 22 #[oI p0] [(.int (0 : Int32)), (.ref b_15), (.ref b14), (.ref b14)]) _
    refine st16.trans ?_
    show oP p e below T16 (mkF m 25 #[oI p0] [(.ref b14)]) _
    exact own_retA X16 hx Bd.returns rfl rfl (hb hby d14_25) hr
  · show ∃ (b : Addr), ∃ (t : Addr), ∃ (kt : ClassId), (some (.ref b14) : Option Value) = some (.ref b) ∧ Fr n0 _ ∧ Keep h0 T16.heap [] ∧ h0.size ≤ b ∧ h0.size ≤ t ∧ Exa Z T16.heap b "java/lang/String" ∧ Fld Z T16.heap b "java/lang/String" "coder" "B" (.int (0 : Int32)) ∧ Fld Z T16.heap b "java/lang/String" "value" "[B" (.ref t) ∧ Arv Z T16.heap t kt .byte (1 : Int32) [(.int ((p0.toInt8.toInt32).toInt8.toInt32))] (.int (0 : Int32))
    have fx20 := (po15_1.keep K16q (ninS (Ne.symm ne_b14_b_15) nin0))
    exact ⟨b14, b_15, kb_15, rfl, N16, Kc16, sz_b14, sz_b_15, po16_0, po16_2, po16_1, fx20⟩
theorem d1_0 : decode method_3_code 0 = .ok (.iload_n 0, 1) := by decide +kernel
theorem d1_1 : decode method_3_code 1 = .ok (.ifCond .ne 9, 3) := by decide +kernel
theorem d1_4 : decode method_3_code 4 = .ok (.getstatic 36, 3) := by decide +kernel
theorem d1_7 : decode method_3_code 7 = .ok (.goto 6, 3) := by decide +kernel
theorem d1_13 : decode method_3_code 13 = .ok (.areturn, 1) := by decide +kernel
theorem d1_10 : decode method_3_code 10 = .ok (.getstatic 42, 3) := by decide +kernel
def fn1 (Z : State) (p0 : Int32) : Addr :=
  if p0 = (0 : Int32) then
    (a_MAIN Z)
  else
    (a_PATCH Z)
theorem ef_1 (m : MethodId) (x0 : Int32) : entryFrame m #[(.int x0)] 1 = mkF m 0 #[.val (.int x0)] [] := by first | (simp [entryFrame, mkF, argsToLocals, Value.category]; done) | rfl
theorem pn_2 : plainName "com/example/meerkat/meerkat/ExpansionFileEqualsPinLaw" = true := by first | (simp [plainName, overriddenIn]; done) | decide +kernel
set_option maxRecDepth 65536 in
set_option maxHeartbeats 40000000 in
theorem rm1 (l : Launch) (Z : State) (a0 : Array Value) (hw : ∀ d ∈ tables_1, d.before a0 Z = true) (hS : St Z) (ws : List Jvm.Cond) (p0 : Int32) (h0 : Heap) (n0 : Nat) (O0 : Old Z n0 h0) :
    MetFree l (⟨"com/example/meerkat/meerkat/ExpansionFileEqualsPinLaw", "kindOf", "(I)Lcom/example/meerkat/meerkat/ExpansionFile$Kind;"⟩ : MethodName) (head1 (Jvm.Cond.code (⟨"com/example/meerkat/meerkat/ExpansionFileEqualsPinLaw", "kindOf", "(I)Lcom/example/meerkat/meerkat/ExpansionFile$Kind;"⟩ : MethodName) method_3_code 1 (some (.object "com/example/meerkat/meerkat/ExpansionFile$Kind")) :: ws) ({ frames := 0, cells := 0, slots := 0, locals := 0 } : Room)) (fun a U => a = #[(.int p0)] ∧ Z.Warmed39 U.vm ∧ U.heap = h0) (fun _ _ _ _ _ => True) (fun _ U o U' => ∃ v L, o = .returned v ∧ own_Q (fun v hE L => v = some (.ref (fn1 Z p0)) ∧ Fr n0 L ∧ hE = h0) v U'.heap L ∧ FrameEnd U o U' L ({ frames := 0, cells := 0, slots := 0, locals := 0 } : Room).cells ({ frames := 0, cells := 0, slots := 0, locals := 0 } : Room).slots) := by
  refine MetFree.of_bodySF (plainFor_of_name pn_2) hisR ?_
  intro p e s m args below meth c s₁ Bd hml0 hP hK
  obtain ⟨rfl, hZ, hh⟩ := hP
  have hx := Bd.exec
  have hby := Bd.bytes
  have hml : c.maxLocals = 1 := hml0
  have hown : s.vm.findClass "com/example/meerkat/meerkat/ExpansionFileEqualsPinLaw" = some m.cls := findClass_of_methodNamed Bd.named
  have X0 : Stand p l e ({ frames := 0, cells := 0, slots := 0, locals := 0 } : Room) s m #[(.int p0)] below meth c s₁ [] 0 0 := Stand.of_body Bd
  have e0 : s₁.heap = h0 := by rw [← hh, Bd.state]; rfl
  have N0 := Fr.nil n0
  have pre0 : ∀ t, Steps p.tables e below (s₁.setTop (mkF m 0 #[oI p0] [])) t → Steps p.tables e below (s₁.setTop (entryFrame m #[(.int p0)] 1)) t := fun t k => castTop (ef_1 m p0) k
  have pre21 : ∀ t, oP p e below s₁ (mkF m 1 #[oI p0] [(.int p0)]) t → oP p e below s₁ (entryFrame m #[(.int p0)] 1) t := fun t k => pre0 t (by
    show oP p e below s₁ (mkF m 0 #[oI p0] []) _
    refine XS.iloadN X0.here hx rfl (hb hby d1_0) rfl ?_
    exact k)
  by_cases hc22 : p0 = (0 : Int32)
  · obtain ⟨T23, X23, e23, st23⟩ := getS2 X0 hx hZ hown (host := "") (Or.inl (hw _ (List.mem_of_getElem? (i := 8) rfl))) Via.refl e0 ((s_a_MAIN hS).ext O0.2) (g := (mkF m 4 #[oI p0] [])) rfl (hb hby d1_4)
    obtain ⟨fs, hr, hrun, hended, hW, hsame⟩ := X23.leave (v := some (.ref (a_MAIN Z))) (fun h => by rw [Bd.returns] at h; cases h)
    refine ⟨_, _, pre21 _ ?_, hrun, hended, _, _, rfl, ?_, ⟨_, rfl⟩, hW, hsame.mono (by decide) (by decide)⟩
    · show oP p e below s₁ (mkF m 1 #[oI p0] [(.int p0)]) _
      refine XS.ifNo X0.here hx rfl (hb hby d1_1) rfl ((if0 _ _).trans (teq hc22).2) ?_
      show oP p e below s₁ (mkF m 4 #[oI p0] []) _
      refine st23 _ ?_
      show oP p e below T23 (mkF m 7 #[oI p0] [(.ref (a_MAIN Z))]) _
      refine XS.goto X23.here hx rfl (pc0 := 7) (pc' := 13) rfl (hb hby d1_7) (by decide) (by decide) ?_
      show oP p e below T23 (mkF m 13 #[oI p0] [(.ref (a_MAIN Z))]) _
      exact own_retA X23 hx Bd.returns rfl rfl (hb hby d1_13) hr
    · show (some (.ref (a_MAIN Z)) : Option Value) = some (.ref (fn1 Z p0)) ∧ Fr n0 _ ∧ T23.heap = h0
      rw [e23]
      refine ⟨?_, N0, rfl⟩
      unfold fn1
      rw [if_pos hc22]
  · obtain ⟨T24, X24, e24, st24⟩ := getS2 X0 hx hZ hown (host := "") (Or.inl (hw _ (List.mem_of_getElem? (i := 112) rfl))) Via.refl e0 ((s_a_PATCH hS).ext O0.2) (g := (mkF m 10 #[oI p0] [])) rfl (hb hby d1_10)
    obtain ⟨fs, hr, hrun, hended, hW, hsame⟩ := X24.leave (v := some (.ref (a_PATCH Z))) (fun h => by rw [Bd.returns] at h; cases h)
    refine ⟨_, _, pre21 _ ?_, hrun, hended, _, _, rfl, ?_, ⟨_, rfl⟩, hW, hsame.mono (by decide) (by decide)⟩
    · show oP p e below s₁ (mkF m 1 #[oI p0] [(.int p0)]) _
      refine XS.ifYes X0.here hx rfl (pc0 := 1) (pc' := 10) rfl (hb hby d1_1) rfl ((if0 _ _).trans (feq hc22).2) (by decide) (by decide) ?_
      show oP p e below s₁ (mkF m 10 #[oI p0] []) _
      refine st24 _ ?_
      show oP p e below T24 (mkF m 13 #[oI p0] [(.ref (a_PATCH Z))]) _
      exact own_retA X24 hx Bd.returns rfl rfl (hb hby d1_13) hr
    · show (some (.ref (a_PATCH Z)) : Option Value) = some (.ref (fn1 Z p0)) ∧ Fr n0 _ ∧ T24.heap = h0
      rw [e24]
      refine ⟨?_, N0, rfl⟩
      unfold fn1
      rw [if_neg hc22]
theorem d3_0 : decode method_4_code 0 = .ok (.iload_n 0, 1) := by decide +kernel
theorem d3_1 : decode method_4_code 1 = .ok (.iconst 3, 1) := by decide +kernel
theorem d3_2 : decode method_4_code 2 = .ok (.iand, 1) := by decide +kernel
theorem d3_3 : decode method_4_code 3 = .ok (.iconst 3, 1) := by decide +kernel
theorem d3_4 : decode method_4_code 4 = .ok (.irem, 1) := by decide +kernel
theorem d3_5 : decode method_4_code 5 = .ok (.ireturn, 1) := by decide +kernel
def fn3 (Z : State) (p0 : Int32) : Int32 :=
  ((p0 &&& (3 : Int32)) - ((p0 &&& (3 : Int32)) / (3 : Int32)) * (3 : Int32))
theorem ef_3 (m : MethodId) (x0 : Int32) : entryFrame m #[(.int x0)] 1 = mkF m 0 #[.val (.int x0)] [] := by first | (simp [entryFrame, mkF, argsToLocals, Value.category]; done) | rfl
set_option maxRecDepth 65536 in
set_option maxHeartbeats 40000000 in
theorem rm3 (l : Launch) (Z : State) (a0 : Array Value) (hw : ∀ d ∈ tables_1, d.before a0 Z = true) (hS : St Z) (ws : List Jvm.Cond) (p0 : Int32) (h0 : Heap) (n0 : Nat) (O0 : Old Z n0 h0) :
    MetFree l (⟨"com/example/meerkat/meerkat/ExpansionFileEqualsPinLaw", "len", "(I)I"⟩ : MethodName) (head1 (Jvm.Cond.code (⟨"com/example/meerkat/meerkat/ExpansionFileEqualsPinLaw", "len", "(I)I"⟩ : MethodName) method_4_code 1 (some .int) :: ws) ({ frames := 0, cells := 0, slots := 0, locals := 0 } : Room)) (fun a U => a = #[(.int p0)] ∧ Z.Warmed39 U.vm ∧ U.heap = h0) (fun _ _ _ _ _ => True) (fun _ U o U' => ∃ v L, o = .returned v ∧ own_Q (fun v hE L => v = some (.int (fn3 Z p0)) ∧ Fr n0 L ∧ hE = h0) v U'.heap L ∧ FrameEnd U o U' L ({ frames := 0, cells := 0, slots := 0, locals := 0 } : Room).cells ({ frames := 0, cells := 0, slots := 0, locals := 0 } : Room).slots) := by
  refine MetFree.of_bodySF (plainFor_of_name pn_2) hisR ?_
  intro p e s m args below meth c s₁ Bd hml0 hP hK
  obtain ⟨rfl, hZ, hh⟩ := hP
  have hx := Bd.exec
  have hby := Bd.bytes
  have hml : c.maxLocals = 1 := hml0
  have hown : s.vm.findClass "com/example/meerkat/meerkat/ExpansionFileEqualsPinLaw" = some m.cls := findClass_of_methodNamed Bd.named
  have X0 : Stand p l e ({ frames := 0, cells := 0, slots := 0, locals := 0 } : Room) s m #[(.int p0)] below meth c s₁ [] 0 0 := Stand.of_body Bd
  have e0 : s₁.heap = h0 := by rw [← hh, Bd.state]; rfl
  have N0 := Fr.nil n0
  have pre0 : ∀ t, Steps p.tables e below (s₁.setTop (mkF m 0 #[oI p0] [])) t → Steps p.tables e below (s₁.setTop (entryFrame m #[(.int p0)] 1)) t := fun t k => castTop (ef_3 m p0) k
  obtain ⟨fs, hr, hrun, hended, hW, hsame⟩ := X0.leave (v := some (.int ((p0 &&& (3 : Int32)) - ((p0 &&& (3 : Int32)) / (3 : Int32)) * (3 : Int32)))) (fun h => by rw [Bd.returns] at h; cases h)
  refine ⟨_, _, pre0 _ ?_, hrun, hended, _, _, rfl, ?_, ⟨_, rfl⟩, hW, hsame.mono (by decide) (by decide)⟩
  · show oP p e below s₁ (mkF m 0 #[oI p0] []) _
    refine XS.iloadN X0.here hx rfl (hb hby d3_0) rfl ?_
    show oP p e below s₁ (mkF m 1 #[oI p0] [(.int p0)]) _
    refine XS.iconst X0.here hx rfl (hb hby d3_1) ?_
    show oP p e below s₁ (mkF m 2 #[oI p0] [(.int (3 : Int32)), (.int p0)]) _
    refine XS.iand X0.here hx rfl (hb hby d3_2) rfl ?_
    show oP p e below s₁ (mkF m 3 #[oI p0] [(.int (p0 &&& (3 : Int32)))]) _
    refine XS.iconst X0.here hx rfl (hb hby d3_3) ?_
    show oP p e below s₁ (mkF m 4 #[oI p0] [(.int (3 : Int32)), (.int (p0 &&& (3 : Int32)))]) _
    refine XS.irem X0.here hx rfl (hb hby d3_4) rfl (by decide) ?_
    show oP p e below s₁ (mkF m 5 #[oI p0] [(.int ((p0 &&& (3 : Int32)) - ((p0 &&& (3 : Int32)) / (3 : Int32)) * (3 : Int32)))]) _
    exact retI X0 hx Bd.returns (hb hby d3_5) hr
  · show (some (.int ((p0 &&& (3 : Int32)) - ((p0 &&& (3 : Int32)) / (3 : Int32)) * (3 : Int32))) : Option Value) = some (.int (fn3 Z p0)) ∧ Fr n0 _ ∧ s₁.heap = h0
    rw [e0]
    refine ⟨?_, N0, rfl⟩
    rfl
theorem d7_0 : decode method_5_code 0 = .ok (.iload_n 0, 1) := by decide +kernel
theorem d7_1 : decode method_5_code 1 = .ok (.iconst 2, 1) := by decide +kernel
theorem d7_2 : decode method_5_code 2 = .ok (.iushr, 1) := by decide +kernel
theorem d7_3 : decode method_5_code 3 = .ok (.sipush 255, 3) := by decide +kernel
theorem d7_6 : decode method_5_code 6 = .ok (.iand, 1) := by decide +kernel
theorem d7_7 : decode method_5_code 7 = .ok (.ireturn, 1) := by decide +kernel
def fn7 (Z : State) (p0 : Int32) : Int32 :=
  (((p0.toUInt32 >>> ((2 : Int32) &&& 31).toUInt32).toInt32) &&& (255 : Int32))
theorem ef_7 (m : MethodId) (x0 : Int32) : entryFrame m #[(.int x0)] 1 = mkF m 0 #[.val (.int x0)] [] := by first | (simp [entryFrame, mkF, argsToLocals, Value.category]; done) | rfl
set_option maxRecDepth 65536 in
set_option maxHeartbeats 40000000 in
theorem rm7 (l : Launch) (Z : State) (a0 : Array Value) (hw : ∀ d ∈ tables_1, d.before a0 Z = true) (hS : St Z) (ws : List Jvm.Cond) (p0 : Int32) (h0 : Heap) (n0 : Nat) (O0 : Old Z n0 h0) :
    MetFree l (⟨"com/example/meerkat/meerkat/ExpansionFileEqualsPinLaw", "c0", "(I)I"⟩ : MethodName) (head1 (Jvm.Cond.code (⟨"com/example/meerkat/meerkat/ExpansionFileEqualsPinLaw", "c0", "(I)I"⟩ : MethodName) method_5_code 1 (some .int) :: ws) ({ frames := 0, cells := 0, slots := 0, locals := 0 } : Room)) (fun a U => a = #[(.int p0)] ∧ Z.Warmed39 U.vm ∧ U.heap = h0) (fun _ _ _ _ _ => True) (fun _ U o U' => ∃ v L, o = .returned v ∧ own_Q (fun v hE L => v = some (.int (fn7 Z p0)) ∧ Fr n0 L ∧ hE = h0) v U'.heap L ∧ FrameEnd U o U' L ({ frames := 0, cells := 0, slots := 0, locals := 0 } : Room).cells ({ frames := 0, cells := 0, slots := 0, locals := 0 } : Room).slots) := by
  refine MetFree.of_bodySF (plainFor_of_name pn_2) hisR ?_
  intro p e s m args below meth c s₁ Bd hml0 hP hK
  obtain ⟨rfl, hZ, hh⟩ := hP
  have hx := Bd.exec
  have hby := Bd.bytes
  have hml : c.maxLocals = 1 := hml0
  have hown : s.vm.findClass "com/example/meerkat/meerkat/ExpansionFileEqualsPinLaw" = some m.cls := findClass_of_methodNamed Bd.named
  have X0 : Stand p l e ({ frames := 0, cells := 0, slots := 0, locals := 0 } : Room) s m #[(.int p0)] below meth c s₁ [] 0 0 := Stand.of_body Bd
  have e0 : s₁.heap = h0 := by rw [← hh, Bd.state]; rfl
  have N0 := Fr.nil n0
  have pre0 : ∀ t, Steps p.tables e below (s₁.setTop (mkF m 0 #[oI p0] [])) t → Steps p.tables e below (s₁.setTop (entryFrame m #[(.int p0)] 1)) t := fun t k => castTop (ef_7 m p0) k
  obtain ⟨fs, hr, hrun, hended, hW, hsame⟩ := X0.leave (v := some (.int (((p0.toUInt32 >>> ((2 : Int32) &&& 31).toUInt32).toInt32) &&& (255 : Int32)))) (fun h => by rw [Bd.returns] at h; cases h)
  refine ⟨_, _, pre0 _ ?_, hrun, hended, _, _, rfl, ?_, ⟨_, rfl⟩, hW, hsame.mono (by decide) (by decide)⟩
  · show oP p e below s₁ (mkF m 0 #[oI p0] []) _
    refine XS.iloadN X0.here hx rfl (hb hby d7_0) rfl ?_
    show oP p e below s₁ (mkF m 1 #[oI p0] [(.int p0)]) _
    refine XS.iconst X0.here hx rfl (hb hby d7_1) ?_
    show oP p e below s₁ (mkF m 2 #[oI p0] [(.int (2 : Int32)), (.int p0)]) _
    refine XS.iushr X0.here hx rfl (hb hby d7_2) rfl ?_
    show oP p e below s₁ (mkF m 3 #[oI p0] [(.int ((p0.toUInt32 >>> ((2 : Int32) &&& 31).toUInt32).toInt32))]) _
    refine XS.sipush X0.here hx rfl (hb hby d7_3) ?_
    show oP p e below s₁ (mkF m 6 #[oI p0] [(.int (255 : Int32)), (.int ((p0.toUInt32 >>> ((2 : Int32) &&& 31).toUInt32).toInt32))]) _
    refine XS.iand X0.here hx rfl (hb hby d7_6) rfl ?_
    show oP p e below s₁ (mkF m 7 #[oI p0] [(.int (((p0.toUInt32 >>> ((2 : Int32) &&& 31).toUInt32).toInt32) &&& (255 : Int32)))]) _
    exact retI X0 hx Bd.returns (hb hby d7_7) hr
  · show (some (.int (((p0.toUInt32 >>> ((2 : Int32) &&& 31).toUInt32).toInt32) &&& (255 : Int32))) : Option Value) = some (.int (fn7 Z p0)) ∧ Fr n0 _ ∧ s₁.heap = h0
    rw [e0]
    refine ⟨?_, N0, rfl⟩
    rfl
theorem d8_0 : decode method_6_code 0 = .ok (.iload_n 0, 1) := by decide +kernel
theorem d8_1 : decode method_6_code 1 = .ok (.bipush 10, 2) := by decide +kernel
theorem d8_3 : decode method_6_code 3 = .ok (.iushr, 1) := by decide +kernel
theorem d8_4 : decode method_6_code 4 = .ok (.sipush 255, 3) := by decide +kernel
theorem d8_7 : decode method_6_code 7 = .ok (.iand, 1) := by decide +kernel
theorem d8_8 : decode method_6_code 8 = .ok (.ireturn, 1) := by decide +kernel
def fn8 (Z : State) (p0 : Int32) : Int32 :=
  (((p0.toUInt32 >>> ((10 : Int32) &&& 31).toUInt32).toInt32) &&& (255 : Int32))
theorem ef_8 (m : MethodId) (x0 : Int32) : entryFrame m #[(.int x0)] 1 = mkF m 0 #[.val (.int x0)] [] := by first | (simp [entryFrame, mkF, argsToLocals, Value.category]; done) | rfl
set_option maxRecDepth 65536 in
set_option maxHeartbeats 40000000 in
theorem rm8 (l : Launch) (Z : State) (a0 : Array Value) (hw : ∀ d ∈ tables_1, d.before a0 Z = true) (hS : St Z) (ws : List Jvm.Cond) (p0 : Int32) (h0 : Heap) (n0 : Nat) (O0 : Old Z n0 h0) :
    MetFree l (⟨"com/example/meerkat/meerkat/ExpansionFileEqualsPinLaw", "c1", "(I)I"⟩ : MethodName) (head1 (Jvm.Cond.code (⟨"com/example/meerkat/meerkat/ExpansionFileEqualsPinLaw", "c1", "(I)I"⟩ : MethodName) method_6_code 1 (some .int) :: ws) ({ frames := 0, cells := 0, slots := 0, locals := 0 } : Room)) (fun a U => a = #[(.int p0)] ∧ Z.Warmed39 U.vm ∧ U.heap = h0) (fun _ _ _ _ _ => True) (fun _ U o U' => ∃ v L, o = .returned v ∧ own_Q (fun v hE L => v = some (.int (fn8 Z p0)) ∧ Fr n0 L ∧ hE = h0) v U'.heap L ∧ FrameEnd U o U' L ({ frames := 0, cells := 0, slots := 0, locals := 0 } : Room).cells ({ frames := 0, cells := 0, slots := 0, locals := 0 } : Room).slots) := by
  refine MetFree.of_bodySF (plainFor_of_name pn_2) hisR ?_
  intro p e s m args below meth c s₁ Bd hml0 hP hK
  obtain ⟨rfl, hZ, hh⟩ := hP
  have hx := Bd.exec
  have hby := Bd.bytes
  have hml : c.maxLocals = 1 := hml0
  have hown : s.vm.findClass "com/example/meerkat/meerkat/ExpansionFileEqualsPinLaw" = some m.cls := findClass_of_methodNamed Bd.named
  have X0 : Stand p l e ({ frames := 0, cells := 0, slots := 0, locals := 0 } : Room) s m #[(.int p0)] below meth c s₁ [] 0 0 := Stand.of_body Bd
  have e0 : s₁.heap = h0 := by rw [← hh, Bd.state]; rfl
  have N0 := Fr.nil n0
  have pre0 : ∀ t, Steps p.tables e below (s₁.setTop (mkF m 0 #[oI p0] [])) t → Steps p.tables e below (s₁.setTop (entryFrame m #[(.int p0)] 1)) t := fun t k => castTop (ef_8 m p0) k
  obtain ⟨fs, hr, hrun, hended, hW, hsame⟩ := X0.leave (v := some (.int (((p0.toUInt32 >>> ((10 : Int32) &&& 31).toUInt32).toInt32) &&& (255 : Int32)))) (fun h => by rw [Bd.returns] at h; cases h)
  refine ⟨_, _, pre0 _ ?_, hrun, hended, _, _, rfl, ?_, ⟨_, rfl⟩, hW, hsame.mono (by decide) (by decide)⟩
  · show oP p e below s₁ (mkF m 0 #[oI p0] []) _
    refine XS.iloadN X0.here hx rfl (hb hby d8_0) rfl ?_
    show oP p e below s₁ (mkF m 1 #[oI p0] [(.int p0)]) _
    refine XS.bipush X0.here hx rfl (hb hby d8_1) ?_
    show oP p e below s₁ (mkF m 3 #[oI p0] [(.int (10 : Int32)), (.int p0)]) _
    refine XS.iushr X0.here hx rfl (hb hby d8_3) rfl ?_
    show oP p e below s₁ (mkF m 4 #[oI p0] [(.int ((p0.toUInt32 >>> ((10 : Int32) &&& 31).toUInt32).toInt32))]) _
    refine XS.sipush X0.here hx rfl (hb hby d8_4) ?_
    show oP p e below s₁ (mkF m 7 #[oI p0] [(.int (255 : Int32)), (.int ((p0.toUInt32 >>> ((10 : Int32) &&& 31).toUInt32).toInt32))]) _
    refine XS.iand X0.here hx rfl (hb hby d8_7) rfl ?_
    show oP p e below s₁ (mkF m 8 #[oI p0] [(.int (((p0.toUInt32 >>> ((10 : Int32) &&& 31).toUInt32).toInt32) &&& (255 : Int32)))]) _
    exact retI X0 hx Bd.returns (hb hby d8_8) hr
  · show (some (.int (((p0.toUInt32 >>> ((10 : Int32) &&& 31).toUInt32).toInt32) &&& (255 : Int32))) : Option Value) = some (.int (fn8 Z p0)) ∧ Fr n0 _ ∧ s₁.heap = h0
    rw [e0]
    refine ⟨?_, N0, rfl⟩
    rfl
theorem rng_rem3 (k : Int32) : ((k &&& (3 : Int32)) - ((k &&& (3 : Int32)) / (3 : Int32)) * (3 : Int32)) = (0 : Int32) ∨ ((k &&& (3 : Int32)) - ((k &&& (3 : Int32)) / (3 : Int32)) * (3 : Int32)) = (1 : Int32) ∨ ((k &&& (3 : Int32)) - ((k &&& (3 : Int32)) / (3 : Int32)) * (3 : Int32)) = (2 : Int32) := by
  have h := own_rem (own_and_le k 3 (by decide)).1 (y := 3) (by decide)
  have h5 : (3 : Int32).toInt = 3 := by decide
  rw [h5] at h
  obtain ⟨j, hj, e⟩ := own_mem (n := 3) (i := ((k &&& (3 : Int32)) - ((k &&& (3 : Int32)) / (3 : Int32)) * (3 : Int32))) (by omega) (by omega)
  rw [e]
  match j, hj with
  | 0, _ => decide
  | 1, _ => decide
  | 2, _ => decide
theorem rng_mask1 (k : Int32) : (k &&& (1 : Int32)) = (0 : Int32) ∨ (k &&& (1 : Int32)) = (1 : Int32) := by
  have h := own_and_le k 1 (by decide)
  obtain ⟨j, hj, e⟩ := own_mem (n := 2) h.1 (Int.lt_of_le_of_lt h.2 (by decide))
  rw [e]
  match j, hj with
  | 0, _ => decide
  | 1, _ => decide
theorem rng_mask3 (k : Int32) : (k &&& (3 : Int32)) = (0 : Int32) ∨ (k &&& (3 : Int32)) = (1 : Int32) ∨ (k &&& (3 : Int32)) = (2 : Int32) ∨ (k &&& (3 : Int32)) = (3 : Int32) := by
  have h := own_and_le k 3 (by decide)
  obtain ⟨j, hj, e⟩ := own_mem (n := 4) h.1 (Int.lt_of_le_of_lt h.2 (by decide))
  rw [e]
  match j, hj with
  | 0, _ => decide
  | 1, _ => decide
  | 2, _ => decide
  | 3, _ => decide
def strcs (p0 : Int32) : List Int32 :=
  if ((p0 &&& (3 : Int32)) - ((p0 &&& (3 : Int32)) / (3 : Int32)) * (3 : Int32)) = (0 : Int32) then [] else if ((p0 &&& (3 : Int32)) - ((p0 &&& (3 : Int32)) / (3 : Int32)) * (3 : Int32)) = (1 : Int32) then [(((p0.toUInt32 >>> ((2 : Int32) &&& 31).toUInt32).toInt32) &&& (255 : Int32))] else [(((p0.toUInt32 >>> ((2 : Int32) &&& 31).toUInt32).toInt32) &&& (255 : Int32)), (((p0.toUInt32 >>> ((10 : Int32) &&& 31).toUInt32).toInt32) &&& (255 : Int32))]
theorem strcs_hp (p0 : Int32) : ∀ c ∈ strcs p0, ¬ c < 0 ∧ ¬ (255 : Int32) < c := by
  intro c hc
  unfold strcs at hc
  split at hc
  · cases hc
  · split at hc
    · rw [List.mem_singleton] at hc; exact own_char hc
    · rcases List.mem_cons.mp hc with h | hc
      · exact own_char h
      · rw [List.mem_singleton] at hc; exact own_char hc
theorem strcs_len (p0 : Int32) : (strcs p0).length ≤ 4000 := by
  unfold strcs
  split
  · simp
  · split <;> simp
theorem strcs_e {Z : State} {h : Heap} {t : Addr} {k : ClassId} {p0 : Int32} (q : ((p0 &&& (3 : Int32)) - ((p0 &&& (3 : Int32)) / (3 : Int32)) * (3 : Int32)) = (0 : Int32)) (A : Arv Z h t k .byte 0 [] (.int 0)) : Arv Z h t k .byte (Int32.ofNat (strcs p0).length) (((strcs p0).map (fun c => c.toInt8.toInt32)).map Value.int) (.int 0) := by
  unfold strcs
  rw [if_pos q]
  exact A
theorem strcs_1 {Z : State} {h : Heap} {t : Addr} {k : ClassId} {p0 : Int32} {c : Int32} (q : ¬ ((p0 &&& (3 : Int32)) - ((p0 &&& (3 : Int32)) / (3 : Int32)) * (3 : Int32)) = (0 : Int32)) (q1 : ((p0 &&& (3 : Int32)) - ((p0 &&& (3 : Int32)) / (3 : Int32)) * (3 : Int32)) = (1 : Int32)) (ec : c = (((p0.toUInt32 >>> ((2 : Int32) &&& 31).toUInt32).toInt32) &&& (255 : Int32))) (A : Arv Z h t k .byte 1 [.int ((c.toInt8.toInt32).toInt8.toInt32)] (.int 0)) : Arv Z h t k .byte (Int32.ofNat (strcs p0).length) (((strcs p0).map (fun c => c.toInt8.toInt32)).map Value.int) (.int 0) := by
  unfold strcs
  rw [if_neg q, if_pos q1, ← ec]
  rw [own_i8] at A
  exact A
theorem strcs_2 {Z : State} {h : Heap} {t : Addr} {k : ClassId} {p0 : Int32} {c d : Int32} (q : ¬ ((p0 &&& (3 : Int32)) - ((p0 &&& (3 : Int32)) / (3 : Int32)) * (3 : Int32)) = (0 : Int32)) (q1 : ¬ ((p0 &&& (3 : Int32)) - ((p0 &&& (3 : Int32)) / (3 : Int32)) * (3 : Int32)) = (1 : Int32)) (ec : c = (((p0.toUInt32 >>> ((2 : Int32) &&& 31).toUInt32).toInt32) &&& (255 : Int32))) (ed : d = (((p0.toUInt32 >>> ((10 : Int32) &&& 31).toUInt32).toInt32) &&& (255 : Int32))) (A : Arv Z h t k .byte 2 ((([c, d] : List Int32).map (fun c => c.toInt8.toInt32)).map Value.int) (.int 0)) : Arv Z h t k .byte (Int32.ofNat (strcs p0).length) (((strcs p0).map (fun c => c.toInt8.toInt32)).map Value.int) (.int 0) := by
  unfold strcs
  rw [if_neg q, if_neg q1, ← ec, ← ed]
  exact A
theorem d2_0 : decode method_7_code 0 = .ok (.iload_n 0, 1) := by decide +kernel
theorem d2_1 : decode method_7_code 1 = .ok (.invokestatic 45, 3) := by decide +kernel
theorem pd_3 : parseMethodDescriptor "(I)I" = some ⟨[.int], some .int⟩ := by decide +kernel
theorem d2_4 : decode method_7_code 4 = .ok (.istore_n 1, 1) := by decide +kernel
theorem d2_5 : decode method_7_code 5 = .ok (.iload_n 1, 1) := by decide +kernel
theorem d2_6 : decode method_7_code 6 = .ok (.ifCond .ne 6, 3) := by decide +kernel
theorem d2_9 : decode method_7_code 9 = .ok (.ldc 49, 2) := by decide +kernel
theorem d2_11 : decode method_7_code 11 = .ok (.areturn, 1) := by decide +kernel
theorem d2_12 : decode method_7_code 12 = .ok (.iload_n 1, 1) := by decide +kernel
theorem d2_13 : decode method_7_code 13 = .ok (.iconst 1, 1) := by decide +kernel
theorem d2_14 : decode method_7_code 14 = .ok (.if_icmp .ne 12, 3) := by decide +kernel
theorem d2_17 : decode method_7_code 17 = .ok (.iload_n 0, 1) := by decide +kernel
theorem d2_18 : decode method_7_code 18 = .ok (.invokestatic 51, 3) := by decide +kernel
theorem d2_21 : decode method_7_code 21 = .ok (.i2c, 1) := by decide +kernel
theorem d2_22 : decode method_7_code 22 = .ok (.invokestatic 54, 3) := by decide +kernel
theorem pd_4 : parseMethodDescriptor "(C)Ljava/lang/String;" = some ⟨[.char], some (.object "java/lang/String")⟩ := by decide +kernel
theorem d2_25 : decode method_7_code 25 = .ok (.areturn, 1) := by decide +kernel
theorem d2_26 : decode method_7_code 26 = .ok (.iconst 2, 1) := by decide +kernel
theorem d2_27 : decode method_7_code 27 = .ok (.newarray .char, 2) := by decide +kernel
theorem d2_29 : decode method_7_code 29 = .ok (.astore_n 2, 1) := by decide +kernel
theorem d2_30 : decode method_7_code 30 = .ok (.aload_n 2, 1) := by decide +kernel
theorem d2_31 : decode method_7_code 31 = .ok (.iconst 0, 1) := by decide +kernel
theorem d2_32 : decode method_7_code 32 = .ok (.iload_n 0, 1) := by decide +kernel
theorem d2_33 : decode method_7_code 33 = .ok (.invokestatic 51, 3) := by decide +kernel
theorem d2_36 : decode method_7_code 36 = .ok (.i2c, 1) := by decide +kernel
theorem d2_37 : decode method_7_code 37 = .ok (.castore, 1) := by decide +kernel
theorem d2_38 : decode method_7_code 38 = .ok (.aload_n 2, 1) := by decide +kernel
theorem d2_39 : decode method_7_code 39 = .ok (.iconst 1, 1) := by decide +kernel
theorem d2_40 : decode method_7_code 40 = .ok (.iload_n 0, 1) := by decide +kernel
theorem d2_41 : decode method_7_code 41 = .ok (.invokestatic 60, 3) := by decide +kernel
theorem d2_44 : decode method_7_code 44 = .ok (.i2c, 1) := by decide +kernel
theorem d2_45 : decode method_7_code 45 = .ok (.castore, 1) := by decide +kernel
theorem d2_46 : decode method_7_code 46 = .ok (.new 55, 3) := by decide +kernel
theorem d2_49 : decode method_7_code 49 = .ok (.dup, 1) := by decide +kernel
theorem d2_50 : decode method_7_code 50 = .ok (.aload_n 2, 1) := by decide +kernel
theorem d2_51 : decode method_7_code 51 = .ok (.invokespecial 63, 3) := by decide +kernel
theorem pd_5 : parseMethodDescriptor "([C)V" = some ⟨[(.array .char)], none⟩ := by decide +kernel
theorem d2_54 : decode method_7_code 54 = .ok (.areturn, 1) := by decide +kernel
theorem ef_2 (m : MethodId) (x0 : Int32) : entryFrame m #[(.int x0)] 3 = mkF m 0 #[.val (.int x0), .unset, .unset] [] := by first | (simp [entryFrame, mkF, argsToLocals, Value.category]; done) | rfl
set_option maxRecDepth 65536 in
set_option maxHeartbeats 40000000 in
theorem rm2 (l : Launch) (Z : State) (a0 : Array Value) (hw : ∀ d ∈ tables_1, d.before a0 Z = true) (hS : St Z) (ws : List Jvm.Cond) (p0 : Int32) (h0 : Heap) (n0 : Nat) (O0 : Old Z n0 h0) :
    MetFree l (⟨"com/example/meerkat/meerkat/ExpansionFileEqualsPinLaw", "str", "(I)Ljava/lang/String;"⟩ : MethodName) (head1 (Jvm.Cond.code (⟨"com/example/meerkat/meerkat/ExpansionFileEqualsPinLaw", "str", "(I)Ljava/lang/String;"⟩ : MethodName) method_7_code 3 (some (.object "java/lang/String")) :: ws) ({ frames := 4, cells := 3, slots := 8, locals := 66 } : Room)) (fun a U => a = #[(.int p0)] ∧ Z.Warmed39 U.vm ∧ U.heap = h0 ∧ CHv Z own_EL U.vm h0) (fun _ _ _ _ _ => True) (fun _ U o U' => ∃ v L, o = .returned v ∧ own_Q (fun v hE L => ∃ (b : Addr), ∃ (t : Addr), ∃ (kt : ClassId), v = some (.ref b) ∧ Fr n0 L ∧ Keep h0 hE [] ∧ Exa Z hE b "java/lang/String" ∧ Fld Z hE b "java/lang/String" "coder" "B" (.int (0 : Int32)) ∧ Fld Z hE b "java/lang/String" "value" "[B" (.ref t) ∧ Arv Z hE t kt .byte (Int32.ofNat (strcs p0).length) (((strcs p0).map (fun c => c.toInt8.toInt32)).map Value.int) (.int (0 : Int32))) v U'.heap L ∧ CHr Z own_EL U.vm U.heap U'.vm U'.heap ∧ ReturnedEndW U o U' L ({ frames := 4, cells := 3, slots := 8, locals := 66 } : Room).cells ({ frames := 4, cells := 3, slots := 8, locals := 66 } : Room).slots) := by
  refine MetFree.of_bodySF (plainFor_of_name pn_2) hisR ?_
  intro p e s m args below meth c s₁ Bd hml0 hP hK
  obtain ⟨rfl, hZ, hh, hCH⟩ := hP
  have hx := Bd.exec
  have hby := Bd.bytes
  have hml : c.maxLocals = 3 := hml0
  have hown : s.vm.findClass "com/example/meerkat/meerkat/ExpansionFileEqualsPinLaw" = some m.cls := findClass_of_methodNamed Bd.named
  have hnm := (name_of_methodNamed Bd.named Bd.method).1
  have X0 : Stand p l e ({ frames := 4, cells := 3, slots := 8, locals := 66 } : Room) (s.setVm s.vm) m #[(.int p0)] below meth c s₁ [] 0 0 := Stand.of_body Bd
  have e0 : s₁.heap = h0 := by rw [← hh, Bd.state]; rfl
  have N0 := Fr.nil n0
  have pre0 : ∀ t, Steps p.tables e below (s₁.setTop (mkF m 0 #[oI p0, oU, oU] [])) t → Steps p.tables e below (s₁.setTop (entryFrame m #[(.int p0)] 3)) t := fun t k => castTop (ef_2 m p0) k
  have hSi : s.Since s.vm 0 := own_since s
  have hki0 : 0 ≤ h0.size := Nat.zero_le _
  have hC0 : CHr Z own_EL s.vm h0 s.vm h0 := CHr.refl hCH
  obtain ⟨_, _, ⟨T25, L25, k25, n25⟩, -, X25, ⟨Lc25, hQ25, l25, y25, z25⟩, st25⟩ := Jvm.LawKit.callS X0 hx (y := (⟨"com/example/meerkat/meerkat/ExpansionFileEqualsPinLaw", "len", "(I)I"⟩ : MethodName)) hown (mvT hZ (hw _ (List.mem_of_getElem? (i := 14) rfl))) (mvT hZ (hw _ (List.mem_of_getElem? (i := 15) rfl))) (mvT hZ (hw _ (List.mem_of_getElem? (i := 6) rfl))) (mvT hZ (hw _ (List.mem_of_getElem? (i := 16) rfl))) (by decide) (backOf (W := 0) (rm3 l Z a0 hw hS [] p0 h0 n0 O0) hZ (hw _ (List.mem_of_getElem? (i := 16) rfl)) (hw _ (List.mem_of_getElem? (i := 6) rfl)) (by decide) (by decide)) (g := (mkF m 1 #[oI p0, oU, oU] [(.int p0)])) rfl (by rw [hml]; rfl) (argsL := [(.int p0)]) (rest := []) (lenOf pd_3 rfl) rfl (by show 2 * 0 + _ ≤ _; exact Nat.le_of_eq rfl) (hb hby d2_1) (fun _ _ => ⟨rfl, e0, (by decide : 0 + 0 ≤ _), (by decide : 0 + 0 ≤ _)⟩)
  dsimp only [Pt.U, Pt.locs, Pt.cells, Pt.slots] at X25 l25 y25 z25 st25 hQ25
  subst l25 y25 z25
  obtain ⟨v25, N25q, h25q⟩ := hQ25
  have w25 : (fn3 Z p0) = ((p0 &&& (3 : Int32)) - ((p0 &&& (3 : Int32)) / (3 : Int32)) * (3 : Int32)) := rfl
  rw [w25] at v25
  subst v25
  have N25 := Fr.app N0 N25q
  have pre26 : ∀ t, oP p e below T25 (mkF m 6 #[oI p0, oI ((p0 &&& (3 : Int32)) - ((p0 &&& (3 : Int32)) / (3 : Int32)) * (3 : Int32)), oU] [(.int ((p0 &&& (3 : Int32)) - ((p0 &&& (3 : Int32)) / (3 : Int32)) * (3 : Int32)))]) t → oP p e below s₁ (entryFrame m #[(.int p0)] 3) t := fun t k => pre0 t (by
    show oP p e below s₁ (mkF m 0 #[oI p0, oU, oU] []) _
    refine XS.iloadN X0.here hx rfl (hb hby d2_0) rfl ?_
    show oP p e below s₁ (mkF m 1 #[oI p0, oU, oU] [(.int p0)]) _
    refine st25 _ ?_
    show oP p e below T25 (mkF m 4 #[oI p0, oU, oU] [(.int ((p0 &&& (3 : Int32)) - ((p0 &&& (3 : Int32)) / (3 : Int32)) * (3 : Int32)))]) _
    refine XS.istoreN X25.here hx rfl (hb hby d2_4) rfl (l' := #[oI p0, oI ((p0 &&& (3 : Int32)) - ((p0 &&& (3 : Int32)) / (3 : Int32)) * (3 : Int32)), oU]) rfl ?_
    show oP p e below T25 (mkF m 5 #[oI p0, oI ((p0 &&& (3 : Int32)) - ((p0 &&& (3 : Int32)) / (3 : Int32)) * (3 : Int32)), oU] []) _
    refine XS.iloadN X25.here hx rfl (hb hby d2_5) rfl ?_
    exact k)
  by_cases hc27 : ((p0 &&& (3 : Int32)) - ((p0 &&& (3 : Int32)) / (3 : Int32)) * (3 : Int32)) = (0 : Int32)
  · obtain ⟨b28, T28, h28, kk28, tb28, kb28, X28, e28, E28, hSi, hki28, hZ, hown, xE28, xC28, xV28, xA28, -, -, hC28, -, -, st28⟩ := ldcCH X25 hx hZ hown (hw _ (List.mem_of_getElem? (i := 17) rfl)) (own_wS hw) h25q hSi hki0 (own_EW hw) (List.mem_of_getElem? (i := 0) rfl) hC0.1 (vs := []) (z := 0) own_e0 (by decide) rfl (g := (mkF m 9 #[oI p0, oI ((p0 &&& (3 : Int32)) - ((p0 &&& (3 : Int32)) / (3 : Int32)) * (3 : Int32)), oU] [])) rfl (hb hby d2_9) (n := 0) (by decide) (by decide) (by decide) (by decide)
    have O28 := O0.ext E28
    have Kc28 := (Keep.refl h0 []).ext E28
    obtain ⟨fs, hr, hrun, hended, hRW⟩ := Stand.leaveW X28 hSi (by rw [e28]; exact hki28) (v := some (.ref b28)) (fun h => by rw [Bd.returns] at h; cases h)
    refine ⟨_, _, pre26 _ ?_, hrun, hended, _, _, rfl, ?_, ?_, own_rwmono hRW (by decide) (by decide)⟩
    · show oP p e below T25 (mkF m 6 #[oI p0, oI ((p0 &&& (3 : Int32)) - ((p0 &&& (3 : Int32)) / (3 : Int32)) * (3 : Int32)), oU] [(.int ((p0 &&& (3 : Int32)) - ((p0 &&& (3 : Int32)) / (3 : Int32)) * (3 : Int32)))]) _
      refine XS.ifNo X25.here hx rfl (hb hby d2_6) rfl ((if0 _ _).trans (teq hc27).2) ?_
      show oP p e below T25 (mkF m 9 #[oI p0, oI ((p0 &&& (3 : Int32)) - ((p0 &&& (3 : Int32)) / (3 : Int32)) * (3 : Int32)), oU] []) _
      refine st28 _ ?_
      show oP p e below T28 (mkF m 11 #[oI p0, oI ((p0 &&& (3 : Int32)) - ((p0 &&& (3 : Int32)) / (3 : Int32)) * (3 : Int32)), oU] [(.ref b28)]) _
      exact own_retA X28 hx Bd.returns rfl rfl (hb hby d2_11) hr
    · show ∃ (b : Addr), ∃ (t : Addr), ∃ (kt : ClassId), (some (.ref b28) : Option Value) = some (.ref b) ∧ Fr n0 _ ∧ Keep h0 T28.heap [] ∧ Exa Z T28.heap b "java/lang/String" ∧ Fld Z T28.heap b "java/lang/String" "coder" "B" (.int (0 : Int32)) ∧ Fld Z T28.heap b "java/lang/String" "value" "[B" (.ref t) ∧ Arv Z T28.heap t kt .byte (Int32.ofNat (strcs p0).length) (((strcs p0).map (fun c => c.toInt8.toInt32)).map Value.int) (.int (0 : Int32))
      rw [e28]
      exact ⟨b28, tb28, kb28, rfl, N25, Kc28, xE28, xC28, xV28, (strcs_e hc27 xA28)⟩
    · show CHr Z own_EL s.vm s.heap T28.vm T28.heap
      rw [e28]
      rw [hh]
      have hc29 := (hC0.trans hC28)
      exact own_cend X28 hZ (own_EW hw) hc29
  · have pre30 : ∀ t, oP p e below T25 (mkF m 14 #[oI p0, oI ((p0 &&& (3 : Int32)) - ((p0 &&& (3 : Int32)) / (3 : Int32)) * (3 : Int32)), oU] [(.int (1 : Int32)), (.int ((p0 &&& (3 : Int32)) - ((p0 &&& (3 : Int32)) / (3 : Int32)) * (3 : Int32)))]) t → oP p e below s₁ (entryFrame m #[(.int p0)] 3) t := fun t k => pre26 t (by
      show oP p e below T25 (mkF m 6 #[oI p0, oI ((p0 &&& (3 : Int32)) - ((p0 &&& (3 : Int32)) / (3 : Int32)) * (3 : Int32)), oU] [(.int ((p0 &&& (3 : Int32)) - ((p0 &&& (3 : Int32)) / (3 : Int32)) * (3 : Int32)))]) _
      refine XS.ifYes X25.here hx rfl (pc0 := 6) (pc' := 12) rfl (hb hby d2_6) rfl ((if0 _ _).trans (feq hc27).2) (by decide) (by decide) ?_
      show oP p e below T25 (mkF m 12 #[oI p0, oI ((p0 &&& (3 : Int32)) - ((p0 &&& (3 : Int32)) / (3 : Int32)) * (3 : Int32)), oU] []) _
      refine XS.iloadN X25.here hx rfl (hb hby d2_12) rfl ?_
      show oP p e below T25 (mkF m 13 #[oI p0, oI ((p0 &&& (3 : Int32)) - ((p0 &&& (3 : Int32)) / (3 : Int32)) * (3 : Int32)), oU] [(.int ((p0 &&& (3 : Int32)) - ((p0 &&& (3 : Int32)) / (3 : Int32)) * (3 : Int32)))]) _
      refine XS.iconst X25.here hx rfl (hb hby d2_13) ?_
      exact k)
    by_cases hc31 : ((p0 &&& (3 : Int32)) - ((p0 &&& (3 : Int32)) / (3 : Int32)) * (3 : Int32)) = (1 : Int32)
    · obtain ⟨_, _, ⟨T32, L32, k32, n32⟩, -, X32, ⟨Lc32, hQ32, l32, y32, z32⟩, st32⟩ := Jvm.LawKit.callS X25 hx (y := (⟨"com/example/meerkat/meerkat/ExpansionFileEqualsPinLaw", "c0", "(I)I"⟩ : MethodName)) hown (mvT hZ (hw _ (List.mem_of_getElem? (i := 51) rfl))) (mvT hZ (hw _ (List.mem_of_getElem? (i := 52) rfl))) (mvT hZ (hw _ (List.mem_of_getElem? (i := 6) rfl))) (mvT hZ (hw _ (List.mem_of_getElem? (i := 53) rfl))) (by decide) (backOf (W := 0) (rm7 l Z a0 hw hS [] p0 h0 n0 O0) hZ (hw _ (List.mem_of_getElem? (i := 53) rfl)) (hw _ (List.mem_of_getElem? (i := 6) rfl)) (by decide) (by decide)) (g := (mkF m 18 #[oI p0, oI ((p0 &&& (3 : Int32)) - ((p0 &&& (3 : Int32)) / (3 : Int32)) * (3 : Int32)), oU] [(.int p0)])) rfl (by rw [hml]; rfl) (argsL := [(.int p0)]) (rest := []) (lenOf pd_3 rfl) rfl (by show 2 * 0 + _ ≤ _; exact Nat.le_of_eq rfl) (hb hby d2_18) (fun _ _ => ⟨rfl, h25q, (by decide : 0 + 0 ≤ _), (by decide : 0 + 0 ≤ _)⟩)
      dsimp only [Pt.U, Pt.locs, Pt.cells, Pt.slots] at X32 l32 y32 z32 st32 hQ32
      subst l32 y32 z32
      obtain ⟨v32, N32q, h32q⟩ := hQ32
      have w32 : (fn7 Z p0) = (((p0.toUInt32 >>> ((2 : Int32) &&& 31).toUInt32).toInt32) &&& (255 : Int32)) := rfl
      rw [w32] at v32
      subst v32
      have N32 := Fr.app N25 N32q
      obtain ⟨cv, hcv⟩ : ∃ z, z = ((((p0.toUInt32 >>> ((2 : Int32) &&& 31).toUInt32).toInt32) &&& (255 : Int32)).toUInt32.toUInt16.toUInt32.toInt32) := ⟨_, rfl⟩
      have ecv : cv = (((p0.toUInt32 >>> ((2 : Int32) &&& 31).toUInt32).toInt32) &&& (255 : Int32)) := hcv.trans (i2c_mask _)
      have rcv := own_char ecv
      obtain ⟨_, _, ⟨T33, L33, k33, n33⟩, -, X33, ⟨Lc33, hQ33, l33, y33, z33⟩, st33⟩ := Jvm.LawKit.callS X32 hx (y := (⟨"java/lang/String", "valueOf", "(C)Ljava/lang/String;"⟩ : MethodName)) hown (mvT hZ (hw _ (List.mem_of_getElem? (i := 78) rfl))) (mvT hZ (hw _ (List.mem_of_getElem? (i := 79) rfl))) (mvT hZ (hw _ (List.mem_of_getElem? (i := 18) rfl))) (mvT hZ (hw _ (List.mem_of_getElem? (i := 80) rfl))) (by decide) (backOf (W := 0) (rm14 l Z a0 hw hS [] cv h0 n0 O0 rcv.2) hZ (hw _ (List.mem_of_getElem? (i := 80) rfl)) (hw _ (List.mem_of_getElem? (i := 18) rfl)) (by decide) (by decide)) (g := (mkF m 22 #[oI p0, oI ((p0 &&& (3 : Int32)) - ((p0 &&& (3 : Int32)) / (3 : Int32)) * (3 : Int32)), oU] [(.int cv)])) rfl (by rw [hml]; rfl) (argsL := [(.int cv)]) (rest := []) (lenOf pd_4 rfl) rfl (by show 2 * 0 + _ ≤ _; exact Nat.le_of_eq rfl) (hb hby d2_22) (fun _ _ => ⟨rfl, h32q, (by decide : 0 + 2 ≤ _), (by decide : 0 + 5 ≤ _)⟩)
      dsimp only [Pt.U, Pt.locs, Pt.cells, Pt.slots] at X33 l33 y33 z33 st33 hQ33
      subst l33 y33 z33
      obtain ⟨b_33, t_33, kt_33, v33, N33q, K33q, po33_0, po33_1, po33_2, po33_3, po33_4, po33_5⟩ := hQ33
      subst v33
      have N33 := Fr.app N32 N33q
      have O33 := O0.keep K33q all0
      have Kc33 := (Keep.refl h0 []).trans K33q all0
      have g_b_33 : n0 ≤ b_33 := Nat.le_trans (own_old_le O0) po33_0
      have sz_b_33 : h0.size ≤ b_33 := Nat.le_trans (Keep.refl h0 []).1 po33_0
      have g_t_33 : n0 ≤ t_33 := Nat.le_trans (own_old_le O0) po33_1
      have sz_t_33 : h0.size ≤ t_33 := Nat.le_trans (Keep.refl h0 []).1 po33_1
      have fx34 := (Nat.le_trans hki0 K33q.1)
      obtain ⟨fs, hr, hrun, hended, hRW⟩ := Stand.leaveW X33 hSi fx34 (v := some (.ref b_33)) (fun h => by rw [Bd.returns] at h; cases h)
      refine ⟨_, _, pre30 _ ?_, hrun, hended, _, _, rfl, ?_, ?_, own_rwmono hRW (by decide) (by decide)⟩
      · show oP p e below T25 (mkF m 14 #[oI p0, oI ((p0 &&& (3 : Int32)) - ((p0 &&& (3 : Int32)) / (3 : Int32)) * (3 : Int32)), oU] [(.int (1 : Int32)), (.int ((p0 &&& (3 : Int32)) - ((p0 &&& (3 : Int32)) / (3 : Int32)) * (3 : Int32)))]) _
        refine XS.icmpNo X25.here hx rfl (hb hby d2_14) rfl (teq hc31).2 ?_
        show oP p e below T25 (mkF m 17 #[oI p0, oI ((p0 &&& (3 : Int32)) - ((p0 &&& (3 : Int32)) / (3 : Int32)) * (3 : Int32)), oU] []) _
        refine XS.iloadN X25.here hx rfl (hb hby d2_17) rfl ?_
        show oP p e below T25 (mkF m 18 #[oI p0, oI ((p0 &&& (3 : Int32)) - ((p0 &&& (3 : Int32)) / (3 : Int32)) * (3 : Int32)), oU] [(.int p0)]) _
        refine st32 _ ?_
        show oP p e below T32 (mkF m 21 #[oI p0, oI ((p0 &&& (3 : Int32)) - ((p0 &&& (3 : Int32)) / (3 : Int32)) * (3 : Int32)), oU] [(.int (((p0.toUInt32 >>> ((2 : Int32) &&& 31).toUInt32).toInt32) &&& (255 : Int32)))]) _
        refine XS.i2c X32.here hx rfl (hb hby d2_21) rfl ?_
        show oP p e below T32 (mkF m 22 #[oI p0, oI ((p0 &&& (3 : Int32)) - ((p0 &&& (3 : Int32)) / (3 : Int32)) * (3 : Int32)), oU] [(.int ((((p0.toUInt32 >>> ((2 : Int32) &&& 31).toUInt32).toInt32) &&& (255 : Int32)).toUInt32.toUInt16.toUInt32.toInt32))]) _
        rw [← hcv]
        show oP p e below T32 (mkF m 22 #[oI p0, oI ((p0 &&& (3 : Int32)) - ((p0 &&& (3 : Int32)) / (3 : Int32)) * (3 : Int32)), oU] [(.int cv)]) _
        refine st33 _ ?_
        show oP p e below T33 (mkF m 25 #[oI p0, oI ((p0 &&& (3 : Int32)) - ((p0 &&& (3 : Int32)) / (3 : Int32)) * (3 : Int32)), oU] [(.ref b_33)]) _
        exact own_retA X33 hx Bd.returns rfl rfl (hb hby d2_25) hr
      · show ∃ (b : Addr), ∃ (t : Addr), ∃ (kt : ClassId), (some (.ref b_33) : Option Value) = some (.ref b) ∧ Fr n0 _ ∧ Keep h0 T33.heap [] ∧ Exa Z T33.heap b "java/lang/String" ∧ Fld Z T33.heap b "java/lang/String" "coder" "B" (.int (0 : Int32)) ∧ Fld Z T33.heap b "java/lang/String" "value" "[B" (.ref t) ∧ Arv Z T33.heap t kt .byte (Int32.ofNat (strcs p0).length) (((strcs p0).map (fun c => c.toInt8.toInt32)).map Value.int) (.int (0 : Int32))
        exact ⟨b_33, t_33, kt_33, rfl, N33, Kc33, po33_2, po33_3, po33_4, (strcs_1 hc27 hc31 ecv po33_5)⟩
      · show CHr Z own_EL s.vm s.heap T33.vm T33.heap
        rw [hh]
        exact own_cend X33 hZ (own_EW hw) (own_ckeep hC0 Kc33)
    · obtain ⟨T35, h35, k35, X35, e35, E35, A35, st35⟩ := newP X25 hx hZ (hw _ (List.mem_of_getElem? (i := 50) rfl)) h25q (g := (mkF m 27 #[oI p0, oI ((p0 &&& (3 : Int32)) - ((p0 &&& (3 : Int32)) / (3 : Int32)) * (3 : Int32)), oU] [(.int (2 : Int32))])) rfl (hb hby d2_27) rfl (by decide) (cap := 2) (by decide) (by decide) (by decide) (by decide)
      obtain ⟨b35, g35⟩ : ∃ z, z = h0.size := ⟨_, rfl⟩
      have g_b35 : n0 ≤ b35 := Nat.le_trans (own_old_le O0) (Nat.le_of_eq g35.symm)
      have sz_b35 : h0.size ≤ b35 := Nat.le_trans (Keep.refl h0 []).1 (Nat.le_of_eq g35.symm)
      rw [← g35] at A35 st35
      have O35 := O0.ext E35
      have Kc35 := (Keep.refl h0 []).ext E35
      have V35 : Arv Z h35 b35 k35 .char (2 : Int32) [(.int (0 : Int32)), (.int (0 : Int32))] (.int (0 : Int32)) := (Arv.new A35 (by decide)).pad (pad_rep [] (.int (0 : Int32)) 2)
      obtain ⟨_, _, ⟨T36, L36, k36, n36⟩, -, X36, ⟨Lc36, hQ36, l36, y36, z36⟩, st36⟩ := Jvm.LawKit.callS X35 hx (y := (⟨"com/example/meerkat/meerkat/ExpansionFileEqualsPinLaw", "c0", "(I)I"⟩ : MethodName)) hown (mvT hZ (hw _ (List.mem_of_getElem? (i := 51) rfl))) (mvT hZ (hw _ (List.mem_of_getElem? (i := 52) rfl))) (mvT hZ (hw _ (List.mem_of_getElem? (i := 6) rfl))) (mvT hZ (hw _ (List.mem_of_getElem? (i := 53) rfl))) (by decide) (backOf (W := 2) (rm7 l Z a0 hw hS [] p0 h35 n0 O35) hZ (hw _ (List.mem_of_getElem? (i := 53) rfl)) (hw _ (List.mem_of_getElem? (i := 6) rfl)) (by decide) (by decide)) (g := (mkF m 33 #[oI p0, oI ((p0 &&& (3 : Int32)) - ((p0 &&& (3 : Int32)) / (3 : Int32)) * (3 : Int32)), oR b35] [(.int p0), (.int (0 : Int32)), (.ref b35)])) rfl (by rw [hml]; rfl) (argsL := [(.int p0)]) (rest := [(.int (0 : Int32)), (.ref b35)]) (lenOf pd_3 rfl) rfl (by show 2 * 0 + _ ≤ _; exact Nat.le_of_eq rfl) (hb hby d2_33) (fun _ _ => ⟨rfl, e35, (by decide : 1 + 0 ≤ _), (by decide : 2 + 0 ≤ _)⟩)
      dsimp only [Pt.U, Pt.locs, Pt.cells, Pt.slots] at X36 l36 y36 z36 st36 hQ36
      subst l36 y36 z36
      obtain ⟨v36, N36q, h36q⟩ := hQ36
      have w36 : (fn7 Z p0) = (((p0.toUInt32 >>> ((2 : Int32) &&& 31).toUInt32).toInt32) &&& (255 : Int32)) := rfl
      rw [w36] at v36
      subst v36
      have N36 := Fr.app N25 N36q
      obtain ⟨ca, hca⟩ : ∃ z, z = ((((p0.toUInt32 >>> ((2 : Int32) &&& 31).toUInt32).toInt32) &&& (255 : Int32)).toUInt32.toUInt16.toUInt32.toInt32) := ⟨_, rfl⟩
      have eca : ca = (((p0.toUInt32 >>> ((2 : Int32) &&& 31).toUInt32).toInt32) &&& (255 : Int32)) := hca.trans (i2c_mask _)
      have rca := own_char eca
      obtain ⟨T37, h37, X37, e37, W37, V37', st37⟩ := own_stC X36 hx hZ h36q V35 (j := (0 : Int32)) ⟨by decide, by decide⟩ rfl (by decide : ((0 : Int32) : Int32).toNatClampNeg < 2) (g := (mkF m 37 #[oI p0, oI ((p0 &&& (3 : Int32)) - ((p0 &&& (3 : Int32)) / (3 : Int32)) * (3 : Int32)), oR b35] [(.int ca), (.int (0 : Int32)), (.ref b35)])) rfl rfl (hb hby d2_37)
      rw [own_narc rca] at W37 V37'
      have N37 := Fr.snoc X37 N36 g_b35
      have O37 := O35.wr W37 g_b35
      have Kc37 := Kc35.wr W37 (Or.inr sz_b35)
      have V37 : Arv Z h37 b35 k35 .char (2 : Int32) [(.int ca), (.int (0 : Int32))] (.int (0 : Int32)) := V37'
      obtain ⟨_, _, ⟨T38, L38, k38, n38⟩, -, X38, ⟨Lc38, hQ38, l38, y38, z38⟩, st38⟩ := Jvm.LawKit.callS X37 hx (y := (⟨"com/example/meerkat/meerkat/ExpansionFileEqualsPinLaw", "c1", "(I)I"⟩ : MethodName)) hown (mvT hZ (hw _ (List.mem_of_getElem? (i := 54) rfl))) (mvT hZ (hw _ (List.mem_of_getElem? (i := 55) rfl))) (mvT hZ (hw _ (List.mem_of_getElem? (i := 6) rfl))) (mvT hZ (hw _ (List.mem_of_getElem? (i := 56) rfl))) (by decide) (backOf (W := 2) (rm8 l Z a0 hw hS [] p0 h37 n0 O37) hZ (hw _ (List.mem_of_getElem? (i := 56) rfl)) (hw _ (List.mem_of_getElem? (i := 6) rfl)) (by decide) (by decide)) (g := (mkF m 41 #[oI p0, oI ((p0 &&& (3 : Int32)) - ((p0 &&& (3 : Int32)) / (3 : Int32)) * (3 : Int32)), oR b35] [(.int p0), (.int (1 : Int32)), (.ref b35)])) rfl (by rw [hml]; rfl) (argsL := [(.int p0)]) (rest := [(.int (1 : Int32)), (.ref b35)]) (lenOf pd_3 rfl) rfl (by show 2 * 0 + _ ≤ _; exact Nat.le_of_eq rfl) (hb hby d2_41) (fun _ _ => ⟨rfl, e37, (by decide : 1 + 0 ≤ _), (by decide : 2 + 0 ≤ _)⟩)
      dsimp only [Pt.U, Pt.locs, Pt.cells, Pt.slots] at X38 l38 y38 z38 st38 hQ38
      subst l38 y38 z38
      obtain ⟨v38, N38q, h38q⟩ := hQ38
      have w38 : (fn8 Z p0) = (((p0.toUInt32 >>> ((10 : Int32) &&& 31).toUInt32).toInt32) &&& (255 : Int32)) := rfl
      rw [w38] at v38
      subst v38
      have N38 := Fr.app N37 N38q
      obtain ⟨cb, hcb⟩ : ∃ z, z = ((((p0.toUInt32 >>> ((10 : Int32) &&& 31).toUInt32).toInt32) &&& (255 : Int32)).toUInt32.toUInt16.toUInt32.toInt32) := ⟨_, rfl⟩
      have ecb : cb = (((p0.toUInt32 >>> ((10 : Int32) &&& 31).toUInt32).toInt32) &&& (255 : Int32)) := hcb.trans (i2c_mask _)
      have rcb := own_char ecb
      obtain ⟨T39, h39, X39, e39, W39, V39', st39⟩ := own_stC X38 hx hZ h38q V37 (j := (1 : Int32)) ⟨by decide, by decide⟩ rfl (by decide : ((1 : Int32) : Int32).toNatClampNeg < 2) (g := (mkF m 45 #[oI p0, oI ((p0 &&& (3 : Int32)) - ((p0 &&& (3 : Int32)) / (3 : Int32)) * (3 : Int32)), oR b35] [(.int cb), (.int (1 : Int32)), (.ref b35)])) rfl rfl (hb hby d2_45)
      rw [own_narc rcb] at W39 V39'
      have N39 := Fr.snoc X39 N38 g_b35
      have O39 := O37.wr W39 g_b35
      have Kc39 := Kc37.wr W39 (Or.inr sz_b35)
      have V39 : Arv Z h39 b35 k35 .char (2 : Int32) [(.int ca), (.int cb)] (.int (0 : Int32)) := V39'
      obtain ⟨T40, h40, X40, e40, E40, A40, D40, -, st40⟩ := newO X39 hx hZ hown (hw _ (List.mem_of_getElem? (i := 57) rfl)) (hw _ (List.mem_of_getElem? (i := 19) rfl)) (hw _ (List.mem_of_getElem? (i := 18) rfl)) e39 (g := (mkF m 46 #[oI p0, oI ((p0 &&& (3 : Int32)) - ((p0 &&& (3 : Int32)) / (3 : Int32)) * (3 : Int32)), oR b35] [])) rfl (hb hby d2_46) (by decide) (by decide)
      obtain ⟨b40, g40⟩ : ∃ z, z = h39.size := ⟨_, rfl⟩
      have g_b40 : n0 ≤ b40 := Nat.le_trans (own_old_le O39) (Nat.le_of_eq g40.symm)
      have sz_b40 : h0.size ≤ b40 := Nat.le_trans Kc39.1 (Nat.le_of_eq g40.symm)
      have ne_b35_b40 : b35 ≠ b40 := Nat.ne_of_lt (Nat.lt_of_lt_of_le V39.lt (Nat.le_of_eq g40.symm))
      rw [← g40] at A40 D40 st40
      have O40 := O39.ext E40
      have Kc40 := Kc39.ext E40
      have F_value_b40 : Fld Z h40 b40 "java/lang/String" "value" "[B" .null := D40 (Or.inr (hw _ (List.mem_of_getElem? (i := 21) rfl))) (ty := (.array .byte)) (by decide)
      have F_coder_b40 : Fld Z h40 b40 "java/lang/String" "coder" "B" (.int (0 : Int32)) := D40 (Or.inr (hw _ (List.mem_of_getElem? (i := 22) rfl))) (ty := .byte) (by decide)
      obtain ⟨lo41, X41, N41⟩ := own_hide X40 N39
      have fx43 := (V39.ext E40)
      have hp44 : ∀ c ∈ ([ca, cb] : List Int32), ¬ c < 0 ∧ ¬ (255 : Int32) < c := by
        intro c hc
        simp only [List.mem_cons, List.not_mem_nil, or_false] at hc
        rcases hc with rfl | rfl
        · exact rca
        · exact rcb
      obtain ⟨_, _, ⟨T42, L42, k42, n42⟩, -, X42, ⟨Lc42, hQ42, l42, y42, z42⟩, st42⟩ := X41.specialBack hx (y := (⟨"java/lang/String", "<init>", "([C)V"⟩ : MethodName)) rfl hown (mvT hZ (hw _ (List.mem_of_getElem? (i := 58) rfl))) (mvT hZ (hw _ (List.mem_of_getElem? (i := 59) rfl))) (mvT hZ (hw _ (List.mem_of_getElem? (i := 60) rfl))) (by decide) (StrChars.Road.backV (W := 1) hZ (own_ws hw) (kI := 4) (hw _ (List.mem_of_getElem? (i := 19) rfl)) (cs := ([ca, cb] : List Int32)) (bs := (([ca, cb] : List Int32)).map (fun c => c.toInt8.toInt32)) (n := 2) g_b40 (own_old_le O40) A40 F_value_b40 F_coder_b40 fx43 ((s_compact hS).ext O40.2) (n_compact hS) rfl rfl (by decide) (by decide) hp44 rfl (by decide) (by decide)) (g := (mkF m 51 #[oI p0, oI ((p0 &&& (3 : Int32)) - ((p0 &&& (3 : Int32)) / (3 : Int32)) * (3 : Int32)), oR b35] [(.ref b35), (.ref b40), (.ref b40)])) rfl (by rw [hml]; rfl) (Steps.refl _) (a := b40) (argsL := [(.ref b35)]) (rest := [(.ref b40)]) (lenOf pd_5 rfl) rfl (by show 2 * 0 + _ ≤ _; exact Nat.le_of_eq rfl) (hb hby d2_51) (fun _ _ => ⟨rfl, e40, (by decide : 2 + 1 ≤ _), (by decide : 6 + 2 ≤ _)⟩)
      dsimp only [Pt.U, Pt.locs, Pt.cells, Pt.slots] at X42 l42 y42 z42 st42 hQ42
      subst l42 y42 z42
      obtain ⟨v42, N42q, K42q, pE42, pC42, t42, kt42, g_t42, hs42, ns42, pV42, pA42⟩ := hQ42
      subst v42
      have N42 := Fr.app N41 N42q
      have ne_b35_t42 : b35 ≠ t42 := Nat.ne_of_lt (Nat.lt_of_lt_of_le fx43.lt hs42)
      have ne_b40_t42 : b40 ≠ t42 := Nat.ne_of_lt (Nat.lt_of_lt_of_le A40.lt hs42)
      have sz_t42 : h0.size ≤ t42 := Nat.le_trans Kc40.1 hs42
      have O42 := O40.keep K42q (allS g_b40 all0)
      have Kc42 := Kc40.trans K42q (allS (Or.inr sz_b40) all0)
      have fx45 := (Nat.le_trans (Nat.le_trans (Nat.le_trans (Nat.le_trans (Nat.le_trans hki0 E35.1) (Keep.of_wr W37).1) (Keep.of_wr W39).1) E40.1) K42q.1)
      obtain ⟨fs, hr, hrun, hended, hRW⟩ := Stand.leaveW X42 hSi fx45 (v := some (.ref b40)) (fun h => by rw [Bd.returns] at h; cases h)
      refine ⟨_, _, pre30 _ ?_, hrun, hended, _, _, rfl, ?_, ?_, own_rwmono hRW (by decide) (by decide)⟩
      · show oP p e below T25 (mkF m 14 #[oI p0, oI ((p0 &&& (3 : Int32)) - ((p0 &&& (3 : Int32)) / (3 : Int32)) * (3 : Int32)), oU] [(.int (1 : Int32)), (.int ((p0 &&& (3 : Int32)) - ((p0 &&& (3 : Int32)) / (3 : Int32)) * (3 : Int32)))]) _
        refine XS.icmpYes X25.here hx rfl (pc0 := 14) (pc' := 26) rfl (hb hby d2_14) rfl (feq hc31).2 (by decide) (by decide) ?_
        show oP p e below T25 (mkF m 26 #[oI p0, oI ((p0 &&& (3 : Int32)) - ((p0 &&& (3 : Int32)) / (3 : Int32)) * (3 : Int32)), oU] []) _
        refine XS.iconst X25.here hx rfl (hb hby d2_26) ?_
        show oP p e below T25 (mkF m 27 #[oI p0, oI ((p0 &&& (3 : Int32)) - ((p0 &&& (3 : Int32)) / (3 : Int32)) * (3 : Int32)), oU] [(.int (2 : Int32))]) _
        refine st35 _ ?_
        show oP p e below T35 (mkF m 29 #[oI p0, oI ((p0 &&& (3 : Int32)) - ((p0 &&& (3 : Int32)) / (3 : Int32)) * (3 : Int32)), oU] [(.ref b35)]) _
        refine XS.astoreN X35.here hx rfl (hb hby d2_29) rfl rfl (l' := #[oI p0, oI ((p0 &&& (3 : Int32)) - ((p0 &&& (3 : Int32)) / (3 : Int32)) * (3 : Int32)), oR b35]) rfl ?_
        show oP p e below T35 (mkF m 30 #[oI p0, oI ((p0 &&& (3 : Int32)) - ((p0 &&& (3 : Int32)) / (3 : Int32)) * (3 : Int32)), oR b35] []) _
        refine XS.aloadN X35.here hx rfl (hb hby d2_30) rfl rfl ?_
        show oP p e below T35 (mkF m 31 #[oI p0, oI ((p0 &&& (3 : Int32)) - ((p0 &&& (3 : Int32)) / (3 : Int32)) * (3 : Int32)), oR b35] [(.ref b35)]) _
        refine XS.iconst X35.here hx rfl (hb hby d2_31) ?_
        show oP p e below T35 (mkF m 32 #[oI p0, oI ((p0 &&& (3 : Int32)) - ((p0 &&& (3 : Int32)) / (3 : Int32)) * (3 : Int32)), oR b35] [(.int (0 : Int32)), (.ref b35)]) _
        refine XS.iloadN X35.here hx rfl (hb hby d2_32) rfl ?_
        show oP p e below T35 (mkF m 33 #[oI p0, oI ((p0 &&& (3 : Int32)) - ((p0 &&& (3 : Int32)) / (3 : Int32)) * (3 : Int32)), oR b35] [(.int p0), (.int (0 : Int32)), (.ref b35)]) _
        refine st36 _ ?_
        show oP p e below T36 (mkF m 36 #[oI p0, oI ((p0 &&& (3 : Int32)) - ((p0 &&& (3 : Int32)) / (3 : Int32)) * (3 : Int32)), oR b35] [(.int (((p0.toUInt32 >>> ((2 : Int32) &&& 31).toUInt32).toInt32) &&& (255 : Int32))), (.int (0 : Int32)), (.ref b35)]) _
        refine XS.i2c X36.here hx rfl (hb hby d2_36) rfl ?_
        show oP p e below T36 (mkF m 37 #[oI p0, oI ((p0 &&& (3 : Int32)) - ((p0 &&& (3 : Int32)) / (3 : Int32)) * (3 : Int32)), oR b35] [(.int ((((p0.toUInt32 >>> ((2 : Int32) &&& 31).toUInt32).toInt32) &&& (255 : Int32)).toUInt32.toUInt16.toUInt32.toInt32)), (.int (0 : Int32)), (.ref b35)]) _
        rw [← hca]
        show oP p e below T36 (mkF m 37 #[oI p0, oI ((p0 &&& (3 : Int32)) - ((p0 &&& (3 : Int32)) / (3 : Int32)) * (3 : Int32)), oR b35] [(.int ca), (.int (0 : Int32)), (.ref b35)]) _
        refine st37 _ ?_
        show oP p e below T37 (mkF m 38 #[oI p0, oI ((p0 &&& (3 : Int32)) - ((p0 &&& (3 : Int32)) / (3 : Int32)) * (3 : Int32)), oR b35] []) _
        refine XS.aloadN X37.here hx rfl (hb hby d2_38) rfl rfl ?_
        show oP p e below T37 (mkF m 39 #[oI p0, oI ((p0 &&& (3 : Int32)) - ((p0 &&& (3 : Int32)) / (3 : Int32)) * (3 : Int32)), oR b35] [(.ref b35)]) _
        refine XS.iconst X37.here hx rfl (hb hby d2_39) ?_
        show oP p e below T37 (mkF m 40 #[oI p0, oI ((p0 &&& (3 : Int32)) - ((p0 &&& (3 : Int32)) / (3 : Int32)) * (3 : Int32)), oR b35] [(.int (1 : Int32)), (.ref b35)]) _
        refine XS.iloadN X37.here hx rfl (hb hby d2_40) rfl ?_
        show oP p e below T37 (mkF m 41 #[oI p0, oI ((p0 &&& (3 : Int32)) - ((p0 &&& (3 : Int32)) / (3 : Int32)) * (3 : Int32)), oR b35] [(.int p0), (.int (1 : Int32)), (.ref b35)]) _
        refine st38 _ ?_
        show oP p e below T38 (mkF m 44 #[oI p0, oI ((p0 &&& (3 : Int32)) - ((p0 &&& (3 : Int32)) / (3 : Int32)) * (3 : Int32)), oR b35] [(.int (((p0.toUInt32 >>> ((10 : Int32) &&& 31).toUInt32).toInt32) &&& (255 : Int32))), (.int (1 : Int32)), (.ref b35)]) _
        refine XS.i2c X38.here hx rfl (hb hby d2_44) rfl ?_
        show oP p e below T38 (mkF m 45 #[oI p0, oI ((p0 &&& (3 : Int32)) - ((p0 &&& (3 : Int32)) / (3 : Int32)) * (3 : Int32)), oR b35] [(.int ((((p0.toUInt32 >>> ((10 : Int32) &&& 31).toUInt32).toInt32) &&& (255 : Int32)).toUInt32.toUInt16.toUInt32.toInt32)), (.int (1 : Int32)), (.ref b35)]) _
        rw [← hcb]
        show oP p e below T38 (mkF m 45 #[oI p0, oI ((p0 &&& (3 : Int32)) - ((p0 &&& (3 : Int32)) / (3 : Int32)) * (3 : Int32)), oR b35] [(.int cb), (.int (1 : Int32)), (.ref b35)]) _
        refine st39 _ ?_
        show oP p e below T39 (mkF m 46 #[oI p0, oI ((p0 &&& (3 : Int32)) - ((p0 &&& (3 : Int32)) / (3 : Int32)) * (3 : Int32)), oR b35] []) _
        refine st40 _ ?_
        show oP p e below T40 (mkF m 49 #[oI p0, oI ((p0 &&& (3 : Int32)) - ((p0 &&& (3 : Int32)) / (3 : Int32)) * (3 : Int32)), oR b35] [(.ref b40)]) _
        refine XS.dup X40.here hx rfl (hb hby d2_49) rfl rfl ?_
        show oP p e below T40 (mkF m 50 #[oI p0, oI ((p0 &&& (3 : Int32)) - ((p0 &&& (3 : Int32)) / (3 : Int32)) * (3 : Int32)), oR b35] [(.ref b40), (.ref b40)]) _
        refine XS.aloadN X40.here hx rfl (hb hby d2_50) rfl rfl ?_
        show oP p e below T40 (mkF m 51 #[oI p0, oI ((p0 &&& (3 : Int32)) - ((p0 &&& (3 : Int32)) / (3 : Int32)) * (3 : Int32)), oR b35] [(.ref b35), (.ref b40), (.ref b40)]) _
        refine st42.trans ?_
        show oP p e below T42 (mkF m 54 #[oI p0, oI ((p0 &&& (3 : Int32)) - ((p0 &&& (3 : Int32)) / (3 : Int32)) * (3 : Int32)), oR b35] [(.ref b40)]) _
        exact own_retA X42 hx Bd.returns rfl rfl (hb hby d2_54) hr
      · show ∃ (b : Addr), ∃ (t : Addr), ∃ (kt : ClassId), (some (.ref b40) : Option Value) = some (.ref b) ∧ Fr n0 _ ∧ Keep h0 T42.heap [] ∧ Exa Z T42.heap b "java/lang/String" ∧ Fld Z T42.heap b "java/lang/String" "coder" "B" (.int (0 : Int32)) ∧ Fld Z T42.heap b "java/lang/String" "value" "[B" (.ref t) ∧ Arv Z T42.heap t kt .byte (Int32.ofNat (strcs p0).length) (((strcs p0).map (fun c => c.toInt8.toInt32)).map Value.int) (.int (0 : Int32))
        exact ⟨b40, t42, kt42, rfl, N42, Kc42, pE42, pC42, pV42, (strcs_2 hc27 hc31 eca ecb pA42)⟩
      · show CHr Z own_EL s.vm s.heap T42.vm T42.heap
        rw [hh]
        exact own_cend X42 hZ (own_EW hw) (own_ckeep hC0 Kc42)
theorem d6_0 : decode jdk_31_method_11_code 0 = .ok (.aload_n 0, 1) := by decide +kernel
theorem d6_1 : decode jdk_31_method_11_code 1 = .ok (.ifnonnull 12, 3) := by decide +kernel
theorem d6_13 : decode jdk_31_method_11_code 13 = .ok (.aload_n 0, 1) := by decide +kernel
theorem d6_14 : decode jdk_31_method_11_code 14 = .ok (.areturn, 1) := by decide +kernel
def fn6 (Z : State) (r0 : Addr) (r1 : Addr) : Addr :=
  r0
theorem ef_6 (m : MethodId) (x0 : Addr) (x1 : Addr) : entryFrame m #[(.ref x0), (.ref x1)] 2 = mkF m 0 #[.val (.ref x0), .val (.ref x1)] [] := by first | (simp [entryFrame, mkF, argsToLocals, Value.category]; done) | rfl
theorem pn_3 : plainName "java/util/Objects" = true := by first | (simp [plainName, overriddenIn]; done) | decide +kernel
set_option maxRecDepth 65536 in
set_option maxHeartbeats 40000000 in
theorem rm6 (l : Launch) (Z : State) (a0 : Array Value) (hw : ∀ d ∈ tables_1, d.before a0 Z = true) (hS : St Z) (ws : List Jvm.Cond) (r0 : Addr) (r1 : Addr) (h0 : Heap) (n0 : Nat) (O0 : Old Z n0 h0) :
    MetFree l (⟨"java/util/Objects", "requireNonNull", "(Ljava/lang/Object;Ljava/lang/String;)Ljava/lang/Object;"⟩ : MethodName) (head1 (Jvm.Cond.code (⟨"java/util/Objects", "requireNonNull", "(Ljava/lang/Object;Ljava/lang/String;)Ljava/lang/Object;"⟩ : MethodName) jdk_31_method_11_code 2 (some (.object "java/lang/Object")) :: ws) ({ frames := 0, cells := 0, slots := 0, locals := 0 } : Room)) (fun a U => a = #[(.ref r0), (.ref r1)] ∧ Z.Warmed39 U.vm ∧ U.heap = h0) (fun _ _ _ _ _ => True) (fun _ U o U' => ∃ v L, o = .returned v ∧ own_Q (fun v hE L => v = some (.ref (fn6 Z r0 r1)) ∧ Fr n0 L ∧ Keep h0 hE []) v U'.heap L ∧ FrameEnd U o U' L ({ frames := 0, cells := 0, slots := 0, locals := 0 } : Room).cells ({ frames := 0, cells := 0, slots := 0, locals := 0 } : Room).slots) := by
  refine MetFree.of_bodySF (plainFor_of_name pn_3) hisR ?_
  intro p e s m args below meth c s₁ Bd hml0 hP hK
  obtain ⟨rfl, hZ, hh⟩ := hP
  have hx := Bd.exec
  have hby := Bd.bytes
  have hml : c.maxLocals = 2 := hml0
  have hown : s.vm.findClass "java/util/Objects" = some m.cls := findClass_of_methodNamed Bd.named
  have hnm := (name_of_methodNamed Bd.named Bd.method).1
  have X0 : Stand p l e ({ frames := 0, cells := 0, slots := 0, locals := 0 } : Room) s m #[(.ref r0), (.ref r1)] below meth c s₁ [] 0 0 := Stand.of_body Bd
  have e0 : s₁.heap = h0 := by rw [← hh, Bd.state]; rfl
  have N0 := Fr.nil n0
  have pre0 : ∀ t, Steps p.tables e below (s₁.setTop (mkF m 0 #[oR r0, oR r1] [])) t → Steps p.tables e below (s₁.setTop (entryFrame m #[(.ref r0), (.ref r1)] 2)) t := fun t k => castTop (ef_6 m r0 r1) k
  obtain ⟨fs, hr, hrun, hended, hW, hsame⟩ := X0.leave (v := some (.ref r0)) (fun h => by rw [Bd.returns] at h; cases h)
  refine ⟨_, _, pre0 _ ?_, hrun, hended, _, _, rfl, ?_, ⟨_, rfl⟩, hW, hsame.mono (by decide) (by decide)⟩
  · show oP p e below s₁ (mkF m 0 #[oR r0, oR r1] []) _
    refine XS.aloadN X0.here hx rfl (hb hby d6_0) rfl rfl ?_
    show oP p e below s₁ (mkF m 1 #[oR r0, oR r1] [(.ref r0)]) _
    refine XS.ifnonnullYes X0.here hx rfl (pc0 := 1) (pc' := 13) rfl (hb hby d6_1) rfl (by decide) (by decide) ?_
    show oP p e below s₁ (mkF m 13 #[oR r0, oR r1] []) _
    refine XS.aloadN X0.here hx rfl (hb hby d6_13) rfl rfl ?_
    show oP p e below s₁ (mkF m 14 #[oR r0, oR r1] [(.ref r0)]) _
    exact own_retA X0 hx Bd.returns rfl rfl (hb hby d6_14) hr
  · show (some (.ref r0) : Option Value) = some (.ref (fn6 Z r0 r1)) ∧ Fr n0 _ ∧ Keep h0 s₁.heap []
    rw [e0]
    refine ⟨?_, N0, (Keep.refl h0 [])⟩
    rfl
theorem d4_0 : decode prog_17_method_1_code 0 = .ok (.aload_n 0, 1) := by decide +kernel
theorem d4_1 : decode prog_17_method_1_code 1 = .ok (.invokespecial 1, 3) := by decide +kernel
theorem d4_4 : decode prog_17_method_1_code 4 = .ok (.aload_n 0, 1) := by decide +kernel
theorem d4_5 : decode prog_17_method_1_code 5 = .ok (.aload_n 1, 1) := by decide +kernel
theorem d4_6 : decode prog_17_method_1_code 6 = .ok (.ldc 7, 2) := by decide +kernel
theorem d4_8 : decode prog_17_method_1_code 8 = .ok (.invokestatic 9, 3) := by decide +kernel
theorem pd_6 : parseMethodDescriptor "(Ljava/lang/Object;Ljava/lang/String;)Ljava/lang/Object;" = some ⟨[(.object "java/lang/Object"), (.object "java/lang/String")], some (.object "java/lang/Object")⟩ := by decide +kernel
theorem d4_11 : decode prog_17_method_1_code 11 = .ok (.checkcast 15, 3) := by decide +kernel
theorem d4_14 : decode prog_17_method_1_code 14 = .ok (.putfield 17, 3) := by decide +kernel
theorem d4_17 : decode prog_17_method_1_code 17 = .ok (.aload_n 0, 1) := by decide +kernel
theorem d4_18 : decode prog_17_method_1_code 18 = .ok (.aload_n 2, 1) := by decide +kernel
theorem d4_19 : decode prog_17_method_1_code 19 = .ok (.ldc 22, 2) := by decide +kernel
theorem d4_21 : decode prog_17_method_1_code 21 = .ok (.invokestatic 9, 3) := by decide +kernel
theorem d4_24 : decode prog_17_method_1_code 24 = .ok (.checkcast 24, 3) := by decide +kernel
theorem d4_27 : decode prog_17_method_1_code 27 = .ok (.putfield 26, 3) := by decide +kernel
theorem d4_30 : decode prog_17_method_1_code 30 = .ok (.aload_n 0, 1) := by decide +kernel
theorem d4_31 : decode prog_17_method_1_code 31 = .ok (.aload_n 3, 1) := by decide +kernel
theorem d4_32 : decode prog_17_method_1_code 32 = .ok (.ldc 29, 2) := by decide +kernel
theorem d4_34 : decode prog_17_method_1_code 34 = .ok (.invokestatic 9, 3) := by decide +kernel
theorem d4_37 : decode prog_17_method_1_code 37 = .ok (.checkcast 24, 3) := by decide +kernel
theorem d4_40 : decode prog_17_method_1_code 40 = .ok (.putfield 31, 3) := by decide +kernel
theorem d4_43 : decode prog_17_method_1_code 43 = .ok (.aload_n 0, 1) := by decide +kernel
theorem d4_44 : decode prog_17_method_1_code 44 = .ok (.lload 4, 2) := by decide +kernel
theorem d4_46 : decode prog_17_method_1_code 46 = .ok (.putfield 33, 3) := by decide +kernel
theorem d4_49 : decode prog_17_method_1_code 49 = .ok (.return_, 1) := by decide +kernel
theorem ef_4 (m : MethodId) (x0 : Addr) (x1 : Addr) (x2 : Addr) (x3 : Addr) (x4 : Int64) : entryFrame m #[(.ref x0), (.ref x1), (.ref x2), (.ref x3), (.long x4)] 6 = mkF m 0 #[.val (.ref x0), .val (.ref x1), .val (.ref x2), .val (.ref x3), .val (.long x4), .second] [] := by first | (simp [entryFrame, mkF, argsToLocals, Value.category]; done) | rfl
theorem pn_4 : plainName "com/example/meerkat/meerkat/ExpansionFile" = true := by first | (simp [plainName, overriddenIn]; done) | decide +kernel
set_option maxRecDepth 65536 in
set_option maxHeartbeats 40000000 in
theorem rm4 (l : Launch) (Z : State) (a0 : Array Value) (hw : ∀ d ∈ tables_1, d.before a0 Z = true) (hS : St Z) (ws : List Jvm.Cond) (r0 : Addr) (r1 : Addr) (r2 : Addr) (r3 : Addr) (q4 : Int64) (h0 : Heap) (n0 : Nat) (O0 : Old Z n0 h0) (E_r0 : Exa Z h0 r0 "com/example/meerkat/meerkat/ExpansionFile") (F_kind_r0 : Fld Z h0 r0 "com/example/meerkat/meerkat/ExpansionFile" "kind" "Lcom/example/meerkat/meerkat/ExpansionFile$Kind;" .null) (F_url_r0 : Fld Z h0 r0 "com/example/meerkat/meerkat/ExpansionFile" "url" "Ljava/lang/String;" .null) (F_fileName_r0 : Fld Z h0 r0 "com/example/meerkat/meerkat/ExpansionFile" "fileName" "Ljava/lang/String;" .null) (F_size_r0 : Fld Z h0 r0 "com/example/meerkat/meerkat/ExpansionFile" "size" "J" (.long (0 : Int64))) (g_r0 : n0 ≤ r0) (E_r1 : Exa Z h0 r1 "com/example/meerkat/meerkat/ExpansionFile$Kind") (E_r2 : Exa Z h0 r2 "java/lang/String") (E_r3 : Exa Z h0 r3 "java/lang/String") :
    MetFree l (⟨"com/example/meerkat/meerkat/ExpansionFile", "<init>", "(Lcom/example/meerkat/meerkat/ExpansionFile$Kind;Ljava/lang/String;Ljava/lang/String;J)V"⟩ : MethodName) (head1 (Jvm.Cond.code (⟨"com/example/meerkat/meerkat/ExpansionFile", "<init>", "(Lcom/example/meerkat/meerkat/ExpansionFile$Kind;Ljava/lang/String;Ljava/lang/String;J)V"⟩ : MethodName) prog_17_method_1_code 6 none :: ws) ({ frames := 1, cells := 6, slots := 72, locals := 14 } : Room)) (fun a U => a = #[(.ref r0), (.ref r1), (.ref r2), (.ref r3), (.long q4)] ∧ Z.Warmed39 U.vm ∧ U.heap = h0 ∧ CHv Z own_EL U.vm h0) (fun _ _ _ _ _ => True) (fun _ U o U' => ∃ v L, o = .returned v ∧ own_Q (fun v hE L => v = none ∧ Fr n0 L ∧ Keep h0 hE [r0] ∧ Exa Z hE r0 "com/example/meerkat/meerkat/ExpansionFile" ∧ Fld Z hE r0 "com/example/meerkat/meerkat/ExpansionFile" "kind" "Lcom/example/meerkat/meerkat/ExpansionFile$Kind;" (.ref r1) ∧ Fld Z hE r0 "com/example/meerkat/meerkat/ExpansionFile" "url" "Ljava/lang/String;" (.ref r2) ∧ Fld Z hE r0 "com/example/meerkat/meerkat/ExpansionFile" "fileName" "Ljava/lang/String;" (.ref r3) ∧ Fld Z hE r0 "com/example/meerkat/meerkat/ExpansionFile" "size" "J" (.long q4)) v U'.heap L ∧ CHr Z own_EL U.vm U.heap U'.vm U'.heap ∧ ReturnedEndW U o U' L ({ frames := 1, cells := 6, slots := 72, locals := 14 } : Room).cells ({ frames := 1, cells := 6, slots := 72, locals := 14 } : Room).slots) := by
  refine MetFree.of_bodySF (plainFor_of_name pn_4) hisR ?_
  intro p e s m args below meth c s₁ Bd hml0 hP hK
  obtain ⟨rfl, hZ, hh, hCH⟩ := hP
  have hx := Bd.exec
  have hby := Bd.bytes
  have hml : c.maxLocals = 6 := hml0
  have hown : s.vm.findClass "com/example/meerkat/meerkat/ExpansionFile" = some m.cls := findClass_of_methodNamed Bd.named
  have hnm := (name_of_methodNamed Bd.named Bd.method).1
  have X0 : Stand p l e ({ frames := 1, cells := 6, slots := 72, locals := 14 } : Room) (s.setVm s.vm) m #[(.ref r0), (.ref r1), (.ref r2), (.ref r3), (.long q4)] below meth c s₁ [] 0 0 := Stand.of_body Bd
  have e0 : s₁.heap = h0 := by rw [← hh, Bd.state]; rfl
  have N0 := Fr.nil n0
  have pre0 : ∀ t, Steps p.tables e below (s₁.setTop (mkF m 0 #[oR r0, oR r1, oR r2, oR r3, oJ q4, oS] [])) t → Steps p.tables e below (s₁.setTop (entryFrame m #[(.ref r0), (.ref r1), (.ref r2), (.ref r3), (.long q4)] 6)) t := fun t k => castTop (ef_4 m r0 r1 r2 r3 q4) k
  have hSi : s.Since s.vm 0 := own_since s
  have hki0 : 0 ≤ h0.size := Nat.zero_le _
  have hC0 : CHr Z own_EL s.vm h0 s.vm h0 := CHr.refl hCH
  obtain ⟨T46, X46, e46, st46⟩ := initO X0 hx hZ hown (hw _ (List.mem_of_getElem? (i := 28) rfl)) (hw _ (List.mem_of_getElem? (i := 29) rfl)) (hw _ (List.mem_of_getElem? (i := 30) rfl)) e0 (g := (mkF m 1 #[oR r0, oR r1, oR r2, oR r3, oJ q4, oS] [(.ref r0)])) rfl (by rw [hml]; rfl) rfl (hb hby d4_1) (by decide) (W := 0) (by show 2 * 0 + _ ≤ _; exact Nat.le_of_eq rfl) (by decide)
  obtain ⟨b47, T47, h47, kk47, X47, e47, E47, hSi, hki47, hZ, hown, hC47, -, st47⟩ := ldcOH X46 hx hZ hown (hw _ (List.mem_of_getElem? (i := 31) rfl)) (own_wS hw) e46 hSi hki0 (own_EW hw) hC0.1 (g := (mkF m 6 #[oR r0, oR r1, oR r2, oR r3, oJ q4, oS] [(.ref r1), (.ref r0)])) rfl (hb hby d4_6) (n := 16) (by decide) (by decide) (by decide) (by decide)
  have O47 := O0.ext E47
  have Kc47 := (Keep.refl h0 [r0]).ext E47
  obtain ⟨_, _, ⟨T48, L48, k48, n48⟩, -, X48, ⟨Lc48, hQ48, l48, y48, z48⟩, st48⟩ := Jvm.LawKit.callS X47 hx (y := (⟨"java/util/Objects", "requireNonNull", "(Ljava/lang/Object;Ljava/lang/String;)Ljava/lang/Object;"⟩ : MethodName)) hown (mvT hZ (hw _ (List.mem_of_getElem? (i := 32) rfl))) (mvT hZ (hw _ (List.mem_of_getElem? (i := 33) rfl))) (mvT hZ (hw _ (List.mem_of_getElem? (i := 34) rfl))) (mvT hZ (hw _ (List.mem_of_getElem? (i := 35) rfl))) (by decide) (backOf (W := 1) (rm6 l Z a0 hw hS [] r1 b47 h47 n0 O47 ) hZ (hw _ (List.mem_of_getElem? (i := 35) rfl)) (hw _ (List.mem_of_getElem? (i := 34) rfl)) (by decide) (by decide)) (g := (mkF m 8 #[oR r0, oR r1, oR r2, oR r3, oJ q4, oS] [(.ref b47), (.ref r1), (.ref r0)])) rfl (by rw [hml]; rfl) (argsL := [(.ref r1), (.ref b47)]) (rest := [(.ref r0)]) (lenOf pd_6 rfl) rfl (by show 2 * 0 + _ ≤ _; exact Nat.le_of_eq rfl) (hb hby d4_8) (fun _ _ => ⟨rfl, e47, (by decide : 2 + 0 ≤ _), (by decide : 20 + 0 ≤ _)⟩)
  dsimp only [Pt.U, Pt.locs, Pt.cells, Pt.slots] at X48 l48 y48 z48 st48 hQ48
  subst l48 y48 z48
  obtain ⟨v48, N48q, K48q⟩ := hQ48
  have w48 : (fn6 Z r1 b47) = r1 := rfl
  rw [w48] at v48
  subst v48
  have N48 := Fr.app N0 N48q
  have O48 := O47.keep K48q all0
  have Kc48 := Kc47.trans K48q all0
  have fx49 := ((E_r1.ext E47).keep K48q)
  obtain ⟨T50, X50, e50, st50⟩ := castY X48 hx hZ hown (hw _ (List.mem_of_getElem? (i := 36) rfl)) rfl (Ins.of_exa fx49 (hw _ (List.mem_of_getElem? (i := 37) rfl))) (g := (mkF m 11 #[oR r0, oR r1, oR r2, oR r3, oJ q4, oS] [(.ref r1), (.ref r0)])) rfl rfl (hb hby d4_11)
  have fx51 := ((E_r0.ext E47).keep K48q)
  have fx52 := ((F_kind_r0.ext E47).keep K48q nin0)
  obtain ⟨T53, h53, X53, e53, W53, st53⟩ := putF X50 hx hZ hown (host := "") (Or.inl (hw _ (List.mem_of_getElem? (i := 38) rfl))) Via.refl e50 fx52 fx51 (Or.inr ⟨(hw _ (List.mem_of_getElem? (i := 39) rfl)), rfl, hnm⟩) (hw _ (List.mem_of_getElem? (i := 2) rfl)) (ty := (.object "com/example/meerkat/meerkat/ExpansionFile$Kind")) (by decide) rfl rfl (g := (mkF m 14 #[oR r0, oR r1, oR r2, oR r3, oJ q4, oS] [(.ref r1), (.ref r0)])) rfl rfl (hb hby d4_14)
  have hc54 := (own_ckeep (hC0.trans hC47) K48q)
  have N53 := Fr.snoc X53 N48 g_r0
  have O53 := O48.wr W53 g_r0
  have Kc53 := Kc48.wr W53 (Or.inl (List.mem_of_getElem? (i := 0) rfl))
  have C53 := own_cwr hc54 W53 (Safe.exa hZ.alike fx51 (by decide) (by decide))
  have Fw53 := fx52.same W53
  have fx56 := (Nat.le_trans (Nat.le_trans hki47 K48q.1) (Keep.of_wr W53).1)
  obtain ⟨b55, T55, h55, kk55, X55, e55, E55, hSi, hki55, hZ, hown, hC55, -, st55⟩ := ldcOH X53 hx hZ hown (hw _ (List.mem_of_getElem? (i := 40) rfl)) (own_wS hw) e53 hSi fx56 (own_EW hw) C53.1 (g := (mkF m 19 #[oR r0, oR r1, oR r2, oR r3, oJ q4, oS] [(.ref r2), (.ref r0)])) rfl (hb hby d4_19) (n := 12) (by decide) (by decide) (by decide) (by decide)
  have O55 := O53.ext E55
  have Kc55 := Kc53.ext E55
  obtain ⟨_, _, ⟨T57, L57, k57, n57⟩, -, X57, ⟨Lc57, hQ57, l57, y57, z57⟩, st57⟩ := Jvm.LawKit.callS X55 hx (y := (⟨"java/util/Objects", "requireNonNull", "(Ljava/lang/Object;Ljava/lang/String;)Ljava/lang/Object;"⟩ : MethodName)) hown (mvT hZ (hw _ (List.mem_of_getElem? (i := 32) rfl))) (mvT hZ (hw _ (List.mem_of_getElem? (i := 33) rfl))) (mvT hZ (hw _ (List.mem_of_getElem? (i := 34) rfl))) (mvT hZ (hw _ (List.mem_of_getElem? (i := 35) rfl))) (by decide) (backOf (W := 1) (rm6 l Z a0 hw hS [] r2 b55 h55 n0 O55 ) hZ (hw _ (List.mem_of_getElem? (i := 35) rfl)) (hw _ (List.mem_of_getElem? (i := 34) rfl)) (by decide) (by decide)) (g := (mkF m 21 #[oR r0, oR r1, oR r2, oR r3, oJ q4, oS] [(.ref b55), (.ref r2), (.ref r0)])) rfl (by rw [hml]; rfl) (argsL := [(.ref r2), (.ref b55)]) (rest := [(.ref r0)]) (lenOf pd_6 rfl) rfl (by show 2 * 0 + _ ≤ _; exact Nat.le_of_eq rfl) (hb hby d4_21) (fun _ _ => ⟨rfl, e55, (by decide : 4 + 0 ≤ _), (by decide : 36 + 0 ≤ _)⟩)
  dsimp only [Pt.U, Pt.locs, Pt.cells, Pt.slots] at X57 l57 y57 z57 st57 hQ57
  subst l57 y57 z57
  obtain ⟨v57, N57q, K57q⟩ := hQ57
  have w57 : (fn6 Z r2 b55) = r2 := rfl
  rw [w57] at v57
  subst v57
  have N57 := Fr.app N53 N57q
  have O57 := O55.keep K57q all0
  have Kc57 := Kc55.trans K57q all0
  have fx58 := (((((E_r2.ext E47).keep K48q).wr W53).ext E55).keep K57q)
  obtain ⟨T59, X59, e59, st59⟩ := castY X57 hx hZ hown (hw _ (List.mem_of_getElem? (i := 41) rfl)) rfl (Ins.of_exa fx58 (hw _ (List.mem_of_getElem? (i := 42) rfl))) (g := (mkF m 24 #[oR r0, oR r1, oR r2, oR r3, oJ q4, oS] [(.ref r2), (.ref r0)])) rfl rfl (hb hby d4_24)
  have fx60 := (((fx51.wr W53).ext E55).keep K57q)
  have fx61 := (((((F_url_r0.ext E47).keep K48q nin0).other W53 (Or.inr (slot_ne (Or.inr (hw _ (List.mem_of_getElem? (i := 44) rfl))) (Or.inr (hw _ (List.mem_of_getElem? (i := 39) rfl))) (by decide) (t := (.object "java/lang/String")) (t' := (.object "com/example/meerkat/meerkat/ExpansionFile$Kind")) (by decide) (by decide)))).ext E55).keep K57q nin0)
  obtain ⟨T62, h62, X62, e62, W62, st62⟩ := putF X59 hx hZ hown (host := "") (Or.inl (hw _ (List.mem_of_getElem? (i := 43) rfl))) Via.refl e59 fx61 fx60 (Or.inr ⟨(hw _ (List.mem_of_getElem? (i := 44) rfl)), rfl, hnm⟩) (hw _ (List.mem_of_getElem? (i := 2) rfl)) (ty := (.object "java/lang/String")) (by decide) rfl rfl (g := (mkF m 27 #[oR r0, oR r1, oR r2, oR r3, oJ q4, oS] [(.ref r2), (.ref r0)])) rfl rfl (hb hby d4_27)
  have hc63 := (own_ckeep (C53.trans hC55) K57q)
  have N62 := Fr.snoc X62 N57 g_r0
  have O62 := O57.wr W62 g_r0
  have Kc62 := Kc57.wr W62 (Or.inl (List.mem_of_getElem? (i := 0) rfl))
  have C62 := own_cwr hc63 W62 (Safe.exa hZ.alike fx60 (by decide) (by decide))
  have Fw62 := fx61.same W62
  have fx65 := (Nat.le_trans (Nat.le_trans hki55 K57q.1) (Keep.of_wr W62).1)
  obtain ⟨b64, T64, h64, kk64, X64, e64, E64, hSi, hki64, hZ, hown, hC64, -, st64⟩ := ldcOH X62 hx hZ hown (hw _ (List.mem_of_getElem? (i := 45) rfl)) (own_wS hw) e62 hSi fx65 (own_EW hw) C62.1 (g := (mkF m 32 #[oR r0, oR r1, oR r2, oR r3, oJ q4, oS] [(.ref r3), (.ref r0)])) rfl (hb hby d4_32) (n := 32) (by decide) (by decide) (by decide) (by decide)
  have O64 := O62.ext E64
  have Kc64 := Kc62.ext E64
  obtain ⟨lo66, X66, N66⟩ := own_hide X64 N62
  obtain ⟨_, _, ⟨T67, L67, k67, n67⟩, -, X67, ⟨Lc67, hQ67, l67, y67, z67⟩, st67⟩ := Jvm.LawKit.callS X66 hx (y := (⟨"java/util/Objects", "requireNonNull", "(Ljava/lang/Object;Ljava/lang/String;)Ljava/lang/Object;"⟩ : MethodName)) hown (mvT hZ (hw _ (List.mem_of_getElem? (i := 32) rfl))) (mvT hZ (hw _ (List.mem_of_getElem? (i := 33) rfl))) (mvT hZ (hw _ (List.mem_of_getElem? (i := 34) rfl))) (mvT hZ (hw _ (List.mem_of_getElem? (i := 35) rfl))) (by decide) (backOf (W := 1) (rm6 l Z a0 hw hS [] r3 b64 h64 n0 O64 ) hZ (hw _ (List.mem_of_getElem? (i := 35) rfl)) (hw _ (List.mem_of_getElem? (i := 34) rfl)) (by decide) (by decide)) (g := (mkF m 34 #[oR r0, oR r1, oR r2, oR r3, oJ q4, oS] [(.ref b64), (.ref r3), (.ref r0)])) rfl (by rw [hml]; rfl) (argsL := [(.ref r3), (.ref b64)]) (rest := [(.ref r0)]) (lenOf pd_6 rfl) rfl (by show 2 * 0 + _ ≤ _; exact Nat.le_of_eq rfl) (hb hby d4_34) (fun _ _ => ⟨rfl, e64, (by decide : 6 + 0 ≤ _), (by decide : 72 + 0 ≤ _)⟩)
  dsimp only [Pt.U, Pt.locs, Pt.cells, Pt.slots] at X67 l67 y67 z67 st67 hQ67
  subst l67 y67 z67
  obtain ⟨v67, N67q, K67q⟩ := hQ67
  have w67 : (fn6 Z r3 b64) = r3 := rfl
  rw [w67] at v67
  subst v67
  have N67 := Fr.app N66 N67q
  have O67 := O64.keep K67q all0
  have Kc67 := Kc64.trans K67q all0
  have fx68 := ((((((((E_r3.ext E47).keep K48q).wr W53).ext E55).keep K57q).wr W62).ext E64).keep K67q)
  obtain ⟨T69, X69, e69, st69⟩ := castY X67 hx hZ hown (hw _ (List.mem_of_getElem? (i := 41) rfl)) rfl (Ins.of_exa fx68 (hw _ (List.mem_of_getElem? (i := 42) rfl))) (g := (mkF m 37 #[oR r0, oR r1, oR r2, oR r3, oJ q4, oS] [(.ref r3), (.ref r0)])) rfl rfl (hb hby d4_37)
  have fx70 := (((fx60.wr W62).ext E64).keep K67q)
  have fx71 := ((((((((F_fileName_r0.ext E47).keep K48q nin0).other W53 (Or.inr (slot_ne (Or.inr (hw _ (List.mem_of_getElem? (i := 47) rfl))) (Or.inr (hw _ (List.mem_of_getElem? (i := 39) rfl))) (by decide) (t := (.object "java/lang/String")) (t' := (.object "com/example/meerkat/meerkat/ExpansionFile$Kind")) (by decide) (by decide)))).ext E55).keep K57q nin0).other W62 (Or.inr (slot_ne (Or.inr (hw _ (List.mem_of_getElem? (i := 47) rfl))) (Or.inr (hw _ (List.mem_of_getElem? (i := 44) rfl))) (by decide) (t := (.object "java/lang/String")) (t' := (.object "java/lang/String")) (by decide) (by decide)))).ext E64).keep K67q nin0)
  obtain ⟨T72, h72, X72, e72, W72, st72⟩ := putF X69 hx hZ hown (host := "") (Or.inl (hw _ (List.mem_of_getElem? (i := 46) rfl))) Via.refl e69 fx71 fx70 (Or.inr ⟨(hw _ (List.mem_of_getElem? (i := 47) rfl)), rfl, hnm⟩) (hw _ (List.mem_of_getElem? (i := 2) rfl)) (ty := (.object "java/lang/String")) (by decide) rfl rfl (g := (mkF m 40 #[oR r0, oR r1, oR r2, oR r3, oJ q4, oS] [(.ref r3), (.ref r0)])) rfl rfl (hb hby d4_40)
  have hc73 := (own_ckeep (C62.trans hC64) K67q)
  have N72 := Fr.snoc X72 N67 g_r0
  have O72 := O67.wr W72 g_r0
  have Kc72 := Kc67.wr W72 (Or.inl (List.mem_of_getElem? (i := 0) rfl))
  have C72 := own_cwr hc73 W72 (Safe.exa hZ.alike fx70 (by decide) (by decide))
  have Fw72 := fx71.same W72
  have fx74 := (fx70.wr W72)
  have fx75 := (((((((((F_size_r0.ext E47).keep K48q nin0).other W53 (Or.inr (slot_ne (Or.inr (hw _ (List.mem_of_getElem? (i := 49) rfl))) (Or.inr (hw _ (List.mem_of_getElem? (i := 39) rfl))) (by decide) (t := .long) (t' := (.object "com/example/meerkat/meerkat/ExpansionFile$Kind")) (by decide) (by decide)))).ext E55).keep K57q nin0).other W62 (Or.inr (slot_ne (Or.inr (hw _ (List.mem_of_getElem? (i := 49) rfl))) (Or.inr (hw _ (List.mem_of_getElem? (i := 44) rfl))) (by decide) (t := .long) (t' := (.object "java/lang/String")) (by decide) (by decide)))).ext E64).keep K67q nin0).other W72 (Or.inr (slot_ne (Or.inr (hw _ (List.mem_of_getElem? (i := 49) rfl))) (Or.inr (hw _ (List.mem_of_getElem? (i := 47) rfl))) (by decide) (t := .long) (t' := (.object "java/lang/String")) (by decide) (by decide))))
  obtain ⟨T76, h76, X76, e76, W76, st76⟩ := putF X72 hx hZ hown (host := "") (Or.inl (hw _ (List.mem_of_getElem? (i := 48) rfl))) Via.refl e72 fx75 fx74 (Or.inr ⟨(hw _ (List.mem_of_getElem? (i := 49) rfl)), rfl, hnm⟩) (hw _ (List.mem_of_getElem? (i := 2) rfl)) (ty := .long) (by decide) rfl rfl (g := (mkF m 46 #[oR r0, oR r1, oR r2, oR r3, oJ q4, oS] [(.long q4), (.ref r0)])) rfl rfl (hb hby d4_46)
  have N76 := Fr.snoc X76 N72 g_r0
  have O76 := O72.wr W76 g_r0
  have Kc76 := Kc72.wr W76 (Or.inl (List.mem_of_getElem? (i := 0) rfl))
  have C76 := own_cwr C72 W76 (Safe.exa hZ.alike fx74 (by decide) (by decide))
  have Fw76 := fx75.same W76
  have fx77 := (Nat.le_trans (Nat.le_trans (Nat.le_trans hki64 K67q.1) (Keep.of_wr W72).1) (Keep.of_wr W76).1)
  obtain ⟨fs, hr, hrun, hended, hRW⟩ := Stand.leaveW X76 hSi (by rw [e76]; exact fx77) (v := none) (fun _ => rfl)
  refine ⟨_, _, pre0 _ ?_, hrun, hended, _, _, rfl, ?_, ?_, own_rwmono hRW (by decide) (by decide)⟩
  · show oP p e below s₁ (mkF m 0 #[oR r0, oR r1, oR r2, oR r3, oJ q4, oS] []) _
    refine XS.aloadN X0.here hx rfl (hb hby d4_0) rfl rfl ?_
    show oP p e below s₁ (mkF m 1 #[oR r0, oR r1, oR r2, oR r3, oJ q4, oS] [(.ref r0)]) _
    refine st46 _ ?_
    show oP p e below T46 (mkF m 4 #[oR r0, oR r1, oR r2, oR r3, oJ q4, oS] []) _
    refine XS.aloadN X46.here hx rfl (hb hby d4_4) rfl rfl ?_
    show oP p e below T46 (mkF m 5 #[oR r0, oR r1, oR r2, oR r3, oJ q4, oS] [(.ref r0)]) _
    refine XS.aloadN X46.here hx rfl (hb hby d4_5) rfl rfl ?_
    show oP p e below T46 (mkF m 6 #[oR r0, oR r1, oR r2, oR r3, oJ q4, oS] [(.ref r1), (.ref r0)]) _
    refine st47 _ ?_
    show oP p e below T47 (mkF m 8 #[oR r0, oR r1, oR r2, oR r3, oJ q4, oS] [(.ref b47), (.ref r1), (.ref r0)]) _
    refine st48 _ ?_
    show oP p e below T48 (mkF m 11 #[oR r0, oR r1, oR r2, oR r3, oJ q4, oS] [(.ref r1), (.ref r0)]) _
    refine st50 _ ?_
    show oP p e below T50 (mkF m 14 #[oR r0, oR r1, oR r2, oR r3, oJ q4, oS] [(.ref r1), (.ref r0)]) _
    refine st53 _ ?_
    show oP p e below T53 (mkF m 17 #[oR r0, oR r1, oR r2, oR r3, oJ q4, oS] []) _
    refine XS.aloadN X53.here hx rfl (hb hby d4_17) rfl rfl ?_
    show oP p e below T53 (mkF m 18 #[oR r0, oR r1, oR r2, oR r3, oJ q4, oS] [(.ref r0)]) _
    refine XS.aloadN X53.here hx rfl (hb hby d4_18) rfl rfl ?_
    show oP p e below T53 (mkF m 19 #[oR r0, oR r1, oR r2, oR r3, oJ q4, oS] [(.ref r2), (.ref r0)]) _
    refine st55 _ ?_
    show oP p e below T55 (mkF m 21 #[oR r0, oR r1, oR r2, oR r3, oJ q4, oS] [(.ref b55), (.ref r2), (.ref r0)]) _
    refine st57 _ ?_
    show oP p e below T57 (mkF m 24 #[oR r0, oR r1, oR r2, oR r3, oJ q4, oS] [(.ref r2), (.ref r0)]) _
    refine st59 _ ?_
    show oP p e below T59 (mkF m 27 #[oR r0, oR r1, oR r2, oR r3, oJ q4, oS] [(.ref r2), (.ref r0)]) _
    refine st62 _ ?_
    show oP p e below T62 (mkF m 30 #[oR r0, oR r1, oR r2, oR r3, oJ q4, oS] []) _
    refine XS.aloadN X62.here hx rfl (hb hby d4_30) rfl rfl ?_
    show oP p e below T62 (mkF m 31 #[oR r0, oR r1, oR r2, oR r3, oJ q4, oS] [(.ref r0)]) _
    refine XS.aloadN X62.here hx rfl (hb hby d4_31) rfl rfl ?_
    show oP p e below T62 (mkF m 32 #[oR r0, oR r1, oR r2, oR r3, oJ q4, oS] [(.ref r3), (.ref r0)]) _
    refine st64 _ ?_
    show oP p e below T64 (mkF m 34 #[oR r0, oR r1, oR r2, oR r3, oJ q4, oS] [(.ref b64), (.ref r3), (.ref r0)]) _
    refine st67 _ ?_
    show oP p e below T67 (mkF m 37 #[oR r0, oR r1, oR r2, oR r3, oJ q4, oS] [(.ref r3), (.ref r0)]) _
    refine st69 _ ?_
    show oP p e below T69 (mkF m 40 #[oR r0, oR r1, oR r2, oR r3, oJ q4, oS] [(.ref r3), (.ref r0)]) _
    refine st72 _ ?_
    show oP p e below T72 (mkF m 43 #[oR r0, oR r1, oR r2, oR r3, oJ q4, oS] []) _
    refine XS.aloadN X72.here hx rfl (hb hby d4_43) rfl rfl ?_
    show oP p e below T72 (mkF m 44 #[oR r0, oR r1, oR r2, oR r3, oJ q4, oS] [(.ref r0)]) _
    refine XS.lload X72.here hx rfl (hb hby d4_44) rfl ?_
    show oP p e below T72 (mkF m 46 #[oR r0, oR r1, oR r2, oR r3, oJ q4, oS] [(.long q4), (.ref r0)]) _
    refine st76 _ ?_
    show oP p e below T76 (mkF m 49 #[oR r0, oR r1, oR r2, oR r3, oJ q4, oS] []) _
    exact X76.returnOut hx Bd.returns (hb hby d4_49) hr
  · show (none : Option Value) = none ∧ Fr n0 _ ∧ Keep h0 T76.heap [r0] ∧ Exa Z T76.heap r0 "com/example/meerkat/meerkat/ExpansionFile" ∧ Fld Z T76.heap r0 "com/example/meerkat/meerkat/ExpansionFile" "kind" "Lcom/example/meerkat/meerkat/ExpansionFile$Kind;" (.ref r1) ∧ Fld Z T76.heap r0 "com/example/meerkat/meerkat/ExpansionFile" "url" "Ljava/lang/String;" (.ref r2) ∧ Fld Z T76.heap r0 "com/example/meerkat/meerkat/ExpansionFile" "fileName" "Ljava/lang/String;" (.ref r3) ∧ Fld Z T76.heap r0 "com/example/meerkat/meerkat/ExpansionFile" "size" "J" (.long q4)
    rw [e76]
    have fx78 := (fx74.wr W76)
    have fx79 := (((((((Fw53.ext E55).keep K57q nin0).other W62 (Or.inr (slot_ne (Or.inr (hw _ (List.mem_of_getElem? (i := 39) rfl))) (Or.inr (hw _ (List.mem_of_getElem? (i := 44) rfl))) (by decide) (t := (.object "com/example/meerkat/meerkat/ExpansionFile$Kind")) (t' := (.object "java/lang/String")) (by decide) (by decide)))).ext E64).keep K67q nin0).other W72 (Or.inr (slot_ne (Or.inr (hw _ (List.mem_of_getElem? (i := 39) rfl))) (Or.inr (hw _ (List.mem_of_getElem? (i := 47) rfl))) (by decide) (t := (.object "com/example/meerkat/meerkat/ExpansionFile$Kind")) (t' := (.object "java/lang/String")) (by decide) (by decide)))).other W76 (Or.inr (slot_ne (Or.inr (hw _ (List.mem_of_getElem? (i := 39) rfl))) (Or.inr (hw _ (List.mem_of_getElem? (i := 49) rfl))) (by decide) (t := (.object "com/example/meerkat/meerkat/ExpansionFile$Kind")) (t' := .long) (by decide) (by decide))))
    have fx80 := ((((Fw62.ext E64).keep K67q nin0).other W72 (Or.inr (slot_ne (Or.inr (hw _ (List.mem_of_getElem? (i := 44) rfl))) (Or.inr (hw _ (List.mem_of_getElem? (i := 47) rfl))) (by decide) (t := (.object "java/lang/String")) (t' := (.object "java/lang/String")) (by decide) (by decide)))).other W76 (Or.inr (slot_ne (Or.inr (hw _ (List.mem_of_getElem? (i := 44) rfl))) (Or.inr (hw _ (List.mem_of_getElem? (i := 49) rfl))) (by decide) (t := (.object "java/lang/String")) (t' := .long) (by decide) (by decide))))
    have fx81 := (Fw72.other W76 (Or.inr (slot_ne (Or.inr (hw _ (List.mem_of_getElem? (i := 47) rfl))) (Or.inr (hw _ (List.mem_of_getElem? (i := 49) rfl))) (by decide) (t := (.object "java/lang/String")) (t' := .long) (by decide) (by decide))))
    exact ⟨rfl, N76, Kc76, fx78, fx79, fx80, fx81, Fw76⟩
  · show CHr Z own_EL s.vm s.heap T76.vm T76.heap
    rw [e76]
    rw [hh]
    exact own_cend X76 hZ (own_EW hw) C76
theorem d18_0 : decode method_8_code 0 = .ok (.iload_n 0, 1) := by decide +kernel
theorem d18_1 : decode method_8_code 1 = .ok (.invokestatic 45, 3) := by decide +kernel
theorem d18_4 : decode method_8_code 4 = .ok (.istore_n 2, 1) := by decide +kernel
theorem d18_5 : decode method_8_code 5 = .ok (.iload_n 1, 1) := by decide +kernel
theorem d18_6 : decode method_8_code 6 = .ok (.invokestatic 45, 3) := by decide +kernel
theorem d18_9 : decode method_8_code 9 = .ok (.istore_n 3, 1) := by decide +kernel
theorem d18_10 : decode method_8_code 10 = .ok (.iload_n 2, 1) := by decide +kernel
theorem d18_11 : decode method_8_code 11 = .ok (.iload_n 3, 1) := by decide +kernel
theorem d18_12 : decode method_8_code 12 = .ok (.if_icmp .eq 5, 3) := by decide +kernel
theorem d18_17 : decode method_8_code 17 = .ok (.iload_n 2, 1) := by decide +kernel
theorem d18_18 : decode method_8_code 18 = .ok (.iconst 1, 1) := by decide +kernel
theorem d18_19 : decode method_8_code 19 = .ok (.if_icmp .lt 16, 3) := by decide +kernel
theorem d18_35 : decode method_8_code 35 = .ok (.iload_n 2, 1) := by decide +kernel
theorem d18_36 : decode method_8_code 36 = .ok (.iconst 2, 1) := by decide +kernel
theorem d18_37 : decode method_8_code 37 = .ok (.if_icmp .lt 16, 3) := by decide +kernel
theorem d18_53 : decode method_8_code 53 = .ok (.iconst 1, 1) := by decide +kernel
theorem d18_54 : decode method_8_code 54 = .ok (.ireturn, 1) := by decide +kernel
theorem d18_40 : decode method_8_code 40 = .ok (.iload_n 0, 1) := by decide +kernel
theorem d18_41 : decode method_8_code 41 = .ok (.invokestatic 60, 3) := by decide +kernel
theorem d18_44 : decode method_8_code 44 = .ok (.iload_n 1, 1) := by decide +kernel
theorem d18_45 : decode method_8_code 45 = .ok (.invokestatic 60, 3) := by decide +kernel
theorem d18_48 : decode method_8_code 48 = .ok (.if_icmp .eq 5, 3) := by decide +kernel
theorem d18_51 : decode method_8_code 51 = .ok (.iconst 0, 1) := by decide +kernel
theorem d18_52 : decode method_8_code 52 = .ok (.ireturn, 1) := by decide +kernel
theorem d18_22 : decode method_8_code 22 = .ok (.iload_n 0, 1) := by decide +kernel
theorem d18_23 : decode method_8_code 23 = .ok (.invokestatic 51, 3) := by decide +kernel
theorem d18_26 : decode method_8_code 26 = .ok (.iload_n 1, 1) := by decide +kernel
theorem d18_27 : decode method_8_code 27 = .ok (.invokestatic 51, 3) := by decide +kernel
theorem d18_30 : decode method_8_code 30 = .ok (.if_icmp .eq 5, 3) := by decide +kernel
theorem d18_33 : decode method_8_code 33 = .ok (.iconst 0, 1) := by decide +kernel
theorem d18_34 : decode method_8_code 34 = .ok (.ireturn, 1) := by decide +kernel
theorem d18_15 : decode method_8_code 15 = .ok (.iconst 0, 1) := by decide +kernel
theorem d18_16 : decode method_8_code 16 = .ok (.ireturn, 1) := by decide +kernel
def fn18 (Z : State) (p0 : Int32) (p1 : Int32) : Int32 :=
  if ((p0 &&& (3 : Int32)) - ((p0 &&& (3 : Int32)) / (3 : Int32)) * (3 : Int32)) = ((p1 &&& (3 : Int32)) - ((p1 &&& (3 : Int32)) / (3 : Int32)) * (3 : Int32)) then
    if ((p0 &&& (3 : Int32)) - ((p0 &&& (3 : Int32)) / (3 : Int32)) * (3 : Int32)) < (1 : Int32) then
      if ((p0 &&& (3 : Int32)) - ((p0 &&& (3 : Int32)) / (3 : Int32)) * (3 : Int32)) < (2 : Int32) then
        (1 : Int32)
      else
        if (((p0.toUInt32 >>> ((10 : Int32) &&& 31).toUInt32).toInt32) &&& (255 : Int32)) = (((p1.toUInt32 >>> ((10 : Int32) &&& 31).toUInt32).toInt32) &&& (255 : Int32)) then
          (1 : Int32)
        else
          (0 : Int32)
    else
      if (((p0.toUInt32 >>> ((2 : Int32) &&& 31).toUInt32).toInt32) &&& (255 : Int32)) = (((p1.toUInt32 >>> ((2 : Int32) &&& 31).toUInt32).toInt32) &&& (255 : Int32)) then
        if ((p0 &&& (3 : Int32)) - ((p0 &&& (3 : Int32)) / (3 : Int32)) * (3 : Int32)) < (2 : Int32) then
          (1 : Int32)
        else
          if (((p0.toUInt32 >>> ((10 : Int32) &&& 31).toUInt32).toInt32) &&& (255 : Int32)) = (((p1.toUInt32 >>> ((10 : Int32) &&& 31).toUInt32).toInt32) &&& (255 : Int32)) then
            (1 : Int32)
          else
            (0 : Int32)
      else
        (0 : Int32)
  else
    (0 : Int32)
theorem ef_18 (m : MethodId) (x0 : Int32) (x1 : Int32) : entryFrame m #[(.int x0), (.int x1)] 4 = mkF m 0 #[.val (.int x0), .val (.int x1), .unset, .unset] [] := by first | (simp [entryFrame, mkF, argsToLocals, Value.category]; done) | rfl
set_option maxRecDepth 65536 in
set_option maxHeartbeats 40000000 in
theorem rm18 (l : Launch) (Z : State) (a0 : Array Value) (hw : ∀ d ∈ tables_1, d.before a0 Z = true) (hS : St Z) (ws : List Jvm.Cond) (p0 : Int32) (p1 : Int32) (h0 : Heap) (n0 : Nat) (O0 : Old Z n0 h0) :
    MetFree l (⟨"com/example/meerkat/meerkat/ExpansionFileEqualsPinLaw", "sameStr", "(II)Z"⟩ : MethodName) (head1 (Jvm.Cond.code (⟨"com/example/meerkat/meerkat/ExpansionFileEqualsPinLaw", "sameStr", "(II)Z"⟩ : MethodName) method_8_code 4 (some .boolean) :: ws) ({ frames := 1, cells := 0, slots := 0, locals := 13 } : Room)) (fun a U => a = #[(.int p0), (.int p1)] ∧ Z.Warmed39 U.vm ∧ U.heap = h0) (fun _ _ _ _ _ => True) (fun _ U o U' => ∃ v L, o = .returned v ∧ own_Q (fun v hE L => v = some (.int (fn18 Z p0 p1)) ∧ Fr n0 L ∧ hE = h0) v U'.heap L ∧ FrameEnd U o U' L ({ frames := 1, cells := 0, slots := 0, locals := 13 } : Room).cells ({ frames := 1, cells := 0, slots := 0, locals := 13 } : Room).slots) := by
  refine MetFree.of_bodySF (plainFor_of_name pn_2) hisR ?_
  intro p e s m args below meth c s₁ Bd hml0 hP hK
  obtain ⟨rfl, hZ, hh⟩ := hP
  have hx := Bd.exec
  have hby := Bd.bytes
  have hml : c.maxLocals = 4 := hml0
  have hown : s.vm.findClass "com/example/meerkat/meerkat/ExpansionFileEqualsPinLaw" = some m.cls := findClass_of_methodNamed Bd.named
  have X0 : Stand p l e ({ frames := 1, cells := 0, slots := 0, locals := 13 } : Room) s m #[(.int p0), (.int p1)] below meth c s₁ [] 0 0 := Stand.of_body Bd
  have e0 : s₁.heap = h0 := by rw [← hh, Bd.state]; rfl
  have N0 := Fr.nil n0
  have pre0 : ∀ t, Steps p.tables e below (s₁.setTop (mkF m 0 #[oI p0, oI p1, oU, oU] [])) t → Steps p.tables e below (s₁.setTop (entryFrame m #[(.int p0), (.int p1)] 4)) t := fun t k => castTop (ef_18 m p0 p1) k
  obtain ⟨_, _, ⟨T82, L82, k82, n82⟩, -, X82, ⟨Lc82, hQ82, l82, y82, z82⟩, st82⟩ := Jvm.LawKit.callS X0 hx (y := (⟨"com/example/meerkat/meerkat/ExpansionFileEqualsPinLaw", "len", "(I)I"⟩ : MethodName)) hown (mvT hZ (hw _ (List.mem_of_getElem? (i := 14) rfl))) (mvT hZ (hw _ (List.mem_of_getElem? (i := 15) rfl))) (mvT hZ (hw _ (List.mem_of_getElem? (i := 6) rfl))) (mvT hZ (hw _ (List.mem_of_getElem? (i := 16) rfl))) (by decide) (backOf (W := 0) (rm3 l Z a0 hw hS [] p0 h0 n0 O0) hZ (hw _ (List.mem_of_getElem? (i := 16) rfl)) (hw _ (List.mem_of_getElem? (i := 6) rfl)) (by decide) (by decide)) (g := (mkF m 1 #[oI p0, oI p1, oU, oU] [(.int p0)])) rfl (by rw [hml]; rfl) (argsL := [(.int p0)]) (rest := []) (lenOf pd_3 rfl) rfl (by show 2 * 0 + _ ≤ _; exact Nat.le_of_eq rfl) (hb hby d18_1) (fun _ _ => ⟨rfl, e0, (by decide : 0 + 0 ≤ _), (by decide : 0 + 0 ≤ _)⟩)
  dsimp only [Pt.U, Pt.locs, Pt.cells, Pt.slots] at X82 l82 y82 z82 st82 hQ82
  subst l82 y82 z82
  obtain ⟨v82, N82q, h82q⟩ := hQ82
  have w82 : (fn3 Z p0) = ((p0 &&& (3 : Int32)) - ((p0 &&& (3 : Int32)) / (3 : Int32)) * (3 : Int32)) := rfl
  rw [w82] at v82
  subst v82
  have N82 := Fr.app N0 N82q
  obtain ⟨_, _, ⟨T83, L83, k83, n83⟩, -, X83, ⟨Lc83, hQ83, l83, y83, z83⟩, st83⟩ := Jvm.LawKit.callS X82 hx (y := (⟨"com/example/meerkat/meerkat/ExpansionFileEqualsPinLaw", "len", "(I)I"⟩ : MethodName)) hown (mvT hZ (hw _ (List.mem_of_getElem? (i := 14) rfl))) (mvT hZ (hw _ (List.mem_of_getElem? (i := 15) rfl))) (mvT hZ (hw _ (List.mem_of_getElem? (i := 6) rfl))) (mvT hZ (hw _ (List.mem_of_getElem? (i := 16) rfl))) (by decide) (backOf (W := 0) (rm3 l Z a0 hw hS [] p1 h0 n0 O0) hZ (hw _ (List.mem_of_getElem? (i := 16) rfl)) (hw _ (List.mem_of_getElem? (i := 6) rfl)) (by decide) (by decide)) (g := (mkF m 6 #[oI p0, oI p1, oI ((p0 &&& (3 : Int32)) - ((p0 &&& (3 : Int32)) / (3 : Int32)) * (3 : Int32)), oU] [(.int p1)])) rfl (by rw [hml]; rfl) (argsL := [(.int p1)]) (rest := []) (lenOf pd_3 rfl) rfl (by show 2 * 0 + _ ≤ _; exact Nat.le_of_eq rfl) (hb hby d18_6) (fun _ _ => ⟨rfl, h82q, (by decide : 0 + 0 ≤ _), (by decide : 0 + 0 ≤ _)⟩)
  dsimp only [Pt.U, Pt.locs, Pt.cells, Pt.slots] at X83 l83 y83 z83 st83 hQ83
  subst l83 y83 z83
  obtain ⟨v83, N83q, h83q⟩ := hQ83
  have w83 : (fn3 Z p1) = ((p1 &&& (3 : Int32)) - ((p1 &&& (3 : Int32)) / (3 : Int32)) * (3 : Int32)) := rfl
  rw [w83] at v83
  subst v83
  have N83 := Fr.app N82 N83q
  have pre84 : ∀ t, oP p e below T83 (mkF m 12 #[oI p0, oI p1, oI ((p0 &&& (3 : Int32)) - ((p0 &&& (3 : Int32)) / (3 : Int32)) * (3 : Int32)), oI ((p1 &&& (3 : Int32)) - ((p1 &&& (3 : Int32)) / (3 : Int32)) * (3 : Int32))] [(.int ((p1 &&& (3 : Int32)) - ((p1 &&& (3 : Int32)) / (3 : Int32)) * (3 : Int32))), (.int ((p0 &&& (3 : Int32)) - ((p0 &&& (3 : Int32)) / (3 : Int32)) * (3 : Int32)))]) t → oP p e below s₁ (entryFrame m #[(.int p0), (.int p1)] 4) t := fun t k => pre0 t (by
    show oP p e below s₁ (mkF m 0 #[oI p0, oI p1, oU, oU] []) _
    refine XS.iloadN X0.here hx rfl (hb hby d18_0) rfl ?_
    show oP p e below s₁ (mkF m 1 #[oI p0, oI p1, oU, oU] [(.int p0)]) _
    refine st82 _ ?_
    show oP p e below T82 (mkF m 4 #[oI p0, oI p1, oU, oU] [(.int ((p0 &&& (3 : Int32)) - ((p0 &&& (3 : Int32)) / (3 : Int32)) * (3 : Int32)))]) _
    refine XS.istoreN X82.here hx rfl (hb hby d18_4) rfl (l' := #[oI p0, oI p1, oI ((p0 &&& (3 : Int32)) - ((p0 &&& (3 : Int32)) / (3 : Int32)) * (3 : Int32)), oU]) rfl ?_
    show oP p e below T82 (mkF m 5 #[oI p0, oI p1, oI ((p0 &&& (3 : Int32)) - ((p0 &&& (3 : Int32)) / (3 : Int32)) * (3 : Int32)), oU] []) _
    refine XS.iloadN X82.here hx rfl (hb hby d18_5) rfl ?_
    show oP p e below T82 (mkF m 6 #[oI p0, oI p1, oI ((p0 &&& (3 : Int32)) - ((p0 &&& (3 : Int32)) / (3 : Int32)) * (3 : Int32)), oU] [(.int p1)]) _
    refine st83 _ ?_
    show oP p e below T83 (mkF m 9 #[oI p0, oI p1, oI ((p0 &&& (3 : Int32)) - ((p0 &&& (3 : Int32)) / (3 : Int32)) * (3 : Int32)), oU] [(.int ((p1 &&& (3 : Int32)) - ((p1 &&& (3 : Int32)) / (3 : Int32)) * (3 : Int32)))]) _
    refine XS.istoreN X83.here hx rfl (hb hby d18_9) rfl (l' := #[oI p0, oI p1, oI ((p0 &&& (3 : Int32)) - ((p0 &&& (3 : Int32)) / (3 : Int32)) * (3 : Int32)), oI ((p1 &&& (3 : Int32)) - ((p1 &&& (3 : Int32)) / (3 : Int32)) * (3 : Int32))]) rfl ?_
    show oP p e below T83 (mkF m 10 #[oI p0, oI p1, oI ((p0 &&& (3 : Int32)) - ((p0 &&& (3 : Int32)) / (3 : Int32)) * (3 : Int32)), oI ((p1 &&& (3 : Int32)) - ((p1 &&& (3 : Int32)) / (3 : Int32)) * (3 : Int32))] []) _
    refine XS.iloadN X83.here hx rfl (hb hby d18_10) rfl ?_
    show oP p e below T83 (mkF m 11 #[oI p0, oI p1, oI ((p0 &&& (3 : Int32)) - ((p0 &&& (3 : Int32)) / (3 : Int32)) * (3 : Int32)), oI ((p1 &&& (3 : Int32)) - ((p1 &&& (3 : Int32)) / (3 : Int32)) * (3 : Int32))] [(.int ((p0 &&& (3 : Int32)) - ((p0 &&& (3 : Int32)) / (3 : Int32)) * (3 : Int32)))]) _
    refine XS.iloadN X83.here hx rfl (hb hby d18_11) rfl ?_
    exact k)
  by_cases hc85 : ((p0 &&& (3 : Int32)) - ((p0 &&& (3 : Int32)) / (3 : Int32)) * (3 : Int32)) = ((p1 &&& (3 : Int32)) - ((p1 &&& (3 : Int32)) / (3 : Int32)) * (3 : Int32))
  · have pre86 : ∀ t, oP p e below T83 (mkF m 19 #[oI p0, oI p1, oI ((p0 &&& (3 : Int32)) - ((p0 &&& (3 : Int32)) / (3 : Int32)) * (3 : Int32)), oI ((p1 &&& (3 : Int32)) - ((p1 &&& (3 : Int32)) / (3 : Int32)) * (3 : Int32))] [(.int (1 : Int32)), (.int ((p0 &&& (3 : Int32)) - ((p0 &&& (3 : Int32)) / (3 : Int32)) * (3 : Int32)))]) t → oP p e below s₁ (entryFrame m #[(.int p0), (.int p1)] 4) t := fun t k => pre84 t (by
      show oP p e below T83 (mkF m 12 #[oI p0, oI p1, oI ((p0 &&& (3 : Int32)) - ((p0 &&& (3 : Int32)) / (3 : Int32)) * (3 : Int32)), oI ((p1 &&& (3 : Int32)) - ((p1 &&& (3 : Int32)) / (3 : Int32)) * (3 : Int32))] [(.int ((p1 &&& (3 : Int32)) - ((p1 &&& (3 : Int32)) / (3 : Int32)) * (3 : Int32))), (.int ((p0 &&& (3 : Int32)) - ((p0 &&& (3 : Int32)) / (3 : Int32)) * (3 : Int32)))]) _
      refine XS.icmpYes X83.here hx rfl (pc0 := 12) (pc' := 17) rfl (hb hby d18_12) rfl (teq hc85).1 (by decide) (by decide) ?_
      show oP p e below T83 (mkF m 17 #[oI p0, oI p1, oI ((p0 &&& (3 : Int32)) - ((p0 &&& (3 : Int32)) / (3 : Int32)) * (3 : Int32)), oI ((p1 &&& (3 : Int32)) - ((p1 &&& (3 : Int32)) / (3 : Int32)) * (3 : Int32))] []) _
      refine XS.iloadN X83.here hx rfl (hb hby d18_17) rfl ?_
      show oP p e below T83 (mkF m 18 #[oI p0, oI p1, oI ((p0 &&& (3 : Int32)) - ((p0 &&& (3 : Int32)) / (3 : Int32)) * (3 : Int32)), oI ((p1 &&& (3 : Int32)) - ((p1 &&& (3 : Int32)) / (3 : Int32)) * (3 : Int32))] [(.int ((p0 &&& (3 : Int32)) - ((p0 &&& (3 : Int32)) / (3 : Int32)) * (3 : Int32)))]) _
      refine XS.iconst X83.here hx rfl (hb hby d18_18) ?_
      exact k)
    by_cases hc87 : ((p0 &&& (3 : Int32)) - ((p0 &&& (3 : Int32)) / (3 : Int32)) * (3 : Int32)) < (1 : Int32)
    · have pre88 : ∀ t, oP p e below T83 (mkF m 37 #[oI p0, oI p1, oI ((p0 &&& (3 : Int32)) - ((p0 &&& (3 : Int32)) / (3 : Int32)) * (3 : Int32)), oI ((p1 &&& (3 : Int32)) - ((p1 &&& (3 : Int32)) / (3 : Int32)) * (3 : Int32))] [(.int (2 : Int32)), (.int ((p0 &&& (3 : Int32)) - ((p0 &&& (3 : Int32)) / (3 : Int32)) * (3 : Int32)))]) t → oP p e below s₁ (entryFrame m #[(.int p0), (.int p1)] 4) t := fun t k => pre86 t (by
        show oP p e below T83 (mkF m 19 #[oI p0, oI p1, oI ((p0 &&& (3 : Int32)) - ((p0 &&& (3 : Int32)) / (3 : Int32)) * (3 : Int32)), oI ((p1 &&& (3 : Int32)) - ((p1 &&& (3 : Int32)) / (3 : Int32)) * (3 : Int32))] [(.int (1 : Int32)), (.int ((p0 &&& (3 : Int32)) - ((p0 &&& (3 : Int32)) / (3 : Int32)) * (3 : Int32)))]) _
        refine XS.icmpYes X83.here hx rfl (pc0 := 19) (pc' := 35) rfl (hb hby d18_19) rfl (tlt hc87).1 (by decide) (by decide) ?_
        show oP p e below T83 (mkF m 35 #[oI p0, oI p1, oI ((p0 &&& (3 : Int32)) - ((p0 &&& (3 : Int32)) / (3 : Int32)) * (3 : Int32)), oI ((p1 &&& (3 : Int32)) - ((p1 &&& (3 : Int32)) / (3 : Int32)) * (3 : Int32))] []) _
        refine XS.iloadN X83.here hx rfl (hb hby d18_35) rfl ?_
        show oP p e below T83 (mkF m 36 #[oI p0, oI p1, oI ((p0 &&& (3 : Int32)) - ((p0 &&& (3 : Int32)) / (3 : Int32)) * (3 : Int32)), oI ((p1 &&& (3 : Int32)) - ((p1 &&& (3 : Int32)) / (3 : Int32)) * (3 : Int32))] [(.int ((p0 &&& (3 : Int32)) - ((p0 &&& (3 : Int32)) / (3 : Int32)) * (3 : Int32)))]) _
        refine XS.iconst X83.here hx rfl (hb hby d18_36) ?_
        exact k)
      by_cases hc89 : ((p0 &&& (3 : Int32)) - ((p0 &&& (3 : Int32)) / (3 : Int32)) * (3 : Int32)) < (2 : Int32)
      · obtain ⟨fs, hr, hrun, hended, hW, hsame⟩ := X83.leave (v := some (.int (1 : Int32))) (fun h => by rw [Bd.returns] at h; cases h)
        refine ⟨_, _, pre88 _ ?_, hrun, hended, _, _, rfl, ?_, ⟨_, rfl⟩, hW, hsame.mono (by decide) (by decide)⟩
        · show oP p e below T83 (mkF m 37 #[oI p0, oI p1, oI ((p0 &&& (3 : Int32)) - ((p0 &&& (3 : Int32)) / (3 : Int32)) * (3 : Int32)), oI ((p1 &&& (3 : Int32)) - ((p1 &&& (3 : Int32)) / (3 : Int32)) * (3 : Int32))] [(.int (2 : Int32)), (.int ((p0 &&& (3 : Int32)) - ((p0 &&& (3 : Int32)) / (3 : Int32)) * (3 : Int32)))]) _
          refine XS.icmpYes X83.here hx rfl (pc0 := 37) (pc' := 53) rfl (hb hby d18_37) rfl (tlt hc89).1 (by decide) (by decide) ?_
          show oP p e below T83 (mkF m 53 #[oI p0, oI p1, oI ((p0 &&& (3 : Int32)) - ((p0 &&& (3 : Int32)) / (3 : Int32)) * (3 : Int32)), oI ((p1 &&& (3 : Int32)) - ((p1 &&& (3 : Int32)) / (3 : Int32)) * (3 : Int32))] []) _
          refine XS.iconst X83.here hx rfl (hb hby d18_53) ?_
          show oP p e below T83 (mkF m 54 #[oI p0, oI p1, oI ((p0 &&& (3 : Int32)) - ((p0 &&& (3 : Int32)) / (3 : Int32)) * (3 : Int32)), oI ((p1 &&& (3 : Int32)) - ((p1 &&& (3 : Int32)) / (3 : Int32)) * (3 : Int32))] [(.int (1 : Int32))]) _
          exact retN X83 hx (t := .boolean) Bd.returns (by simp) (hb hby d18_54) hr
        · show (some (.int (1 : Int32)) : Option Value) = some (.int (fn18 Z p0 p1)) ∧ Fr n0 _ ∧ T83.heap = h0
          rw [h83q]
          refine ⟨?_, N83, rfl⟩
          unfold fn18
          rw [if_pos hc85, if_pos hc87, if_pos hc89]
      · obtain ⟨_, _, ⟨T90, L90, k90, n90⟩, -, X90, ⟨Lc90, hQ90, l90, y90, z90⟩, st90⟩ := Jvm.LawKit.callS X83 hx (y := (⟨"com/example/meerkat/meerkat/ExpansionFileEqualsPinLaw", "c1", "(I)I"⟩ : MethodName)) hown (mvT hZ (hw _ (List.mem_of_getElem? (i := 54) rfl))) (mvT hZ (hw _ (List.mem_of_getElem? (i := 55) rfl))) (mvT hZ (hw _ (List.mem_of_getElem? (i := 6) rfl))) (mvT hZ (hw _ (List.mem_of_getElem? (i := 56) rfl))) (by decide) (backOf (W := 0) (rm8 l Z a0 hw hS [] p0 h0 n0 O0) hZ (hw _ (List.mem_of_getElem? (i := 56) rfl)) (hw _ (List.mem_of_getElem? (i := 6) rfl)) (by decide) (by decide)) (g := (mkF m 41 #[oI p0, oI p1, oI ((p0 &&& (3 : Int32)) - ((p0 &&& (3 : Int32)) / (3 : Int32)) * (3 : Int32)), oI ((p1 &&& (3 : Int32)) - ((p1 &&& (3 : Int32)) / (3 : Int32)) * (3 : Int32))] [(.int p0)])) rfl (by rw [hml]; rfl) (argsL := [(.int p0)]) (rest := []) (lenOf pd_3 rfl) rfl (by show 2 * 0 + _ ≤ _; exact Nat.le_of_eq rfl) (hb hby d18_41) (fun _ _ => ⟨rfl, h83q, (by decide : 0 + 0 ≤ _), (by decide : 0 + 0 ≤ _)⟩)
        dsimp only [Pt.U, Pt.locs, Pt.cells, Pt.slots] at X90 l90 y90 z90 st90 hQ90
        subst l90 y90 z90
        obtain ⟨v90, N90q, h90q⟩ := hQ90
        have w90 : (fn8 Z p0) = (((p0.toUInt32 >>> ((10 : Int32) &&& 31).toUInt32).toInt32) &&& (255 : Int32)) := rfl
        rw [w90] at v90
        subst v90
        have N90 := Fr.app N83 N90q
        obtain ⟨_, _, ⟨T91, L91, k91, n91⟩, -, X91, ⟨Lc91, hQ91, l91, y91, z91⟩, st91⟩ := Jvm.LawKit.callS X90 hx (y := (⟨"com/example/meerkat/meerkat/ExpansionFileEqualsPinLaw", "c1", "(I)I"⟩ : MethodName)) hown (mvT hZ (hw _ (List.mem_of_getElem? (i := 54) rfl))) (mvT hZ (hw _ (List.mem_of_getElem? (i := 55) rfl))) (mvT hZ (hw _ (List.mem_of_getElem? (i := 6) rfl))) (mvT hZ (hw _ (List.mem_of_getElem? (i := 56) rfl))) (by decide) (backOf (W := 1) (rm8 l Z a0 hw hS [] p1 h0 n0 O0) hZ (hw _ (List.mem_of_getElem? (i := 56) rfl)) (hw _ (List.mem_of_getElem? (i := 6) rfl)) (by decide) (by decide)) (g := (mkF m 45 #[oI p0, oI p1, oI ((p0 &&& (3 : Int32)) - ((p0 &&& (3 : Int32)) / (3 : Int32)) * (3 : Int32)), oI ((p1 &&& (3 : Int32)) - ((p1 &&& (3 : Int32)) / (3 : Int32)) * (3 : Int32))] [(.int p1), (.int (((p0.toUInt32 >>> ((10 : Int32) &&& 31).toUInt32).toInt32) &&& (255 : Int32)))])) rfl (by rw [hml]; rfl) (argsL := [(.int p1)]) (rest := [(.int (((p0.toUInt32 >>> ((10 : Int32) &&& 31).toUInt32).toInt32) &&& (255 : Int32)))]) (lenOf pd_3 rfl) rfl (by show 2 * 0 + _ ≤ _; exact Nat.le_of_eq rfl) (hb hby d18_45) (fun _ _ => ⟨rfl, h90q, (by decide : 0 + 0 ≤ _), (by decide : 0 + 0 ≤ _)⟩)
        dsimp only [Pt.U, Pt.locs, Pt.cells, Pt.slots] at X91 l91 y91 z91 st91 hQ91
        subst l91 y91 z91
        obtain ⟨v91, N91q, h91q⟩ := hQ91
        have w91 : (fn8 Z p1) = (((p1.toUInt32 >>> ((10 : Int32) &&& 31).toUInt32).toInt32) &&& (255 : Int32)) := rfl
        rw [w91] at v91
        subst v91
        have N91 := Fr.app N90 N91q
        have pre92 : ∀ t, oP p e below T91 (mkF m 48 #[oI p0, oI p1, oI ((p0 &&& (3 : Int32)) - ((p0 &&& (3 : Int32)) / (3 : Int32)) * (3 : Int32)), oI ((p1 &&& (3 : Int32)) - ((p1 &&& (3 : Int32)) / (3 : Int32)) * (3 : Int32))] [(.int (((p1.toUInt32 >>> ((10 : Int32) &&& 31).toUInt32).toInt32) &&& (255 : Int32))), (.int (((p0.toUInt32 >>> ((10 : Int32) &&& 31).toUInt32).toInt32) &&& (255 : Int32)))]) t → oP p e below s₁ (entryFrame m #[(.int p0), (.int p1)] 4) t := fun t k => pre88 t (by
          show oP p e below T83 (mkF m 37 #[oI p0, oI p1, oI ((p0 &&& (3 : Int32)) - ((p0 &&& (3 : Int32)) / (3 : Int32)) * (3 : Int32)), oI ((p1 &&& (3 : Int32)) - ((p1 &&& (3 : Int32)) / (3 : Int32)) * (3 : Int32))] [(.int (2 : Int32)), (.int ((p0 &&& (3 : Int32)) - ((p0 &&& (3 : Int32)) / (3 : Int32)) * (3 : Int32)))]) _
          refine XS.icmpNo X83.here hx rfl (hb hby d18_37) rfl (flt hc89).1 ?_
          show oP p e below T83 (mkF m 40 #[oI p0, oI p1, oI ((p0 &&& (3 : Int32)) - ((p0 &&& (3 : Int32)) / (3 : Int32)) * (3 : Int32)), oI ((p1 &&& (3 : Int32)) - ((p1 &&& (3 : Int32)) / (3 : Int32)) * (3 : Int32))] []) _
          refine XS.iloadN X83.here hx rfl (hb hby d18_40) rfl ?_
          show oP p e below T83 (mkF m 41 #[oI p0, oI p1, oI ((p0 &&& (3 : Int32)) - ((p0 &&& (3 : Int32)) / (3 : Int32)) * (3 : Int32)), oI ((p1 &&& (3 : Int32)) - ((p1 &&& (3 : Int32)) / (3 : Int32)) * (3 : Int32))] [(.int p0)]) _
          refine st90 _ ?_
          show oP p e below T90 (mkF m 44 #[oI p0, oI p1, oI ((p0 &&& (3 : Int32)) - ((p0 &&& (3 : Int32)) / (3 : Int32)) * (3 : Int32)), oI ((p1 &&& (3 : Int32)) - ((p1 &&& (3 : Int32)) / (3 : Int32)) * (3 : Int32))] [(.int (((p0.toUInt32 >>> ((10 : Int32) &&& 31).toUInt32).toInt32) &&& (255 : Int32)))]) _
          refine XS.iloadN X90.here hx rfl (hb hby d18_44) rfl ?_
          show oP p e below T90 (mkF m 45 #[oI p0, oI p1, oI ((p0 &&& (3 : Int32)) - ((p0 &&& (3 : Int32)) / (3 : Int32)) * (3 : Int32)), oI ((p1 &&& (3 : Int32)) - ((p1 &&& (3 : Int32)) / (3 : Int32)) * (3 : Int32))] [(.int p1), (.int (((p0.toUInt32 >>> ((10 : Int32) &&& 31).toUInt32).toInt32) &&& (255 : Int32)))]) _
          refine st91 _ ?_
          exact k)
        by_cases hc93 : (((p0.toUInt32 >>> ((10 : Int32) &&& 31).toUInt32).toInt32) &&& (255 : Int32)) = (((p1.toUInt32 >>> ((10 : Int32) &&& 31).toUInt32).toInt32) &&& (255 : Int32))
        · obtain ⟨fs, hr, hrun, hended, hW, hsame⟩ := X91.leave (v := some (.int (1 : Int32))) (fun h => by rw [Bd.returns] at h; cases h)
          refine ⟨_, _, pre92 _ ?_, hrun, hended, _, _, rfl, ?_, ⟨_, rfl⟩, hW, hsame.mono (by decide) (by decide)⟩
          · show oP p e below T91 (mkF m 48 #[oI p0, oI p1, oI ((p0 &&& (3 : Int32)) - ((p0 &&& (3 : Int32)) / (3 : Int32)) * (3 : Int32)), oI ((p1 &&& (3 : Int32)) - ((p1 &&& (3 : Int32)) / (3 : Int32)) * (3 : Int32))] [(.int (((p1.toUInt32 >>> ((10 : Int32) &&& 31).toUInt32).toInt32) &&& (255 : Int32))), (.int (((p0.toUInt32 >>> ((10 : Int32) &&& 31).toUInt32).toInt32) &&& (255 : Int32)))]) _
            refine XS.icmpYes X91.here hx rfl (pc0 := 48) (pc' := 53) rfl (hb hby d18_48) rfl (teq hc93).1 (by decide) (by decide) ?_
            show oP p e below T91 (mkF m 53 #[oI p0, oI p1, oI ((p0 &&& (3 : Int32)) - ((p0 &&& (3 : Int32)) / (3 : Int32)) * (3 : Int32)), oI ((p1 &&& (3 : Int32)) - ((p1 &&& (3 : Int32)) / (3 : Int32)) * (3 : Int32))] []) _
            refine XS.iconst X91.here hx rfl (hb hby d18_53) ?_
            show oP p e below T91 (mkF m 54 #[oI p0, oI p1, oI ((p0 &&& (3 : Int32)) - ((p0 &&& (3 : Int32)) / (3 : Int32)) * (3 : Int32)), oI ((p1 &&& (3 : Int32)) - ((p1 &&& (3 : Int32)) / (3 : Int32)) * (3 : Int32))] [(.int (1 : Int32))]) _
            exact retN X91 hx (t := .boolean) Bd.returns (by simp) (hb hby d18_54) hr
          · show (some (.int (1 : Int32)) : Option Value) = some (.int (fn18 Z p0 p1)) ∧ Fr n0 _ ∧ T91.heap = h0
            rw [h91q]
            refine ⟨?_, N91, rfl⟩
            unfold fn18
            rw [if_pos hc85, if_pos hc87, if_neg hc89, if_pos hc93]
        · obtain ⟨fs, hr, hrun, hended, hW, hsame⟩ := X91.leave (v := some (.int (0 : Int32))) (fun h => by rw [Bd.returns] at h; cases h)
          refine ⟨_, _, pre92 _ ?_, hrun, hended, _, _, rfl, ?_, ⟨_, rfl⟩, hW, hsame.mono (by decide) (by decide)⟩
          · show oP p e below T91 (mkF m 48 #[oI p0, oI p1, oI ((p0 &&& (3 : Int32)) - ((p0 &&& (3 : Int32)) / (3 : Int32)) * (3 : Int32)), oI ((p1 &&& (3 : Int32)) - ((p1 &&& (3 : Int32)) / (3 : Int32)) * (3 : Int32))] [(.int (((p1.toUInt32 >>> ((10 : Int32) &&& 31).toUInt32).toInt32) &&& (255 : Int32))), (.int (((p0.toUInt32 >>> ((10 : Int32) &&& 31).toUInt32).toInt32) &&& (255 : Int32)))]) _
            refine XS.icmpNo X91.here hx rfl (hb hby d18_48) rfl (feq hc93).1 ?_
            show oP p e below T91 (mkF m 51 #[oI p0, oI p1, oI ((p0 &&& (3 : Int32)) - ((p0 &&& (3 : Int32)) / (3 : Int32)) * (3 : Int32)), oI ((p1 &&& (3 : Int32)) - ((p1 &&& (3 : Int32)) / (3 : Int32)) * (3 : Int32))] []) _
            refine XS.iconst X91.here hx rfl (hb hby d18_51) ?_
            show oP p e below T91 (mkF m 52 #[oI p0, oI p1, oI ((p0 &&& (3 : Int32)) - ((p0 &&& (3 : Int32)) / (3 : Int32)) * (3 : Int32)), oI ((p1 &&& (3 : Int32)) - ((p1 &&& (3 : Int32)) / (3 : Int32)) * (3 : Int32))] [(.int (0 : Int32))]) _
            exact retN X91 hx (t := .boolean) Bd.returns (by simp) (hb hby d18_52) hr
          · show (some (.int (0 : Int32)) : Option Value) = some (.int (fn18 Z p0 p1)) ∧ Fr n0 _ ∧ T91.heap = h0
            rw [h91q]
            refine ⟨?_, N91, rfl⟩
            unfold fn18
            rw [if_pos hc85, if_pos hc87, if_neg hc89, if_neg hc93]
    · obtain ⟨_, _, ⟨T94, L94, k94, n94⟩, -, X94, ⟨Lc94, hQ94, l94, y94, z94⟩, st94⟩ := Jvm.LawKit.callS X83 hx (y := (⟨"com/example/meerkat/meerkat/ExpansionFileEqualsPinLaw", "c0", "(I)I"⟩ : MethodName)) hown (mvT hZ (hw _ (List.mem_of_getElem? (i := 51) rfl))) (mvT hZ (hw _ (List.mem_of_getElem? (i := 52) rfl))) (mvT hZ (hw _ (List.mem_of_getElem? (i := 6) rfl))) (mvT hZ (hw _ (List.mem_of_getElem? (i := 53) rfl))) (by decide) (backOf (W := 0) (rm7 l Z a0 hw hS [] p0 h0 n0 O0) hZ (hw _ (List.mem_of_getElem? (i := 53) rfl)) (hw _ (List.mem_of_getElem? (i := 6) rfl)) (by decide) (by decide)) (g := (mkF m 23 #[oI p0, oI p1, oI ((p0 &&& (3 : Int32)) - ((p0 &&& (3 : Int32)) / (3 : Int32)) * (3 : Int32)), oI ((p1 &&& (3 : Int32)) - ((p1 &&& (3 : Int32)) / (3 : Int32)) * (3 : Int32))] [(.int p0)])) rfl (by rw [hml]; rfl) (argsL := [(.int p0)]) (rest := []) (lenOf pd_3 rfl) rfl (by show 2 * 0 + _ ≤ _; exact Nat.le_of_eq rfl) (hb hby d18_23) (fun _ _ => ⟨rfl, h83q, (by decide : 0 + 0 ≤ _), (by decide : 0 + 0 ≤ _)⟩)
      dsimp only [Pt.U, Pt.locs, Pt.cells, Pt.slots] at X94 l94 y94 z94 st94 hQ94
      subst l94 y94 z94
      obtain ⟨v94, N94q, h94q⟩ := hQ94
      have w94 : (fn7 Z p0) = (((p0.toUInt32 >>> ((2 : Int32) &&& 31).toUInt32).toInt32) &&& (255 : Int32)) := rfl
      rw [w94] at v94
      subst v94
      have N94 := Fr.app N83 N94q
      obtain ⟨_, _, ⟨T95, L95, k95, n95⟩, -, X95, ⟨Lc95, hQ95, l95, y95, z95⟩, st95⟩ := Jvm.LawKit.callS X94 hx (y := (⟨"com/example/meerkat/meerkat/ExpansionFileEqualsPinLaw", "c0", "(I)I"⟩ : MethodName)) hown (mvT hZ (hw _ (List.mem_of_getElem? (i := 51) rfl))) (mvT hZ (hw _ (List.mem_of_getElem? (i := 52) rfl))) (mvT hZ (hw _ (List.mem_of_getElem? (i := 6) rfl))) (mvT hZ (hw _ (List.mem_of_getElem? (i := 53) rfl))) (by decide) (backOf (W := 1) (rm7 l Z a0 hw hS [] p1 h0 n0 O0) hZ (hw _ (List.mem_of_getElem? (i := 53) rfl)) (hw _ (List.mem_of_getElem? (i := 6) rfl)) (by decide) (by decide)) (g := (mkF m 27 #[oI p0, oI p1, oI ((p0 &&& (3 : Int32)) - ((p0 &&& (3 : Int32)) / (3 : Int32)) * (3 : Int32)), oI ((p1 &&& (3 : Int32)) - ((p1 &&& (3 : Int32)) / (3 : Int32)) * (3 : Int32))] [(.int p1), (.int (((p0.toUInt32 >>> ((2 : Int32) &&& 31).toUInt32).toInt32) &&& (255 : Int32)))])) rfl (by rw [hml]; rfl) (argsL := [(.int p1)]) (rest := [(.int (((p0.toUInt32 >>> ((2 : Int32) &&& 31).toUInt32).toInt32) &&& (255 : Int32)))]) (lenOf pd_3 rfl) rfl (by show 2 * 0 + _ ≤ _; exact Nat.le_of_eq rfl) (hb hby d18_27) (fun _ _ => ⟨rfl, h94q, (by decide : 0 + 0 ≤ _), (by decide : 0 + 0 ≤ _)⟩)
      dsimp only [Pt.U, Pt.locs, Pt.cells, Pt.slots] at X95 l95 y95 z95 st95 hQ95
      subst l95 y95 z95
      obtain ⟨v95, N95q, h95q⟩ := hQ95
      have w95 : (fn7 Z p1) = (((p1.toUInt32 >>> ((2 : Int32) &&& 31).toUInt32).toInt32) &&& (255 : Int32)) := rfl
      rw [w95] at v95
      subst v95
      have N95 := Fr.app N94 N95q
      have pre96 : ∀ t, oP p e below T95 (mkF m 30 #[oI p0, oI p1, oI ((p0 &&& (3 : Int32)) - ((p0 &&& (3 : Int32)) / (3 : Int32)) * (3 : Int32)), oI ((p1 &&& (3 : Int32)) - ((p1 &&& (3 : Int32)) / (3 : Int32)) * (3 : Int32))] [(.int (((p1.toUInt32 >>> ((2 : Int32) &&& 31).toUInt32).toInt32) &&& (255 : Int32))), (.int (((p0.toUInt32 >>> ((2 : Int32) &&& 31).toUInt32).toInt32) &&& (255 : Int32)))]) t → oP p e below s₁ (entryFrame m #[(.int p0), (.int p1)] 4) t := fun t k => pre86 t (by
        show oP p e below T83 (mkF m 19 #[oI p0, oI p1, oI ((p0 &&& (3 : Int32)) - ((p0 &&& (3 : Int32)) / (3 : Int32)) * (3 : Int32)), oI ((p1 &&& (3 : Int32)) - ((p1 &&& (3 : Int32)) / (3 : Int32)) * (3 : Int32))] [(.int (1 : Int32)), (.int ((p0 &&& (3 : Int32)) - ((p0 &&& (3 : Int32)) / (3 : Int32)) * (3 : Int32)))]) _
        refine XS.icmpNo X83.here hx rfl (hb hby d18_19) rfl (flt hc87).1 ?_
        show oP p e below T83 (mkF m 22 #[oI p0, oI p1, oI ((p0 &&& (3 : Int32)) - ((p0 &&& (3 : Int32)) / (3 : Int32)) * (3 : Int32)), oI ((p1 &&& (3 : Int32)) - ((p1 &&& (3 : Int32)) / (3 : Int32)) * (3 : Int32))] []) _
        refine XS.iloadN X83.here hx rfl (hb hby d18_22) rfl ?_
        show oP p e below T83 (mkF m 23 #[oI p0, oI p1, oI ((p0 &&& (3 : Int32)) - ((p0 &&& (3 : Int32)) / (3 : Int32)) * (3 : Int32)), oI ((p1 &&& (3 : Int32)) - ((p1 &&& (3 : Int32)) / (3 : Int32)) * (3 : Int32))] [(.int p0)]) _
        refine st94 _ ?_
        show oP p e below T94 (mkF m 26 #[oI p0, oI p1, oI ((p0 &&& (3 : Int32)) - ((p0 &&& (3 : Int32)) / (3 : Int32)) * (3 : Int32)), oI ((p1 &&& (3 : Int32)) - ((p1 &&& (3 : Int32)) / (3 : Int32)) * (3 : Int32))] [(.int (((p0.toUInt32 >>> ((2 : Int32) &&& 31).toUInt32).toInt32) &&& (255 : Int32)))]) _
        refine XS.iloadN X94.here hx rfl (hb hby d18_26) rfl ?_
        show oP p e below T94 (mkF m 27 #[oI p0, oI p1, oI ((p0 &&& (3 : Int32)) - ((p0 &&& (3 : Int32)) / (3 : Int32)) * (3 : Int32)), oI ((p1 &&& (3 : Int32)) - ((p1 &&& (3 : Int32)) / (3 : Int32)) * (3 : Int32))] [(.int p1), (.int (((p0.toUInt32 >>> ((2 : Int32) &&& 31).toUInt32).toInt32) &&& (255 : Int32)))]) _
        refine st95 _ ?_
        exact k)
      by_cases hc97 : (((p0.toUInt32 >>> ((2 : Int32) &&& 31).toUInt32).toInt32) &&& (255 : Int32)) = (((p1.toUInt32 >>> ((2 : Int32) &&& 31).toUInt32).toInt32) &&& (255 : Int32))
      · have pre98 : ∀ t, oP p e below T95 (mkF m 37 #[oI p0, oI p1, oI ((p0 &&& (3 : Int32)) - ((p0 &&& (3 : Int32)) / (3 : Int32)) * (3 : Int32)), oI ((p1 &&& (3 : Int32)) - ((p1 &&& (3 : Int32)) / (3 : Int32)) * (3 : Int32))] [(.int (2 : Int32)), (.int ((p0 &&& (3 : Int32)) - ((p0 &&& (3 : Int32)) / (3 : Int32)) * (3 : Int32)))]) t → oP p e below s₁ (entryFrame m #[(.int p0), (.int p1)] 4) t := fun t k => pre96 t (by
          show oP p e below T95 (mkF m 30 #[oI p0, oI p1, oI ((p0 &&& (3 : Int32)) - ((p0 &&& (3 : Int32)) / (3 : Int32)) * (3 : Int32)), oI ((p1 &&& (3 : Int32)) - ((p1 &&& (3 : Int32)) / (3 : Int32)) * (3 : Int32))] [(.int (((p1.toUInt32 >>> ((2 : Int32) &&& 31).toUInt32).toInt32) &&& (255 : Int32))), (.int (((p0.toUInt32 >>> ((2 : Int32) &&& 31).toUInt32).toInt32) &&& (255 : Int32)))]) _
          refine XS.icmpYes X95.here hx rfl (pc0 := 30) (pc' := 35) rfl (hb hby d18_30) rfl (teq hc97).1 (by decide) (by decide) ?_
          show oP p e below T95 (mkF m 35 #[oI p0, oI p1, oI ((p0 &&& (3 : Int32)) - ((p0 &&& (3 : Int32)) / (3 : Int32)) * (3 : Int32)), oI ((p1 &&& (3 : Int32)) - ((p1 &&& (3 : Int32)) / (3 : Int32)) * (3 : Int32))] []) _
          refine XS.iloadN X95.here hx rfl (hb hby d18_35) rfl ?_
          show oP p e below T95 (mkF m 36 #[oI p0, oI p1, oI ((p0 &&& (3 : Int32)) - ((p0 &&& (3 : Int32)) / (3 : Int32)) * (3 : Int32)), oI ((p1 &&& (3 : Int32)) - ((p1 &&& (3 : Int32)) / (3 : Int32)) * (3 : Int32))] [(.int ((p0 &&& (3 : Int32)) - ((p0 &&& (3 : Int32)) / (3 : Int32)) * (3 : Int32)))]) _
          refine XS.iconst X95.here hx rfl (hb hby d18_36) ?_
          exact k)
        by_cases hc99 : ((p0 &&& (3 : Int32)) - ((p0 &&& (3 : Int32)) / (3 : Int32)) * (3 : Int32)) < (2 : Int32)
        · obtain ⟨fs, hr, hrun, hended, hW, hsame⟩ := X95.leave (v := some (.int (1 : Int32))) (fun h => by rw [Bd.returns] at h; cases h)
          refine ⟨_, _, pre98 _ ?_, hrun, hended, _, _, rfl, ?_, ⟨_, rfl⟩, hW, hsame.mono (by decide) (by decide)⟩
          · show oP p e below T95 (mkF m 37 #[oI p0, oI p1, oI ((p0 &&& (3 : Int32)) - ((p0 &&& (3 : Int32)) / (3 : Int32)) * (3 : Int32)), oI ((p1 &&& (3 : Int32)) - ((p1 &&& (3 : Int32)) / (3 : Int32)) * (3 : Int32))] [(.int (2 : Int32)), (.int ((p0 &&& (3 : Int32)) - ((p0 &&& (3 : Int32)) / (3 : Int32)) * (3 : Int32)))]) _
            refine XS.icmpYes X95.here hx rfl (pc0 := 37) (pc' := 53) rfl (hb hby d18_37) rfl (tlt hc99).1 (by decide) (by decide) ?_
            show oP p e below T95 (mkF m 53 #[oI p0, oI p1, oI ((p0 &&& (3 : Int32)) - ((p0 &&& (3 : Int32)) / (3 : Int32)) * (3 : Int32)), oI ((p1 &&& (3 : Int32)) - ((p1 &&& (3 : Int32)) / (3 : Int32)) * (3 : Int32))] []) _
            refine XS.iconst X95.here hx rfl (hb hby d18_53) ?_
            show oP p e below T95 (mkF m 54 #[oI p0, oI p1, oI ((p0 &&& (3 : Int32)) - ((p0 &&& (3 : Int32)) / (3 : Int32)) * (3 : Int32)), oI ((p1 &&& (3 : Int32)) - ((p1 &&& (3 : Int32)) / (3 : Int32)) * (3 : Int32))] [(.int (1 : Int32))]) _
            exact retN X95 hx (t := .boolean) Bd.returns (by simp) (hb hby d18_54) hr
          · show (some (.int (1 : Int32)) : Option Value) = some (.int (fn18 Z p0 p1)) ∧ Fr n0 _ ∧ T95.heap = h0
            rw [h95q]
            refine ⟨?_, N95, rfl⟩
            unfold fn18
            rw [if_pos hc85, if_neg hc87, if_pos hc97, if_pos hc99]
        · obtain ⟨_, _, ⟨T100, L100, k100, n100⟩, -, X100, ⟨Lc100, hQ100, l100, y100, z100⟩, st100⟩ := Jvm.LawKit.callS X95 hx (y := (⟨"com/example/meerkat/meerkat/ExpansionFileEqualsPinLaw", "c1", "(I)I"⟩ : MethodName)) hown (mvT hZ (hw _ (List.mem_of_getElem? (i := 54) rfl))) (mvT hZ (hw _ (List.mem_of_getElem? (i := 55) rfl))) (mvT hZ (hw _ (List.mem_of_getElem? (i := 6) rfl))) (mvT hZ (hw _ (List.mem_of_getElem? (i := 56) rfl))) (by decide) (backOf (W := 0) (rm8 l Z a0 hw hS [] p0 h0 n0 O0) hZ (hw _ (List.mem_of_getElem? (i := 56) rfl)) (hw _ (List.mem_of_getElem? (i := 6) rfl)) (by decide) (by decide)) (g := (mkF m 41 #[oI p0, oI p1, oI ((p0 &&& (3 : Int32)) - ((p0 &&& (3 : Int32)) / (3 : Int32)) * (3 : Int32)), oI ((p1 &&& (3 : Int32)) - ((p1 &&& (3 : Int32)) / (3 : Int32)) * (3 : Int32))] [(.int p0)])) rfl (by rw [hml]; rfl) (argsL := [(.int p0)]) (rest := []) (lenOf pd_3 rfl) rfl (by show 2 * 0 + _ ≤ _; exact Nat.le_of_eq rfl) (hb hby d18_41) (fun _ _ => ⟨rfl, h95q, (by decide : 0 + 0 ≤ _), (by decide : 0 + 0 ≤ _)⟩)
          dsimp only [Pt.U, Pt.locs, Pt.cells, Pt.slots] at X100 l100 y100 z100 st100 hQ100
          subst l100 y100 z100
          obtain ⟨v100, N100q, h100q⟩ := hQ100
          have w100 : (fn8 Z p0) = (((p0.toUInt32 >>> ((10 : Int32) &&& 31).toUInt32).toInt32) &&& (255 : Int32)) := rfl
          rw [w100] at v100
          subst v100
          have N100 := Fr.app N95 N100q
          obtain ⟨lo101, X101, N101⟩ := own_hide X100 N100
          obtain ⟨_, _, ⟨T102, L102, k102, n102⟩, -, X102, ⟨Lc102, hQ102, l102, y102, z102⟩, st102⟩ := Jvm.LawKit.callS X101 hx (y := (⟨"com/example/meerkat/meerkat/ExpansionFileEqualsPinLaw", "c1", "(I)I"⟩ : MethodName)) hown (mvT hZ (hw _ (List.mem_of_getElem? (i := 54) rfl))) (mvT hZ (hw _ (List.mem_of_getElem? (i := 55) rfl))) (mvT hZ (hw _ (List.mem_of_getElem? (i := 6) rfl))) (mvT hZ (hw _ (List.mem_of_getElem? (i := 56) rfl))) (by decide) (backOf (W := 1) (rm8 l Z a0 hw hS [] p1 h0 n0 O0) hZ (hw _ (List.mem_of_getElem? (i := 56) rfl)) (hw _ (List.mem_of_getElem? (i := 6) rfl)) (by decide) (by decide)) (g := (mkF m 45 #[oI p0, oI p1, oI ((p0 &&& (3 : Int32)) - ((p0 &&& (3 : Int32)) / (3 : Int32)) * (3 : Int32)), oI ((p1 &&& (3 : Int32)) - ((p1 &&& (3 : Int32)) / (3 : Int32)) * (3 : Int32))] [(.int p1), (.int (((p0.toUInt32 >>> ((10 : Int32) &&& 31).toUInt32).toInt32) &&& (255 : Int32)))])) rfl (by rw [hml]; rfl) (argsL := [(.int p1)]) (rest := [(.int (((p0.toUInt32 >>> ((10 : Int32) &&& 31).toUInt32).toInt32) &&& (255 : Int32)))]) (lenOf pd_3 rfl) rfl (by show 2 * 0 + _ ≤ _; exact Nat.le_of_eq rfl) (hb hby d18_45) (fun _ _ => ⟨rfl, h100q, (by decide : 0 + 0 ≤ _), (by decide : 0 + 0 ≤ _)⟩)
          dsimp only [Pt.U, Pt.locs, Pt.cells, Pt.slots] at X102 l102 y102 z102 st102 hQ102
          subst l102 y102 z102
          obtain ⟨v102, N102q, h102q⟩ := hQ102
          have w102 : (fn8 Z p1) = (((p1.toUInt32 >>> ((10 : Int32) &&& 31).toUInt32).toInt32) &&& (255 : Int32)) := rfl
          rw [w102] at v102
          subst v102
          have N102 := Fr.app N101 N102q
          have pre103 : ∀ t, oP p e below T102 (mkF m 48 #[oI p0, oI p1, oI ((p0 &&& (3 : Int32)) - ((p0 &&& (3 : Int32)) / (3 : Int32)) * (3 : Int32)), oI ((p1 &&& (3 : Int32)) - ((p1 &&& (3 : Int32)) / (3 : Int32)) * (3 : Int32))] [(.int (((p1.toUInt32 >>> ((10 : Int32) &&& 31).toUInt32).toInt32) &&& (255 : Int32))), (.int (((p0.toUInt32 >>> ((10 : Int32) &&& 31).toUInt32).toInt32) &&& (255 : Int32)))]) t → oP p e below s₁ (entryFrame m #[(.int p0), (.int p1)] 4) t := fun t k => pre98 t (by
            show oP p e below T95 (mkF m 37 #[oI p0, oI p1, oI ((p0 &&& (3 : Int32)) - ((p0 &&& (3 : Int32)) / (3 : Int32)) * (3 : Int32)), oI ((p1 &&& (3 : Int32)) - ((p1 &&& (3 : Int32)) / (3 : Int32)) * (3 : Int32))] [(.int (2 : Int32)), (.int ((p0 &&& (3 : Int32)) - ((p0 &&& (3 : Int32)) / (3 : Int32)) * (3 : Int32)))]) _
            refine XS.icmpNo X95.here hx rfl (hb hby d18_37) rfl (flt hc99).1 ?_
            show oP p e below T95 (mkF m 40 #[oI p0, oI p1, oI ((p0 &&& (3 : Int32)) - ((p0 &&& (3 : Int32)) / (3 : Int32)) * (3 : Int32)), oI ((p1 &&& (3 : Int32)) - ((p1 &&& (3 : Int32)) / (3 : Int32)) * (3 : Int32))] []) _
            refine XS.iloadN X95.here hx rfl (hb hby d18_40) rfl ?_
            show oP p e below T95 (mkF m 41 #[oI p0, oI p1, oI ((p0 &&& (3 : Int32)) - ((p0 &&& (3 : Int32)) / (3 : Int32)) * (3 : Int32)), oI ((p1 &&& (3 : Int32)) - ((p1 &&& (3 : Int32)) / (3 : Int32)) * (3 : Int32))] [(.int p0)]) _
            refine st100 _ ?_
            show oP p e below T100 (mkF m 44 #[oI p0, oI p1, oI ((p0 &&& (3 : Int32)) - ((p0 &&& (3 : Int32)) / (3 : Int32)) * (3 : Int32)), oI ((p1 &&& (3 : Int32)) - ((p1 &&& (3 : Int32)) / (3 : Int32)) * (3 : Int32))] [(.int (((p0.toUInt32 >>> ((10 : Int32) &&& 31).toUInt32).toInt32) &&& (255 : Int32)))]) _
            refine XS.iloadN X100.here hx rfl (hb hby d18_44) rfl ?_
            show oP p e below T100 (mkF m 45 #[oI p0, oI p1, oI ((p0 &&& (3 : Int32)) - ((p0 &&& (3 : Int32)) / (3 : Int32)) * (3 : Int32)), oI ((p1 &&& (3 : Int32)) - ((p1 &&& (3 : Int32)) / (3 : Int32)) * (3 : Int32))] [(.int p1), (.int (((p0.toUInt32 >>> ((10 : Int32) &&& 31).toUInt32).toInt32) &&& (255 : Int32)))]) _
            refine st102 _ ?_
            exact k)
          by_cases hc104 : (((p0.toUInt32 >>> ((10 : Int32) &&& 31).toUInt32).toInt32) &&& (255 : Int32)) = (((p1.toUInt32 >>> ((10 : Int32) &&& 31).toUInt32).toInt32) &&& (255 : Int32))
          · obtain ⟨fs, hr, hrun, hended, hW, hsame⟩ := X102.leave (v := some (.int (1 : Int32))) (fun h => by rw [Bd.returns] at h; cases h)
            refine ⟨_, _, pre103 _ ?_, hrun, hended, _, _, rfl, ?_, ⟨_, rfl⟩, hW, hsame.mono (by decide) (by decide)⟩
            · show oP p e below T102 (mkF m 48 #[oI p0, oI p1, oI ((p0 &&& (3 : Int32)) - ((p0 &&& (3 : Int32)) / (3 : Int32)) * (3 : Int32)), oI ((p1 &&& (3 : Int32)) - ((p1 &&& (3 : Int32)) / (3 : Int32)) * (3 : Int32))] [(.int (((p1.toUInt32 >>> ((10 : Int32) &&& 31).toUInt32).toInt32) &&& (255 : Int32))), (.int (((p0.toUInt32 >>> ((10 : Int32) &&& 31).toUInt32).toInt32) &&& (255 : Int32)))]) _
              refine XS.icmpYes X102.here hx rfl (pc0 := 48) (pc' := 53) rfl (hb hby d18_48) rfl (teq hc104).1 (by decide) (by decide) ?_
              show oP p e below T102 (mkF m 53 #[oI p0, oI p1, oI ((p0 &&& (3 : Int32)) - ((p0 &&& (3 : Int32)) / (3 : Int32)) * (3 : Int32)), oI ((p1 &&& (3 : Int32)) - ((p1 &&& (3 : Int32)) / (3 : Int32)) * (3 : Int32))] []) _
              refine XS.iconst X102.here hx rfl (hb hby d18_53) ?_
              show oP p e below T102 (mkF m 54 #[oI p0, oI p1, oI ((p0 &&& (3 : Int32)) - ((p0 &&& (3 : Int32)) / (3 : Int32)) * (3 : Int32)), oI ((p1 &&& (3 : Int32)) - ((p1 &&& (3 : Int32)) / (3 : Int32)) * (3 : Int32))] [(.int (1 : Int32))]) _
              exact retN X102 hx (t := .boolean) Bd.returns (by simp) (hb hby d18_54) hr
            · show (some (.int (1 : Int32)) : Option Value) = some (.int (fn18 Z p0 p1)) ∧ Fr n0 _ ∧ T102.heap = h0
              rw [h102q]
              refine ⟨?_, N102, rfl⟩
              unfold fn18
              rw [if_pos hc85, if_neg hc87, if_pos hc97, if_neg hc99, if_pos hc104]
          · obtain ⟨fs, hr, hrun, hended, hW, hsame⟩ := X102.leave (v := some (.int (0 : Int32))) (fun h => by rw [Bd.returns] at h; cases h)
            refine ⟨_, _, pre103 _ ?_, hrun, hended, _, _, rfl, ?_, ⟨_, rfl⟩, hW, hsame.mono (by decide) (by decide)⟩
            · show oP p e below T102 (mkF m 48 #[oI p0, oI p1, oI ((p0 &&& (3 : Int32)) - ((p0 &&& (3 : Int32)) / (3 : Int32)) * (3 : Int32)), oI ((p1 &&& (3 : Int32)) - ((p1 &&& (3 : Int32)) / (3 : Int32)) * (3 : Int32))] [(.int (((p1.toUInt32 >>> ((10 : Int32) &&& 31).toUInt32).toInt32) &&& (255 : Int32))), (.int (((p0.toUInt32 >>> ((10 : Int32) &&& 31).toUInt32).toInt32) &&& (255 : Int32)))]) _
              refine XS.icmpNo X102.here hx rfl (hb hby d18_48) rfl (feq hc104).1 ?_
              show oP p e below T102 (mkF m 51 #[oI p0, oI p1, oI ((p0 &&& (3 : Int32)) - ((p0 &&& (3 : Int32)) / (3 : Int32)) * (3 : Int32)), oI ((p1 &&& (3 : Int32)) - ((p1 &&& (3 : Int32)) / (3 : Int32)) * (3 : Int32))] []) _
              refine XS.iconst X102.here hx rfl (hb hby d18_51) ?_
              show oP p e below T102 (mkF m 52 #[oI p0, oI p1, oI ((p0 &&& (3 : Int32)) - ((p0 &&& (3 : Int32)) / (3 : Int32)) * (3 : Int32)), oI ((p1 &&& (3 : Int32)) - ((p1 &&& (3 : Int32)) / (3 : Int32)) * (3 : Int32))] [(.int (0 : Int32))]) _
              exact retN X102 hx (t := .boolean) Bd.returns (by simp) (hb hby d18_52) hr
            · show (some (.int (0 : Int32)) : Option Value) = some (.int (fn18 Z p0 p1)) ∧ Fr n0 _ ∧ T102.heap = h0
              rw [h102q]
              refine ⟨?_, N102, rfl⟩
              unfold fn18
              rw [if_pos hc85, if_neg hc87, if_pos hc97, if_neg hc99, if_neg hc104]
      · obtain ⟨fs, hr, hrun, hended, hW, hsame⟩ := X95.leave (v := some (.int (0 : Int32))) (fun h => by rw [Bd.returns] at h; cases h)
        refine ⟨_, _, pre96 _ ?_, hrun, hended, _, _, rfl, ?_, ⟨_, rfl⟩, hW, hsame.mono (by decide) (by decide)⟩
        · show oP p e below T95 (mkF m 30 #[oI p0, oI p1, oI ((p0 &&& (3 : Int32)) - ((p0 &&& (3 : Int32)) / (3 : Int32)) * (3 : Int32)), oI ((p1 &&& (3 : Int32)) - ((p1 &&& (3 : Int32)) / (3 : Int32)) * (3 : Int32))] [(.int (((p1.toUInt32 >>> ((2 : Int32) &&& 31).toUInt32).toInt32) &&& (255 : Int32))), (.int (((p0.toUInt32 >>> ((2 : Int32) &&& 31).toUInt32).toInt32) &&& (255 : Int32)))]) _
          refine XS.icmpNo X95.here hx rfl (hb hby d18_30) rfl (feq hc97).1 ?_
          show oP p e below T95 (mkF m 33 #[oI p0, oI p1, oI ((p0 &&& (3 : Int32)) - ((p0 &&& (3 : Int32)) / (3 : Int32)) * (3 : Int32)), oI ((p1 &&& (3 : Int32)) - ((p1 &&& (3 : Int32)) / (3 : Int32)) * (3 : Int32))] []) _
          refine XS.iconst X95.here hx rfl (hb hby d18_33) ?_
          show oP p e below T95 (mkF m 34 #[oI p0, oI p1, oI ((p0 &&& (3 : Int32)) - ((p0 &&& (3 : Int32)) / (3 : Int32)) * (3 : Int32)), oI ((p1 &&& (3 : Int32)) - ((p1 &&& (3 : Int32)) / (3 : Int32)) * (3 : Int32))] [(.int (0 : Int32))]) _
          exact retN X95 hx (t := .boolean) Bd.returns (by simp) (hb hby d18_34) hr
        · show (some (.int (0 : Int32)) : Option Value) = some (.int (fn18 Z p0 p1)) ∧ Fr n0 _ ∧ T95.heap = h0
          rw [h95q]
          refine ⟨?_, N95, rfl⟩
          unfold fn18
          rw [if_pos hc85, if_neg hc87, if_neg hc97]
  · obtain ⟨fs, hr, hrun, hended, hW, hsame⟩ := X83.leave (v := some (.int (0 : Int32))) (fun h => by rw [Bd.returns] at h; cases h)
    refine ⟨_, _, pre84 _ ?_, hrun, hended, _, _, rfl, ?_, ⟨_, rfl⟩, hW, hsame.mono (by decide) (by decide)⟩
    · show oP p e below T83 (mkF m 12 #[oI p0, oI p1, oI ((p0 &&& (3 : Int32)) - ((p0 &&& (3 : Int32)) / (3 : Int32)) * (3 : Int32)), oI ((p1 &&& (3 : Int32)) - ((p1 &&& (3 : Int32)) / (3 : Int32)) * (3 : Int32))] [(.int ((p1 &&& (3 : Int32)) - ((p1 &&& (3 : Int32)) / (3 : Int32)) * (3 : Int32))), (.int ((p0 &&& (3 : Int32)) - ((p0 &&& (3 : Int32)) / (3 : Int32)) * (3 : Int32)))]) _
      refine XS.icmpNo X83.here hx rfl (hb hby d18_12) rfl (feq hc85).1 ?_
      show oP p e below T83 (mkF m 15 #[oI p0, oI p1, oI ((p0 &&& (3 : Int32)) - ((p0 &&& (3 : Int32)) / (3 : Int32)) * (3 : Int32)), oI ((p1 &&& (3 : Int32)) - ((p1 &&& (3 : Int32)) / (3 : Int32)) * (3 : Int32))] []) _
      refine XS.iconst X83.here hx rfl (hb hby d18_15) ?_
      show oP p e below T83 (mkF m 16 #[oI p0, oI p1, oI ((p0 &&& (3 : Int32)) - ((p0 &&& (3 : Int32)) / (3 : Int32)) * (3 : Int32)), oI ((p1 &&& (3 : Int32)) - ((p1 &&& (3 : Int32)) / (3 : Int32)) * (3 : Int32))] [(.int (0 : Int32))]) _
      exact retN X83 hx (t := .boolean) Bd.returns (by simp) (hb hby d18_16) hr
    · show (some (.int (0 : Int32)) : Option Value) = some (.int (fn18 Z p0 p1)) ∧ Fr n0 _ ∧ T83.heap = h0
      rw [h83q]
      refine ⟨?_, N83, rfl⟩
      unfold fn18
      rw [if_neg hc85]
theorem own_same18 (Z : State) (a b : Int32) : fn18 Z a b = if strcs a = strcs b then (1 : Int32) else (0 : Int32) := by
  unfold fn18 strcs
  have ha := rng_rem3 a
  have hb := rng_rem3 b
  generalize ((a &&& (3 : Int32)) - ((a &&& (3 : Int32)) / (3 : Int32)) * (3 : Int32)) = la at ha ⊢
  generalize ((b &&& (3 : Int32)) - ((b &&& (3 : Int32)) / (3 : Int32)) * (3 : Int32)) = lb at hb ⊢
  generalize (((a.toUInt32 >>> ((2 : Int32) &&& 31).toUInt32).toInt32) &&& (255 : Int32)) = c at ⊢
  generalize (((b.toUInt32 >>> ((2 : Int32) &&& 31).toUInt32).toInt32) &&& (255 : Int32)) = d at ⊢
  generalize (((a.toUInt32 >>> ((10 : Int32) &&& 31).toUInt32).toInt32) &&& (255 : Int32)) = c' at ⊢
  generalize (((b.toUInt32 >>> ((10 : Int32) &&& 31).toUInt32).toInt32) &&& (255 : Int32)) = d' at ⊢
  rcases ha with rfl | rfl | rfl <;> rcases hb with rfl | rfl | rfl <;> by_cases h1 : c = d <;> by_cases h2 : c' = d' <;> simp +decide [h1, h2]
theorem d19_0 : decode prog_17_method_7_code 0 = .ok (.aload_n 1, 1) := by decide +kernel
theorem d19_1 : decode prog_17_method_7_code 1 = .ok (.instanceof 18, 3) := by decide +kernel
theorem d19_4 : decode prog_17_method_7_code 4 = .ok (.ifCond .ne 5, 3) := by decide +kernel
theorem d19_7 : decode prog_17_method_7_code 7 = .ok (.iconst 0, 1) := by decide +kernel
theorem d19_8 : decode prog_17_method_7_code 8 = .ok (.ireturn, 1) := by decide +kernel
def fn19n (Z : State) (r0 : Addr) : Int32 :=
  (0 : Int32)
theorem ef_19n (m : MethodId) (x0 : Addr) : entryFrame m #[(.ref x0), .null] 3 = mkF m 0 #[.val (.ref x0), .val .null, .unset] [] := by first | (simp [entryFrame, mkF, argsToLocals, Value.category]; done) | rfl
set_option maxRecDepth 65536 in
set_option maxHeartbeats 40000000 in
theorem rm19n (l : Launch) (Z : State) (a0 : Array Value) (hw : ∀ d ∈ tables_1, d.before a0 Z = true) (hS : St Z) (ws : List Jvm.Cond) (r0 : Addr) (h0 : Heap) (n0 : Nat) (O0 : Old Z n0 h0) :
    MetFree l (⟨"com/example/meerkat/meerkat/ExpansionFile", "equals", "(Ljava/lang/Object;)Z"⟩ : MethodName) (head1 (Jvm.Cond.code (⟨"com/example/meerkat/meerkat/ExpansionFile", "equals", "(Ljava/lang/Object;)Z"⟩ : MethodName) prog_17_method_7_code 3 (some .boolean) :: ws) ({ frames := 0, cells := 0, slots := 0, locals := 0 } : Room)) (fun a U => a = #[(.ref r0), .null] ∧ Z.Warmed39 U.vm ∧ U.heap = h0) (fun _ _ _ _ _ => True) (fun _ U o U' => ∃ v L, o = .returned v ∧ own_Q (fun v hE L => v = some (.int (fn19n Z r0)) ∧ Fr n0 L ∧ Keep h0 hE []) v U'.heap L ∧ FrameEnd U o U' L ({ frames := 0, cells := 0, slots := 0, locals := 0 } : Room).cells ({ frames := 0, cells := 0, slots := 0, locals := 0 } : Room).slots) := by
  refine MetFree.of_bodySF (plainFor_of_name pn_4) hisR ?_
  intro p e s m args below meth c s₁ Bd hml0 hP hK
  obtain ⟨rfl, hZ, hh⟩ := hP
  have hx := Bd.exec
  have hby := Bd.bytes
  have hml : c.maxLocals = 3 := hml0
  have hown : s.vm.findClass "com/example/meerkat/meerkat/ExpansionFile" = some m.cls := findClass_of_methodNamed Bd.named
  have hnm := (name_of_methodNamed Bd.named Bd.method).1
  have X0 : Stand p l e ({ frames := 0, cells := 0, slots := 0, locals := 0 } : Room) s m #[(.ref r0), .null] below meth c s₁ [] 0 0 := Stand.of_body Bd
  have e0 : s₁.heap = h0 := by rw [← hh, Bd.state]; rfl
  have N0 := Fr.nil n0
  have pre0 : ∀ t, Steps p.tables e below (s₁.setTop (mkF m 0 #[oR r0, oN, oU] [])) t → Steps p.tables e below (s₁.setTop (entryFrame m #[(.ref r0), .null] 3)) t := fun t k => castTop (ef_19n m r0) k
  obtain ⟨fs, hr, hrun, hended, hW, hsame⟩ := X0.leave (v := some (.int (0 : Int32))) (fun h => by rw [Bd.returns] at h; cases h)
  refine ⟨_, _, pre0 _ ?_, hrun, hended, _, _, rfl, ?_, ⟨_, rfl⟩, hW, hsame.mono (by decide) (by decide)⟩
  · show oP p e below s₁ (mkF m 0 #[oR r0, oN, oU] []) _
    refine XS.aloadN X0.here hx rfl (hb hby d19_0) rfl rfl ?_
    show oP p e below s₁ (mkF m 1 #[oR r0, oN, oU] [.null]) _
    refine X0.instanceofNull hx (g := (mkF m 1 #[oR r0, oN, oU] [.null])) rfl rfl (hb hby d19_1) _ ?_
    show oP p e below s₁ (mkF m 4 #[oR r0, oN, oU] [(.int (0 : Int32))]) _
    refine XS.ifNo X0.here hx rfl (hb hby d19_4) rfl ((if0 _ _).trans (teq (by decide : (0 : Int32) = (0 : Int32))).2) ?_
    show oP p e below s₁ (mkF m 7 #[oR r0, oN, oU] []) _
    refine XS.iconst X0.here hx rfl (hb hby d19_7) ?_
    show oP p e below s₁ (mkF m 8 #[oR r0, oN, oU] [(.int (0 : Int32))]) _
    exact retN X0 hx (t := .boolean) Bd.returns (by simp) (hb hby d19_8) hr
  · show (some (.int (0 : Int32)) : Option Value) = some (.int (fn19n Z r0)) ∧ Fr n0 _ ∧ Keep h0 s₁.heap []
    rw [e0]
    refine ⟨?_, N0, (Keep.refl h0 [])⟩
    rfl
def fn19s (Z : State) (r0 : Addr) (r1 : Addr) : Int32 :=
  (0 : Int32)
theorem ef_19s (m : MethodId) (x0 : Addr) (x1 : Addr) : entryFrame m #[(.ref x0), (.ref x1)] 3 = mkF m 0 #[.val (.ref x0), .val (.ref x1), .unset] [] := by first | (simp [entryFrame, mkF, argsToLocals, Value.category]; done) | rfl
set_option maxRecDepth 65536 in
set_option maxHeartbeats 40000000 in
theorem rm19s (l : Launch) (Z : State) (a0 : Array Value) (hw : ∀ d ∈ tables_1, d.before a0 Z = true) (hS : St Z) (ws : List Jvm.Cond) (r0 : Addr) (r1 : Addr) (h0 : Heap) (n0 : Nat) (O0 : Old Z n0 h0) (E_r1 : Exa Z h0 r1 "java/lang/String") :
    MetFree l (⟨"com/example/meerkat/meerkat/ExpansionFile", "equals", "(Ljava/lang/Object;)Z"⟩ : MethodName) (head1 (Jvm.Cond.code (⟨"com/example/meerkat/meerkat/ExpansionFile", "equals", "(Ljava/lang/Object;)Z"⟩ : MethodName) prog_17_method_7_code 3 (some .boolean) :: ws) ({ frames := 0, cells := 0, slots := 0, locals := 0 } : Room)) (fun a U => a = #[(.ref r0), (.ref r1)] ∧ Z.Warmed39 U.vm ∧ U.heap = h0) (fun _ _ _ _ _ => True) (fun _ U o U' => ∃ v L, o = .returned v ∧ own_Q (fun v hE L => v = some (.int (fn19s Z r0 r1)) ∧ Fr n0 L ∧ Keep h0 hE []) v U'.heap L ∧ FrameEnd U o U' L ({ frames := 0, cells := 0, slots := 0, locals := 0 } : Room).cells ({ frames := 0, cells := 0, slots := 0, locals := 0 } : Room).slots) := by
  refine MetFree.of_bodySF (plainFor_of_name pn_4) hisR ?_
  intro p e s m args below meth c s₁ Bd hml0 hP hK
  obtain ⟨rfl, hZ, hh⟩ := hP
  have hx := Bd.exec
  have hby := Bd.bytes
  have hml : c.maxLocals = 3 := hml0
  have hown : s.vm.findClass "com/example/meerkat/meerkat/ExpansionFile" = some m.cls := findClass_of_methodNamed Bd.named
  have hnm := (name_of_methodNamed Bd.named Bd.method).1
  have X0 : Stand p l e ({ frames := 0, cells := 0, slots := 0, locals := 0 } : Room) s m #[(.ref r0), (.ref r1)] below meth c s₁ [] 0 0 := Stand.of_body Bd
  have e0 : s₁.heap = h0 := by rw [← hh, Bd.state]; rfl
  have N0 := Fr.nil n0
  have pre0 : ∀ t, Steps p.tables e below (s₁.setTop (mkF m 0 #[oR r0, oR r1, oU] [])) t → Steps p.tables e below (s₁.setTop (entryFrame m #[(.ref r0), (.ref r1)] 3)) t := fun t k => castTop (ef_19s m r0 r1) k
  obtain ⟨T105, X105, e105, st105⟩ := instNo X0 hx hZ hown (hw _ (List.mem_of_getElem? (i := 100) rfl)) e0 E_r1 (own_nsno (hw _ (List.mem_of_getElem? (i := 115) rfl)) (hw _ (List.mem_of_getElem? (i := 2) rfl)) (NS.step (hw _ (List.mem_of_getElem? (i := 115) rfl)) (own_nsroot (hw _ (List.mem_of_getElem? (i := 116) rfl)) (hw _ (List.mem_of_getElem? (i := 2) rfl)) (by decide)) (by decide)) (by decide)) (g := (mkF m 1 #[oR r0, oR r1, oU] [(.ref r1)])) rfl rfl (hb hby d19_1)
  obtain ⟨fs, hr, hrun, hended, hW, hsame⟩ := X105.leave (v := some (.int (0 : Int32))) (fun h => by rw [Bd.returns] at h; cases h)
  refine ⟨_, _, pre0 _ ?_, hrun, hended, _, _, rfl, ?_, ⟨_, rfl⟩, hW, hsame.mono (by decide) (by decide)⟩
  · show oP p e below s₁ (mkF m 0 #[oR r0, oR r1, oU] []) _
    refine XS.aloadN X0.here hx rfl (hb hby d19_0) rfl rfl ?_
    show oP p e below s₁ (mkF m 1 #[oR r0, oR r1, oU] [(.ref r1)]) _
    refine st105 _ ?_
    show oP p e below T105 (mkF m 4 #[oR r0, oR r1, oU] [(.int (0 : Int32))]) _
    refine XS.ifNo X105.here hx rfl (hb hby d19_4) rfl ((if0 _ _).trans (teq (by decide : (0 : Int32) = (0 : Int32))).2) ?_
    show oP p e below T105 (mkF m 7 #[oR r0, oR r1, oU] []) _
    refine XS.iconst X105.here hx rfl (hb hby d19_7) ?_
    show oP p e below T105 (mkF m 8 #[oR r0, oR r1, oU] [(.int (0 : Int32))]) _
    exact retN X105 hx (t := .boolean) Bd.returns (by simp) (hb hby d19_8) hr
  · show (some (.int (0 : Int32)) : Option Value) = some (.int (fn19s Z r0 r1)) ∧ Fr n0 _ ∧ Keep h0 T105.heap []
    rw [e105]
    refine ⟨?_, N0, (Keep.refl h0 [])⟩
    rfl
theorem d19_9 : decode prog_17_method_7_code 9 = .ok (.aload_n 1, 1) := by decide +kernel
theorem d19_10 : decode prog_17_method_7_code 10 = .ok (.checkcast 18, 3) := by decide +kernel
theorem d19_13 : decode prog_17_method_7_code 13 = .ok (.astore_n 2, 1) := by decide +kernel
theorem d19_14 : decode prog_17_method_7_code 14 = .ok (.aload_n 0, 1) := by decide +kernel
theorem d19_15 : decode prog_17_method_7_code 15 = .ok (.getfield 17, 3) := by decide +kernel
theorem d19_18 : decode prog_17_method_7_code 18 = .ok (.aload_n 2, 1) := by decide +kernel
theorem d19_19 : decode prog_17_method_7_code 19 = .ok (.getfield 17, 3) := by decide +kernel
theorem d19_22 : decode prog_17_method_7_code 22 = .ok (.if_acmp .ne 47, 3) := by decide +kernel
theorem d19_25 : decode prog_17_method_7_code 25 = .ok (.aload_n 0, 1) := by decide +kernel
theorem d19_26 : decode prog_17_method_7_code 26 = .ok (.getfield 26, 3) := by decide +kernel
theorem d19_29 : decode prog_17_method_7_code 29 = .ok (.aload_n 2, 1) := by decide +kernel
theorem d19_30 : decode prog_17_method_7_code 30 = .ok (.getfield 26, 3) := by decide +kernel
theorem d19_33 : decode prog_17_method_7_code 33 = .ok (.invokevirtual 86, 3) := by decide +kernel
theorem pd_7 : parseMethodDescriptor "(Ljava/lang/Object;)Z" = some ⟨[(.object "java/lang/Object")], some .boolean⟩ := by decide +kernel
theorem d19_36 : decode prog_17_method_7_code 36 = .ok (.ifCond .eq 33, 3) := by decide +kernel
theorem d19_69 : decode prog_17_method_7_code 69 = .ok (.iconst 0, 1) := by decide +kernel
theorem d19_70 : decode prog_17_method_7_code 70 = .ok (.ireturn, 1) := by decide +kernel
theorem d19_39 : decode prog_17_method_7_code 39 = .ok (.aload_n 0, 1) := by decide +kernel
theorem d19_40 : decode prog_17_method_7_code 40 = .ok (.getfield 31, 3) := by decide +kernel
theorem d19_43 : decode prog_17_method_7_code 43 = .ok (.aload_n 2, 1) := by decide +kernel
theorem d19_44 : decode prog_17_method_7_code 44 = .ok (.getfield 31, 3) := by decide +kernel
theorem d19_47 : decode prog_17_method_7_code 47 = .ok (.invokevirtual 86, 3) := by decide +kernel
theorem d19_50 : decode prog_17_method_7_code 50 = .ok (.ifCond .eq 19, 3) := by decide +kernel
theorem d19_53 : decode prog_17_method_7_code 53 = .ok (.aload_n 0, 1) := by decide +kernel
theorem d19_54 : decode prog_17_method_7_code 54 = .ok (.getfield 33, 3) := by decide +kernel
theorem d19_57 : decode prog_17_method_7_code 57 = .ok (.aload_n 2, 1) := by decide +kernel
theorem d19_58 : decode prog_17_method_7_code 58 = .ok (.getfield 33, 3) := by decide +kernel
theorem d19_61 : decode prog_17_method_7_code 61 = .ok (.lcmp, 1) := by decide +kernel
theorem d19_62 : decode prog_17_method_7_code 62 = .ok (.ifCond .ne 7, 3) := by decide +kernel
theorem d19_65 : decode prog_17_method_7_code 65 = .ok (.iconst 1, 1) := by decide +kernel
theorem d19_66 : decode prog_17_method_7_code 66 = .ok (.goto 4, 3) := by decide +kernel
def fn19q (Z : State) (r0 : Addr) (r1 : Addr) (m1 : Addr) (m2 : Addr) (x1 : Addr) (x2 : Addr) (y1 : Addr) (y2 : Addr) (u1 : Int64) (u2 : Int64) (tx1 : Addr) (kx1 : ClassId) (cx1 : List Int32) (tx2 : Addr) (kx2 : ClassId) (cx2 : List Int32) (ty1 : Addr) (ky1 : ClassId) (cy1 : List Int32) (ty2 : Addr) (ky2 : ClassId) (cy2 : List Int32) : Int32 :=
  if m1 = m2 then
    if (if cx1 = cx2 then (1 : Int32) else (0 : Int32)) = (0 : Int32) then
      (0 : Int32)
    else
      if (if cy1 = cy2 then (1 : Int32) else (0 : Int32)) = (0 : Int32) then
        (0 : Int32)
      else
        if (lcmpW u1 u2) = (0 : Int32) then
          (1 : Int32)
        else
          (0 : Int32)
  else
    (0 : Int32)
theorem ef_19q (m : MethodId) (x0 : Addr) (x1 : Addr) : entryFrame m #[(.ref x0), (.ref x1)] 3 = mkF m 0 #[.val (.ref x0), .val (.ref x1), .unset] [] := by first | (simp [entryFrame, mkF, argsToLocals, Value.category]; done) | rfl
set_option maxRecDepth 65536 in
set_option maxHeartbeats 40000000 in
theorem rm19q (l : Launch) (Z : State) (a0 : Array Value) (hw : ∀ d ∈ tables_1, d.before a0 Z = true) (hS : St Z) (ws : List Jvm.Cond) (r0 : Addr) (r1 : Addr) (m1 : Addr) (m2 : Addr) (x1 : Addr) (x2 : Addr) (y1 : Addr) (y2 : Addr) (u1 : Int64) (u2 : Int64) (tx1 : Addr) (kx1 : ClassId) (cx1 : List Int32) (tx2 : Addr) (kx2 : ClassId) (cx2 : List Int32) (ty1 : Addr) (ky1 : ClassId) (cy1 : List Int32) (ty2 : Addr) (ky2 : ClassId) (cy2 : List Int32) (h0 : Heap) (n0 : Nat) (O0 : Old Z n0 h0) (E_r1 : Exa Z h0 r1 "com/example/meerkat/meerkat/ExpansionFile") (F_kind_r0 : Fld Z h0 r0 "com/example/meerkat/meerkat/ExpansionFile" "kind" "Lcom/example/meerkat/meerkat/ExpansionFile$Kind;" (.ref m1)) (F_kind_r1 : Fld Z h0 r1 "com/example/meerkat/meerkat/ExpansionFile" "kind" "Lcom/example/meerkat/meerkat/ExpansionFile$Kind;" (.ref m2)) (F_url_r0 : Fld Z h0 r0 "com/example/meerkat/meerkat/ExpansionFile" "url" "Ljava/lang/String;" (.ref x1)) (F_url_r1 : Fld Z h0 r1 "com/example/meerkat/meerkat/ExpansionFile" "url" "Ljava/lang/String;" (.ref x2)) (F_fileName_r0 : Fld Z h0 r0 "com/example/meerkat/meerkat/ExpansionFile" "fileName" "Ljava/lang/String;" (.ref y1)) (F_fileName_r1 : Fld Z h0 r1 "com/example/meerkat/meerkat/ExpansionFile" "fileName" "Ljava/lang/String;" (.ref y2)) (F_size_r0 : Fld Z h0 r0 "com/example/meerkat/meerkat/ExpansionFile" "size" "J" (.long u1)) (F_size_r1 : Fld Z h0 r1 "com/example/meerkat/meerkat/ExpansionFile" "size" "J" (.long u2)) (E_x1 : Exa Z h0 x1 "java/lang/String") (F_coder_x1 : Fld Z h0 x1 "java/lang/String" "coder" "B" (.int (0 : Int32))) (F_value_x1 : Fld Z h0 x1 "java/lang/String" "value" "[B" (.ref tx1)) (V_tx1 : Arv Z h0 tx1 kx1 .byte (Int32.ofNat cx1.length) ((cx1.map (fun c => c.toInt8.toInt32)).map Value.int) (.int (0 : Int32))) (hp_x1 : ∀ c ∈ cx1, ¬ c < 0 ∧ ¬ (255 : Int32) < c) (hl_x1 : cx1.length ≤ 4000) (E_x2 : Exa Z h0 x2 "java/lang/String") (F_coder_x2 : Fld Z h0 x2 "java/lang/String" "coder" "B" (.int (0 : Int32))) (F_value_x2 : Fld Z h0 x2 "java/lang/String" "value" "[B" (.ref tx2)) (V_tx2 : Arv Z h0 tx2 kx2 .byte (Int32.ofNat cx2.length) ((cx2.map (fun c => c.toInt8.toInt32)).map Value.int) (.int (0 : Int32))) (hp_x2 : ∀ c ∈ cx2, ¬ c < 0 ∧ ¬ (255 : Int32) < c) (hl_x2 : cx2.length ≤ 4000) (E_y1 : Exa Z h0 y1 "java/lang/String") (F_coder_y1 : Fld Z h0 y1 "java/lang/String" "coder" "B" (.int (0 : Int32))) (F_value_y1 : Fld Z h0 y1 "java/lang/String" "value" "[B" (.ref ty1)) (V_ty1 : Arv Z h0 ty1 ky1 .byte (Int32.ofNat cy1.length) ((cy1.map (fun c => c.toInt8.toInt32)).map Value.int) (.int (0 : Int32))) (hp_y1 : ∀ c ∈ cy1, ¬ c < 0 ∧ ¬ (255 : Int32) < c) (hl_y1 : cy1.length ≤ 4000) (E_y2 : Exa Z h0 y2 "java/lang/String") (F_coder_y2 : Fld Z h0 y2 "java/lang/String" "coder" "B" (.int (0 : Int32))) (F_value_y2 : Fld Z h0 y2 "java/lang/String" "value" "[B" (.ref ty2)) (V_ty2 : Arv Z h0 ty2 ky2 .byte (Int32.ofNat cy2.length) ((cy2.map (fun c => c.toInt8.toInt32)).map Value.int) (.int (0 : Int32))) (hp_y2 : ∀ c ∈ cy2, ¬ c < 0 ∧ ¬ (255 : Int32) < c) (hl_y2 : cy2.length ≤ 4000) :
    MetFree l (⟨"com/example/meerkat/meerkat/ExpansionFile", "equals", "(Ljava/lang/Object;)Z"⟩ : MethodName) (head1 (Jvm.Cond.code (⟨"com/example/meerkat/meerkat/ExpansionFile", "equals", "(Ljava/lang/Object;)Z"⟩ : MethodName) prog_17_method_7_code 3 (some .boolean) :: ws) ({ frames := 2, cells := 0, slots := 0, locals := 28 } : Room)) (fun a U => a = #[(.ref r0), (.ref r1)] ∧ Z.Warmed39 U.vm ∧ U.heap = h0) (fun _ _ _ _ _ => True) (fun _ U o U' => ∃ v L, o = .returned v ∧ own_Q (fun v hE L => v = some (.int (fn19q Z r0 r1 m1 m2 x1 x2 y1 y2 u1 u2 tx1 kx1 cx1 tx2 kx2 cx2 ty1 ky1 cy1 ty2 ky2 cy2)) ∧ Fr n0 L ∧ Keep h0 hE []) v U'.heap L ∧ FrameEnd U o U' L ({ frames := 2, cells := 0, slots := 0, locals := 28 } : Room).cells ({ frames := 2, cells := 0, slots := 0, locals := 28 } : Room).slots) := by
  refine MetFree.of_bodySF (plainFor_of_name pn_4) hisR ?_
  intro p e s m args below meth c s₁ Bd hml0 hP hK
  obtain ⟨rfl, hZ, hh⟩ := hP
  have hx := Bd.exec
  have hby := Bd.bytes
  have hml : c.maxLocals = 3 := hml0
  have hown : s.vm.findClass "com/example/meerkat/meerkat/ExpansionFile" = some m.cls := findClass_of_methodNamed Bd.named
  have hnm := (name_of_methodNamed Bd.named Bd.method).1
  have X0 : Stand p l e ({ frames := 2, cells := 0, slots := 0, locals := 28 } : Room) s m #[(.ref r0), (.ref r1)] below meth c s₁ [] 0 0 := Stand.of_body Bd
  have e0 : s₁.heap = h0 := by rw [← hh, Bd.state]; rfl
  have N0 := Fr.nil n0
  have pre0 : ∀ t, Steps p.tables e below (s₁.setTop (mkF m 0 #[oR r0, oR r1, oU] [])) t → Steps p.tables e below (s₁.setTop (entryFrame m #[(.ref r0), (.ref r1)] 3)) t := fun t k => castTop (ef_19q m r0 r1) k
  obtain ⟨T106, X106, e106, st106⟩ := instY X0 hx hZ hown (hw _ (List.mem_of_getElem? (i := 100) rfl)) e0 (Ins.of_exa E_r1 (hw _ (List.mem_of_getElem? (i := 101) rfl))) (g := (mkF m 1 #[oR r0, oR r1, oU] [(.ref r1)])) rfl rfl (hb hby d19_1)
  obtain ⟨T107, X107, e107, st107⟩ := castY X106 hx hZ hown (hw _ (List.mem_of_getElem? (i := 100) rfl)) e106 (Ins.of_exa E_r1 (hw _ (List.mem_of_getElem? (i := 101) rfl))) (g := (mkF m 10 #[oR r0, oR r1, oU] [(.ref r1)])) rfl rfl (hb hby d19_10)
  obtain ⟨T108, X108, e108, st108⟩ := getF X107 hx hZ hown (host := "") (Or.inl (hw _ (List.mem_of_getElem? (i := 38) rfl))) Via.refl e107 F_kind_r0 (g := (mkF m 15 #[oR r0, oR r1, oR r1] [(.ref r0)])) rfl rfl (hb hby d19_15)
  obtain ⟨T109, X109, e109, st109⟩ := getF X108 hx hZ hown (host := "") (Or.inl (hw _ (List.mem_of_getElem? (i := 38) rfl))) Via.refl e108 F_kind_r1 (g := (mkF m 19 #[oR r0, oR r1, oR r1] [(.ref r1), (.ref m1)])) rfl rfl (hb hby d19_19)
  have pre110 : ∀ t, oP p e below T109 (mkF m 22 #[oR r0, oR r1, oR r1] [(.ref m2), (.ref m1)]) t → oP p e below s₁ (entryFrame m #[(.ref r0), (.ref r1)] 3) t := fun t k => pre0 t (by
    show oP p e below s₁ (mkF m 0 #[oR r0, oR r1, oU] []) _
    refine XS.aloadN X0.here hx rfl (hb hby d19_0) rfl rfl ?_
    show oP p e below s₁ (mkF m 1 #[oR r0, oR r1, oU] [(.ref r1)]) _
    refine st106 _ ?_
    show oP p e below T106 (mkF m 4 #[oR r0, oR r1, oU] [(.int (1 : Int32))]) _
    refine XS.ifYes X106.here hx rfl (pc0 := 4) (pc' := 9) rfl (hb hby d19_4) rfl ((if0 _ _).trans (feq (by decide : ¬ ((1 : Int32) = (0 : Int32)))).2) (by decide) (by decide) ?_
    show oP p e below T106 (mkF m 9 #[oR r0, oR r1, oU] []) _
    refine XS.aloadN X106.here hx rfl (hb hby d19_9) rfl rfl ?_
    show oP p e below T106 (mkF m 10 #[oR r0, oR r1, oU] [(.ref r1)]) _
    refine st107 _ ?_
    show oP p e below T107 (mkF m 13 #[oR r0, oR r1, oU] [(.ref r1)]) _
    refine XS.astoreN X107.here hx rfl (hb hby d19_13) rfl rfl (l' := #[oR r0, oR r1, oR r1]) rfl ?_
    show oP p e below T107 (mkF m 14 #[oR r0, oR r1, oR r1] []) _
    refine XS.aloadN X107.here hx rfl (hb hby d19_14) rfl rfl ?_
    show oP p e below T107 (mkF m 15 #[oR r0, oR r1, oR r1] [(.ref r0)]) _
    refine st108 _ ?_
    show oP p e below T108 (mkF m 18 #[oR r0, oR r1, oR r1] [(.ref m1)]) _
    refine XS.aloadN X108.here hx rfl (hb hby d19_18) rfl rfl ?_
    show oP p e below T108 (mkF m 19 #[oR r0, oR r1, oR r1] [(.ref r1), (.ref m1)]) _
    refine st109 _ ?_
    exact k)
  by_cases hc111 : m1 = m2
  · obtain ⟨T112, X112, e112, st112⟩ := getF X109 hx hZ hown (host := "") (Or.inl (hw _ (List.mem_of_getElem? (i := 43) rfl))) Via.refl e109 F_url_r0 (g := (mkF m 26 #[oR r0, oR r1, oR r1] [(.ref r0)])) rfl rfl (hb hby d19_26)
    obtain ⟨T113, X113, e113, st113⟩ := getF X112 hx hZ hown (host := "") (Or.inl (hw _ (List.mem_of_getElem? (i := 43) rfl))) Via.refl e112 F_url_r1 (g := (mkF m 30 #[oR r0, oR r1, oR r1] [(.ref r1), (.ref x1)])) rfl rfl (hb hby d19_30)
    obtain ⟨cq114, kq114, q114a, q114b, q114c⟩ := isOf hZ e113 E_x1
    obtain ⟨_, _, ⟨T114, L114, k114, n114⟩, -, X114, ⟨Lc114, hQ114, l114, y114, z114⟩, st114⟩ := X113.virtualBack hx (y := (⟨"java/lang/String", "equals", "(Ljava/lang/Object;)Z"⟩ : MethodName)) (z := (⟨"java/lang/String", "equals", "(Ljava/lang/Object;)Z"⟩ : MethodName)) hown (mvT hZ (hw _ (List.mem_of_getElem? (i := 102) rfl))) (mvT hZ (hw _ (List.mem_of_getElem? (i := 103) rfl))) (notFace_of_selects (args := #[]) (mvT hZ (hw _ (List.mem_of_getElem? (i := 105) rfl)))) (mvT hZ (hw _ (List.mem_of_getElem? (i := 105) rfl))) (mvT hZ (hw _ (List.mem_of_getElem? (i := 104) rfl))) (by decide) (StrChars.Road.eqW (W := 0) hZ (own_wsEq hw) (kI := 4) (hw _ (List.mem_of_getElem? (i := 19) rfl)) E_x1 F_value_x1 F_coder_x1 V_tx1 (StrChars.Road.codOf rfl (fun c hc => (hp_x1 c hc).2)) (own_hb hp_x1) hl_x1 E_x2 F_value_x2 F_coder_x2 V_tx2 (StrChars.Road.codOf rfl (fun c hc => (hp_x2 c hc).2)) (own_hb hp_x2) hl_x2 ((s_compact hS).ext O0.2) (n_compact hS) (by decide) (by decide)) q114a q114c (g := (mkF m 33 #[oR r0, oR r1, oR r1] [(.ref x2), (.ref x1)])) rfl (by rw [hml]; rfl) (Steps.refl _) (argsL := [(.ref x2)]) (rest := []) (lenOf pd_7 rfl) rfl (by show 2 * 0 + _ ≤ _; exact Nat.le_of_eq rfl) (hb hby d19_33) (fun _ _ => ⟨rfl, e113, (by decide : 0 + 0 ≤ _), (by decide : 0 + 0 ≤ _)⟩)
    dsimp only [Pt.U, Pt.locs, Pt.cells, Pt.slots] at X114 l114 y114 z114 st114 hQ114
    subst l114 y114 z114
    obtain ⟨hc114, lq114, h114q⟩ := hQ114
    have v114 := own_eqv hc114
    subst v114 lq114
    have N114 := Fr.app N0 (Fr.nil n0)
    have pre115 : ∀ t, oP p e below T114 (mkF m 36 #[oR r0, oR r1, oR r1] [(.int (if cx1 = cx2 then (1 : Int32) else (0 : Int32)))]) t → oP p e below s₁ (entryFrame m #[(.ref r0), (.ref r1)] 3) t := fun t k => pre110 t (by
      show oP p e below T109 (mkF m 22 #[oR r0, oR r1, oR r1] [(.ref m2), (.ref m1)]) _
      refine Jvm.RoadKit.acmp (g := (mkF m 22 #[oR r0, oR r1, oR r1] [(.ref m2), (.ref m1)])) X109 hx rfl rfl rfl (pc0 := 22) (pc' := 25) (same := true) rfl (hb hby d19_22) rfl (decide_eq_true (congrArg Value.ref hc111)) (by decide) (by decide) ?_
      show oP p e below T109 (mkF m 25 #[oR r0, oR r1, oR r1] []) _
      refine XS.aloadN X109.here hx rfl (hb hby d19_25) rfl rfl ?_
      show oP p e below T109 (mkF m 26 #[oR r0, oR r1, oR r1] [(.ref r0)]) _
      refine st112 _ ?_
      show oP p e below T112 (mkF m 29 #[oR r0, oR r1, oR r1] [(.ref x1)]) _
      refine XS.aloadN X112.here hx rfl (hb hby d19_29) rfl rfl ?_
      show oP p e below T112 (mkF m 30 #[oR r0, oR r1, oR r1] [(.ref r1), (.ref x1)]) _
      refine st113 _ ?_
      show oP p e below T113 (mkF m 33 #[oR r0, oR r1, oR r1] [(.ref x2), (.ref x1)]) _
      refine st114.trans ?_
      exact k)
    by_cases hc116 : (if cx1 = cx2 then (1 : Int32) else (0 : Int32)) = (0 : Int32)
    · obtain ⟨fs, hr, hrun, hended, hW, hsame⟩ := X114.leave (v := some (.int (0 : Int32))) (fun h => by rw [Bd.returns] at h; cases h)
      refine ⟨_, _, pre115 _ ?_, hrun, hended, _, _, rfl, ?_, ⟨_, rfl⟩, hW, hsame.mono (by decide) (by decide)⟩
      · show oP p e below T114 (mkF m 36 #[oR r0, oR r1, oR r1] [(.int (if cx1 = cx2 then (1 : Int32) else (0 : Int32)))]) _
        refine XS.ifYes X114.here hx rfl (pc0 := 36) (pc' := 69) rfl (hb hby d19_36) rfl ((if0 _ _).trans (teq hc116).1) (by decide) (by decide) ?_
        show oP p e below T114 (mkF m 69 #[oR r0, oR r1, oR r1] []) _
        refine XS.iconst X114.here hx rfl (hb hby d19_69) ?_
        show oP p e below T114 (mkF m 70 #[oR r0, oR r1, oR r1] [(.int (0 : Int32))]) _
        exact retN X114 hx (t := .boolean) Bd.returns (by simp) (hb hby d19_70) hr
      · show (some (.int (0 : Int32)) : Option Value) = some (.int (fn19q Z r0 r1 m1 m2 x1 x2 y1 y2 u1 u2 tx1 kx1 cx1 tx2 kx2 cx2 ty1 ky1 cy1 ty2 ky2 cy2)) ∧ Fr n0 _ ∧ Keep h0 T114.heap []
        rw [h114q]
        refine ⟨?_, N114, (Keep.refl h0 [])⟩
        unfold fn19q
        rw [if_pos hc111, if_pos hc116]
    · obtain ⟨T117, X117, e117, st117⟩ := getF X114 hx hZ hown (host := "") (Or.inl (hw _ (List.mem_of_getElem? (i := 46) rfl))) Via.refl h114q F_fileName_r0 (g := (mkF m 40 #[oR r0, oR r1, oR r1] [(.ref r0)])) rfl rfl (hb hby d19_40)
      obtain ⟨T118, X118, e118, st118⟩ := getF X117 hx hZ hown (host := "") (Or.inl (hw _ (List.mem_of_getElem? (i := 46) rfl))) Via.refl e117 F_fileName_r1 (g := (mkF m 44 #[oR r0, oR r1, oR r1] [(.ref r1), (.ref y1)])) rfl rfl (hb hby d19_44)
      obtain ⟨cq119, kq119, q119a, q119b, q119c⟩ := isOf hZ e118 E_y1
      obtain ⟨_, _, ⟨T119, L119, k119, n119⟩, -, X119, ⟨Lc119, hQ119, l119, y119, z119⟩, st119⟩ := X118.virtualBack hx (y := (⟨"java/lang/String", "equals", "(Ljava/lang/Object;)Z"⟩ : MethodName)) (z := (⟨"java/lang/String", "equals", "(Ljava/lang/Object;)Z"⟩ : MethodName)) hown (mvT hZ (hw _ (List.mem_of_getElem? (i := 102) rfl))) (mvT hZ (hw _ (List.mem_of_getElem? (i := 103) rfl))) (notFace_of_selects (args := #[]) (mvT hZ (hw _ (List.mem_of_getElem? (i := 105) rfl)))) (mvT hZ (hw _ (List.mem_of_getElem? (i := 105) rfl))) (mvT hZ (hw _ (List.mem_of_getElem? (i := 104) rfl))) (by decide) (StrChars.Road.eqW (W := 0) hZ (own_wsEq hw) (kI := 4) (hw _ (List.mem_of_getElem? (i := 19) rfl)) E_y1 F_value_y1 F_coder_y1 V_ty1 (StrChars.Road.codOf rfl (fun c hc => (hp_y1 c hc).2)) (own_hb hp_y1) hl_y1 E_y2 F_value_y2 F_coder_y2 V_ty2 (StrChars.Road.codOf rfl (fun c hc => (hp_y2 c hc).2)) (own_hb hp_y2) hl_y2 ((s_compact hS).ext O0.2) (n_compact hS) (by decide) (by decide)) q119a q119c (g := (mkF m 47 #[oR r0, oR r1, oR r1] [(.ref y2), (.ref y1)])) rfl (by rw [hml]; rfl) (Steps.refl _) (argsL := [(.ref y2)]) (rest := []) (lenOf pd_7 rfl) rfl (by show 2 * 0 + _ ≤ _; exact Nat.le_of_eq rfl) (hb hby d19_47) (fun _ _ => ⟨rfl, e118, (by decide : 0 + 0 ≤ _), (by decide : 0 + 0 ≤ _)⟩)
      dsimp only [Pt.U, Pt.locs, Pt.cells, Pt.slots] at X119 l119 y119 z119 st119 hQ119
      subst l119 y119 z119
      obtain ⟨hc119, lq119, h119q⟩ := hQ119
      have v119 := own_eqv hc119
      subst v119 lq119
      have N119 := Fr.app N114 (Fr.nil n0)
      have pre120 : ∀ t, oP p e below T119 (mkF m 50 #[oR r0, oR r1, oR r1] [(.int (if cy1 = cy2 then (1 : Int32) else (0 : Int32)))]) t → oP p e below s₁ (entryFrame m #[(.ref r0), (.ref r1)] 3) t := fun t k => pre115 t (by
        show oP p e below T114 (mkF m 36 #[oR r0, oR r1, oR r1] [(.int (if cx1 = cx2 then (1 : Int32) else (0 : Int32)))]) _
        refine XS.ifNo X114.here hx rfl (hb hby d19_36) rfl ((if0 _ _).trans (feq hc116).1) ?_
        show oP p e below T114 (mkF m 39 #[oR r0, oR r1, oR r1] []) _
        refine XS.aloadN X114.here hx rfl (hb hby d19_39) rfl rfl ?_
        show oP p e below T114 (mkF m 40 #[oR r0, oR r1, oR r1] [(.ref r0)]) _
        refine st117 _ ?_
        show oP p e below T117 (mkF m 43 #[oR r0, oR r1, oR r1] [(.ref y1)]) _
        refine XS.aloadN X117.here hx rfl (hb hby d19_43) rfl rfl ?_
        show oP p e below T117 (mkF m 44 #[oR r0, oR r1, oR r1] [(.ref r1), (.ref y1)]) _
        refine st118 _ ?_
        show oP p e below T118 (mkF m 47 #[oR r0, oR r1, oR r1] [(.ref y2), (.ref y1)]) _
        refine st119.trans ?_
        exact k)
      by_cases hc121 : (if cy1 = cy2 then (1 : Int32) else (0 : Int32)) = (0 : Int32)
      · obtain ⟨fs, hr, hrun, hended, hW, hsame⟩ := X119.leave (v := some (.int (0 : Int32))) (fun h => by rw [Bd.returns] at h; cases h)
        refine ⟨_, _, pre120 _ ?_, hrun, hended, _, _, rfl, ?_, ⟨_, rfl⟩, hW, hsame.mono (by decide) (by decide)⟩
        · show oP p e below T119 (mkF m 50 #[oR r0, oR r1, oR r1] [(.int (if cy1 = cy2 then (1 : Int32) else (0 : Int32)))]) _
          refine XS.ifYes X119.here hx rfl (pc0 := 50) (pc' := 69) rfl (hb hby d19_50) rfl ((if0 _ _).trans (teq hc121).1) (by decide) (by decide) ?_
          show oP p e below T119 (mkF m 69 #[oR r0, oR r1, oR r1] []) _
          refine XS.iconst X119.here hx rfl (hb hby d19_69) ?_
          show oP p e below T119 (mkF m 70 #[oR r0, oR r1, oR r1] [(.int (0 : Int32))]) _
          exact retN X119 hx (t := .boolean) Bd.returns (by simp) (hb hby d19_70) hr
        · show (some (.int (0 : Int32)) : Option Value) = some (.int (fn19q Z r0 r1 m1 m2 x1 x2 y1 y2 u1 u2 tx1 kx1 cx1 tx2 kx2 cx2 ty1 ky1 cy1 ty2 ky2 cy2)) ∧ Fr n0 _ ∧ Keep h0 T119.heap []
          rw [h119q]
          refine ⟨?_, N119, (Keep.refl h0 [])⟩
          unfold fn19q
          rw [if_pos hc111, if_neg hc116, if_pos hc121]
      · obtain ⟨T122, X122, e122, st122⟩ := getF X119 hx hZ hown (host := "") (Or.inl (hw _ (List.mem_of_getElem? (i := 48) rfl))) Via.refl h119q F_size_r0 (g := (mkF m 54 #[oR r0, oR r1, oR r1] [(.ref r0)])) rfl rfl (hb hby d19_54)
        obtain ⟨T123, X123, e123, st123⟩ := getF X122 hx hZ hown (host := "") (Or.inl (hw _ (List.mem_of_getElem? (i := 48) rfl))) Via.refl e122 F_size_r1 (g := (mkF m 58 #[oR r0, oR r1, oR r1] [(.ref r1), (.long u1)])) rfl rfl (hb hby d19_58)
        have pre124 : ∀ t, oP p e below T123 (mkF m 62 #[oR r0, oR r1, oR r1] [(.int (lcmpW u1 u2))]) t → oP p e below s₁ (entryFrame m #[(.ref r0), (.ref r1)] 3) t := fun t k => pre120 t (by
          show oP p e below T119 (mkF m 50 #[oR r0, oR r1, oR r1] [(.int (if cy1 = cy2 then (1 : Int32) else (0 : Int32)))]) _
          refine XS.ifNo X119.here hx rfl (hb hby d19_50) rfl ((if0 _ _).trans (feq hc121).1) ?_
          show oP p e below T119 (mkF m 53 #[oR r0, oR r1, oR r1] []) _
          refine XS.aloadN X119.here hx rfl (hb hby d19_53) rfl rfl ?_
          show oP p e below T119 (mkF m 54 #[oR r0, oR r1, oR r1] [(.ref r0)]) _
          refine st122 _ ?_
          show oP p e below T122 (mkF m 57 #[oR r0, oR r1, oR r1] [(.long u1)]) _
          refine XS.aloadN X122.here hx rfl (hb hby d19_57) rfl rfl ?_
          show oP p e below T122 (mkF m 58 #[oR r0, oR r1, oR r1] [(.ref r1), (.long u1)]) _
          refine st123 _ ?_
          show oP p e below T123 (mkF m 61 #[oR r0, oR r1, oR r1] [(.long u2), (.long u1)]) _
          refine XS.lcmp X123.here hx rfl (hb hby d19_61) rfl ?_
          exact k)
        by_cases hc125 : (lcmpW u1 u2) = (0 : Int32)
        · obtain ⟨fs, hr, hrun, hended, hW, hsame⟩ := X123.leave (v := some (.int (1 : Int32))) (fun h => by rw [Bd.returns] at h; cases h)
          refine ⟨_, _, pre124 _ ?_, hrun, hended, _, _, rfl, ?_, ⟨_, rfl⟩, hW, hsame.mono (by decide) (by decide)⟩
          · show oP p e below T123 (mkF m 62 #[oR r0, oR r1, oR r1] [(.int (lcmpW u1 u2))]) _
            refine XS.ifNo X123.here hx rfl (hb hby d19_62) rfl ((if0 _ _).trans (teq hc125).2) ?_
            show oP p e below T123 (mkF m 65 #[oR r0, oR r1, oR r1] []) _
            refine XS.iconst X123.here hx rfl (hb hby d19_65) ?_
            show oP p e below T123 (mkF m 66 #[oR r0, oR r1, oR r1] [(.int (1 : Int32))]) _
            refine XS.goto X123.here hx rfl (pc0 := 66) (pc' := 70) rfl (hb hby d19_66) (by decide) (by decide) ?_
            show oP p e below T123 (mkF m 70 #[oR r0, oR r1, oR r1] [(.int (1 : Int32))]) _
            exact retN X123 hx (t := .boolean) Bd.returns (by simp) (hb hby d19_70) hr
          · show (some (.int (1 : Int32)) : Option Value) = some (.int (fn19q Z r0 r1 m1 m2 x1 x2 y1 y2 u1 u2 tx1 kx1 cx1 tx2 kx2 cx2 ty1 ky1 cy1 ty2 ky2 cy2)) ∧ Fr n0 _ ∧ Keep h0 T123.heap []
            rw [e123]
            refine ⟨?_, N119, (Keep.refl h0 [])⟩
            unfold fn19q
            rw [if_pos hc111, if_neg hc116, if_neg hc121, if_pos hc125]
        · obtain ⟨fs, hr, hrun, hended, hW, hsame⟩ := X123.leave (v := some (.int (0 : Int32))) (fun h => by rw [Bd.returns] at h; cases h)
          refine ⟨_, _, pre124 _ ?_, hrun, hended, _, _, rfl, ?_, ⟨_, rfl⟩, hW, hsame.mono (by decide) (by decide)⟩
          · show oP p e below T123 (mkF m 62 #[oR r0, oR r1, oR r1] [(.int (lcmpW u1 u2))]) _
            refine XS.ifYes X123.here hx rfl (pc0 := 62) (pc' := 69) rfl (hb hby d19_62) rfl ((if0 _ _).trans (feq hc125).2) (by decide) (by decide) ?_
            show oP p e below T123 (mkF m 69 #[oR r0, oR r1, oR r1] []) _
            refine XS.iconst X123.here hx rfl (hb hby d19_69) ?_
            show oP p e below T123 (mkF m 70 #[oR r0, oR r1, oR r1] [(.int (0 : Int32))]) _
            exact retN X123 hx (t := .boolean) Bd.returns (by simp) (hb hby d19_70) hr
          · show (some (.int (0 : Int32)) : Option Value) = some (.int (fn19q Z r0 r1 m1 m2 x1 x2 y1 y2 u1 u2 tx1 kx1 cx1 tx2 kx2 cx2 ty1 ky1 cy1 ty2 ky2 cy2)) ∧ Fr n0 _ ∧ Keep h0 T123.heap []
            rw [e123]
            refine ⟨?_, N119, (Keep.refl h0 [])⟩
            unfold fn19q
            rw [if_pos hc111, if_neg hc116, if_neg hc121, if_neg hc125]
  · obtain ⟨fs, hr, hrun, hended, hW, hsame⟩ := X109.leave (v := some (.int (0 : Int32))) (fun h => by rw [Bd.returns] at h; cases h)
    refine ⟨_, _, pre110 _ ?_, hrun, hended, _, _, rfl, ?_, ⟨_, rfl⟩, hW, hsame.mono (by decide) (by decide)⟩
    · show oP p e below T109 (mkF m 22 #[oR r0, oR r1, oR r1] [(.ref m2), (.ref m1)]) _
      refine Jvm.RoadKit.acmp (g := (mkF m 22 #[oR r0, oR r1, oR r1] [(.ref m2), (.ref m1)])) X109 hx rfl rfl rfl (pc0 := 22) (pc' := 69) (same := false) rfl (hb hby d19_22) rfl (decide_eq_false fun q => hc111 (Value.ref.inj q)) (by decide) (by decide) ?_
      show oP p e below T109 (mkF m 69 #[oR r0, oR r1, oR r1] []) _
      refine XS.iconst X109.here hx rfl (hb hby d19_69) ?_
      show oP p e below T109 (mkF m 70 #[oR r0, oR r1, oR r1] [(.int (0 : Int32))]) _
      exact retN X109 hx (t := .boolean) Bd.returns (by simp) (hb hby d19_70) hr
    · show (some (.int (0 : Int32)) : Option Value) = some (.int (fn19q Z r0 r1 m1 m2 x1 x2 y1 y2 u1 u2 tx1 kx1 cx1 tx2 kx2 cx2 ty1 ky1 cy1 ty2 ky2 cy2)) ∧ Fr n0 _ ∧ Keep h0 T109.heap []
      rw [e109]
      refine ⟨?_, N0, (Keep.refl h0 [])⟩
      unfold fn19q
      rw [if_neg hc111]
theorem exa_fn1 {Z : State} (hS : St Z) (p : Int32) : Exa Z Z.heap (fn1 Z p) "com/example/meerkat/meerkat/ExpansionFile$Kind" := by
  unfold fn1
  exact own_ite (P := fun a => Exa Z Z.heap a "com/example/meerkat/meerkat/ExpansionFile$Kind") (e_a_MAIN hS) (e_a_PATCH hS)
theorem own_kind {Z : State} (hS : St Z) {a b : Int32} (ra : a = (0 : Int32) ∨ a = (1 : Int32)) (rb : b = (0 : Int32) ∨ b = (1 : Int32)) : (fn1 Z a = fn1 Z b) ↔ a = b := by
  have ne : a_MAIN Z ≠ a_PATCH Z := ((f_a_MAIN_ordinal hS).ne (f_a_PATCH_ordinal hS) (by decide))
  have ne' := Ne.symm ne
  have v0 : fn1 Z (0 : Int32) = a_MAIN Z := rfl
  have v1 : fn1 Z (1 : Int32) = a_PATCH Z := rfl
  rcases ra with rfl | rfl <;> rcases rb with rfl | rfl <;> simp +decide [v0, v1, ne, ne']
theorem own_lcmp0 (x : Int64) : lcmpW x x = (0 : Int32) := by simp [lcmpW]
theorem pd_8 : parseMethodDescriptor "(I)Lcom/example/meerkat/meerkat/ExpansionFile$Kind;" = some ⟨[.int], some (.object "com/example/meerkat/meerkat/ExpansionFile$Kind")⟩ := by decide +kernel
theorem pd_9 : parseMethodDescriptor "(I)Ljava/lang/String;" = some ⟨[.int], some (.object "java/lang/String")⟩ := by decide +kernel
theorem pd_10 : parseMethodDescriptor "(Lcom/example/meerkat/meerkat/ExpansionFile$Kind;Ljava/lang/String;Ljava/lang/String;J)V" = some ⟨[(.object "com/example/meerkat/meerkat/ExpansionFile$Kind"), (.object "java/lang/String"), (.object "java/lang/String"), .long], none⟩ := by decide +kernel
theorem pd_11 : parseMethodDescriptor "(II)Z" = some ⟨[.int, .int], some .boolean⟩ := by decide +kernel
theorem ab214 {Z : State} (hS : St Z) (p0 : Int32) (p1 : Int32) (sa : Int32) (sb : Int32) (za : Int64) (zb : Int64) (ka : Int32) (kb : Int32) (rka : ka = (0 : Int32) ∨ ka = (1 : Int32)) (rkb : kb = (0 : Int32) ∨ kb = (1 : Int32)) (hc206 : ka = kb) (hc209 : (fn18 Z p0 sa) = (0 : Int32)) (hc212 : ¬ ((fn19q Z b144 b160 (fn1 Z ka) (fn1 Z kb) b_146 b_167 b_150 b_172 za zb t_146 kt_146 (strcs p0) t_167 kt_167 (strcs sa) t_150 kt_150 (strcs p1) t_172 kt_172 (strcs sb)) = (0 : Int32))) : False := by
  have hk := own_kind hS rka rkb
  have s_hc212 : ¬ ((0 : Int32) = (fn19q Z b144 b160 (fn1 Z ka) (fn1 Z kb) b_146 b_167 b_150 b_172 za zb t_146 kt_146 (strcs p0) t_167 kt_167 (strcs sa) t_150 kt_150 (strcs p1) t_172 kt_172 (strcs sb))) := fun q => hc212 q.symm
  simp_all [fn19q, own_same18]
theorem ab223 {Z : State} (hS : St Z) (p0 : Int32) (p1 : Int32) (sa : Int32) (sb : Int32) (za : Int64) (zb : Int64) (ka : Int32) (kb : Int32) (rka : ka = (0 : Int32) ∨ ka = (1 : Int32)) (rkb : kb = (0 : Int32) ∨ kb = (1 : Int32)) (hc206 : ka = kb) (hc209 : ¬ ((fn18 Z p0 sa) = (0 : Int32))) (hc217 : (fn18 Z p1 sb) = (0 : Int32)) (hc221 : ¬ ((fn19q Z b144 b160 (fn1 Z ka) (fn1 Z kb) b_146 b_167 b_150 b_172 za zb t_146 kt_146 (strcs p0) t_167 kt_167 (strcs sa) t_150 kt_150 (strcs p1) t_172 kt_172 (strcs sb)) = (0 : Int32))) : False := by
  have hk := own_kind hS rka rkb
  have s_hc209 : ¬ ((0 : Int32) = (fn18 Z p0 sa)) := fun q => hc209 q.symm
  have s_hc221 : ¬ ((0 : Int32) = (fn19q Z b144 b160 (fn1 Z ka) (fn1 Z kb) b_146 b_167 b_150 b_172 za zb t_146 kt_146 (strcs p0) t_167 kt_167 (strcs sa) t_150 kt_150 (strcs p1) t_172 kt_172 (strcs sb))) := fun q => hc221 q.symm
  simp_all [fn19q, own_same18]
theorem ab231 {Z : State} (hS : St Z) (p0 : Int32) (p1 : Int32) (sa : Int32) (sb : Int32) (za : Int64) (zb : Int64) (ka : Int32) (kb : Int32) (rka : ka = (0 : Int32) ∨ ka = (1 : Int32)) (rkb : kb = (0 : Int32) ∨ kb = (1 : Int32)) (hc206 : ka = kb) (hc209 : ¬ ((fn18 Z p0 sa) = (0 : Int32))) (hc217 : ¬ ((fn18 Z p1 sb) = (0 : Int32))) (hc225 : (lcmpW za zb) = (0 : Int32)) (hc229 : ¬ ((fn19q Z b144 b160 (fn1 Z ka) (fn1 Z kb) b_146 b_167 b_150 b_172 za zb t_146 kt_146 (strcs p0) t_167 kt_167 (strcs sa) t_150 kt_150 (strcs p1) t_172 kt_172 (strcs sb)) = (1 : Int32))) : False := by
  have hk := own_kind hS rka rkb
  have s_hc209 : ¬ ((0 : Int32) = (fn18 Z p0 sa)) := fun q => hc209 q.symm
  have s_hc217 : ¬ ((0 : Int32) = (fn18 Z p1 sb)) := fun q => hc217 q.symm
  have s_hc229 : ¬ ((1 : Int32) = (fn19q Z b144 b160 (fn1 Z ka) (fn1 Z kb) b_146 b_167 b_150 b_172 za zb t_146 kt_146 (strcs p0) t_167 kt_167 (strcs sa) t_150 kt_150 (strcs p1) t_172 kt_172 (strcs sb))) := fun q => hc229 q.symm
  simp_all [fn19q, own_same18]
theorem ab237 {Z : State} (hS : St Z) (p0 : Int32) (p1 : Int32) (sa : Int32) (sb : Int32) (za : Int64) (zb : Int64) (ka : Int32) (kb : Int32) (rka : ka = (0 : Int32) ∨ ka = (1 : Int32)) (rkb : kb = (0 : Int32) ∨ kb = (1 : Int32)) (hc206 : ka = kb) (hc209 : ¬ ((fn18 Z p0 sa) = (0 : Int32))) (hc217 : ¬ ((fn18 Z p1 sb) = (0 : Int32))) (hc225 : ¬ ((lcmpW za zb) = (0 : Int32))) (hc235 : ¬ ((fn19q Z b144 b160 (fn1 Z ka) (fn1 Z kb) b_146 b_167 b_150 b_172 za zb t_146 kt_146 (strcs p0) t_167 kt_167 (strcs sa) t_150 kt_150 (strcs p1) t_172 kt_172 (strcs sb)) = (0 : Int32))) : False := by
  have hk := own_kind hS rka rkb
  have s_hc209 : ¬ ((0 : Int32) = (fn18 Z p0 sa)) := fun q => hc209 q.symm
  have s_hc217 : ¬ ((0 : Int32) = (fn18 Z p1 sb)) := fun q => hc217 q.symm
  have s_hc225 : ¬ ((0 : Int32) = (lcmpW za zb)) := fun q => hc225 q.symm
  have s_hc235 : ¬ ((0 : Int32) = (fn19q Z b144 b160 (fn1 Z ka) (fn1 Z kb) b_146 b_167 b_150 b_172 za zb t_146 kt_146 (strcs p0) t_167 kt_167 (strcs sa) t_150 kt_150 (strcs p1) t_172 kt_172 (strcs sb))) := fun q => hc235 q.symm
  simp_all [fn19q, own_same18]
theorem ab242 {Z : State} (hS : St Z) (p0 : Int32) (p1 : Int32) (sa : Int32) (sb : Int32) (za : Int64) (zb : Int64) (ka : Int32) (kb : Int32) (rka : ka = (0 : Int32) ∨ ka = (1 : Int32)) (rkb : kb = (0 : Int32) ∨ kb = (1 : Int32)) (hc206 : ¬ (ka = kb)) (hc240 : ¬ ((fn19q Z b144 b160 (fn1 Z ka) (fn1 Z kb) b_146 b_167 b_150 b_172 za zb t_146 kt_146 (strcs p0) t_167 kt_167 (strcs sa) t_150 kt_150 (strcs p1) t_172 kt_172 (strcs sb)) = (0 : Int32))) : False := by
  have hk := own_kind hS rka rkb
  have s_hc206 : ¬ (kb = ka) := fun q => hc206 q.symm
  have s_hc240 : ¬ ((0 : Int32) = (fn19q Z b144 b160 (fn1 Z ka) (fn1 Z kb) b_146 b_167 b_150 b_172 za zb t_146 kt_146 (strcs p0) t_167 kt_167 (strcs sa) t_150 kt_150 (strcs p1) t_172 kt_172 (strcs sb))) := fun q => hc240 q.symm
  simp_all [fn19q, own_same18]
theorem ef_0 (m : MethodId) (x0 : Int32) (x1 : Int32) (x2 : Int32) (x3 : Int32) (x4 : Int64) (x5 : Int64) : entryFrame m #[(.int x0), (.int x1), (.int x2), (.int x3), (.long x4), (.long x5)] maxLocals = mkF m 0 #[.val (.int x0), .val (.int x1), .val (.int x2), .val (.int x3), .val (.long x4), .second, .val (.long x5), .second, .unset, .unset, .unset, .unset, .unset, .unset, .unset, .unset, .unset, .unset, .unset, .unset, .unset, .unset, .unset, .unset] [] := by first | (simp [entryFrame, mkF, argsToLocals, Value.category, maxLocals]; done) | rfl
set_option maxRecDepth 65536 in
set_option maxHeartbeats 40000000 in
theorem rm0 (l : Launch) (Z : State) (a0 : Array Value) (hw : ∀ d ∈ tables_1, d.before a0 Z = true) (hS : St Z) (ws : List Jvm.Cond) (p0 : Int32) (p1 : Int32) (p2 : Int32) (p3 : Int32) (q4 : Int64) (q5 : Int64) (h0 : Heap) (n0 : Nat) (O0 : Old Z n0 h0) :
    MetFree l x (head1 (Jvm.Cond.code x code maxLocals ret :: ws) room_1) (fun a U => a = #[(.int p0), (.int p1), (.int p2), (.int p3), (.long q4), (.long q5)] ∧ Z.Warmed39 U.vm ∧ U.heap = h0 ∧ CHv Z own_EL U.vm h0) (fun _ _ _ _ _ => True) (fun _ U o U' => ∃ v L, o = .returned v ∧ own_Q (fun v hE L => v = some (.int (1 : Int32)) ∧ Fr n0 L ∧ Keep h0 hE []) v U'.heap L ∧ ReturnedEndW U o U' L room_1.cells room_1.slots) := by
  refine MetFree.of_bodySF (plainFor_of_name pn_2) hisR ?_
  intro p e s m args below meth c s₁ Bd hml0 hP hK
  obtain ⟨rfl, hZ, hh, hCH⟩ := hP
  have hx := Bd.exec
  have hby := Bd.bytes
  have hml : c.maxLocals = 24 := hml0
  have hown : s.vm.findClass "com/example/meerkat/meerkat/ExpansionFileEqualsPinLaw" = some m.cls := findClass_of_methodNamed Bd.named
  have hnm := (name_of_methodNamed Bd.named Bd.method).1
  have X0 : Stand p l e room_1 (s.setVm s.vm) m #[(.int p0), (.int p1), (.int p2), (.int p3), (.long q4), (.long q5)] below meth c s₁ [] 0 0 := Stand.of_body Bd
  have e0 : s₁.heap = h0 := by rw [← hh, Bd.state]; rfl
  have N0 := Fr.nil n0
  have pre0 : ∀ t, Steps p.tables e below (s₁.setTop (mkF m 0 #[oI p0, oI p1, oI p2, oI p3, oJ q4, oS, oJ q5, oS, oU, oU, oU, oU, oU, oU, oU, oU, oU, oU, oU, oU, oU, oU, oU, oU] [])) t → Steps p.tables e below (s₁.setTop (entryFrame m #[(.int p0), (.int p1), (.int p2), (.int p3), (.long q4), (.long q5)] maxLocals)) t := fun t k => castTop (ef_0 m p0 p1 p2 p3 q4 q5) k
  have hSi : s.Since s.vm 0 := own_since s
  have hki0 : 0 ≤ h0.size := Nat.zero_le _
  have hC0 : CHr Z own_EL s.vm h0 s.vm h0 := CHr.refl hCH
  obtain ⟨fl, hfl⟩ : ∃ z, z = ((p1.toUInt32 >>> ((24 : Int32) &&& 31).toUInt32).toInt32) := ⟨_, rfl⟩
  have pre126 : ∀ t, oP p e below s₁ (mkF m 10 #[oI p0, oI p1, oI p2, oI p3, oJ q4, oS, oJ q5, oS, oI fl, oU, oU, oU, oU, oU, oU, oU, oU, oU, oU, oU, oU, oU, oU, oU] [(.int (fl &&& (1 : Int32)))]) t → oP p e below s₁ (entryFrame m #[(.int p0), (.int p1), (.int p2), (.int p3), (.long q4), (.long q5)] maxLocals) t := fun t k => pre0 t (by
    show oP p e below s₁ (mkF m 0 #[oI p0, oI p1, oI p2, oI p3, oJ q4, oS, oJ q5, oS, oU, oU, oU, oU, oU, oU, oU, oU, oU, oU, oU, oU, oU, oU, oU, oU] []) _
    refine XS.iloadN X0.here hx rfl (hb hby at_0) rfl ?_
    show oP p e below s₁ (mkF m 1 #[oI p0, oI p1, oI p2, oI p3, oJ q4, oS, oJ q5, oS, oU, oU, oU, oU, oU, oU, oU, oU, oU, oU, oU, oU, oU, oU, oU, oU] [(.int p1)]) _
    refine XS.bipush X0.here hx rfl (hb hby at_1) ?_
    show oP p e below s₁ (mkF m 3 #[oI p0, oI p1, oI p2, oI p3, oJ q4, oS, oJ q5, oS, oU, oU, oU, oU, oU, oU, oU, oU, oU, oU, oU, oU, oU, oU, oU, oU] [(.int (24 : Int32)), (.int p1)]) _
    refine XS.iushr X0.here hx rfl (hb hby at_3) rfl ?_
    show oP p e below s₁ (mkF m 4 #[oI p0, oI p1, oI p2, oI p3, oJ q4, oS, oJ q5, oS, oU, oU, oU, oU, oU, oU, oU, oU, oU, oU, oU, oU, oU, oU, oU, oU] [(.int ((p1.toUInt32 >>> ((24 : Int32) &&& 31).toUInt32).toInt32))]) _
    rw [← hfl]
    show oP p e below s₁ (mkF m 4 #[oI p0, oI p1, oI p2, oI p3, oJ q4, oS, oJ q5, oS, oU, oU, oU, oU, oU, oU, oU, oU, oU, oU, oU, oU, oU, oU, oU, oU] [(.int fl)]) _
    refine XS.istore X0.here hx rfl (hb hby at_4) rfl (l' := #[oI p0, oI p1, oI p2, oI p3, oJ q4, oS, oJ q5, oS, oI fl, oU, oU, oU, oU, oU, oU, oU, oU, oU, oU, oU, oU, oU, oU, oU]) rfl ?_
    show oP p e below s₁ (mkF m 6 #[oI p0, oI p1, oI p2, oI p3, oJ q4, oS, oJ q5, oS, oI fl, oU, oU, oU, oU, oU, oU, oU, oU, oU, oU, oU, oU, oU, oU, oU] []) _
    refine XS.iload X0.here hx rfl (hb hby at_6) rfl ?_
    show oP p e below s₁ (mkF m 8 #[oI p0, oI p1, oI p2, oI p3, oJ q4, oS, oJ q5, oS, oI fl, oU, oU, oU, oU, oU, oU, oU, oU, oU, oU, oU, oU, oU, oU, oU] [(.int fl)]) _
    refine XS.iconst X0.here hx rfl (hb hby at_8) ?_
    show oP p e below s₁ (mkF m 9 #[oI p0, oI p1, oI p2, oI p3, oJ q4, oS, oJ q5, oS, oI fl, oU, oU, oU, oU, oU, oU, oU, oU, oU, oU, oU, oU, oU, oU, oU] [(.int (1 : Int32)), (.int fl)]) _
    refine XS.iand X0.here hx rfl (hb hby at_9) rfl ?_
    exact k)
  obtain ⟨sa, hsa, pre128⟩ : ∃ sa : Int32, ((((fl &&& (1 : Int32)) = (0 : Int32)) ∧ sa = p2) ∨ (¬ ((fl &&& (1 : Int32)) = (0 : Int32)) ∧ sa = ((p2 &&& (-262144 : Int32)) ||| (p0 &&& (262143 : Int32))))) ∧ ∀ t, oP p e below s₁ (mkF m 26 #[oI p0, oI p1, oI p2, oI p3, oJ q4, oS, oJ q5, oS, oI fl, oU, oU, oU, oU, oU, oU, oU, oU, oU, oU, oU, oU, oU, oU, oU] [(.int sa)]) t → oP p e below s₁ (entryFrame m #[(.int p0), (.int p1), (.int p2), (.int p3), (.long q4), (.long q5)] maxLocals) t := by
    by_cases hc127 : (fl &&& (1 : Int32)) = (0 : Int32)
    · refine ⟨p2, Or.inl ⟨hc127, rfl⟩, fun t k => pre126 t (by
        show oP p e below s₁ (mkF m 10 #[oI p0, oI p1, oI p2, oI p3, oJ q4, oS, oJ q5, oS, oI fl, oU, oU, oU, oU, oU, oU, oU, oU, oU, oU, oU, oU, oU, oU, oU] [(.int (fl &&& (1 : Int32)))]) _
        refine XS.ifYes X0.here hx rfl (pc0 := 10) (pc' := 25) rfl (hb hby at_10) rfl ((if0 _ _).trans (teq hc127).1) (by decide) (by decide) ?_
        show oP p e below s₁ (mkF m 25 #[oI p0, oI p1, oI p2, oI p3, oJ q4, oS, oJ q5, oS, oI fl, oU, oU, oU, oU, oU, oU, oU, oU, oU, oU, oU, oU, oU, oU, oU] []) _
        refine XS.iloadN X0.here hx rfl (hb hby at_25) rfl ?_
        exact k)⟩
    · refine ⟨((p2 &&& (-262144 : Int32)) ||| (p0 &&& (262143 : Int32))), Or.inr (⟨hc127, rfl⟩), fun t k => pre126 t (by
        show oP p e below s₁ (mkF m 10 #[oI p0, oI p1, oI p2, oI p3, oJ q4, oS, oJ q5, oS, oI fl, oU, oU, oU, oU, oU, oU, oU, oU, oU, oU, oU, oU, oU, oU, oU] [(.int (fl &&& (1 : Int32)))]) _
        refine XS.ifNo X0.here hx rfl (hb hby at_10) rfl ((if0 _ _).trans (feq hc127).1) ?_
        show oP p e below s₁ (mkF m 13 #[oI p0, oI p1, oI p2, oI p3, oJ q4, oS, oJ q5, oS, oI fl, oU, oU, oU, oU, oU, oU, oU, oU, oU, oU, oU, oU, oU, oU, oU] []) _
        refine XS.iloadN X0.here hx rfl (hb hby at_13) rfl ?_
        show oP p e below s₁ (mkF m 14 #[oI p0, oI p1, oI p2, oI p3, oJ q4, oS, oJ q5, oS, oI fl, oU, oU, oU, oU, oU, oU, oU, oU, oU, oU, oU, oU, oU, oU, oU] [(.int p2)]) _
        refine X0.ldcInt hx hown (mvT hZ (hw _ (List.mem_of_getElem? (i := 110) rfl))) (g := (mkF m 14 #[oI p0, oI p1, oI p2, oI p3, oJ q4, oS, oJ q5, oS, oI fl, oU, oU, oU, oU, oU, oU, oU, oU, oU, oU, oU, oU, oU, oU, oU] [(.int p2)])) rfl (hb hby at_14) _ ?_
        show oP p e below s₁ (mkF m 16 #[oI p0, oI p1, oI p2, oI p3, oJ q4, oS, oJ q5, oS, oI fl, oU, oU, oU, oU, oU, oU, oU, oU, oU, oU, oU, oU, oU, oU, oU] [(.int (-262144 : Int32)), (.int p2)]) _
        refine XS.iand X0.here hx rfl (hb hby at_16) rfl ?_
        show oP p e below s₁ (mkF m 17 #[oI p0, oI p1, oI p2, oI p3, oJ q4, oS, oJ q5, oS, oI fl, oU, oU, oU, oU, oU, oU, oU, oU, oU, oU, oU, oU, oU, oU, oU] [(.int (p2 &&& (-262144 : Int32)))]) _
        refine XS.iloadN X0.here hx rfl (hb hby at_17) rfl ?_
        show oP p e below s₁ (mkF m 18 #[oI p0, oI p1, oI p2, oI p3, oJ q4, oS, oJ q5, oS, oI fl, oU, oU, oU, oU, oU, oU, oU, oU, oU, oU, oU, oU, oU, oU, oU] [(.int p0), (.int (p2 &&& (-262144 : Int32)))]) _
        refine X0.ldcInt hx hown (mvT hZ (hw _ (List.mem_of_getElem? (i := 111) rfl))) (g := (mkF m 18 #[oI p0, oI p1, oI p2, oI p3, oJ q4, oS, oJ q5, oS, oI fl, oU, oU, oU, oU, oU, oU, oU, oU, oU, oU, oU, oU, oU, oU, oU] [(.int p0), (.int (p2 &&& (-262144 : Int32)))])) rfl (hb hby at_18) _ ?_
        show oP p e below s₁ (mkF m 20 #[oI p0, oI p1, oI p2, oI p3, oJ q4, oS, oJ q5, oS, oI fl, oU, oU, oU, oU, oU, oU, oU, oU, oU, oU, oU, oU, oU, oU, oU] [(.int (262143 : Int32)), (.int p0), (.int (p2 &&& (-262144 : Int32)))]) _
        refine XS.iand X0.here hx rfl (hb hby at_20) rfl ?_
        show oP p e below s₁ (mkF m 21 #[oI p0, oI p1, oI p2, oI p3, oJ q4, oS, oJ q5, oS, oI fl, oU, oU, oU, oU, oU, oU, oU, oU, oU, oU, oU, oU, oU, oU, oU] [(.int (p0 &&& (262143 : Int32))), (.int (p2 &&& (-262144 : Int32)))]) _
        refine XS.ior X0.here hx rfl (hb hby at_21) rfl ?_
        show oP p e below s₁ (mkF m 22 #[oI p0, oI p1, oI p2, oI p3, oJ q4, oS, oJ q5, oS, oI fl, oU, oU, oU, oU, oU, oU, oU, oU, oU, oU, oU, oU, oU, oU, oU] [(.int ((p2 &&& (-262144 : Int32)) ||| (p0 &&& (262143 : Int32))))]) _
        refine XS.goto X0.here hx rfl (pc0 := 22) (pc' := 26) rfl (hb hby at_22) (by decide) (by decide) ?_
        exact k)⟩
  have pre129 : ∀ t, oP p e below s₁ (mkF m 32 #[oI p0, oI p1, oI p2, oI p3, oJ q4, oS, oJ q5, oS, oI fl, oI sa, oU, oU, oU, oU, oU, oU, oU, oU, oU, oU, oU, oU, oU, oU] [(.int (fl &&& (2 : Int32)))]) t → oP p e below s₁ (entryFrame m #[(.int p0), (.int p1), (.int p2), (.int p3), (.long q4), (.long q5)] maxLocals) t := fun t k => pre128 t (by
    show oP p e below s₁ (mkF m 26 #[oI p0, oI p1, oI p2, oI p3, oJ q4, oS, oJ q5, oS, oI fl, oU, oU, oU, oU, oU, oU, oU, oU, oU, oU, oU, oU, oU, oU, oU] [(.int sa)]) _
    refine XS.istore X0.here hx rfl (hb hby at_26) rfl (l' := #[oI p0, oI p1, oI p2, oI p3, oJ q4, oS, oJ q5, oS, oI fl, oI sa, oU, oU, oU, oU, oU, oU, oU, oU, oU, oU, oU, oU, oU, oU]) rfl ?_
    show oP p e below s₁ (mkF m 28 #[oI p0, oI p1, oI p2, oI p3, oJ q4, oS, oJ q5, oS, oI fl, oI sa, oU, oU, oU, oU, oU, oU, oU, oU, oU, oU, oU, oU, oU, oU] []) _
    refine XS.iload X0.here hx rfl (hb hby at_28) rfl ?_
    show oP p e below s₁ (mkF m 30 #[oI p0, oI p1, oI p2, oI p3, oJ q4, oS, oJ q5, oS, oI fl, oI sa, oU, oU, oU, oU, oU, oU, oU, oU, oU, oU, oU, oU, oU, oU] [(.int fl)]) _
    refine XS.iconst X0.here hx rfl (hb hby at_30) ?_
    show oP p e below s₁ (mkF m 31 #[oI p0, oI p1, oI p2, oI p3, oJ q4, oS, oJ q5, oS, oI fl, oI sa, oU, oU, oU, oU, oU, oU, oU, oU, oU, oU, oU, oU, oU, oU] [(.int (2 : Int32)), (.int fl)]) _
    refine XS.iand X0.here hx rfl (hb hby at_31) rfl ?_
    exact k)
  obtain ⟨sb, hsb, pre131⟩ : ∃ sb : Int32, ((((fl &&& (2 : Int32)) = (0 : Int32)) ∧ sb = p3) ∨ (¬ ((fl &&& (2 : Int32)) = (0 : Int32)) ∧ sb = ((p3 &&& (-262144 : Int32)) ||| (p1 &&& (262143 : Int32))))) ∧ ∀ t, oP p e below s₁ (mkF m 48 #[oI p0, oI p1, oI p2, oI p3, oJ q4, oS, oJ q5, oS, oI fl, oI sa, oU, oU, oU, oU, oU, oU, oU, oU, oU, oU, oU, oU, oU, oU] [(.int sb)]) t → oP p e below s₁ (entryFrame m #[(.int p0), (.int p1), (.int p2), (.int p3), (.long q4), (.long q5)] maxLocals) t := by
    by_cases hc130 : (fl &&& (2 : Int32)) = (0 : Int32)
    · refine ⟨p3, Or.inl ⟨hc130, rfl⟩, fun t k => pre129 t (by
        show oP p e below s₁ (mkF m 32 #[oI p0, oI p1, oI p2, oI p3, oJ q4, oS, oJ q5, oS, oI fl, oI sa, oU, oU, oU, oU, oU, oU, oU, oU, oU, oU, oU, oU, oU, oU] [(.int (fl &&& (2 : Int32)))]) _
        refine XS.ifYes X0.here hx rfl (pc0 := 32) (pc' := 47) rfl (hb hby at_32) rfl ((if0 _ _).trans (teq hc130).1) (by decide) (by decide) ?_
        show oP p e below s₁ (mkF m 47 #[oI p0, oI p1, oI p2, oI p3, oJ q4, oS, oJ q5, oS, oI fl, oI sa, oU, oU, oU, oU, oU, oU, oU, oU, oU, oU, oU, oU, oU, oU] []) _
        refine XS.iloadN X0.here hx rfl (hb hby at_47) rfl ?_
        exact k)⟩
    · refine ⟨((p3 &&& (-262144 : Int32)) ||| (p1 &&& (262143 : Int32))), Or.inr (⟨hc130, rfl⟩), fun t k => pre129 t (by
        show oP p e below s₁ (mkF m 32 #[oI p0, oI p1, oI p2, oI p3, oJ q4, oS, oJ q5, oS, oI fl, oI sa, oU, oU, oU, oU, oU, oU, oU, oU, oU, oU, oU, oU, oU, oU] [(.int (fl &&& (2 : Int32)))]) _
        refine XS.ifNo X0.here hx rfl (hb hby at_32) rfl ((if0 _ _).trans (feq hc130).1) ?_
        show oP p e below s₁ (mkF m 35 #[oI p0, oI p1, oI p2, oI p3, oJ q4, oS, oJ q5, oS, oI fl, oI sa, oU, oU, oU, oU, oU, oU, oU, oU, oU, oU, oU, oU, oU, oU] []) _
        refine XS.iloadN X0.here hx rfl (hb hby at_35) rfl ?_
        show oP p e below s₁ (mkF m 36 #[oI p0, oI p1, oI p2, oI p3, oJ q4, oS, oJ q5, oS, oI fl, oI sa, oU, oU, oU, oU, oU, oU, oU, oU, oU, oU, oU, oU, oU, oU] [(.int p3)]) _
        refine X0.ldcInt hx hown (mvT hZ (hw _ (List.mem_of_getElem? (i := 110) rfl))) (g := (mkF m 36 #[oI p0, oI p1, oI p2, oI p3, oJ q4, oS, oJ q5, oS, oI fl, oI sa, oU, oU, oU, oU, oU, oU, oU, oU, oU, oU, oU, oU, oU, oU] [(.int p3)])) rfl (hb hby at_36) _ ?_
        show oP p e below s₁ (mkF m 38 #[oI p0, oI p1, oI p2, oI p3, oJ q4, oS, oJ q5, oS, oI fl, oI sa, oU, oU, oU, oU, oU, oU, oU, oU, oU, oU, oU, oU, oU, oU] [(.int (-262144 : Int32)), (.int p3)]) _
        refine XS.iand X0.here hx rfl (hb hby at_38) rfl ?_
        show oP p e below s₁ (mkF m 39 #[oI p0, oI p1, oI p2, oI p3, oJ q4, oS, oJ q5, oS, oI fl, oI sa, oU, oU, oU, oU, oU, oU, oU, oU, oU, oU, oU, oU, oU, oU] [(.int (p3 &&& (-262144 : Int32)))]) _
        refine XS.iloadN X0.here hx rfl (hb hby at_39) rfl ?_
        show oP p e below s₁ (mkF m 40 #[oI p0, oI p1, oI p2, oI p3, oJ q4, oS, oJ q5, oS, oI fl, oI sa, oU, oU, oU, oU, oU, oU, oU, oU, oU, oU, oU, oU, oU, oU] [(.int p1), (.int (p3 &&& (-262144 : Int32)))]) _
        refine X0.ldcInt hx hown (mvT hZ (hw _ (List.mem_of_getElem? (i := 111) rfl))) (g := (mkF m 40 #[oI p0, oI p1, oI p2, oI p3, oJ q4, oS, oJ q5, oS, oI fl, oI sa, oU, oU, oU, oU, oU, oU, oU, oU, oU, oU, oU, oU, oU, oU] [(.int p1), (.int (p3 &&& (-262144 : Int32)))])) rfl (hb hby at_40) _ ?_
        show oP p e below s₁ (mkF m 42 #[oI p0, oI p1, oI p2, oI p3, oJ q4, oS, oJ q5, oS, oI fl, oI sa, oU, oU, oU, oU, oU, oU, oU, oU, oU, oU, oU, oU, oU, oU] [(.int (262143 : Int32)), (.int p1), (.int (p3 &&& (-262144 : Int32)))]) _
        refine XS.iand X0.here hx rfl (hb hby at_42) rfl ?_
        show oP p e below s₁ (mkF m 43 #[oI p0, oI p1, oI p2, oI p3, oJ q4, oS, oJ q5, oS, oI fl, oI sa, oU, oU, oU, oU, oU, oU, oU, oU, oU, oU, oU, oU, oU, oU] [(.int (p1 &&& (262143 : Int32))), (.int (p3 &&& (-262144 : Int32)))]) _
        refine XS.ior X0.here hx rfl (hb hby at_43) rfl ?_
        show oP p e below s₁ (mkF m 44 #[oI p0, oI p1, oI p2, oI p3, oJ q4, oS, oJ q5, oS, oI fl, oI sa, oU, oU, oU, oU, oU, oU, oU, oU, oU, oU, oU, oU, oU, oU] [(.int ((p3 &&& (-262144 : Int32)) ||| (p1 &&& (262143 : Int32))))]) _
        refine XS.goto X0.here hx rfl (pc0 := 44) (pc' := 48) rfl (hb hby at_44) (by decide) (by decide) ?_
        exact k)⟩
  have pre132 : ∀ t, oP p e below s₁ (mkF m 54 #[oI p0, oI p1, oI p2, oI p3, oJ q4, oS, oJ q5, oS, oI fl, oI sa, oI sb, oU, oU, oU, oU, oU, oU, oU, oU, oU, oU, oU, oU, oU] [(.int (fl &&& (4 : Int32)))]) t → oP p e below s₁ (entryFrame m #[(.int p0), (.int p1), (.int p2), (.int p3), (.long q4), (.long q5)] maxLocals) t := fun t k => pre131 t (by
    show oP p e below s₁ (mkF m 48 #[oI p0, oI p1, oI p2, oI p3, oJ q4, oS, oJ q5, oS, oI fl, oI sa, oU, oU, oU, oU, oU, oU, oU, oU, oU, oU, oU, oU, oU, oU] [(.int sb)]) _
    refine XS.istore X0.here hx rfl (hb hby at_48) rfl (l' := #[oI p0, oI p1, oI p2, oI p3, oJ q4, oS, oJ q5, oS, oI fl, oI sa, oI sb, oU, oU, oU, oU, oU, oU, oU, oU, oU, oU, oU, oU, oU]) rfl ?_
    show oP p e below s₁ (mkF m 50 #[oI p0, oI p1, oI p2, oI p3, oJ q4, oS, oJ q5, oS, oI fl, oI sa, oI sb, oU, oU, oU, oU, oU, oU, oU, oU, oU, oU, oU, oU, oU] []) _
    refine XS.iload X0.here hx rfl (hb hby at_50) rfl ?_
    show oP p e below s₁ (mkF m 52 #[oI p0, oI p1, oI p2, oI p3, oJ q4, oS, oJ q5, oS, oI fl, oI sa, oI sb, oU, oU, oU, oU, oU, oU, oU, oU, oU, oU, oU, oU, oU] [(.int fl)]) _
    refine XS.iconst X0.here hx rfl (hb hby at_52) ?_
    show oP p e below s₁ (mkF m 53 #[oI p0, oI p1, oI p2, oI p3, oJ q4, oS, oJ q5, oS, oI fl, oI sa, oI sb, oU, oU, oU, oU, oU, oU, oU, oU, oU, oU, oU, oU, oU] [(.int (4 : Int32)), (.int fl)]) _
    refine XS.iand X0.here hx rfl (hb hby at_53) rfl ?_
    exact k)
  obtain ⟨wa, hwa, pre134⟩ : ∃ wa : Int64, ((((fl &&& (4 : Int32)) = (0 : Int32)) ∧ wa = q5) ∨ (¬ ((fl &&& (4 : Int32)) = (0 : Int32)) ∧ wa = q4)) ∧ ∀ t, oP p e below s₁ (mkF m 64 #[oI p0, oI p1, oI p2, oI p3, oJ q4, oS, oJ q5, oS, oI fl, oI sa, oI sb, oU, oU, oU, oU, oU, oU, oU, oU, oU, oU, oU, oU, oU] [(.long wa)]) t → oP p e below s₁ (entryFrame m #[(.int p0), (.int p1), (.int p2), (.int p3), (.long q4), (.long q5)] maxLocals) t := by
    by_cases hc133 : (fl &&& (4 : Int32)) = (0 : Int32)
    · refine ⟨q5, Or.inl ⟨hc133, rfl⟩, fun t k => pre132 t (by
        show oP p e below s₁ (mkF m 54 #[oI p0, oI p1, oI p2, oI p3, oJ q4, oS, oJ q5, oS, oI fl, oI sa, oI sb, oU, oU, oU, oU, oU, oU, oU, oU, oU, oU, oU, oU, oU] [(.int (fl &&& (4 : Int32)))]) _
        refine XS.ifYes X0.here hx rfl (pc0 := 54) (pc' := 62) rfl (hb hby at_54) rfl ((if0 _ _).trans (teq hc133).1) (by decide) (by decide) ?_
        show oP p e below s₁ (mkF m 62 #[oI p0, oI p1, oI p2, oI p3, oJ q4, oS, oJ q5, oS, oI fl, oI sa, oI sb, oU, oU, oU, oU, oU, oU, oU, oU, oU, oU, oU, oU, oU] []) _
        refine XS.lload X0.here hx rfl (hb hby at_62) rfl ?_
        exact k)⟩
    · refine ⟨q4, Or.inr (⟨hc133, rfl⟩), fun t k => pre132 t (by
        show oP p e below s₁ (mkF m 54 #[oI p0, oI p1, oI p2, oI p3, oJ q4, oS, oJ q5, oS, oI fl, oI sa, oI sb, oU, oU, oU, oU, oU, oU, oU, oU, oU, oU, oU, oU, oU] [(.int (fl &&& (4 : Int32)))]) _
        refine XS.ifNo X0.here hx rfl (hb hby at_54) rfl ((if0 _ _).trans (feq hc133).1) ?_
        show oP p e below s₁ (mkF m 57 #[oI p0, oI p1, oI p2, oI p3, oJ q4, oS, oJ q5, oS, oI fl, oI sa, oI sb, oU, oU, oU, oU, oU, oU, oU, oU, oU, oU, oU, oU, oU] []) _
        refine XS.lload X0.here hx rfl (hb hby at_57) rfl ?_
        show oP p e below s₁ (mkF m 59 #[oI p0, oI p1, oI p2, oI p3, oJ q4, oS, oJ q5, oS, oI fl, oI sa, oI sb, oU, oU, oU, oU, oU, oU, oU, oU, oU, oU, oU, oU, oU] [(.long q4)]) _
        refine XS.goto X0.here hx rfl (pc0 := 59) (pc' := 64) rfl (hb hby at_59) (by decide) (by decide) ?_
        exact k)⟩
  have pre135 : ∀ t, oP p e below s₁ (mkF m 71 #[oI p0, oI p1, oI p2, oI p3, oJ q4, oS, oJ q5, oS, oI fl, oI sa, oI sb, oJ wa, oS, oU, oU, oU, oU, oU, oU, oU, oU, oU, oU, oU] [(.int (fl &&& (8 : Int32)))]) t → oP p e below s₁ (entryFrame m #[(.int p0), (.int p1), (.int p2), (.int p3), (.long q4), (.long q5)] maxLocals) t := fun t k => pre134 t (by
    show oP p e below s₁ (mkF m 64 #[oI p0, oI p1, oI p2, oI p3, oJ q4, oS, oJ q5, oS, oI fl, oI sa, oI sb, oU, oU, oU, oU, oU, oU, oU, oU, oU, oU, oU, oU, oU] [(.long wa)]) _
    refine XS.lstore X0.here hx rfl (hb hby at_64) rfl (l' := #[oI p0, oI p1, oI p2, oI p3, oJ q4, oS, oJ q5, oS, oI fl, oI sa, oI sb, oJ wa, oS, oU, oU, oU, oU, oU, oU, oU, oU, oU, oU, oU]) rfl ?_
    show oP p e below s₁ (mkF m 66 #[oI p0, oI p1, oI p2, oI p3, oJ q4, oS, oJ q5, oS, oI fl, oI sa, oI sb, oJ wa, oS, oU, oU, oU, oU, oU, oU, oU, oU, oU, oU, oU] []) _
    refine XS.iload X0.here hx rfl (hb hby at_66) rfl ?_
    show oP p e below s₁ (mkF m 68 #[oI p0, oI p1, oI p2, oI p3, oJ q4, oS, oJ q5, oS, oI fl, oI sa, oI sb, oJ wa, oS, oU, oU, oU, oU, oU, oU, oU, oU, oU, oU, oU] [(.int fl)]) _
    refine XS.bipush X0.here hx rfl (hb hby at_68) ?_
    show oP p e below s₁ (mkF m 70 #[oI p0, oI p1, oI p2, oI p3, oJ q4, oS, oJ q5, oS, oI fl, oI sa, oI sb, oJ wa, oS, oU, oU, oU, oU, oU, oU, oU, oU, oU, oU, oU] [(.int (8 : Int32)), (.int fl)]) _
    refine XS.iand X0.here hx rfl (hb hby at_70) rfl ?_
    exact k)
  obtain ⟨wb, hwb, pre137⟩ : ∃ wb : Int64, ((((fl &&& (8 : Int32)) = (0 : Int32)) ∧ wb = wa) ∨ (¬ ((fl &&& (8 : Int32)) = (0 : Int32)) ∧ wb = (q4 ^^^ (q5 &&& (9223372032559808512 : Int64))))) ∧ ∀ t, oP p e below s₁ (mkF m 85 #[oI p0, oI p1, oI p2, oI p3, oJ q4, oS, oJ q5, oS, oI fl, oI sa, oI sb, oJ wb, oS, oU, oU, oU, oU, oU, oU, oU, oU, oU, oU, oU] []) t → oP p e below s₁ (entryFrame m #[(.int p0), (.int p1), (.int p2), (.int p3), (.long q4), (.long q5)] maxLocals) t := by
    by_cases hc136 : (fl &&& (8 : Int32)) = (0 : Int32)
    · refine ⟨wa, Or.inl ⟨hc136, rfl⟩, fun t k => pre135 t (by
        show oP p e below s₁ (mkF m 71 #[oI p0, oI p1, oI p2, oI p3, oJ q4, oS, oJ q5, oS, oI fl, oI sa, oI sb, oJ wa, oS, oU, oU, oU, oU, oU, oU, oU, oU, oU, oU, oU] [(.int (fl &&& (8 : Int32)))]) _
        refine XS.ifYes X0.here hx rfl (pc0 := 71) (pc' := 85) rfl (hb hby at_71) rfl ((if0 _ _).trans (teq hc136).1) (by decide) (by decide) ?_
        exact k)⟩
    · refine ⟨(q4 ^^^ (q5 &&& (9223372032559808512 : Int64))), Or.inr (⟨hc136, rfl⟩), fun t k => pre135 t (by
        show oP p e below s₁ (mkF m 71 #[oI p0, oI p1, oI p2, oI p3, oJ q4, oS, oJ q5, oS, oI fl, oI sa, oI sb, oJ wa, oS, oU, oU, oU, oU, oU, oU, oU, oU, oU, oU, oU] [(.int (fl &&& (8 : Int32)))]) _
        refine XS.ifNo X0.here hx rfl (hb hby at_71) rfl ((if0 _ _).trans (feq hc136).1) ?_
        show oP p e below s₁ (mkF m 74 #[oI p0, oI p1, oI p2, oI p3, oJ q4, oS, oJ q5, oS, oI fl, oI sa, oI sb, oJ wa, oS, oU, oU, oU, oU, oU, oU, oU, oU, oU, oU, oU] []) _
        refine XS.lload X0.here hx rfl (hb hby at_74) rfl ?_
        show oP p e below s₁ (mkF m 76 #[oI p0, oI p1, oI p2, oI p3, oJ q4, oS, oJ q5, oS, oI fl, oI sa, oI sb, oJ wa, oS, oU, oU, oU, oU, oU, oU, oU, oU, oU, oU, oU] [(.long q4)]) _
        refine XS.lload X0.here hx rfl (hb hby at_76) rfl ?_
        show oP p e below s₁ (mkF m 78 #[oI p0, oI p1, oI p2, oI p3, oJ q4, oS, oJ q5, oS, oI fl, oI sa, oI sb, oJ wa, oS, oU, oU, oU, oU, oU, oU, oU, oU, oU, oU, oU] [(.long q5), (.long q4)]) _
        refine X0.ldc2Long hx hown (mvT hZ (hw _ (List.mem_of_getElem? (i := 114) rfl))) (g := (mkF m 78 #[oI p0, oI p1, oI p2, oI p3, oJ q4, oS, oJ q5, oS, oI fl, oI sa, oI sb, oJ wa, oS, oU, oU, oU, oU, oU, oU, oU, oU, oU, oU, oU] [(.long q5), (.long q4)])) rfl (hb hby at_78) _ ?_
        show oP p e below s₁ (mkF m 81 #[oI p0, oI p1, oI p2, oI p3, oJ q4, oS, oJ q5, oS, oI fl, oI sa, oI sb, oJ wa, oS, oU, oU, oU, oU, oU, oU, oU, oU, oU, oU, oU] [(.long (9223372032559808512 : Int64)), (.long q5), (.long q4)]) _
        refine XS.land X0.here hx rfl (hb hby at_81) rfl ?_
        show oP p e below s₁ (mkF m 82 #[oI p0, oI p1, oI p2, oI p3, oJ q4, oS, oJ q5, oS, oI fl, oI sa, oI sb, oJ wa, oS, oU, oU, oU, oU, oU, oU, oU, oU, oU, oU, oU] [(.long (q5 &&& (9223372032559808512 : Int64))), (.long q4)]) _
        refine XS.lxor X0.here hx rfl (hb hby at_82) rfl ?_
        show oP p e below s₁ (mkF m 83 #[oI p0, oI p1, oI p2, oI p3, oJ q4, oS, oJ q5, oS, oI fl, oI sa, oI sb, oJ wa, oS, oU, oU, oU, oU, oU, oU, oU, oU, oU, oU, oU] [(.long (q4 ^^^ (q5 &&& (9223372032559808512 : Int64))))]) _
        refine XS.lstore X0.here hx rfl (hb hby at_83) rfl (l' := #[oI p0, oI p1, oI p2, oI p3, oJ q4, oS, oJ q5, oS, oI fl, oI sa, oI sb, oJ (q4 ^^^ (q5 &&& (9223372032559808512 : Int64))), oS, oU, oU, oU, oU, oU, oU, oU, oU, oU, oU, oU]) rfl ?_
        exact k)⟩
  have pre138 : ∀ t, oP p e below s₁ (mkF m 89 #[oI p0, oI p1, oI p2, oI p3, oJ q4, oS, oJ q5, oS, oI fl, oI sa, oI sb, oJ wb, oS, oU, oU, oU, oU, oU, oU, oU, oU, oU, oU, oU] [(.int (lcmpW q4 (0 : Int64)))]) t → oP p e below s₁ (entryFrame m #[(.int p0), (.int p1), (.int p2), (.int p3), (.long q4), (.long q5)] maxLocals) t := fun t k => pre137 t (by
    show oP p e below s₁ (mkF m 85 #[oI p0, oI p1, oI p2, oI p3, oJ q4, oS, oJ q5, oS, oI fl, oI sa, oI sb, oJ wb, oS, oU, oU, oU, oU, oU, oU, oU, oU, oU, oU, oU] []) _
    refine XS.lload X0.here hx rfl (hb hby at_85) rfl ?_
    show oP p e below s₁ (mkF m 87 #[oI p0, oI p1, oI p2, oI p3, oJ q4, oS, oJ q5, oS, oI fl, oI sa, oI sb, oJ wb, oS, oU, oU, oU, oU, oU, oU, oU, oU, oU, oU, oU] [(.long q4)]) _
    refine XS.lconst X0.here hx rfl (hb hby at_87) ?_
    show oP p e below s₁ (mkF m 88 #[oI p0, oI p1, oI p2, oI p3, oJ q4, oS, oJ q5, oS, oI fl, oI sa, oI sb, oJ wb, oS, oU, oU, oU, oU, oU, oU, oU, oU, oU, oU, oU] [(.long (0 : Int64)), (.long q4)]) _
    refine XS.lcmp X0.here hx rfl (hb hby at_88) rfl ?_
    exact k)
  obtain ⟨za, hza, pre140⟩ : ∃ za : Int64, ((((lcmpW q4 (0 : Int64)) < (0 : Int32)) ∧ za = (-1 : Int64)) ∨ (¬ ((lcmpW q4 (0 : Int64)) < (0 : Int32)) ∧ za = q4)) ∧ ∀ t, oP p e below s₁ (mkF m 100 #[oI p0, oI p1, oI p2, oI p3, oJ q4, oS, oJ q5, oS, oI fl, oI sa, oI sb, oJ wb, oS, oU, oU, oU, oU, oU, oU, oU, oU, oU, oU, oU] [(.long za)]) t → oP p e below s₁ (entryFrame m #[(.int p0), (.int p1), (.int p2), (.int p3), (.long q4), (.long q5)] maxLocals) t := by
    by_cases hc139 : (lcmpW q4 (0 : Int64)) < (0 : Int32)
    · refine ⟨(-1 : Int64), Or.inl ⟨hc139, rfl⟩, fun t k => pre138 t (by
        show oP p e below s₁ (mkF m 89 #[oI p0, oI p1, oI p2, oI p3, oJ q4, oS, oJ q5, oS, oI fl, oI sa, oI sb, oJ wb, oS, oU, oU, oU, oU, oU, oU, oU, oU, oU, oU, oU] [(.int (lcmpW q4 (0 : Int64)))]) _
        refine XS.ifNo X0.here hx rfl (hb hby at_89) rfl ((if0 _ _).trans (tlt hc139).2.1) ?_
        show oP p e below s₁ (mkF m 92 #[oI p0, oI p1, oI p2, oI p3, oJ q4, oS, oJ q5, oS, oI fl, oI sa, oI sb, oJ wb, oS, oU, oU, oU, oU, oU, oU, oU, oU, oU, oU, oU] []) _
        refine X0.ldc2Long hx hown (mvT hZ (hw _ (List.mem_of_getElem? (i := 0) rfl))) (g := (mkF m 92 #[oI p0, oI p1, oI p2, oI p3, oJ q4, oS, oJ q5, oS, oI fl, oI sa, oI sb, oJ wb, oS, oU, oU, oU, oU, oU, oU, oU, oU, oU, oU, oU] [])) rfl (hb hby at_92) _ ?_
        show oP p e below s₁ (mkF m 95 #[oI p0, oI p1, oI p2, oI p3, oJ q4, oS, oJ q5, oS, oI fl, oI sa, oI sb, oJ wb, oS, oU, oU, oU, oU, oU, oU, oU, oU, oU, oU, oU] [(.long (-1 : Int64))]) _
        refine XS.goto X0.here hx rfl (pc0 := 95) (pc' := 100) rfl (hb hby at_95) (by decide) (by decide) ?_
        exact k)⟩
    · refine ⟨q4, Or.inr (⟨hc139, rfl⟩), fun t k => pre138 t (by
        show oP p e below s₁ (mkF m 89 #[oI p0, oI p1, oI p2, oI p3, oJ q4, oS, oJ q5, oS, oI fl, oI sa, oI sb, oJ wb, oS, oU, oU, oU, oU, oU, oU, oU, oU, oU, oU, oU] [(.int (lcmpW q4 (0 : Int64)))]) _
        refine XS.ifYes X0.here hx rfl (pc0 := 89) (pc' := 98) rfl (hb hby at_89) rfl ((if0 _ _).trans (flt hc139).2.1) (by decide) (by decide) ?_
        show oP p e below s₁ (mkF m 98 #[oI p0, oI p1, oI p2, oI p3, oJ q4, oS, oJ q5, oS, oI fl, oI sa, oI sb, oJ wb, oS, oU, oU, oU, oU, oU, oU, oU, oU, oU, oU, oU] []) _
        refine XS.lload X0.here hx rfl (hb hby at_98) rfl ?_
        exact k)⟩
  have pre141 : ∀ t, oP p e below s₁ (mkF m 106 #[oI p0, oI p1, oI p2, oI p3, oJ q4, oS, oJ q5, oS, oI fl, oI sa, oI sb, oJ wb, oS, oJ za, oS, oU, oU, oU, oU, oU, oU, oU, oU, oU] [(.int (lcmpW wb (0 : Int64)))]) t → oP p e below s₁ (entryFrame m #[(.int p0), (.int p1), (.int p2), (.int p3), (.long q4), (.long q5)] maxLocals) t := fun t k => pre140 t (by
    show oP p e below s₁ (mkF m 100 #[oI p0, oI p1, oI p2, oI p3, oJ q4, oS, oJ q5, oS, oI fl, oI sa, oI sb, oJ wb, oS, oU, oU, oU, oU, oU, oU, oU, oU, oU, oU, oU] [(.long za)]) _
    refine XS.lstore X0.here hx rfl (hb hby at_100) rfl (l' := #[oI p0, oI p1, oI p2, oI p3, oJ q4, oS, oJ q5, oS, oI fl, oI sa, oI sb, oJ wb, oS, oJ za, oS, oU, oU, oU, oU, oU, oU, oU, oU, oU]) rfl ?_
    show oP p e below s₁ (mkF m 102 #[oI p0, oI p1, oI p2, oI p3, oJ q4, oS, oJ q5, oS, oI fl, oI sa, oI sb, oJ wb, oS, oJ za, oS, oU, oU, oU, oU, oU, oU, oU, oU, oU] []) _
    refine XS.lload X0.here hx rfl (hb hby at_102) rfl ?_
    show oP p e below s₁ (mkF m 104 #[oI p0, oI p1, oI p2, oI p3, oJ q4, oS, oJ q5, oS, oI fl, oI sa, oI sb, oJ wb, oS, oJ za, oS, oU, oU, oU, oU, oU, oU, oU, oU, oU] [(.long wb)]) _
    refine XS.lconst X0.here hx rfl (hb hby at_104) ?_
    show oP p e below s₁ (mkF m 105 #[oI p0, oI p1, oI p2, oI p3, oJ q4, oS, oJ q5, oS, oI fl, oI sa, oI sb, oJ wb, oS, oJ za, oS, oU, oU, oU, oU, oU, oU, oU, oU, oU] [(.long (0 : Int64)), (.long wb)]) _
    refine XS.lcmp X0.here hx rfl (hb hby at_105) rfl ?_
    exact k)
  obtain ⟨zb, hzb, pre143⟩ : ∃ zb : Int64, ((((lcmpW wb (0 : Int64)) < (0 : Int32)) ∧ zb = (-1 : Int64)) ∨ (¬ ((lcmpW wb (0 : Int64)) < (0 : Int32)) ∧ zb = wb)) ∧ ∀ t, oP p e below s₁ (mkF m 117 #[oI p0, oI p1, oI p2, oI p3, oJ q4, oS, oJ q5, oS, oI fl, oI sa, oI sb, oJ wb, oS, oJ za, oS, oU, oU, oU, oU, oU, oU, oU, oU, oU] [(.long zb)]) t → oP p e below s₁ (entryFrame m #[(.int p0), (.int p1), (.int p2), (.int p3), (.long q4), (.long q5)] maxLocals) t := by
    by_cases hc142 : (lcmpW wb (0 : Int64)) < (0 : Int32)
    · refine ⟨(-1 : Int64), Or.inl ⟨hc142, rfl⟩, fun t k => pre141 t (by
        show oP p e below s₁ (mkF m 106 #[oI p0, oI p1, oI p2, oI p3, oJ q4, oS, oJ q5, oS, oI fl, oI sa, oI sb, oJ wb, oS, oJ za, oS, oU, oU, oU, oU, oU, oU, oU, oU, oU] [(.int (lcmpW wb (0 : Int64)))]) _
        refine XS.ifNo X0.here hx rfl (hb hby at_106) rfl ((if0 _ _).trans (tlt hc142).2.1) ?_
        show oP p e below s₁ (mkF m 109 #[oI p0, oI p1, oI p2, oI p3, oJ q4, oS, oJ q5, oS, oI fl, oI sa, oI sb, oJ wb, oS, oJ za, oS, oU, oU, oU, oU, oU, oU, oU, oU, oU] []) _
        refine X0.ldc2Long hx hown (mvT hZ (hw _ (List.mem_of_getElem? (i := 0) rfl))) (g := (mkF m 109 #[oI p0, oI p1, oI p2, oI p3, oJ q4, oS, oJ q5, oS, oI fl, oI sa, oI sb, oJ wb, oS, oJ za, oS, oU, oU, oU, oU, oU, oU, oU, oU, oU] [])) rfl (hb hby at_109) _ ?_
        show oP p e below s₁ (mkF m 112 #[oI p0, oI p1, oI p2, oI p3, oJ q4, oS, oJ q5, oS, oI fl, oI sa, oI sb, oJ wb, oS, oJ za, oS, oU, oU, oU, oU, oU, oU, oU, oU, oU] [(.long (-1 : Int64))]) _
        refine XS.goto X0.here hx rfl (pc0 := 112) (pc' := 117) rfl (hb hby at_112) (by decide) (by decide) ?_
        exact k)⟩
    · refine ⟨wb, Or.inr (⟨hc142, rfl⟩), fun t k => pre141 t (by
        show oP p e below s₁ (mkF m 106 #[oI p0, oI p1, oI p2, oI p3, oJ q4, oS, oJ q5, oS, oI fl, oI sa, oI sb, oJ wb, oS, oJ za, oS, oU, oU, oU, oU, oU, oU, oU, oU, oU] [(.int (lcmpW wb (0 : Int64)))]) _
        refine XS.ifYes X0.here hx rfl (pc0 := 106) (pc' := 115) rfl (hb hby at_106) rfl ((if0 _ _).trans (flt hc142).2.1) (by decide) (by decide) ?_
        show oP p e below s₁ (mkF m 115 #[oI p0, oI p1, oI p2, oI p3, oJ q4, oS, oJ q5, oS, oI fl, oI sa, oI sb, oJ wb, oS, oJ za, oS, oU, oU, oU, oU, oU, oU, oU, oU, oU] []) _
        refine XS.lload X0.here hx rfl (hb hby at_115) rfl ?_
        exact k)⟩
  obtain ⟨ka, hka⟩ : ∃ z, z = (((p0.toUInt32 >>> ((18 : Int32) &&& 31).toUInt32).toInt32) &&& (1 : Int32)) := ⟨_, rfl⟩
  have rka : ka = (0 : Int32) ∨ ka = (1 : Int32) := by rw [hka]; exact rng_mask1 _
  obtain ⟨kb, hkb⟩ : ∃ z, z = (((sa.toUInt32 >>> ((18 : Int32) &&& 31).toUInt32).toInt32) &&& (1 : Int32)) := ⟨_, rfl⟩
  have rkb : kb = (0 : Int32) ∨ kb = (1 : Int32) := by rw [hkb]; exact rng_mask1 _
  obtain ⟨T144, h144, X144, e144, E144, A144, D144, -, st144⟩ := newO X0 hx hZ hown (hw _ (List.mem_of_getElem? (i := 1) rfl)) (hw _ (List.mem_of_getElem? (i := 2) rfl)) (hw _ (List.mem_of_getElem? (i := 3) rfl)) e0 (g := (mkF m 136 #[oI p0, oI p1, oI p2, oI p3, oJ q4, oS, oJ q5, oS, oI fl, oI sa, oI sb, oJ wb, oS, oJ za, oS, oJ zb, oS, oI ka, oI kb, oU, oU, oU, oU, oU] [])) rfl (hb hby at_136) (by decide) (by decide)
  obtain ⟨b144, g144⟩ : ∃ z, z = h0.size := ⟨_, rfl⟩
  have g_b144 : n0 ≤ b144 := Nat.le_trans (own_old_le O0) (Nat.le_of_eq g144.symm)
  have sz_b144 : h0.size ≤ b144 := Nat.le_trans (Keep.refl h0 []).1 (Nat.le_of_eq g144.symm)
  rw [← g144] at A144 D144 st144
  have O144 := O0.ext E144
  have Kc144 := (Keep.refl h0 []).ext E144
  have F_kind_b144 : Fld Z h144 b144 "com/example/meerkat/meerkat/ExpansionFile" "kind" "Lcom/example/meerkat/meerkat/ExpansionFile$Kind;" .null := D144 (Or.inr (hw _ (List.mem_of_getElem? (i := 39) rfl))) (ty := (.object "com/example/meerkat/meerkat/ExpansionFile$Kind")) (by decide)
  have F_url_b144 : Fld Z h144 b144 "com/example/meerkat/meerkat/ExpansionFile" "url" "Ljava/lang/String;" .null := D144 (Or.inr (hw _ (List.mem_of_getElem? (i := 44) rfl))) (ty := (.object "java/lang/String")) (by decide)
  have F_fileName_b144 : Fld Z h144 b144 "com/example/meerkat/meerkat/ExpansionFile" "fileName" "Ljava/lang/String;" .null := D144 (Or.inr (hw _ (List.mem_of_getElem? (i := 47) rfl))) (ty := (.object "java/lang/String")) (by decide)
  have F_size_b144 : Fld Z h144 b144 "com/example/meerkat/meerkat/ExpansionFile" "size" "J" (.long (0 : Int64)) := D144 (Or.inr (hw _ (List.mem_of_getElem? (i := 49) rfl))) (ty := .long) (by decide)
  obtain ⟨_, _, ⟨T145, L145, k145, n145⟩, -, X145, ⟨Lc145, hQ145, l145, y145, z145⟩, st145⟩ := Jvm.LawKit.callS X144 hx (y := (⟨"com/example/meerkat/meerkat/ExpansionFileEqualsPinLaw", "kindOf", "(I)Lcom/example/meerkat/meerkat/ExpansionFile$Kind;"⟩ : MethodName)) hown (mvT hZ (hw _ (List.mem_of_getElem? (i := 4) rfl))) (mvT hZ (hw _ (List.mem_of_getElem? (i := 5) rfl))) (mvT hZ (hw _ (List.mem_of_getElem? (i := 6) rfl))) (mvT hZ (hw _ (List.mem_of_getElem? (i := 7) rfl))) (by decide) (backOf (W := 2) (rm1 l Z a0 hw hS [] ka h144 n0 O144) hZ (hw _ (List.mem_of_getElem? (i := 7) rfl)) (hw _ (List.mem_of_getElem? (i := 6) rfl)) (by decide) (by decide)) (g := (mkF m 142 #[oI p0, oI p1, oI p2, oI p3, oJ q4, oS, oJ q5, oS, oI fl, oI sa, oI sb, oJ wb, oS, oJ za, oS, oJ zb, oS, oI ka, oI kb, oU, oU, oU, oU, oU] [(.int ka), (.ref b144), (.ref b144)])) rfl (by rw [hml]; rfl) (argsL := [(.int ka)]) (rest := [(.ref b144), (.ref b144)]) (lenOf pd_8 rfl) rfl (by show 2 * 0 + _ ≤ _; exact Nat.le_of_eq rfl) (hb hby at_142) (fun _ _ => ⟨rfl, e144, (by decide : 1 + 0 ≤ _), (by decide : 4 + 0 ≤ _)⟩)
  dsimp only [Pt.U, Pt.locs, Pt.cells, Pt.slots] at X145 l145 y145 z145 st145 hQ145
  subst l145 y145 z145
  obtain ⟨v145, N145q, h145q⟩ := hQ145
  subst v145
  have N145 := Fr.app N0 N145q
  have hc147 := (own_cext hC0 E144)
  have fx148 := (Nat.le_trans hki0 E144.1)
  obtain ⟨_, _, ⟨T146, L146, k146, n146⟩, -, X146, hsi146, hge146, ⟨Lc146, hQ146, l146, y146, z146, hC146⟩, st146⟩ := callSS X145 hx (y := (⟨"com/example/meerkat/meerkat/ExpansionFileEqualsPinLaw", "str", "(I)Ljava/lang/String;"⟩ : MethodName)) hown (mvT hZ (hw _ (List.mem_of_getElem? (i := 11) rfl))) (mvT hZ (hw _ (List.mem_of_getElem? (i := 12) rfl))) (mvT hZ (hw _ (List.mem_of_getElem? (i := 6) rfl))) (mvT hZ (hw _ (List.mem_of_getElem? (i := 13) rfl))) (by decide) (backOfSH (W := 3) (rm2 l Z a0 hw hS [] p0 h144 n0 O144 ) hZ (hw _ (List.mem_of_getElem? (i := 13) rfl)) (hw _ (List.mem_of_getElem? (i := 6) rfl)) (by decide) (by decide) (own_EW hw) hc147.1) (g := (mkF m 146 #[oI p0, oI p1, oI p2, oI p3, oJ q4, oS, oJ q5, oS, oI fl, oI sa, oI sb, oJ wb, oS, oJ za, oS, oJ zb, oS, oI ka, oI kb, oU, oU, oU, oU, oU] [(.int p0), (.ref (fn1 Z ka)), (.ref b144), (.ref b144)])) rfl (by rw [hml]; rfl) (argsL := [(.int p0)]) (rest := [(.ref (fn1 Z ka)), (.ref b144), (.ref b144)]) (lenOf pd_9 rfl) rfl (by show 2 * 0 + _ ≤ _; exact Nat.le_of_eq rfl) (hb hby at_146) (fun _ _ => ⟨rfl, h145q, (by decide : 1 + 3 ≤ _), (by decide : 4 + 8 ≤ _)⟩)
  dsimp only [Pt.U, Pt.locs, Pt.cells, Pt.slots] at X146 l146 y146 z146 st146 hQ146 hsi146 hge146 hC146
  subst l146 y146 z146
  obtain ⟨X146, hSi, hZ, hown⟩ := rebS hSi (by rw [h145q]; exact fx148) X146 hsi146 hge146 hZ hown
  obtain ⟨b_146, t_146, kt_146, v146, N146q, K146q, po146_0, po146_1, po146_2, po146_3⟩ := hQ146
  subst v146
  have N146 := Fr.app N145 N146q
  have O146 := O144.keep K146q all0
  have Kc146 := Kc144.trans K146q all0
  have fx149 := (A144.keep K146q)
  have ne_b144_b_146 : b144 ≠ b_146 := Exa.ne fx149 po146_0 (by decide)
  have ne_b144_t_146 : b144 ≠ t_146 := Exa.neArv fx149 po146_3 (hw _ (List.mem_of_getElem? (i := 2) rfl))
  have hc151 := (hc147.trans hC146)
  obtain ⟨_, _, ⟨T150, L150, k150, n150⟩, -, X150, hsi150, hge150, ⟨Lc150, hQ150, l150, y150, z150, hC150⟩, st150⟩ := callSS X146 hx (y := (⟨"com/example/meerkat/meerkat/ExpansionFileEqualsPinLaw", "str", "(I)Ljava/lang/String;"⟩ : MethodName)) hown (mvT hZ (hw _ (List.mem_of_getElem? (i := 11) rfl))) (mvT hZ (hw _ (List.mem_of_getElem? (i := 12) rfl))) (mvT hZ (hw _ (List.mem_of_getElem? (i := 6) rfl))) (mvT hZ (hw _ (List.mem_of_getElem? (i := 13) rfl))) (by decide) (backOfSH (W := 4) (rm2 l Z a0 hw hS [] p1 T146.heap n0 O146 ) hZ (hw _ (List.mem_of_getElem? (i := 13) rfl)) (hw _ (List.mem_of_getElem? (i := 6) rfl)) (by decide) (by decide) (own_EW hw) hc151.1) (g := (mkF m 150 #[oI p0, oI p1, oI p2, oI p3, oJ q4, oS, oJ q5, oS, oI fl, oI sa, oI sb, oJ wb, oS, oJ za, oS, oJ zb, oS, oI ka, oI kb, oU, oU, oU, oU, oU] [(.int p1), (.ref b_146), (.ref (fn1 Z ka)), (.ref b144), (.ref b144)])) rfl (by rw [hml]; rfl) (argsL := [(.int p1)]) (rest := [(.ref b_146), (.ref (fn1 Z ka)), (.ref b144), (.ref b144)]) (lenOf pd_9 rfl) rfl (by show 2 * 0 + _ ≤ _; exact Nat.le_of_eq rfl) (hb hby at_150) (fun _ _ => ⟨rfl, rfl, (by decide : 4 + 3 ≤ _), (by decide : 12 + 8 ≤ _)⟩)
  dsimp only [Pt.U, Pt.locs, Pt.cells, Pt.slots] at X150 l150 y150 z150 st150 hQ150 hsi150 hge150 hC150
  subst l150 y150 z150
  obtain ⟨X150, hSi, hZ, hown⟩ := rebS hSi (Nat.le_refl _) X150 hsi150 hge150 hZ hown
  obtain ⟨b_150, t_150, kt_150, v150, N150q, K150q, po150_0, po150_1, po150_2, po150_3⟩ := hQ150
  subst v150
  have N150 := Fr.app N146 N150q
  have O150 := O146.keep K150q all0
  have Kc150 := Kc146.trans K150q all0
  have fx152 := (fx149.keep K150q)
  have ne_b144_b_150 : b144 ≠ b_150 := Exa.ne fx152 po150_0 (by decide)
  have ne_b144_t_150 : b144 ≠ t_150 := Exa.neArv fx152 po150_3 (hw _ (List.mem_of_getElem? (i := 2) rfl))
  have fx154 := ((F_kind_b144.keep K146q nin0).keep K150q nin0)
  have fx155 := ((F_url_b144.keep K146q nin0).keep K150q nin0)
  have fx156 := ((F_fileName_b144.keep K146q nin0).keep K150q nin0)
  have fx157 := ((F_size_b144.keep K146q nin0).keep K150q nin0)
  have fx158 := (po146_0.keep K150q)
  have hc159 := (hc151.trans hC150)
  obtain ⟨_, _, ⟨T153, L153, k153, n153⟩, -, X153, hsi153, hge153, ⟨Lc153, hQ153, l153, y153, z153, hC153⟩, st153⟩ := X150.specialBackS hx (y := (⟨"com/example/meerkat/meerkat/ExpansionFile", "<init>", "(Lcom/example/meerkat/meerkat/ExpansionFile$Kind;Ljava/lang/String;Ljava/lang/String;J)V"⟩ : MethodName)) rfl hown (mvT hZ (hw _ (List.mem_of_getElem? (i := 25) rfl))) (mvT hZ (hw _ (List.mem_of_getElem? (i := 26) rfl))) (mvT hZ (hw _ (List.mem_of_getElem? (i := 27) rfl))) (by decide) (backOfSH (W := 1) (rm4 l Z a0 hw hS [] b144 (fn1 Z ka) b_146 b_150 za T150.heap n0 O150 fx152 fx154 fx155 fx156 fx157 g_b144 ((exa_fn1 hS ka).ext O150.2) fx158 po150_0) hZ (hw _ (List.mem_of_getElem? (i := 27) rfl)) (hw _ (List.mem_of_getElem? (i := 3) rfl)) (by decide) (by decide) (own_EW hw) hc159.1) (g := (mkF m 155 #[oI p0, oI p1, oI p2, oI p3, oJ q4, oS, oJ q5, oS, oI fl, oI sa, oI sb, oJ wb, oS, oJ za, oS, oJ zb, oS, oI ka, oI kb, oU, oU, oU, oU, oU] [(.long za), (.ref b_150), (.ref b_146), (.ref (fn1 Z ka)), (.ref b144), (.ref b144)])) rfl (by rw [hml]; rfl) (Steps.refl _) (a := b144) (argsL := [(.ref (fn1 Z ka)), (.ref b_146), (.ref b_150), (.long za)]) (rest := [(.ref b144)]) (lenOf pd_10 rfl) rfl (by show 2 * 0 + _ ≤ _; exact Nat.le_of_eq rfl) (hb hby at_155) (fun _ _ => ⟨rfl, rfl, (by decide : 7 + 6 ≤ _), (by decide : 20 + 72 ≤ _)⟩)
  dsimp only [Pt.U, Pt.locs, Pt.cells, Pt.slots] at X153 l153 y153 z153 st153 hQ153 hsi153 hge153 hC153
  subst l153 y153 z153
  obtain ⟨X153, hSi, hZ, hown⟩ := rebS hSi (Nat.le_refl _) X153 hsi153 hge153 hZ hown
  obtain ⟨v153, N153q, K153q, po153_0, po153_1, po153_2, po153_3, po153_4⟩ := hQ153
  subst v153
  have N153 := Fr.app N150 N153q
  have O153 := O150.keep K153q (allS g_b144 all0)
  have Kc153 := Kc150.trans K153q (allS (Or.inr sz_b144) all0)
  obtain ⟨T160, h160, X160, e160, E160, A160, D160, -, st160⟩ := newO X153 hx hZ hown (hw _ (List.mem_of_getElem? (i := 1) rfl)) (hw _ (List.mem_of_getElem? (i := 2) rfl)) (hw _ (List.mem_of_getElem? (i := 3) rfl)) rfl (g := (mkF m 160 #[oI p0, oI p1, oI p2, oI p3, oJ q4, oS, oJ q5, oS, oI fl, oI sa, oI sb, oJ wb, oS, oJ za, oS, oJ zb, oS, oI ka, oI kb, oR b144, oU, oU, oU, oU] [])) rfl (hb hby at_160) (by decide) (by decide)
  obtain ⟨b160, g160⟩ : ∃ z, z = T153.heap.size := ⟨_, rfl⟩
  have g_b160 : n0 ≤ b160 := Nat.le_trans (own_old_le O153) (Nat.le_of_eq g160.symm)
  have sz_b160 : h0.size ≤ b160 := Nat.le_trans Kc153.1 (Nat.le_of_eq g160.symm)
  have ne_b144_b160 : b144 ≠ b160 := Nat.ne_of_lt (Nat.lt_of_lt_of_le po153_0.lt (Nat.le_of_eq g160.symm))
  have fx161 := (fx158.keep K153q)
  have ne_b_146_b160 : b_146 ≠ b160 := Nat.ne_of_lt (Nat.lt_of_lt_of_le fx161.lt (Nat.le_of_eq g160.symm))
  have fx162 := ((po146_3.keep K150q nin0).keep K153q (ninS (Ne.symm ne_b144_t_146) nin0))
  have ne_t_146_b160 : t_146 ≠ b160 := Nat.ne_of_lt (Nat.lt_of_lt_of_le fx162.lt (Nat.le_of_eq g160.symm))
  have fx163 := (po150_0.keep K153q)
  have ne_b_150_b160 : b_150 ≠ b160 := Nat.ne_of_lt (Nat.lt_of_lt_of_le fx163.lt (Nat.le_of_eq g160.symm))
  have fx164 := (po150_3.keep K153q (ninS (Ne.symm ne_b144_t_150) nin0))
  have ne_t_150_b160 : t_150 ≠ b160 := Nat.ne_of_lt (Nat.lt_of_lt_of_le fx164.lt (Nat.le_of_eq g160.symm))
  rw [← g160] at A160 D160 st160
  have O160 := O153.ext E160
  have Kc160 := Kc153.ext E160
  have F_kind_b160 : Fld Z h160 b160 "com/example/meerkat/meerkat/ExpansionFile" "kind" "Lcom/example/meerkat/meerkat/ExpansionFile$Kind;" .null := D160 (Or.inr (hw _ (List.mem_of_getElem? (i := 39) rfl))) (ty := (.object "com/example/meerkat/meerkat/ExpansionFile$Kind")) (by decide)
  have F_url_b160 : Fld Z h160 b160 "com/example/meerkat/meerkat/ExpansionFile" "url" "Ljava/lang/String;" .null := D160 (Or.inr (hw _ (List.mem_of_getElem? (i := 44) rfl))) (ty := (.object "java/lang/String")) (by decide)
  have F_fileName_b160 : Fld Z h160 b160 "com/example/meerkat/meerkat/ExpansionFile" "fileName" "Ljava/lang/String;" .null := D160 (Or.inr (hw _ (List.mem_of_getElem? (i := 47) rfl))) (ty := (.object "java/lang/String")) (by decide)
  have F_size_b160 : Fld Z h160 b160 "com/example/meerkat/meerkat/ExpansionFile" "size" "J" (.long (0 : Int64)) := D160 (Or.inr (hw _ (List.mem_of_getElem? (i := 49) rfl))) (ty := .long) (by decide)
  obtain ⟨_, _, ⟨T165, L165, k165, n165⟩, -, X165, ⟨Lc165, hQ165, l165, y165, z165⟩, st165⟩ := Jvm.LawKit.callS X160 hx (y := (⟨"com/example/meerkat/meerkat/ExpansionFileEqualsPinLaw", "kindOf", "(I)Lcom/example/meerkat/meerkat/ExpansionFile$Kind;"⟩ : MethodName)) hown (mvT hZ (hw _ (List.mem_of_getElem? (i := 4) rfl))) (mvT hZ (hw _ (List.mem_of_getElem? (i := 5) rfl))) (mvT hZ (hw _ (List.mem_of_getElem? (i := 6) rfl))) (mvT hZ (hw _ (List.mem_of_getElem? (i := 7) rfl))) (by decide) (backOf (W := 2) (rm1 l Z a0 hw hS [] kb h160 n0 O160) hZ (hw _ (List.mem_of_getElem? (i := 7) rfl)) (hw _ (List.mem_of_getElem? (i := 6) rfl)) (by decide) (by decide)) (g := (mkF m 166 #[oI p0, oI p1, oI p2, oI p3, oJ q4, oS, oJ q5, oS, oI fl, oI sa, oI sb, oJ wb, oS, oJ za, oS, oJ zb, oS, oI ka, oI kb, oR b144, oU, oU, oU, oU] [(.int kb), (.ref b160), (.ref b160)])) rfl (by rw [hml]; rfl) (argsL := [(.int kb)]) (rest := [(.ref b160), (.ref b160)]) (lenOf pd_8 rfl) rfl (by show 2 * 0 + _ ≤ _; exact Nat.le_of_eq rfl) (hb hby at_166) (fun _ _ => ⟨rfl, e160, (by decide : 14 + 0 ≤ _), (by decide : 96 + 0 ≤ _)⟩)
  dsimp only [Pt.U, Pt.locs, Pt.cells, Pt.slots] at X165 l165 y165 z165 st165 hQ165
  subst l165 y165 z165
  obtain ⟨v165, N165q, h165q⟩ := hQ165
  subst v165
  have N165 := Fr.app N153 N165q
  obtain ⟨lo166, X166, N166⟩ := own_hide X165 N165
  have hc168 := (own_cext (hc159.trans hC153) E160)
  have fx169 := (Nat.le_trans (Nat.le_refl _) E160.1)
  obtain ⟨_, _, ⟨T167, L167, k167, n167⟩, -, X167, hsi167, hge167, ⟨Lc167, hQ167, l167, y167, z167, hC167⟩, st167⟩ := callSS X166 hx (y := (⟨"com/example/meerkat/meerkat/ExpansionFileEqualsPinLaw", "str", "(I)Ljava/lang/String;"⟩ : MethodName)) hown (mvT hZ (hw _ (List.mem_of_getElem? (i := 11) rfl))) (mvT hZ (hw _ (List.mem_of_getElem? (i := 12) rfl))) (mvT hZ (hw _ (List.mem_of_getElem? (i := 6) rfl))) (mvT hZ (hw _ (List.mem_of_getElem? (i := 13) rfl))) (by decide) (backOfSH (W := 3) (rm2 l Z a0 hw hS [] sa h160 n0 O160 ) hZ (hw _ (List.mem_of_getElem? (i := 13) rfl)) (hw _ (List.mem_of_getElem? (i := 6) rfl)) (by decide) (by decide) (own_EW hw) hc168.1) (g := (mkF m 171 #[oI p0, oI p1, oI p2, oI p3, oJ q4, oS, oJ q5, oS, oI fl, oI sa, oI sb, oJ wb, oS, oJ za, oS, oJ zb, oS, oI ka, oI kb, oR b144, oU, oU, oU, oU] [(.int sa), (.ref (fn1 Z kb)), (.ref b160), (.ref b160)])) rfl (by rw [hml]; rfl) (argsL := [(.int sa)]) (rest := [(.ref (fn1 Z kb)), (.ref b160), (.ref b160)]) (lenOf pd_9 rfl) rfl (by show 2 * 0 + _ ≤ _; exact Nat.le_of_eq rfl) (hb hby at_171) (fun _ _ => ⟨rfl, h165q, (by decide : 14 + 3 ≤ _), (by decide : 96 + 8 ≤ _)⟩)
  dsimp only [Pt.U, Pt.locs, Pt.cells, Pt.slots] at X167 l167 y167 z167 st167 hQ167 hsi167 hge167 hC167
  subst l167 y167 z167
  obtain ⟨X167, hSi, hZ, hown⟩ := rebS hSi (by rw [h165q]; exact fx169) X167 hsi167 hge167 hZ hown
  obtain ⟨b_167, t_167, kt_167, v167, N167q, K167q, po167_0, po167_1, po167_2, po167_3⟩ := hQ167
  subst v167
  have N167 := Fr.app N166 N167q
  have O167 := O160.keep K167q all0
  have Kc167 := Kc160.trans K167q all0
  have fx170 := ((po153_0.ext E160).keep K167q)
  have ne_b144_b_167 : b144 ≠ b_167 := Exa.ne fx170 po167_0 (by decide)
  have fx171 := (A160.keep K167q)
  have ne_b160_b_167 : b160 ≠ b_167 := Exa.ne fx171 po167_0 (by decide)
  have ne_b144_t_167 : b144 ≠ t_167 := Exa.neArv fx170 po167_3 (hw _ (List.mem_of_getElem? (i := 2) rfl))
  have ne_b160_t_167 : b160 ≠ t_167 := Exa.neArv fx171 po167_3 (hw _ (List.mem_of_getElem? (i := 2) rfl))
  have hc173 := (hc168.trans hC167)
  obtain ⟨_, _, ⟨T172, L172, k172, n172⟩, -, X172, hsi172, hge172, ⟨Lc172, hQ172, l172, y172, z172, hC172⟩, st172⟩ := callSS X167 hx (y := (⟨"com/example/meerkat/meerkat/ExpansionFileEqualsPinLaw", "str", "(I)Ljava/lang/String;"⟩ : MethodName)) hown (mvT hZ (hw _ (List.mem_of_getElem? (i := 11) rfl))) (mvT hZ (hw _ (List.mem_of_getElem? (i := 12) rfl))) (mvT hZ (hw _ (List.mem_of_getElem? (i := 6) rfl))) (mvT hZ (hw _ (List.mem_of_getElem? (i := 13) rfl))) (by decide) (backOfSH (W := 4) (rm2 l Z a0 hw hS [] sb T167.heap n0 O167 ) hZ (hw _ (List.mem_of_getElem? (i := 13) rfl)) (hw _ (List.mem_of_getElem? (i := 6) rfl)) (by decide) (by decide) (own_EW hw) hc173.1) (g := (mkF m 176 #[oI p0, oI p1, oI p2, oI p3, oJ q4, oS, oJ q5, oS, oI fl, oI sa, oI sb, oJ wb, oS, oJ za, oS, oJ zb, oS, oI ka, oI kb, oR b144, oU, oU, oU, oU] [(.int sb), (.ref b_167), (.ref (fn1 Z kb)), (.ref b160), (.ref b160)])) rfl (by rw [hml]; rfl) (argsL := [(.int sb)]) (rest := [(.ref b_167), (.ref (fn1 Z kb)), (.ref b160), (.ref b160)]) (lenOf pd_9 rfl) rfl (by show 2 * 0 + _ ≤ _; exact Nat.le_of_eq rfl) (hb hby at_176) (fun _ _ => ⟨rfl, rfl, (by decide : 17 + 3 ≤ _), (by decide : 104 + 8 ≤ _)⟩)
  dsimp only [Pt.U, Pt.locs, Pt.cells, Pt.slots] at X172 l172 y172 z172 st172 hQ172 hsi172 hge172 hC172
  subst l172 y172 z172
  obtain ⟨X172, hSi, hZ, hown⟩ := rebS hSi (Nat.le_refl _) X172 hsi172 hge172 hZ hown
  obtain ⟨b_172, t_172, kt_172, v172, N172q, K172q, po172_0, po172_1, po172_2, po172_3⟩ := hQ172
  subst v172
  have N172 := Fr.app N167 N172q
  have O172 := O167.keep K172q all0
  have Kc172 := Kc167.trans K172q all0
  have fx174 := (fx170.keep K172q)
  have ne_b144_b_172 : b144 ≠ b_172 := Exa.ne fx174 po172_0 (by decide)
  have fx175 := (fx171.keep K172q)
  have ne_b160_b_172 : b160 ≠ b_172 := Exa.ne fx175 po172_0 (by decide)
  have ne_b144_t_172 : b144 ≠ t_172 := Exa.neArv fx174 po172_3 (hw _ (List.mem_of_getElem? (i := 2) rfl))
  have ne_b160_t_172 : b160 ≠ t_172 := Exa.neArv fx175 po172_3 (hw _ (List.mem_of_getElem? (i := 2) rfl))
  have fx177 := ((F_kind_b160.keep K167q nin0).keep K172q nin0)
  have fx178 := ((F_url_b160.keep K167q nin0).keep K172q nin0)
  have fx179 := ((F_fileName_b160.keep K167q nin0).keep K172q nin0)
  have fx180 := ((F_size_b160.keep K167q nin0).keep K172q nin0)
  have fx181 := (po167_0.keep K172q)
  have hc182 := (hc173.trans hC172)
  obtain ⟨_, _, ⟨T176, L176, k176, n176⟩, -, X176, hsi176, hge176, ⟨Lc176, hQ176, l176, y176, z176, hC176⟩, st176⟩ := X172.specialBackS hx (y := (⟨"com/example/meerkat/meerkat/ExpansionFile", "<init>", "(Lcom/example/meerkat/meerkat/ExpansionFile$Kind;Ljava/lang/String;Ljava/lang/String;J)V"⟩ : MethodName)) rfl hown (mvT hZ (hw _ (List.mem_of_getElem? (i := 25) rfl))) (mvT hZ (hw _ (List.mem_of_getElem? (i := 26) rfl))) (mvT hZ (hw _ (List.mem_of_getElem? (i := 27) rfl))) (by decide) (backOfSH (W := 1) (rm4 l Z a0 hw hS [] b160 (fn1 Z kb) b_167 b_172 zb T172.heap n0 O172 fx175 fx177 fx178 fx179 fx180 g_b160 ((exa_fn1 hS kb).ext O172.2) fx181 po172_0) hZ (hw _ (List.mem_of_getElem? (i := 27) rfl)) (hw _ (List.mem_of_getElem? (i := 3) rfl)) (by decide) (by decide) (own_EW hw) hc182.1) (g := (mkF m 181 #[oI p0, oI p1, oI p2, oI p3, oJ q4, oS, oJ q5, oS, oI fl, oI sa, oI sb, oJ wb, oS, oJ za, oS, oJ zb, oS, oI ka, oI kb, oR b144, oU, oU, oU, oU] [(.long zb), (.ref b_172), (.ref b_167), (.ref (fn1 Z kb)), (.ref b160), (.ref b160)])) rfl (by rw [hml]; rfl) (Steps.refl _) (a := b160) (argsL := [(.ref (fn1 Z kb)), (.ref b_167), (.ref b_172), (.long zb)]) (rest := [(.ref b160)]) (lenOf pd_10 rfl) rfl (by show 2 * 0 + _ ≤ _; exact Nat.le_of_eq rfl) (hb hby at_181) (fun _ _ => ⟨rfl, rfl, (by decide : 20 + 6 ≤ _), (by decide : 112 + 72 ≤ _)⟩)
  dsimp only [Pt.U, Pt.locs, Pt.cells, Pt.slots] at X176 l176 y176 z176 st176 hQ176 hsi176 hge176 hC176
  subst l176 y176 z176
  obtain ⟨X176, hSi, hZ, hown⟩ := rebS hSi (Nat.le_refl _) X176 hsi176 hge176 hZ hown
  obtain ⟨v176, N176q, K176q, po176_0, po176_1, po176_2, po176_3, po176_4⟩ := hQ176
  subst v176
  have N176 := Fr.app N172 N176q
  have O176 := O172.keep K176q (allS g_b160 all0)
  have Kc176 := Kc172.trans K176q (allS (Or.inr sz_b160) all0)
  have fx183 := (fx174.keep K176q)
  have fx184 := ((((fx161.ext E160).keep K167q).keep K172q).keep K176q)
  have fx185 := ((((((po146_1.keep K150q nin0).keep K153q (ninS (Ne.symm ne_b144_b_146) nin0)).ext E160).keep K167q nin0).keep K172q nin0).keep K176q (ninS ne_b_146_b160 nin0))
  have fx186 := ((((((po146_2.keep K150q nin0).keep K153q (ninS (Ne.symm ne_b144_b_146) nin0)).ext E160).keep K167q nin0).keep K172q nin0).keep K176q (ninS ne_b_146_b160 nin0))
  have fx187 := ((((fx162.ext E160).keep K167q nin0).keep K172q nin0).keep K176q (ninS ne_t_146_b160 nin0))
  have fx188 := ((((fx163.ext E160).keep K167q).keep K172q).keep K176q)
  have fx189 := (((((po150_1.keep K153q (ninS (Ne.symm ne_b144_b_150) nin0)).ext E160).keep K167q nin0).keep K172q nin0).keep K176q (ninS ne_b_150_b160 nin0))
  have fx190 := (((((po150_2.keep K153q (ninS (Ne.symm ne_b144_b_150) nin0)).ext E160).keep K167q nin0).keep K172q nin0).keep K176q (ninS ne_b_150_b160 nin0))
  have fx191 := ((((fx164.ext E160).keep K167q nin0).keep K172q nin0).keep K176q (ninS ne_t_150_b160 nin0))
  have fx192 := ((((po153_1.ext E160).keep K167q nin0).keep K172q nin0).keep K176q (ninS ne_b144_b160 nin0))
  have fx193 := ((((po153_2.ext E160).keep K167q nin0).keep K172q nin0).keep K176q (ninS ne_b144_b160 nin0))
  have fx194 := ((((po153_3.ext E160).keep K167q nin0).keep K172q nin0).keep K176q (ninS ne_b144_b160 nin0))
  have fx195 := ((((po153_4.ext E160).keep K167q nin0).keep K172q nin0).keep K176q (ninS ne_b144_b160 nin0))
  have fx196 := (fx181.keep K176q)
  have fx197 := ((po167_1.keep K172q nin0).keep K176q (ninS (Ne.symm ne_b160_b_167) nin0))
  have fx198 := ((po167_2.keep K172q nin0).keep K176q (ninS (Ne.symm ne_b160_b_167) nin0))
  have fx199 := ((po167_3.keep K172q nin0).keep K176q (ninS (Ne.symm ne_b160_t_167) nin0))
  have fx200 := (po172_0.keep K176q)
  have fx201 := (po172_1.keep K176q (ninS (Ne.symm ne_b160_b_172) nin0))
  have fx202 := (po172_2.keep K176q (ninS (Ne.symm ne_b160_b_172) nin0))
  have fx203 := (po172_3.keep K176q (ninS (Ne.symm ne_b160_t_172) nin0))
  obtain ⟨kd, hkd⟩ : ∃ z, z = (((fl.toUInt32 >>> ((4 : Int32) &&& 31).toUInt32).toInt32) &&& (3 : Int32)) := ⟨_, rfl⟩
  have rkd : kd = (0 : Int32) ∨ kd = (1 : Int32) ∨ kd = (2 : Int32) ∨ kd = (3 : Int32) := by rw [hkd]; exact rng_mask3 _
  have pre204 : ∀ t, oP p e below T176 (mkF m 194 #[oI p0, oI p1, oI p2, oI p3, oJ q4, oS, oJ q5, oS, oI fl, oI sa, oI sb, oJ wb, oS, oJ za, oS, oJ zb, oS, oI ka, oI kb, oR b144, oR b160, oI kd, oU, oU] []) t → oP p e below s₁ (entryFrame m #[(.int p0), (.int p1), (.int p2), (.int p3), (.long q4), (.long q5)] maxLocals) t := fun t k => pre143 t (by
    show oP p e below s₁ (mkF m 117 #[oI p0, oI p1, oI p2, oI p3, oJ q4, oS, oJ q5, oS, oI fl, oI sa, oI sb, oJ wb, oS, oJ za, oS, oU, oU, oU, oU, oU, oU, oU, oU, oU] [(.long zb)]) _
    refine XS.lstore X0.here hx rfl (hb hby at_117) rfl (l' := #[oI p0, oI p1, oI p2, oI p3, oJ q4, oS, oJ q5, oS, oI fl, oI sa, oI sb, oJ wb, oS, oJ za, oS, oJ zb, oS, oU, oU, oU, oU, oU, oU, oU]) rfl ?_
    show oP p e below s₁ (mkF m 119 #[oI p0, oI p1, oI p2, oI p3, oJ q4, oS, oJ q5, oS, oI fl, oI sa, oI sb, oJ wb, oS, oJ za, oS, oJ zb, oS, oU, oU, oU, oU, oU, oU, oU] []) _
    refine XS.iloadN X0.here hx rfl (hb hby at_119) rfl ?_
    show oP p e below s₁ (mkF m 120 #[oI p0, oI p1, oI p2, oI p3, oJ q4, oS, oJ q5, oS, oI fl, oI sa, oI sb, oJ wb, oS, oJ za, oS, oJ zb, oS, oU, oU, oU, oU, oU, oU, oU] [(.int p0)]) _
    refine XS.bipush X0.here hx rfl (hb hby at_120) ?_
    show oP p e below s₁ (mkF m 122 #[oI p0, oI p1, oI p2, oI p3, oJ q4, oS, oJ q5, oS, oI fl, oI sa, oI sb, oJ wb, oS, oJ za, oS, oJ zb, oS, oU, oU, oU, oU, oU, oU, oU] [(.int (18 : Int32)), (.int p0)]) _
    refine XS.iushr X0.here hx rfl (hb hby at_122) rfl ?_
    show oP p e below s₁ (mkF m 123 #[oI p0, oI p1, oI p2, oI p3, oJ q4, oS, oJ q5, oS, oI fl, oI sa, oI sb, oJ wb, oS, oJ za, oS, oJ zb, oS, oU, oU, oU, oU, oU, oU, oU] [(.int ((p0.toUInt32 >>> ((18 : Int32) &&& 31).toUInt32).toInt32))]) _
    refine XS.iconst X0.here hx rfl (hb hby at_123) ?_
    show oP p e below s₁ (mkF m 124 #[oI p0, oI p1, oI p2, oI p3, oJ q4, oS, oJ q5, oS, oI fl, oI sa, oI sb, oJ wb, oS, oJ za, oS, oJ zb, oS, oU, oU, oU, oU, oU, oU, oU] [(.int (1 : Int32)), (.int ((p0.toUInt32 >>> ((18 : Int32) &&& 31).toUInt32).toInt32))]) _
    refine XS.iand X0.here hx rfl (hb hby at_124) rfl ?_
    show oP p e below s₁ (mkF m 125 #[oI p0, oI p1, oI p2, oI p3, oJ q4, oS, oJ q5, oS, oI fl, oI sa, oI sb, oJ wb, oS, oJ za, oS, oJ zb, oS, oU, oU, oU, oU, oU, oU, oU] [(.int (((p0.toUInt32 >>> ((18 : Int32) &&& 31).toUInt32).toInt32) &&& (1 : Int32)))]) _
    rw [← hka]
    show oP p e below s₁ (mkF m 125 #[oI p0, oI p1, oI p2, oI p3, oJ q4, oS, oJ q5, oS, oI fl, oI sa, oI sb, oJ wb, oS, oJ za, oS, oJ zb, oS, oU, oU, oU, oU, oU, oU, oU] [(.int ka)]) _
    refine XS.istore X0.here hx rfl (hb hby at_125) rfl (l' := #[oI p0, oI p1, oI p2, oI p3, oJ q4, oS, oJ q5, oS, oI fl, oI sa, oI sb, oJ wb, oS, oJ za, oS, oJ zb, oS, oI ka, oU, oU, oU, oU, oU, oU]) rfl ?_
    show oP p e below s₁ (mkF m 127 #[oI p0, oI p1, oI p2, oI p3, oJ q4, oS, oJ q5, oS, oI fl, oI sa, oI sb, oJ wb, oS, oJ za, oS, oJ zb, oS, oI ka, oU, oU, oU, oU, oU, oU] []) _
    refine XS.iload X0.here hx rfl (hb hby at_127) rfl ?_
    show oP p e below s₁ (mkF m 129 #[oI p0, oI p1, oI p2, oI p3, oJ q4, oS, oJ q5, oS, oI fl, oI sa, oI sb, oJ wb, oS, oJ za, oS, oJ zb, oS, oI ka, oU, oU, oU, oU, oU, oU] [(.int sa)]) _
    refine XS.bipush X0.here hx rfl (hb hby at_129) ?_
    show oP p e below s₁ (mkF m 131 #[oI p0, oI p1, oI p2, oI p3, oJ q4, oS, oJ q5, oS, oI fl, oI sa, oI sb, oJ wb, oS, oJ za, oS, oJ zb, oS, oI ka, oU, oU, oU, oU, oU, oU] [(.int (18 : Int32)), (.int sa)]) _
    refine XS.iushr X0.here hx rfl (hb hby at_131) rfl ?_
    show oP p e below s₁ (mkF m 132 #[oI p0, oI p1, oI p2, oI p3, oJ q4, oS, oJ q5, oS, oI fl, oI sa, oI sb, oJ wb, oS, oJ za, oS, oJ zb, oS, oI ka, oU, oU, oU, oU, oU, oU] [(.int ((sa.toUInt32 >>> ((18 : Int32) &&& 31).toUInt32).toInt32))]) _
    refine XS.iconst X0.here hx rfl (hb hby at_132) ?_
    show oP p e below s₁ (mkF m 133 #[oI p0, oI p1, oI p2, oI p3, oJ q4, oS, oJ q5, oS, oI fl, oI sa, oI sb, oJ wb, oS, oJ za, oS, oJ zb, oS, oI ka, oU, oU, oU, oU, oU, oU] [(.int (1 : Int32)), (.int ((sa.toUInt32 >>> ((18 : Int32) &&& 31).toUInt32).toInt32))]) _
    refine XS.iand X0.here hx rfl (hb hby at_133) rfl ?_
    show oP p e below s₁ (mkF m 134 #[oI p0, oI p1, oI p2, oI p3, oJ q4, oS, oJ q5, oS, oI fl, oI sa, oI sb, oJ wb, oS, oJ za, oS, oJ zb, oS, oI ka, oU, oU, oU, oU, oU, oU] [(.int (((sa.toUInt32 >>> ((18 : Int32) &&& 31).toUInt32).toInt32) &&& (1 : Int32)))]) _
    rw [← hkb]
    show oP p e below s₁ (mkF m 134 #[oI p0, oI p1, oI p2, oI p3, oJ q4, oS, oJ q5, oS, oI fl, oI sa, oI sb, oJ wb, oS, oJ za, oS, oJ zb, oS, oI ka, oU, oU, oU, oU, oU, oU] [(.int kb)]) _
    refine XS.istore X0.here hx rfl (hb hby at_134) rfl (l' := #[oI p0, oI p1, oI p2, oI p3, oJ q4, oS, oJ q5, oS, oI fl, oI sa, oI sb, oJ wb, oS, oJ za, oS, oJ zb, oS, oI ka, oI kb, oU, oU, oU, oU, oU]) rfl ?_
    show oP p e below s₁ (mkF m 136 #[oI p0, oI p1, oI p2, oI p3, oJ q4, oS, oJ q5, oS, oI fl, oI sa, oI sb, oJ wb, oS, oJ za, oS, oJ zb, oS, oI ka, oI kb, oU, oU, oU, oU, oU] []) _
    refine st144 _ ?_
    show oP p e below T144 (mkF m 139 #[oI p0, oI p1, oI p2, oI p3, oJ q4, oS, oJ q5, oS, oI fl, oI sa, oI sb, oJ wb, oS, oJ za, oS, oJ zb, oS, oI ka, oI kb, oU, oU, oU, oU, oU] [(.ref b144)]) _
    refine XS.dup X144.here hx rfl (hb hby at_139) rfl rfl ?_
    show oP p e below T144 (mkF m 140 #[oI p0, oI p1, oI p2, oI p3, oJ q4, oS, oJ q5, oS, oI fl, oI sa, oI sb, oJ wb, oS, oJ za, oS, oJ zb, oS, oI ka, oI kb, oU, oU, oU, oU, oU] [(.ref b144), (.ref b144)]) _
    refine XS.iload X144.here hx rfl (hb hby at_140) rfl ?_
    show oP p e below T144 (mkF m 142 #[oI p0, oI p1, oI p2, oI p3, oJ q4, oS, oJ q5, oS, oI fl, oI sa, oI sb, oJ wb, oS, oJ za, oS, oJ zb, oS, oI ka, oI kb, oU, oU, oU, oU, oU] [(.int ka), (.ref b144), (.ref b144)]) _
    refine st145 _ ?_
    show oP p e below T145 (mkF m 145 #[oI p0, oI p1, oI p2, oI p3, oJ q4, oS, oJ q5, oS, oI fl, oI sa, oI sb, oJ wb, oS, oJ za, oS, oJ zb, oS, oI ka, oI kb, oU, oU, oU, oU, oU] [(.ref (fn1 Z ka)), (.ref b144), (.ref b144)]) _
    refine XS.iloadN X145.here hx rfl (hb hby at_145) rfl ?_
    show oP p e below T145 (mkF m 146 #[oI p0, oI p1, oI p2, oI p3, oJ q4, oS, oJ q5, oS, oI fl, oI sa, oI sb, oJ wb, oS, oJ za, oS, oJ zb, oS, oI ka, oI kb, oU, oU, oU, oU, oU] [(.int p0), (.ref (fn1 Z ka)), (.ref b144), (.ref b144)]) _
    refine st146.trans ?_
    show oP p e below T146 (mkF m 149 #[oI p0, oI p1, oI p2, oI p3, oJ q4, oS, oJ q5, oS, oI fl, oI sa, oI sb, oJ wb, oS, oJ za, oS, oJ zb, oS, oI ka, oI kb, oU, oU, oU, oU, oU] [(.ref b_146), (.ref (fn1 Z ka)), (.ref b144), (.ref b144)]) _
    refine XS.iloadN X146.here hx rfl (hb hby at_149) rfl ?_
    show oP p e below T146 (mkF m 150 #[oI p0, oI p1, oI p2, oI p3, oJ q4, oS, oJ q5, oS, oI fl, oI sa, oI sb, oJ wb, oS, oJ za, oS, oJ zb, oS, oI ka, oI kb, oU, oU, oU, oU, oU] [(.int p1), (.ref b_146), (.ref (fn1 Z ka)), (.ref b144), (.ref b144)]) _
    refine st150.trans ?_
    show oP p e below T150 (mkF m 153 #[oI p0, oI p1, oI p2, oI p3, oJ q4, oS, oJ q5, oS, oI fl, oI sa, oI sb, oJ wb, oS, oJ za, oS, oJ zb, oS, oI ka, oI kb, oU, oU, oU, oU, oU] [(.ref b_150), (.ref b_146), (.ref (fn1 Z ka)), (.ref b144), (.ref b144)]) _
    refine XS.lload X150.here hx rfl (hb hby at_153) rfl ?_
    show oP p e below T150 (mkF m 155 #[oI p0, oI p1, oI p2, oI p3, oJ q4, oS, oJ q5, oS, oI fl, oI sa, oI sb, oJ wb, oS, oJ za, oS, oJ zb, oS, oI ka, oI kb, oU, oU, oU, oU, oU] [(.long za), (.ref b_150), (.ref b_146), (.ref (fn1 Z ka)), (.ref b144), (.ref b144)]) _
    refine st153.trans ?_
    show oP p e below T153 (mkF m 158 #[oI p0, oI p1, oI p2, oI p3, oJ q4, oS, oJ q5, oS, oI fl, oI sa, oI sb, oJ wb, oS, oJ za, oS, oJ zb, oS, oI ka, oI kb, oU, oU, oU, oU, oU] [(.ref b144)]) _
    refine XS.astore X153.here hx rfl (hb hby at_158) rfl rfl (l' := #[oI p0, oI p1, oI p2, oI p3, oJ q4, oS, oJ q5, oS, oI fl, oI sa, oI sb, oJ wb, oS, oJ za, oS, oJ zb, oS, oI ka, oI kb, oR b144, oU, oU, oU, oU]) rfl ?_
    show oP p e below T153 (mkF m 160 #[oI p0, oI p1, oI p2, oI p3, oJ q4, oS, oJ q5, oS, oI fl, oI sa, oI sb, oJ wb, oS, oJ za, oS, oJ zb, oS, oI ka, oI kb, oR b144, oU, oU, oU, oU] []) _
    refine st160 _ ?_
    show oP p e below T160 (mkF m 163 #[oI p0, oI p1, oI p2, oI p3, oJ q4, oS, oJ q5, oS, oI fl, oI sa, oI sb, oJ wb, oS, oJ za, oS, oJ zb, oS, oI ka, oI kb, oR b144, oU, oU, oU, oU] [(.ref b160)]) _
    refine XS.dup X160.here hx rfl (hb hby at_163) rfl rfl ?_
    show oP p e below T160 (mkF m 164 #[oI p0, oI p1, oI p2, oI p3, oJ q4, oS, oJ q5, oS, oI fl, oI sa, oI sb, oJ wb, oS, oJ za, oS, oJ zb, oS, oI ka, oI kb, oR b144, oU, oU, oU, oU] [(.ref b160), (.ref b160)]) _
    refine XS.iload X160.here hx rfl (hb hby at_164) rfl ?_
    show oP p e below T160 (mkF m 166 #[oI p0, oI p1, oI p2, oI p3, oJ q4, oS, oJ q5, oS, oI fl, oI sa, oI sb, oJ wb, oS, oJ za, oS, oJ zb, oS, oI ka, oI kb, oR b144, oU, oU, oU, oU] [(.int kb), (.ref b160), (.ref b160)]) _
    refine st165 _ ?_
    show oP p e below T165 (mkF m 169 #[oI p0, oI p1, oI p2, oI p3, oJ q4, oS, oJ q5, oS, oI fl, oI sa, oI sb, oJ wb, oS, oJ za, oS, oJ zb, oS, oI ka, oI kb, oR b144, oU, oU, oU, oU] [(.ref (fn1 Z kb)), (.ref b160), (.ref b160)]) _
    refine XS.iload X165.here hx rfl (hb hby at_169) rfl ?_
    show oP p e below T165 (mkF m 171 #[oI p0, oI p1, oI p2, oI p3, oJ q4, oS, oJ q5, oS, oI fl, oI sa, oI sb, oJ wb, oS, oJ za, oS, oJ zb, oS, oI ka, oI kb, oR b144, oU, oU, oU, oU] [(.int sa), (.ref (fn1 Z kb)), (.ref b160), (.ref b160)]) _
    refine st167.trans ?_
    show oP p e below T167 (mkF m 174 #[oI p0, oI p1, oI p2, oI p3, oJ q4, oS, oJ q5, oS, oI fl, oI sa, oI sb, oJ wb, oS, oJ za, oS, oJ zb, oS, oI ka, oI kb, oR b144, oU, oU, oU, oU] [(.ref b_167), (.ref (fn1 Z kb)), (.ref b160), (.ref b160)]) _
    refine XS.iload X167.here hx rfl (hb hby at_174) rfl ?_
    show oP p e below T167 (mkF m 176 #[oI p0, oI p1, oI p2, oI p3, oJ q4, oS, oJ q5, oS, oI fl, oI sa, oI sb, oJ wb, oS, oJ za, oS, oJ zb, oS, oI ka, oI kb, oR b144, oU, oU, oU, oU] [(.int sb), (.ref b_167), (.ref (fn1 Z kb)), (.ref b160), (.ref b160)]) _
    refine st172.trans ?_
    show oP p e below T172 (mkF m 179 #[oI p0, oI p1, oI p2, oI p3, oJ q4, oS, oJ q5, oS, oI fl, oI sa, oI sb, oJ wb, oS, oJ za, oS, oJ zb, oS, oI ka, oI kb, oR b144, oU, oU, oU, oU] [(.ref b_172), (.ref b_167), (.ref (fn1 Z kb)), (.ref b160), (.ref b160)]) _
    refine XS.lload X172.here hx rfl (hb hby at_179) rfl ?_
    show oP p e below T172 (mkF m 181 #[oI p0, oI p1, oI p2, oI p3, oJ q4, oS, oJ q5, oS, oI fl, oI sa, oI sb, oJ wb, oS, oJ za, oS, oJ zb, oS, oI ka, oI kb, oR b144, oU, oU, oU, oU] [(.long zb), (.ref b_172), (.ref b_167), (.ref (fn1 Z kb)), (.ref b160), (.ref b160)]) _
    refine st176.trans ?_
    show oP p e below T176 (mkF m 184 #[oI p0, oI p1, oI p2, oI p3, oJ q4, oS, oJ q5, oS, oI fl, oI sa, oI sb, oJ wb, oS, oJ za, oS, oJ zb, oS, oI ka, oI kb, oR b144, oU, oU, oU, oU] [(.ref b160)]) _
    refine XS.astore X176.here hx rfl (hb hby at_184) rfl rfl (l' := #[oI p0, oI p1, oI p2, oI p3, oJ q4, oS, oJ q5, oS, oI fl, oI sa, oI sb, oJ wb, oS, oJ za, oS, oJ zb, oS, oI ka, oI kb, oR b144, oR b160, oU, oU, oU]) rfl ?_
    show oP p e below T176 (mkF m 186 #[oI p0, oI p1, oI p2, oI p3, oJ q4, oS, oJ q5, oS, oI fl, oI sa, oI sb, oJ wb, oS, oJ za, oS, oJ zb, oS, oI ka, oI kb, oR b144, oR b160, oU, oU, oU] []) _
    refine XS.iload X176.here hx rfl (hb hby at_186) rfl ?_
    show oP p e below T176 (mkF m 188 #[oI p0, oI p1, oI p2, oI p3, oJ q4, oS, oJ q5, oS, oI fl, oI sa, oI sb, oJ wb, oS, oJ za, oS, oJ zb, oS, oI ka, oI kb, oR b144, oR b160, oU, oU, oU] [(.int fl)]) _
    refine XS.iconst X176.here hx rfl (hb hby at_188) ?_
    show oP p e below T176 (mkF m 189 #[oI p0, oI p1, oI p2, oI p3, oJ q4, oS, oJ q5, oS, oI fl, oI sa, oI sb, oJ wb, oS, oJ za, oS, oJ zb, oS, oI ka, oI kb, oR b144, oR b160, oU, oU, oU] [(.int (4 : Int32)), (.int fl)]) _
    refine XS.iushr X176.here hx rfl (hb hby at_189) rfl ?_
    show oP p e below T176 (mkF m 190 #[oI p0, oI p1, oI p2, oI p3, oJ q4, oS, oJ q5, oS, oI fl, oI sa, oI sb, oJ wb, oS, oJ za, oS, oJ zb, oS, oI ka, oI kb, oR b144, oR b160, oU, oU, oU] [(.int ((fl.toUInt32 >>> ((4 : Int32) &&& 31).toUInt32).toInt32))]) _
    refine XS.iconst X176.here hx rfl (hb hby at_190) ?_
    show oP p e below T176 (mkF m 191 #[oI p0, oI p1, oI p2, oI p3, oJ q4, oS, oJ q5, oS, oI fl, oI sa, oI sb, oJ wb, oS, oJ za, oS, oJ zb, oS, oI ka, oI kb, oR b144, oR b160, oU, oU, oU] [(.int (3 : Int32)), (.int ((fl.toUInt32 >>> ((4 : Int32) &&& 31).toUInt32).toInt32))]) _
    refine XS.iand X176.here hx rfl (hb hby at_191) rfl ?_
    show oP p e below T176 (mkF m 192 #[oI p0, oI p1, oI p2, oI p3, oJ q4, oS, oJ q5, oS, oI fl, oI sa, oI sb, oJ wb, oS, oJ za, oS, oJ zb, oS, oI ka, oI kb, oR b144, oR b160, oU, oU, oU] [(.int (((fl.toUInt32 >>> ((4 : Int32) &&& 31).toUInt32).toInt32) &&& (3 : Int32)))]) _
    rw [← hkd]
    show oP p e below T176 (mkF m 192 #[oI p0, oI p1, oI p2, oI p3, oJ q4, oS, oJ q5, oS, oI fl, oI sa, oI sb, oJ wb, oS, oJ za, oS, oJ zb, oS, oI ka, oI kb, oR b144, oR b160, oU, oU, oU] [(.int kd)]) _
    refine XS.istore X176.here hx rfl (hb hby at_192) rfl (l' := #[oI p0, oI p1, oI p2, oI p3, oJ q4, oS, oJ q5, oS, oI fl, oI sa, oI sb, oJ wb, oS, oJ za, oS, oJ zb, oS, oI ka, oI kb, oR b144, oR b160, oI kd, oU, oU]) rfl ?_
    exact k)
  rcases rkd with rfl | rfl | rfl | rfl
  · have pre205 : ∀ t, oP p e below T176 (mkF m 251 #[oI p0, oI p1, oI p2, oI p3, oJ q4, oS, oJ q5, oS, oI fl, oI sa, oI sb, oJ wb, oS, oJ za, oS, oJ zb, oS, oI ka, oI kb, oR b144, oR b160, oI (0 : Int32), oR b160, oU] [(.int kb), (.int ka)]) t → oP p e below s₁ (entryFrame m #[(.int p0), (.int p1), (.int p2), (.int p3), (.long q4), (.long q5)] maxLocals) t := fun t k => pre204 t (by
      show oP p e below T176 (mkF m 194 #[oI p0, oI p1, oI p2, oI p3, oJ q4, oS, oJ q5, oS, oI fl, oI sa, oI sb, oJ wb, oS, oJ za, oS, oJ zb, oS, oI ka, oI kb, oR b144, oR b160, oI (0 : Int32), oU, oU] []) _
      refine XS.iload X176.here hx rfl (hb hby at_194) rfl ?_
      show oP p e below T176 (mkF m 196 #[oI p0, oI p1, oI p2, oI p3, oJ q4, oS, oJ q5, oS, oI fl, oI sa, oI sb, oJ wb, oS, oJ za, oS, oJ zb, oS, oI ka, oI kb, oR b144, oR b160, oI (0 : Int32), oU, oU] [(.int (0 : Int32))]) _
      refine XS.iconst X176.here hx rfl (hb hby at_196) ?_
      show oP p e below T176 (mkF m 197 #[oI p0, oI p1, oI p2, oI p3, oJ q4, oS, oJ q5, oS, oI fl, oI sa, oI sb, oJ wb, oS, oJ za, oS, oJ zb, oS, oI ka, oI kb, oR b144, oR b160, oI (0 : Int32), oU, oU] [(.int (1 : Int32)), (.int (0 : Int32))]) _
      refine XS.icmpYes X176.here hx rfl (pc0 := 197) (pc' := 209) rfl (hb hby at_197) rfl (feq (by decide : ¬ ((0 : Int32) = (1 : Int32)))).2 (by decide) (by decide) ?_
      show oP p e below T176 (mkF m 209 #[oI p0, oI p1, oI p2, oI p3, oJ q4, oS, oJ q5, oS, oI fl, oI sa, oI sb, oJ wb, oS, oJ za, oS, oJ zb, oS, oI ka, oI kb, oR b144, oR b160, oI (0 : Int32), oU, oU] []) _
      refine XS.iload X176.here hx rfl (hb hby at_209) rfl ?_
      show oP p e below T176 (mkF m 211 #[oI p0, oI p1, oI p2, oI p3, oJ q4, oS, oJ q5, oS, oI fl, oI sa, oI sb, oJ wb, oS, oJ za, oS, oJ zb, oS, oI ka, oI kb, oR b144, oR b160, oI (0 : Int32), oU, oU] [(.int (0 : Int32))]) _
      refine XS.iconst X176.here hx rfl (hb hby at_211) ?_
      show oP p e below T176 (mkF m 212 #[oI p0, oI p1, oI p2, oI p3, oJ q4, oS, oJ q5, oS, oI fl, oI sa, oI sb, oJ wb, oS, oJ za, oS, oJ zb, oS, oI ka, oI kb, oR b144, oR b160, oI (0 : Int32), oU, oU] [(.int (2 : Int32)), (.int (0 : Int32))]) _
      refine XS.icmpYes X176.here hx rfl (pc0 := 212) (pc' := 227) rfl (hb hby at_212) rfl (feq (by decide : ¬ ((0 : Int32) = (2 : Int32)))).2 (by decide) (by decide) ?_
      show oP p e below T176 (mkF m 227 #[oI p0, oI p1, oI p2, oI p3, oJ q4, oS, oJ q5, oS, oI fl, oI sa, oI sb, oJ wb, oS, oJ za, oS, oJ zb, oS, oI ka, oI kb, oR b144, oR b160, oI (0 : Int32), oU, oU] []) _
      refine XS.iload X176.here hx rfl (hb hby at_227) rfl ?_
      show oP p e below T176 (mkF m 229 #[oI p0, oI p1, oI p2, oI p3, oJ q4, oS, oJ q5, oS, oI fl, oI sa, oI sb, oJ wb, oS, oJ za, oS, oJ zb, oS, oI ka, oI kb, oR b144, oR b160, oI (0 : Int32), oU, oU] [(.int (0 : Int32))]) _
      refine XS.iconst X176.here hx rfl (hb hby at_229) ?_
      show oP p e below T176 (mkF m 230 #[oI p0, oI p1, oI p2, oI p3, oJ q4, oS, oJ q5, oS, oI fl, oI sa, oI sb, oJ wb, oS, oJ za, oS, oJ zb, oS, oI ka, oI kb, oR b144, oR b160, oI (0 : Int32), oU, oU] [(.int (3 : Int32)), (.int (0 : Int32))]) _
      refine XS.icmpYes X176.here hx rfl (pc0 := 230) (pc' := 243) rfl (hb hby at_230) rfl (feq (by decide : ¬ ((0 : Int32) = (3 : Int32)))).2 (by decide) (by decide) ?_
      show oP p e below T176 (mkF m 243 #[oI p0, oI p1, oI p2, oI p3, oJ q4, oS, oJ q5, oS, oI fl, oI sa, oI sb, oJ wb, oS, oJ za, oS, oJ zb, oS, oI ka, oI kb, oR b144, oR b160, oI (0 : Int32), oU, oU] []) _
      refine XS.aload X176.here hx rfl (hb hby at_243) rfl rfl ?_
      show oP p e below T176 (mkF m 245 #[oI p0, oI p1, oI p2, oI p3, oJ q4, oS, oJ q5, oS, oI fl, oI sa, oI sb, oJ wb, oS, oJ za, oS, oJ zb, oS, oI ka, oI kb, oR b144, oR b160, oI (0 : Int32), oU, oU] [(.ref b160)]) _
      refine XS.astore X176.here hx rfl (hb hby at_245) rfl rfl (l' := #[oI p0, oI p1, oI p2, oI p3, oJ q4, oS, oJ q5, oS, oI fl, oI sa, oI sb, oJ wb, oS, oJ za, oS, oJ zb, oS, oI ka, oI kb, oR b144, oR b160, oI (0 : Int32), oR b160, oU]) rfl ?_
      show oP p e below T176 (mkF m 247 #[oI p0, oI p1, oI p2, oI p3, oJ q4, oS, oJ q5, oS, oI fl, oI sa, oI sb, oJ wb, oS, oJ za, oS, oJ zb, oS, oI ka, oI kb, oR b144, oR b160, oI (0 : Int32), oR b160, oU] []) _
      refine XS.iload X176.here hx rfl (hb hby at_247) rfl ?_
      show oP p e below T176 (mkF m 249 #[oI p0, oI p1, oI p2, oI p3, oJ q4, oS, oJ q5, oS, oI fl, oI sa, oI sb, oJ wb, oS, oJ za, oS, oJ zb, oS, oI ka, oI kb, oR b144, oR b160, oI (0 : Int32), oR b160, oU] [(.int ka)]) _
      refine XS.iload X176.here hx rfl (hb hby at_249) rfl ?_
      exact k)
    by_cases hc206 : ka = kb
    · obtain ⟨_, _, ⟨T207, L207, k207, n207⟩, -, X207, ⟨Lc207, hQ207, l207, y207, z207⟩, st207⟩ := Jvm.LawKit.callS X176 hx (y := (⟨"com/example/meerkat/meerkat/ExpansionFileEqualsPinLaw", "sameStr", "(II)Z"⟩ : MethodName)) hown (mvT hZ (hw _ (List.mem_of_getElem? (i := 92) rfl))) (mvT hZ (hw _ (List.mem_of_getElem? (i := 93) rfl))) (mvT hZ (hw _ (List.mem_of_getElem? (i := 6) rfl))) (mvT hZ (hw _ (List.mem_of_getElem? (i := 94) rfl))) (by decide) (backOf (W := 0) (rm18 l Z a0 hw hS [] p0 sa T176.heap n0 O176) hZ (hw _ (List.mem_of_getElem? (i := 94) rfl)) (hw _ (List.mem_of_getElem? (i := 6) rfl)) (by decide) (by decide)) (g := (mkF m 257 #[oI p0, oI p1, oI p2, oI p3, oJ q4, oS, oJ q5, oS, oI fl, oI sa, oI sb, oJ wb, oS, oJ za, oS, oJ zb, oS, oI ka, oI kb, oR b144, oR b160, oI (0 : Int32), oR b160, oU] [(.int sa), (.int p0)])) rfl (by rw [hml]; rfl) (argsL := [(.int p0), (.int sa)]) (rest := []) (lenOf pd_11 rfl) rfl (by show 2 * 0 + _ ≤ _; exact Nat.le_of_eq rfl) (hb hby at_257) (fun _ _ => ⟨rfl, rfl, (by decide : 26 + 0 ≤ _), (by decide : 184 + 0 ≤ _)⟩)
      dsimp only [Pt.U, Pt.locs, Pt.cells, Pt.slots] at X207 l207 y207 z207 st207 hQ207
      subst l207 y207 z207
      obtain ⟨v207, N207q, h207q⟩ := hQ207
      subst v207
      have N207 := Fr.app N176 N207q
      have pre208 : ∀ t, oP p e below T207 (mkF m 260 #[oI p0, oI p1, oI p2, oI p3, oJ q4, oS, oJ q5, oS, oI fl, oI sa, oI sb, oJ wb, oS, oJ za, oS, oJ zb, oS, oI ka, oI kb, oR b144, oR b160, oI (0 : Int32), oR b160, oU] [(.int (fn18 Z p0 sa))]) t → oP p e below s₁ (entryFrame m #[(.int p0), (.int p1), (.int p2), (.int p3), (.long q4), (.long q5)] maxLocals) t := fun t k => pre205 t (by
        show oP p e below T176 (mkF m 251 #[oI p0, oI p1, oI p2, oI p3, oJ q4, oS, oJ q5, oS, oI fl, oI sa, oI sb, oJ wb, oS, oJ za, oS, oJ zb, oS, oI ka, oI kb, oR b144, oR b160, oI (0 : Int32), oR b160, oU] [(.int kb), (.int ka)]) _
        refine XS.icmpNo X176.here hx rfl (hb hby at_251) rfl (teq hc206).2 ?_
        show oP p e below T176 (mkF m 254 #[oI p0, oI p1, oI p2, oI p3, oJ q4, oS, oJ q5, oS, oI fl, oI sa, oI sb, oJ wb, oS, oJ za, oS, oJ zb, oS, oI ka, oI kb, oR b144, oR b160, oI (0 : Int32), oR b160, oU] []) _
        refine XS.iloadN X176.here hx rfl (hb hby at_254) rfl ?_
        show oP p e below T176 (mkF m 255 #[oI p0, oI p1, oI p2, oI p3, oJ q4, oS, oJ q5, oS, oI fl, oI sa, oI sb, oJ wb, oS, oJ za, oS, oJ zb, oS, oI ka, oI kb, oR b144, oR b160, oI (0 : Int32), oR b160, oU] [(.int p0)]) _
        refine XS.iload X176.here hx rfl (hb hby at_255) rfl ?_
        show oP p e below T176 (mkF m 257 #[oI p0, oI p1, oI p2, oI p3, oJ q4, oS, oJ q5, oS, oI fl, oI sa, oI sb, oJ wb, oS, oJ za, oS, oJ zb, oS, oI ka, oI kb, oR b144, oR b160, oI (0 : Int32), oR b160, oU] [(.int sa), (.int p0)]) _
        refine st207 _ ?_
        exact k)
      by_cases hc209 : (fn18 Z p0 sa) = (0 : Int32)
      · obtain ⟨cq210, kq210, q210a, q210b, q210c⟩ := isOf hZ h207q fx183
        obtain ⟨_, _, ⟨T210, L210, k210, n210⟩, -, X210, ⟨Lc210, hQ210, l210, y210, z210⟩, st210⟩ := X207.virtualBack hx (y := (⟨"com/example/meerkat/meerkat/ExpansionFile", "equals", "(Ljava/lang/Object;)Z"⟩ : MethodName)) (z := (⟨"com/example/meerkat/meerkat/ExpansionFile", "equals", "(Ljava/lang/Object;)Z"⟩ : MethodName)) hown (mvT hZ (hw _ (List.mem_of_getElem? (i := 95) rfl))) (mvT hZ (hw _ (List.mem_of_getElem? (i := 96) rfl))) (notFace_of_selects (args := #[]) (mvT hZ (hw _ (List.mem_of_getElem? (i := 98) rfl)))) (mvT hZ (hw _ (List.mem_of_getElem? (i := 98) rfl))) (mvT hZ (hw _ (List.mem_of_getElem? (i := 97) rfl))) (by decide) (backOf (W := 0) (rm19q l Z a0 hw hS [] b144 b160 (fn1 Z ka) (fn1 Z kb) b_146 b_167 b_150 b_172 za zb t_146 kt_146 (strcs p0) t_167 kt_167 (strcs sa) t_150 kt_150 (strcs p1) t_172 kt_172 (strcs sb) T176.heap n0 O176 po176_0 fx192 po176_1 fx193 po176_2 fx194 po176_3 fx195 po176_4 fx184 fx185 fx186 fx187 (strcs_hp p0) (strcs_len p0) fx196 fx197 fx198 fx199 (strcs_hp sa) (strcs_len sa) fx188 fx189 fx190 fx191 (strcs_hp p1) (strcs_len p1) fx200 fx201 fx202 fx203 (strcs_hp sb) (strcs_len sb)) hZ (hw _ (List.mem_of_getElem? (i := 99) rfl)) (hw _ (List.mem_of_getElem? (i := 3) rfl)) (by decide) (by decide)) q210a q210c (g := (mkF m 291 #[oI p0, oI p1, oI p2, oI p3, oJ q4, oS, oJ q5, oS, oI fl, oI sa, oI sb, oJ wb, oS, oJ za, oS, oJ zb, oS, oI ka, oI kb, oR b144, oR b160, oI (0 : Int32), oR b160, oI (0 : Int32)] [(.ref b160), (.ref b144)])) rfl (by rw [hml]; rfl) (Steps.refl _) (argsL := [(.ref b160)]) (rest := []) (lenOf pd_7 rfl) rfl (by show 2 * 0 + _ ≤ _; exact Nat.le_of_eq rfl) (hb hby at_291) (fun _ _ => ⟨rfl, h207q, (by decide : 26 + 0 ≤ _), (by decide : 184 + 0 ≤ _)⟩)
        dsimp only [Pt.U, Pt.locs, Pt.cells, Pt.slots] at X210 l210 y210 z210 st210 hQ210
        subst l210 y210 z210
        obtain ⟨v210, N210q, K210q⟩ := hQ210
        subst v210
        have N210 := Fr.app N207 N210q
        have O210 := O176.keep K210q all0
        have Kc210 := Kc176.trans K210q all0
        have pre211 : ∀ t, oP p e below T210 (mkF m 296 #[oI p0, oI p1, oI p2, oI p3, oJ q4, oS, oJ q5, oS, oI fl, oI sa, oI sb, oJ wb, oS, oJ za, oS, oJ zb, oS, oI ka, oI kb, oR b144, oR b160, oI (0 : Int32), oR b160, oI (0 : Int32)] [(.int (0 : Int32)), (.int (fn19q Z b144 b160 (fn1 Z ka) (fn1 Z kb) b_146 b_167 b_150 b_172 za zb t_146 kt_146 (strcs p0) t_167 kt_167 (strcs sa) t_150 kt_150 (strcs p1) t_172 kt_172 (strcs sb)))]) t → oP p e below s₁ (entryFrame m #[(.int p0), (.int p1), (.int p2), (.int p3), (.long q4), (.long q5)] maxLocals) t := fun t k => pre208 t (by
          show oP p e below T207 (mkF m 260 #[oI p0, oI p1, oI p2, oI p3, oJ q4, oS, oJ q5, oS, oI fl, oI sa, oI sb, oJ wb, oS, oJ za, oS, oJ zb, oS, oI ka, oI kb, oR b144, oR b160, oI (0 : Int32), oR b160, oU] [(.int (fn18 Z p0 sa))]) _
          refine XS.ifYes X207.here hx rfl (pc0 := 260) (pc' := 284) rfl (hb hby at_260) rfl ((if0 _ _).trans (teq hc209).1) (by decide) (by decide) ?_
          show oP p e below T207 (mkF m 284 #[oI p0, oI p1, oI p2, oI p3, oJ q4, oS, oJ q5, oS, oI fl, oI sa, oI sb, oJ wb, oS, oJ za, oS, oJ zb, oS, oI ka, oI kb, oR b144, oR b160, oI (0 : Int32), oR b160, oU] []) _
          refine XS.iconst X207.here hx rfl (hb hby at_284) ?_
          show oP p e below T207 (mkF m 285 #[oI p0, oI p1, oI p2, oI p3, oJ q4, oS, oJ q5, oS, oI fl, oI sa, oI sb, oJ wb, oS, oJ za, oS, oJ zb, oS, oI ka, oI kb, oR b144, oR b160, oI (0 : Int32), oR b160, oU] [(.int (0 : Int32))]) _
          refine XS.istore X207.here hx rfl (hb hby at_285) rfl (l' := #[oI p0, oI p1, oI p2, oI p3, oJ q4, oS, oJ q5, oS, oI fl, oI sa, oI sb, oJ wb, oS, oJ za, oS, oJ zb, oS, oI ka, oI kb, oR b144, oR b160, oI (0 : Int32), oR b160, oI (0 : Int32)]) rfl ?_
          show oP p e below T207 (mkF m 287 #[oI p0, oI p1, oI p2, oI p3, oJ q4, oS, oJ q5, oS, oI fl, oI sa, oI sb, oJ wb, oS, oJ za, oS, oJ zb, oS, oI ka, oI kb, oR b144, oR b160, oI (0 : Int32), oR b160, oI (0 : Int32)] []) _
          refine XS.aload X207.here hx rfl (hb hby at_287) rfl rfl ?_
          show oP p e below T207 (mkF m 289 #[oI p0, oI p1, oI p2, oI p3, oJ q4, oS, oJ q5, oS, oI fl, oI sa, oI sb, oJ wb, oS, oJ za, oS, oJ zb, oS, oI ka, oI kb, oR b144, oR b160, oI (0 : Int32), oR b160, oI (0 : Int32)] [(.ref b144)]) _
          refine XS.aload X207.here hx rfl (hb hby at_289) rfl rfl ?_
          show oP p e below T207 (mkF m 291 #[oI p0, oI p1, oI p2, oI p3, oJ q4, oS, oJ q5, oS, oI fl, oI sa, oI sb, oJ wb, oS, oJ za, oS, oJ zb, oS, oI ka, oI kb, oR b144, oR b160, oI (0 : Int32), oR b160, oI (0 : Int32)] [(.ref b160), (.ref b144)]) _
          refine st210.trans ?_
          show oP p e below T210 (mkF m 294 #[oI p0, oI p1, oI p2, oI p3, oJ q4, oS, oJ q5, oS, oI fl, oI sa, oI sb, oJ wb, oS, oJ za, oS, oJ zb, oS, oI ka, oI kb, oR b144, oR b160, oI (0 : Int32), oR b160, oI (0 : Int32)] [(.int (fn19q Z b144 b160 (fn1 Z ka) (fn1 Z kb) b_146 b_167 b_150 b_172 za zb t_146 kt_146 (strcs p0) t_167 kt_167 (strcs sa) t_150 kt_150 (strcs p1) t_172 kt_172 (strcs sb)))]) _
          refine XS.iload X210.here hx rfl (hb hby at_294) rfl ?_
          exact k)
        by_cases hc212 : (fn19q Z b144 b160 (fn1 Z ka) (fn1 Z kb) b_146 b_167 b_150 b_172 za zb t_146 kt_146 (strcs p0) t_167 kt_167 (strcs sa) t_150 kt_150 (strcs p1) t_172 kt_172 (strcs sb)) = (0 : Int32)
        · have fx213 := (Nat.le_trans (Nat.le_refl _) K210q.1)
          obtain ⟨fs, hr, hrun, hended, hRW⟩ := Stand.leaveW X210 hSi fx213 (v := some (.int (1 : Int32))) (fun h => by rw [Bd.returns] at h; cases h)
          refine ⟨_, _, pre211 _ ?_, hrun, hended, _, _, rfl, ?_, own_rwmono hRW (by decide) (by decide)⟩
          · show oP p e below T210 (mkF m 296 #[oI p0, oI p1, oI p2, oI p3, oJ q4, oS, oJ q5, oS, oI fl, oI sa, oI sb, oJ wb, oS, oJ za, oS, oJ zb, oS, oI ka, oI kb, oR b144, oR b160, oI (0 : Int32), oR b160, oI (0 : Int32)] [(.int (0 : Int32)), (.int (fn19q Z b144 b160 (fn1 Z ka) (fn1 Z kb) b_146 b_167 b_150 b_172 za zb t_146 kt_146 (strcs p0) t_167 kt_167 (strcs sa) t_150 kt_150 (strcs p1) t_172 kt_172 (strcs sb)))]) _
            refine XS.icmpNo X210.here hx rfl (hb hby at_296) rfl (teq hc212).2 ?_
            show oP p e below T210 (mkF m 299 #[oI p0, oI p1, oI p2, oI p3, oJ q4, oS, oJ q5, oS, oI fl, oI sa, oI sb, oJ wb, oS, oJ za, oS, oJ zb, oS, oI ka, oI kb, oR b144, oR b160, oI (0 : Int32), oR b160, oI (0 : Int32)] []) _
            refine XS.iconst X210.here hx rfl (hb hby at_299) ?_
            show oP p e below T210 (mkF m 300 #[oI p0, oI p1, oI p2, oI p3, oJ q4, oS, oJ q5, oS, oI fl, oI sa, oI sb, oJ wb, oS, oJ za, oS, oJ zb, oS, oI ka, oI kb, oR b144, oR b160, oI (0 : Int32), oR b160, oI (0 : Int32)] [(.int (1 : Int32))]) _
            refine XS.goto X210.here hx rfl (pc0 := 300) (pc' := 304) rfl (hb hby at_300) (by decide) (by decide) ?_
            show oP p e below T210 (mkF m 304 #[oI p0, oI p1, oI p2, oI p3, oJ q4, oS, oJ q5, oS, oI fl, oI sa, oI sb, oJ wb, oS, oJ za, oS, oJ zb, oS, oI ka, oI kb, oR b144, oR b160, oI (0 : Int32), oR b160, oI (0 : Int32)] [(.int (1 : Int32))]) _
            exact retN X210 hx (t := .boolean) Bd.returns (by simp) (hb hby at_304) hr
          · show (some (.int (1 : Int32)) : Option Value) = some (.int (1 : Int32)) ∧ Fr n0 _ ∧ Keep h0 T210.heap []
            exact ⟨rfl, N210, Kc210⟩
        · exfalso
          exact ab214 hS p0 p1 sa sb za zb ka kb rka rkb hc206 hc209 hc212
      · obtain ⟨_, _, ⟨T215, L215, k215, n215⟩, -, X215, ⟨Lc215, hQ215, l215, y215, z215⟩, st215⟩ := Jvm.LawKit.callS X207 hx (y := (⟨"com/example/meerkat/meerkat/ExpansionFileEqualsPinLaw", "sameStr", "(II)Z"⟩ : MethodName)) hown (mvT hZ (hw _ (List.mem_of_getElem? (i := 92) rfl))) (mvT hZ (hw _ (List.mem_of_getElem? (i := 93) rfl))) (mvT hZ (hw _ (List.mem_of_getElem? (i := 6) rfl))) (mvT hZ (hw _ (List.mem_of_getElem? (i := 94) rfl))) (by decide) (backOf (W := 0) (rm18 l Z a0 hw hS [] p1 sb T176.heap n0 O176) hZ (hw _ (List.mem_of_getElem? (i := 94) rfl)) (hw _ (List.mem_of_getElem? (i := 6) rfl)) (by decide) (by decide)) (g := (mkF m 266 #[oI p0, oI p1, oI p2, oI p3, oJ q4, oS, oJ q5, oS, oI fl, oI sa, oI sb, oJ wb, oS, oJ za, oS, oJ zb, oS, oI ka, oI kb, oR b144, oR b160, oI (0 : Int32), oR b160, oU] [(.int sb), (.int p1)])) rfl (by rw [hml]; rfl) (argsL := [(.int p1), (.int sb)]) (rest := []) (lenOf pd_11 rfl) rfl (by show 2 * 0 + _ ≤ _; exact Nat.le_of_eq rfl) (hb hby at_266) (fun _ _ => ⟨rfl, h207q, (by decide : 26 + 0 ≤ _), (by decide : 184 + 0 ≤ _)⟩)
        dsimp only [Pt.U, Pt.locs, Pt.cells, Pt.slots] at X215 l215 y215 z215 st215 hQ215
        subst l215 y215 z215
        obtain ⟨v215, N215q, h215q⟩ := hQ215
        subst v215
        have N215 := Fr.app N207 N215q
        have pre216 : ∀ t, oP p e below T215 (mkF m 269 #[oI p0, oI p1, oI p2, oI p3, oJ q4, oS, oJ q5, oS, oI fl, oI sa, oI sb, oJ wb, oS, oJ za, oS, oJ zb, oS, oI ka, oI kb, oR b144, oR b160, oI (0 : Int32), oR b160, oU] [(.int (fn18 Z p1 sb))]) t → oP p e below s₁ (entryFrame m #[(.int p0), (.int p1), (.int p2), (.int p3), (.long q4), (.long q5)] maxLocals) t := fun t k => pre208 t (by
          show oP p e below T207 (mkF m 260 #[oI p0, oI p1, oI p2, oI p3, oJ q4, oS, oJ q5, oS, oI fl, oI sa, oI sb, oJ wb, oS, oJ za, oS, oJ zb, oS, oI ka, oI kb, oR b144, oR b160, oI (0 : Int32), oR b160, oU] [(.int (fn18 Z p0 sa))]) _
          refine XS.ifNo X207.here hx rfl (hb hby at_260) rfl ((if0 _ _).trans (feq hc209).1) ?_
          show oP p e below T207 (mkF m 263 #[oI p0, oI p1, oI p2, oI p3, oJ q4, oS, oJ q5, oS, oI fl, oI sa, oI sb, oJ wb, oS, oJ za, oS, oJ zb, oS, oI ka, oI kb, oR b144, oR b160, oI (0 : Int32), oR b160, oU] []) _
          refine XS.iloadN X207.here hx rfl (hb hby at_263) rfl ?_
          show oP p e below T207 (mkF m 264 #[oI p0, oI p1, oI p2, oI p3, oJ q4, oS, oJ q5, oS, oI fl, oI sa, oI sb, oJ wb, oS, oJ za, oS, oJ zb, oS, oI ka, oI kb, oR b144, oR b160, oI (0 : Int32), oR b160, oU] [(.int p1)]) _
          refine XS.iload X207.here hx rfl (hb hby at_264) rfl ?_
          show oP p e below T207 (mkF m 266 #[oI p0, oI p1, oI p2, oI p3, oJ q4, oS, oJ q5, oS, oI fl, oI sa, oI sb, oJ wb, oS, oJ za, oS, oJ zb, oS, oI ka, oI kb, oR b144, oR b160, oI (0 : Int32), oR b160, oU] [(.int sb), (.int p1)]) _
          refine st215 _ ?_
          exact k)
        by_cases hc217 : (fn18 Z p1 sb) = (0 : Int32)
        · obtain ⟨lo218, X218, N218⟩ := own_hide X215 N215
          obtain ⟨cq219, kq219, q219a, q219b, q219c⟩ := isOf hZ h215q fx183
          obtain ⟨_, _, ⟨T219, L219, k219, n219⟩, -, X219, ⟨Lc219, hQ219, l219, y219, z219⟩, st219⟩ := X218.virtualBack hx (y := (⟨"com/example/meerkat/meerkat/ExpansionFile", "equals", "(Ljava/lang/Object;)Z"⟩ : MethodName)) (z := (⟨"com/example/meerkat/meerkat/ExpansionFile", "equals", "(Ljava/lang/Object;)Z"⟩ : MethodName)) hown (mvT hZ (hw _ (List.mem_of_getElem? (i := 95) rfl))) (mvT hZ (hw _ (List.mem_of_getElem? (i := 96) rfl))) (notFace_of_selects (args := #[]) (mvT hZ (hw _ (List.mem_of_getElem? (i := 98) rfl)))) (mvT hZ (hw _ (List.mem_of_getElem? (i := 98) rfl))) (mvT hZ (hw _ (List.mem_of_getElem? (i := 97) rfl))) (by decide) (backOf (W := 0) (rm19q l Z a0 hw hS [] b144 b160 (fn1 Z ka) (fn1 Z kb) b_146 b_167 b_150 b_172 za zb t_146 kt_146 (strcs p0) t_167 kt_167 (strcs sa) t_150 kt_150 (strcs p1) t_172 kt_172 (strcs sb) T176.heap n0 O176 po176_0 fx192 po176_1 fx193 po176_2 fx194 po176_3 fx195 po176_4 fx184 fx185 fx186 fx187 (strcs_hp p0) (strcs_len p0) fx196 fx197 fx198 fx199 (strcs_hp sa) (strcs_len sa) fx188 fx189 fx190 fx191 (strcs_hp p1) (strcs_len p1) fx200 fx201 fx202 fx203 (strcs_hp sb) (strcs_len sb)) hZ (hw _ (List.mem_of_getElem? (i := 99) rfl)) (hw _ (List.mem_of_getElem? (i := 3) rfl)) (by decide) (by decide)) q219a q219c (g := (mkF m 291 #[oI p0, oI p1, oI p2, oI p3, oJ q4, oS, oJ q5, oS, oI fl, oI sa, oI sb, oJ wb, oS, oJ za, oS, oJ zb, oS, oI ka, oI kb, oR b144, oR b160, oI (0 : Int32), oR b160, oI (0 : Int32)] [(.ref b160), (.ref b144)])) rfl (by rw [hml]; rfl) (Steps.refl _) (argsL := [(.ref b160)]) (rest := []) (lenOf pd_7 rfl) rfl (by show 2 * 0 + _ ≤ _; exact Nat.le_of_eq rfl) (hb hby at_291) (fun _ _ => ⟨rfl, h215q, (by decide : 26 + 0 ≤ _), (by decide : 184 + 0 ≤ _)⟩)
          dsimp only [Pt.U, Pt.locs, Pt.cells, Pt.slots] at X219 l219 y219 z219 st219 hQ219
          subst l219 y219 z219
          obtain ⟨v219, N219q, K219q⟩ := hQ219
          subst v219
          have N219 := Fr.app N218 N219q
          have O219 := O176.keep K219q all0
          have Kc219 := Kc176.trans K219q all0
          have pre220 : ∀ t, oP p e below T219 (mkF m 296 #[oI p0, oI p1, oI p2, oI p3, oJ q4, oS, oJ q5, oS, oI fl, oI sa, oI sb, oJ wb, oS, oJ za, oS, oJ zb, oS, oI ka, oI kb, oR b144, oR b160, oI (0 : Int32), oR b160, oI (0 : Int32)] [(.int (0 : Int32)), (.int (fn19q Z b144 b160 (fn1 Z ka) (fn1 Z kb) b_146 b_167 b_150 b_172 za zb t_146 kt_146 (strcs p0) t_167 kt_167 (strcs sa) t_150 kt_150 (strcs p1) t_172 kt_172 (strcs sb)))]) t → oP p e below s₁ (entryFrame m #[(.int p0), (.int p1), (.int p2), (.int p3), (.long q4), (.long q5)] maxLocals) t := fun t k => pre216 t (by
            show oP p e below T215 (mkF m 269 #[oI p0, oI p1, oI p2, oI p3, oJ q4, oS, oJ q5, oS, oI fl, oI sa, oI sb, oJ wb, oS, oJ za, oS, oJ zb, oS, oI ka, oI kb, oR b144, oR b160, oI (0 : Int32), oR b160, oU] [(.int (fn18 Z p1 sb))]) _
            refine XS.ifYes X215.here hx rfl (pc0 := 269) (pc' := 284) rfl (hb hby at_269) rfl ((if0 _ _).trans (teq hc217).1) (by decide) (by decide) ?_
            show oP p e below T215 (mkF m 284 #[oI p0, oI p1, oI p2, oI p3, oJ q4, oS, oJ q5, oS, oI fl, oI sa, oI sb, oJ wb, oS, oJ za, oS, oJ zb, oS, oI ka, oI kb, oR b144, oR b160, oI (0 : Int32), oR b160, oU] []) _
            refine XS.iconst X215.here hx rfl (hb hby at_284) ?_
            show oP p e below T215 (mkF m 285 #[oI p0, oI p1, oI p2, oI p3, oJ q4, oS, oJ q5, oS, oI fl, oI sa, oI sb, oJ wb, oS, oJ za, oS, oJ zb, oS, oI ka, oI kb, oR b144, oR b160, oI (0 : Int32), oR b160, oU] [(.int (0 : Int32))]) _
            refine XS.istore X215.here hx rfl (hb hby at_285) rfl (l' := #[oI p0, oI p1, oI p2, oI p3, oJ q4, oS, oJ q5, oS, oI fl, oI sa, oI sb, oJ wb, oS, oJ za, oS, oJ zb, oS, oI ka, oI kb, oR b144, oR b160, oI (0 : Int32), oR b160, oI (0 : Int32)]) rfl ?_
            show oP p e below T215 (mkF m 287 #[oI p0, oI p1, oI p2, oI p3, oJ q4, oS, oJ q5, oS, oI fl, oI sa, oI sb, oJ wb, oS, oJ za, oS, oJ zb, oS, oI ka, oI kb, oR b144, oR b160, oI (0 : Int32), oR b160, oI (0 : Int32)] []) _
            refine XS.aload X215.here hx rfl (hb hby at_287) rfl rfl ?_
            show oP p e below T215 (mkF m 289 #[oI p0, oI p1, oI p2, oI p3, oJ q4, oS, oJ q5, oS, oI fl, oI sa, oI sb, oJ wb, oS, oJ za, oS, oJ zb, oS, oI ka, oI kb, oR b144, oR b160, oI (0 : Int32), oR b160, oI (0 : Int32)] [(.ref b144)]) _
            refine XS.aload X215.here hx rfl (hb hby at_289) rfl rfl ?_
            show oP p e below T215 (mkF m 291 #[oI p0, oI p1, oI p2, oI p3, oJ q4, oS, oJ q5, oS, oI fl, oI sa, oI sb, oJ wb, oS, oJ za, oS, oJ zb, oS, oI ka, oI kb, oR b144, oR b160, oI (0 : Int32), oR b160, oI (0 : Int32)] [(.ref b160), (.ref b144)]) _
            refine st219.trans ?_
            show oP p e below T219 (mkF m 294 #[oI p0, oI p1, oI p2, oI p3, oJ q4, oS, oJ q5, oS, oI fl, oI sa, oI sb, oJ wb, oS, oJ za, oS, oJ zb, oS, oI ka, oI kb, oR b144, oR b160, oI (0 : Int32), oR b160, oI (0 : Int32)] [(.int (fn19q Z b144 b160 (fn1 Z ka) (fn1 Z kb) b_146 b_167 b_150 b_172 za zb t_146 kt_146 (strcs p0) t_167 kt_167 (strcs sa) t_150 kt_150 (strcs p1) t_172 kt_172 (strcs sb)))]) _
            refine XS.iload X219.here hx rfl (hb hby at_294) rfl ?_
            exact k)
          by_cases hc221 : (fn19q Z b144 b160 (fn1 Z ka) (fn1 Z kb) b_146 b_167 b_150 b_172 za zb t_146 kt_146 (strcs p0) t_167 kt_167 (strcs sa) t_150 kt_150 (strcs p1) t_172 kt_172 (strcs sb)) = (0 : Int32)
          · have fx222 := (Nat.le_trans (Nat.le_refl _) K219q.1)
            obtain ⟨fs, hr, hrun, hended, hRW⟩ := Stand.leaveW X219 hSi fx222 (v := some (.int (1 : Int32))) (fun h => by rw [Bd.returns] at h; cases h)
            refine ⟨_, _, pre220 _ ?_, hrun, hended, _, _, rfl, ?_, own_rwmono hRW (by decide) (by decide)⟩
            · show oP p e below T219 (mkF m 296 #[oI p0, oI p1, oI p2, oI p3, oJ q4, oS, oJ q5, oS, oI fl, oI sa, oI sb, oJ wb, oS, oJ za, oS, oJ zb, oS, oI ka, oI kb, oR b144, oR b160, oI (0 : Int32), oR b160, oI (0 : Int32)] [(.int (0 : Int32)), (.int (fn19q Z b144 b160 (fn1 Z ka) (fn1 Z kb) b_146 b_167 b_150 b_172 za zb t_146 kt_146 (strcs p0) t_167 kt_167 (strcs sa) t_150 kt_150 (strcs p1) t_172 kt_172 (strcs sb)))]) _
              refine XS.icmpNo X219.here hx rfl (hb hby at_296) rfl (teq hc221).2 ?_
              show oP p e below T219 (mkF m 299 #[oI p0, oI p1, oI p2, oI p3, oJ q4, oS, oJ q5, oS, oI fl, oI sa, oI sb, oJ wb, oS, oJ za, oS, oJ zb, oS, oI ka, oI kb, oR b144, oR b160, oI (0 : Int32), oR b160, oI (0 : Int32)] []) _
              refine XS.iconst X219.here hx rfl (hb hby at_299) ?_
              show oP p e below T219 (mkF m 300 #[oI p0, oI p1, oI p2, oI p3, oJ q4, oS, oJ q5, oS, oI fl, oI sa, oI sb, oJ wb, oS, oJ za, oS, oJ zb, oS, oI ka, oI kb, oR b144, oR b160, oI (0 : Int32), oR b160, oI (0 : Int32)] [(.int (1 : Int32))]) _
              refine XS.goto X219.here hx rfl (pc0 := 300) (pc' := 304) rfl (hb hby at_300) (by decide) (by decide) ?_
              show oP p e below T219 (mkF m 304 #[oI p0, oI p1, oI p2, oI p3, oJ q4, oS, oJ q5, oS, oI fl, oI sa, oI sb, oJ wb, oS, oJ za, oS, oJ zb, oS, oI ka, oI kb, oR b144, oR b160, oI (0 : Int32), oR b160, oI (0 : Int32)] [(.int (1 : Int32))]) _
              exact retN X219 hx (t := .boolean) Bd.returns (by simp) (hb hby at_304) hr
            · show (some (.int (1 : Int32)) : Option Value) = some (.int (1 : Int32)) ∧ Fr n0 _ ∧ Keep h0 T219.heap []
              exact ⟨rfl, N219, Kc219⟩
          · exfalso
            exact ab223 hS p0 p1 sa sb za zb ka kb rka rkb hc206 hc209 hc217 hc221
        · have pre224 : ∀ t, oP p e below T215 (mkF m 277 #[oI p0, oI p1, oI p2, oI p3, oJ q4, oS, oJ q5, oS, oI fl, oI sa, oI sb, oJ wb, oS, oJ za, oS, oJ zb, oS, oI ka, oI kb, oR b144, oR b160, oI (0 : Int32), oR b160, oU] [(.int (lcmpW za zb))]) t → oP p e below s₁ (entryFrame m #[(.int p0), (.int p1), (.int p2), (.int p3), (.long q4), (.long q5)] maxLocals) t := fun t k => pre216 t (by
            show oP p e below T215 (mkF m 269 #[oI p0, oI p1, oI p2, oI p3, oJ q4, oS, oJ q5, oS, oI fl, oI sa, oI sb, oJ wb, oS, oJ za, oS, oJ zb, oS, oI ka, oI kb, oR b144, oR b160, oI (0 : Int32), oR b160, oU] [(.int (fn18 Z p1 sb))]) _
            refine XS.ifNo X215.here hx rfl (hb hby at_269) rfl ((if0 _ _).trans (feq hc217).1) ?_
            show oP p e below T215 (mkF m 272 #[oI p0, oI p1, oI p2, oI p3, oJ q4, oS, oJ q5, oS, oI fl, oI sa, oI sb, oJ wb, oS, oJ za, oS, oJ zb, oS, oI ka, oI kb, oR b144, oR b160, oI (0 : Int32), oR b160, oU] []) _
            refine XS.lload X215.here hx rfl (hb hby at_272) rfl ?_
            show oP p e below T215 (mkF m 274 #[oI p0, oI p1, oI p2, oI p3, oJ q4, oS, oJ q5, oS, oI fl, oI sa, oI sb, oJ wb, oS, oJ za, oS, oJ zb, oS, oI ka, oI kb, oR b144, oR b160, oI (0 : Int32), oR b160, oU] [(.long za)]) _
            refine XS.lload X215.here hx rfl (hb hby at_274) rfl ?_
            show oP p e below T215 (mkF m 276 #[oI p0, oI p1, oI p2, oI p3, oJ q4, oS, oJ q5, oS, oI fl, oI sa, oI sb, oJ wb, oS, oJ za, oS, oJ zb, oS, oI ka, oI kb, oR b144, oR b160, oI (0 : Int32), oR b160, oU] [(.long zb), (.long za)]) _
            refine XS.lcmp X215.here hx rfl (hb hby at_276) rfl ?_
            exact k)
          by_cases hc225 : (lcmpW za zb) = (0 : Int32)
          · obtain ⟨lo226, X226, N226⟩ := own_hide X215 N215
            obtain ⟨cq227, kq227, q227a, q227b, q227c⟩ := isOf hZ h215q fx183
            obtain ⟨_, _, ⟨T227, L227, k227, n227⟩, -, X227, ⟨Lc227, hQ227, l227, y227, z227⟩, st227⟩ := X226.virtualBack hx (y := (⟨"com/example/meerkat/meerkat/ExpansionFile", "equals", "(Ljava/lang/Object;)Z"⟩ : MethodName)) (z := (⟨"com/example/meerkat/meerkat/ExpansionFile", "equals", "(Ljava/lang/Object;)Z"⟩ : MethodName)) hown (mvT hZ (hw _ (List.mem_of_getElem? (i := 95) rfl))) (mvT hZ (hw _ (List.mem_of_getElem? (i := 96) rfl))) (notFace_of_selects (args := #[]) (mvT hZ (hw _ (List.mem_of_getElem? (i := 98) rfl)))) (mvT hZ (hw _ (List.mem_of_getElem? (i := 98) rfl))) (mvT hZ (hw _ (List.mem_of_getElem? (i := 97) rfl))) (by decide) (backOf (W := 0) (rm19q l Z a0 hw hS [] b144 b160 (fn1 Z ka) (fn1 Z kb) b_146 b_167 b_150 b_172 za zb t_146 kt_146 (strcs p0) t_167 kt_167 (strcs sa) t_150 kt_150 (strcs p1) t_172 kt_172 (strcs sb) T176.heap n0 O176 po176_0 fx192 po176_1 fx193 po176_2 fx194 po176_3 fx195 po176_4 fx184 fx185 fx186 fx187 (strcs_hp p0) (strcs_len p0) fx196 fx197 fx198 fx199 (strcs_hp sa) (strcs_len sa) fx188 fx189 fx190 fx191 (strcs_hp p1) (strcs_len p1) fx200 fx201 fx202 fx203 (strcs_hp sb) (strcs_len sb)) hZ (hw _ (List.mem_of_getElem? (i := 99) rfl)) (hw _ (List.mem_of_getElem? (i := 3) rfl)) (by decide) (by decide)) q227a q227c (g := (mkF m 291 #[oI p0, oI p1, oI p2, oI p3, oJ q4, oS, oJ q5, oS, oI fl, oI sa, oI sb, oJ wb, oS, oJ za, oS, oJ zb, oS, oI ka, oI kb, oR b144, oR b160, oI (0 : Int32), oR b160, oI (1 : Int32)] [(.ref b160), (.ref b144)])) rfl (by rw [hml]; rfl) (Steps.refl _) (argsL := [(.ref b160)]) (rest := []) (lenOf pd_7 rfl) rfl (by show 2 * 0 + _ ≤ _; exact Nat.le_of_eq rfl) (hb hby at_291) (fun _ _ => ⟨rfl, h215q, (by decide : 26 + 0 ≤ _), (by decide : 184 + 0 ≤ _)⟩)
            dsimp only [Pt.U, Pt.locs, Pt.cells, Pt.slots] at X227 l227 y227 z227 st227 hQ227
            subst l227 y227 z227
            obtain ⟨v227, N227q, K227q⟩ := hQ227
            subst v227
            have N227 := Fr.app N226 N227q
            have O227 := O176.keep K227q all0
            have Kc227 := Kc176.trans K227q all0
            have pre228 : ∀ t, oP p e below T227 (mkF m 296 #[oI p0, oI p1, oI p2, oI p3, oJ q4, oS, oJ q5, oS, oI fl, oI sa, oI sb, oJ wb, oS, oJ za, oS, oJ zb, oS, oI ka, oI kb, oR b144, oR b160, oI (0 : Int32), oR b160, oI (1 : Int32)] [(.int (1 : Int32)), (.int (fn19q Z b144 b160 (fn1 Z ka) (fn1 Z kb) b_146 b_167 b_150 b_172 za zb t_146 kt_146 (strcs p0) t_167 kt_167 (strcs sa) t_150 kt_150 (strcs p1) t_172 kt_172 (strcs sb)))]) t → oP p e below s₁ (entryFrame m #[(.int p0), (.int p1), (.int p2), (.int p3), (.long q4), (.long q5)] maxLocals) t := fun t k => pre224 t (by
              show oP p e below T215 (mkF m 277 #[oI p0, oI p1, oI p2, oI p3, oJ q4, oS, oJ q5, oS, oI fl, oI sa, oI sb, oJ wb, oS, oJ za, oS, oJ zb, oS, oI ka, oI kb, oR b144, oR b160, oI (0 : Int32), oR b160, oU] [(.int (lcmpW za zb))]) _
              refine XS.ifNo X215.here hx rfl (hb hby at_277) rfl ((if0 _ _).trans (teq hc225).2) ?_
              show oP p e below T215 (mkF m 280 #[oI p0, oI p1, oI p2, oI p3, oJ q4, oS, oJ q5, oS, oI fl, oI sa, oI sb, oJ wb, oS, oJ za, oS, oJ zb, oS, oI ka, oI kb, oR b144, oR b160, oI (0 : Int32), oR b160, oU] []) _
              refine XS.iconst X215.here hx rfl (hb hby at_280) ?_
              show oP p e below T215 (mkF m 281 #[oI p0, oI p1, oI p2, oI p3, oJ q4, oS, oJ q5, oS, oI fl, oI sa, oI sb, oJ wb, oS, oJ za, oS, oJ zb, oS, oI ka, oI kb, oR b144, oR b160, oI (0 : Int32), oR b160, oU] [(.int (1 : Int32))]) _
              refine XS.goto X215.here hx rfl (pc0 := 281) (pc' := 285) rfl (hb hby at_281) (by decide) (by decide) ?_
              show oP p e below T215 (mkF m 285 #[oI p0, oI p1, oI p2, oI p3, oJ q4, oS, oJ q5, oS, oI fl, oI sa, oI sb, oJ wb, oS, oJ za, oS, oJ zb, oS, oI ka, oI kb, oR b144, oR b160, oI (0 : Int32), oR b160, oU] [(.int (1 : Int32))]) _
              refine XS.istore X215.here hx rfl (hb hby at_285) rfl (l' := #[oI p0, oI p1, oI p2, oI p3, oJ q4, oS, oJ q5, oS, oI fl, oI sa, oI sb, oJ wb, oS, oJ za, oS, oJ zb, oS, oI ka, oI kb, oR b144, oR b160, oI (0 : Int32), oR b160, oI (1 : Int32)]) rfl ?_
              show oP p e below T215 (mkF m 287 #[oI p0, oI p1, oI p2, oI p3, oJ q4, oS, oJ q5, oS, oI fl, oI sa, oI sb, oJ wb, oS, oJ za, oS, oJ zb, oS, oI ka, oI kb, oR b144, oR b160, oI (0 : Int32), oR b160, oI (1 : Int32)] []) _
              refine XS.aload X215.here hx rfl (hb hby at_287) rfl rfl ?_
              show oP p e below T215 (mkF m 289 #[oI p0, oI p1, oI p2, oI p3, oJ q4, oS, oJ q5, oS, oI fl, oI sa, oI sb, oJ wb, oS, oJ za, oS, oJ zb, oS, oI ka, oI kb, oR b144, oR b160, oI (0 : Int32), oR b160, oI (1 : Int32)] [(.ref b144)]) _
              refine XS.aload X215.here hx rfl (hb hby at_289) rfl rfl ?_
              show oP p e below T215 (mkF m 291 #[oI p0, oI p1, oI p2, oI p3, oJ q4, oS, oJ q5, oS, oI fl, oI sa, oI sb, oJ wb, oS, oJ za, oS, oJ zb, oS, oI ka, oI kb, oR b144, oR b160, oI (0 : Int32), oR b160, oI (1 : Int32)] [(.ref b160), (.ref b144)]) _
              refine st227.trans ?_
              show oP p e below T227 (mkF m 294 #[oI p0, oI p1, oI p2, oI p3, oJ q4, oS, oJ q5, oS, oI fl, oI sa, oI sb, oJ wb, oS, oJ za, oS, oJ zb, oS, oI ka, oI kb, oR b144, oR b160, oI (0 : Int32), oR b160, oI (1 : Int32)] [(.int (fn19q Z b144 b160 (fn1 Z ka) (fn1 Z kb) b_146 b_167 b_150 b_172 za zb t_146 kt_146 (strcs p0) t_167 kt_167 (strcs sa) t_150 kt_150 (strcs p1) t_172 kt_172 (strcs sb)))]) _
              refine XS.iload X227.here hx rfl (hb hby at_294) rfl ?_
              exact k)
            by_cases hc229 : (fn19q Z b144 b160 (fn1 Z ka) (fn1 Z kb) b_146 b_167 b_150 b_172 za zb t_146 kt_146 (strcs p0) t_167 kt_167 (strcs sa) t_150 kt_150 (strcs p1) t_172 kt_172 (strcs sb)) = (1 : Int32)
            · have fx230 := (Nat.le_trans (Nat.le_refl _) K227q.1)
              obtain ⟨fs, hr, hrun, hended, hRW⟩ := Stand.leaveW X227 hSi fx230 (v := some (.int (1 : Int32))) (fun h => by rw [Bd.returns] at h; cases h)
              refine ⟨_, _, pre228 _ ?_, hrun, hended, _, _, rfl, ?_, own_rwmono hRW (by decide) (by decide)⟩
              · show oP p e below T227 (mkF m 296 #[oI p0, oI p1, oI p2, oI p3, oJ q4, oS, oJ q5, oS, oI fl, oI sa, oI sb, oJ wb, oS, oJ za, oS, oJ zb, oS, oI ka, oI kb, oR b144, oR b160, oI (0 : Int32), oR b160, oI (1 : Int32)] [(.int (1 : Int32)), (.int (fn19q Z b144 b160 (fn1 Z ka) (fn1 Z kb) b_146 b_167 b_150 b_172 za zb t_146 kt_146 (strcs p0) t_167 kt_167 (strcs sa) t_150 kt_150 (strcs p1) t_172 kt_172 (strcs sb)))]) _
                refine XS.icmpNo X227.here hx rfl (hb hby at_296) rfl (teq hc229).2 ?_
                show oP p e below T227 (mkF m 299 #[oI p0, oI p1, oI p2, oI p3, oJ q4, oS, oJ q5, oS, oI fl, oI sa, oI sb, oJ wb, oS, oJ za, oS, oJ zb, oS, oI ka, oI kb, oR b144, oR b160, oI (0 : Int32), oR b160, oI (1 : Int32)] []) _
                refine XS.iconst X227.here hx rfl (hb hby at_299) ?_
                show oP p e below T227 (mkF m 300 #[oI p0, oI p1, oI p2, oI p3, oJ q4, oS, oJ q5, oS, oI fl, oI sa, oI sb, oJ wb, oS, oJ za, oS, oJ zb, oS, oI ka, oI kb, oR b144, oR b160, oI (0 : Int32), oR b160, oI (1 : Int32)] [(.int (1 : Int32))]) _
                refine XS.goto X227.here hx rfl (pc0 := 300) (pc' := 304) rfl (hb hby at_300) (by decide) (by decide) ?_
                show oP p e below T227 (mkF m 304 #[oI p0, oI p1, oI p2, oI p3, oJ q4, oS, oJ q5, oS, oI fl, oI sa, oI sb, oJ wb, oS, oJ za, oS, oJ zb, oS, oI ka, oI kb, oR b144, oR b160, oI (0 : Int32), oR b160, oI (1 : Int32)] [(.int (1 : Int32))]) _
                exact retN X227 hx (t := .boolean) Bd.returns (by simp) (hb hby at_304) hr
              · show (some (.int (1 : Int32)) : Option Value) = some (.int (1 : Int32)) ∧ Fr n0 _ ∧ Keep h0 T227.heap []
                exact ⟨rfl, N227, Kc227⟩
            · exfalso
              exact ab231 hS p0 p1 sa sb za zb ka kb rka rkb hc206 hc209 hc217 hc225 hc229
          · obtain ⟨lo232, X232, N232⟩ := own_hide X215 N215
            obtain ⟨cq233, kq233, q233a, q233b, q233c⟩ := isOf hZ h215q fx183
            obtain ⟨_, _, ⟨T233, L233, k233, n233⟩, -, X233, ⟨Lc233, hQ233, l233, y233, z233⟩, st233⟩ := X232.virtualBack hx (y := (⟨"com/example/meerkat/meerkat/ExpansionFile", "equals", "(Ljava/lang/Object;)Z"⟩ : MethodName)) (z := (⟨"com/example/meerkat/meerkat/ExpansionFile", "equals", "(Ljava/lang/Object;)Z"⟩ : MethodName)) hown (mvT hZ (hw _ (List.mem_of_getElem? (i := 95) rfl))) (mvT hZ (hw _ (List.mem_of_getElem? (i := 96) rfl))) (notFace_of_selects (args := #[]) (mvT hZ (hw _ (List.mem_of_getElem? (i := 98) rfl)))) (mvT hZ (hw _ (List.mem_of_getElem? (i := 98) rfl))) (mvT hZ (hw _ (List.mem_of_getElem? (i := 97) rfl))) (by decide) (backOf (W := 0) (rm19q l Z a0 hw hS [] b144 b160 (fn1 Z ka) (fn1 Z kb) b_146 b_167 b_150 b_172 za zb t_146 kt_146 (strcs p0) t_167 kt_167 (strcs sa) t_150 kt_150 (strcs p1) t_172 kt_172 (strcs sb) T176.heap n0 O176 po176_0 fx192 po176_1 fx193 po176_2 fx194 po176_3 fx195 po176_4 fx184 fx185 fx186 fx187 (strcs_hp p0) (strcs_len p0) fx196 fx197 fx198 fx199 (strcs_hp sa) (strcs_len sa) fx188 fx189 fx190 fx191 (strcs_hp p1) (strcs_len p1) fx200 fx201 fx202 fx203 (strcs_hp sb) (strcs_len sb)) hZ (hw _ (List.mem_of_getElem? (i := 99) rfl)) (hw _ (List.mem_of_getElem? (i := 3) rfl)) (by decide) (by decide)) q233a q233c (g := (mkF m 291 #[oI p0, oI p1, oI p2, oI p3, oJ q4, oS, oJ q5, oS, oI fl, oI sa, oI sb, oJ wb, oS, oJ za, oS, oJ zb, oS, oI ka, oI kb, oR b144, oR b160, oI (0 : Int32), oR b160, oI (0 : Int32)] [(.ref b160), (.ref b144)])) rfl (by rw [hml]; rfl) (Steps.refl _) (argsL := [(.ref b160)]) (rest := []) (lenOf pd_7 rfl) rfl (by show 2 * 0 + _ ≤ _; exact Nat.le_of_eq rfl) (hb hby at_291) (fun _ _ => ⟨rfl, h215q, (by decide : 26 + 0 ≤ _), (by decide : 184 + 0 ≤ _)⟩)
            dsimp only [Pt.U, Pt.locs, Pt.cells, Pt.slots] at X233 l233 y233 z233 st233 hQ233
            subst l233 y233 z233
            obtain ⟨v233, N233q, K233q⟩ := hQ233
            subst v233
            have N233 := Fr.app N232 N233q
            have O233 := O176.keep K233q all0
            have Kc233 := Kc176.trans K233q all0
            have pre234 : ∀ t, oP p e below T233 (mkF m 296 #[oI p0, oI p1, oI p2, oI p3, oJ q4, oS, oJ q5, oS, oI fl, oI sa, oI sb, oJ wb, oS, oJ za, oS, oJ zb, oS, oI ka, oI kb, oR b144, oR b160, oI (0 : Int32), oR b160, oI (0 : Int32)] [(.int (0 : Int32)), (.int (fn19q Z b144 b160 (fn1 Z ka) (fn1 Z kb) b_146 b_167 b_150 b_172 za zb t_146 kt_146 (strcs p0) t_167 kt_167 (strcs sa) t_150 kt_150 (strcs p1) t_172 kt_172 (strcs sb)))]) t → oP p e below s₁ (entryFrame m #[(.int p0), (.int p1), (.int p2), (.int p3), (.long q4), (.long q5)] maxLocals) t := fun t k => pre224 t (by
              show oP p e below T215 (mkF m 277 #[oI p0, oI p1, oI p2, oI p3, oJ q4, oS, oJ q5, oS, oI fl, oI sa, oI sb, oJ wb, oS, oJ za, oS, oJ zb, oS, oI ka, oI kb, oR b144, oR b160, oI (0 : Int32), oR b160, oU] [(.int (lcmpW za zb))]) _
              refine XS.ifYes X215.here hx rfl (pc0 := 277) (pc' := 284) rfl (hb hby at_277) rfl ((if0 _ _).trans (feq hc225).2) (by decide) (by decide) ?_
              show oP p e below T215 (mkF m 284 #[oI p0, oI p1, oI p2, oI p3, oJ q4, oS, oJ q5, oS, oI fl, oI sa, oI sb, oJ wb, oS, oJ za, oS, oJ zb, oS, oI ka, oI kb, oR b144, oR b160, oI (0 : Int32), oR b160, oU] []) _
              refine XS.iconst X215.here hx rfl (hb hby at_284) ?_
              show oP p e below T215 (mkF m 285 #[oI p0, oI p1, oI p2, oI p3, oJ q4, oS, oJ q5, oS, oI fl, oI sa, oI sb, oJ wb, oS, oJ za, oS, oJ zb, oS, oI ka, oI kb, oR b144, oR b160, oI (0 : Int32), oR b160, oU] [(.int (0 : Int32))]) _
              refine XS.istore X215.here hx rfl (hb hby at_285) rfl (l' := #[oI p0, oI p1, oI p2, oI p3, oJ q4, oS, oJ q5, oS, oI fl, oI sa, oI sb, oJ wb, oS, oJ za, oS, oJ zb, oS, oI ka, oI kb, oR b144, oR b160, oI (0 : Int32), oR b160, oI (0 : Int32)]) rfl ?_
              show oP p e below T215 (mkF m 287 #[oI p0, oI p1, oI p2, oI p3, oJ q4, oS, oJ q5, oS, oI fl, oI sa, oI sb, oJ wb, oS, oJ za, oS, oJ zb, oS, oI ka, oI kb, oR b144, oR b160, oI (0 : Int32), oR b160, oI (0 : Int32)] []) _
              refine XS.aload X215.here hx rfl (hb hby at_287) rfl rfl ?_
              show oP p e below T215 (mkF m 289 #[oI p0, oI p1, oI p2, oI p3, oJ q4, oS, oJ q5, oS, oI fl, oI sa, oI sb, oJ wb, oS, oJ za, oS, oJ zb, oS, oI ka, oI kb, oR b144, oR b160, oI (0 : Int32), oR b160, oI (0 : Int32)] [(.ref b144)]) _
              refine XS.aload X215.here hx rfl (hb hby at_289) rfl rfl ?_
              show oP p e below T215 (mkF m 291 #[oI p0, oI p1, oI p2, oI p3, oJ q4, oS, oJ q5, oS, oI fl, oI sa, oI sb, oJ wb, oS, oJ za, oS, oJ zb, oS, oI ka, oI kb, oR b144, oR b160, oI (0 : Int32), oR b160, oI (0 : Int32)] [(.ref b160), (.ref b144)]) _
              refine st233.trans ?_
              show oP p e below T233 (mkF m 294 #[oI p0, oI p1, oI p2, oI p3, oJ q4, oS, oJ q5, oS, oI fl, oI sa, oI sb, oJ wb, oS, oJ za, oS, oJ zb, oS, oI ka, oI kb, oR b144, oR b160, oI (0 : Int32), oR b160, oI (0 : Int32)] [(.int (fn19q Z b144 b160 (fn1 Z ka) (fn1 Z kb) b_146 b_167 b_150 b_172 za zb t_146 kt_146 (strcs p0) t_167 kt_167 (strcs sa) t_150 kt_150 (strcs p1) t_172 kt_172 (strcs sb)))]) _
              refine XS.iload X233.here hx rfl (hb hby at_294) rfl ?_
              exact k)
            by_cases hc235 : (fn19q Z b144 b160 (fn1 Z ka) (fn1 Z kb) b_146 b_167 b_150 b_172 za zb t_146 kt_146 (strcs p0) t_167 kt_167 (strcs sa) t_150 kt_150 (strcs p1) t_172 kt_172 (strcs sb)) = (0 : Int32)
            · have fx236 := (Nat.le_trans (Nat.le_refl _) K233q.1)
              obtain ⟨fs, hr, hrun, hended, hRW⟩ := Stand.leaveW X233 hSi fx236 (v := some (.int (1 : Int32))) (fun h => by rw [Bd.returns] at h; cases h)
              refine ⟨_, _, pre234 _ ?_, hrun, hended, _, _, rfl, ?_, own_rwmono hRW (by decide) (by decide)⟩
              · show oP p e below T233 (mkF m 296 #[oI p0, oI p1, oI p2, oI p3, oJ q4, oS, oJ q5, oS, oI fl, oI sa, oI sb, oJ wb, oS, oJ za, oS, oJ zb, oS, oI ka, oI kb, oR b144, oR b160, oI (0 : Int32), oR b160, oI (0 : Int32)] [(.int (0 : Int32)), (.int (fn19q Z b144 b160 (fn1 Z ka) (fn1 Z kb) b_146 b_167 b_150 b_172 za zb t_146 kt_146 (strcs p0) t_167 kt_167 (strcs sa) t_150 kt_150 (strcs p1) t_172 kt_172 (strcs sb)))]) _
                refine XS.icmpNo X233.here hx rfl (hb hby at_296) rfl (teq hc235).2 ?_
                show oP p e below T233 (mkF m 299 #[oI p0, oI p1, oI p2, oI p3, oJ q4, oS, oJ q5, oS, oI fl, oI sa, oI sb, oJ wb, oS, oJ za, oS, oJ zb, oS, oI ka, oI kb, oR b144, oR b160, oI (0 : Int32), oR b160, oI (0 : Int32)] []) _
                refine XS.iconst X233.here hx rfl (hb hby at_299) ?_
                show oP p e below T233 (mkF m 300 #[oI p0, oI p1, oI p2, oI p3, oJ q4, oS, oJ q5, oS, oI fl, oI sa, oI sb, oJ wb, oS, oJ za, oS, oJ zb, oS, oI ka, oI kb, oR b144, oR b160, oI (0 : Int32), oR b160, oI (0 : Int32)] [(.int (1 : Int32))]) _
                refine XS.goto X233.here hx rfl (pc0 := 300) (pc' := 304) rfl (hb hby at_300) (by decide) (by decide) ?_
                show oP p e below T233 (mkF m 304 #[oI p0, oI p1, oI p2, oI p3, oJ q4, oS, oJ q5, oS, oI fl, oI sa, oI sb, oJ wb, oS, oJ za, oS, oJ zb, oS, oI ka, oI kb, oR b144, oR b160, oI (0 : Int32), oR b160, oI (0 : Int32)] [(.int (1 : Int32))]) _
                exact retN X233 hx (t := .boolean) Bd.returns (by simp) (hb hby at_304) hr
              · show (some (.int (1 : Int32)) : Option Value) = some (.int (1 : Int32)) ∧ Fr n0 _ ∧ Keep h0 T233.heap []
                exact ⟨rfl, N233, Kc233⟩
            · exfalso
              exact ab237 hS p0 p1 sa sb za zb ka kb rka rkb hc206 hc209 hc217 hc225 hc235
    · obtain ⟨cq238, kq238, q238a, q238b, q238c⟩ := isOf hZ rfl fx183
      obtain ⟨_, _, ⟨T238, L238, k238, n238⟩, -, X238, ⟨Lc238, hQ238, l238, y238, z238⟩, st238⟩ := X176.virtualBack hx (y := (⟨"com/example/meerkat/meerkat/ExpansionFile", "equals", "(Ljava/lang/Object;)Z"⟩ : MethodName)) (z := (⟨"com/example/meerkat/meerkat/ExpansionFile", "equals", "(Ljava/lang/Object;)Z"⟩ : MethodName)) hown (mvT hZ (hw _ (List.mem_of_getElem? (i := 95) rfl))) (mvT hZ (hw _ (List.mem_of_getElem? (i := 96) rfl))) (notFace_of_selects (args := #[]) (mvT hZ (hw _ (List.mem_of_getElem? (i := 98) rfl)))) (mvT hZ (hw _ (List.mem_of_getElem? (i := 98) rfl))) (mvT hZ (hw _ (List.mem_of_getElem? (i := 97) rfl))) (by decide) (backOf (W := 0) (rm19q l Z a0 hw hS [] b144 b160 (fn1 Z ka) (fn1 Z kb) b_146 b_167 b_150 b_172 za zb t_146 kt_146 (strcs p0) t_167 kt_167 (strcs sa) t_150 kt_150 (strcs p1) t_172 kt_172 (strcs sb) T176.heap n0 O176 po176_0 fx192 po176_1 fx193 po176_2 fx194 po176_3 fx195 po176_4 fx184 fx185 fx186 fx187 (strcs_hp p0) (strcs_len p0) fx196 fx197 fx198 fx199 (strcs_hp sa) (strcs_len sa) fx188 fx189 fx190 fx191 (strcs_hp p1) (strcs_len p1) fx200 fx201 fx202 fx203 (strcs_hp sb) (strcs_len sb)) hZ (hw _ (List.mem_of_getElem? (i := 99) rfl)) (hw _ (List.mem_of_getElem? (i := 3) rfl)) (by decide) (by decide)) q238a q238c (g := (mkF m 291 #[oI p0, oI p1, oI p2, oI p3, oJ q4, oS, oJ q5, oS, oI fl, oI sa, oI sb, oJ wb, oS, oJ za, oS, oJ zb, oS, oI ka, oI kb, oR b144, oR b160, oI (0 : Int32), oR b160, oI (0 : Int32)] [(.ref b160), (.ref b144)])) rfl (by rw [hml]; rfl) (Steps.refl _) (argsL := [(.ref b160)]) (rest := []) (lenOf pd_7 rfl) rfl (by show 2 * 0 + _ ≤ _; exact Nat.le_of_eq rfl) (hb hby at_291) (fun _ _ => ⟨rfl, rfl, (by decide : 26 + 0 ≤ _), (by decide : 184 + 0 ≤ _)⟩)
      dsimp only [Pt.U, Pt.locs, Pt.cells, Pt.slots] at X238 l238 y238 z238 st238 hQ238
      subst l238 y238 z238
      obtain ⟨v238, N238q, K238q⟩ := hQ238
      subst v238
      have N238 := Fr.app N176 N238q
      have O238 := O176.keep K238q all0
      have Kc238 := Kc176.trans K238q all0
      have pre239 : ∀ t, oP p e below T238 (mkF m 296 #[oI p0, oI p1, oI p2, oI p3, oJ q4, oS, oJ q5, oS, oI fl, oI sa, oI sb, oJ wb, oS, oJ za, oS, oJ zb, oS, oI ka, oI kb, oR b144, oR b160, oI (0 : Int32), oR b160, oI (0 : Int32)] [(.int (0 : Int32)), (.int (fn19q Z b144 b160 (fn1 Z ka) (fn1 Z kb) b_146 b_167 b_150 b_172 za zb t_146 kt_146 (strcs p0) t_167 kt_167 (strcs sa) t_150 kt_150 (strcs p1) t_172 kt_172 (strcs sb)))]) t → oP p e below s₁ (entryFrame m #[(.int p0), (.int p1), (.int p2), (.int p3), (.long q4), (.long q5)] maxLocals) t := fun t k => pre205 t (by
        show oP p e below T176 (mkF m 251 #[oI p0, oI p1, oI p2, oI p3, oJ q4, oS, oJ q5, oS, oI fl, oI sa, oI sb, oJ wb, oS, oJ za, oS, oJ zb, oS, oI ka, oI kb, oR b144, oR b160, oI (0 : Int32), oR b160, oU] [(.int kb), (.int ka)]) _
        refine XS.icmpYes X176.here hx rfl (pc0 := 251) (pc' := 284) rfl (hb hby at_251) rfl (feq hc206).2 (by decide) (by decide) ?_
        show oP p e below T176 (mkF m 284 #[oI p0, oI p1, oI p2, oI p3, oJ q4, oS, oJ q5, oS, oI fl, oI sa, oI sb, oJ wb, oS, oJ za, oS, oJ zb, oS, oI ka, oI kb, oR b144, oR b160, oI (0 : Int32), oR b160, oU] []) _
        refine XS.iconst X176.here hx rfl (hb hby at_284) ?_
        show oP p e below T176 (mkF m 285 #[oI p0, oI p1, oI p2, oI p3, oJ q4, oS, oJ q5, oS, oI fl, oI sa, oI sb, oJ wb, oS, oJ za, oS, oJ zb, oS, oI ka, oI kb, oR b144, oR b160, oI (0 : Int32), oR b160, oU] [(.int (0 : Int32))]) _
        refine XS.istore X176.here hx rfl (hb hby at_285) rfl (l' := #[oI p0, oI p1, oI p2, oI p3, oJ q4, oS, oJ q5, oS, oI fl, oI sa, oI sb, oJ wb, oS, oJ za, oS, oJ zb, oS, oI ka, oI kb, oR b144, oR b160, oI (0 : Int32), oR b160, oI (0 : Int32)]) rfl ?_
        show oP p e below T176 (mkF m 287 #[oI p0, oI p1, oI p2, oI p3, oJ q4, oS, oJ q5, oS, oI fl, oI sa, oI sb, oJ wb, oS, oJ za, oS, oJ zb, oS, oI ka, oI kb, oR b144, oR b160, oI (0 : Int32), oR b160, oI (0 : Int32)] []) _
        refine XS.aload X176.here hx rfl (hb hby at_287) rfl rfl ?_
        show oP p e below T176 (mkF m 289 #[oI p0, oI p1, oI p2, oI p3, oJ q4, oS, oJ q5, oS, oI fl, oI sa, oI sb, oJ wb, oS, oJ za, oS, oJ zb, oS, oI ka, oI kb, oR b144, oR b160, oI (0 : Int32), oR b160, oI (0 : Int32)] [(.ref b144)]) _
        refine XS.aload X176.here hx rfl (hb hby at_289) rfl rfl ?_
        show oP p e below T176 (mkF m 291 #[oI p0, oI p1, oI p2, oI p3, oJ q4, oS, oJ q5, oS, oI fl, oI sa, oI sb, oJ wb, oS, oJ za, oS, oJ zb, oS, oI ka, oI kb, oR b144, oR b160, oI (0 : Int32), oR b160, oI (0 : Int32)] [(.ref b160), (.ref b144)]) _
        refine st238.trans ?_
        show oP p e below T238 (mkF m 294 #[oI p0, oI p1, oI p2, oI p3, oJ q4, oS, oJ q5, oS, oI fl, oI sa, oI sb, oJ wb, oS, oJ za, oS, oJ zb, oS, oI ka, oI kb, oR b144, oR b160, oI (0 : Int32), oR b160, oI (0 : Int32)] [(.int (fn19q Z b144 b160 (fn1 Z ka) (fn1 Z kb) b_146 b_167 b_150 b_172 za zb t_146 kt_146 (strcs p0) t_167 kt_167 (strcs sa) t_150 kt_150 (strcs p1) t_172 kt_172 (strcs sb)))]) _
        refine XS.iload X238.here hx rfl (hb hby at_294) rfl ?_
        exact k)
      by_cases hc240 : (fn19q Z b144 b160 (fn1 Z ka) (fn1 Z kb) b_146 b_167 b_150 b_172 za zb t_146 kt_146 (strcs p0) t_167 kt_167 (strcs sa) t_150 kt_150 (strcs p1) t_172 kt_172 (strcs sb)) = (0 : Int32)
      · have fx241 := (Nat.le_trans (Nat.le_refl _) K238q.1)
        obtain ⟨fs, hr, hrun, hended, hRW⟩ := Stand.leaveW X238 hSi fx241 (v := some (.int (1 : Int32))) (fun h => by rw [Bd.returns] at h; cases h)
        refine ⟨_, _, pre239 _ ?_, hrun, hended, _, _, rfl, ?_, own_rwmono hRW (by decide) (by decide)⟩
        · show oP p e below T238 (mkF m 296 #[oI p0, oI p1, oI p2, oI p3, oJ q4, oS, oJ q5, oS, oI fl, oI sa, oI sb, oJ wb, oS, oJ za, oS, oJ zb, oS, oI ka, oI kb, oR b144, oR b160, oI (0 : Int32), oR b160, oI (0 : Int32)] [(.int (0 : Int32)), (.int (fn19q Z b144 b160 (fn1 Z ka) (fn1 Z kb) b_146 b_167 b_150 b_172 za zb t_146 kt_146 (strcs p0) t_167 kt_167 (strcs sa) t_150 kt_150 (strcs p1) t_172 kt_172 (strcs sb)))]) _
          refine XS.icmpNo X238.here hx rfl (hb hby at_296) rfl (teq hc240).2 ?_
          show oP p e below T238 (mkF m 299 #[oI p0, oI p1, oI p2, oI p3, oJ q4, oS, oJ q5, oS, oI fl, oI sa, oI sb, oJ wb, oS, oJ za, oS, oJ zb, oS, oI ka, oI kb, oR b144, oR b160, oI (0 : Int32), oR b160, oI (0 : Int32)] []) _
          refine XS.iconst X238.here hx rfl (hb hby at_299) ?_
          show oP p e below T238 (mkF m 300 #[oI p0, oI p1, oI p2, oI p3, oJ q4, oS, oJ q5, oS, oI fl, oI sa, oI sb, oJ wb, oS, oJ za, oS, oJ zb, oS, oI ka, oI kb, oR b144, oR b160, oI (0 : Int32), oR b160, oI (0 : Int32)] [(.int (1 : Int32))]) _
          refine XS.goto X238.here hx rfl (pc0 := 300) (pc' := 304) rfl (hb hby at_300) (by decide) (by decide) ?_
          show oP p e below T238 (mkF m 304 #[oI p0, oI p1, oI p2, oI p3, oJ q4, oS, oJ q5, oS, oI fl, oI sa, oI sb, oJ wb, oS, oJ za, oS, oJ zb, oS, oI ka, oI kb, oR b144, oR b160, oI (0 : Int32), oR b160, oI (0 : Int32)] [(.int (1 : Int32))]) _
          exact retN X238 hx (t := .boolean) Bd.returns (by simp) (hb hby at_304) hr
        · show (some (.int (1 : Int32)) : Option Value) = some (.int (1 : Int32)) ∧ Fr n0 _ ∧ Keep h0 T238.heap []
          exact ⟨rfl, N238, Kc238⟩
      · exfalso
        exact ab242 hS p0 p1 sa sb za zb ka kb rka rkb hc206 hc240
  · obtain ⟨cq243, kq243, q243a, q243b, q243c⟩ := isOf hZ rfl fx183
    obtain ⟨_, _, ⟨T243, L243, k243, n243⟩, -, X243, ⟨Lc243, hQ243, l243, y243, z243⟩, st243⟩ := X176.virtualBack hx (y := (⟨"com/example/meerkat/meerkat/ExpansionFile", "equals", "(Ljava/lang/Object;)Z"⟩ : MethodName)) (z := (⟨"com/example/meerkat/meerkat/ExpansionFile", "equals", "(Ljava/lang/Object;)Z"⟩ : MethodName)) hown (mvT hZ (hw _ (List.mem_of_getElem? (i := 95) rfl))) (mvT hZ (hw _ (List.mem_of_getElem? (i := 96) rfl))) (notFace_of_selects (args := #[]) (mvT hZ (hw _ (List.mem_of_getElem? (i := 98) rfl)))) (mvT hZ (hw _ (List.mem_of_getElem? (i := 98) rfl))) (mvT hZ (hw _ (List.mem_of_getElem? (i := 97) rfl))) (by decide) (backOf (W := 0) (rm19n l Z a0 hw hS [] b144 T176.heap n0 O176 ) hZ (hw _ (List.mem_of_getElem? (i := 99) rfl)) (hw _ (List.mem_of_getElem? (i := 3) rfl)) (by decide) (by decide)) q243a q243c (g := (mkF m 291 #[oI p0, oI p1, oI p2, oI p3, oJ q4, oS, oJ q5, oS, oI fl, oI sa, oI sb, oJ wb, oS, oJ za, oS, oJ zb, oS, oI ka, oI kb, oR b144, oR b160, oI (1 : Int32), oN, oI (0 : Int32)] [.null, (.ref b144)])) rfl (by rw [hml]; rfl) (Steps.refl _) (argsL := [.null]) (rest := []) (lenOf pd_7 rfl) rfl (by show 2 * 0 + _ ≤ _; exact Nat.le_of_eq rfl) (hb hby at_291) (fun _ _ => ⟨rfl, rfl, (by decide : 26 + 0 ≤ _), (by decide : 184 + 0 ≤ _)⟩)
    dsimp only [Pt.U, Pt.locs, Pt.cells, Pt.slots] at X243 l243 y243 z243 st243 hQ243
    subst l243 y243 z243
    obtain ⟨v243, N243q, K243q⟩ := hQ243
    have w243 : (fn19n Z b144) = (0 : Int32) := rfl
    rw [w243] at v243
    subst v243
    have N243 := Fr.app N176 N243q
    have O243 := O176.keep K243q all0
    have Kc243 := Kc176.trans K243q all0
    have fx244 := (Nat.le_trans (Nat.le_refl _) K243q.1)
    obtain ⟨fs, hr, hrun, hended, hRW⟩ := Stand.leaveW X243 hSi fx244 (v := some (.int (1 : Int32))) (fun h => by rw [Bd.returns] at h; cases h)
    refine ⟨_, _, pre204 _ ?_, hrun, hended, _, _, rfl, ?_, own_rwmono hRW (by decide) (by decide)⟩
    · show oP p e below T176 (mkF m 194 #[oI p0, oI p1, oI p2, oI p3, oJ q4, oS, oJ q5, oS, oI fl, oI sa, oI sb, oJ wb, oS, oJ za, oS, oJ zb, oS, oI ka, oI kb, oR b144, oR b160, oI (1 : Int32), oU, oU] []) _
      refine XS.iload X176.here hx rfl (hb hby at_194) rfl ?_
      show oP p e below T176 (mkF m 196 #[oI p0, oI p1, oI p2, oI p3, oJ q4, oS, oJ q5, oS, oI fl, oI sa, oI sb, oJ wb, oS, oJ za, oS, oJ zb, oS, oI ka, oI kb, oR b144, oR b160, oI (1 : Int32), oU, oU] [(.int (1 : Int32))]) _
      refine XS.iconst X176.here hx rfl (hb hby at_196) ?_
      show oP p e below T176 (mkF m 197 #[oI p0, oI p1, oI p2, oI p3, oJ q4, oS, oJ q5, oS, oI fl, oI sa, oI sb, oJ wb, oS, oJ za, oS, oJ zb, oS, oI ka, oI kb, oR b144, oR b160, oI (1 : Int32), oU, oU] [(.int (1 : Int32)), (.int (1 : Int32))]) _
      refine XS.icmpNo X176.here hx rfl (hb hby at_197) rfl (teq (by decide : (1 : Int32) = (1 : Int32))).2 ?_
      show oP p e below T176 (mkF m 200 #[oI p0, oI p1, oI p2, oI p3, oJ q4, oS, oJ q5, oS, oI fl, oI sa, oI sb, oJ wb, oS, oJ za, oS, oJ zb, oS, oI ka, oI kb, oR b144, oR b160, oI (1 : Int32), oU, oU] []) _
      refine XS.aconstNull X176.here hx rfl (hb hby at_200) ?_
      show oP p e below T176 (mkF m 201 #[oI p0, oI p1, oI p2, oI p3, oJ q4, oS, oJ q5, oS, oI fl, oI sa, oI sb, oJ wb, oS, oJ za, oS, oJ zb, oS, oI ka, oI kb, oR b144, oR b160, oI (1 : Int32), oU, oU] [.null]) _
      refine XS.astore X176.here hx rfl (hb hby at_201) rfl rfl (l' := #[oI p0, oI p1, oI p2, oI p3, oJ q4, oS, oJ q5, oS, oI fl, oI sa, oI sb, oJ wb, oS, oJ za, oS, oJ zb, oS, oI ka, oI kb, oR b144, oR b160, oI (1 : Int32), oN, oU]) rfl ?_
      show oP p e below T176 (mkF m 203 #[oI p0, oI p1, oI p2, oI p3, oJ q4, oS, oJ q5, oS, oI fl, oI sa, oI sb, oJ wb, oS, oJ za, oS, oJ zb, oS, oI ka, oI kb, oR b144, oR b160, oI (1 : Int32), oN, oU] []) _
      refine XS.iconst X176.here hx rfl (hb hby at_203) ?_
      show oP p e below T176 (mkF m 204 #[oI p0, oI p1, oI p2, oI p3, oJ q4, oS, oJ q5, oS, oI fl, oI sa, oI sb, oJ wb, oS, oJ za, oS, oJ zb, oS, oI ka, oI kb, oR b144, oR b160, oI (1 : Int32), oN, oU] [(.int (0 : Int32))]) _
      refine XS.istore X176.here hx rfl (hb hby at_204) rfl (l' := #[oI p0, oI p1, oI p2, oI p3, oJ q4, oS, oJ q5, oS, oI fl, oI sa, oI sb, oJ wb, oS, oJ za, oS, oJ zb, oS, oI ka, oI kb, oR b144, oR b160, oI (1 : Int32), oN, oI (0 : Int32)]) rfl ?_
      show oP p e below T176 (mkF m 206 #[oI p0, oI p1, oI p2, oI p3, oJ q4, oS, oJ q5, oS, oI fl, oI sa, oI sb, oJ wb, oS, oJ za, oS, oJ zb, oS, oI ka, oI kb, oR b144, oR b160, oI (1 : Int32), oN, oI (0 : Int32)] []) _
      refine XS.goto X176.here hx rfl (pc0 := 206) (pc' := 287) rfl (hb hby at_206) (by decide) (by decide) ?_
      show oP p e below T176 (mkF m 287 #[oI p0, oI p1, oI p2, oI p3, oJ q4, oS, oJ q5, oS, oI fl, oI sa, oI sb, oJ wb, oS, oJ za, oS, oJ zb, oS, oI ka, oI kb, oR b144, oR b160, oI (1 : Int32), oN, oI (0 : Int32)] []) _
      refine XS.aload X176.here hx rfl (hb hby at_287) rfl rfl ?_
      show oP p e below T176 (mkF m 289 #[oI p0, oI p1, oI p2, oI p3, oJ q4, oS, oJ q5, oS, oI fl, oI sa, oI sb, oJ wb, oS, oJ za, oS, oJ zb, oS, oI ka, oI kb, oR b144, oR b160, oI (1 : Int32), oN, oI (0 : Int32)] [(.ref b144)]) _
      refine XS.aload X176.here hx rfl (hb hby at_289) rfl rfl ?_
      show oP p e below T176 (mkF m 291 #[oI p0, oI p1, oI p2, oI p3, oJ q4, oS, oJ q5, oS, oI fl, oI sa, oI sb, oJ wb, oS, oJ za, oS, oJ zb, oS, oI ka, oI kb, oR b144, oR b160, oI (1 : Int32), oN, oI (0 : Int32)] [.null, (.ref b144)]) _
      refine st243.trans ?_
      show oP p e below T243 (mkF m 294 #[oI p0, oI p1, oI p2, oI p3, oJ q4, oS, oJ q5, oS, oI fl, oI sa, oI sb, oJ wb, oS, oJ za, oS, oJ zb, oS, oI ka, oI kb, oR b144, oR b160, oI (1 : Int32), oN, oI (0 : Int32)] [(.int (0 : Int32))]) _
      refine XS.iload X243.here hx rfl (hb hby at_294) rfl ?_
      show oP p e below T243 (mkF m 296 #[oI p0, oI p1, oI p2, oI p3, oJ q4, oS, oJ q5, oS, oI fl, oI sa, oI sb, oJ wb, oS, oJ za, oS, oJ zb, oS, oI ka, oI kb, oR b144, oR b160, oI (1 : Int32), oN, oI (0 : Int32)] [(.int (0 : Int32)), (.int (0 : Int32))]) _
      refine XS.icmpNo X243.here hx rfl (hb hby at_296) rfl (teq (by decide : (0 : Int32) = (0 : Int32))).2 ?_
      show oP p e below T243 (mkF m 299 #[oI p0, oI p1, oI p2, oI p3, oJ q4, oS, oJ q5, oS, oI fl, oI sa, oI sb, oJ wb, oS, oJ za, oS, oJ zb, oS, oI ka, oI kb, oR b144, oR b160, oI (1 : Int32), oN, oI (0 : Int32)] []) _
      refine XS.iconst X243.here hx rfl (hb hby at_299) ?_
      show oP p e below T243 (mkF m 300 #[oI p0, oI p1, oI p2, oI p3, oJ q4, oS, oJ q5, oS, oI fl, oI sa, oI sb, oJ wb, oS, oJ za, oS, oJ zb, oS, oI ka, oI kb, oR b144, oR b160, oI (1 : Int32), oN, oI (0 : Int32)] [(.int (1 : Int32))]) _
      refine XS.goto X243.here hx rfl (pc0 := 300) (pc' := 304) rfl (hb hby at_300) (by decide) (by decide) ?_
      show oP p e below T243 (mkF m 304 #[oI p0, oI p1, oI p2, oI p3, oJ q4, oS, oJ q5, oS, oI fl, oI sa, oI sb, oJ wb, oS, oJ za, oS, oJ zb, oS, oI ka, oI kb, oR b144, oR b160, oI (1 : Int32), oN, oI (0 : Int32)] [(.int (1 : Int32))]) _
      exact retN X243 hx (t := .boolean) Bd.returns (by simp) (hb hby at_304) hr
    · show (some (.int (1 : Int32)) : Option Value) = some (.int (1 : Int32)) ∧ Fr n0 _ ∧ Keep h0 T243.heap []
      exact ⟨rfl, N243, Kc243⟩
  · have hc246 := (hc182.trans hC176)
    obtain ⟨_, _, ⟨T245, L245, k245, n245⟩, -, X245, hsi245, hge245, ⟨Lc245, hQ245, l245, y245, z245, hC245⟩, st245⟩ := callSS X176 hx (y := (⟨"com/example/meerkat/meerkat/ExpansionFileEqualsPinLaw", "str", "(I)Ljava/lang/String;"⟩ : MethodName)) hown (mvT hZ (hw _ (List.mem_of_getElem? (i := 11) rfl))) (mvT hZ (hw _ (List.mem_of_getElem? (i := 12) rfl))) (mvT hZ (hw _ (List.mem_of_getElem? (i := 6) rfl))) (mvT hZ (hw _ (List.mem_of_getElem? (i := 13) rfl))) (by decide) (backOfSH (W := 0) (rm2 l Z a0 hw hS [] p0 T176.heap n0 O176 ) hZ (hw _ (List.mem_of_getElem? (i := 13) rfl)) (hw _ (List.mem_of_getElem? (i := 6) rfl)) (by decide) (by decide) (own_EW hw) hc246.1) (g := (mkF m 216 #[oI p0, oI p1, oI p2, oI p3, oJ q4, oS, oJ q5, oS, oI fl, oI sa, oI sb, oJ wb, oS, oJ za, oS, oJ zb, oS, oI ka, oI kb, oR b144, oR b160, oI (2 : Int32), oU, oU] [(.int p0)])) rfl (by rw [hml]; rfl) (argsL := [(.int p0)]) (rest := []) (lenOf pd_9 rfl) rfl (by show 2 * 0 + _ ≤ _; exact Nat.le_of_eq rfl) (hb hby at_216) (fun _ _ => ⟨rfl, rfl, (by decide : 26 + 3 ≤ _), (by decide : 184 + 8 ≤ _)⟩)
    dsimp only [Pt.U, Pt.locs, Pt.cells, Pt.slots] at X245 l245 y245 z245 st245 hQ245 hsi245 hge245 hC245
    subst l245 y245 z245
    obtain ⟨X245, hSi, hZ, hown⟩ := rebS hSi (Nat.le_refl _) X245 hsi245 hge245 hZ hown
    obtain ⟨b_245, t_245, kt_245, v245, N245q, K245q, po245_0, po245_1, po245_2, po245_3⟩ := hQ245
    subst v245
    have N245 := Fr.app N176 N245q
    have O245 := O176.keep K245q all0
    have Kc245 := Kc176.trans K245q all0
    have fx247 := (fx183.keep K245q)
    have ne_b144_b_245 : b144 ≠ b_245 := Exa.ne fx247 po245_0 (by decide)
    have fx248 := (po176_0.keep K245q)
    have ne_b160_b_245 : b160 ≠ b_245 := Exa.ne fx248 po245_0 (by decide)
    have ne_b144_t_245 : b144 ≠ t_245 := Exa.neArv fx247 po245_3 (hw _ (List.mem_of_getElem? (i := 2) rfl))
    have ne_b160_t_245 : b160 ≠ t_245 := Exa.neArv fx248 po245_3 (hw _ (List.mem_of_getElem? (i := 2) rfl))
    obtain ⟨cq249, kq249, q249a, q249b, q249c⟩ := isOf hZ rfl fx247
    obtain ⟨_, _, ⟨T249, L249, k249, n249⟩, -, X249, ⟨Lc249, hQ249, l249, y249, z249⟩, st249⟩ := X245.virtualBack hx (y := (⟨"com/example/meerkat/meerkat/ExpansionFile", "equals", "(Ljava/lang/Object;)Z"⟩ : MethodName)) (z := (⟨"com/example/meerkat/meerkat/ExpansionFile", "equals", "(Ljava/lang/Object;)Z"⟩ : MethodName)) hown (mvT hZ (hw _ (List.mem_of_getElem? (i := 95) rfl))) (mvT hZ (hw _ (List.mem_of_getElem? (i := 96) rfl))) (notFace_of_selects (args := #[]) (mvT hZ (hw _ (List.mem_of_getElem? (i := 98) rfl)))) (mvT hZ (hw _ (List.mem_of_getElem? (i := 98) rfl))) (mvT hZ (hw _ (List.mem_of_getElem? (i := 97) rfl))) (by decide) (backOf (W := 0) (rm19s l Z a0 hw hS [] b144 b_245 T245.heap n0 O245 po245_0) hZ (hw _ (List.mem_of_getElem? (i := 99) rfl)) (hw _ (List.mem_of_getElem? (i := 3) rfl)) (by decide) (by decide)) q249a q249c (g := (mkF m 291 #[oI p0, oI p1, oI p2, oI p3, oJ q4, oS, oJ q5, oS, oI fl, oI sa, oI sb, oJ wb, oS, oJ za, oS, oJ zb, oS, oI ka, oI kb, oR b144, oR b160, oI (2 : Int32), oR b_245, oI (0 : Int32)] [(.ref b_245), (.ref b144)])) rfl (by rw [hml]; rfl) (Steps.refl _) (argsL := [(.ref b_245)]) (rest := []) (lenOf pd_7 rfl) rfl (by show 2 * 0 + _ ≤ _; exact Nat.le_of_eq rfl) (hb hby at_291) (fun _ _ => ⟨rfl, rfl, (by decide : 29 + 0 ≤ _), (by decide : 192 + 0 ≤ _)⟩)
    dsimp only [Pt.U, Pt.locs, Pt.cells, Pt.slots] at X249 l249 y249 z249 st249 hQ249
    subst l249 y249 z249
    obtain ⟨v249, N249q, K249q⟩ := hQ249
    have w249 : (fn19s Z b144 b_245) = (0 : Int32) := rfl
    rw [w249] at v249
    subst v249
    have N249 := Fr.app N245 N249q
    have O249 := O245.keep K249q all0
    have Kc249 := Kc245.trans K249q all0
    have fx250 := (Nat.le_trans (Nat.le_refl _) K249q.1)
    obtain ⟨fs, hr, hrun, hended, hRW⟩ := Stand.leaveW X249 hSi fx250 (v := some (.int (1 : Int32))) (fun h => by rw [Bd.returns] at h; cases h)
    refine ⟨_, _, pre204 _ ?_, hrun, hended, _, _, rfl, ?_, own_rwmono hRW (by decide) (by decide)⟩
    · show oP p e below T176 (mkF m 194 #[oI p0, oI p1, oI p2, oI p3, oJ q4, oS, oJ q5, oS, oI fl, oI sa, oI sb, oJ wb, oS, oJ za, oS, oJ zb, oS, oI ka, oI kb, oR b144, oR b160, oI (2 : Int32), oU, oU] []) _
      refine XS.iload X176.here hx rfl (hb hby at_194) rfl ?_
      show oP p e below T176 (mkF m 196 #[oI p0, oI p1, oI p2, oI p3, oJ q4, oS, oJ q5, oS, oI fl, oI sa, oI sb, oJ wb, oS, oJ za, oS, oJ zb, oS, oI ka, oI kb, oR b144, oR b160, oI (2 : Int32), oU, oU] [(.int (2 : Int32))]) _
      refine XS.iconst X176.here hx rfl (hb hby at_196) ?_
      show oP p e below T176 (mkF m 197 #[oI p0, oI p1, oI p2, oI p3, oJ q4, oS, oJ q5, oS, oI fl, oI sa, oI sb, oJ wb, oS, oJ za, oS, oJ zb, oS, oI ka, oI kb, oR b144, oR b160, oI (2 : Int32), oU, oU] [(.int (1 : Int32)), (.int (2 : Int32))]) _
      refine XS.icmpYes X176.here hx rfl (pc0 := 197) (pc' := 209) rfl (hb hby at_197) rfl (feq (by decide : ¬ ((2 : Int32) = (1 : Int32)))).2 (by decide) (by decide) ?_
      show oP p e below T176 (mkF m 209 #[oI p0, oI p1, oI p2, oI p3, oJ q4, oS, oJ q5, oS, oI fl, oI sa, oI sb, oJ wb, oS, oJ za, oS, oJ zb, oS, oI ka, oI kb, oR b144, oR b160, oI (2 : Int32), oU, oU] []) _
      refine XS.iload X176.here hx rfl (hb hby at_209) rfl ?_
      show oP p e below T176 (mkF m 211 #[oI p0, oI p1, oI p2, oI p3, oJ q4, oS, oJ q5, oS, oI fl, oI sa, oI sb, oJ wb, oS, oJ za, oS, oJ zb, oS, oI ka, oI kb, oR b144, oR b160, oI (2 : Int32), oU, oU] [(.int (2 : Int32))]) _
      refine XS.iconst X176.here hx rfl (hb hby at_211) ?_
      show oP p e below T176 (mkF m 212 #[oI p0, oI p1, oI p2, oI p3, oJ q4, oS, oJ q5, oS, oI fl, oI sa, oI sb, oJ wb, oS, oJ za, oS, oJ zb, oS, oI ka, oI kb, oR b144, oR b160, oI (2 : Int32), oU, oU] [(.int (2 : Int32)), (.int (2 : Int32))]) _
      refine XS.icmpNo X176.here hx rfl (hb hby at_212) rfl (teq (by decide : (2 : Int32) = (2 : Int32))).2 ?_
      show oP p e below T176 (mkF m 215 #[oI p0, oI p1, oI p2, oI p3, oJ q4, oS, oJ q5, oS, oI fl, oI sa, oI sb, oJ wb, oS, oJ za, oS, oJ zb, oS, oI ka, oI kb, oR b144, oR b160, oI (2 : Int32), oU, oU] []) _
      refine XS.iloadN X176.here hx rfl (hb hby at_215) rfl ?_
      show oP p e below T176 (mkF m 216 #[oI p0, oI p1, oI p2, oI p3, oJ q4, oS, oJ q5, oS, oI fl, oI sa, oI sb, oJ wb, oS, oJ za, oS, oJ zb, oS, oI ka, oI kb, oR b144, oR b160, oI (2 : Int32), oU, oU] [(.int p0)]) _
      refine st245.trans ?_
      show oP p e below T245 (mkF m 219 #[oI p0, oI p1, oI p2, oI p3, oJ q4, oS, oJ q5, oS, oI fl, oI sa, oI sb, oJ wb, oS, oJ za, oS, oJ zb, oS, oI ka, oI kb, oR b144, oR b160, oI (2 : Int32), oU, oU] [(.ref b_245)]) _
      refine XS.astore X245.here hx rfl (hb hby at_219) rfl rfl (l' := #[oI p0, oI p1, oI p2, oI p3, oJ q4, oS, oJ q5, oS, oI fl, oI sa, oI sb, oJ wb, oS, oJ za, oS, oJ zb, oS, oI ka, oI kb, oR b144, oR b160, oI (2 : Int32), oR b_245, oU]) rfl ?_
      show oP p e below T245 (mkF m 221 #[oI p0, oI p1, oI p2, oI p3, oJ q4, oS, oJ q5, oS, oI fl, oI sa, oI sb, oJ wb, oS, oJ za, oS, oJ zb, oS, oI ka, oI kb, oR b144, oR b160, oI (2 : Int32), oR b_245, oU] []) _
      refine XS.iconst X245.here hx rfl (hb hby at_221) ?_
      show oP p e below T245 (mkF m 222 #[oI p0, oI p1, oI p2, oI p3, oJ q4, oS, oJ q5, oS, oI fl, oI sa, oI sb, oJ wb, oS, oJ za, oS, oJ zb, oS, oI ka, oI kb, oR b144, oR b160, oI (2 : Int32), oR b_245, oU] [(.int (0 : Int32))]) _
      refine XS.istore X245.here hx rfl (hb hby at_222) rfl (l' := #[oI p0, oI p1, oI p2, oI p3, oJ q4, oS, oJ q5, oS, oI fl, oI sa, oI sb, oJ wb, oS, oJ za, oS, oJ zb, oS, oI ka, oI kb, oR b144, oR b160, oI (2 : Int32), oR b_245, oI (0 : Int32)]) rfl ?_
      show oP p e below T245 (mkF m 224 #[oI p0, oI p1, oI p2, oI p3, oJ q4, oS, oJ q5, oS, oI fl, oI sa, oI sb, oJ wb, oS, oJ za, oS, oJ zb, oS, oI ka, oI kb, oR b144, oR b160, oI (2 : Int32), oR b_245, oI (0 : Int32)] []) _
      refine XS.goto X245.here hx rfl (pc0 := 224) (pc' := 287) rfl (hb hby at_224) (by decide) (by decide) ?_
      show oP p e below T245 (mkF m 287 #[oI p0, oI p1, oI p2, oI p3, oJ q4, oS, oJ q5, oS, oI fl, oI sa, oI sb, oJ wb, oS, oJ za, oS, oJ zb, oS, oI ka, oI kb, oR b144, oR b160, oI (2 : Int32), oR b_245, oI (0 : Int32)] []) _
      refine XS.aload X245.here hx rfl (hb hby at_287) rfl rfl ?_
      show oP p e below T245 (mkF m 289 #[oI p0, oI p1, oI p2, oI p3, oJ q4, oS, oJ q5, oS, oI fl, oI sa, oI sb, oJ wb, oS, oJ za, oS, oJ zb, oS, oI ka, oI kb, oR b144, oR b160, oI (2 : Int32), oR b_245, oI (0 : Int32)] [(.ref b144)]) _
      refine XS.aload X245.here hx rfl (hb hby at_289) rfl rfl ?_
      show oP p e below T245 (mkF m 291 #[oI p0, oI p1, oI p2, oI p3, oJ q4, oS, oJ q5, oS, oI fl, oI sa, oI sb, oJ wb, oS, oJ za, oS, oJ zb, oS, oI ka, oI kb, oR b144, oR b160, oI (2 : Int32), oR b_245, oI (0 : Int32)] [(.ref b_245), (.ref b144)]) _
      refine st249.trans ?_
      show oP p e below T249 (mkF m 294 #[oI p0, oI p1, oI p2, oI p3, oJ q4, oS, oJ q5, oS, oI fl, oI sa, oI sb, oJ wb, oS, oJ za, oS, oJ zb, oS, oI ka, oI kb, oR b144, oR b160, oI (2 : Int32), oR b_245, oI (0 : Int32)] [(.int (0 : Int32))]) _
      refine XS.iload X249.here hx rfl (hb hby at_294) rfl ?_
      show oP p e below T249 (mkF m 296 #[oI p0, oI p1, oI p2, oI p3, oJ q4, oS, oJ q5, oS, oI fl, oI sa, oI sb, oJ wb, oS, oJ za, oS, oJ zb, oS, oI ka, oI kb, oR b144, oR b160, oI (2 : Int32), oR b_245, oI (0 : Int32)] [(.int (0 : Int32)), (.int (0 : Int32))]) _
      refine XS.icmpNo X249.here hx rfl (hb hby at_296) rfl (teq (by decide : (0 : Int32) = (0 : Int32))).2 ?_
      show oP p e below T249 (mkF m 299 #[oI p0, oI p1, oI p2, oI p3, oJ q4, oS, oJ q5, oS, oI fl, oI sa, oI sb, oJ wb, oS, oJ za, oS, oJ zb, oS, oI ka, oI kb, oR b144, oR b160, oI (2 : Int32), oR b_245, oI (0 : Int32)] []) _
      refine XS.iconst X249.here hx rfl (hb hby at_299) ?_
      show oP p e below T249 (mkF m 300 #[oI p0, oI p1, oI p2, oI p3, oJ q4, oS, oJ q5, oS, oI fl, oI sa, oI sb, oJ wb, oS, oJ za, oS, oJ zb, oS, oI ka, oI kb, oR b144, oR b160, oI (2 : Int32), oR b_245, oI (0 : Int32)] [(.int (1 : Int32))]) _
      refine XS.goto X249.here hx rfl (pc0 := 300) (pc' := 304) rfl (hb hby at_300) (by decide) (by decide) ?_
      show oP p e below T249 (mkF m 304 #[oI p0, oI p1, oI p2, oI p3, oJ q4, oS, oJ q5, oS, oI fl, oI sa, oI sb, oJ wb, oS, oJ za, oS, oJ zb, oS, oI ka, oI kb, oR b144, oR b160, oI (2 : Int32), oR b_245, oI (0 : Int32)] [(.int (1 : Int32))]) _
      exact retN X249 hx (t := .boolean) Bd.returns (by simp) (hb hby at_304) hr
    · show (some (.int (1 : Int32)) : Option Value) = some (.int (1 : Int32)) ∧ Fr n0 _ ∧ Keep h0 T249.heap []
      exact ⟨rfl, N249, Kc249⟩
  · obtain ⟨cq251, kq251, q251a, q251b, q251c⟩ := isOf hZ rfl fx183
    obtain ⟨_, _, ⟨T251, L251, k251, n251⟩, -, X251, ⟨Lc251, hQ251, l251, y251, z251⟩, st251⟩ := X176.virtualBack hx (y := (⟨"com/example/meerkat/meerkat/ExpansionFile", "equals", "(Ljava/lang/Object;)Z"⟩ : MethodName)) (z := (⟨"com/example/meerkat/meerkat/ExpansionFile", "equals", "(Ljava/lang/Object;)Z"⟩ : MethodName)) hown (mvT hZ (hw _ (List.mem_of_getElem? (i := 95) rfl))) (mvT hZ (hw _ (List.mem_of_getElem? (i := 96) rfl))) (notFace_of_selects (args := #[]) (mvT hZ (hw _ (List.mem_of_getElem? (i := 98) rfl)))) (mvT hZ (hw _ (List.mem_of_getElem? (i := 98) rfl))) (mvT hZ (hw _ (List.mem_of_getElem? (i := 97) rfl))) (by decide) (backOf (W := 0) (rm19q l Z a0 hw hS [] b144 b144 (fn1 Z ka) (fn1 Z ka) b_146 b_146 b_150 b_150 za za t_146 kt_146 (strcs p0) t_146 kt_146 (strcs p0) t_150 kt_150 (strcs p1) t_150 kt_150 (strcs p1) T176.heap n0 O176 fx183 fx192 fx192 fx193 fx193 fx194 fx194 fx195 fx195 fx184 fx185 fx186 fx187 (strcs_hp p0) (strcs_len p0) fx184 fx185 fx186 fx187 (strcs_hp p0) (strcs_len p0) fx188 fx189 fx190 fx191 (strcs_hp p1) (strcs_len p1) fx188 fx189 fx190 fx191 (strcs_hp p1) (strcs_len p1)) hZ (hw _ (List.mem_of_getElem? (i := 99) rfl)) (hw _ (List.mem_of_getElem? (i := 3) rfl)) (by decide) (by decide)) q251a q251c (g := (mkF m 291 #[oI p0, oI p1, oI p2, oI p3, oJ q4, oS, oJ q5, oS, oI fl, oI sa, oI sb, oJ wb, oS, oJ za, oS, oJ zb, oS, oI ka, oI kb, oR b144, oR b160, oI (3 : Int32), oR b144, oI (1 : Int32)] [(.ref b144), (.ref b144)])) rfl (by rw [hml]; rfl) (Steps.refl _) (argsL := [(.ref b144)]) (rest := []) (lenOf pd_7 rfl) rfl (by show 2 * 0 + _ ≤ _; exact Nat.le_of_eq rfl) (hb hby at_291) (fun _ _ => ⟨rfl, rfl, (by decide : 26 + 0 ≤ _), (by decide : 184 + 0 ≤ _)⟩)
    dsimp only [Pt.U, Pt.locs, Pt.cells, Pt.slots] at X251 l251 y251 z251 st251 hQ251
    subst l251 y251 z251
    obtain ⟨v251, N251q, K251q⟩ := hQ251
    have w251 : (fn19q Z b144 b144 (fn1 Z ka) (fn1 Z ka) b_146 b_146 b_150 b_150 za za t_146 kt_146 (strcs p0) t_146 kt_146 (strcs p0) t_150 kt_150 (strcs p1) t_150 kt_150 (strcs p1)) = (1 : Int32) := by unfold fn19q; rw [if_pos (rfl : (fn1 Z ka) = (fn1 Z ka)), if_neg (by simp : ¬ ((if (strcs p0) = (strcs p0) then (1 : Int32) else (0 : Int32)) = (0 : Int32))), if_neg (by simp : ¬ ((if (strcs p1) = (strcs p1) then (1 : Int32) else (0 : Int32)) = (0 : Int32))), if_pos (own_lcmp0 za)]; all_goals first | rfl | decide
    rw [w251] at v251
    subst v251
    have N251 := Fr.app N176 N251q
    have O251 := O176.keep K251q all0
    have Kc251 := Kc176.trans K251q all0
    have fx252 := (Nat.le_trans (Nat.le_refl _) K251q.1)
    obtain ⟨fs, hr, hrun, hended, hRW⟩ := Stand.leaveW X251 hSi fx252 (v := some (.int (1 : Int32))) (fun h => by rw [Bd.returns] at h; cases h)
    refine ⟨_, _, pre204 _ ?_, hrun, hended, _, _, rfl, ?_, own_rwmono hRW (by decide) (by decide)⟩
    · show oP p e below T176 (mkF m 194 #[oI p0, oI p1, oI p2, oI p3, oJ q4, oS, oJ q5, oS, oI fl, oI sa, oI sb, oJ wb, oS, oJ za, oS, oJ zb, oS, oI ka, oI kb, oR b144, oR b160, oI (3 : Int32), oU, oU] []) _
      refine XS.iload X176.here hx rfl (hb hby at_194) rfl ?_
      show oP p e below T176 (mkF m 196 #[oI p0, oI p1, oI p2, oI p3, oJ q4, oS, oJ q5, oS, oI fl, oI sa, oI sb, oJ wb, oS, oJ za, oS, oJ zb, oS, oI ka, oI kb, oR b144, oR b160, oI (3 : Int32), oU, oU] [(.int (3 : Int32))]) _
      refine XS.iconst X176.here hx rfl (hb hby at_196) ?_
      show oP p e below T176 (mkF m 197 #[oI p0, oI p1, oI p2, oI p3, oJ q4, oS, oJ q5, oS, oI fl, oI sa, oI sb, oJ wb, oS, oJ za, oS, oJ zb, oS, oI ka, oI kb, oR b144, oR b160, oI (3 : Int32), oU, oU] [(.int (1 : Int32)), (.int (3 : Int32))]) _
      refine XS.icmpYes X176.here hx rfl (pc0 := 197) (pc' := 209) rfl (hb hby at_197) rfl (feq (by decide : ¬ ((3 : Int32) = (1 : Int32)))).2 (by decide) (by decide) ?_
      show oP p e below T176 (mkF m 209 #[oI p0, oI p1, oI p2, oI p3, oJ q4, oS, oJ q5, oS, oI fl, oI sa, oI sb, oJ wb, oS, oJ za, oS, oJ zb, oS, oI ka, oI kb, oR b144, oR b160, oI (3 : Int32), oU, oU] []) _
      refine XS.iload X176.here hx rfl (hb hby at_209) rfl ?_
      show oP p e below T176 (mkF m 211 #[oI p0, oI p1, oI p2, oI p3, oJ q4, oS, oJ q5, oS, oI fl, oI sa, oI sb, oJ wb, oS, oJ za, oS, oJ zb, oS, oI ka, oI kb, oR b144, oR b160, oI (3 : Int32), oU, oU] [(.int (3 : Int32))]) _
      refine XS.iconst X176.here hx rfl (hb hby at_211) ?_
      show oP p e below T176 (mkF m 212 #[oI p0, oI p1, oI p2, oI p3, oJ q4, oS, oJ q5, oS, oI fl, oI sa, oI sb, oJ wb, oS, oJ za, oS, oJ zb, oS, oI ka, oI kb, oR b144, oR b160, oI (3 : Int32), oU, oU] [(.int (2 : Int32)), (.int (3 : Int32))]) _
      refine XS.icmpYes X176.here hx rfl (pc0 := 212) (pc' := 227) rfl (hb hby at_212) rfl (feq (by decide : ¬ ((3 : Int32) = (2 : Int32)))).2 (by decide) (by decide) ?_
      show oP p e below T176 (mkF m 227 #[oI p0, oI p1, oI p2, oI p3, oJ q4, oS, oJ q5, oS, oI fl, oI sa, oI sb, oJ wb, oS, oJ za, oS, oJ zb, oS, oI ka, oI kb, oR b144, oR b160, oI (3 : Int32), oU, oU] []) _
      refine XS.iload X176.here hx rfl (hb hby at_227) rfl ?_
      show oP p e below T176 (mkF m 229 #[oI p0, oI p1, oI p2, oI p3, oJ q4, oS, oJ q5, oS, oI fl, oI sa, oI sb, oJ wb, oS, oJ za, oS, oJ zb, oS, oI ka, oI kb, oR b144, oR b160, oI (3 : Int32), oU, oU] [(.int (3 : Int32))]) _
      refine XS.iconst X176.here hx rfl (hb hby at_229) ?_
      show oP p e below T176 (mkF m 230 #[oI p0, oI p1, oI p2, oI p3, oJ q4, oS, oJ q5, oS, oI fl, oI sa, oI sb, oJ wb, oS, oJ za, oS, oJ zb, oS, oI ka, oI kb, oR b144, oR b160, oI (3 : Int32), oU, oU] [(.int (3 : Int32)), (.int (3 : Int32))]) _
      refine XS.icmpNo X176.here hx rfl (hb hby at_230) rfl (teq (by decide : (3 : Int32) = (3 : Int32))).2 ?_
      show oP p e below T176 (mkF m 233 #[oI p0, oI p1, oI p2, oI p3, oJ q4, oS, oJ q5, oS, oI fl, oI sa, oI sb, oJ wb, oS, oJ za, oS, oJ zb, oS, oI ka, oI kb, oR b144, oR b160, oI (3 : Int32), oU, oU] []) _
      refine XS.aload X176.here hx rfl (hb hby at_233) rfl rfl ?_
      show oP p e below T176 (mkF m 235 #[oI p0, oI p1, oI p2, oI p3, oJ q4, oS, oJ q5, oS, oI fl, oI sa, oI sb, oJ wb, oS, oJ za, oS, oJ zb, oS, oI ka, oI kb, oR b144, oR b160, oI (3 : Int32), oU, oU] [(.ref b144)]) _
      refine XS.astore X176.here hx rfl (hb hby at_235) rfl rfl (l' := #[oI p0, oI p1, oI p2, oI p3, oJ q4, oS, oJ q5, oS, oI fl, oI sa, oI sb, oJ wb, oS, oJ za, oS, oJ zb, oS, oI ka, oI kb, oR b144, oR b160, oI (3 : Int32), oR b144, oU]) rfl ?_
      show oP p e below T176 (mkF m 237 #[oI p0, oI p1, oI p2, oI p3, oJ q4, oS, oJ q5, oS, oI fl, oI sa, oI sb, oJ wb, oS, oJ za, oS, oJ zb, oS, oI ka, oI kb, oR b144, oR b160, oI (3 : Int32), oR b144, oU] []) _
      refine XS.iconst X176.here hx rfl (hb hby at_237) ?_
      show oP p e below T176 (mkF m 238 #[oI p0, oI p1, oI p2, oI p3, oJ q4, oS, oJ q5, oS, oI fl, oI sa, oI sb, oJ wb, oS, oJ za, oS, oJ zb, oS, oI ka, oI kb, oR b144, oR b160, oI (3 : Int32), oR b144, oU] [(.int (1 : Int32))]) _
      refine XS.istore X176.here hx rfl (hb hby at_238) rfl (l' := #[oI p0, oI p1, oI p2, oI p3, oJ q4, oS, oJ q5, oS, oI fl, oI sa, oI sb, oJ wb, oS, oJ za, oS, oJ zb, oS, oI ka, oI kb, oR b144, oR b160, oI (3 : Int32), oR b144, oI (1 : Int32)]) rfl ?_
      show oP p e below T176 (mkF m 240 #[oI p0, oI p1, oI p2, oI p3, oJ q4, oS, oJ q5, oS, oI fl, oI sa, oI sb, oJ wb, oS, oJ za, oS, oJ zb, oS, oI ka, oI kb, oR b144, oR b160, oI (3 : Int32), oR b144, oI (1 : Int32)] []) _
      refine XS.goto X176.here hx rfl (pc0 := 240) (pc' := 287) rfl (hb hby at_240) (by decide) (by decide) ?_
      show oP p e below T176 (mkF m 287 #[oI p0, oI p1, oI p2, oI p3, oJ q4, oS, oJ q5, oS, oI fl, oI sa, oI sb, oJ wb, oS, oJ za, oS, oJ zb, oS, oI ka, oI kb, oR b144, oR b160, oI (3 : Int32), oR b144, oI (1 : Int32)] []) _
      refine XS.aload X176.here hx rfl (hb hby at_287) rfl rfl ?_
      show oP p e below T176 (mkF m 289 #[oI p0, oI p1, oI p2, oI p3, oJ q4, oS, oJ q5, oS, oI fl, oI sa, oI sb, oJ wb, oS, oJ za, oS, oJ zb, oS, oI ka, oI kb, oR b144, oR b160, oI (3 : Int32), oR b144, oI (1 : Int32)] [(.ref b144)]) _
      refine XS.aload X176.here hx rfl (hb hby at_289) rfl rfl ?_
      show oP p e below T176 (mkF m 291 #[oI p0, oI p1, oI p2, oI p3, oJ q4, oS, oJ q5, oS, oI fl, oI sa, oI sb, oJ wb, oS, oJ za, oS, oJ zb, oS, oI ka, oI kb, oR b144, oR b160, oI (3 : Int32), oR b144, oI (1 : Int32)] [(.ref b144), (.ref b144)]) _
      refine st251.trans ?_
      show oP p e below T251 (mkF m 294 #[oI p0, oI p1, oI p2, oI p3, oJ q4, oS, oJ q5, oS, oI fl, oI sa, oI sb, oJ wb, oS, oJ za, oS, oJ zb, oS, oI ka, oI kb, oR b144, oR b160, oI (3 : Int32), oR b144, oI (1 : Int32)] [(.int (1 : Int32))]) _
      refine XS.iload X251.here hx rfl (hb hby at_294) rfl ?_
      show oP p e below T251 (mkF m 296 #[oI p0, oI p1, oI p2, oI p3, oJ q4, oS, oJ q5, oS, oI fl, oI sa, oI sb, oJ wb, oS, oJ za, oS, oJ zb, oS, oI ka, oI kb, oR b144, oR b160, oI (3 : Int32), oR b144, oI (1 : Int32)] [(.int (1 : Int32)), (.int (1 : Int32))]) _
      refine XS.icmpNo X251.here hx rfl (hb hby at_296) rfl (teq (by decide : (1 : Int32) = (1 : Int32))).2 ?_
      show oP p e below T251 (mkF m 299 #[oI p0, oI p1, oI p2, oI p3, oJ q4, oS, oJ q5, oS, oI fl, oI sa, oI sb, oJ wb, oS, oJ za, oS, oJ zb, oS, oI ka, oI kb, oR b144, oR b160, oI (3 : Int32), oR b144, oI (1 : Int32)] []) _
      refine XS.iconst X251.here hx rfl (hb hby at_299) ?_
      show oP p e below T251 (mkF m 300 #[oI p0, oI p1, oI p2, oI p3, oJ q4, oS, oJ q5, oS, oI fl, oI sa, oI sb, oJ wb, oS, oJ za, oS, oJ zb, oS, oI ka, oI kb, oR b144, oR b160, oI (3 : Int32), oR b144, oI (1 : Int32)] [(.int (1 : Int32))]) _
      refine XS.goto X251.here hx rfl (pc0 := 300) (pc' := 304) rfl (hb hby at_300) (by decide) (by decide) ?_
      show oP p e below T251 (mkF m 304 #[oI p0, oI p1, oI p2, oI p3, oJ q4, oS, oJ q5, oS, oI fl, oI sa, oI sb, oJ wb, oS, oJ za, oS, oJ zb, oS, oI ka, oI kb, oR b144, oR b160, oI (3 : Int32), oR b144, oI (1 : Int32)] [(.int (1 : Int32))]) _
      exact retN X251 hx (t := .boolean) Bd.returns (by simp) (hb hby at_304) hr
    · show (some (.int (1 : Int32)) : Option Value) = some (.int (1 : Int32)) ∧ Fr n0 _ ∧ Keep h0 T251.heap []
      exact ⟨rfl, N251, Kc251⟩
set_option maxRecDepth 65536 in
set_option maxHeartbeats 40000000 in
theorem comes_1 {Post : Tables → Env → Array Value → State → Outcome → State → Prop} (hpost : ∀ tb e args s v u, (limb_1_1.after args s (.returned v) u = true ∧ limb_1_2.after args s (.returned v) u = true ∧ True) → ReturnedEndW s (.returned v) u (Jvm.fieldLocs frame_1_writes args s ++ Jvm.arrayLocs frame_1_arrays args s ++ Jvm.staticLocs frame_1_statics s) 48 4288 → Post tb e args s (.returned v) u) :
    ArmFor flags0 classFile x code maxLocals ret World_1 tables_1 room_1 Calls_1 rest_1 Pre_1 Post := by
  intro l hfl _ _ p e ha hc hk s m args below hf hA hF happ hP
  obtain ⟨hcalls, hrest, hpre⟩ := hP
  obtain ⟨-, -, -, hnamed, -, -, -, hat⟩ := (Spec.applies_iff hf).mp happ
  obtain ⟨hg, hn⟩ := and_e (Cond.before_iff.mp (show (Jvm.Cond.and given_1 narrow_1).before args s = true from hpre))
  obtain ⟨g1, g2⟩ := and_e hg
  obtain ⟨g3, g4⟩ := and_e g2
  obtain ⟨g5, g6⟩ := and_e g4
  obtain ⟨g7, g8⟩ := and_e g6
  obtain ⟨g9, g10⟩ := and_e g8
  obtain ⟨g11, g12⟩ := and_e g10
  obtain ⟨w0, w1, w2, w3, w4, w5, rfl⟩ : ∃ w0 w1 w2 w3 w4 w5 : Value, args = #[w0, w1, w2, w3, w4, w5] := by
    have hs : args.size = 6 := by simpa [Cond.value, given_1] using g1
    obtain ⟨L⟩ := args
    match L, hs with
    | [w0, w1, w2, w3, w4, w5], _ => exact ⟨w0, w1, w2, w3, w4, w5, rfl⟩
  have hw := fun d (hd : d ∈ tables_1) => atoms_spec (ws := Jvm.Cond.code x code maxLocals ret :: tables_1) hat d (List.mem_cons_of_mem _ hd)
  have hfit : Fit s := fun {y c} hc i hi => by
    obtain ⟨ha, rfl⟩ := Array.getElem?_eq_some_iff.mp hc
    have q := List.all_eq_true.mp ((Array.all_eq_true_iff_forall_mem.mp hF) _ (Array.getElem_mem ha)) i (List.mem_range.mpr hi)
    simpa [Array.getElem?_eq_getElem hi] using q
  obtain ⟨i0, ei0⟩ := is_v g3
  obtain rfl : w0 = (.int i0) := Option.some.inj ei0
  obtain ⟨i1, ei1⟩ := is_v g5
  obtain rfl : w1 = (.int i1) := Option.some.inj ei1
  obtain ⟨i2, ei2⟩ := is_v g7
  obtain rfl : w2 = (.int i2) := Option.some.inj ei2
  obtain ⟨i3, ei3⟩ := is_v g9
  obtain rfl : w3 = (.int i3) := Option.some.inj ei3
  obtain ⟨i4, ei4⟩ := isL_v g11
  obtain rfl : w4 = (.long i4) := Option.some.inj ei4
  obtain ⟨i5, ei5⟩ := isL_v g12
  obtain rfl : w5 = (.long i5) := Option.some.inj ei5
  obtain ⟨q0, hn0⟩ := and_e hn
  obtain ⟨q1, hn1⟩ := and_e hn0
  obtain ⟨q2, hn2⟩ := and_e hn1
  have q3 := hn2
  obtain ⟨hsets, hown0⟩ := atoms_of _ (rest_1_c_eq ▸ (show rest_1_c.before _ s = true from hrest))
  have j0 := Cond.before_iff.mp (hsets _ (List.mem_of_getElem? (i := 0) rfl))
  have j1 := Cond.before_iff.mp (hsets _ (List.mem_of_getElem? (i := 1) rfl))
  have j2 := Cond.before_iff.mp (hsets _ (List.mem_of_getElem? (i := 2) rfl))
  have j3 := Cond.before_iff.mp (hsets _ (List.mem_of_getElem? (i := 3) rfl))
  have j4 := Cond.before_iff.mp (hsets _ (List.mem_of_getElem? (i := 4) rfl))
  have j5 := Cond.before_iff.mp (hsets _ (List.mem_of_getElem? (i := 5) rfl))
  have j6 := Cond.before_iff.mp (hsets _ (List.mem_of_getElem? (i := 6) rfl))
  have j7 := Cond.before_iff.mp (hsets _ (List.mem_of_getElem? (i := 7) rfl))
  have j8 := Cond.before_iff.mp (hsets _ (List.mem_of_getElem? (i := 8) rfl))
  have hS : St s := ⟨(own_sta q0 (Or.inr ⟨(hw _ (List.mem_of_getElem? (i := 9) rfl)), (hw _ (List.mem_of_getElem? (i := 10) rfl))⟩)), (own_exa q0), (own_sta q1 (Or.inr ⟨(hw _ (List.mem_of_getElem? (i := 9) rfl)), (hw _ (List.mem_of_getElem? (i := 113) rfl))⟩)), (own_exa q1), (own_fldI q2), (own_fldI q3), (own_sti j1 (Or.inl (hsets _ (List.mem_of_getElem? (i := 0) rfl)))), (own_stn j1 j2)⟩
  obtain ⟨n, o, h1, h2, h3, _, L, rfl, ⟨rfl, N, -⟩, hq⟩ := rm0 l s _ hw hS tables_1 i0 i1 i2 i3 i4 i5 s.heap s.heap.size (Old.start s) p e ha hc hk s m _ below hf ((Spec.applies_iff_loose hf).mp happ).1 ⟨rfl, State.Warmed39.refl s, rfl, CHv.start (own_EW hw) (fun z hz => hcalls.1 z ((by decide +kernel : ∀ z ∈ own_EL, z ∈ consts_1) z hz)) (hsets _ (List.mem_of_getElem? (i := 2) rfl)) (hw _ (List.mem_of_getElem? (i := 20) rfl)) (hw _ (List.mem_of_getElem? (i := 19) rfl))⟩ trivial
  refine ⟨n, _, h1, h2, h3, hpost _ _ _ _ _ _ ⟨Cond.after_iff.mpr rfl, Cond.after_iff.mpr (eq_i res_at (Term.int_eval (1)) rfl), trivial⟩ ⟨hq.1, hq.2.1, hq.2.2.1, (hq.2.2.2.sift fun y hy => Or.inr (N y hy)).mono (by decide) (by decide)⟩⟩
theorem main_1_1 : Claimed_1_1 := comes_1 fun _ _ _ _ _ _ h hF => ⟨h.1, hF⟩
theorem main_1_2 : Claimed_1_2 := comes_1 fun _ _ _ _ _ _ h hF => ⟨h.2.1, hF⟩
end Jvm.Pilot.@@N@@
namespace Jvm.Pilot.@@N@@
open Jvm Jvm.ClassFile Sem Op Lib Jvm.Free Jvm.Stand Jvm.Pilot.@@N@@.Jvm.D
/-! MADE BY PROGRAM (witnessworld.py) out of the Statement's table words and the real class files: 23 classes; the members and pool entries that the words name. The judged class is class 1, her method 1. -/
namespace start1
open Jvm.ClassFile
def u (s : String) : CpInfo := .utf8 (stringToUtf16 s)
/-- a pool by its gaps: so many unusable entries, then the entry; so many at the end -/
def gap : Nat → List CpInfo → List CpInfo
  | 0, r => r
  | n + 1, r => .unusable :: gap n r
def poolList (es : List (Nat × CpInfo)) (last : Nat) : List CpInfo := es.foldr (fun e r => gap e.1 (e.2 :: r)) (gap last [])
def pool (es : List (Nat × CpInfo)) (last : Nat) : Array CpInfo := ⟨poolList es last⟩
def fileOf (pool : Array CpInfo) (this : Nat) (attrs : Array Attribute := #[]) (ms : Array MethodInfo := #[]) (fl : Nat := 33) (sup : Nat := 0) (ifs : Array Nat := #[]) (fds : Array FieldInfo := #[]) : ClassFile where
  minorVersion := 0
  majorVersion := 65
  constantPool := pool
  accessFlags := fl
  thisClass := this
  superClass := sup
  interfaces := ifs
  fields := fds
  methods := ms
  attributes := attrs
def plain (name : String) (sup : Option ClassId) : Class where
  name := name
  kind := .ordinary
  loader := none
  accessFlags := 33
  super := sup
  interfaces := #[]
  cf := none
  fields := #[]
  methods := #[]
  instanceTypes := #[]
  staticTypes := #[]
  resolved := #[]
  callSites := []
  init := .initialized
  statics := none
  mirror := none

def pool0 : Array CpInfo := pool [(5, u "<init>"), (0, u "()V"), (1, .class_ 10), (1, u "java/lang/Object")] 113

def k0c0 : Code := { maxStack := 0, maxLocals := 1, code := object_method_1_code, exceptionTable := #[], attributes := #[] }
def k0m0 : Method := { name := "<init>", desc := "()V", sig := { parameters := [], returnType := none }, accessFlags := 1, code := some k0c0 }
/-- java/lang/Object -/
def k0 : Class := { plain "java/lang/Object" none with
  accessFlags := 33
  interfaces := #[]
  cf := some (fileOf pool0 8 #[] #[{ accessFlags := 1, nameIndex := 5, descriptorIndex := 6, attributes := #[] }] 33 0 #[] #[])
  fields := #[]
  methods := #[k0m0]
  instanceTypes := #[]
  staticTypes := #[]
  resolved := Array.replicate 124 none
  statics := none }

def pool1 : Array CpInfo := pool [(2, .class_ 4), (1, u "java/lang/Object"), (0, u "<init>"), (0, u "()V"), (0, .integer 4294705152), (0, .integer 262143), (0, .long 9223372032559808512), (1, .long 18446744073709551615), (1, .class_ 14), (0, u "com/example/meerkat/meerkat/ExpansionFile"), (0, .methodref 16 17), (0, .class_ 18), (0, .nameAndType 19 20), (0, u "com/example/meerkat/meerkat/ExpansionFileEqualsPinLaw"), (0, u "kindOf"), (0, u "(I)Lcom/example/meerkat/meerkat/ExpansionFile$Kind;"), (0, .methodref 16 22), (0, .nameAndType 23 24), (0, u "str"), (0, u "(I)Ljava/lang/String;"), (0, .methodref 13 26), (0, .nameAndType 5 27), (0, u "(Lcom/example/meerkat/meerkat/ExpansionFile$Kind;Ljava/lang/String;Ljava/lang/String;J)V"), (0, .methodref 16 29), (0, .nameAndType 30 31), (0, u "sameStr"), (0, u "(II)Z"), (0, .methodref 13 33), (0, .nameAndType 34 35), (0, u "equals"), (0, u "(Ljava/lang/Object;)Z"), (0, .fieldref 37 38), (0, .class_ 39), (0, .nameAndType 40 41), (0, u "com/example/meerkat/meerkat/ExpansionFile$Kind"), (0, u "MAIN"), (0, u "Lcom/example/meerkat/meerkat/ExpansionFile$Kind;"), (0, .fieldref 37 43), (0, .nameAndType 44 41), (0, u "PATCH"), (0, .methodref 16 46), (0, .nameAndType 47 48), (0, u "len"), (0, u "(I)I"), (0, .string 50), (0, u ""), (0, .methodref 16 52), (0, .nameAndType 53 48), (0, u "c0"), (0, .methodref 55 56), (0, .class_ 57), (0, .nameAndType 58 59), (0, u "java/lang/String"), (0, u "valueOf"), (0, u "(C)Ljava/lang/String;"), (0, .methodref 16 61), (0, .nameAndType 62 48), (0, u "c1"), (0, .methodref 55 64), (0, .nameAndType 5 65), (0, u "([C)V"), (2, u "law"), (0, u "(IIIIJJ)Z")] 5

def k1m0 : Method := { name := "<init>", desc := "()V", sig := { parameters := [], returnType := none }, accessFlags := 1, code := none }
def k1c1 : Code := { maxStack := 7, maxLocals := 24, code := code, exceptionTable := #[], attributes := #[] }
def k1m1 : Method := { name := "law", desc := "(IIIIJJ)Z", sig := { parameters := [.int, .int, .int, .int, .long, .long], returnType := some .boolean }, accessFlags := 9, code := some k1c1 }
def k1c2 : Code := { maxStack := 1, maxLocals := 1, code := method_3_code, exceptionTable := #[], attributes := #[] }
def k1m2 : Method := { name := "kindOf", desc := "(I)Lcom/example/meerkat/meerkat/ExpansionFile$Kind;", sig := { parameters := [.int], returnType := some (.object "com/example/meerkat/meerkat/ExpansionFile$Kind") }, accessFlags := 10, code := some k1c2 }
def k1c3 : Code := { maxStack := 2, maxLocals := 1, code := method_4_code, exceptionTable := #[], attributes := #[] }
def k1m3 : Method := { name := "len", desc := "(I)I", sig := { parameters := [.int], returnType := some .int }, accessFlags := 10, code := some k1c3 }
def k1c4 : Code := { maxStack := 2, maxLocals := 1, code := method_5_code, exceptionTable := #[], attributes := #[] }
def k1m4 : Method := { name := "c0", desc := "(I)I", sig := { parameters := [.int], returnType := some .int }, accessFlags := 10, code := some k1c4 }
def k1c5 : Code := { maxStack := 2, maxLocals := 1, code := method_6_code, exceptionTable := #[], attributes := #[] }
def k1m5 : Method := { name := "c1", desc := "(I)I", sig := { parameters := [.int], returnType := some .int }, accessFlags := 10, code := some k1c5 }
def k1c6 : Code := { maxStack := 3, maxLocals := 3, code := method_7_code, exceptionTable := #[], attributes := #[] }
def k1m6 : Method := { name := "str", desc := "(I)Ljava/lang/String;", sig := { parameters := [.int], returnType := some (.object "java/lang/String") }, accessFlags := 10, code := some k1c6 }
def k1c7 : Code := { maxStack := 2, maxLocals := 4, code := method_8_code, exceptionTable := #[], attributes := #[] }
def k1m7 : Method := { name := "sameStr", desc := "(II)Z", sig := { parameters := [.int, .int], returnType := some .boolean }, accessFlags := 10, code := some k1c7 }
/-- com/example/meerkat/meerkat/ExpansionFileEqualsPinLaw -/
def k1 : Class := { plain "com/example/meerkat/meerkat/ExpansionFileEqualsPinLaw" (some 0) with
  accessFlags := 49
  interfaces := #[]
  cf := some (fileOf pool1 16 #[] #[{ accessFlags := 1, nameIndex := 5, descriptorIndex := 6, attributes := #[] }, { accessFlags := 9, nameIndex := 68, descriptorIndex := 69, attributes := #[] }, { accessFlags := 10, nameIndex := 19, descriptorIndex := 20, attributes := #[] }, { accessFlags := 10, nameIndex := 47, descriptorIndex := 48, attributes := #[] }, { accessFlags := 10, nameIndex := 53, descriptorIndex := 48, attributes := #[] }, { accessFlags := 10, nameIndex := 62, descriptorIndex := 48, attributes := #[] }, { accessFlags := 10, nameIndex := 23, descriptorIndex := 24, attributes := #[] }, { accessFlags := 10, nameIndex := 30, descriptorIndex := 31, attributes := #[] }] 49 2 #[] #[])
  fields := #[]
  methods := #[k1m0, k1m1, k1m2, k1m3, k1m4, k1m5, k1m6, k1m7]
  instanceTypes := #[]
  staticTypes := #[]
  resolved := Array.replicate 75 none
  statics := none }

def pool2 : Array CpInfo := pool [(1, .methodref 2 3), (0, .class_ 4), (0, .nameAndType 5 6), (0, u "java/lang/Object"), (0, u "<init>"), (0, u "()V"), (0, .string 8), (0, u "kind"), (0, .methodref 10 11), (0, .class_ 12), (0, .nameAndType 13 14), (0, u "java/util/Objects"), (0, u "requireNonNull"), (0, u "(Ljava/lang/Object;Ljava/lang/String;)Ljava/lang/Object;"), (0, .class_ 16), (0, u "com/example/meerkat/meerkat/ExpansionFile$Kind"), (0, .fieldref 18 19), (0, .class_ 20), (0, .nameAndType 8 21), (0, u "com/example/meerkat/meerkat/ExpansionFile"), (0, u "Lcom/example/meerkat/meerkat/ExpansionFile$Kind;"), (0, .string 23), (0, u "url"), (0, .class_ 25), (0, u "java/lang/String"), (0, .fieldref 18 27), (0, .nameAndType 23 28), (0, u "Ljava/lang/String;"), (0, .string 30), (0, u "fileName"), (0, .fieldref 18 32), (0, .nameAndType 30 28), (0, .fieldref 18 34), (0, .nameAndType 35 36), (0, u "size"), (0, u "J"), (36, u "(Lcom/example/meerkat/meerkat/ExpansionFile$Kind;Ljava/lang/String;Ljava/lang/String;J)V"), (5, u "(Ljava/lang/Object;)Z"), (6, .methodref 24 87), (0, .nameAndType 88 79), (0, u "equals"), (22, u "UNKNOWN_SIZE")] 37

def k2c0 : Code := { maxStack := 3, maxLocals := 6, code := prog_17_method_1_code, exceptionTable := #[], attributes := #[] }
def k2m0 : Method := { name := "<init>", desc := "(Lcom/example/meerkat/meerkat/ExpansionFile$Kind;Ljava/lang/String;Ljava/lang/String;J)V", sig := { parameters := [(.object "com/example/meerkat/meerkat/ExpansionFile$Kind"), (.object "java/lang/String"), (.object "java/lang/String"), .long], returnType := none }, accessFlags := 0, code := some k2c0 }
def k2c1 : Code := { maxStack := 4, maxLocals := 3, code := prog_17_method_7_code, exceptionTable := #[], attributes := #[] }
def k2m1 : Method := { name := "equals", desc := "(Ljava/lang/Object;)Z", sig := { parameters := [(.object "java/lang/Object")], returnType := some .boolean }, accessFlags := 1, code := some k2c1 }
/-- com/example/meerkat/meerkat/ExpansionFile -/
def k2 : Class := { plain "com/example/meerkat/meerkat/ExpansionFile" (some 0) with
  accessFlags := 33
  interfaces := #[]
  cf := some (fileOf pool2 18 #[.nestMembers #[15]] #[{ accessFlags := 0, nameIndex := 5, descriptorIndex := 73, attributes := #[] }, { accessFlags := 1, nameIndex := 88, descriptorIndex := 79, attributes := #[] }] 33 2 #[] #[{ accessFlags := 25, nameIndex := 111, descriptorIndex := 36, attributes := #[] }, { accessFlags := 18, nameIndex := 8, descriptorIndex := 21, attributes := #[] }, { accessFlags := 18, nameIndex := 23, descriptorIndex := 28, attributes := #[] }, { accessFlags := 18, nameIndex := 30, descriptorIndex := 28, attributes := #[] }, { accessFlags := 18, nameIndex := 35, descriptorIndex := 36, attributes := #[] }])
  fields := #[{ name := "UNKNOWN_SIZE", type := .long, accessFlags := 25, slot := 0, constantValue := 0 }, { name := "kind", type := (.object "com/example/meerkat/meerkat/ExpansionFile$Kind"), accessFlags := 18, slot := 0, constantValue := 0 }, { name := "url", type := (.object "java/lang/String"), accessFlags := 18, slot := 1, constantValue := 0 }, { name := "fileName", type := (.object "java/lang/String"), accessFlags := 18, slot := 2, constantValue := 0 }, { name := "size", type := .long, accessFlags := 18, slot := 3, constantValue := 0 }]
  methods := #[k2m0, k2m1]
  instanceTypes := #[(.object "com/example/meerkat/meerkat/ExpansionFile$Kind"), (.object "java/lang/String"), (.object "java/lang/String"), .long]
  staticTypes := #[.long]
  resolved := Array.replicate 149 none
  statics := none }

def pool3 : Array CpInfo := pool [(1, .class_ 2), (0, u "java/lang/constant/Constable"), (0, .class_ 4), (0, u "java/lang/Object")] 6

/-- java/lang/constant/Constable -/
def k3 : Class := { plain "java/lang/constant/Constable" (some 0) with
  accessFlags := 1537
  interfaces := #[]
  cf := some (fileOf pool3 1 #[] #[] 1537 3 #[] #[])
  fields := #[]
  methods := #[]
  instanceTypes := #[]
  staticTypes := #[]
  resolved := Array.replicate 11 none
  statics := none }

def pool4 : Array CpInfo := pool [(1, .class_ 2), (0, u "java/lang/Comparable"), (0, .class_ 4), (0, u "java/lang/Object")] 7

/-- java/lang/Comparable -/
def k4 : Class := { plain "java/lang/Comparable" (some 0) with
  accessFlags := 1537
  interfaces := #[]
  cf := some (fileOf pool4 1 #[] #[] 1537 3 #[] #[])
  fields := #[]
  methods := #[]
  instanceTypes := #[]
  staticTypes := #[]
  resolved := Array.replicate 12 none
  statics := none }

def pool5 : Array CpInfo := pool [(1, .class_ 2), (0, u "java/io/Serializable"), (0, .class_ 4), (0, u "java/lang/Object")] 2

/-- java/io/Serializable -/
def k5 : Class := { plain "java/io/Serializable" (some 0) with
  accessFlags := 1537
  interfaces := #[]
  cf := some (fileOf pool5 1 #[] #[] 1537 3 #[] #[])
  fields := #[]
  methods := #[]
  instanceTypes := #[]
  staticTypes := #[]
  resolved := Array.replicate 7 none
  statics := none }

def pool6 : Array CpInfo := pool [(2, .class_ 4), (1, u "java/lang/Enum"), (0, u "name"), (0, u "Ljava/lang/String;"), (2, u "ordinal"), (0, u "I"), (1, .class_ 14), (1, u "java/lang/Object"), (4, u "hash"), (86, .class_ 108), (1, u "java/lang/Enum$EnumDesc"), (2, .class_ 112), (0, u "java/lang/constant/Constable"), (0, .class_ 114), (0, u "java/lang/Comparable"), (0, .class_ 116), (0, u "java/io/Serializable")] 87

/-- java/lang/Enum -/
def k6 : Class := { plain "java/lang/Enum" (some 0) with
  accessFlags := 1057
  interfaces := #[3, 4, 5]
  cf := some (fileOf pool6 2 #[.nestMembers #[106]] #[] 1057 12 #[111, 113, 115] #[{ accessFlags := 18, nameIndex := 5, descriptorIndex := 6, attributes := #[] }, { accessFlags := 18, nameIndex := 9, descriptorIndex := 10, attributes := #[] }, { accessFlags := 2, nameIndex := 19, descriptorIndex := 10, attributes := #[] }])
  fields := #[{ name := "name", type := (.object "java/lang/String"), accessFlags := 18, slot := 0, constantValue := 0 }, { name := "ordinal", type := .int, accessFlags := 18, slot := 1, constantValue := 0 }, { name := "hash", type := .int, accessFlags := 2, slot := 2, constantValue := 0 }]
  methods := #[]
  instanceTypes := #[(.object "java/lang/String"), .int, .int]
  staticTypes := #[]
  resolved := Array.replicate 204 none
  statics := none }

def pool7 : Array CpInfo := pool [(1, .class_ 2), (0, u "com/example/meerkat/meerkat/ExpansionFile$Kind"), (2, u "MAIN"), (0, u "Lcom/example/meerkat/meerkat/ExpansionFile$Kind;"), (2, u "PATCH"), (2, u "$VALUES"), (0, u "[Lcom/example/meerkat/meerkat/ExpansionFile$Kind;"), (6, .class_ 22), (1, u "java/lang/Enum"), (8, u "urlExtra"), (0, u "Ljava/lang/String;"), (2, u "fileNameExtra"), (2, u "sizeExtra"), (34, .class_ 74), (0, u "com/example/meerkat/meerkat/ExpansionFile")] 2

/-- com/example/meerkat/meerkat/ExpansionFile$Kind -/
def k7 : Class := { plain "com/example/meerkat/meerkat/ExpansionFile$Kind" (some 6) with
  accessFlags := 16433
  interfaces := #[]
  cf := some (fileOf pool7 1 #[.nestHost 73] #[] 16433 20 #[] #[{ accessFlags := 16409, nameIndex := 5, descriptorIndex := 6, attributes := #[] }, { accessFlags := 16409, nameIndex := 9, descriptorIndex := 6, attributes := #[] }, { accessFlags := 18, nameIndex := 31, descriptorIndex := 32, attributes := #[] }, { accessFlags := 18, nameIndex := 35, descriptorIndex := 32, attributes := #[] }, { accessFlags := 18, nameIndex := 38, descriptorIndex := 32, attributes := #[] }, { accessFlags := 4122, nameIndex := 12, descriptorIndex := 13, attributes := #[] }])
  fields := #[{ name := "MAIN", type := (.object "com/example/meerkat/meerkat/ExpansionFile$Kind"), accessFlags := 16409, slot := 0, constantValue := 0 }, { name := "PATCH", type := (.object "com/example/meerkat/meerkat/ExpansionFile$Kind"), accessFlags := 16409, slot := 1, constantValue := 0 }, { name := "urlExtra", type := (.object "java/lang/String"), accessFlags := 18, slot := 3, constantValue := 0 }, { name := "fileNameExtra", type := (.object "java/lang/String"), accessFlags := 18, slot := 4, constantValue := 0 }, { name := "sizeExtra", type := (.object "java/lang/String"), accessFlags := 18, slot := 5, constantValue := 0 }, { name := "$VALUES", type := (.array (.object "com/example/meerkat/meerkat/ExpansionFile$Kind")), accessFlags := 4122, slot := 2, constantValue := 0 }]
  methods := #[]
  instanceTypes := #[(.object "java/lang/String"), .int, .int, (.object "java/lang/String"), (.object "java/lang/String"), (.object "java/lang/String")]
  staticTypes := #[(.object "com/example/meerkat/meerkat/ExpansionFile$Kind"), (.object "com/example/meerkat/meerkat/ExpansionFile$Kind"), (.array (.object "com/example/meerkat/meerkat/ExpansionFile$Kind"))]
  resolved := Array.replicate 77 none
  statics := some 0 }

def pool8 : Array CpInfo := pool [(2, .class_ 4), (1, u "java/lang/CharSequence"), (42, .class_ 48), (0, u "java/lang/CharSequence$1CodePointIterator"), (10, .class_ 60), (0, u "java/lang/CharSequence$1CharIterator"), (5, .class_ 67), (0, u "java/lang/Object")] 63

/-- java/lang/CharSequence -/
def k8 : Class := { plain "java/lang/CharSequence" (some 0) with
  accessFlags := 1537
  interfaces := #[]
  cf := some (fileOf pool8 2 #[.nestMembers #[47, 59]] #[] 1537 66 #[] #[])
  fields := #[]
  methods := #[]
  instanceTypes := #[]
  staticTypes := #[]
  resolved := Array.replicate 131 none
  statics := none }

def pool9 : Array CpInfo := pool [(1, .class_ 2), (0, u "java/lang/constant/ConstantDesc"), (0, .class_ 4), (0, u "java/lang/Object")] 32

/-- java/lang/constant/ConstantDesc -/
def k9 : Class := { plain "java/lang/constant/ConstantDesc" (some 0) with
  accessFlags := 1537
  interfaces := #[]
  cf := some (fileOf pool9 1 #[] #[] 1537 3 #[] #[])
  fields := #[]
  methods := #[]
  instanceTypes := #[]
  staticTypes := #[]
  resolved := Array.replicate 37 none
  statics := none }

def pool10 : Array CpInfo := pool [(1, .methodref 2 3), (0, .class_ 4), (0, .nameAndType 5 6), (0, u "java/lang/Object"), (0, u "<init>"), (0, u "()V"), (2, .fieldref 10 11), (0, .class_ 12), (0, .nameAndType 13 14), (0, u "java/lang/String"), (0, u "value"), (0, u "[B"), (0, .fieldref 10 16), (0, .nameAndType 17 18), (0, u "coder"), (0, u "B"), (2, u "hash"), (0, u "I"), (2, u "hashIsZero"), (0, u "Z"), (0, .methodref 10 28), (0, .nameAndType 5 29), (0, u "([CIILjava/lang/Void;)V"), (8, .fieldref 10 39), (0, .nameAndType 40 26), (0, u "COMPACT_STRINGS"), (1, .class_ 44), (1, u "java/lang/StringUTF16"), (0, u "compress"), (1, .methodref 42 48), (0, .nameAndType 49 50), (0, u "coderFromArrayLen"), (0, u "([BI)B"), (2, u "toBytes"), (53, .class_ 109), (1, u "java/lang/StringLatin1"), (67, .methodref 42 178), (0, .nameAndType 45 179), (0, u "([CII)[B"), (29, .methodref 10 210), (0, .nameAndType 5 211), (0, u "([BB)V"), (157, u "(C)Z"), (171, .methodref 107 542), (0, .nameAndType 543 544), (0, u "equals"), (0, u "([B[B)Z"), (28, u "(Ljava/lang/Object;)Z"), (1, .class_ 576), (0, u "java/lang/CharSequence"), (22, u "CASE_INSENSITIVE_ORDER"), (0, u "Ljava/util/Comparator;"), (181, u "valueOf"), (0, u "(C)Ljava/lang/String;"), (226, u "([C)V"), (4, .methodref 107 1016), (0, .nameAndType 1017 369), (0, u "canEncode"), (0, .methodref 107 1019), (0, .nameAndType 53 1020), (0, u "(C)[B"), (80, u "serialPersistentFields"), (0, u "[Ljava/io/ObjectStreamField;"), (0, .class_ 1104), (0, u "java/lang/String$CaseInsensitiveComparator"), (1, .class_ 1107), (0, u "java/io/Serializable"), (0, .class_ 1109), (0, u "java/lang/Comparable"), (0, .class_ 1111), (0, u "java/lang/constant/Constable"), (0, .class_ 1113), (0, u "java/lang/constant/ConstantDesc"), (2, u "serialVersionUID"), (0, u "J"), (3, u "REPL"), (0, u "C"), (2, u "LATIN1"), (1, u "UTF16")] 323

def k10m0 : Method := { name := "<init>", desc := "()V", sig := { parameters := [], returnType := none }, accessFlags := 1, code := none }
def k10c1 : Code := { maxStack := 5, maxLocals := 2, code := jdk_42_method_3_code, exceptionTable := #[], attributes := #[] }
def k10m1 : Method := { name := "<init>", desc := "([C)V", sig := { parameters := [(.array .char)], returnType := none }, accessFlags := 1, code := some k10c1 }
def k10c2 : Code := { maxStack := 2, maxLocals := 3, code := jdk_42_method_66_code, exceptionTable := #[], attributes := #[] }
def k10m2 : Method := { name := "equals", desc := "(Ljava/lang/Object;)Z", sig := { parameters := [(.object "java/lang/Object")], returnType := some .boolean }, accessFlags := 1, code := some k10c2 }
def k10c3 : Code := { maxStack := 4, maxLocals := 1, code := jdk_42_method_139_code, exceptionTable := #[], attributes := #[] }
def k10m3 : Method := { name := "valueOf", desc := "(C)Ljava/lang/String;", sig := { parameters := [.char], returnType := some (.object "java/lang/String") }, accessFlags := 9, code := some k10c3 }
def k10c4 : Code := { maxStack := 4, maxLocals := 6, code := jdk_42_method_149_code, exceptionTable := #[], attributes := #[] }
def k10m4 : Method := { name := "<init>", desc := "([CIILjava/lang/Void;)V", sig := { parameters := [(.array .char), .int, .int, (.object "java/lang/Void")], returnType := none }, accessFlags := 2, code := some k10c4 }
def k10c5 : Code := { maxStack := 2, maxLocals := 3, code := jdk_42_method_151_code, exceptionTable := #[], attributes := #[] }
def k10m5 : Method := { name := "<init>", desc := "([BB)V", sig := { parameters := [(.array .byte), .byte], returnType := none }, accessFlags := 0, code := some k10c5 }
/-- java/lang/String -/
def k10 : Class := { plain "java/lang/String" (some 0) with
  accessFlags := 49
  interfaces := #[5, 4, 8, 3, 9]
  cf := some (fileOf pool10 10 #[.nestMembers #[1103]] #[{ accessFlags := 1, nameIndex := 5, descriptorIndex := 6, attributes := #[] }, { accessFlags := 1, nameIndex := 5, descriptorIndex := 1010, attributes := #[] }, { accessFlags := 1, nameIndex := 543, descriptorIndex := 573, attributes := #[] }, { accessFlags := 9, nameIndex := 782, descriptorIndex := 783, attributes := #[] }, { accessFlags := 2, nameIndex := 5, descriptorIndex := 29, attributes := #[] }, { accessFlags := 0, nameIndex := 5, descriptorIndex := 211, attributes := #[] }] 49 2 #[1106, 1108, 575, 1110, 1112] #[{ accessFlags := 18, nameIndex := 13, descriptorIndex := 14, attributes := #[] }, { accessFlags := 18, nameIndex := 17, descriptorIndex := 18, attributes := #[] }, { accessFlags := 2, nameIndex := 21, descriptorIndex := 22, attributes := #[] }, { accessFlags := 2, nameIndex := 25, descriptorIndex := 26, attributes := #[] }, { accessFlags := 26, nameIndex := 1116, descriptorIndex := 1117, attributes := #[] }, { accessFlags := 24, nameIndex := 40, descriptorIndex := 26, attributes := #[] }, { accessFlags := 26, nameIndex := 1101, descriptorIndex := 1102, attributes := #[] }, { accessFlags := 26, nameIndex := 1121, descriptorIndex := 1122, attributes := #[] }, { accessFlags := 25, nameIndex := 599, descriptorIndex := 600, attributes := #[] }, { accessFlags := 24, nameIndex := 1125, descriptorIndex := 18, attributes := #[] }, { accessFlags := 24, nameIndex := 1127, descriptorIndex := 18, attributes := #[] }])
  fields := #[{ name := "value", type := (.array .byte), accessFlags := 18, slot := 0, constantValue := 0 }, { name := "coder", type := .byte, accessFlags := 18, slot := 1, constantValue := 0 }, { name := "hash", type := .int, accessFlags := 2, slot := 2, constantValue := 0 }, { name := "hashIsZero", type := .boolean, accessFlags := 2, slot := 3, constantValue := 0 }, { name := "serialVersionUID", type := .long, accessFlags := 26, slot := 0, constantValue := 0 }, { name := "COMPACT_STRINGS", type := .boolean, accessFlags := 24, slot := 1, constantValue := 0 }, { name := "serialPersistentFields", type := (.array (.object "java/io/ObjectStreamField")), accessFlags := 26, slot := 2, constantValue := 0 }, { name := "REPL", type := .char, accessFlags := 26, slot := 3, constantValue := 0 }, { name := "CASE_INSENSITIVE_ORDER", type := (.object "java/util/Comparator"), accessFlags := 25, slot := 4, constantValue := 0 }, { name := "LATIN1", type := .byte, accessFlags := 24, slot := 5, constantValue := 0 }, { name := "UTF16", type := .byte, accessFlags := 24, slot := 6, constantValue := 0 }]
  methods := #[k10m0, k10m1, k10m2, k10m3, k10m4, k10m5]
  instanceTypes := #[(.array .byte), .byte, .int, .boolean]
  staticTypes := #[.long, .boolean, (.array (.object "java/io/ObjectStreamField")), .char, (.object "java/util/Comparator"), .byte, .byte]
  resolved := Array.replicate 1451 none
  statics := some 1 }

def pool11 : Array CpInfo := pool [(2, .class_ 4), (1, u "java/lang/Object"), (0, u "<init>"), (0, u "()V"), (35, .class_ 44), (1, u "java/util/Objects"), (0, u "requireNonNull"), (48, u "(Ljava/lang/Object;Ljava/lang/String;)Ljava/lang/Object;")] 89

def k11m0 : Method := { name := "<init>", desc := "()V", sig := { parameters := [], returnType := none }, accessFlags := 2, code := none }
def k11c1 : Code := { maxStack := 3, maxLocals := 2, code := jdk_31_method_11_code, exceptionTable := #[], attributes := #[] }
def k11m1 : Method := { name := "requireNonNull", desc := "(Ljava/lang/Object;Ljava/lang/String;)Ljava/lang/Object;", sig := { parameters := [(.object "java/lang/Object"), (.object "java/lang/String")], returnType := some (.object "java/lang/Object") }, accessFlags := 9, code := some k11c1 }
/-- java/util/Objects -/
def k11 : Class := { plain "java/util/Objects" (some 0) with
  accessFlags := 49
  interfaces := #[]
  cf := some (fileOf pool11 42 #[] #[{ accessFlags := 2, nameIndex := 5, descriptorIndex := 6, attributes := #[] }, { accessFlags := 9, nameIndex := 45, descriptorIndex := 94, attributes := #[] }] 49 2 #[] #[])
  fields := #[]
  methods := #[k11m0, k11m1]
  instanceTypes := #[]
  staticTypes := #[]
  resolved := Array.replicate 184 none
  statics := none }

def pool12 : Array CpInfo := pool [(6, .class_ 8), (1, u "java/lang/Object"), (0, u "<init>"), (0, u "()V"), (1, .class_ 14), (1, u "java/lang/StringUTF16"), (31, u "$assertionsDisabled"), (0, u "Z"), (13, u "HI_BYTE_SHIFT"), (0, u "I"), (2, u "LO_BYTE_SHIFT"), (49, .methodref 12 116), (0, .nameAndType 117 118), (0, u "compress"), (0, u "([CI[BII)I"), (3, u "([CII)[B"), (138, u "coderFromArrayLen"), (0, u "([BI)B"), (106, .class_ 371), (1, u "java/lang/StringUTF16$LinesSpliterator"), (58, u "MAX_LENGTH"), (196, .class_ 628), (0, u "java/lang/StringUTF16$CodePointsSpliterator"), (0, .class_ 630), (0, u "java/lang/StringUTF16$CharsSpliterator")] 4

def k12m0 : Method := { name := "<init>", desc := "()V", sig := { parameters := [], returnType := none }, accessFlags := 0, code := none }
def k12c1 : Code := { maxStack := 2, maxLocals := 2, code := jdk_52_method_15_code, exceptionTable := #[], attributes := #[] }
def k12m1 : Method := { name := "coderFromArrayLen", desc := "([BI)B", sig := { parameters := [(.array .byte), .int], returnType := some .byte }, accessFlags := 8, code := some k12c1 }
def k12c2 : Code := { maxStack := 5, maxLocals := 6, code := jdk_52_method_16_code, exceptionTable := #[], attributes := #[] }
def k12m2 : Method := { name := "compress", desc := "([CII)[B", sig := { parameters := [(.array .char), .int, .int], returnType := some (.array .byte) }, accessFlags := 9, code := some k12c2 }
def k12c3 : Code := { maxStack := 3, maxLocals := 7, code := jdk_52_method_21_code, exceptionTable := #[], attributes := #[] }
def k12m3 : Method := { name := "compress", desc := "([CI[BII)I", sig := { parameters := [(.array .char), .int, (.array .byte), .int, .int], returnType := some .int }, accessFlags := 9, code := some k12c3 }
/-- java/lang/StringUTF16 -/
def k12 : Class := { plain "java/lang/StringUTF16" (some 0) with
  accessFlags := 48
  interfaces := #[]
  cf := some (fileOf pool12 12 #[.nestMembers #[627, 629, 369]] #[{ accessFlags := 0, nameIndex := 9, descriptorIndex := 10, attributes := #[] }, { accessFlags := 8, nameIndex := 261, descriptorIndex := 262, attributes := #[] }, { accessFlags := 9, nameIndex := 117, descriptorIndex := 122, attributes := #[] }, { accessFlags := 9, nameIndex := 117, descriptorIndex := 118, attributes := #[] }] 48 6 #[] #[{ accessFlags := 26, nameIndex := 61, descriptorIndex := 62, attributes := #[] }, { accessFlags := 26, nameIndex := 65, descriptorIndex := 62, attributes := #[] }, { accessFlags := 24, nameIndex := 430, descriptorIndex := 62, attributes := #[] }, { accessFlags := 4120, nameIndex := 46, descriptorIndex := 47, attributes := #[] }])
  fields := #[{ name := "HI_BYTE_SHIFT", type := .int, accessFlags := 26, slot := 0, constantValue := 0 }, { name := "LO_BYTE_SHIFT", type := .int, accessFlags := 26, slot := 1, constantValue := 0 }, { name := "MAX_LENGTH", type := .int, accessFlags := 24, slot := 2, constantValue := 0 }, { name := "$assertionsDisabled", type := .boolean, accessFlags := 4120, slot := 3, constantValue := 0 }]
  methods := #[k12m0, k12m1, k12m2, k12m3]
  instanceTypes := #[]
  staticTypes := #[.int, .int, .int, .boolean]
  resolved := Array.replicate 635 none
  statics := none }

def pool13 : Array CpInfo := pool [(4, .class_ 6), (1, u "java/lang/Object"), (0, u "<init>"), (0, u "()V"), (5, .class_ 16), (1, u "java/lang/StringLatin1"), (73, u "canEncode"), (14, u "(C)Z"), (15, u "$assertionsDisabled"), (0, u "Z"), (98, .class_ 223), (1, u "java/lang/StringLatin1$LinesSpliterator"), (57, u "equals"), (0, u "([B[B)Z"), (97, u "toBytes"), (1, u "(C)[B"), (7, .class_ 391), (0, u "java/lang/StringLatin1$CharsSpliterator")] 3

def k13m0 : Method := { name := "<init>", desc := "()V", sig := { parameters := [], returnType := none }, accessFlags := 0, code := none }
def k13c1 : Code := { maxStack := 2, maxLocals := 1, code := jdk_43_method_3_code, exceptionTable := #[], attributes := #[] }
def k13m1 : Method := { name := "canEncode", desc := "(C)Z", sig := { parameters := [.char], returnType := some .boolean }, accessFlags := 9, code := some k13c1 }
def k13c2 : Code := { maxStack := 3, maxLocals := 3, code := jdk_43_method_13_code, exceptionTable := #[], attributes := #[] }
def k13m2 : Method := { name := "equals", desc := "([B[B)Z", sig := { parameters := [(.array .byte), (.array .byte)], returnType := some .boolean }, accessFlags := 9, code := some k13c2 }
def k13c3 : Code := { maxStack := 4, maxLocals := 1, code := jdk_43_method_46_code, exceptionTable := #[], attributes := #[] }
def k13m3 : Method := { name := "toBytes", desc := "(C)[B", sig := { parameters := [.char], returnType := some (.array .byte) }, accessFlags := 9, code := some k13c3 }
/-- java/lang/StringLatin1 -/
def k13 : Class := { plain "java/lang/StringLatin1" (some 0) with
  accessFlags := 48
  interfaces := #[]
  cf := some (fileOf pool13 14 #[.nestMembers #[390, 221]] #[{ accessFlags := 0, nameIndex := 7, descriptorIndex := 8, attributes := #[] }, { accessFlags := 9, nameIndex := 90, descriptorIndex := 105, attributes := #[] }, { accessFlags := 9, nameIndex := 281, descriptorIndex := 282, attributes := #[] }, { accessFlags := 9, nameIndex := 380, descriptorIndex := 382, attributes := #[] }] 48 4 #[] #[{ accessFlags := 4120, nameIndex := 121, descriptorIndex := 122, attributes := #[] }])
  fields := #[{ name := "$assertionsDisabled", type := .boolean, accessFlags := 4120, slot := 0, constantValue := 0 }]
  methods := #[k13m0, k13m1, k13m2, k13m3]
  instanceTypes := #[]
  staticTypes := #[.boolean]
  resolved := Array.replicate 395 none
  statics := none }

def pool14 : Array CpInfo := pool [(2, .class_ 4), (1, u "java/lang/Object"), (0, u "<init>"), (0, u "()V"), (17, .class_ 26), (1, u "jdk/internal/util/Preconditions"), (28, .class_ 56), (0, u "jdk/internal/util/Preconditions$4"), (57, .class_ 115), (0, u "jdk/internal/util/Preconditions$1"), (7, u "SIOOBE_FORMATTER"), (0, u "Ljava/util/function/BiFunction;"), (0, .class_ 126), (0, u "jdk/internal/util/Preconditions$2"), (3, u "AIOOBE_FORMATTER"), (0, .class_ 132), (0, u "jdk/internal/util/Preconditions$3"), (3, u "IOOBE_FORMATTER")] 57

def k14m0 : Method := { name := "<init>", desc := "()V", sig := { parameters := [], returnType := none }, accessFlags := 1, code := none }
/-- jdk/internal/util/Preconditions -/
def k14 : Class := { plain "jdk/internal/util/Preconditions" (some 0) with
  accessFlags := 33
  interfaces := #[]
  cf := some (fileOf pool14 24 #[.nestMembers #[55, 131, 125, 114]] #[{ accessFlags := 1, nameIndex := 5, descriptorIndex := 6, attributes := #[] }] 33 2 #[] #[{ accessFlags := 25, nameIndex := 123, descriptorIndex := 124, attributes := #[] }, { accessFlags := 25, nameIndex := 130, descriptorIndex := 124, attributes := #[] }, { accessFlags := 25, nameIndex := 136, descriptorIndex := 124, attributes := #[] }])
  fields := #[{ name := "SIOOBE_FORMATTER", type := (.object "java/util/function/BiFunction"), accessFlags := 25, slot := 0, constantValue := 0 }, { name := "AIOOBE_FORMATTER", type := (.object "java/util/function/BiFunction"), accessFlags := 25, slot := 1, constantValue := 0 }, { name := "IOOBE_FORMATTER", type := (.object "java/util/function/BiFunction"), accessFlags := 25, slot := 2, constantValue := 0 }]
  methods := #[k14m0]
  instanceTypes := #[]
  staticTypes := #[(.object "java/util/function/BiFunction"), (.object "java/util/function/BiFunction"), (.object "java/util/function/BiFunction")]
  resolved := Array.replicate 194 none
  statics := some 2 }

def pool15 : Array CpInfo := pool [(9, u "<init>"), (6, .class_ 18), (1, u "java/lang/Object"), (0, u "()V"), (1, .class_ 23), (1, u "jdk/internal/util/ArraysSupport"), (0, u "LOG2_ARRAY_LONG_INDEX_SCALE"), (0, u "I"), (2, u "U"), (0, u "Ljdk/internal/misc/Unsafe;"), (8, u "BIG_ENDIAN"), (0, u "Z"), (8, u "LOG2_BYTE_BIT_SIZE"), (4, u "LOG2_ARRAY_INT_INDEX_SCALE"), (54, u "JLA"), (0, u "Ljdk/internal/access/JavaLangAccess;"), (11, u "LOG2_ARRAY_BOOLEAN_INDEX_SCALE"), (9, u "LOG2_ARRAY_BYTE_INDEX_SCALE"), (5, u "LOG2_ARRAY_CHAR_INDEX_SCALE"), (5, u "LOG2_ARRAY_SHORT_INDEX_SCALE"), (18, u "LOG2_ARRAY_FLOAT_INDEX_SCALE"), (24, u "LOG2_ARRAY_DOUBLE_INDEX_SCALE"), (89, u "T_BOOLEAN"), (2, u "T_CHAR"), (1, u "T_FLOAT"), (1, u "T_DOUBLE"), (1, u "T_BYTE"), (1, u "T_SHORT"), (1, u "T_INT"), (1, u "T_LONG"), (1, u "SOFT_MAX_ARRAY_LENGTH")] 83

def k15m0 : Method := { name := "<init>", desc := "()V", sig := { parameters := [], returnType := none }, accessFlags := 2, code := none }
/-- jdk/internal/util/ArraysSupport -/
def k15 : Class := { plain "jdk/internal/util/ArraysSupport" (some 0) with
  accessFlags := 33
  interfaces := #[]
  cf := some (fileOf pool15 21 #[] #[{ accessFlags := 2, nameIndex := 9, descriptorIndex := 19, attributes := #[] }] 33 16 #[] #[{ accessFlags := 24, nameIndex := 28, descriptorIndex := 29, attributes := #[] }, { accessFlags := 26, nameIndex := 38, descriptorIndex := 39, attributes := #[] }, { accessFlags := 25, nameIndex := 121, descriptorIndex := 25, attributes := #[] }, { accessFlags := 25, nameIndex := 131, descriptorIndex := 25, attributes := #[] }, { accessFlags := 25, nameIndex := 137, descriptorIndex := 25, attributes := #[] }, { accessFlags := 25, nameIndex := 143, descriptorIndex := 25, attributes := #[] }, { accessFlags := 25, nameIndex := 53, descriptorIndex := 25, attributes := #[] }, { accessFlags := 25, nameIndex := 24, descriptorIndex := 25, attributes := #[] }, { accessFlags := 25, nameIndex := 162, descriptorIndex := 25, attributes := #[] }, { accessFlags := 25, nameIndex := 187, descriptorIndex := 25, attributes := #[] }, { accessFlags := 26, nameIndex := 48, descriptorIndex := 25, attributes := #[] }, { accessFlags := 25, nameIndex := 277, descriptorIndex := 25, attributes := #[] }, { accessFlags := 25, nameIndex := 280, descriptorIndex := 25, attributes := #[] }, { accessFlags := 25, nameIndex := 282, descriptorIndex := 25, attributes := #[] }, { accessFlags := 25, nameIndex := 284, descriptorIndex := 25, attributes := #[] }, { accessFlags := 25, nameIndex := 286, descriptorIndex := 25, attributes := #[] }, { accessFlags := 25, nameIndex := 288, descriptorIndex := 25, attributes := #[] }, { accessFlags := 25, nameIndex := 290, descriptorIndex := 25, attributes := #[] }, { accessFlags := 25, nameIndex := 292, descriptorIndex := 25, attributes := #[] }, { accessFlags := 26, nameIndex := 108, descriptorIndex := 109, attributes := #[] }, { accessFlags := 25, nameIndex := 294, descriptorIndex := 25, attributes := #[] }])
  fields := #[{ name := "U", type := (.object "jdk/internal/misc/Unsafe"), accessFlags := 24, slot := 0, constantValue := 0 }, { name := "BIG_ENDIAN", type := .boolean, accessFlags := 26, slot := 1, constantValue := 0 }, { name := "LOG2_ARRAY_BOOLEAN_INDEX_SCALE", type := .int, accessFlags := 25, slot := 2, constantValue := 0 }, { name := "LOG2_ARRAY_BYTE_INDEX_SCALE", type := .int, accessFlags := 25, slot := 3, constantValue := 0 }, { name := "LOG2_ARRAY_CHAR_INDEX_SCALE", type := .int, accessFlags := 25, slot := 4, constantValue := 0 }, { name := "LOG2_ARRAY_SHORT_INDEX_SCALE", type := .int, accessFlags := 25, slot := 5, constantValue := 0 }, { name := "LOG2_ARRAY_INT_INDEX_SCALE", type := .int, accessFlags := 25, slot := 6, constantValue := 0 }, { name := "LOG2_ARRAY_LONG_INDEX_SCALE", type := .int, accessFlags := 25, slot := 7, constantValue := 0 }, { name := "LOG2_ARRAY_FLOAT_INDEX_SCALE", type := .int, accessFlags := 25, slot := 8, constantValue := 0 }, { name := "LOG2_ARRAY_DOUBLE_INDEX_SCALE", type := .int, accessFlags := 25, slot := 9, constantValue := 0 }, { name := "LOG2_BYTE_BIT_SIZE", type := .int, accessFlags := 26, slot := 10, constantValue := 0 }, { name := "T_BOOLEAN", type := .int, accessFlags := 25, slot := 11, constantValue := 0 }, { name := "T_CHAR", type := .int, accessFlags := 25, slot := 12, constantValue := 0 }, { name := "T_FLOAT", type := .int, accessFlags := 25, slot := 13, constantValue := 0 }, { name := "T_DOUBLE", type := .int, accessFlags := 25, slot := 14, constantValue := 0 }, { name := "T_BYTE", type := .int, accessFlags := 25, slot := 15, constantValue := 0 }, { name := "T_SHORT", type := .int, accessFlags := 25, slot := 16, constantValue := 0 }, { name := "T_INT", type := .int, accessFlags := 25, slot := 17, constantValue := 0 }, { name := "T_LONG", type := .int, accessFlags := 25, slot := 18, constantValue := 0 }, { name := "JLA", type := (.object "jdk/internal/access/JavaLangAccess"), accessFlags := 26, slot := 19, constantValue := 0 }, { name := "SOFT_MAX_ARRAY_LENGTH", type := .int, accessFlags := 25, slot := 20, constantValue := 0 }]
  methods := #[k15m0]
  instanceTypes := #[]
  staticTypes := #[(.object "jdk/internal/misc/Unsafe"), .boolean, .int, .int, .int, .int, .int, .int, .int, .int, .int, .int, .int, .int, .int, .int, .int, .int, .int, (.object "jdk/internal/access/JavaLangAccess"), .int]
  resolved := Array.replicate 378 none
  statics := none }

def pool16 : Array CpInfo := pool [(1, u "java/lang/Cloneable"), (0, .class_ 1), (0, u "java/lang/Object"), (0, .class_ 3)] 3

/-- java/lang/Cloneable -/
def k16 : Class := { plain "java/lang/Cloneable" (some 0) with
  accessFlags := 1537
  interfaces := #[]
  cf := some (fileOf pool16 2 #[] #[] 1537 4 #[] #[])
  fields := #[]
  methods := #[]
  instanceTypes := #[]
  staticTypes := #[]
  resolved := Array.replicate 8 none
  statics := none }

/-- the primitive byte -/
def k17 : Class := { plain "byte" none with kind := .primitive 'B', accessFlags := 0x411 }
/-- [B -/
def k18 : Class := { plain "[B" (some 0) with kind := .array 17 .byte, interfaces := #[16, 5], accessFlags := 1041 }

/-- the primitive char -/
def k19 : Class := { plain "char" none with kind := .primitive 'C', accessFlags := 0x411 }
/-- [C -/
def k20 : Class := { plain "[C" (some 0) with kind := .array 19 .char, interfaces := #[16, 5], accessFlags := 1041 }

/-- the primitive int -/
def k21 : Class := { plain "int" none with kind := .primitive 'I', accessFlags := 0x411 }
/-- [I -/
def k22 : Class := { plain "[I" (some 0) with kind := .array 21 .int, interfaces := #[16, 5], accessFlags := 1041 }

def heap : Heap := #[{ cls := 7, slots := #[.ref 3, .ref 4, .null], vm := .statics 7 },
  { cls := 10, slots := #[.long 0, .int 1, .null, .int 0, .null, .int 0, .int 0], vm := .statics 10 },
  { cls := 14, slots := #[.null, .null, .null], vm := .statics 14 },
  { cls := 7, slots := #[.null, .int 0, .int 0, .null, .null, .null], vm := .none },
  { cls := 7, slots := #[.null, .int 1, .int 0, .null, .null, .null], vm := .none }]
def classes : Array Class := #[k0, k1, k2, k3, k4, k5, k6, k7, k8, k9, k10, k11, k12, k13, k14, k15, k16, k17, k18, k19, k20, k21, k22]
def interned : List (Array UInt16 × Addr) := []
def slotsUsed : Nat := 25
def theMethod : MethodId := ⟨1, 1⟩
def args0 : Array Value := #[.int 5, .int 6, .int 7, .int 8, .long 9, .long 10]
def aboutOver (below : List Frame) : State where
  vm := { classes := classes, interned := interned.toArray }
  heap := heap
  slotsUsed := slotsUsed
  threads := #[{ frames := .invoking theMethod args0 :: below }]
def below0 : List Frame := [.native { method := ⟨0, 0⟩, args := #[] }]
def about1 : State := aboutOver below0
def p0 : Program := .bare "" "" ""
def e0 : Env := launch0.env 0 0 0
theorem w_frames : about1.frames = Frame.invoking theMethod args0 :: below0 := rfl
set_option maxRecDepth 65536 in
theorem w_args : argsFit about1.vm theMethod args0 = true := by decide +kernel
set_option maxRecDepth 65536 in
theorem w_heap : heapFits about1 = true := by decide +kernel
set_option maxRecDepth 65536 in
theorem w_runnable : about1.curStatus? = some .runnable := by decide +kernel
set_option maxRecDepth 65536 in
theorem w_alone : about1.alone = true := by decide +kernel
set_option maxRecDepth 65536 in
theorem w_named : about1.methodNamed? x = some theMethod := by decide +kernel
set_option maxRecDepth 65536 in
theorem w_hears : about1.hears theMethod below0 = true := by decide +kernel
set_option maxRecDepth 65536 in
theorem w_ripe : about1.ripe theMethod args0 below0 = true := by decide +kernel
theorem w_running : about1.status = .running := rfl
set_option maxRecDepth 65536 in
theorem w_room : about1.hasRoom e0.platform room_1 = true :=
  launch0.hasRoom_least _ room_1 (by decide +kernel) (by decide +kernel) (by decide +kernel) (by decide +kernel) (by decide +kernel) (by decide +kernel)
theorem allAtoms_all (ts : List Jvm.Cond) (a : Array Jvm.Value) (st : Jvm.State) : (allAtoms ts).before a st = ts.all (fun c => c.before a st) := by
  induction ts with
  | nil => rfl
  | cons c t ih =>
    show (Jvm.Cond.and c (allAtoms t)).before a st = _
    rw [Jvm.Cond.before_and, ih, List.all_cons]
def words1 : List Jvm.Cond := Jvm.Cond.code x code maxLocals ret :: tables_1
/-- a 'code' word, met by the world's own term for the bytes: nothing is compared byte by byte -/
theorem code_word {y : MethodName} {bytes : ByteArray} {mx : Nat} {rt : Option FieldType} {a : Array Value} {s : State} {m : MethodId} {meth : Method} {c : Code} (h1 : s.methodNamed? y = some m) (h2 : s.vm.method? m = some meth) (h3 : meth.code = some c) (h4 : c.code = bytes)
    (h5 : (c.maxLocals == mx && c.exceptionTable.isEmpty && decide (c.maxStack ≤ mostOperands) && decide (meth.sig.returnType = rt) && !meth.locks && decide (parseMethodDescriptor y.desc = some meth.sig)) = true) : (Jvm.Cond.code y bytes mx rt).before a s = true := by
  simp only [Bool.and_eq_true, beq_iff_eq, Bool.not_eq_true', decide_eq_true_eq] at h5
  obtain ⟨⟨⟨⟨⟨g1, g2⟩, g3⟩, g4⟩, g5⟩, g6⟩ := h5
  simp [Cond.before, Cond.holds, Cond.value, h1, h2, h3, h4, g1, g2, g3, g4, g5, g6]
def isCode : Jvm.Cond → Bool
  | .code _ _ _ _ => true
  | _ => false
theorem all_split {L : List Jvm.Cond} {P : Jvm.Cond → Bool} (h1 : L.all (fun c => isCode c || P c) = true) (h2 : ∀ c ∈ L.filter isCode, P c = true) : L.all P = true := by
  refine List.all_eq_true.mpr fun c hc => ?_
  have h := List.all_eq_true.mp h1 c hc
  rcases Bool.eq_false_or_eq_true (isCode c) with hi | hi
  · exact h2 c (List.mem_filter.mpr ⟨hc, hi⟩)
  · simpa [hi] using h
set_option maxRecDepth 65536 in
theorem w_c0 : (Jvm.Cond.code x code maxLocals ret).before args0 about1 = true := code_word (m := ⟨1, 1⟩) (meth := k1m1) (c := k1c1) (by decide +kernel) rfl rfl rfl (by decide +kernel)
set_option maxRecDepth 65536 in
theorem w_c1 : (Jvm.Cond.code ({ cls := "com/example/meerkat/meerkat/ExpansionFileEqualsPinLaw", name := "kindOf", desc := "(I)Lcom/example/meerkat/meerkat/ExpansionFile$Kind;" } : Jvm.MethodName) method_3_code (1 : Nat) (Option.some (Jvm.ClassFile.FieldType.object "com/example/meerkat/meerkat/ExpansionFile$Kind"))).before args0 about1 = true := code_word (m := ⟨1, 2⟩) (meth := k1m2) (c := k1c2) (by decide +kernel) rfl rfl rfl (by decide +kernel)
set_option maxRecDepth 65536 in
theorem w_c2 : (Jvm.Cond.code ({ cls := "com/example/meerkat/meerkat/ExpansionFileEqualsPinLaw", name := "str", desc := "(I)Ljava/lang/String;" } : Jvm.MethodName) method_7_code (3 : Nat) (Option.some (Jvm.ClassFile.FieldType.object "java/lang/String"))).before args0 about1 = true := code_word (m := ⟨1, 6⟩) (meth := k1m6) (c := k1c6) (by decide +kernel) rfl rfl rfl (by decide +kernel)
set_option maxRecDepth 65536 in
theorem w_c3 : (Jvm.Cond.code ({ cls := "com/example/meerkat/meerkat/ExpansionFileEqualsPinLaw", name := "len", desc := "(I)I" } : Jvm.MethodName) method_4_code (1 : Nat) (Option.some Jvm.ClassFile.FieldType.int)).before args0 about1 = true := code_word (m := ⟨1, 3⟩) (meth := k1m3) (c := k1c3) (by decide +kernel) rfl rfl rfl (by decide +kernel)
set_option maxRecDepth 65536 in
theorem w_c4 : (Jvm.Cond.code ({ cls := "com/example/meerkat/meerkat/ExpansionFile", name := "<init>", desc := "(Lcom/example/meerkat/meerkat/ExpansionFile$Kind;Ljava/lang/String;Ljava/lang/String;J)V" } : Jvm.MethodName) prog_17_method_1_code (6 : Nat) (Option.none : Option Jvm.ClassFile.FieldType)).before args0 about1 = true := code_word (m := ⟨2, 0⟩) (meth := k2m0) (c := k2c0) (by decide +kernel) rfl rfl rfl (by decide +kernel)
set_option maxRecDepth 65536 in
theorem w_c5 : (Jvm.Cond.code ({ cls := "java/lang/Object", name := "<init>", desc := "()V" } : Jvm.MethodName) object_method_1_code (1 : Nat) (Option.none : Option Jvm.ClassFile.FieldType)).before args0 about1 = true := code_word (m := ⟨0, 0⟩) (meth := k0m0) (c := k0c0) (by decide +kernel) rfl rfl rfl (by decide +kernel)
set_option maxRecDepth 65536 in
theorem w_c6 : (Jvm.Cond.code ({ cls := "java/util/Objects", name := "requireNonNull", desc := "(Ljava/lang/Object;Ljava/lang/String;)Ljava/lang/Object;" } : Jvm.MethodName) jdk_31_method_11_code (2 : Nat) (Option.some (Jvm.ClassFile.FieldType.object "java/lang/Object"))).before args0 about1 = true := code_word (m := ⟨11, 1⟩) (meth := k11m1) (c := k11c1) (by decide +kernel) rfl rfl rfl (by decide +kernel)
set_option maxRecDepth 65536 in
theorem w_c7 : (Jvm.Cond.code ({ cls := "com/example/meerkat/meerkat/ExpansionFileEqualsPinLaw", name := "c0", desc := "(I)I" } : Jvm.MethodName) method_5_code (1 : Nat) (Option.some Jvm.ClassFile.FieldType.int)).before args0 about1 = true := code_word (m := ⟨1, 4⟩) (meth := k1m4) (c := k1c4) (by decide +kernel) rfl rfl rfl (by decide +kernel)
set_option maxRecDepth 65536 in
theorem w_c8 : (Jvm.Cond.code ({ cls := "com/example/meerkat/meerkat/ExpansionFileEqualsPinLaw", name := "c1", desc := "(I)I" } : Jvm.MethodName) method_6_code (1 : Nat) (Option.some Jvm.ClassFile.FieldType.int)).before args0 about1 = true := code_word (m := ⟨1, 5⟩) (meth := k1m5) (c := k1c5) (by decide +kernel) rfl rfl rfl (by decide +kernel)
set_option maxRecDepth 65536 in
theorem w_c9 : (Jvm.Cond.code ({ cls := "java/lang/String", name := "<init>", desc := "([C)V" } : Jvm.MethodName) jdk_42_method_3_code (2 : Nat) (Option.none : Option Jvm.ClassFile.FieldType)).before args0 about1 = true := code_word (m := ⟨10, 1⟩) (meth := k10m1) (c := k10c1) (by decide +kernel) rfl rfl rfl (by decide +kernel)
set_option maxRecDepth 65536 in
theorem w_c10 : (Jvm.Cond.code ({ cls := "java/lang/String", name := "<init>", desc := "([CIILjava/lang/Void;)V" } : Jvm.MethodName) jdk_42_method_149_code (6 : Nat) (Option.none : Option Jvm.ClassFile.FieldType)).before args0 about1 = true := code_word (m := ⟨10, 4⟩) (meth := k10m4) (c := k10c4) (by decide +kernel) rfl rfl rfl (by decide +kernel)
set_option maxRecDepth 65536 in
theorem w_c11 : (Jvm.Cond.code ({ cls := "java/lang/StringUTF16", name := "compress", desc := "([CII)[B" } : Jvm.MethodName) jdk_52_method_16_code (6 : Nat) (Option.some (Jvm.ClassFile.FieldType.array Jvm.ClassFile.FieldType.byte))).before args0 about1 = true := code_word (m := ⟨12, 2⟩) (meth := k12m2) (c := k12c2) (by decide +kernel) rfl rfl rfl (by decide +kernel)
set_option maxRecDepth 65536 in
theorem w_c12 : (Jvm.Cond.code ({ cls := "java/lang/StringUTF16", name := "compress", desc := "([CI[BII)I" } : Jvm.MethodName) jdk_52_method_21_code (7 : Nat) (Option.some Jvm.ClassFile.FieldType.int)).before args0 about1 = true := code_word (m := ⟨12, 3⟩) (meth := k12m3) (c := k12c3) (by decide +kernel) rfl rfl rfl (by decide +kernel)
set_option maxRecDepth 65536 in
theorem w_c13 : (Jvm.Cond.code ({ cls := "java/lang/StringUTF16", name := "coderFromArrayLen", desc := "([BI)B" } : Jvm.MethodName) jdk_52_method_15_code (2 : Nat) (Option.some Jvm.ClassFile.FieldType.byte)).before args0 about1 = true := code_word (m := ⟨12, 1⟩) (meth := k12m1) (c := k12c1) (by decide +kernel) rfl rfl rfl (by decide +kernel)
set_option maxRecDepth 65536 in
theorem w_c14 : (Jvm.Cond.code ({ cls := "java/lang/String", name := "valueOf", desc := "(C)Ljava/lang/String;" } : Jvm.MethodName) jdk_42_method_139_code (1 : Nat) (Option.some (Jvm.ClassFile.FieldType.object "java/lang/String"))).before args0 about1 = true := code_word (m := ⟨10, 3⟩) (meth := k10m3) (c := k10c3) (by decide +kernel) rfl rfl rfl (by decide +kernel)
set_option maxRecDepth 65536 in
theorem w_c15 : (Jvm.Cond.code ({ cls := "java/lang/StringLatin1", name := "canEncode", desc := "(C)Z" } : Jvm.MethodName) jdk_43_method_3_code (1 : Nat) (Option.some Jvm.ClassFile.FieldType.boolean)).before args0 about1 = true := code_word (m := ⟨13, 1⟩) (meth := k13m1) (c := k13c1) (by decide +kernel) rfl rfl rfl (by decide +kernel)
set_option maxRecDepth 65536 in
theorem w_c16 : (Jvm.Cond.code ({ cls := "java/lang/StringLatin1", name := "toBytes", desc := "(C)[B" } : Jvm.MethodName) jdk_43_method_46_code (1 : Nat) (Option.some (Jvm.ClassFile.FieldType.array Jvm.ClassFile.FieldType.byte))).before args0 about1 = true := code_word (m := ⟨13, 3⟩) (meth := k13m3) (c := k13c3) (by decide +kernel) rfl rfl rfl (by decide +kernel)
set_option maxRecDepth 65536 in
theorem w_c17 : (Jvm.Cond.code ({ cls := "java/lang/String", name := "<init>", desc := "([BB)V" } : Jvm.MethodName) jdk_42_method_151_code (3 : Nat) (Option.none : Option Jvm.ClassFile.FieldType)).before args0 about1 = true := code_word (m := ⟨10, 5⟩) (meth := k10m5) (c := k10c5) (by decide +kernel) rfl rfl rfl (by decide +kernel)
set_option maxRecDepth 65536 in
theorem w_c18 : (Jvm.Cond.code ({ cls := "com/example/meerkat/meerkat/ExpansionFileEqualsPinLaw", name := "sameStr", desc := "(II)Z" } : Jvm.MethodName) method_8_code (4 : Nat) (Option.some Jvm.ClassFile.FieldType.boolean)).before args0 about1 = true := code_word (m := ⟨1, 7⟩) (meth := k1m7) (c := k1c7) (by decide +kernel) rfl rfl rfl (by decide +kernel)
set_option maxRecDepth 65536 in
theorem w_c19 : (Jvm.Cond.code ({ cls := "com/example/meerkat/meerkat/ExpansionFile", name := "equals", desc := "(Ljava/lang/Object;)Z" } : Jvm.MethodName) prog_17_method_7_code (3 : Nat) (Option.some Jvm.ClassFile.FieldType.boolean)).before args0 about1 = true := code_word (m := ⟨2, 1⟩) (meth := k2m1) (c := k2c1) (by decide +kernel) rfl rfl rfl (by decide +kernel)
set_option maxRecDepth 65536 in
theorem w_c20 : (Jvm.Cond.code ({ cls := "java/lang/String", name := "equals", desc := "(Ljava/lang/Object;)Z" } : Jvm.MethodName) jdk_42_method_66_code (3 : Nat) (Option.some Jvm.ClassFile.FieldType.boolean)).before args0 about1 = true := code_word (m := ⟨10, 2⟩) (meth := k10m2) (c := k10c2) (by decide +kernel) rfl rfl rfl (by decide +kernel)
set_option maxRecDepth 65536 in
theorem w_c21 : (Jvm.Cond.code ({ cls := "java/lang/StringLatin1", name := "equals", desc := "([B[B)Z" } : Jvm.MethodName) jdk_43_method_13_code (3 : Nat) (Option.some Jvm.ClassFile.FieldType.boolean)).before args0 about1 = true := code_word (m := ⟨13, 2⟩) (meth := k13m2) (c := k13c2) (by decide +kernel) rfl rfl rfl (by decide +kernel)
def codes1 : List Jvm.Cond := [Jvm.Cond.code x code maxLocals ret, Jvm.Cond.code ({ cls := "com/example/meerkat/meerkat/ExpansionFileEqualsPinLaw", name := "kindOf", desc := "(I)Lcom/example/meerkat/meerkat/ExpansionFile$Kind;" } : Jvm.MethodName) method_3_code (1 : Nat) (Option.some (Jvm.ClassFile.FieldType.object "com/example/meerkat/meerkat/ExpansionFile$Kind")), Jvm.Cond.code ({ cls := "com/example/meerkat/meerkat/ExpansionFileEqualsPinLaw", name := "str", desc := "(I)Ljava/lang/String;" } : Jvm.MethodName) method_7_code (3 : Nat) (Option.some (Jvm.ClassFile.FieldType.object "java/lang/String")), Jvm.Cond.code ({ cls := "com/example/meerkat/meerkat/ExpansionFileEqualsPinLaw", name := "len", desc := "(I)I" } : Jvm.MethodName) method_4_code (1 : Nat) (Option.some Jvm.ClassFile.FieldType.int), Jvm.Cond.code ({ cls := "com/example/meerkat/meerkat/ExpansionFile", name := "<init>", desc := "(Lcom/example/meerkat/meerkat/ExpansionFile$Kind;Ljava/lang/String;Ljava/lang/String;J)V" } : Jvm.MethodName) prog_17_method_1_code (6 : Nat) (Option.none : Option Jvm.ClassFile.FieldType), Jvm.Cond.code ({ cls := "java/lang/Object", name := "<init>", desc := "()V" } : Jvm.MethodName) object_method_1_code (1 : Nat) (Option.none : Option Jvm.ClassFile.FieldType), Jvm.Cond.code ({ cls := "java/util/Objects", name := "requireNonNull", desc := "(Ljava/lang/Object;Ljava/lang/String;)Ljava/lang/Object;" } : Jvm.MethodName) jdk_31_method_11_code (2 : Nat) (Option.some (Jvm.ClassFile.FieldType.object "java/lang/Object")), Jvm.Cond.code ({ cls := "com/example/meerkat/meerkat/ExpansionFileEqualsPinLaw", name := "c0", desc := "(I)I" } : Jvm.MethodName) method_5_code (1 : Nat) (Option.some Jvm.ClassFile.FieldType.int), Jvm.Cond.code ({ cls := "com/example/meerkat/meerkat/ExpansionFileEqualsPinLaw", name := "c1", desc := "(I)I" } : Jvm.MethodName) method_6_code (1 : Nat) (Option.some Jvm.ClassFile.FieldType.int), Jvm.Cond.code ({ cls := "java/lang/String", name := "<init>", desc := "([C)V" } : Jvm.MethodName) jdk_42_method_3_code (2 : Nat) (Option.none : Option Jvm.ClassFile.FieldType), Jvm.Cond.code ({ cls := "java/lang/String", name := "<init>", desc := "([CIILjava/lang/Void;)V" } : Jvm.MethodName) jdk_42_method_149_code (6 : Nat) (Option.none : Option Jvm.ClassFile.FieldType), Jvm.Cond.code ({ cls := "java/lang/StringUTF16", name := "compress", desc := "([CII)[B" } : Jvm.MethodName) jdk_52_method_16_code (6 : Nat) (Option.some (Jvm.ClassFile.FieldType.array Jvm.ClassFile.FieldType.byte)), Jvm.Cond.code ({ cls := "java/lang/StringUTF16", name := "compress", desc := "([CI[BII)I" } : Jvm.MethodName) jdk_52_method_21_code (7 : Nat) (Option.some Jvm.ClassFile.FieldType.int), Jvm.Cond.code ({ cls := "java/lang/StringUTF16", name := "coderFromArrayLen", desc := "([BI)B" } : Jvm.MethodName) jdk_52_method_15_code (2 : Nat) (Option.some Jvm.ClassFile.FieldType.byte), Jvm.Cond.code ({ cls := "java/lang/String", name := "valueOf", desc := "(C)Ljava/lang/String;" } : Jvm.MethodName) jdk_42_method_139_code (1 : Nat) (Option.some (Jvm.ClassFile.FieldType.object "java/lang/String")), Jvm.Cond.code ({ cls := "java/lang/StringLatin1", name := "canEncode", desc := "(C)Z" } : Jvm.MethodName) jdk_43_method_3_code (1 : Nat) (Option.some Jvm.ClassFile.FieldType.boolean), Jvm.Cond.code ({ cls := "java/lang/StringLatin1", name := "toBytes", desc := "(C)[B" } : Jvm.MethodName) jdk_43_method_46_code (1 : Nat) (Option.some (Jvm.ClassFile.FieldType.array Jvm.ClassFile.FieldType.byte)), Jvm.Cond.code ({ cls := "java/lang/String", name := "<init>", desc := "([BB)V" } : Jvm.MethodName) jdk_42_method_151_code (3 : Nat) (Option.none : Option Jvm.ClassFile.FieldType), Jvm.Cond.code ({ cls := "com/example/meerkat/meerkat/ExpansionFileEqualsPinLaw", name := "sameStr", desc := "(II)Z" } : Jvm.MethodName) method_8_code (4 : Nat) (Option.some Jvm.ClassFile.FieldType.boolean), Jvm.Cond.code ({ cls := "com/example/meerkat/meerkat/ExpansionFile", name := "equals", desc := "(Ljava/lang/Object;)Z" } : Jvm.MethodName) prog_17_method_7_code (3 : Nat) (Option.some Jvm.ClassFile.FieldType.boolean), Jvm.Cond.code ({ cls := "java/lang/String", name := "equals", desc := "(Ljava/lang/Object;)Z" } : Jvm.MethodName) jdk_42_method_66_code (3 : Nat) (Option.some Jvm.ClassFile.FieldType.boolean), Jvm.Cond.code ({ cls := "java/lang/StringLatin1", name := "equals", desc := "([B[B)Z" } : Jvm.MethodName) jdk_43_method_13_code (3 : Nat) (Option.some Jvm.ClassFile.FieldType.boolean)]
set_option maxRecDepth 65536 in
theorem codes_eq : words1.filter isCode = codes1 := rfl
theorem w_codes : ∀ c ∈ words1.filter isCode, c.before args0 about1 = true := by
  rw [codes_eq]
  intro c hc
  simp only [codes1, List.mem_cons, List.not_mem_nil, or_false] at hc
  rcases hc with rfl | rfl | rfl | rfl | rfl | rfl | rfl | rfl | rfl | rfl | rfl | rfl | rfl | rfl | rfl | rfl | rfl | rfl | rfl | rfl | rfl | rfl
  · exact w_c0
  · exact w_c1
  · exact w_c2
  · exact w_c3
  · exact w_c4
  · exact w_c5
  · exact w_c6
  · exact w_c7
  · exact w_c8
  · exact w_c9
  · exact w_c10
  · exact w_c11
  · exact w_c12
  · exact w_c13
  · exact w_c14
  · exact w_c15
  · exact w_c16
  · exact w_c17
  · exact w_c18
  · exact w_c19
  · exact w_c20
  · exact w_c21
set_option maxRecDepth 65536 in
theorem w_t1 : (words1.take 24).all (fun c => isCode c || c.before args0 about1) = true := by decide +kernel
set_option maxRecDepth 65536 in
theorem w_t2 : ((words1.drop 24).take 24).all (fun c => isCode c || c.before args0 about1) = true := by decide +kernel
set_option maxRecDepth 65536 in
theorem w_t3 : (((words1.drop 24).drop 24).take 24).all (fun c => isCode c || c.before args0 about1) = true := by decide +kernel
set_option maxRecDepth 65536 in
theorem w_t4 : ((((words1.drop 24).drop 24).drop 24).take 24).all (fun c => isCode c || c.before args0 about1) = true := by decide +kernel
set_option maxRecDepth 65536 in
theorem w_t5 : ((((words1.drop 24).drop 24).drop 24).drop 24).all (fun c => isCode c || c.before args0 about1) = true := by decide +kernel
theorem w_tables : (allAtoms (Jvm.Cond.code x code maxLocals ret :: tables_1)).before args0 about1 = true := by
  rw [allAtoms_all]
  show words1.all (fun c => c.before args0 about1) = true
  refine all_split ?_ w_codes
  rw [← List.take_append_drop 24 words1, List.all_append, w_t1, ← List.take_append_drop 24 (words1.drop 24), List.all_append, w_t2, ← List.take_append_drop 24 ((words1.drop 24).drop 24), List.all_append, w_t3, ← List.take_append_drop 24 (((words1.drop 24).drop 24).drop 24), List.all_append, w_t4, w_t5]
  rfl
set_option maxRecDepth 65536 in
theorem w_rest : rest_1_c.before args0 about1 = true := by decide +kernel
set_option maxRecDepth 65536 in
theorem w_case : (Jvm.Cond.and given_1 narrow_1).before args0 about1 = true := by decide +kernel
set_option maxRecDepth 65536 in
theorem w_consts : constsHeld consts_1 about1 := Jvm.Lit.constsHeldB_iff.mp (by decide +kernel)
theorem w_applies : (headSpec (Jvm.Cond.code x code maxLocals ret :: tables_1) room_1).applies x e0.platform about1 = true :=
  (Spec.applies_iff w_frames).mpr ⟨w_running, w_runnable, w_alone, w_named, w_hears, w_ripe, w_room, w_tables⟩
theorem atStart : AtStart classFile x code maxLocals ret World_1 tables_1 room_1 Calls_1 rest_1 Pre_1 launch0 p0 e0 about1 theMethod args0 below0 :=
  ⟨lists_1, trivial, launch0.admits_env _ _ _, launch0.least_env, fairChoices_fair.cas, fairChoices_fair.clock, w_frames, w_args, w_heap, w_applies, ⟨w_consts, trivial⟩, w_rest, w_case⟩
end start1
theorem witness_1 : WitnessClaimed_1 := ⟨start1.p0, start1.e0, start1.about1, start1.theMethod, start1.args0, start1.below0, start1.atStart⟩
end Jvm.Pilot.@@N@@
