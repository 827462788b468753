import JvmDerived
import JvmDerived.Pilot.@@N@@Statement
import JvmDerived.Pilot.@@N@@Code
set_option linter.unusedVariables false
set_option linter.unusedSimpArgs false
namespace Jvm.RoadKit
open Sem ClassFile Op Lib Jvm.Stand Jvm.Free Jvm.LawKit
section New
variable {p : Program} {l : Launch} {e : Env} {R : Room} {s : State} {m : MethodId} {args : Array Value} {below : List Frame} {meth : Method} {c : Code} {T : State} {locs : List Loc} {cells slots : Nat}
theorem retI (X : Stand p l e R s m args below meth c T locs cells slots) (hx : p.tables.exec = Jvm.exec) {pc : Nat} {Ls : Array Slot} {z : Int32} {rest : List Value} (hret : meth.sig.returnType = some .int) (hd : decode c.code pc = .ok (.ireturn, 1)) {fs : List Frame}
    (hl : ∀ (f : JFrame) (acts : List Action), f.method = m → f.locked = none → f.entered = [] → (doReturn e (T.setTop f) acts (some (.int z))).1 = T.setFrames fs) : Steps p.tables e below (T.setTop (mkF m pc Ls (.int z :: rest))) (T.setFrames fs) := by
  have hm' : T.vm.method? m = some meth := X.method'
  have hn : narrow .int (.int z) = .int z := rfl
  show Steps p.tables e below (T.setTop { method := m, pc := pc, locals := Ls, stack := _ :: rest, locked := none }) _
  jvm_step X.here [X.here.top, hx, hd, hm', hret, hn]
  first | (intro acts; rw [hl _ acts rfl rfl rfl]) | rw [hl _ _ rfl rfl rfl]
  exact Steps.refl _
theorem own_retJ (X : Stand p l e R s m args below meth c T locs cells slots) (hx : p.tables.exec = Jvm.exec) {pc : Nat} {Ls : Array Slot} {z : Int64} {rest : List Value} (hret : meth.sig.returnType = some .long) (hd : decode c.code pc = .ok (.lreturn, 1)) {fs : List Frame}
    (hl : ∀ (f : JFrame) (acts : List Action), f.method = m → f.locked = none → f.entered = [] → (doReturn e (T.setTop f) acts (some (.long z))).1 = T.setFrames fs) : Steps p.tables e below (T.setTop (mkF m pc Ls (.long z :: rest))) (T.setFrames fs) := by
  have hm' : T.vm.method? m = some meth := X.method'
  have hn : narrow .long (.long z) = .long z := rfl
  show Steps p.tables e below (T.setTop { method := m, pc := pc, locals := Ls, stack := _ :: rest, locked := none }) _
  jvm_step X.here [X.here.top, hx, hd, hm', hret, hn]
  first | (intro acts; rw [hl _ acts rfl rfl rfl]) | rw [hl _ _ rfl rfl rfl]
  exact Steps.refl _
theorem own_cR (a : Addr) : (Value.ref a).category = 1 := rfl
theorem own_cI (a : Int32) : (Value.int a).category = 1 := rfl
theorem own_cJ (a : Int64) : (Value.long a).category = 2 := rfl
theorem own_cN : Value.null.category = 1 := rfl
theorem own_catV {v : Value} (h : v.isRef = true) : v.category = 1 := by cases v <;> first | rfl | cases h
theorem own_retA (X : Stand p l e R s m args below meth c T locs cells slots) (hx : p.tables.exec = Jvm.exec) {pc : Nat} {Ls : Array Slot} {w : Value} {t : FieldType} {rest : List Value} (hret : meth.sig.returnType = some t) (ht : t.isReference = true) (hw : w.isRef = true) (hd : decode c.code pc = .ok (.areturn, 1)) {fs : List Frame}
    (hl : ∀ (f : JFrame) (acts : List Action), f.method = m → f.locked = none → f.entered = [] → (doReturn e (T.setTop f) acts (some w)).1 = T.setFrames fs) : Steps p.tables e below (T.setTop (mkF m pc Ls (w :: rest))) (T.setFrames fs) := by
  have hm' : T.vm.method? m = some meth := X.method'
  show Steps p.tables e below (T.setTop { method := m, pc := pc, locals := Ls, stack := w :: rest, locked := none }) _
  jvm_step X.here [X.here.top, hx, hd, hm', hret, ht, hw]
  first | (intro acts; rw [hl _ acts rfl rfl rfl]) | rw [hl _ _ rfl rfl rfl]
  exact Steps.refl _
variable {Z : State} {h : Heap}
theorem own_len (X : Stand p l e R s m args below meth c T locs cells slots) (hx : p.tables.exec = Jvm.exec) (hZ : Z.Warmed39 s.vm) (eT : T.heap = h) {a : Addr} {k : ClassId} {ty : FieldType} {z : Int32} {vs : List Value} {dv : Value} (F : Arv Z h a k ty z vs dv) {g : JFrame} (hg : g.method = m) {rest : List Value} (hs : g.stack = .ref a :: rest) (hd : decode c.code g.pc = .ok (.arraylength, 1)) (target : State)
    (hr : Steps p.tables e below (T.setTop { g with pc := g.pc + 1, stack := .int z :: rest }) target) : Steps p.tables e below (T.setTop g) target := by
  obtain ⟨cl, A, -, S, N, -, -⟩ := F
  refine X.arraylength hx (by rw [eT]; exact A.1) (State.isArrayOf_alike hZ.alike A.2.1) hg hs hd _ ?_
  rw [len_of S N]; exact hr
theorem own_aaload (X : Stand p l e R s m args below meth c T locs cells slots) (hx : p.tables.exec = Jvm.exec) (hZ : Z.Warmed39 s.vm) (eT : T.heap = h) {a : Addr} {k : ClassId} {ty : FieldType} {z : Int32} {vs : List Value} {dv : Value} (F : Arv Z h a k ty z vs dv) (hty : ty.isReference = true) {j : Int32} (hj : ¬ j < 0 ∧ j < z) {v : Value} (hv : vs.getD j.toNatClampNeg dv = v) {g : JFrame} (hg : g.method = m) {rest : List Value} (hs : g.stack = .int j :: .ref a :: rest) (hd : decode c.code g.pc = .ok (.aaload, 1)) (target : State)
    (hr : Steps p.tables e below (T.setTop { g with pc := g.pc + 1, stack := v :: rest }) target) : Steps p.tables e below (T.setTop g) target := by
  obtain ⟨cl, A, -, S, N, H, -⟩ := F
  have hin := inb_of S hj
  exact X.aaload hx (by rw [eT]; exact A.1) (State.isArrayOf_alike hZ.alike A.2.1) hty A.2.2 hin (H.at hin hv) hg hs hd _ hr
theorem own_baload (X : Stand p l e R s m args below meth c T locs cells slots) (hx : p.tables.exec = Jvm.exec) (hZ : Z.Warmed39 s.vm) (eT : T.heap = h) {a : Addr} {k : ClassId} {z : Int32} {vs : List Value} {dv : Value} (F : Arv Z h a k .byte z vs dv) {j : Int32} (hj : ¬ j < 0 ∧ j < z) {v : Value} (hv : vs.getD j.toNatClampNeg dv = v) {g : JFrame} (hg : g.method = m) {rest : List Value} (hs : g.stack = .int j :: .ref a :: rest) (hd : decode c.code g.pc = .ok (.baload, 1)) (target : State)
    (hr : Steps p.tables e below (T.setTop { g with pc := g.pc + 1, stack := v :: rest }) target) : Steps p.tables e below (T.setTop g) target := by
  obtain ⟨cl, A, -, S, N, H, -⟩ := F
  have hin := inb_of S hj
  exact X.baloadBytes hx (by rw [eT]; exact A.1) (State.isArrayOf_alike hZ.alike A.2.1) A.2.2 hin (H.at hin hv) hg hs hd _ hr
theorem own_stR (X : Stand p l e R s m args below meth c T locs cells slots) (hx : p.tables.exec = Jvm.exec) (hZ : Z.Warmed39 s.vm) (eT : T.heap = h) {a y : Addr} {k : ClassId} {C : String} {z : Int32} {vs : List Value} {dv : Value} (F : Arv Z h a k (.object C) z vs dv) (O : Ovr Z k C) (I : Ins Z h y C true) {j : Int32} (hj : ¬ j < 0 ∧ j < z) {i : Nat} (hi : j.toNatClampNeg = i) (hl : i < vs.length) {g : JFrame} (hg : g.method = m) {rest : List Value} (hs : g.stack = .ref y :: .int j :: .ref a :: rest) (hd : decode c.code g.pc = .ok (.aastore, 1)) :
    ∃ T' h', Stand p l e R s m args below meth c T' (locs ++ [⟨a, j.toNatClampNeg⟩]) cells slots ∧ T'.heap = h' ∧ Wr h h' a j.toNatClampNeg (.ref y) ∧ Arv Z h' a k (.object C) z (vs.set i (.ref y)) dv ∧ ∀ target, Steps p.tables e below (T'.setTop { g with pc := g.pc + 1, stack := rest }) target → Steps p.tables e below (T.setTop g) target := by
  obtain ⟨cl, A, q, S, N, H, G⟩ := F
  obtain ⟨T', h', X', e', W, st⟩ := stR X hx hZ eT A (inb_of S hj) rfl (Sto.ofV A q O I) hg hs hd
  exact ⟨T', h', X', e', W, Arv.set A q S N H G rfl W i hi hl, st⟩
theorem own_stC (X : Stand p l e R s m args below meth c T locs cells slots) (hx : p.tables.exec = Jvm.exec) (hZ : Z.Warmed39 s.vm) (eT : T.heap = h) {a : Addr} {k : ClassId} {z x : Int32} {vs : List Value} {dv : Value} (F : Arv Z h a k .char z vs dv) {j : Int32} (hj : ¬ j < 0 ∧ j < z) {i : Nat} (hi : j.toNatClampNeg = i) (hl : i < vs.length) {g : JFrame} (hg : g.method = m) {rest : List Value} (hs : g.stack = .int x :: .int j :: .ref a :: rest) (hd : decode c.code g.pc = .ok (.castore, 1)) :
    ∃ T' h', Stand p l e R s m args below meth c T' (locs ++ [⟨a, j.toNatClampNeg⟩]) cells slots ∧ T'.heap = h' ∧ Wr h h' a j.toNatClampNeg (.int (nar .char x)) ∧ Arv Z h' a k .char z (vs.set i (.int (nar .char x))) dv ∧ ∀ target, Steps p.tables e below (T'.setTop { g with pc := g.pc + 1, stack := rest }) target → Steps p.tables e below (T.setTop g) target := by
  obtain ⟨cl, A, q, S, N, H, G⟩ := F
  obtain ⟨T', h', X', e', W, st⟩ := stC X hx hZ eT A (inb_of S hj) hg hs hd
  exact ⟨T', h', X', e', W, Arv.set A q S N H G (fits_nar_char _) W i hi hl, st⟩
theorem own_stB (X : Stand p l e R s m args below meth c T locs cells slots) (hx : p.tables.exec = Jvm.exec) (hZ : Z.Warmed39 s.vm) (eT : T.heap = h) {a : Addr} {k : ClassId} {z x : Int32} {vs : List Value} {dv : Value} (F : Arv Z h a k .byte z vs dv) {j : Int32} (hj : ¬ j < 0 ∧ j < z) {i : Nat} (hi : j.toNatClampNeg = i) (hl : i < vs.length) {g : JFrame} (hg : g.method = m) {rest : List Value} (hs : g.stack = .int x :: .int j :: .ref a :: rest) (hd : decode c.code g.pc = .ok (.bastore, 1)) :
    ∃ T' h', Stand p l e R s m args below meth c T' (locs ++ [⟨a, j.toNatClampNeg⟩]) cells slots ∧ T'.heap = h' ∧ Wr h h' a j.toNatClampNeg (.int (nar .byte x)) ∧ Arv Z h' a k .byte z (vs.set i (.int (nar .byte x))) dv ∧ ∀ target, Steps p.tables e below (T'.setTop { g with pc := g.pc + 1, stack := rest }) target → Steps p.tables e below (T.setTop g) target := by
  obtain ⟨cl, A, q, S, N, H, G⟩ := F
  obtain ⟨T', h', X', e', W, st⟩ := stB X hx hZ eT A (inb_of S hj) hg hs hd
  exact ⟨T', h', X', e', W, Arv.set A q S N H G (fits_nar_byte _) W i hi hl, st⟩
end New
end Jvm.RoadKit
/- laws to paste: Road.backV (cut by pick.py; bodies as the Statement names them) -/
namespace Jvm.Pilot.@@N@@
namespace StrChars
open Jvm Sem ClassFile Op Lib Jvm.Stand Jvm.Free.XT Jvm.Free.ALB Jvm.Free.JM Jvm.Free
open Jvm.Lib.Cold (StaticIs)
/-- a char array whose places are chars -/
def Ch (a : Addr) (A : Cell) (U : State) : Prop := Arr .char a A U ∧ Typed .char A
theorem Ch.mv {a : Addr} {A : Cell} {U U' : State} (h : Ch a A U) (hal : U.vm.Alike U'.vm) (hh : U'.heap = U.heap) : Ch a A U' := ⟨h.1.mv hal hh, h.2⟩
theorem Ch.keep {a : Addr} {A : Cell} {U U' : State} (h : Ch a A U) (hal : U.vm.Alike U'.vm) (hk : U'.heap[a]? = some A) : Ch a A U' := ⟨h.1.keep hal hk, h.2⟩
/-- what place i of a char[]'s cell holds -/
def cv (A : Cell) (i : Nat) : Int32 := match A.slots[i]? with | some (.int x) => x | _ => 0
theorem Ch.get {a : Addr} {A : Cell} {U : State} (h : Ch a A U) {i : Nat} (hi : i < A.slots.size) : A.slots[i]? = some (.int (cv A i)) := by
  have e := Array.getElem?_eq_getElem hi
  have f := h.2 i _ e
  unfold cv; rw [e]
  generalize A.slots[i] = v at f
  cases v <;> simp [fits] at f ⊢
/-- the byte that i2b leaves of a char -/
def lo8 (x : Int32) : Int32 := x.toInt8.toInt32
theorem fits_lo8 (y : Int32) : fits .byte (.int (lo8 y)) = true := by
  have h1 := y.toInt8.le_toInt
  have h2 := y.toInt8.toInt_lt
  simp only [lo8, fits, Bool.and_eq_true, decide_eq_true_eq, Int32.le_iff_toInt_le, Int8.toInt_toInt32, show (-128 : Int32).toInt = -128 from by decide, show (127 : Int32).toInt = 127 from by decide]
  omega
/-- A' is A but that each place j of lo .. hi - 1 holds f j -/
def Laid (A A' : Cell) (lo hi : Nat) (f : Nat → Value) : Prop := A'.cls = A.cls ∧ A'.vm = A.vm ∧ A'.slots.size = A.slots.size ∧ ∀ i, A'.slots[i]? = if lo ≤ i ∧ i < hi then some (f i) else A.slots[i]?
theorem Laid.zero (A : Cell) (lo : Nat) (f : Nat → Value) : Laid A A lo (lo + 0) f := ⟨rfl, rfl, rfl, fun i => by rw [if_neg (by omega)]⟩
theorem Laid.step {A Ak : Cell} {lo k : Nat} {f : Nat → Value} {v : Value} (h : Laid A Ak lo k f) (hlo : lo ≤ k) (hk : k < Ak.slots.size) (hv : v = f k) : Laid A (Ak.setSlot k v) lo (k + 1) f := by
  refine ⟨h.1, h.2.1, by simpa [Cell.setSlot] using h.2.2.1, fun i => ?_⟩
  by_cases e : k = i
  · subst e; rw [Cell.slots_setSlot_self v hk, if_pos (by omega), hv]
  · rw [Cell.slots_setSlot_ne v e, h.2.2.2 i]
    by_cases q : lo ≤ i ∧ i < k
    · rw [if_pos q, if_pos (by omega)]
    · rw [if_neg q, if_neg (by omega)]
def U16 : String := "java/lang/StringUTF16"
namespace Cmp5
def yN : MethodName := ⟨"java/lang/StringUTF16", "compress", "([CI[BII)I"⟩
abbrev yB : ByteArray := jdk_52_method_21_code
theorem d0 : decode yB 0 = .ok (.iconst 0, 1) := by decide +kernel
theorem d1 : decode yB 1 = .ok (.istore 5, 2) := by decide +kernel
theorem d3 : decode yB 3 = .ok (.iload 5, 2) := by decide +kernel
theorem d5 : decode yB 5 = .ok (.iload 4, 2) := by decide +kernel
theorem d7 : decode yB 7 = .ok (.if_icmp (.ge) 37, 3) := by decide +kernel
theorem d10 : decode yB 10 = .ok (.aload_n 0, 1) := by decide +kernel
theorem d11 : decode yB 11 = .ok (.iload_n 1, 1) := by decide +kernel
theorem d12 : decode yB 12 = .ok (.caload, 1) := by decide +kernel
theorem d13 : decode yB 13 = .ok (.istore 6, 2) := by decide +kernel
theorem d15 : decode yB 15 = .ok (.iload 6, 2) := by decide +kernel
theorem d17 : decode yB 17 = .ok (.sipush 255, 3) := by decide +kernel
theorem d20 : decode yB 20 = .ok (.if_icmp (.le) 6, 3) := by decide +kernel
theorem d26 : decode yB 26 = .ok (.aload_n 2, 1) := by decide +kernel
theorem d27 : decode yB 27 = .ok (.iload_n 3, 1) := by decide +kernel
theorem d28 : decode yB 28 = .ok (.iload 6, 2) := by decide +kernel
theorem d30 : decode yB 30 = .ok (.i2b, 1) := by decide +kernel
theorem d31 : decode yB 31 = .ok (.bastore, 1) := by decide +kernel
theorem d32 : decode yB 32 = .ok (.iinc 1 1, 3) := by decide +kernel
theorem d35 : decode yB 35 = .ok (.iinc 3 1, 3) := by decide +kernel
theorem d38 : decode yB 38 = .ok (.iinc 5 1, 3) := by decide +kernel
theorem d41 : decode yB 41 = .ok (.goto (-38), 3) := by decide +kernel
theorem d44 : decode yB 44 = .ok (.iload 4, 2) := by decide +kernel
theorem d46 : decode yB 46 = .ok (.ireturn, 1) := by decide +kernel
def site : List Cond := []
def tab : Cond := tabOf yN yB 7 (some .int) site
def P (b : Addr) (A : Cell) (d : Addr) (B : Cell) (o q len : Nat) (args : Array Value) (s : State) : Prop := args = #[.ref b, .int (Int32.ofNat o), .ref d, .int (Int32.ofNat q), .int (Int32.ofNat len)] ∧ Ch b A s ∧ Arr .byte d B s ∧ b ≠ d ∧ o + len ≤ A.slots.size ∧ q + len ≤ B.slots.size ∧ ∀ i, i < len → ¬ 255 < cv A (o + i)
def E (b : Addr) (A : Cell) (d : Addr) (B : Cell) (o q len : Nat) (r : Option Value) (s u : State) : Prop := r = some (.int (Int32.ofNat len)) ∧ ∃ B', Put d B' s u ∧ Laid B B' q (q + len) (fun j => Value.int (lo8 (cv A (o + (j - q)))))
/-- no char of the range above 255: len; the places written hold each char's low byte -/
theorem law (l : Launch) (b : Addr) (A : Cell) (d : Addr) (B : Cell) (o q len : Nat) : Law l yN 5 5 0 0 yB 7 (some .int) site (P b A d B o q len) (E b A d B o q len) (copyLocs d q len) 0 0 := by
  refine Law.of_walk (plainFor_of_name (by decide +kernel)) (by decide +kernel) (by decide +kernel) (by decide) (fun _ _ h => by rw [h.1]; rfl) (fun _ U U' hal hh h => ⟨h.1, h.2.1.mv hal hh, h.2.2.1.mv hal hh, h.2.2.2⟩) (fun r U U' V V' h1 hal h2 h => ⟨h.1, h.2.elim fun B' q => ⟨B', q.1.mv h1 h2, q.2⟩⟩) ?_
  intro p e s m args below meth c s₁ X0 hexec hbytes hml hret hlk hnm hown hh0 W hP
  obtain ⟨rfl, hA, hB, hne, l1, l2, hp⟩ := hP
  have c1 : Steps p.tables e below (s₁.setTop (entryFrame m #[.ref b, .int (Int32.ofNat o), .ref d, .int (Int32.ofNat q), .int (Int32.ofNat len)] 7)) (s₁.setTop (mkF m 0 #[.val (.ref b), .val (.int (Int32.ofNat o)), .val (.ref d), .val (.int (Int32.ofNat q)), .val (.int (Int32.ofNat len)), .unset, .unset] [])) := entry rfl
  have hA0 := hA.1.mv X0.warmed.alike hh0
  have hB0 := hB.mv X0.warmed.alike hh0
  have a31 := hA.1.2.2.2
  have c2 : Steps p.tables e below (s₁.setTop (entryFrame m #[.ref b, .int (Int32.ofNat o), .ref d, .int (Int32.ofNat q), .int (Int32.ofNat len)] 7)) (s₁.setTop (mkF m 3 #[.val (.ref b), .val (.int (Int32.ofNat o)), .val (.ref d), .val (.int (Int32.ofNat q)), .val (.int (Int32.ofNat len)), .val (.int 0), .unset] [])) := c1.trans (by
    refine iconstV X0.here hexec rfl 0 (hb hbytes d0) (by decide) ?_
    refine XS.istore X0.here hexec rfl (hb hbytes d1) rfl rfl ?_
    exact Steps.refl _)
  have loop : ∀ (r i : Nat), i + r = len → ∀ (z : Slot), (z = .unset ∨ ∃ w, z = .val w ∧ w.category = 1) → ∀ (Tl : State) (Bk : Cell), Stand p l e { frames := 0, locals := 0, cells := 0, slots := 0 } s m #[.ref b, .int (Int32.ofNat o), .ref d, .int (Int32.ofNat q), .int (Int32.ofNat len)] below meth c Tl ([] ++ copyLocs d q i) 0 0 → Put d Bk s₁ Tl → Laid B Bk q (q + i) (fun j => Value.int (lo8 (cv A (o + (j - q))))) →
      Steps p.tables e below (s₁.setTop (entryFrame m #[.ref b, .int (Int32.ofNat o), .ref d, .int (Int32.ofNat q), .int (Int32.ofNat len)] 7)) (Tl.setTop (mkF m 3 #[.val (.ref b), .val (.int (Int32.ofNat (o + i))), .val (.ref d), .val (.int (Int32.ofNat (q + i))), .val (.int (Int32.ofNat len)), .val (.int (Int32.ofNat i)), z] [])) → ∃ (T' : State) (B' : Cell) (z' : Slot), Stand p l e { frames := 0, locals := 0, cells := 0, slots := 0 } s m #[.ref b, .int (Int32.ofNat o), .ref d, .int (Int32.ofNat q), .int (Int32.ofNat len)] below meth c T' ([] ++ copyLocs d q len) 0 0 ∧ Put d B' s₁ T' ∧ Laid B B' q (q + len) (fun j => Value.int (lo8 (cv A (o + (j - q))))) ∧
      Steps p.tables e below (s₁.setTop (entryFrame m #[.ref b, .int (Int32.ofNat o), .ref d, .int (Int32.ofNat q), .int (Int32.ofNat len)] 7)) (T'.setTop (mkF m 3 #[.val (.ref b), .val (.int (Int32.ofNat (o + len))), .val (.ref d), .val (.int (Int32.ofNat (q + len))), .val (.int (Int32.ofNat len)), .val (.int (Int32.ofNat len)), z'] [])) := by
    intro r
    induction r with
    | zero =>
      intro i hi z hz Tl Bk Xl pl fl cl
      have hil : i = len := by omega
      rw [hil] at Xl fl cl
      exact ⟨Tl, Bk, z, Xl, pl, fl, cl⟩
    | succ r ih =>
      intro i hi z hz Tl Bk Xl pl fl cl
      have all := X0.warmed.alike.symm.trans Xl.warmed.alike
      have hAl := hA0.keep all (pl.other hne hA0.1)
      have hBk := hB0.like all pl.1 fl.1 fl.2.1 fl.2.2.1
      have hlt : q + i < Bk.slots.size := by rw [fl.2.2.1]; omega
      have c3 : Steps p.tables e below (s₁.setTop (entryFrame m #[.ref b, .int (Int32.ofNat o), .ref d, .int (Int32.ofNat q), .int (Int32.ofNat len)] 7)) (Tl.setTop (mkF m 12 #[.val (.ref b), .val (.int (Int32.ofNat (o + i))), .val (.ref d), .val (.int (Int32.ofNat (q + i))), .val (.int (Int32.ofNat len)), .val (.int (Int32.ofNat i)), z] [.int (Int32.ofNat (o + i)), .ref b])) := cl.trans (by
        refine XS.iload Xl.here hexec rfl (hb hbytes d3) rfl ?_
        refine XS.iload Xl.here hexec rfl (hb hbytes d5) rfl ?_
        refine XS.icmpNo Xl.here hexec rfl (hb hbytes d7) rfl (ii_ge_f (lt32 (by omega) (by omega))) ?_
        refine XS.aloadN Xl.here hexec rfl (hb hbytes d10) rfl rfl ?_
        refine XS.iloadN Xl.here hexec rfl (hb hbytes d11) rfl ?_
        exact Steps.refl _)
      have c4 : Steps p.tables e below (s₁.setTop (entryFrame m #[.ref b, .int (Int32.ofNat o), .ref d, .int (Int32.ofNat q), .int (Int32.ofNat len)] 7)) (Tl.setTop (mkF m 13 #[.val (.ref b), .val (.int (Int32.ofNat (o + i))), .val (.ref d), .val (.int (Int32.ofNat (q + i))), .val (.int (Int32.ofNat len)), .val (.int (Int32.ofNat i)), z] [.int (cv A (o + i))])) := c3.trans (by
        refine Xl.aget hexec hAl rfl (hA.get (i := o + i) (by omega)) rfl rfl (hb hbytes d12) ?_
        exact Steps.refl _)
      have c5 : Steps p.tables e below (s₁.setTop (entryFrame m #[.ref b, .int (Int32.ofNat o), .ref d, .int (Int32.ofNat q), .int (Int32.ofNat len)] 7)) (Tl.setTop (mkF m 15 #[.val (.ref b), .val (.int (Int32.ofNat (o + i))), .val (.ref d), .val (.int (Int32.ofNat (q + i))), .val (.int (Int32.ofNat len)), .val (.int (Int32.ofNat i)), .val (.int (cv A (o + i)))] [])) := c4.trans (by
        refine XS.istoreS Xl.here hexec rfl (hb hbytes d13) rfl rfl hz ?_
        exact Steps.refl _)
      have c6 : Steps p.tables e below (s₁.setTop (entryFrame m #[.ref b, .int (Int32.ofNat o), .ref d, .int (Int32.ofNat q), .int (Int32.ofNat len)] 7)) (Tl.setTop (mkF m 31 #[.val (.ref b), .val (.int (Int32.ofNat (o + i))), .val (.ref d), .val (.int (Int32.ofNat (q + i))), .val (.int (Int32.ofNat len)), .val (.int (Int32.ofNat i)), .val (.int (cv A (o + i)))] [.int (lo8 (cv A (o + i))), .int (Int32.ofNat (q + i)), .ref d])) := c5.trans (by
        refine XS.iload Xl.here hexec rfl (hb hbytes d15) rfl ?_
        refine sipushV Xl.here hexec rfl 255 (hb hbytes d17) (by decide) ?_
        refine XS.icmpYes Xl.here hexec rfl (pc0 := 20) rfl (hb hbytes d20) rfl (ii_le_t (hp i (by omega))) (by decide) rfl ?_
        refine XS.aloadN Xl.here hexec rfl (hb hbytes d26) rfl rfl ?_
        refine XS.iloadN Xl.here hexec rfl (hb hbytes d27) rfl ?_
        refine XS.iload Xl.here hexec rfl (hb hbytes d28) rfl ?_
        refine i2b Xl.here hexec rfl (hb hbytes d30) rfl ?_
        exact Steps.refl _)
      obtain ⟨T7, X7, p7, st7⟩ := Xl.aput hexec hBk rfl hlt rfl (fits_lo8 (cv A (o + i))) (g := (mkF m 31 #[.val (.ref b), .val (.int (Int32.ofNat (o + i))), .val (.ref d), .val (.int (Int32.ofNat (q + i))), .val (.int (Int32.ofNat len)), .val (.int (Int32.ofNat i)), .val (.int (cv A (o + i)))] [.int (lo8 (cv A (o + i))), .int (Int32.ofNat (q + i)), .ref d])) rfl (rest := []) rfl (hb hbytes d31)
      have c8 : Steps p.tables e below (s₁.setTop (entryFrame m #[.ref b, .int (Int32.ofNat o), .ref d, .int (Int32.ofNat q), .int (Int32.ofNat len)] 7)) (T7.setTop (mkF m 32 #[.val (.ref b), .val (.int (Int32.ofNat (o + i))), .val (.ref d), .val (.int (Int32.ofNat (q + i))), .val (.int (Int32.ofNat len)), .val (.int (Int32.ofNat i)), .val (.int (cv A (o + i)))] [])) := c6.trans (st7 _ (Steps.refl _))
      have c9 : Steps p.tables e below (s₁.setTop (entryFrame m #[.ref b, .int (Int32.ofNat o), .ref d, .int (Int32.ofNat q), .int (Int32.ofNat len)] 7)) (T7.setTop (mkF m 3 #[.val (.ref b), .val (.int (Int32.ofNat (o + i) + 1)), .val (.ref d), .val (.int (Int32.ofNat (q + i) + 1)), .val (.int (Int32.ofNat len)), .val (.int (Int32.ofNat i + 1)), .val (.int (cv A (o + i)))] [])) := c8.trans (by
        refine iincV X7.here hexec rfl 1 (hb hbytes d32) (by decide) rfl rfl ?_
        refine iincV X7.here hexec rfl 1 (hb hbytes d35) (by decide) rfl rfl ?_
        refine iincV X7.here hexec rfl 1 (hb hbytes d38) (by decide) rfl rfl ?_
        refine XS.goto X7.here hexec rfl (pc0 := 41) rfl (hb hbytes d41) (by decide) rfl ?_
        exact Steps.refl _)
      have c10 : Steps p.tables e below (s₁.setTop (entryFrame m #[.ref b, .int (Int32.ofNat o), .ref d, .int (Int32.ofNat q), .int (Int32.ofNat len)] 7)) (T7.setTop (mkF m 3 #[.val (.ref b), .val (.int (Int32.ofNat (o + (i + 1)))), .val (.ref d), .val (.int (Int32.ofNat (q + (i + 1)))), .val (.int (Int32.ofNat len)), .val (.int (Int32.ofNat (i + 1))), .val (.int (cv A (o + i)))] [])) := by
        have := c9
        rw [succ32, succ32, succ32] at this
        exact this
      exact ih (i + 1) (by omega) _ (Or.inr ⟨_, rfl, rfl⟩) T7 _ (by rw [copyLocs_step, ← List.append_assoc]; exact X7) (pl.trans p7) (fl.step (by omega) hlt (by simp)) c10
  obtain ⟨T9, B9, z9, X9, p9, f9, g9⟩ := loop len 0 (by omega) .unset (Or.inl rfl) s₁ B (by simpa [copyLocs] using X0) ⟨hB0.1, fun _ _ => rfl, rfl⟩ (Laid.zero _ _ _) c2
  have c11 : Steps p.tables e below (s₁.setTop (entryFrame m #[.ref b, .int (Int32.ofNat o), .ref d, .int (Int32.ofNat q), .int (Int32.ofNat len)] 7)) (T9.setTop (mkF m 46 #[.val (.ref b), .val (.int (Int32.ofNat (o + len))), .val (.ref d), .val (.int (Int32.ofNat (q + len))), .val (.int (Int32.ofNat len)), .val (.int (Int32.ofNat len)), z9] [.int (Int32.ofNat len)])) := g9.trans (by
    refine XS.iload X9.here hexec rfl (hb hbytes d3) rfl ?_
    refine XS.iload X9.here hexec rfl (hb hbytes d5) rfl ?_
    refine XS.icmpYes X9.here hexec rfl (pc0 := 7) rfl (hb hbytes d7) rfl (ii_ge_t (nlt32 (by omega) (Nat.le_refl _))) (by decide) rfl ?_
    refine XS.iload X9.here hexec rfl (hb hbytes d44) rfl ?_
    exact Steps.refl _)
  exact ⟨T9, some (.int (Int32.ofNat len)), _, _, _, X9, by simp, rfl, rfl, (fun h => by cases h), ⟨rfl, B9, p9.from hh0, f9⟩, fun fs hl => c11.trans (X9.ireturnOut hexec hret rfl (Or.inl rfl) (hb hbytes d46) hl)⟩
end Cmp5
namespace Cmp3
def yN : MethodName := ⟨"java/lang/StringUTF16", "compress", "([CII)[B"⟩
abbrev yB : ByteArray := jdk_52_method_16_code
theorem d0 : decode yB 0 = .ok (.iload_n 2, 1) := by decide +kernel
theorem d1 : decode yB 1 = .ok (.newarray .byte, 2) := by decide +kernel
theorem d3 : decode yB 3 = .ok (.astore_n 3, 1) := by decide +kernel
theorem d4 : decode yB 4 = .ok (.aload_n 0, 1) := by decide +kernel
theorem d5 : decode yB 5 = .ok (.iload_n 1, 1) := by decide +kernel
theorem d6 : decode yB 6 = .ok (.aload_n 3, 1) := by decide +kernel
theorem d7 : decode yB 7 = .ok (.iconst 0, 1) := by decide +kernel
theorem d8 : decode yB 8 = .ok (.iload_n 2, 1) := by decide +kernel
theorem d9 : decode yB 9 = .ok (.invokestatic 115, 3) := by decide +kernel
theorem d12 : decode yB 12 = .ok (.istore 4, 2) := by decide +kernel
theorem d14 : decode yB 14 = .ok (.iload 4, 2) := by decide +kernel
theorem d16 : decode yB 16 = .ok (.iload_n 2, 1) := by decide +kernel
theorem d17 : decode yB 17 = .ok (.if_icmp (.eq) 40, 3) := by decide +kernel
theorem d57 : decode yB 57 = .ok (.aload_n 3, 1) := by decide +kernel
theorem d58 : decode yB 58 = .ok (.areturn, 1) := by decide +kernel
def site : List Cond := [.arrayClass .byte, Cmp5.tab] ++ staticW U16 115 Cmp5.yN
def tab : Cond := tabOf yN yB 6 (some (.array .byte)) site
def P (b : Addr) (A : Cell) (o len : Nat) (args : Array Value) (s : State) : Prop := args = #[.ref b, .int (Int32.ofNat o), .int (Int32.ofNat len)] ∧ Ch b A s ∧ o + len ≤ A.slots.size ∧ len ≤ 536870912 ∧ ∀ i, i < len → ¬ 255 < cv A (o + i)
def E (b : Addr) (A : Cell) (o len : Nat) (r : Option Value) (s u : State) : Prop := NewArr .byte "[B" len (fun j => .int (lo8 (cv A (o + j)))) r s u ∧ u.heap.size = s.heap.size + 1
/-- no char of the range above 255: a new byte[] of their low bytes -/
theorem law (l : Launch) (b : Addr) (A : Cell) (o len : Nat) : Law l yN 3 3 1 18 yB 6 (some (.array .byte)) site (P b A o len) (E b A o len) [] 1 len := by
  refine Law.of_walk (plainFor_of_name (by decide +kernel)) (by decide +kernel) (by decide +kernel) (by decide) (fun _ _ h => by rw [h.1]; rfl) (fun _ U U' hal hh h => ⟨h.1, h.2.1.mv hal hh, h.2.2⟩) (fun r U U' V V' h1 hal h2 h => ⟨NewArr.mv r U U' V V' h1 hal h2 h.1, by rw [h1, h2]; exact h.2⟩) ?_
  intro p e s m args below meth c s₁ X0 hexec hbytes hml hret hlk hnm hown hh0 W hP
  obtain ⟨rfl, hA, l1, l2, hp⟩ := hP
  have a31 := hA.1.2.2.2
  have c1 : Steps p.tables e below (s₁.setTop (entryFrame m #[.ref b, .int (Int32.ofNat o), .int (Int32.ofNat len)] 6)) (s₁.setTop (mkF m 0 #[.val (.ref b), .val (.int (Int32.ofNat o)), .val (.int (Int32.ofNat len)), .unset, .unset, .unset] [])) := entry rfl
  have c2 : Steps p.tables e below (s₁.setTop (entryFrame m #[.ref b, .int (Int32.ofNat o), .int (Int32.ofNat len)] 6)) (s₁.setTop (mkF m 1 #[.val (.ref b), .val (.int (Int32.ofNat o)), .val (.int (Int32.ofNat len)), .unset, .unset, .unset] [.int (Int32.ofNat len)])) := c1.trans (by
    refine XS.iloadN X0.here hexec rfl (hb hbytes d0) rfl ?_
    exact Steps.refl _)
  obtain ⟨T3, B3, X3, ba3, bs3, bv3, bh3, bf3, st3⟩ := X0.anew hexec (atype := .byte) (wk W (.arrayClass .byte)) rfl (by show len * 1 ≤ _; omega) (by omega) (g := (mkF m 1 #[.val (.ref b), .val (.int (Int32.ofNat o)), .val (.int (Int32.ofNat len)), .unset, .unset, .unset] [.int (Int32.ofNat len)])) rfl (hb hbytes d1) (rest := []) rfl (Nat.le_refl _) (by show 0 + len ≤ len; omega)
  rw [hh0] at ba3 st3
  have kp3 : XT.Kept s T3 := (XT.Kept.of_eq hh0).push bh3
  have hA3 := hA.keep X3.warmed.alike (kp3 _ _ hA.1.1)
  have hne : b ≠ s.heap.size := hA.1.ne
  have c4 : Steps p.tables e below (s₁.setTop (entryFrame m #[.ref b, .int (Int32.ofNat o), .int (Int32.ofNat len)] 6)) (T3.setTop (mkF m 3 #[.val (.ref b), .val (.int (Int32.ofNat o)), .val (.int (Int32.ofNat len)), .unset, .unset, .unset] [.ref s.heap.size])) := c2.trans (st3 _ (Steps.refl _))
  have c5 : Steps p.tables e below (s₁.setTop (entryFrame m #[.ref b, .int (Int32.ofNat o), .int (Int32.ofNat len)] 6)) (T3.setTop (mkF m 9 #[.val (.ref b), .val (.int (Int32.ofNat o)), .val (.int (Int32.ofNat len)), .val (.ref s.heap.size), .unset, .unset] [.int (Int32.ofNat len), .int 0, .ref s.heap.size, .int (Int32.ofNat o), .ref b])) := c4.trans (by
    refine XS.astoreN X3.here hexec rfl (hb hbytes d3) rfl rfl rfl ?_
    refine XS.aloadN X3.here hexec rfl (hb hbytes d4) rfl rfl ?_
    refine XS.iloadN X3.here hexec rfl (hb hbytes d5) rfl ?_
    refine XS.aloadN X3.here hexec rfl (hb hbytes d6) rfl rfl ?_
    refine iconstV X3.here hexec rfl 0 (hb hbytes d7) (by decide) ?_
    refine XS.iloadN X3.here hexec rfl (hb hbytes d8) rfl ?_
    exact Steps.refl _)
  obtain ⟨v6, T6, X6, E6, g6⟩ := X3.callS hexec (Cmp5.law l b A s.heap.size B3 o 0 len) hown (wks W (staticW U16 115 Cmp5.yN)) (wk W Cmp5.tab) (W := 0) (Nat.le_of_ble_eq_true rfl) (Nat.le_of_ble_eq_true rfl) (Nat.le_refl _) (by show 0 + len + 0 ≤ len; omega) (g := (mkF m 9 #[.val (.ref b), .val (.int (Int32.ofNat o)), .val (.int (Int32.ofNat len)), .val (.ref s.heap.size), .unset, .unset] [.int (Int32.ofNat len), .int (Int32.ofNat 0), .ref s.heap.size, .int (Int32.ofNat o), .ref b])) rfl (by rw [hml]; rfl) c5 (argsL := [.ref b, .int (Int32.ofNat o), .ref s.heap.size, .int (Int32.ofNat 0), .int (Int32.ofNat len)]) (rest := []) rfl rfl (by show 2 * 0 + 0 ≤ _; decide) (hb hbytes d9) (⟨rfl, hA3, ba3, hne, l1, by rw [bs3]; simp, hp⟩)
  obtain ⟨rfl, B6, p6, f6⟩ := E6
  have c7 : Steps p.tables e below (s₁.setTop (entryFrame m #[.ref b, .int (Int32.ofNat o), .int (Int32.ofNat len)] 6)) (T6.setTop (mkF m 12 #[.val (.ref b), .val (.int (Int32.ofNat o)), .val (.int (Int32.ofNat len)), .val (.ref s.heap.size), .unset, .unset] [.int (Int32.ofNat len)])) := g6
  have c8 : Steps p.tables e below (s₁.setTop (entryFrame m #[.ref b, .int (Int32.ofNat o), .int (Int32.ofNat len)] 6)) (T6.setTop (mkF m 58 #[.val (.ref b), .val (.int (Int32.ofNat o)), .val (.int (Int32.ofNat len)), .val (.ref s.heap.size), .val (.int (Int32.ofNat len)), .unset] [.ref s.heap.size])) := c7.trans (by
    refine XS.istore X6.here hexec rfl (hb hbytes d12) rfl rfl ?_
    refine XS.iload X6.here hexec rfl (hb hbytes d14) rfl ?_
    refine XS.iloadN X6.here hexec rfl (hb hbytes d16) rfl ?_
    refine XS.icmpYes X6.here hexec rfl (pc0 := 17) rfl (hb hbytes d17) rfl (ii_eq_t rfl) (by decide) rfl ?_
    refine XS.aloadN X6.here hexec rfl (hb hbytes d57) rfl rfl ?_
    exact Steps.refl _)
  have X8 := X6.wide (L' := []) (cells' := 1) (slots' := len) (fun x hx hlt => by
    simp only [List.nil_append, copyLocs, List.mem_map, List.mem_range] at hx
    obtain ⟨i, -, rfl⟩ := hx
    exact absurd hlt (Nat.lt_irrefl _)) (Nat.le_refl _) (by omega)
  exact ⟨T6, some (.ref s.heap.size), _, _, _, X8, rfl, rfl, rfl, (fun h => by cases h), ⟨⟨rfl, B6, ba3.like (X3.warmed.alike.symm.trans X6.warmed.alike) p6.1 f6.1 f6.2.1 f6.2.2.1, f6.2.1.trans bv3, by rw [X6.warmed.alike.findClass, f6.1]; exact bf3, by rw [f6.2.2.1, bs3]; simp, fun j hj => by rw [f6.2.2.2 j, if_pos (by omega)]; rfl, kp3.put p6 (Nat.le_refl _)⟩, by rw [p6.2.2, bh3, hh0]; simp⟩, fun fs hl => c8.trans (X8.areturnOut hexec rfl hret rfl (hb hbytes d58) hl)⟩
end Cmp3
namespace CodL
def yN : MethodName := ⟨"java/lang/StringUTF16", "coderFromArrayLen", "([BI)B"⟩
abbrev yB : ByteArray := jdk_52_method_15_code
theorem d0 : decode yB 0 = .ok (.iload_n 1, 1) := by decide +kernel
theorem d1 : decode yB 1 = .ok (.aload_n 0, 1) := by decide +kernel
theorem d2 : decode yB 2 = .ok (.arraylength, 1) := by decide +kernel
theorem d3 : decode yB 3 = .ok (.isub, 1) := by decide +kernel
theorem d4 : decode yB 4 = .ok (.bipush 31, 2) := by decide +kernel
theorem d6 : decode yB 6 = .ok (.iushr, 1) := by decide +kernel
theorem d7 : decode yB 7 = .ok (.i2b, 1) := by decide +kernel
theorem d8 : decode yB 8 = .ok (.ireturn, 1) := by decide +kernel
def site : List Cond := []
def tab : Cond := tabOf yN yB 2 (some .byte) site
def P (d : Addr) (B : Cell) (args : Array Value) (s : State) : Prop := args = #[.ref d, .int (Int32.ofNat B.slots.size)] ∧ Arr .byte d B s
def E (r : Option Value) (s u : State) : Prop := XT.PureE (some (.int 0)) r s u
/-- an array as long as the number of chars: LATIN1 -/
theorem law (l : Launch) (d : Addr) (B : Cell) : Law l yN 2 2 0 0 yB 2 (some .byte) site (P d B) E [] 0 0 := by
  refine Law.of_walk (plainFor_of_name (by decide +kernel)) (by decide +kernel) (by decide +kernel) (by decide) (fun _ _ h => by rw [h.1]; rfl) (fun _ U U' hal hh h => ⟨h.1, h.2.mv hal hh⟩) (fun r U U' V V' h1 hal h2 h => XT.PureE.mv r U U' V V' h1 hal h2 h) ?_
  intro p e s m args below meth c s₁ X0 hexec hbytes hml hret hlk hnm hown hh0 W hP
  obtain ⟨rfl, hB⟩ := hP
  have hB0 := hB.mv X0.warmed.alike hh0
  have c1 : Steps p.tables e below (s₁.setTop (entryFrame m #[.ref d, .int (Int32.ofNat B.slots.size)] 2)) (s₁.setTop (mkF m 0 #[.val (.ref d), .val (.int (Int32.ofNat B.slots.size))] [])) := entry rfl
  have c2 : Steps p.tables e below (s₁.setTop (entryFrame m #[.ref d, .int (Int32.ofNat B.slots.size)] 2)) (s₁.setTop (mkF m 2 #[.val (.ref d), .val (.int (Int32.ofNat B.slots.size))] [.ref d, .int (Int32.ofNat B.slots.size)])) := c1.trans (by
    refine XS.iloadN X0.here hexec rfl (hb hbytes d0) rfl ?_
    refine XS.aloadN X0.here hexec rfl (hb hbytes d1) rfl rfl ?_
    exact Steps.refl _)
  have c3 : Steps p.tables e below (s₁.setTop (entryFrame m #[.ref d, .int (Int32.ofNat B.slots.size)] 2)) (s₁.setTop (mkF m 8 #[.val (.ref d), .val (.int (Int32.ofNat B.slots.size))] [.int (lo8 (ushr (Int32.ofNat B.slots.size - Int32.ofNat B.slots.size) 31))])) := c2.trans (by
    refine X0.alen hexec hB0 rfl rfl (hb hbytes d2) ?_
    refine XS.isub X0.here hexec rfl (hb hbytes d3) rfl ?_
    refine bipushV X0.here hexec rfl 31 (hb hbytes d4) (by decide) ?_
    refine iushr X0.here hexec rfl (hb hbytes d6) rfl ?_
    refine i2b X0.here hexec rfl (hb hbytes d7) rfl ?_
    exact Steps.refl _)
  have e0 : lo8 (ushr (Int32.ofNat B.slots.size - Int32.ofNat B.slots.size) 31) = 0 := by rw [Int32.sub_self]; decide
  rw [e0] at c3
  exact ⟨s₁, some (.int 0), _, _, _, X0, rfl, rfl, rfl, (fun h => by cases h), ⟨rfl, hh0⟩, fun fs hl => c3.trans (X0.ireturnOut hexec hret rfl (Or.inr (Or.inr (Or.inl rfl))) (hb hbytes d8) hl)⟩
end CodL
/-- the String at a is Latin-1 over a new byte[] (the heap's one new cell): the low bytes of the len chars of A from o on; every cell but a is kept -/
def Got (a : Addr) (D : Cell) (fV fC : Field) (A : Cell) (o len : Nat) (r : Option Value) (s u : State) : Prop := r = none ∧ ∃ D' V : Cell, Blank "java/lang/String" a D' u ∧ Same D D' [fV.slot, fC.slot] ∧ D'.slots[fV.slot]? = some (.ref s.heap.size) ∧ D'.slots[fC.slot]? = some (.int 0) ∧ Arr .byte s.heap.size V u ∧ V.vm = .none ∧ u.vm.findClass "[B" = some V.cls ∧ V.slots.size = len ∧ (∀ j, j < len → V.slots[j]? = some (.int (lo8 (cv A (o + j))))) ∧ (∀ (y : Addr) (c : Cell), y ≠ a → s.heap[y]? = some c → u.heap[y]? = some c) ∧ u.heap.size = s.heap.size + 1
theorem Got.mv {a : Addr} {D A : Cell} {fV fC : Field} {o len : Nat} : ∀ r (U U' V V' : State), U'.heap = U.heap → V.vm.Alike V'.vm → V'.heap = V.heap → Got a D fV fC A o len r U V → Got a D fV fC A o len r U' V' :=
  fun r U U' V V' h1 hal h2 ⟨e0, D', X, a1, a2, a3, a4, a5, a6, a7, a8, a9, a10, a11⟩ => ⟨e0, D', X, a1.mv hal h2, a2, by rw [h1]; exact a3, a4, by rw [h1]; exact a5.mv hal h2, a6, by rw [hal.findClass]; exact a7, a8, a9, by rw [h1, h2]; exact a10, by rw [h1, h2]; exact a11⟩
namespace New4
def yN : MethodName := ⟨"java/lang/String", "<init>", "([CIILjava/lang/Void;)V"⟩
abbrev yB : ByteArray := jdk_42_method_149_code
theorem d0 : decode yB 0 = .ok (.aload_n 0, 1) := by decide +kernel
theorem d1 : decode yB 1 = .ok (.invokespecial 1, 3) := by decide +kernel
theorem d4 : decode yB 4 = .ok (.iload_n 3, 1) := by decide +kernel
theorem d5 : decode yB 5 = .ok (.ifCond (.ne) 22, 3) := by decide +kernel
theorem d27 : decode yB 27 = .ok (.getstatic 38, 3) := by decide +kernel
theorem d30 : decode yB 30 = .ok (.ifCond (.eq) 28, 3) := by decide +kernel
theorem d33 : decode yB 33 = .ok (.aload_n 1, 1) := by decide +kernel
theorem d34 : decode yB 34 = .ok (.iload_n 2, 1) := by decide +kernel
theorem d35 : decode yB 35 = .ok (.iload_n 3, 1) := by decide +kernel
theorem d36 : decode yB 36 = .ok (.invokestatic 177, 3) := by decide +kernel
theorem d39 : decode yB 39 = .ok (.astore 5, 2) := by decide +kernel
theorem d41 : decode yB 41 = .ok (.aload_n 0, 1) := by decide +kernel
theorem d42 : decode yB 42 = .ok (.aload 5, 2) := by decide +kernel
theorem d44 : decode yB 44 = .ok (.iload_n 3, 1) := by decide +kernel
theorem d45 : decode yB 45 = .ok (.invokestatic 47, 3) := by decide +kernel
theorem d48 : decode yB 48 = .ok (.putfield 15, 3) := by decide +kernel
theorem d51 : decode yB 51 = .ok (.aload_n 0, 1) := by decide +kernel
theorem d52 : decode yB 52 = .ok (.aload 5, 2) := by decide +kernel
theorem d54 : decode yB 54 = .ok (.putfield 9, 3) := by decide +kernel
theorem d57 : decode yB 57 = .ok (.return_, 1) := by decide +kernel
def site : List Cond := [.fieldLink "java/lang/String" 38 "java/lang/String" "COMPACT_STRINGS" "Z", Cmp3.tab, CodL.tab, .laysFinal "java/lang/String" "java/lang/String" "value" "[B", .fieldLink "java/lang/String" 9 "java/lang/String" "value" "[B", .laysFinal "java/lang/String" "java/lang/String" "coder" "B", .fieldLink "java/lang/String" 15 "java/lang/String" "coder" "B"] ++ objW "java/lang/String" 1 ++ staticW "java/lang/String" 177 Cmp3.yN ++ staticW "java/lang/String" 47 CodL.yN
def tab : Cond := tabOf yN yB 6 none site
def P (a : Addr) (D : Cell) (fV fC : Field) (b : Addr) (A : Cell) (z : Int32) (o len : Nat) (args : Array Value) (s : State) : Prop := args = #[.ref a, .ref b, .int (Int32.ofNat o), .int (Int32.ofNat len), .null] ∧ Blank "java/lang/String" a D s ∧ Found "java/lang/String" "value" "[B" fV s ∧ Found "java/lang/String" "coder" "B" fC s ∧ Ch b A s ∧ StaticIs s "java/lang/String" "COMPACT_STRINGS" "Z" (.int z) ∧ ¬ z = 0 ∧ 0 < len ∧ o + len ≤ A.slots.size ∧ len ≤ 536870912 ∧ ∀ i, i < len → ¬ 255 < cv A (o + i)
def E (a : Addr) (D : Cell) (fV fC : Field) (A : Cell) (o len : Nat) (r : Option Value) (s u : State) : Prop := Got a D fV fC A o len r s u
/-- len > 0, no char of the range above 255: a Latin-1 String of their low bytes -/
theorem law (l : Launch) (a : Addr) (D : Cell) (fV fC : Field) (b : Addr) (A : Cell) (z : Int32) (o len : Nat) : Law l yN 5 4 2 35 yB 6 none site (P a D fV fC b A z o len) (E a D fV fC A o len) [⟨a, fC.slot⟩, ⟨a, fV.slot⟩] 1 len := by
  refine Law.of_walk (plainFor_of_name (by decide +kernel)) (by decide +kernel) (by decide +kernel) (by decide) (fun _ _ h => by rw [h.1]; rfl) (fun _ U U' hal hh h => ⟨h.1, h.2.1.mv hal hh, h.2.2.1.al hal, h.2.2.2.1.al hal, h.2.2.2.2.1.mv hal hh, h.2.2.2.2.2.1.there hal hh, h.2.2.2.2.2.2⟩) (fun r U U' V V' h1 hal h2 h => Got.mv r U U' V V' h1 hal h2 h) ?_
  intro p e s m args below meth c s₁ X0 hexec hbytes hml hret hlk hnm hown hh0 W hP
  obtain ⟨rfl, hB, f1, f2, hA, s1, hz, l0, l1, l2, hp⟩ := hP
  have a31 := hA.1.2.2.2
  have c1 : Steps p.tables e below (s₁.setTop (entryFrame m #[.ref a, .ref b, .int (Int32.ofNat o), .int (Int32.ofNat len), .null] 6)) (s₁.setTop (mkF m 0 #[.val (.ref a), .val (.ref b), .val (.int (Int32.ofNat o)), .val (.int (Int32.ofNat len)), .val .null, .unset] [])) := entry rfl
  have c2 : Steps p.tables e below (s₁.setTop (entryFrame m #[.ref a, .ref b, .int (Int32.ofNat o), .int (Int32.ofNat len), .null] 6)) (s₁.setTop (mkF m 1 #[.val (.ref a), .val (.ref b), .val (.int (Int32.ofNat o)), .val (.int (Int32.ofNat len)), .val .null, .unset] [.ref a])) := c1.trans (by
    refine XS.aloadN X0.here hexec rfl (hb hbytes d0) rfl rfl ?_
    exact Steps.refl _)
  obtain ⟨T3, X3, q3, st3⟩ := X0.oinit hexec hown (wks W (objW "java/lang/String" 1)) (g := (mkF m 1 #[.val (.ref a), .val (.ref b), .val (.int (Int32.ofNat o)), .val (.int (Int32.ofNat len)), .val .null, .unset] [.ref a])) rfl (by rw [hml]; rfl) (rest := []) rfl (hb hbytes d1) (W := 0) (by show 2 * 0 + 0 ≤ _; decide) (Nat.le_of_ble_eq_true rfl) (Nat.le_of_ble_eq_true rfl)
  have hh3 := q3.trans hh0
  have c4 : Steps p.tables e below (s₁.setTop (entryFrame m #[.ref a, .ref b, .int (Int32.ofNat o), .int (Int32.ofNat len), .null] 6)) (T3.setTop (mkF m 27 #[.val (.ref a), .val (.ref b), .val (.int (Int32.ofNat o)), .val (.int (Int32.ofNat len)), .val .null, .unset] [])) := (c2.trans (st3 _ (Steps.refl _))).trans (by
    refine XS.iloadN X3.here hexec rfl (hb hbytes d4) rfl ?_
    refine XS.ifYes X3.here hexec rfl (pc0 := 5) rfl (hb hbytes d5) rfl (i0_ne_t (nz32 (by omega) l0)) (by decide) rfl ?_
    exact Steps.refl _)
  obtain ⟨T5, X5, q5, st5⟩ := X3.sget hexec hown (wk W (.fieldLink "java/lang/String" 38 "java/lang/String" "COMPACT_STRINGS" "Z")) s1 (fun _ _ h => by rw [hh3]; exact h) (g := (mkF m 27 #[.val (.ref a), .val (.ref b), .val (.int (Int32.ofNat o)), .val (.int (Int32.ofNat len)), .val .null, .unset] [])) rfl (hb hbytes d27)
  have hh5 := q5.trans hh3
  have c6 : Steps p.tables e below (s₁.setTop (entryFrame m #[.ref a, .ref b, .int (Int32.ofNat o), .int (Int32.ofNat len), .null] 6)) (T5.setTop (mkF m 30 #[.val (.ref a), .val (.ref b), .val (.int (Int32.ofNat o)), .val (.int (Int32.ofNat len)), .val .null, .unset] [.int z])) := c4.trans (st5 _ (Steps.refl _))
  have c7 : Steps p.tables e below (s₁.setTop (entryFrame m #[.ref a, .ref b, .int (Int32.ofNat o), .int (Int32.ofNat len), .null] 6)) (T5.setTop (mkF m 36 #[.val (.ref a), .val (.ref b), .val (.int (Int32.ofNat o)), .val (.int (Int32.ofNat len)), .val .null, .unset] [.int (Int32.ofNat len), .int (Int32.ofNat o), .ref b])) := c6.trans (by
    refine XS.ifNo X5.here hexec rfl (hb hbytes d30) rfl (i0_eq_f hz) ?_
    refine XS.aloadN X5.here hexec rfl (hb hbytes d33) rfl rfl ?_
    refine XS.iloadN X5.here hexec rfl (hb hbytes d34) rfl ?_
    refine XS.iloadN X5.here hexec rfl (hb hbytes d35) rfl ?_
    exact Steps.refl _)
  obtain ⟨v8, T8, X8, E8, g8⟩ := X5.callS hexec (Cmp3.law l b A o len) hown (wks W (staticW "java/lang/String" 177 Cmp3.yN)) (wk W Cmp3.tab) (W := 0) (Nat.le_of_ble_eq_true rfl) (Nat.le_of_ble_eq_true rfl) (Nat.le_refl _) (by show 0 + len ≤ len; omega) (g := (mkF m 36 #[.val (.ref a), .val (.ref b), .val (.int (Int32.ofNat o)), .val (.int (Int32.ofNat len)), .val .null, .unset] [.int (Int32.ofNat len), .int (Int32.ofNat o), .ref b])) rfl (by rw [hml]; rfl) c7 (argsL := [.ref b, .int (Int32.ofNat o), .int (Int32.ofNat len)]) (rest := []) rfl rfl (by show 2 * 0 + 0 ≤ _; decide) (hb hbytes d36) (⟨rfl, hA.mv X5.warmed.alike hh5, l1, l2, hp⟩)
  obtain ⟨e8, z8⟩ := E8
  obtain ⟨rfl, N, n1, n2, n3, n4, n5, n6⟩ := NewArr.mv _ T5 s _ _ hh5.symm (Vm.Alike.refl _) rfl e8
  rw [hh5] at z8
  have hB1 := hB.keep X8.warmed.alike (n6 _ _ hB.1)
  have hne : s.heap.size ≠ a := (Nat.ne_of_lt (Array.getElem?_eq_some_iff.mp hB.1).1).symm
  have c9 : Steps p.tables e below (s₁.setTop (entryFrame m #[.ref a, .ref b, .int (Int32.ofNat o), .int (Int32.ofNat len), .null] 6)) (T8.setTop (mkF m 39 #[.val (.ref a), .val (.ref b), .val (.int (Int32.ofNat o)), .val (.int (Int32.ofNat len)), .val .null, .unset] [.ref s.heap.size])) := g8
  have c10 : Steps p.tables e below (s₁.setTop (entryFrame m #[.ref a, .ref b, .int (Int32.ofNat o), .int (Int32.ofNat len), .null] 6)) (T8.setTop (mkF m 45 #[.val (.ref a), .val (.ref b), .val (.int (Int32.ofNat o)), .val (.int (Int32.ofNat len)), .val .null, .val (.ref s.heap.size)] [.int (Int32.ofNat N.slots.size), .ref s.heap.size, .ref a])) := by
    have hc : Steps p.tables e below (s₁.setTop (entryFrame m #[.ref a, .ref b, .int (Int32.ofNat o), .int (Int32.ofNat len), .null] 6)) (T8.setTop (mkF m 45 #[.val (.ref a), .val (.ref b), .val (.int (Int32.ofNat o)), .val (.int (Int32.ofNat len)), .val .null, .val (.ref s.heap.size)] [.int (Int32.ofNat len), .ref s.heap.size, .ref a])) := c9.trans (by
      refine XS.astore X8.here hexec rfl (hb hbytes d39) rfl rfl rfl ?_
      refine XS.aloadN X8.here hexec rfl (hb hbytes d41) rfl rfl ?_
      refine XS.aload X8.here hexec rfl (hb hbytes d42) rfl rfl ?_
      refine XS.iloadN X8.here hexec rfl (hb hbytes d44) rfl ?_
      exact Steps.refl _)
    rw [n4]; exact hc
  obtain ⟨v11, T11, X11, E11, g11⟩ := X8.callS hexec (CodL.law l s.heap.size N) hown (wks W (staticW "java/lang/String" 47 CodL.yN)) (wk W CodL.tab) (W := 1) (Nat.le_of_ble_eq_true rfl) (Nat.le_of_ble_eq_true rfl) (Nat.le_refl _) (by show 0 + len + 0 ≤ len; omega) (g := (mkF m 45 #[.val (.ref a), .val (.ref b), .val (.int (Int32.ofNat o)), .val (.int (Int32.ofNat len)), .val .null, .val (.ref s.heap.size)] [.int (Int32.ofNat N.slots.size), .ref s.heap.size, .ref a])) rfl (by rw [hml]; rfl) c10 (argsL := [.ref s.heap.size, .int (Int32.ofNat N.slots.size)]) (rest := [.ref a]) rfl rfl (by show 2 * 0 + (1 + 0) ≤ _; decide) (hb hbytes d45) (⟨rfl, n1⟩)
  obtain ⟨rfl, q11⟩ := E11
  have hB11 := hB1.mv (X8.warmed.alike.symm.trans X11.warmed.alike) q11
  have c12 : Steps p.tables e below (s₁.setTop (entryFrame m #[.ref a, .ref b, .int (Int32.ofNat o), .int (Int32.ofNat len), .null] 6)) (T11.setTop (mkF m 48 #[.val (.ref a), .val (.ref b), .val (.int (Int32.ofNat o)), .val (.int (Int32.ofNat len)), .val .null, .val (.ref s.heap.size)] [.int 0, .ref a])) := g11
  obtain ⟨T13, X13, p13, bl13, sl13, st13⟩ := X11.finit hexec hown (wk W (.fieldLink "java/lang/String" 15 "java/lang/String" "coder" "B")) (Or.inr ⟨_, (wk W (.laysFinal "java/lang/String" "java/lang/String" "coder" "B"))⟩) (Or.inl ⟨rfl, hnm⟩) f2 (Or.inl rfl) hB11 (t := .byte) (by decide +kernel) rfl (g := (mkF m 48 #[.val (.ref a), .val (.ref b), .val (.int (Int32.ofNat o)), .val (.int (Int32.ofNat len)), .val .null, .val (.ref s.heap.size)] [.int 0, .ref a])) rfl (rest := []) rfl (hb hbytes d48)
  have c14 : Steps p.tables e below (s₁.setTop (entryFrame m #[.ref a, .ref b, .int (Int32.ofNat o), .int (Int32.ofNat len), .null] 6)) (T13.setTop (mkF m 54 #[.val (.ref a), .val (.ref b), .val (.int (Int32.ofNat o)), .val (.int (Int32.ofNat len)), .val .null, .val (.ref s.heap.size)] [.ref s.heap.size, .ref a])) := (c12.trans (st13 _ (Steps.refl _))).trans (by
    refine XS.aloadN X13.here hexec rfl (hb hbytes d51) rfl rfl ?_
    refine XS.aload X13.here hexec rfl (hb hbytes d52) rfl rfl ?_
    exact Steps.refl _)
  obtain ⟨T15, X15, p15, bl15, sl15, st15⟩ := X13.finit hexec hown (wk W (.fieldLink "java/lang/String" 9 "java/lang/String" "value" "[B")) (Or.inr ⟨_, (wk W (.laysFinal "java/lang/String" "java/lang/String" "value" "[B"))⟩) (Or.inl ⟨rfl, hnm⟩) f1 (Or.inl rfl) bl13 (t := (.array .byte)) (by decide +kernel) rfl (g := (mkF m 54 #[.val (.ref a), .val (.ref b), .val (.int (Int32.ofNat o)), .val (.int (Int32.ofNat len)), .val .null, .val (.ref s.heap.size)] [.ref s.heap.size, .ref a])) rfl (rest := []) rfl (hb hbytes d54)
  have c16 : Steps p.tables e below (s₁.setTop (entryFrame m #[.ref a, .ref b, .int (Int32.ofNat o), .int (Int32.ofNat len), .null] 6)) (T15.setTop (mkF m 57 #[.val (.ref a), .val (.ref b), .val (.int (Int32.ofNat o)), .val (.int (Int32.ofNat len)), .val .null, .val (.ref s.heap.size)] [])) := c14.trans (st15 _ (Steps.refl _))
  have ap := apart (Or.inr ⟨_, (wk W (.laysFinal "java/lang/String" "java/lang/String" "value" "[B"))⟩) (Or.inr ⟨_, (wk W (.laysFinal "java/lang/String" "java/lang/String" "coder" "B"))⟩) f1 f2 (t₁ := .array .byte) (t₂ := .byte) (by decide +kernel) (by decide +kernel) (by decide)
  have al := X8.warmed.alike.symm.trans X15.warmed.alike
  have n7 : T11.heap[s.heap.size]? = some N := by rw [q11]; exact n1.1
  exact ⟨T15, none, _, _, _, X15, by simp, rfl, by omega, (fun _ => rfl), ⟨rfl, _, N, bl15, ((Same.refl D _).set _ (by simp)).set _ (by simp), sl15, (Cell.slots_setSlot_ne _ ap).trans sl13, n1.keep al (p15.other hne (p13.other hne n7)), n2, by rw [al.findClass]; exact n3, n4, n5, fun y c h1 h2 => p15.other h1 (p13.other h1 (by rw [q11]; exact n6 y c h2)), by rw [p15.2.2, p13.2.2, q11]; exact z8⟩, fun fs hl => c16.trans (X15.returnOut hexec hret (hb hbytes d57) hl)⟩
end New4
namespace New1
def yN : MethodName := ⟨"java/lang/String", "<init>", "([C)V"⟩
abbrev yB : ByteArray := jdk_42_method_3_code
theorem d0 : decode yB 0 = .ok (.aload_n 0, 1) := by decide +kernel
theorem d1 : decode yB 1 = .ok (.aload_n 1, 1) := by decide +kernel
theorem d2 : decode yB 2 = .ok (.iconst 0, 1) := by decide +kernel
theorem d3 : decode yB 3 = .ok (.aload_n 1, 1) := by decide +kernel
theorem d4 : decode yB 4 = .ok (.arraylength, 1) := by decide +kernel
theorem d5 : decode yB 5 = .ok (.aconst_null, 1) := by decide +kernel
theorem d6 : decode yB 6 = .ok (.invokespecial 27, 3) := by decide +kernel
theorem d9 : decode yB 9 = .ok (.return_, 1) := by decide +kernel
def site : List Cond := [New4.tab] ++ initW "java/lang/String" 27 New4.yN
def tab : Cond := tabOf yN yB 2 none site
def P (a : Addr) (D : Cell) (fV fC : Field) (b : Addr) (A : Cell) (z : Int32) (args : Array Value) (s : State) : Prop := args = #[.ref a, .ref b] ∧ Blank "java/lang/String" a D s ∧ Found "java/lang/String" "value" "[B" fV s ∧ Found "java/lang/String" "coder" "B" fC s ∧ Ch b A s ∧ StaticIs s "java/lang/String" "COMPACT_STRINGS" "Z" (.int z) ∧ ¬ z = 0 ∧ 0 < A.slots.size ∧ A.slots.size ≤ 536870912 ∧ ∀ i, i < A.slots.size → ¬ 255 < cv A i
def E (a : Addr) (D : Cell) (fV fC : Field) (A : Cell) (r : Option Value) (s u : State) : Prop := Got a D fV fC A 0 A.slots.size r s u
/-- new String(chars), not empty, no char above 255: a Latin-1 String of their low bytes -/
theorem law (l : Launch) (a : Addr) (D : Cell) (fV fC : Field) (b : Addr) (A : Cell) (z : Int32) : Law l yN 2 1 3 52 yB 2 none site (P a D fV fC b A z) (E a D fV fC A) [⟨a, fC.slot⟩, ⟨a, fV.slot⟩] 1 A.slots.size := by
  refine Law.of_walk (plainFor_of_name (by decide +kernel)) (by decide +kernel) (by decide +kernel) (by decide) (fun _ _ h => by rw [h.1]; rfl) (fun _ U U' hal hh h => ⟨h.1, h.2.1.mv hal hh, h.2.2.1.al hal, h.2.2.2.1.al hal, h.2.2.2.2.1.mv hal hh, h.2.2.2.2.2.1.there hal hh, h.2.2.2.2.2.2⟩) (fun r U U' V V' h1 hal h2 h => Got.mv r U U' V V' h1 hal h2 h) ?_
  intro p e s m args below meth c s₁ X0 hexec hbytes hml hret hlk hnm hown hh0 W hP
  obtain ⟨rfl, hB, f1, f2, hA, s1, hz, l0, l2, hp⟩ := hP
  have c1 : Steps p.tables e below (s₁.setTop (entryFrame m #[.ref a, .ref b] 2)) (s₁.setTop (mkF m 0 #[.val (.ref a), .val (.ref b)] [])) := entry rfl
  have c2 : Steps p.tables e below (s₁.setTop (entryFrame m #[.ref a, .ref b] 2)) (s₁.setTop (mkF m 6 #[.val (.ref a), .val (.ref b)] [.null, .int (Int32.ofNat A.slots.size), .int 0, .ref b, .ref a])) := c1.trans (by
    refine XS.aloadN X0.here hexec rfl (hb hbytes d0) rfl rfl ?_
    refine XS.aloadN X0.here hexec rfl (hb hbytes d1) rfl rfl ?_
    refine iconstV X0.here hexec rfl 0 (hb hbytes d2) (by decide) ?_
    refine XS.aloadN X0.here hexec rfl (hb hbytes d3) rfl rfl ?_
    refine X0.alen hexec (hA.1.mv X0.warmed.alike hh0) rfl rfl (hb hbytes d4) ?_
    refine XS.aconstNull X0.here hexec rfl (hb hbytes d5) ?_
    exact Steps.refl _)
  obtain ⟨v3, T3, X3, E3, g3⟩ := X0.callN hexec (New4.law l a D fV fC b A z 0 A.slots.size) rfl hown (wks W (initW "java/lang/String" 27 New4.yN)) (W New4.tab (by simp only [site, List.mem_cons, List.mem_append, true_or, or_true])) (W := 0) (Nat.le_of_ble_eq_true rfl) (Nat.le_of_ble_eq_true rfl) (Nat.le_refl _) (by show 0 + A.slots.size ≤ A.slots.size; omega) (g := (mkF m 6 #[.val (.ref a), .val (.ref b)] [.null, .int (Int32.ofNat A.slots.size), .int (Int32.ofNat 0), .ref b, .ref a])) rfl (by rw [hml]; rfl) c2 (argsL := [.ref b, .int (Int32.ofNat 0), .int (Int32.ofNat A.slots.size), .null]) (rest := []) rfl rfl (by show 2 * 0 + 0 ≤ _; decide) (hb hbytes d6) (⟨rfl, hB.mv X0.warmed.alike hh0, f1.al X0.warmed.alike, f2.al X0.warmed.alike, hA.mv X0.warmed.alike hh0, s1.there X0.warmed.alike hh0, hz, l0, by omega, l2, fun i hi => by rw [Nat.zero_add]; exact hp i hi⟩)
  have e0 := Got.mv _ s₁ s _ _ hh0.symm (Vm.Alike.refl _) rfl E3
  obtain rfl := e0.1
  have c4 : Steps p.tables e below (s₁.setTop (entryFrame m #[.ref a, .ref b] 2)) (T3.setTop (mkF m 9 #[.val (.ref a), .val (.ref b)] [])) := g3
  exact ⟨T3, none, _, _, _, X3, by simp, rfl, by omega, (fun _ => rfl), e0, fun fs hl => c4.trans (X3.returnOut hexec hret (hb hbytes d9) hl)⟩
theorem pays {l : Launch} {R : Room} {p : Program} {e : Env} {below : List Frame} {s : State} {sargs : Array Value} {len W : Nat} (a : Addr) (D : Cell) (fV fC : Field) (b : Addr) (A : Cell) (z : Int32) (htab : tab.before sargs s = true) (hfr : 4 ≤ R.frames) (hlo : W + 65 ≤ R.locals) :
    Back l R p e below s sargs yN len W (fun A₁ a₁ => A₁.cells + 1 ≤ R.cells ∧ A₁.slots + A.slots.size ≤ R.slots ∧ P a D fV fC b A z a₁ A₁.U) (fun A₁ _ v₁ B₁ => E a D fV fC A v₁ A₁.U B₁.U ∧ B₁.locs = A₁.locs ++ [⟨a, fC.slot⟩, ⟨a, fV.slot⟩] ∧ B₁.cells = A₁.cells + 1 ∧ B₁.slots = A₁.slots + A.slots.size) :=
  (law l a D fV fC b A z).pays htab hfr (by omega)
end New1
end StrChars
namespace StrChars.Road
open Jvm Sem ClassFile Op Lib Jvm.Stand Jvm.Free Jvm.Free.XT
open Jvm.Lib.Cold (StaticIs)
abbrev ST : String := "java/lang/String"
/-- every table word that New1's law asks, flat -/
abbrev words : List Jvm.Cond := [.code New1.yN New1.yB 2 none, .initialized ST, .methodLink ST 27 New4.yN, .instanceMethod New4.yN,
  .code New4.yN New4.yB 6 none, .fieldLink ST 38 ST "COMPACT_STRINGS" "Z", .laysFinal ST ST "value" "[B", .fieldLink ST 9 ST "value" "[B", .laysFinal ST ST "coder" "B", .fieldLink ST 15 ST "coder" "B",
  .methodLink ST 1 Lib.objectInit, .instanceMethod Lib.objectInit, .code Lib.objectInit ⟨#[0xb1]⟩ 1 none, .methodLink ST 177 Cmp3.yN, .static Cmp3.yN, .methodLink ST 47 CodL.yN, .static CodL.yN,
  .code Cmp3.yN Cmp3.yB 6 (some (.array .byte)), .initialized U16, .arrayClass .byte, .methodLink U16 115 Cmp5.yN, .static Cmp5.yN, .code Cmp5.yN Cmp5.yB 7 (some .int), .code CodL.yN CodL.yB 2 (some .byte)]
theorem tab_of {a : Array Value} {s : State} (h : ∀ w ∈ words, w.before a s = true) : New1.tab.before a s = true := by
  have h5 : Cmp5.tab.before a s = true := unparts (wk h (.code Cmp5.yN Cmp5.yB 7 (some .int))) (wks h (.initialized Cmp5.yN.cls :: Cmp5.site))
  have hc : CodL.tab.before a s = true := unparts (wk h (.code CodL.yN CodL.yB 2 (some .byte))) (wks h (.initialized CodL.yN.cls :: CodL.site))
  have q5 : ∀ w ∈ Cmp5.tab :: words, w.before a s = true := fun w hw => (List.mem_cons.mp hw).elim (fun e => e ▸ h5) (h w)
  have h3 : Cmp3.tab.before a s = true := unparts (wk q5 (.code Cmp3.yN Cmp3.yB 6 (some (.array .byte)))) (wks q5 (.initialized Cmp3.yN.cls :: Cmp3.site))
  have q3 : ∀ w ∈ Cmp3.tab :: CodL.tab :: words, w.before a s = true := fun w hw => (List.mem_cons.mp hw).elim (fun e => e ▸ h3) fun hw => (List.mem_cons.mp hw).elim (fun e => e ▸ hc) (h w)
  have h4 : New4.tab.before a s = true := unparts (wk q3 (.code New4.yN New4.yB 6 none)) (wks q3 (.initialized New4.yN.cls :: New4.site))
  have q4 : ∀ w ∈ New4.tab :: words, w.before a s = true := fun w hw => (List.mem_cons.mp hw).elim (fun e => e ▸ h4) (h w)
  exact unparts (wk q4 (.code New1.yN New1.yB 2 none)) (wks q4 (.initialized New1.yN.cls :: New1.site))
/-- the words ride from the start Z to the walk's own state -/
theorem moved {Z s : State} {a0 args : Array Value} (hZ : Z.Warmed39 s.vm) (hw : ∀ d ∈ words, d.before a0 Z = true) : ∀ d ∈ words, d.before args s = true := fun d hd => by
  have q := hw d hd
  have t : ∀ d ∈ words, d = .arrayClass .byte ∨ (d.onTables && d.keepsFace) = true := by decide +kernel
  rcases t d hd with rfl | t
  · exact RoadKit.mvA hZ q
  · exact RoadKit.mv hZ q t
/-- WHAT COMES BACK, over the tables of the start Z: h the heap at the call, h' behind it -/
def Q (Z : State) (x : Addr) (A : Cell) (h : Heap) (v : Option Value) (h' : Heap) (L : List Loc) : Prop := v = none ∧ (∀ y ∈ L, y.base = x) ∧ RoadKit.Keep h h' [x] ∧ h'.size = h.size + 1 ∧ RoadKit.Exa Z h' x ST ∧ RoadKit.Fld Z h' x ST "value" "[B" (.ref h.size) ∧ RoadKit.Fld Z h' x ST "coder" "B" (.int 0) ∧
  (∃ V : Cell, RoadKit.Arr Z h' h.size V .byte ∧ V.vm = .none ∧ Z.vm.findClass "[B" = some V.cls ∧ V.slots.size = A.slots.size ∧ ∀ j, j < A.slots.size → V.slots[j]? = some (.int (lo8 (cv A j)))) ∧
  ∀ (O n d : String) (w : Value), RoadKit.Fld Z h x O n d w → RoadKit.slotOf Z O n d ≠ RoadKit.slotOf Z ST "value" "[B" → RoadKit.slotOf Z O n d ≠ RoadKit.slotOf Z ST "coder" "B" → RoadKit.Fld Z h' x O n d w
/-- **new String(chars) AT A CALL, IN THE ROAD'S FORM**: for specialBack behind newO: x the fresh String, b the char[] with the cell A -/
theorem back {p : Program} {l : Launch} {e : Env} {R : Room} {s : State} {args : Array Value} {below : List Frame} {len W : Nat} {Z : State} {a0 : Array Value} {h : Heap} (hZ : Z.Warmed39 s.vm) (hw : ∀ d ∈ words, d.before a0 Z = true) {kI : Nat} (wi : (Jvm.Cond.instantiable ST kI).before a0 Z = true)
    {x b : Addr} {A : Cell} {z : Int32} {v0 c0 : Value} (E : RoadKit.Exa Z h x ST) (V : RoadKit.Fld Z h x ST "value" "[B" v0) (C : RoadKit.Fld Z h x ST "coder" "B" c0) (K : RoadKit.Arr Z h b A .char) (hty : Typed .char A) (S : RoadKit.Sta Z h ST "COMPACT_STRINGS" "Z" (.int z)) (hz : ¬ z = 0)
    (l0 : 0 < A.slots.size) (l2 : A.slots.size ≤ 536870912) (hp : ∀ i, i < A.slots.size → ¬ 255 < cv A i) (hfr : 4 ≤ R.frames) (hlo : W + 65 ≤ R.locals) :
    Back l R p e below s args New1.yN len W (fun P a => a = #[.ref x, .ref b] ∧ P.U.heap = h ∧ P.cells + 1 ≤ R.cells ∧ P.slots + A.slots.size ≤ R.slots)
      (fun P _ v B => ∃ L, Q Z x A h v B.U.heap L ∧ B.locs = P.locs ++ L ∧ B.cells = P.cells + 1 ∧ B.slots = P.slots + A.slots.size) := by
  intro m meth c P g ig mk a X hg hsize hdg hW hn hp'
  obtain ⟨rfl, rfl, r1, r2⟩ := hp'
  have al : Z.vm.Alike P.U.vm := hZ.alike.trans X.warmed.alike
  obtain ⟨D, cfV, kV, iV, fV, hD, gV, stV, knV, obV, asV, slV⟩ := id V
  obtain ⟨D', cfC, kC, iC, fC, hD', gC, stC, -, -, asC, slC⟩ := id C
  cases hD.symm.trans hD'
  obtain ⟨D2, kD, e1, e2, e3, e4, e5⟩ := id E
  cases hD.symm.trans e1
  obtain ⟨c2, k2, i1, i2, i3, -⟩ := Cond.instantiable_spec wi
  cases e2.symm.trans i1
  cases e3.symm.trans i2
  obtain ⟨kU, u1, u2⟩ := al.2.2 _ _ e3
  have hB : Blank ST x D P.U := ⟨hD, ⟨knV, fun q hq => by rw [hq] at obV; cases obV⟩, by rw [al.findClass]; exact e2, kU, u1, by rw [u2]; exact i3, by rw [u2]; exact e5 i3⟩
  have F1 : Found ST "value" "[B" fV P.U := ⟨SBG.found_only al ⟨cfV, kV, iV, gV⟩, stV⟩
  have F2 : Found ST "coder" "B" fC P.U := ⟨SBG.found_only al ⟨cfC, kC, iC, gC⟩, stC⟩
  have hA : Ch b A P.U := ⟨⟨K.1, State.isArrayOf_alike al K.2.1, K.2.2, by omega⟩, hty⟩
  have hS : StaticIs P.U ST "COMPACT_STRINGS" "Z" (.int z) := by
    obtain ⟨cfS, iS, kS, fS, st, cS, t1, t2, t3, t4, t5, t6, t7⟩ := S
    exact StaticIs.there (s := { Z with heap := P.U.heap }) ⟨cfS, iS, kS, fS, st, cS, t1, t2, t3, t4, t5, (fun q => by rw [q] at t6; cases t6), t7⟩ al rfl
  obtain ⟨v, B, X', ⟨⟨hv, E', V', q1, q2, q3, q4, q5, q6, q7, q8, q9, q10, q11⟩, hl, hc, hs⟩, st⟩ := New1.pays x D fV fC b A z (tab_of (moved hZ hw)) hfr hlo m meth c P g ig mk _ X hg hsize hdg hW hn ⟨r1, r2, rfl, hB, F1, F2, hA, hS, hz, l0, l2, hp⟩
  have al' : Z.vm.Alike B.U.vm := hZ.alike.trans X'.warmed.alike
  have hsz : E'.slots.size = D.slots.size := by
    obtain ⟨-, -, -, kB, w1, w2, w3⟩ := q1
    obtain ⟨kB', y1, y2⟩ := al'.2.2 _ _ e3
    rw [q2.2.1] at w1
    cases w1.symm.trans y1
    rw [w3, e5 i3, y2]
  refine ⟨v, B, X', ⟨_, ⟨hv, ?_, ⟨by omega, fun y cy hy hn' => q10 y cy (by simpa using hn') hy, fun y cy hy => ?_⟩, q11, ⟨E', _, q1.1, by rw [q2.2.1]; exact e2, by rw [q2.2.1]; exact e3, by rw [q2.1]; exact obV, fun _ => by rw [hsz]; exact e5 i3⟩,
    ⟨E', cfV, kV, iV, fV, q1.1, gV, stV, by rw [q2.1]; exact knV, by rw [q2.1]; exact obV, by rw [q2.2.1]; exact asV, q3⟩, ⟨E', cfC, kC, iC, fC, q1.1, gC, stC, by rw [q2.1]; exact knV, by rw [q2.1]; exact obV, by rw [q2.2.1]; exact asC, q4⟩,
    ⟨V', ⟨q5.1, State.isArrayOf_alike al'.symm q5.2.1, q5.2.2.1⟩, q6, by rw [← al'.findClass]; exact q7, q8, fun j hj => by have := q9 j hj; rwa [Nat.zero_add] at this⟩, fun O n d w F n1 n2 => ?_⟩, hl, hc, hs⟩, st⟩
  · intro y hy
    simp only [List.mem_cons, List.not_mem_nil, or_false] at hy
    rcases hy with rfl | rfl <;> rfl
  · by_cases q : y = x
    · subst q
      cases hD.symm.trans hy
      exact ⟨E', q1.1, q2.2.1, q2.1, hsz⟩
    · exact ⟨cy, q10 y cy q hy, rfl, rfl, rfl⟩
  · obtain ⟨D3, cf, k, i, f, g1, g2, g3, g4, g5, g6, g7⟩ := F
    cases hD.symm.trans g1
    simp only [RoadKit.slotOf, g2, gV, gC, Option.map_some, Option.getD_some] at n1 n2
    exact ⟨E', cf, k, i, f, q1.1, g2, g3, by rw [q2.1]; exact g4, by rw [q2.1]; exact g5, by rw [q2.2.1]; exact g6, by rw [q2.2.2 f.slot (by simp [n1, n2])]; exact g7⟩
end StrChars.Road
namespace StrChars.Road
open Jvm Sem ClassFile Op Lib Jvm.Stand Jvm.Free Jvm.Free.XT
/-- WHAT COMES BACK, the byte[] as a list of values -/
def QA (Z : State) (x : Addr) (zn : Int32) (cs : List Int32) (h : Heap) (v : Option Value) (h' : Heap) (L : List Loc) : Prop := v = none ∧ (∀ y ∈ L, y.base = x) ∧ RoadKit.Keep h h' [x] ∧ h'.size = h.size + 1 ∧ RoadKit.Exa Z h' x ST ∧ RoadKit.Fld Z h' x ST "value" "[B" (.ref h.size) ∧ RoadKit.Fld Z h' x ST "coder" "B" (.int 0) ∧
  (∃ kb, Z.vm.findClass "[B" = some kb ∧ RoadKit.Arv Z h' h.size kb .byte zn (cs.map fun c => .int (lo8 c)) (.int 0)) ∧
  ∀ (O n d : String) (w : Value), RoadKit.Fld Z h x O n d w → RoadKit.slotOf Z O n d ≠ RoadKit.slotOf Z ST "value" "[B" → RoadKit.slotOf Z O n d ≠ RoadKit.slotOf Z ST "coder" "B" → RoadKit.Fld Z h' x O n d w
/-- **new String(chars) AT A CALL, THE ARRAYS AS LISTS**: the char[] at b holds cs, not empty, no char above 255 -/
theorem backArv {p : Program} {l : Launch} {e : Env} {R : Room} {s : State} {args : Array Value} {below : List Frame} {len W : Nat} {Z : State} {a0 : Array Value} {h : Heap} (hZ : Z.Warmed39 s.vm) (hw : ∀ d ∈ words, d.before a0 Z = true) {kI : Nat} (wi : (Jvm.Cond.instantiable ST kI).before a0 Z = true)
    {x b : Addr} {k : ClassId} {zn z : Int32} {cs : List Int32} {dv v0 c0 : Value} (E : RoadKit.Exa Z h x ST) (V : RoadKit.Fld Z h x ST "value" "[B" v0) (C : RoadKit.Fld Z h x ST "coder" "B" c0) (K : RoadKit.Arv Z h b k .char zn (cs.map Value.int) dv) (S : RoadKit.Sta Z h ST "COMPACT_STRINGS" "Z" (.int z)) (hz : ¬ z = 0)
    (hlen : zn.toNatClampNeg = cs.length) (h0 : 0 < cs.length) (hbig : cs.length ≤ 536870912) (hall : ∀ c ∈ cs, ¬ 255 < c) (hfr : 4 ≤ R.frames) (hlo : W + 65 ≤ R.locals) :
    Back l R p e below s args New1.yN len W (fun P a => a = #[.ref x, .ref b] ∧ P.U.heap = h ∧ P.cells + 1 ≤ R.cells ∧ P.slots + cs.length ≤ R.slots)
      (fun P _ v B => ∃ L, QA Z x zn cs h v B.U.heap L ∧ B.locs = P.locs ++ L ∧ B.cells = P.cells + 1 ∧ B.slots = P.slots + cs.length) := by
  obtain ⟨A, K1, K2, K3, K4, K5, K6⟩ := K
  have e : A.slots.size = cs.length := K3.trans hlen
  have hat : ∀ (i : Nat) (hi : i < cs.length), A.slots[i]? = some (.int cs[i]) := fun i hi => by rw [K5 i (by omega)]; simp [List.getD_eq_getElem?_getD, hi]
  have hcv : ∀ (i : Nat) (hi : i < cs.length), cv A i = cs[i] := fun i hi => by unfold cv; rw [hat i hi]
  have hty : Typed .char A := fun i v hv => by
    have hi : i < A.slots.size := (Array.getElem?_eq_some_iff.mp hv).1
    have q := K5 i hi
    rw [hv] at q
    rw [Option.some.inj q]
    exact K6 i hi
  refine Back.mono (back hZ hw wi E V C K1 hty S hz (by omega) (by omega) (fun i hi => by rw [hcv i (by omega)]; exact hall _ (List.getElem_mem _)) hfr hlo) (fun P a hp => ⟨hp.1, hp.2.1, hp.2.2.1, by rw [e]; exact hp.2.2.2⟩) (fun P a v B hp hq => ?_)
  obtain ⟨L, ⟨q1, q2, q3, q4, q5, q6, q7, ⟨V', v1, v2, v3, v4, v5⟩, q9⟩, hl, hc, hs⟩ := hq
  refine ⟨L, ⟨q1, q2, q3, q4, q5, q6, q7, ⟨V'.cls, v3, V', v1, rfl, by rw [v4, e, hlen], K4, fun i hi => ?_, fun i hi => ?_⟩, q9⟩, hl, hc, by rw [hs, e]⟩
  · have hi' : i < cs.length := by omega
    rw [v5 i (by omega), hcv i hi']; simp [List.getD_eq_getElem?_getD, hi']
  · have hi' : i < cs.length := by omega
    simp only [List.getD_eq_getElem?_getD, List.getElem?_map, List.getElem?_eq_getElem hi', Option.map_some, Option.getD_some]
    exact fits_lo8 _
end StrChars.Road
namespace StrChars.Road
open Jvm Sem ClassFile Op Lib Jvm.Stand Jvm.Free Jvm.Free.XT
/-- WHAT COMES BACK, in the writer's own shape -/
def QV (Z : State) (x : Addr) (N : Int32) (bs : List Int32) (h : Heap) (n0 : Nat) (v : Option Value) (h' : Heap) (L : List Loc) : Prop := v = none ∧ RoadKit.Fr n0 L ∧ RoadKit.Keep h h' [x] ∧ RoadKit.Exa Z h' x ST ∧ RoadKit.Fld Z h' x ST "coder" "B" (.int 0) ∧
  ∃ (t : Addr) (kb : ClassId), n0 ≤ t ∧ h.size ≤ t ∧ ¬ t = x ∧ RoadKit.Fld Z h' x ST "value" "[B" (.ref t) ∧ RoadKit.Arv Z h' t kb .byte N (bs.map Value.int) (.int 0)
/-- **new String(chars) AT A CALL, FOR THE WRITER**: a char[] of n known ints, each 0 to 255 -/
theorem backV {p : Program} {l : Launch} {e : Env} {R : Room} {s : State} {args : Array Value} {below : List Frame} {len W : Nat} {Z : State} {a0 : Array Value} {h : Heap} (hZ : Z.Warmed39 s.vm) (hw : ∀ d ∈ words, d.before a0 Z = true) {kI : Nat} (wi : (Jvm.Cond.instantiable ST kI).before a0 Z = true)
    {x b : Addr} {kC : ClassId} {cs bs : List Int32} {d v0 c0 : Value} {z N : Int32} {n n0 : Nat} (hx0 : n0 ≤ x) (hh0 : n0 ≤ h.size) (E : RoadKit.Exa Z h x ST) (V : RoadKit.Fld Z h x ST "value" "[B" v0) (C : RoadKit.Fld Z h x ST "coder" "B" c0) (K : RoadKit.Arv Z h b kC .char N (cs.map Value.int) d) (S : RoadKit.Sta Z h ST "COMPACT_STRINGS" "Z" (.int z)) (hz : ¬ z = 0)
    (hn : cs.length = n) (hN : N = Int32.ofNat n) (l0 : 0 < n) (l2 : n ≤ 4000) (hp : ∀ c ∈ cs, ¬ c < 0 ∧ ¬ (255 : Int32) < c) (hb : bs = cs.map (fun c => c.toInt8.toInt32)) (hfr : 4 ≤ R.frames) (hlo : W + 65 ≤ R.locals) :
    Back l R p e below s args (⟨"java/lang/String", "<init>", "([C)V"⟩ : MethodName) len W (fun P a => a = #[.ref x, .ref b] ∧ P.U.heap = h ∧ P.cells + 1 ≤ R.cells ∧ P.slots + n ≤ R.slots)
      (fun P _ v B => ∃ L, QV Z x N bs h n0 v B.U.heap L ∧ B.locs = P.locs ++ L ∧ B.cells = P.cells + 1 ∧ B.slots = P.slots + n) := by
  subst hn hN hb
  refine Back.mono (backArv hZ hw wi E V C K S hz (n32 (by omega)) l0 (by omega) (fun c hc => (hp c hc).2) hfr hlo) (fun P a hp => hp) (fun P a v B hp hq => ?_)
  obtain ⟨L, ⟨q1, q2, q3, q4, q5, q6, q7, ⟨kb, v1, v2⟩, q9⟩, hl, hc, hs⟩ := hq
  exact ⟨L, ⟨q1, fun y hy => by rw [q2 y hy]; exact hx0, q3, q5, q7, h.size, kb, hh0, Nat.le_refl _, Nat.ne_of_gt E.lt, q6, by rw [List.map_map]; exact v2⟩, hl, hc, hs⟩
end StrChars.Road
end Jvm.Pilot.@@N@@

namespace Jvm.Pilot.@@N@@
open Jvm Jvm.ClassFile Sem Op Lib Jvm.Free Jvm.Stand Jvm.LawKit Jvm.RoadKit Bundle Jvm.Pilot.@@N@@.Jvm.D
abbrev oI (x : Int32) : Slot := .val (.int x)
abbrev oJ (x : Int64) : Slot := .val (.long x)
abbrev oR (a : Addr) : Slot := .val (.ref a)
abbrev oN : Slot := .val .null
abbrev oV (v : Value) : Slot := .val v
abbrev oU : Slot := .unset
abbrev oS : Slot := .second
abbrev oP (p : Program) (e : Env) (below : List Frame) (T : State) (g : JFrame) (t : State) : Prop := Steps p.tables e below (T.setTop g) t
def own_sv (Z : State) (C n d : String) : Addr := match (Term.static C n d).eval #[] Z none [] Z with | some (.ref a) => a | _ => 0
theorem own_sv_of {Z : State} {args : Array Value} {C n d : String} {a : Addr} (h : (Term.static C n d).eval args Z none [] Z = some (.ref a)) : (Term.static C n d).eval args Z none [] Z = some (.ref (own_sv Z C n d)) := by
  have h' : (Term.static C n d).eval #[] Z none [] Z = some (.ref a) := h
  rw [h]; unfold own_sv; rw [h']
theorem own_at {Z : State} {args : Array Value} {C n d K : String} (h : (Cond.exactly (Term.static C n d) K).value args Z none Z [] = some true) : (Term.static C n d).eval args Z none [] Z = some (.ref (own_sv Z C n d)) := by
  obtain ⟨a, ha⟩ := exa_v h
  exact own_sv_of ha
theorem own_sta {Z : State} {args : Array Value} {C n d K : String} (h : (Cond.exactly (Term.static C n d) K).value args Z none Z [] = some true) (hi : (Cond.initializedFor C n d).before args Z = true ∨ ((Cond.initialized C).before args Z = true ∧ (Cond.laysStatic C n d).before args Z = true)) : Sta Z Z.heap C n d (.ref (own_sv Z C n d)) := Sta.start (own_at h) hi
theorem own_exa {Z : State} {args : Array Value} {C n d K : String} (h : (Cond.exactly (Term.static C n d) K).value args Z none Z [] = some true) : Exa Z Z.heap (own_sv Z C n d) K := Exa.start (own_at h) h
theorem own_fldV {Z : State} {args : Array Value} {C n d O f fd : String} {v : Value} (h : (Term.field (Term.static C n d) O f fd).eval args Z none [] Z = some v) : Fld Z Z.heap (own_sv Z C n d) O f fd v := by
  obtain ⟨a, ha⟩ := fld_v h
  rw [fld_at (own_sv_of ha)] at h
  exact Fld.start h
theorem own_fldI {Z : State} {args : Array Value} {C n d O f fd : String} {k : Int32} (h : (Cond.eq (Term.field (Term.static C n d) O f fd) (Term.int k)).value args Z none Z [] = some true) : Fld Z Z.heap (own_sv Z C n d) O f fd (.int k) := by
  refine own_fldV (args := args) ?_
  cases hv : (Term.field (Term.static C n d) O f fd).eval args Z none [] Z with
  | none => simp [Cond.value, hv] at h
  | some v => cases v <;> simp_all [Cond.value, Term.eval]
abbrev own_Q (Q : Option Value → Heap → List Loc → Prop) (v : Option Value) (h : Heap) (L : List Loc) : Prop := Q v h L
theorem own_clamp (x : Int32) : x.toNatClampNeg = x.toInt.toNat := rfl
theorem own_and_le (x c : Int32) (hc : 0 ≤ c.toInt) : 0 ≤ (x &&& c).toInt ∧ (x &&& c).toInt ≤ c.toInt := by
  have hm : c.toBitVec.msb = false := by
    cases h : c.toBitVec.msb with
    | false => rfl
    | true =>
      have := BitVec.toInt_neg_of_msb_true h
      rw [Int32.toInt_toBitVec] at this
      omega
  have h : (x &&& c).toBitVec.msb = false := by
    rw [Int32.toBitVec_and, BitVec.msb_and, hm]; simp
  have e1 : (x &&& c).toInt = ((x &&& c).toBitVec.toNat : Int) := by
    rw [← Int32.toInt_toBitVec, BitVec.toInt_eq_toNat_of_msb h]
  have e2 : c.toInt = (c.toBitVec.toNat : Int) := by
    rw [← Int32.toInt_toBitVec, BitVec.toInt_eq_toNat_of_msb hm]
  have h3 : (x &&& c).toBitVec.toNat ≤ c.toBitVec.toNat := by
    rw [Int32.toBitVec_and, BitVec.toNat_and]; exact Nat.and_le_right
  omega
theorem own_rem {x y : Int32} (hx : 0 ≤ x.toInt) (hy : 0 < y.toInt) : (x - (x / y) * y).toInt = x.toInt % y.toInt := by
  have h1 : (x / y).toInt = x.toInt / y.toInt := by
    rw [Int32.toInt_div]
    rw [Int.tdiv_eq_ediv_of_nonneg hx]
    have := Int32.toInt_lt x
    have h2 : 0 ≤ x.toInt / y.toInt := Int.ediv_nonneg hx (by omega)
    have h3 : x.toInt / y.toInt ≤ x.toInt := Int.ediv_le_self _ hx
    apply Int.bmod_eq_of_le <;> omega
  rw [Int32.toInt_sub, Int32.toInt_mul, h1]
  have h2 : 0 ≤ x.toInt / y.toInt * y.toInt := Int.mul_nonneg (Int.ediv_nonneg hx (by omega)) (by omega)
  have h3 : x.toInt / y.toInt * y.toInt ≤ x.toInt := Int.ediv_mul_le _ (by omega)
  have h4 := Int32.toInt_lt x
  rw [Int.bmod_eq_of_le (n := x.toInt / y.toInt * y.toInt) (by omega) (by omega)]
  have h5 : x.toInt - x.toInt / y.toInt * y.toInt = x.toInt % y.toInt := by
    have := Int.emod_add_mul_ediv x.toInt y.toInt
    have h6 : x.toInt / y.toInt * y.toInt = y.toInt * (x.toInt / y.toInt) := Int.mul_comm _ _
    omega
  rw [h5]
  have h6 := Int.emod_nonneg x.toInt (b := y.toInt) (by omega)
  have h7 := Int.emod_lt_of_pos x.toInt hy
  have h8 := Int32.toInt_lt y
  apply Int.bmod_eq_of_le <;> omega
theorem own_mem {i : Int32} {n : Nat} (h0 : 0 ≤ i.toInt) (h1 : i.toInt < n) : ∃ k, k < n ∧ i = Int32.ofNat k := by
  refine ⟨i.toInt.toNat, by omega, ?_⟩
  apply Int32.toInt_inj.mp
  have := Int32.toInt_lt i
  rw [Int32.toInt_ofNat_of_lt (by omega)]
  omega
theorem own_old_le {Z : State} {n0 : Nat} {h : Heap} (O : Old Z n0 h) : n0 ≤ h.size := O.1 ▸ O.2.1
def own_Vals (Z : State) (a : Addr) (ty : FieldType) (z : Int32) (vs : List Value) (dv : Value) : Prop := ∃ cl : Cell, Arr Z Z.heap a cl ty ∧ FitC Z cl ∧ cl.slots.size = z.toNatClampNeg ∧ Has cl vs dv ∧ ∀ i, i < cl.slots.size → fits ty (vs.getD i dv) = true
theorem own_clone {Z : State} {h : Heap} {b : Addr} {cl : Cell} {ty : FieldType} {z : Int32} {vs : List Value} {dv : Value} (A : Arr Z h b (cloneOf cl) ty) (S : cl.slots.size = z.toNatClampNeg) (hz : ¬ z < 0) (H : Has cl vs dv) (G : ∀ i, i < cl.slots.size → fits ty (vs.getD i dv) = true) : Arv Z h b cl.cls ty z vs dv := ⟨_, A, rfl, S, hz, H, G⟩
theorem own_elem {Z : State} {args : Array Value} {C n d C2 n2 d2 : String} {i : Int32} {cl : Cell} {ty : FieldType} {j : Nat} (h : (Cond.eq (Term.elem (Term.static C n d) (Term.int i)) (Term.static C2 n2 d2)).value args Z none Z [] = some true) (ht : (Term.static C2 n2 d2).eval args Z none [] Z = some (.ref (own_sv Z C2 n2 d2))) (A : Arr Z Z.heap (own_sv Z C n d) cl ty) (hj : i.toNatClampNeg = j) : cl.slots[j]? = some (.ref (own_sv Z C2 n2 d2)) := by
  subst hj
  have hi : (Term.int i).eval args Z none [] Z = some (.int i) := Term.int_eval i
  cases hv : (Term.elem (Term.static C n d) (Term.int i)).eval args Z none [] Z with
  | none => simp [Cond.value, hv] at h
  | some w =>
    obtain ⟨⟨x, hx⟩, -⟩ := elem_v hv
    have h2 := (elem_in hv (own_sv_of hx) hi A.1).2
    rw [h2]
    cases w <;> simp_all [Cond.value]
theorem own_getD {P : Value → Prop} {dv : Value} (hd : P dv) : ∀ (vs : List Value) (h : ∀ v ∈ vs, P v) (i : Nat), P (vs.getD i dv)
  | [], _, _ => by simpa using hd
  | v :: vs, h, 0 => h v (List.mem_cons_self ..)
  | v :: vs, h, i + 1 => own_getD hd vs (fun w hw => h w (List.mem_cons_of_mem _ hw)) i
theorem own_vals {Z : State} {args : Array Value} {C n d C2 : String} {k : Int32} {vs : List Value} (hf : Fit Z) (h1 : (Cond.arrayOf (Term.static C n d) (.object C2)).value args Z none Z [] = some true) (h2 : (Cond.eq (Term.length (Term.static C n d)) (Term.int k)).value args Z none Z [] = some true) (hl : k.toNatClampNeg = vs.length) (hk : ¬ k < 0)
    (h3 : ∀ cl, Arr Z Z.heap (own_sv Z C n d) cl (.object C2) → HasL cl 0 vs) (h4 : ∀ v ∈ vs, fits (.object C2) v = true) : own_Vals Z (own_sv Z C n d) (.object C2) k vs .null := by
  obtain ⟨x, hx⟩ := arr_v h1
  have ev := own_sv_of hx
  obtain ⟨cl, A⟩ := Arr.start ev h1
  have hs : cl.slots.size = k.toNatClampNeg := by
    cases hv : (Term.length (Term.static C n d)).eval args Z none [] Z with
    | none => simp [Cond.value, hv] at h2
    | some w =>
      obtain ⟨a, cell, e1, e2, e3⟩ := Term.length_spec hv
      cases ev.symm.trans e1
      have e4 := A.fin (Vm.Alike.refl _)
      cases e4.symm.trans e2
      have hlt : cl.slots.size < 2 ^ 31 := SBG.length_lt ev e4 hv
      subst e3
      have e5 : cl.slots.size.toInt32 = k := by
        have hi : (Term.int k).eval args Z none [] Z = some (.int k) := Term.int_eval k
        simpa [Cond.value, hv, hi] using h2
      rw [← e5]
      have e6 := len_toInt hlt
      simp only [own_clamp]
      omega
  have H := h3 cl A
  refine ⟨cl, A, FitC.start hf A, hs, fun i hi => ?_, fun i _ => own_getD (P := fun v => fits (.object C2) v = true) rfl vs h4 i⟩
  have := HasL.at (dv := .null) vs 0 H i (by omega)
  simpa using this
theorem own_fldN {Z : State} {args : Array Value} {C n d O f fd : String} (h : (Cond.eq (Term.field (Term.static C n d) O f fd) Term.null).value args Z none Z [] = some true) : Fld Z Z.heap (own_sv Z C n d) O f fd .null := own_fldV (args := args) (null_v h)
theorem own_fldS {Z : State} {args : Array Value} {C n d O f fd C2 n2 d2 K2 : String} (h : (Cond.eq (Term.field (Term.static C n d) O f fd) (Term.static C2 n2 d2)).value args Z none Z [] = some true) (h2 : (Cond.exactly (Term.static C2 n2 d2) K2).value args Z none Z [] = some true) : Fld Z Z.heap (own_sv Z C n d) O f fd (.ref (own_sv Z C2 n2 d2)) := by
  refine own_fldV (args := args) ?_
  have e2 := own_at h2
  cases hv : (Term.field (Term.static C n d) O f fd).eval args Z none [] Z with
  | none => simp [Cond.value, hv] at h
  | some v => cases v <;> simp_all [Cond.value]
theorem own_fldL {Z : State} {args : Array Value} {C n d O f fd : String} {k : Int64} (h : (Cond.eq (Term.field (Term.static C n d) O f fd) (Term.long k)).value args Z none Z [] = some true) : Fld Z Z.heap (own_sv Z C n d) O f fd (.long k) := by
  refine own_fldV (args := args) ?_
  cases hv : (Term.field (Term.static C n d) O f fd).eval args Z none [] Z with
  | none => simp [Cond.value, hv] at h
  | some v => cases v <;> simp_all [Cond.value, Term.eval]
theorem own_staI {Z : State} {args : Array Value} {C n d : String} {k : Int32} (h : (Cond.eq (Term.static C n d) (Term.int k)).value args Z none Z [] = some true) (hi : (Cond.initializedFor C n d).before args Z = true ∨ ((Cond.initialized C).before args Z = true ∧ (Cond.laysStatic C n d).before args Z = true)) : Sta Z Z.heap C n d (.int k) := by
  refine Sta.start (args := args) ?_ hi
  cases hv : (Term.static C n d).eval args Z none [] Z with
  | none => simp [Cond.value, hv] at h
  | some v =>
    have hk : (Term.int k).eval args Z none [] Z = some (.int k) := Term.int_eval k
    cases v <;> simp_all [Cond.value]
def own_Cache (Z : State) (a : Addr) (C : String) (n : Nat) : Prop := ∃ cl : Cell, Arr Z Z.heap a cl (.object C) ∧ cl.slots.size = n ∧ ∀ j, j < n → ∃ x, cl.slots[j]? = some (.ref x) ∧ Exa Z Z.heap x C
theorem own_nsroot {Z : State} {a0 : Array Value} {O K : String} {n : Nat} (w : (Cond.noSuperclass O).before a0 Z = true) (wk : (Cond.instantiable K n).before a0 Z = true) (hn : O ≠ K) : NS Z O K := by
  obtain ⟨c, k, h1, h2, h3, -, -⟩ := Cond.noSuperclass_spec w
  obtain ⟨t, kt, g1, -⟩ := Cond.instantiable_spec wk
  have ne := ids_ne h1 g1 hn
  refine ⟨c, t, h1, g1, fun fuel => ?_⟩
  cases fuel with
  | zero => rfl
  | succ f => simp [Vm.isSubclassAux, ne, h2, h3]
theorem own_nsno {Z : State} {a0 : Array Value} {C S K : String} {n : Nat} (w : (Cond.superclass C S).before a0 Z = true) (wk : (Cond.instantiable K n).before a0 Z = true) (m : NS Z C K) (hn : C ≠ K) : ∃ c t, Z.vm.findClass C = some c ∧ Z.vm.findClass K = some t ∧ Z.vm.assignable c t = false := by
  obtain ⟨c, t, h0, g0, n3⟩ := m
  obtain ⟨p, k, kp, h1, h2, h3, h4, h5, -, h7⟩ := Cond.superclass_spec h0 w
  obtain ⟨t', k', g1, g2, g3, g4, -⟩ := Cond.instantiable_spec wk
  cases g0.symm.trans g1
  have g5 : k'.isInterface = false := by
    cases hq : k'.isInterface with
    | false => rfl
    | true => simp [hq] at g4
  have ne := ids_ne h0 g0 hn
  refine ⟨c, t, h0, g0, ?_⟩
  show Z.vm.assignableAux (255 + 1) c t = false
  simp [Vm.assignableAux, ne, h2, g2, h5, g3, g5, Vm.isSubclass, n3]
theorem own_fitsR {v : Value} {C : String} (h : v.isRef = true) : fits (.object C) v = true := by cases v <;> simp_all [Value.isRef, fits]
def own_si (Z : State) (C n d : String) : Int32 := match (Term.static C n d).eval #[] Z none [] Z with | some (.int a) => a | _ => 0
theorem own_si_of {Z : State} {args : Array Value} {C n d : String} (h : (Cond.isInt (Term.static C n d)).value args Z none Z [] = some true) : (Term.static C n d).eval args Z none [] Z = some (.int (own_si Z C n d)) := by
  obtain ⟨x, hx⟩ := is_v h
  have h' : (Term.static C n d).eval #[] Z none [] Z = some (.int x) := hx
  rw [hx]; unfold own_si; rw [h']
theorem own_sti {Z : State} {args : Array Value} {C n d : String} (h : (Cond.isInt (Term.static C n d)).value args Z none Z [] = some true) (hi : (Cond.initializedFor C n d).before args Z = true ∨ ((Cond.initialized C).before args Z = true ∧ (Cond.laysStatic C n d).before args Z = true)) : Sta Z Z.heap C n d (.int (own_si Z C n d)) := Sta.start (own_si_of h) hi
theorem own_stn {Z : State} {args : Array Value} {C n d : String} (h : (Cond.isInt (Term.static C n d)).value args Z none Z [] = some true) (hn : (Cond.not (Cond.eq (Term.static C n d) (Term.int 0))).value args Z none Z [] = some true) : ¬ own_si Z C n d = 0 := by
  have e := own_si_of h
  have h0 : (Term.int 0).eval args Z none [] Z = some (.int 0) := Term.int_eval 0
  have q := not_v hn
  intro z
  rw [z] at e
  simp [Cond.value, e, h0] at q
theorem own_char {c x : Int32} (h : c = (x &&& (255 : Int32))) : ¬ c < 0 ∧ ¬ (255 : Int32) < c := by
  have q := own_and_le x 255 (by decide)
  rw [← h] at q
  have e : (255 : Int32).toInt = 255 := by decide
  have e0 : (0 : Int32).toInt = 0 := by decide
  rw [Int32.lt_iff_toInt_lt, Int32.lt_iff_toInt_lt, e, e0]
  omega
theorem own_narc {c : Int32} (h : ¬ c < 0 ∧ ¬ (255 : Int32) < c) : nar .char c = c := by
  rw [Int32.lt_iff_toInt_lt, Int32.lt_iff_toInt_lt] at h
  have e : (255 : Int32).toInt = 255 := by decide
  have e0 : (0 : Int32).toInt = 0 := by decide
  rw [e, e0] at h
  obtain ⟨k, hk, rfl⟩ := own_mem (i := c) (n := 256) (by omega) (by omega)
  have t : ∀ k : Fin 256, nar .char (Int32.ofNat k.val) = Int32.ofNat k.val := by decide +kernel
  exact t ⟨k, hk⟩
theorem own_hb {cs : List Int32} (h : ∀ c ∈ cs, ¬ c < 0 ∧ ¬ (255 : Int32) < c) : ∀ c ∈ cs, ¬ c < 0 ∧ ¬ (65535 : Int32) < c := fun c hc => by
  have q := h c hc
  refine ⟨q.1, fun z => q.2 ?_⟩
  rw [Int32.lt_iff_toInt_lt] at z ⊢
  have e : (255 : Int32).toInt = 255 := by decide
  have e0 : (65535 : Int32).toInt = 65535 := by decide
  omega
theorem own_eqv {v : Option Value} {cs ds : List Int32} (h : (v = some (.int 1) ∧ cs = ds) ∨ (v = some (.int 0) ∧ ¬ cs = ds)) : v = some (.int (if cs = ds then (1 : Int32) else (0 : Int32))) := by
  rcases h with ⟨h1, h2⟩ | ⟨h1, h2⟩
  · rw [if_pos h2]; exact h1
  · rw [if_neg h2]; exact h1
theorem own_since (s : State) : s.Since s.vm 0 := (State.WarmedH.refl s).since 0
theorem own_rwmono {s t : State} {o : Outcome} {L : List Loc} {k n k' n' : Nat} (h : ReturnedEndW s o t L k n) (hk : k ≤ k') (hn : n ≤ n') : ReturnedEndW s o t L k' n' := ⟨h.1, h.2.1, h.2.2.1, h.2.2.2.mono hk hn⟩
theorem own_cache {Z : State} {args : Array Value} {C n d K : String} {k : Int32} {N : Nat} {rest : Cond} (h1 : (Cond.arrayOf (Term.static C n d) (.object K)).value args Z none Z [] = some true) (h2 : (Cond.eq (Term.length (Term.static C n d)) (Term.int k)).value args Z none Z [] = some true)
    (h3 : (Cond.all (Term.static C n d) (.and (.exactly (.elem (Term.static C n d) (.index 0)) K) rest)).value args Z none Z [] = some true) (hN : k.toNatClampNeg = N) : own_Cache Z (own_sv Z C n d) K N := by
  obtain ⟨x, hx⟩ := arr_v h1
  have ev := own_sv_of hx
  obtain ⟨cl, A⟩ := Arr.start ev h1
  have e4 := A.fin (Vm.Alike.refl _)
  have hs : cl.slots.size = k.toNatClampNeg ∧ cl.slots.size < 2 ^ 31 := by
    cases hv : (Term.length (Term.static C n d)).eval args Z none [] Z with
    | none => simp [Cond.value, hv] at h2
    | some w =>
      obtain ⟨a, cell, e1, e2, e3⟩ := Term.length_spec hv
      cases ev.symm.trans e1
      cases e4.symm.trans e2
      have hlt : cl.slots.size < 2 ^ 31 := SBG.length_lt ev e4 hv
      subst e3
      have e5 : cl.slots.size.toInt32 = k := by
        have hi : (Term.int k).eval args Z none [] Z = some (.int k) := Term.int_eval k
        simpa [Cond.value, hv, hi] using h2
      rw [← e5]
      have e6 := len_toInt hlt
      refine ⟨?_, hlt⟩
      simp only [own_clamp]
      omega
  refine ⟨cl, A, hs.1.trans hN, fun j hj => ?_⟩
  have q := Cond.all_elim ev e4 h3 j (by omega)
  obtain ⟨q1, -⟩ := and_e q
  obtain ⟨y, hy⟩ := exa_v q1
  have ev' : (Term.static C n d).eval args Z none [j] Z = some (.ref (own_sv Z C n d)) := ev
  have hj' : (Term.index 0).eval args Z none [j] Z = some (.int (Int32.ofNat j)) := Term.index_eval _
  have r := (elem_in hy ev' hj' A.1).2
  have e6 : (Int32.ofNat j).toNatClampNeg = j := by
    have := len_toInt (n := j) (by omega)
    simp only [own_clamp]
    have e7 : (Int32.ofNat j).toInt = j := this
    omega
  rw [e6] at r
  exact ⟨y, r, exa_at hy q1⟩
theorem own_cacheix {p : Int32} {cl : Cell} (h1 : ¬ p < (-128 : Int32)) (h2 : ¬ (127 : Int32) < p) (S : cl.slots.size = 256) : ¬ (p + (128 : Int32) < 0 ∨ cl.slots.size ≤ (p + (128 : Int32)).toNatClampNeg) ∧ (p + (128 : Int32)).toNatClampNeg < 256 := by
  rw [Int32.lt_iff_toInt_lt] at h1 h2 ⊢
  have e1 : (-128 : Int32).toInt = -128 := by decide
  have e2 : (127 : Int32).toInt = 127 := by decide
  have e3 : (0 : Int32).toInt = 0 := by decide
  have e4 : (128 : Int32).toInt = 128 := by decide
  have e5 : (p + (128 : Int32)).toInt = p.toInt + 128 := by
    rw [Int32.toInt_add, e4]
    apply Int.bmod_eq_of_le <;> omega
  simp only [own_clamp]
  omega
theorem own_staA {Z : State} {args : Array Value} {C n d : String} {ty : FieldType} (h : (Cond.arrayOf (Term.static C n d) ty).value args Z none Z [] = some true) (hi : (Cond.initializedFor C n d).before args Z = true ∨ ((Cond.initialized C).before args Z = true ∧ (Cond.laysStatic C n d).before args Z = true)) : Sta Z Z.heap C n d (.ref (own_sv Z C n d)) := by
  obtain ⟨a, ha⟩ := arr_v h
  exact Sta.start (own_sv_of ha) hi
end Jvm.Pilot.@@N@@
namespace Jvm.Pilot.@@N@@
open Jvm Jvm.ClassFile Sem Op Lib Jvm.Free Jvm.Stand Jvm.LawKit Jvm.RoadKit Bundle Jvm.Pilot.@@N@@.Jvm.D
def a_RESUME_ALLOWED (Z : State) : Addr := own_sv Z "com/example/resumatic/resumatic/core/ReasonCode" "RESUME_ALLOWED" "Lcom/example/resumatic/resumatic/core/ReasonCode;"
def a_RESUME_MISSING_RUNTIME_ARTIFACTS (Z : State) : Addr := own_sv Z "com/example/resumatic/resumatic/core/ReasonCode" "RESUME_MISSING_RUNTIME_ARTIFACTS" "Lcom/example/resumatic/resumatic/core/ReasonCode;"
def a_RESUME_UNKNOWN_INTERRUPTION_CLASS (Z : State) : Addr := own_sv Z "com/example/resumatic/resumatic/core/ReasonCode" "RESUME_UNKNOWN_INTERRUPTION_CLASS" "Lcom/example/resumatic/resumatic/core/ReasonCode;"
def a_RESUME_MISSING_CHECKPOINT (Z : State) : Addr := own_sv Z "com/example/resumatic/resumatic/core/ReasonCode" "RESUME_MISSING_CHECKPOINT" "Lcom/example/resumatic/resumatic/core/ReasonCode;"
def a_RESUME_NON_IDEMPOTENT_STEP (Z : State) : Addr := own_sv Z "com/example/resumatic/resumatic/core/ReasonCode" "RESUME_NON_IDEMPOTENT_STEP" "Lcom/example/resumatic/resumatic/core/ReasonCode;"
def a_RESUME_ATTEMPT_LIMIT_REACHED (Z : State) : Addr := own_sv Z "com/example/resumatic/resumatic/core/ReasonCode" "RESUME_ATTEMPT_LIMIT_REACHED" "Lcom/example/resumatic/resumatic/core/ReasonCode;"
def a_RESUME_BLOCKED_COOLDOWN (Z : State) : Addr := own_sv Z "com/example/resumatic/resumatic/core/ReasonCode" "RESUME_BLOCKED_COOLDOWN" "Lcom/example/resumatic/resumatic/core/ReasonCode;"
def a_high (Z : State) : Addr := own_sv Z "java/lang/Integer$IntegerCache" "high" "I"
def a_cache (Z : State) : Addr := own_sv Z "java/lang/Integer$IntegerCache" "cache" "[Ljava/lang/Integer;"
def St (Z : State) : Prop := (Sta Z Z.heap "com/example/resumatic/resumatic/core/ReasonCode" "RESUME_ALLOWED" "Lcom/example/resumatic/resumatic/core/ReasonCode;" (.ref (a_RESUME_ALLOWED Z))) ∧ (Exa Z Z.heap (a_RESUME_ALLOWED Z) "com/example/resumatic/resumatic/core/ReasonCode") ∧ (Sta Z Z.heap "com/example/resumatic/resumatic/core/ReasonCode" "RESUME_MISSING_RUNTIME_ARTIFACTS" "Lcom/example/resumatic/resumatic/core/ReasonCode;" (.ref (a_RESUME_MISSING_RUNTIME_ARTIFACTS Z))) ∧ (Exa Z Z.heap (a_RESUME_MISSING_RUNTIME_ARTIFACTS Z) "com/example/resumatic/resumatic/core/ReasonCode") ∧ (Fld Z Z.heap (a_RESUME_MISSING_RUNTIME_ARTIFACTS Z) "java/lang/Enum" "ordinal" "I" (.int (4 : Int32))) ∧ (Fld Z Z.heap (a_RESUME_ALLOWED Z) "java/lang/Enum" "ordinal" "I" (.int (0 : Int32))) ∧ (Sta Z Z.heap "com/example/resumatic/resumatic/core/ReasonCode" "RESUME_UNKNOWN_INTERRUPTION_CLASS" "Lcom/example/resumatic/resumatic/core/ReasonCode;" (.ref (a_RESUME_UNKNOWN_INTERRUPTION_CLASS Z))) ∧ (Exa Z Z.heap (a_RESUME_UNKNOWN_INTERRUPTION_CLASS Z) "com/example/resumatic/resumatic/core/ReasonCode") ∧ (Fld Z Z.heap (a_RESUME_UNKNOWN_INTERRUPTION_CLASS Z) "java/lang/Enum" "ordinal" "I" (.int (2 : Int32))) ∧ (Sta Z Z.heap "com/example/resumatic/resumatic/core/ReasonCode" "RESUME_MISSING_CHECKPOINT" "Lcom/example/resumatic/resumatic/core/ReasonCode;" (.ref (a_RESUME_MISSING_CHECKPOINT Z))) ∧ (Exa Z Z.heap (a_RESUME_MISSING_CHECKPOINT Z) "com/example/resumatic/resumatic/core/ReasonCode") ∧ (Fld Z Z.heap (a_RESUME_MISSING_CHECKPOINT Z) "java/lang/Enum" "ordinal" "I" (.int (1 : Int32))) ∧ (Sta Z Z.heap "com/example/resumatic/resumatic/core/ReasonCode" "RESUME_NON_IDEMPOTENT_STEP" "Lcom/example/resumatic/resumatic/core/ReasonCode;" (.ref (a_RESUME_NON_IDEMPOTENT_STEP Z))) ∧ (Exa Z Z.heap (a_RESUME_NON_IDEMPOTENT_STEP Z) "com/example/resumatic/resumatic/core/ReasonCode") ∧ (Fld Z Z.heap (a_RESUME_NON_IDEMPOTENT_STEP Z) "java/lang/Enum" "ordinal" "I" (.int (3 : Int32))) ∧ (Sta Z Z.heap "com/example/resumatic/resumatic/core/ReasonCode" "RESUME_ATTEMPT_LIMIT_REACHED" "Lcom/example/resumatic/resumatic/core/ReasonCode;" (.ref (a_RESUME_ATTEMPT_LIMIT_REACHED Z))) ∧ (Exa Z Z.heap (a_RESUME_ATTEMPT_LIMIT_REACHED Z) "com/example/resumatic/resumatic/core/ReasonCode") ∧ (Fld Z Z.heap (a_RESUME_ATTEMPT_LIMIT_REACHED Z) "java/lang/Enum" "ordinal" "I" (.int (6 : Int32))) ∧ (Sta Z Z.heap "com/example/resumatic/resumatic/core/ReasonCode" "RESUME_BLOCKED_COOLDOWN" "Lcom/example/resumatic/resumatic/core/ReasonCode;" (.ref (a_RESUME_BLOCKED_COOLDOWN Z))) ∧ (Exa Z Z.heap (a_RESUME_BLOCKED_COOLDOWN Z) "com/example/resumatic/resumatic/core/ReasonCode") ∧ (Fld Z Z.heap (a_RESUME_BLOCKED_COOLDOWN Z) "java/lang/Enum" "ordinal" "I" (.int (5 : Int32))) ∧ (Sta Z Z.heap "java/lang/Integer$IntegerCache" "high" "I" (.int (127 : Int32))) ∧ (Sta Z Z.heap "java/lang/Integer$IntegerCache" "cache" "[Ljava/lang/Integer;" (.ref (a_cache Z))) ∧ (Exa Z Z.heap (a_cache Z) "[Ljava/lang/Integer;") ∧ (Sta Z Z.heap "java/lang/String" "COMPACT_STRINGS" "Z" (.int (own_si Z "java/lang/String" "COMPACT_STRINGS" "Z"))) ∧ (¬ own_si Z "java/lang/String" "COMPACT_STRINGS" "Z" = 0) ∧ (own_Cache Z (a_cache Z) "java/lang/Integer" 256)
theorem s_a_RESUME_ALLOWED {Z : State} (h : St Z) : Sta Z Z.heap "com/example/resumatic/resumatic/core/ReasonCode" "RESUME_ALLOWED" "Lcom/example/resumatic/resumatic/core/ReasonCode;" (.ref (a_RESUME_ALLOWED Z)) := h.1
theorem e_a_RESUME_ALLOWED {Z : State} (h : St Z) : Exa Z Z.heap (a_RESUME_ALLOWED Z) "com/example/resumatic/resumatic/core/ReasonCode" := h.2.1
theorem s_a_RESUME_MISSING_RUNTIME_ARTIFACTS {Z : State} (h : St Z) : Sta Z Z.heap "com/example/resumatic/resumatic/core/ReasonCode" "RESUME_MISSING_RUNTIME_ARTIFACTS" "Lcom/example/resumatic/resumatic/core/ReasonCode;" (.ref (a_RESUME_MISSING_RUNTIME_ARTIFACTS Z)) := h.2.2.1
theorem e_a_RESUME_MISSING_RUNTIME_ARTIFACTS {Z : State} (h : St Z) : Exa Z Z.heap (a_RESUME_MISSING_RUNTIME_ARTIFACTS Z) "com/example/resumatic/resumatic/core/ReasonCode" := h.2.2.2.1
theorem f_a_RESUME_MISSING_RUNTIME_ARTIFACTS_ordinal {Z : State} (h : St Z) : Fld Z Z.heap (a_RESUME_MISSING_RUNTIME_ARTIFACTS Z) "java/lang/Enum" "ordinal" "I" (.int (4 : Int32)) := h.2.2.2.2.1
theorem f_a_RESUME_ALLOWED_ordinal {Z : State} (h : St Z) : Fld Z Z.heap (a_RESUME_ALLOWED Z) "java/lang/Enum" "ordinal" "I" (.int (0 : Int32)) := h.2.2.2.2.2.1
theorem s_a_RESUME_UNKNOWN_INTERRUPTION_CLASS {Z : State} (h : St Z) : Sta Z Z.heap "com/example/resumatic/resumatic/core/ReasonCode" "RESUME_UNKNOWN_INTERRUPTION_CLASS" "Lcom/example/resumatic/resumatic/core/ReasonCode;" (.ref (a_RESUME_UNKNOWN_INTERRUPTION_CLASS Z)) := h.2.2.2.2.2.2.1
theorem e_a_RESUME_UNKNOWN_INTERRUPTION_CLASS {Z : State} (h : St Z) : Exa Z Z.heap (a_RESUME_UNKNOWN_INTERRUPTION_CLASS Z) "com/example/resumatic/resumatic/core/ReasonCode" := h.2.2.2.2.2.2.2.1
theorem f_a_RESUME_UNKNOWN_INTERRUPTION_CLASS_ordinal {Z : State} (h : St Z) : Fld Z Z.heap (a_RESUME_UNKNOWN_INTERRUPTION_CLASS Z) "java/lang/Enum" "ordinal" "I" (.int (2 : Int32)) := h.2.2.2.2.2.2.2.2.1
theorem s_a_RESUME_MISSING_CHECKPOINT {Z : State} (h : St Z) : Sta Z Z.heap "com/example/resumatic/resumatic/core/ReasonCode" "RESUME_MISSING_CHECKPOINT" "Lcom/example/resumatic/resumatic/core/ReasonCode;" (.ref (a_RESUME_MISSING_CHECKPOINT Z)) := h.2.2.2.2.2.2.2.2.2.1
theorem e_a_RESUME_MISSING_CHECKPOINT {Z : State} (h : St Z) : Exa Z Z.heap (a_RESUME_MISSING_CHECKPOINT Z) "com/example/resumatic/resumatic/core/ReasonCode" := h.2.2.2.2.2.2.2.2.2.2.1
theorem f_a_RESUME_MISSING_CHECKPOINT_ordinal {Z : State} (h : St Z) : Fld Z Z.heap (a_RESUME_MISSING_CHECKPOINT Z) "java/lang/Enum" "ordinal" "I" (.int (1 : Int32)) := h.2.2.2.2.2.2.2.2.2.2.2.1
theorem s_a_RESUME_NON_IDEMPOTENT_STEP {Z : State} (h : St Z) : Sta Z Z.heap "com/example/resumatic/resumatic/core/ReasonCode" "RESUME_NON_IDEMPOTENT_STEP" "Lcom/example/resumatic/resumatic/core/ReasonCode;" (.ref (a_RESUME_NON_IDEMPOTENT_STEP Z)) := h.2.2.2.2.2.2.2.2.2.2.2.2.1
theorem e_a_RESUME_NON_IDEMPOTENT_STEP {Z : State} (h : St Z) : Exa Z Z.heap (a_RESUME_NON_IDEMPOTENT_STEP Z) "com/example/resumatic/resumatic/core/ReasonCode" := h.2.2.2.2.2.2.2.2.2.2.2.2.2.1
theorem f_a_RESUME_NON_IDEMPOTENT_STEP_ordinal {Z : State} (h : St Z) : Fld Z Z.heap (a_RESUME_NON_IDEMPOTENT_STEP Z) "java/lang/Enum" "ordinal" "I" (.int (3 : Int32)) := h.2.2.2.2.2.2.2.2.2.2.2.2.2.2.1
theorem s_a_RESUME_ATTEMPT_LIMIT_REACHED {Z : State} (h : St Z) : Sta Z Z.heap "com/example/resumatic/resumatic/core/ReasonCode" "RESUME_ATTEMPT_LIMIT_REACHED" "Lcom/example/resumatic/resumatic/core/ReasonCode;" (.ref (a_RESUME_ATTEMPT_LIMIT_REACHED Z)) := h.2.2.2.2.2.2.2.2.2.2.2.2.2.2.2.1
theorem e_a_RESUME_ATTEMPT_LIMIT_REACHED {Z : State} (h : St Z) : Exa Z Z.heap (a_RESUME_ATTEMPT_LIMIT_REACHED Z) "com/example/resumatic/resumatic/core/ReasonCode" := h.2.2.2.2.2.2.2.2.2.2.2.2.2.2.2.2.1
theorem f_a_RESUME_ATTEMPT_LIMIT_REACHED_ordinal {Z : State} (h : St Z) : Fld Z Z.heap (a_RESUME_ATTEMPT_LIMIT_REACHED Z) "java/lang/Enum" "ordinal" "I" (.int (6 : Int32)) := h.2.2.2.2.2.2.2.2.2.2.2.2.2.2.2.2.2.1
theorem s_a_RESUME_BLOCKED_COOLDOWN {Z : State} (h : St Z) : Sta Z Z.heap "com/example/resumatic/resumatic/core/ReasonCode" "RESUME_BLOCKED_COOLDOWN" "Lcom/example/resumatic/resumatic/core/ReasonCode;" (.ref (a_RESUME_BLOCKED_COOLDOWN Z)) := h.2.2.2.2.2.2.2.2.2.2.2.2.2.2.2.2.2.2.1
theorem e_a_RESUME_BLOCKED_COOLDOWN {Z : State} (h : St Z) : Exa Z Z.heap (a_RESUME_BLOCKED_COOLDOWN Z) "com/example/resumatic/resumatic/core/ReasonCode" := h.2.2.2.2.2.2.2.2.2.2.2.2.2.2.2.2.2.2.2.1
theorem f_a_RESUME_BLOCKED_COOLDOWN_ordinal {Z : State} (h : St Z) : Fld Z Z.heap (a_RESUME_BLOCKED_COOLDOWN Z) "java/lang/Enum" "ordinal" "I" (.int (5 : Int32)) := h.2.2.2.2.2.2.2.2.2.2.2.2.2.2.2.2.2.2.2.2.1
theorem s_a_high {Z : State} (h : St Z) : Sta Z Z.heap "java/lang/Integer$IntegerCache" "high" "I" (.int (127 : Int32)) := h.2.2.2.2.2.2.2.2.2.2.2.2.2.2.2.2.2.2.2.2.2.1
theorem s_a_cache {Z : State} (h : St Z) : Sta Z Z.heap "java/lang/Integer$IntegerCache" "cache" "[Ljava/lang/Integer;" (.ref (a_cache Z)) := h.2.2.2.2.2.2.2.2.2.2.2.2.2.2.2.2.2.2.2.2.2.2.1
theorem e_a_cache {Z : State} (h : St Z) : Exa Z Z.heap (a_cache Z) "[Ljava/lang/Integer;" := h.2.2.2.2.2.2.2.2.2.2.2.2.2.2.2.2.2.2.2.2.2.2.2.1
theorem s_compact {Z : State} (h : St Z) : Sta Z Z.heap "java/lang/String" "COMPACT_STRINGS" "Z" (.int (own_si Z "java/lang/String" "COMPACT_STRINGS" "Z")) := h.2.2.2.2.2.2.2.2.2.2.2.2.2.2.2.2.2.2.2.2.2.2.2.2.1
theorem n_compact {Z : State} (h : St Z) : ¬ own_si Z "java/lang/String" "COMPACT_STRINGS" "Z" = 0 := h.2.2.2.2.2.2.2.2.2.2.2.2.2.2.2.2.2.2.2.2.2.2.2.2.2.1
theorem c_a_cache {Z : State} (h : St Z) : own_Cache Z (a_cache Z) "java/lang/Integer" 256 := h.2.2.2.2.2.2.2.2.2.2.2.2.2.2.2.2.2.2.2.2.2.2.2.2.2.2
theorem own_ws {Z : State} {a0 : Array Value} (hw : ∀ d ∈ tables_1, d.before a0 Z = true) : ∀ d ∈ StrChars.Road.words, d.before a0 Z = true := fun d hd => hw d ((by decide +kernel : ∀ d ∈ StrChars.Road.words, d ∈ tables_1) d hd)
theorem d1_0 : decode method_3_code 0 = .ok (.iload_n 0, 1) := by decide +kernel
theorem d1_1 : decode method_3_code 1 = .ok (.ifCond .ne 7, 3) := by decide +kernel
theorem d1_4 : decode method_3_code 4 = .ok (.getstatic 34, 3) := by decide +kernel
theorem d1_7 : decode method_3_code 7 = .ok (.areturn, 1) := by decide +kernel
theorem d1_8 : decode method_3_code 8 = .ok (.iload_n 0, 1) := by decide +kernel
theorem d1_9 : decode method_3_code 9 = .ok (.iconst 1, 1) := by decide +kernel
theorem d1_10 : decode method_3_code 10 = .ok (.if_icmp .ne 7, 3) := by decide +kernel
theorem d1_13 : decode method_3_code 13 = .ok (.getstatic 40, 3) := by decide +kernel
theorem d1_16 : decode method_3_code 16 = .ok (.areturn, 1) := by decide +kernel
theorem d1_17 : decode method_3_code 17 = .ok (.iload_n 0, 1) := by decide +kernel
theorem d1_18 : decode method_3_code 18 = .ok (.iconst 2, 1) := by decide +kernel
theorem d1_19 : decode method_3_code 19 = .ok (.if_icmp .ne 7, 3) := by decide +kernel
theorem d1_22 : decode method_3_code 22 = .ok (.getstatic 43, 3) := by decide +kernel
theorem d1_25 : decode method_3_code 25 = .ok (.areturn, 1) := by decide +kernel
theorem d1_26 : decode method_3_code 26 = .ok (.iload_n 0, 1) := by decide +kernel
theorem d1_27 : decode method_3_code 27 = .ok (.iconst 3, 1) := by decide +kernel
theorem d1_28 : decode method_3_code 28 = .ok (.if_icmp .ne 7, 3) := by decide +kernel
theorem d1_31 : decode method_3_code 31 = .ok (.getstatic 46, 3) := by decide +kernel
theorem d1_34 : decode method_3_code 34 = .ok (.areturn, 1) := by decide +kernel
theorem d1_35 : decode method_3_code 35 = .ok (.iload_n 0, 1) := by decide +kernel
theorem d1_36 : decode method_3_code 36 = .ok (.iconst 4, 1) := by decide +kernel
theorem d1_37 : decode method_3_code 37 = .ok (.if_icmp .ne 7, 3) := by decide +kernel
theorem d1_40 : decode method_3_code 40 = .ok (.getstatic 49, 3) := by decide +kernel
theorem d1_43 : decode method_3_code 43 = .ok (.areturn, 1) := by decide +kernel
theorem d1_44 : decode method_3_code 44 = .ok (.iload_n 0, 1) := by decide +kernel
theorem d1_45 : decode method_3_code 45 = .ok (.iconst 5, 1) := by decide +kernel
theorem d1_46 : decode method_3_code 46 = .ok (.if_icmp .ne 7, 3) := by decide +kernel
theorem d1_49 : decode method_3_code 49 = .ok (.getstatic 52, 3) := by decide +kernel
theorem d1_52 : decode method_3_code 52 = .ok (.areturn, 1) := by decide +kernel
theorem d1_53 : decode method_3_code 53 = .ok (.getstatic 55, 3) := by decide +kernel
theorem d1_56 : decode method_3_code 56 = .ok (.areturn, 1) := by decide +kernel
def fn1 (Z : State) (p0 : Int32) : Addr :=
  if p0 = (0 : Int32) then
    (a_RESUME_ALLOWED Z)
  else
    if p0 = (1 : Int32) then
      (a_RESUME_MISSING_CHECKPOINT Z)
    else
      if p0 = (2 : Int32) then
        (a_RESUME_UNKNOWN_INTERRUPTION_CLASS Z)
      else
        if p0 = (3 : Int32) then
          (a_RESUME_NON_IDEMPOTENT_STEP Z)
        else
          if p0 = (4 : Int32) then
            (a_RESUME_MISSING_RUNTIME_ARTIFACTS Z)
          else
            if p0 = (5 : Int32) then
              (a_RESUME_BLOCKED_COOLDOWN Z)
            else
              (a_RESUME_ATTEMPT_LIMIT_REACHED Z)
theorem ef_1 (m : MethodId) (x0 : Int32) : entryFrame m #[(.int x0)] 1 = mkF m 0 #[.val (.int x0)] [] := by first | (simp [entryFrame, mkF, argsToLocals, Value.category]; done) | rfl
theorem pn_0 : plainName "com/example/resumatic/resumatic/core/ResumeDecisionIsEligiblePinLaw" = true := by first | (simp [plainName, overriddenIn]; done) | decide +kernel
set_option maxRecDepth 65536 in
set_option maxHeartbeats 40000000 in
theorem rm1 (l : Launch) (Z : State) (a0 : Array Value) (hw : ∀ d ∈ tables_1, d.before a0 Z = true) (hS : St Z) (ws : List Jvm.Cond) (p0 : Int32) (h0 : Heap) (n0 : Nat) (O0 : Old Z n0 h0) :
    MetFree l (⟨"com/example/resumatic/resumatic/core/ResumeDecisionIsEligiblePinLaw", "pick", "(I)Lcom/example/resumatic/resumatic/core/ReasonCode;"⟩ : MethodName) (head1 (Jvm.Cond.code (⟨"com/example/resumatic/resumatic/core/ResumeDecisionIsEligiblePinLaw", "pick", "(I)Lcom/example/resumatic/resumatic/core/ReasonCode;"⟩ : MethodName) method_3_code 1 (some (.object "com/example/resumatic/resumatic/core/ReasonCode")) :: ws) ({ frames := 0, cells := 0, slots := 0, locals := 0 } : Room)) (fun a U => a = #[(.int p0)] ∧ Z.Warmed39 U.vm ∧ U.heap = h0) (fun _ _ _ _ _ => True) (fun _ U o U' => ∃ v L, o = .returned v ∧ own_Q (fun v hE L => v = some (.ref (fn1 Z p0)) ∧ Fr n0 L ∧ hE = h0) v U'.heap L ∧ FrameEnd U o U' L ({ frames := 0, cells := 0, slots := 0, locals := 0 } : Room).cells ({ frames := 0, cells := 0, slots := 0, locals := 0 } : Room).slots) := by
  refine MetFree.of_bodySF (plainFor_of_name pn_0) hisR ?_
  intro p e s m args below meth c s₁ Bd hml0 hP hK
  obtain ⟨rfl, hZ, hh⟩ := hP
  have hx := Bd.exec
  have hby := Bd.bytes
  have hml : c.maxLocals = 1 := hml0
  have hown : s.vm.findClass "com/example/resumatic/resumatic/core/ResumeDecisionIsEligiblePinLaw" = some m.cls := findClass_of_methodNamed Bd.named
  have X0 : Stand p l e ({ frames := 0, cells := 0, slots := 0, locals := 0 } : Room) s m #[(.int p0)] below meth c s₁ [] 0 0 := Stand.of_body Bd
  have e0 : s₁.heap = h0 := by rw [← hh, Bd.state]; rfl
  have N0 := Fr.nil n0
  have pre0 : ∀ t, Steps p.tables e below (s₁.setTop (mkF m 0 #[oI p0] [])) t → Steps p.tables e below (s₁.setTop (entryFrame m #[(.int p0)] 1)) t := fun t k => castTop (ef_1 m p0) k
  have pre1 : ∀ t, oP p e below s₁ (mkF m 1 #[oI p0] [(.int p0)]) t → oP p e below s₁ (entryFrame m #[(.int p0)] 1) t := fun t k => pre0 t (by
    show oP p e below s₁ (mkF m 0 #[oI p0] []) _
    refine XS.iloadN X0.here hx rfl (hb hby d1_0) rfl ?_
    exact k)
  by_cases hc2 : p0 = (0 : Int32)
  · obtain ⟨T3, X3, e3, st3⟩ := getS2 X0 hx hZ hown (host := "") (Or.inl (hw _ (List.mem_of_getElem? (i := 5) rfl))) Via.refl e0 ((s_a_RESUME_ALLOWED hS).ext O0.2) (g := (mkF m 4 #[oI p0] [])) rfl (hb hby d1_4)
    obtain ⟨fs, hr, hrun, hended, hW, hsame⟩ := X3.leave (v := some (.ref (a_RESUME_ALLOWED Z))) (fun h => by rw [Bd.returns] at h; cases h)
    refine ⟨_, _, pre1 _ ?_, hrun, hended, _, _, rfl, ?_, ⟨_, rfl⟩, hW, hsame.mono (by decide) (by decide)⟩
    · show oP p e below s₁ (mkF m 1 #[oI p0] [(.int p0)]) _
      refine XS.ifNo X0.here hx rfl (hb hby d1_1) rfl ((if0 _ _).trans (teq hc2).2) ?_
      show oP p e below s₁ (mkF m 4 #[oI p0] []) _
      refine st3 _ ?_
      show oP p e below T3 (mkF m 7 #[oI p0] [(.ref (a_RESUME_ALLOWED Z))]) _
      exact own_retA X3 hx Bd.returns rfl rfl (hb hby d1_7) hr
    · show (some (.ref (a_RESUME_ALLOWED Z)) : Option Value) = some (.ref (fn1 Z p0)) ∧ Fr n0 _ ∧ T3.heap = h0
      rw [e3]
      refine ⟨?_, N0, rfl⟩
      unfold fn1
      rw [if_pos hc2]
  · have pre4 : ∀ t, oP p e below s₁ (mkF m 10 #[oI p0] [(.int (1 : Int32)), (.int p0)]) t → oP p e below s₁ (entryFrame m #[(.int p0)] 1) t := fun t k => pre1 t (by
      show oP p e below s₁ (mkF m 1 #[oI p0] [(.int p0)]) _
      refine XS.ifYes X0.here hx rfl (pc0 := 1) (pc' := 8) rfl (hb hby d1_1) rfl ((if0 _ _).trans (feq hc2).2) (by decide) (by decide) ?_
      show oP p e below s₁ (mkF m 8 #[oI p0] []) _
      refine XS.iloadN X0.here hx rfl (hb hby d1_8) rfl ?_
      show oP p e below s₁ (mkF m 9 #[oI p0] [(.int p0)]) _
      refine XS.iconst X0.here hx rfl (hb hby d1_9) ?_
      exact k)
    by_cases hc5 : p0 = (1 : Int32)
    · obtain ⟨T6, X6, e6, st6⟩ := getS2 X0 hx hZ hown (host := "") (Or.inl (hw _ (List.mem_of_getElem? (i := 70) rfl))) Via.refl e0 ((s_a_RESUME_MISSING_CHECKPOINT hS).ext O0.2) (g := (mkF m 13 #[oI p0] [])) rfl (hb hby d1_13)
      obtain ⟨fs, hr, hrun, hended, hW, hsame⟩ := X6.leave (v := some (.ref (a_RESUME_MISSING_CHECKPOINT Z))) (fun h => by rw [Bd.returns] at h; cases h)
      refine ⟨_, _, pre4 _ ?_, hrun, hended, _, _, rfl, ?_, ⟨_, rfl⟩, hW, hsame.mono (by decide) (by decide)⟩
      · show oP p e below s₁ (mkF m 10 #[oI p0] [(.int (1 : Int32)), (.int p0)]) _
        refine XS.icmpNo X0.here hx rfl (hb hby d1_10) rfl (teq hc5).2 ?_
        show oP p e below s₁ (mkF m 13 #[oI p0] []) _
        refine st6 _ ?_
        show oP p e below T6 (mkF m 16 #[oI p0] [(.ref (a_RESUME_MISSING_CHECKPOINT Z))]) _
        exact own_retA X6 hx Bd.returns rfl rfl (hb hby d1_16) hr
      · show (some (.ref (a_RESUME_MISSING_CHECKPOINT Z)) : Option Value) = some (.ref (fn1 Z p0)) ∧ Fr n0 _ ∧ T6.heap = h0
        rw [e6]
        refine ⟨?_, N0, rfl⟩
        unfold fn1
        rw [if_neg hc2, if_pos hc5]
    · have pre7 : ∀ t, oP p e below s₁ (mkF m 19 #[oI p0] [(.int (2 : Int32)), (.int p0)]) t → oP p e below s₁ (entryFrame m #[(.int p0)] 1) t := fun t k => pre4 t (by
        show oP p e below s₁ (mkF m 10 #[oI p0] [(.int (1 : Int32)), (.int p0)]) _
        refine XS.icmpYes X0.here hx rfl (pc0 := 10) (pc' := 17) rfl (hb hby d1_10) rfl (feq hc5).2 (by decide) (by decide) ?_
        show oP p e below s₁ (mkF m 17 #[oI p0] []) _
        refine XS.iloadN X0.here hx rfl (hb hby d1_17) rfl ?_
        show oP p e below s₁ (mkF m 18 #[oI p0] [(.int p0)]) _
        refine XS.iconst X0.here hx rfl (hb hby d1_18) ?_
        exact k)
      by_cases hc8 : p0 = (2 : Int32)
      · obtain ⟨T9, X9, e9, st9⟩ := getS2 X0 hx hZ hown (host := "") (Or.inl (hw _ (List.mem_of_getElem? (i := 68) rfl))) Via.refl e0 ((s_a_RESUME_UNKNOWN_INTERRUPTION_CLASS hS).ext O0.2) (g := (mkF m 22 #[oI p0] [])) rfl (hb hby d1_22)
        obtain ⟨fs, hr, hrun, hended, hW, hsame⟩ := X9.leave (v := some (.ref (a_RESUME_UNKNOWN_INTERRUPTION_CLASS Z))) (fun h => by rw [Bd.returns] at h; cases h)
        refine ⟨_, _, pre7 _ ?_, hrun, hended, _, _, rfl, ?_, ⟨_, rfl⟩, hW, hsame.mono (by decide) (by decide)⟩
        · show oP p e below s₁ (mkF m 19 #[oI p0] [(.int (2 : Int32)), (.int p0)]) _
          refine XS.icmpNo X0.here hx rfl (hb hby d1_19) rfl (teq hc8).2 ?_
          show oP p e below s₁ (mkF m 22 #[oI p0] []) _
          refine st9 _ ?_
          show oP p e below T9 (mkF m 25 #[oI p0] [(.ref (a_RESUME_UNKNOWN_INTERRUPTION_CLASS Z))]) _
          exact own_retA X9 hx Bd.returns rfl rfl (hb hby d1_25) hr
        · show (some (.ref (a_RESUME_UNKNOWN_INTERRUPTION_CLASS Z)) : Option Value) = some (.ref (fn1 Z p0)) ∧ Fr n0 _ ∧ T9.heap = h0
          rw [e9]
          refine ⟨?_, N0, rfl⟩
          unfold fn1
          rw [if_neg hc2, if_neg hc5, if_pos hc8]
      · have pre10 : ∀ t, oP p e below s₁ (mkF m 28 #[oI p0] [(.int (3 : Int32)), (.int p0)]) t → oP p e below s₁ (entryFrame m #[(.int p0)] 1) t := fun t k => pre7 t (by
          show oP p e below s₁ (mkF m 19 #[oI p0] [(.int (2 : Int32)), (.int p0)]) _
          refine XS.icmpYes X0.here hx rfl (pc0 := 19) (pc' := 26) rfl (hb hby d1_19) rfl (feq hc8).2 (by decide) (by decide) ?_
          show oP p e below s₁ (mkF m 26 #[oI p0] []) _
          refine XS.iloadN X0.here hx rfl (hb hby d1_26) rfl ?_
          show oP p e below s₁ (mkF m 27 #[oI p0] [(.int p0)]) _
          refine XS.iconst X0.here hx rfl (hb hby d1_27) ?_
          exact k)
        by_cases hc11 : p0 = (3 : Int32)
        · obtain ⟨T12, X12, e12, st12⟩ := getS2 X0 hx hZ hown (host := "") (Or.inl (hw _ (List.mem_of_getElem? (i := 87) rfl))) Via.refl e0 ((s_a_RESUME_NON_IDEMPOTENT_STEP hS).ext O0.2) (g := (mkF m 31 #[oI p0] [])) rfl (hb hby d1_31)
          obtain ⟨fs, hr, hrun, hended, hW, hsame⟩ := X12.leave (v := some (.ref (a_RESUME_NON_IDEMPOTENT_STEP Z))) (fun h => by rw [Bd.returns] at h; cases h)
          refine ⟨_, _, pre10 _ ?_, hrun, hended, _, _, rfl, ?_, ⟨_, rfl⟩, hW, hsame.mono (by decide) (by decide)⟩
          · show oP p e below s₁ (mkF m 28 #[oI p0] [(.int (3 : Int32)), (.int p0)]) _
            refine XS.icmpNo X0.here hx rfl (hb hby d1_28) rfl (teq hc11).2 ?_
            show oP p e below s₁ (mkF m 31 #[oI p0] []) _
            refine st12 _ ?_
            show oP p e below T12 (mkF m 34 #[oI p0] [(.ref (a_RESUME_NON_IDEMPOTENT_STEP Z))]) _
            exact own_retA X12 hx Bd.returns rfl rfl (hb hby d1_34) hr
          · show (some (.ref (a_RESUME_NON_IDEMPOTENT_STEP Z)) : Option Value) = some (.ref (fn1 Z p0)) ∧ Fr n0 _ ∧ T12.heap = h0
            rw [e12]
            refine ⟨?_, N0, rfl⟩
            unfold fn1
            rw [if_neg hc2, if_neg hc5, if_neg hc8, if_pos hc11]
        · have pre13 : ∀ t, oP p e below s₁ (mkF m 37 #[oI p0] [(.int (4 : Int32)), (.int p0)]) t → oP p e below s₁ (entryFrame m #[(.int p0)] 1) t := fun t k => pre10 t (by
            show oP p e below s₁ (mkF m 28 #[oI p0] [(.int (3 : Int32)), (.int p0)]) _
            refine XS.icmpYes X0.here hx rfl (pc0 := 28) (pc' := 35) rfl (hb hby d1_28) rfl (feq hc11).2 (by decide) (by decide) ?_
            show oP p e below s₁ (mkF m 35 #[oI p0] []) _
            refine XS.iloadN X0.here hx rfl (hb hby d1_35) rfl ?_
            show oP p e below s₁ (mkF m 36 #[oI p0] [(.int p0)]) _
            refine XS.iconst X0.here hx rfl (hb hby d1_36) ?_
            exact k)
          by_cases hc14 : p0 = (4 : Int32)
          · obtain ⟨T15, X15, e15, st15⟩ := getS2 X0 hx hZ hown (host := "") (Or.inl (hw _ (List.mem_of_getElem? (i := 38) rfl))) Via.refl e0 ((s_a_RESUME_MISSING_RUNTIME_ARTIFACTS hS).ext O0.2) (g := (mkF m 40 #[oI p0] [])) rfl (hb hby d1_40)
            obtain ⟨fs, hr, hrun, hended, hW, hsame⟩ := X15.leave (v := some (.ref (a_RESUME_MISSING_RUNTIME_ARTIFACTS Z))) (fun h => by rw [Bd.returns] at h; cases h)
            refine ⟨_, _, pre13 _ ?_, hrun, hended, _, _, rfl, ?_, ⟨_, rfl⟩, hW, hsame.mono (by decide) (by decide)⟩
            · show oP p e below s₁ (mkF m 37 #[oI p0] [(.int (4 : Int32)), (.int p0)]) _
              refine XS.icmpNo X0.here hx rfl (hb hby d1_37) rfl (teq hc14).2 ?_
              show oP p e below s₁ (mkF m 40 #[oI p0] []) _
              refine st15 _ ?_
              show oP p e below T15 (mkF m 43 #[oI p0] [(.ref (a_RESUME_MISSING_RUNTIME_ARTIFACTS Z))]) _
              exact own_retA X15 hx Bd.returns rfl rfl (hb hby d1_43) hr
            · show (some (.ref (a_RESUME_MISSING_RUNTIME_ARTIFACTS Z)) : Option Value) = some (.ref (fn1 Z p0)) ∧ Fr n0 _ ∧ T15.heap = h0
              rw [e15]
              refine ⟨?_, N0, rfl⟩
              unfold fn1
              rw [if_neg hc2, if_neg hc5, if_neg hc8, if_neg hc11, if_pos hc14]
          · have pre16 : ∀ t, oP p e below s₁ (mkF m 46 #[oI p0] [(.int (5 : Int32)), (.int p0)]) t → oP p e below s₁ (entryFrame m #[(.int p0)] 1) t := fun t k => pre13 t (by
              show oP p e below s₁ (mkF m 37 #[oI p0] [(.int (4 : Int32)), (.int p0)]) _
              refine XS.icmpYes X0.here hx rfl (pc0 := 37) (pc' := 44) rfl (hb hby d1_37) rfl (feq hc14).2 (by decide) (by decide) ?_
              show oP p e below s₁ (mkF m 44 #[oI p0] []) _
              refine XS.iloadN X0.here hx rfl (hb hby d1_44) rfl ?_
              show oP p e below s₁ (mkF m 45 #[oI p0] [(.int p0)]) _
              refine XS.iconst X0.here hx rfl (hb hby d1_45) ?_
              exact k)
            by_cases hc17 : p0 = (5 : Int32)
            · obtain ⟨T18, X18, e18, st18⟩ := getS2 X0 hx hZ hown (host := "") (Or.inl (hw _ (List.mem_of_getElem? (i := 91) rfl))) Via.refl e0 ((s_a_RESUME_BLOCKED_COOLDOWN hS).ext O0.2) (g := (mkF m 49 #[oI p0] [])) rfl (hb hby d1_49)
              obtain ⟨fs, hr, hrun, hended, hW, hsame⟩ := X18.leave (v := some (.ref (a_RESUME_BLOCKED_COOLDOWN Z))) (fun h => by rw [Bd.returns] at h; cases h)
              refine ⟨_, _, pre16 _ ?_, hrun, hended, _, _, rfl, ?_, ⟨_, rfl⟩, hW, hsame.mono (by decide) (by decide)⟩
              · show oP p e below s₁ (mkF m 46 #[oI p0] [(.int (5 : Int32)), (.int p0)]) _
                refine XS.icmpNo X0.here hx rfl (hb hby d1_46) rfl (teq hc17).2 ?_
                show oP p e below s₁ (mkF m 49 #[oI p0] []) _
                refine st18 _ ?_
                show oP p e below T18 (mkF m 52 #[oI p0] [(.ref (a_RESUME_BLOCKED_COOLDOWN Z))]) _
                exact own_retA X18 hx Bd.returns rfl rfl (hb hby d1_52) hr
              · show (some (.ref (a_RESUME_BLOCKED_COOLDOWN Z)) : Option Value) = some (.ref (fn1 Z p0)) ∧ Fr n0 _ ∧ T18.heap = h0
                rw [e18]
                refine ⟨?_, N0, rfl⟩
                unfold fn1
                rw [if_neg hc2, if_neg hc5, if_neg hc8, if_neg hc11, if_neg hc14, if_pos hc17]
            · obtain ⟨T19, X19, e19, st19⟩ := getS2 X0 hx hZ hown (host := "") (Or.inl (hw _ (List.mem_of_getElem? (i := 89) rfl))) Via.refl e0 ((s_a_RESUME_ATTEMPT_LIMIT_REACHED hS).ext O0.2) (g := (mkF m 53 #[oI p0] [])) rfl (hb hby d1_53)
              obtain ⟨fs, hr, hrun, hended, hW, hsame⟩ := X19.leave (v := some (.ref (a_RESUME_ATTEMPT_LIMIT_REACHED Z))) (fun h => by rw [Bd.returns] at h; cases h)
              refine ⟨_, _, pre16 _ ?_, hrun, hended, _, _, rfl, ?_, ⟨_, rfl⟩, hW, hsame.mono (by decide) (by decide)⟩
              · show oP p e below s₁ (mkF m 46 #[oI p0] [(.int (5 : Int32)), (.int p0)]) _
                refine XS.icmpYes X0.here hx rfl (pc0 := 46) (pc' := 53) rfl (hb hby d1_46) rfl (feq hc17).2 (by decide) (by decide) ?_
                show oP p e below s₁ (mkF m 53 #[oI p0] []) _
                refine st19 _ ?_
                show oP p e below T19 (mkF m 56 #[oI p0] [(.ref (a_RESUME_ATTEMPT_LIMIT_REACHED Z))]) _
                exact own_retA X19 hx Bd.returns rfl rfl (hb hby d1_56) hr
              · show (some (.ref (a_RESUME_ATTEMPT_LIMIT_REACHED Z)) : Option Value) = some (.ref (fn1 Z p0)) ∧ Fr n0 _ ∧ T19.heap = h0
                rw [e19]
                refine ⟨?_, N0, rfl⟩
                unfold fn1
                rw [if_neg hc2, if_neg hc5, if_neg hc8, if_neg hc11, if_neg hc14, if_neg hc17]
theorem d12_0 : decode jdk_18_method_1_code 0 = .ok (.aload_n 0, 1) := by decide +kernel
theorem d12_1 : decode jdk_18_method_1_code 1 = .ok (.invokespecial 1, 3) := by decide +kernel
theorem d12_4 : decode jdk_18_method_1_code 4 = .ok (.return_, 1) := by decide +kernel
theorem ef_12 (m : MethodId) (x0 : Addr) : entryFrame m #[(.ref x0)] 1 = mkF m 0 #[.val (.ref x0)] [] := by first | (simp [entryFrame, mkF, argsToLocals, Value.category]; done) | rfl
theorem pn_1 : plainName "java/lang/Number" = true := by first | (simp [plainName, overriddenIn]; done) | decide +kernel
set_option maxRecDepth 65536 in
set_option maxHeartbeats 40000000 in
theorem rm12 (l : Launch) (Z : State) (a0 : Array Value) (hw : ∀ d ∈ tables_1, d.before a0 Z = true) (hS : St Z) (ws : List Jvm.Cond) (r0 : Addr) (h0 : Heap) (n0 : Nat) (O0 : Old Z n0 h0) :
    MetFree l (⟨"java/lang/Number", "<init>", "()V"⟩ : MethodName) (head1 (Jvm.Cond.code (⟨"java/lang/Number", "<init>", "()V"⟩ : MethodName) jdk_18_method_1_code 1 none :: ws) ({ frames := 1, cells := 0, slots := 0, locals := 12 } : Room)) (fun a U => a = #[(.ref r0)] ∧ Z.Warmed39 U.vm ∧ U.heap = h0) (fun _ _ _ _ _ => True) (fun _ U o U' => ∃ v L, o = .returned v ∧ own_Q (fun v hE L => v = none ∧ Fr n0 L ∧ Keep h0 hE []) v U'.heap L ∧ FrameEnd U o U' L ({ frames := 1, cells := 0, slots := 0, locals := 12 } : Room).cells ({ frames := 1, cells := 0, slots := 0, locals := 12 } : Room).slots) := by
  refine MetFree.of_bodySF (plainFor_of_name pn_1) hisR ?_
  intro p e s m args below meth c s₁ Bd hml0 hP hK
  obtain ⟨rfl, hZ, hh⟩ := hP
  have hx := Bd.exec
  have hby := Bd.bytes
  have hml : c.maxLocals = 1 := hml0
  have hown : s.vm.findClass "java/lang/Number" = some m.cls := findClass_of_methodNamed Bd.named
  have hnm := (name_of_methodNamed Bd.named Bd.method).1
  have X0 : Stand p l e ({ frames := 1, cells := 0, slots := 0, locals := 12 } : Room) s m #[(.ref r0)] below meth c s₁ [] 0 0 := Stand.of_body Bd
  have e0 : s₁.heap = h0 := by rw [← hh, Bd.state]; rfl
  have N0 := Fr.nil n0
  have pre0 : ∀ t, Steps p.tables e below (s₁.setTop (mkF m 0 #[oR r0] [])) t → Steps p.tables e below (s₁.setTop (entryFrame m #[(.ref r0)] 1)) t := fun t k => castTop (ef_12 m r0) k
  obtain ⟨T20, X20, e20, st20⟩ := initO X0 hx hZ hown (hw _ (List.mem_of_getElem? (i := 84) rfl)) (hw _ (List.mem_of_getElem? (i := 22) rfl)) (hw _ (List.mem_of_getElem? (i := 23) rfl)) e0 (g := (mkF m 1 #[oR r0] [(.ref r0)])) rfl (by rw [hml]; rfl) rfl (hb hby d12_1) (by decide) (W := 0) (by show 2 * 0 + _ ≤ _; exact Nat.le_of_eq rfl) (by decide)
  obtain ⟨fs, hr, hrun, hended, hW, hsame⟩ := X20.leave (v := none) (fun _ => rfl)
  refine ⟨_, _, pre0 _ ?_, hrun, hended, _, _, rfl, ?_, ⟨_, rfl⟩, hW, hsame.mono (by decide) (by decide)⟩
  · show oP p e below s₁ (mkF m 0 #[oR r0] []) _
    refine XS.aloadN X0.here hx rfl (hb hby d12_0) rfl rfl ?_
    show oP p e below s₁ (mkF m 1 #[oR r0] [(.ref r0)]) _
    refine st20 _ ?_
    show oP p e below T20 (mkF m 4 #[oR r0] []) _
    exact X20.returnOut hx Bd.returns (hb hby d12_4) hr
  · show (none : Option Value) = none ∧ Fr n0 _ ∧ Keep h0 T20.heap []
    rw [e20]
    exact ⟨rfl, N0, (Keep.refl h0 [])⟩
theorem d11_0 : decode jdk_33_method_23_code 0 = .ok (.aload_n 0, 1) := by decide +kernel
theorem d11_1 : decode jdk_33_method_23_code 1 = .ok (.invokespecial 202, 3) := by decide +kernel
theorem pd_0 : parseMethodDescriptor "()V" = some ⟨[], none⟩ := by decide +kernel
theorem d11_4 : decode jdk_33_method_23_code 4 = .ok (.aload_n 0, 1) := by decide +kernel
theorem d11_5 : decode jdk_33_method_23_code 5 = .ok (.iload_n 1, 1) := by decide +kernel
theorem d11_6 : decode jdk_33_method_23_code 6 = .ok (.putfield 205, 3) := by decide +kernel
theorem d11_9 : decode jdk_33_method_23_code 9 = .ok (.return_, 1) := by decide +kernel
theorem ef_11 (m : MethodId) (x0 : Addr) (x1 : Int32) : entryFrame m #[(.ref x0), (.int x1)] 2 = mkF m 0 #[.val (.ref x0), .val (.int x1)] [] := by first | (simp [entryFrame, mkF, argsToLocals, Value.category]; done) | rfl
theorem pn_2 : plainName "java/lang/Integer" = true := by first | (simp [plainName, overriddenIn]; done) | decide +kernel
set_option maxRecDepth 65536 in
set_option maxHeartbeats 40000000 in
theorem rm11 (l : Launch) (Z : State) (a0 : Array Value) (hw : ∀ d ∈ tables_1, d.before a0 Z = true) (hS : St Z) (ws : List Jvm.Cond) (r0 : Addr) (p1 : Int32) (h0 : Heap) (n0 : Nat) (O0 : Old Z n0 h0) (E_r0 : Exa Z h0 r0 "java/lang/Integer") (F_value_r0 : Fld Z h0 r0 "java/lang/Integer" "value" "I" (.int (0 : Int32))) (g_r0 : n0 ≤ r0) :
    MetFree l (⟨"java/lang/Integer", "<init>", "(I)V"⟩ : MethodName) (head1 (Jvm.Cond.code (⟨"java/lang/Integer", "<init>", "(I)V"⟩ : MethodName) jdk_33_method_23_code 2 none :: ws) ({ frames := 2, cells := 0, slots := 0, locals := 24 } : Room)) (fun a U => a = #[(.ref r0), (.int p1)] ∧ Z.Warmed39 U.vm ∧ U.heap = h0) (fun _ _ _ _ _ => True) (fun _ U o U' => ∃ v L, o = .returned v ∧ own_Q (fun v hE L => v = none ∧ Fr n0 L ∧ Keep h0 hE [r0] ∧ Exa Z hE r0 "java/lang/Integer" ∧ Fld Z hE r0 "java/lang/Integer" "value" "I" (.int p1)) v U'.heap L ∧ FrameEnd U o U' L ({ frames := 2, cells := 0, slots := 0, locals := 24 } : Room).cells ({ frames := 2, cells := 0, slots := 0, locals := 24 } : Room).slots) := by
  refine MetFree.of_bodySF (plainFor_of_name pn_2) hisR ?_
  intro p e s m args below meth c s₁ Bd hml0 hP hK
  obtain ⟨rfl, hZ, hh⟩ := hP
  have hx := Bd.exec
  have hby := Bd.bytes
  have hml : c.maxLocals = 2 := hml0
  have hown : s.vm.findClass "java/lang/Integer" = some m.cls := findClass_of_methodNamed Bd.named
  have hnm := (name_of_methodNamed Bd.named Bd.method).1
  have X0 : Stand p l e ({ frames := 2, cells := 0, slots := 0, locals := 24 } : Room) s m #[(.ref r0), (.int p1)] below meth c s₁ [] 0 0 := Stand.of_body Bd
  have e0 : s₁.heap = h0 := by rw [← hh, Bd.state]; rfl
  have N0 := Fr.nil n0
  have pre0 : ∀ t, Steps p.tables e below (s₁.setTop (mkF m 0 #[oR r0, oI p1] [])) t → Steps p.tables e below (s₁.setTop (entryFrame m #[(.ref r0), (.int p1)] 2)) t := fun t k => castTop (ef_11 m r0 p1) k
  obtain ⟨_, _, ⟨T21, L21, k21, n21⟩, -, X21, ⟨Lc21, hQ21, l21, y21, z21⟩, st21⟩ := X0.specialBack hx (y := (⟨"java/lang/Number", "<init>", "()V"⟩ : MethodName)) rfl hown (mvT hZ (hw _ (List.mem_of_getElem? (i := 78) rfl))) (mvT hZ (hw _ (List.mem_of_getElem? (i := 79) rfl))) (mvT hZ (hw _ (List.mem_of_getElem? (i := 83) rfl))) (by decide) (backOf (W := 0) (rm12 l Z a0 hw hS [] r0 h0 n0 O0 ) hZ (hw _ (List.mem_of_getElem? (i := 83) rfl)) (hw _ (List.mem_of_getElem? (i := 82) rfl)) (by decide) (by decide)) (g := (mkF m 1 #[oR r0, oI p1] [(.ref r0)])) rfl (by rw [hml]; rfl) (Steps.refl _) (a := r0) (argsL := []) (rest := []) (lenOf pd_0 rfl) rfl (by show 2 * 0 + _ ≤ _; exact Nat.le_of_eq rfl) (hb hby d11_1) (fun _ _ => ⟨rfl, e0, (by decide : 0 + 0 ≤ _), (by decide : 0 + 0 ≤ _)⟩)
  dsimp only [Pt.U, Pt.locs, Pt.cells, Pt.slots] at X21 l21 y21 z21 st21 hQ21
  subst l21 y21 z21
  obtain ⟨v21, N21q, K21q⟩ := hQ21
  subst v21
  have N21 := Fr.app N0 N21q
  have O21 := O0.keep K21q all0
  have Kc21 := (Keep.refl h0 [r0]).trans K21q all0
  have fx22 := (E_r0.keep K21q)
  have fx23 := (F_value_r0.keep K21q nin0)
  obtain ⟨T24, h24, X24, e24, W24, st24⟩ := putF X21 hx hZ hown (host := "") (Or.inl (hw _ (List.mem_of_getElem? (i := 85) rfl))) Via.refl rfl fx23 fx22 (Or.inr ⟨(hw _ (List.mem_of_getElem? (i := 86) rfl)), rfl, hnm⟩) (hw _ (List.mem_of_getElem? (i := 73) rfl)) (ty := .int) (by decide) rfl rfl (g := (mkF m 6 #[oR r0, oI p1] [(.int p1), (.ref r0)])) rfl rfl (hb hby d11_6)
  have N24 := Fr.snoc X24 N21 g_r0
  have O24 := O21.wr W24 g_r0
  have Kc24 := Kc21.wr W24 (Or.inl (List.mem_of_getElem? (i := 0) rfl))
  have Fw24 := fx23.same W24
  obtain ⟨fs, hr, hrun, hended, hW, hsame⟩ := X24.leave (v := none) (fun _ => rfl)
  refine ⟨_, _, pre0 _ ?_, hrun, hended, _, _, rfl, ?_, ⟨_, rfl⟩, hW, hsame.mono (by decide) (by decide)⟩
  · show oP p e below s₁ (mkF m 0 #[oR r0, oI p1] []) _
    refine XS.aloadN X0.here hx rfl (hb hby d11_0) rfl rfl ?_
    show oP p e below s₁ (mkF m 1 #[oR r0, oI p1] [(.ref r0)]) _
    refine st21.trans ?_
    show oP p e below T21 (mkF m 4 #[oR r0, oI p1] []) _
    refine XS.aloadN X21.here hx rfl (hb hby d11_4) rfl rfl ?_
    show oP p e below T21 (mkF m 5 #[oR r0, oI p1] [(.ref r0)]) _
    refine XS.iloadN X21.here hx rfl (hb hby d11_5) rfl ?_
    show oP p e below T21 (mkF m 6 #[oR r0, oI p1] [(.int p1), (.ref r0)]) _
    refine st24 _ ?_
    show oP p e below T24 (mkF m 9 #[oR r0, oI p1] []) _
    exact X24.returnOut hx Bd.returns (hb hby d11_9) hr
  · show (none : Option Value) = none ∧ Fr n0 _ ∧ Keep h0 T24.heap [r0] ∧ Exa Z T24.heap r0 "java/lang/Integer" ∧ Fld Z T24.heap r0 "java/lang/Integer" "value" "I" (.int p1)
    rw [e24]
    have fx25 := (fx22.wr W24)
    exact ⟨rfl, N24, Kc24, fx25, Fw24⟩
theorem d2_0 : decode jdk_33_method_22_code 0 = .ok (.iload_n 0, 1) := by decide +kernel
theorem d2_1 : decode jdk_33_method_22_code 1 = .ok (.bipush (-128), 2) := by decide +kernel
theorem d2_3 : decode jdk_33_method_22_code 3 = .ok (.if_icmp .lt 20, 3) := by decide +kernel
theorem d2_23 : decode jdk_33_method_22_code 23 = .ok (.new 1, 3) := by decide +kernel
theorem d2_26 : decode jdk_33_method_22_code 26 = .ok (.dup, 1) := by decide +kernel
theorem d2_27 : decode jdk_33_method_22_code 27 = .ok (.iload_n 0, 1) := by decide +kernel
theorem d2_28 : decode jdk_33_method_22_code 28 = .ok (.invokespecial 199, 3) := by decide +kernel
theorem pd_1 : parseMethodDescriptor "(I)V" = some ⟨[.int], none⟩ := by decide +kernel
theorem d2_31 : decode jdk_33_method_22_code 31 = .ok (.areturn, 1) := by decide +kernel
theorem d2_6 : decode jdk_33_method_22_code 6 = .ok (.iload_n 0, 1) := by decide +kernel
theorem d2_7 : decode jdk_33_method_22_code 7 = .ok (.getstatic 191, 3) := by decide +kernel
theorem d2_10 : decode jdk_33_method_22_code 10 = .ok (.if_icmp .gt 13, 3) := by decide +kernel
theorem d2_13 : decode jdk_33_method_22_code 13 = .ok (.getstatic 195, 3) := by decide +kernel
theorem d2_16 : decode jdk_33_method_22_code 16 = .ok (.iload_n 0, 1) := by decide +kernel
theorem d2_17 : decode jdk_33_method_22_code 17 = .ok (.sipush 128, 3) := by decide +kernel
theorem d2_20 : decode jdk_33_method_22_code 20 = .ok (.iadd, 1) := by decide +kernel
theorem d2_21 : decode jdk_33_method_22_code 21 = .ok (.aaload, 1) := by decide +kernel
theorem d2_22 : decode jdk_33_method_22_code 22 = .ok (.areturn, 1) := by decide +kernel
theorem ef_2 (m : MethodId) (x0 : Int32) : entryFrame m #[(.int x0)] 1 = mkF m 0 #[.val (.int x0)] [] := by first | (simp [entryFrame, mkF, argsToLocals, Value.category]; done) | rfl
set_option maxRecDepth 65536 in
set_option maxHeartbeats 40000000 in
theorem rm2 (l : Launch) (Z : State) (a0 : Array Value) (hw : ∀ d ∈ tables_1, d.before a0 Z = true) (hS : St Z) (ws : List Jvm.Cond) (p0 : Int32) (h0 : Heap) (n0 : Nat) (O0 : Old Z n0 h0) :
    MetFree l (⟨"java/lang/Integer", "valueOf", "(I)Ljava/lang/Integer;"⟩ : MethodName) (head1 (Jvm.Cond.code (⟨"java/lang/Integer", "valueOf", "(I)Ljava/lang/Integer;"⟩ : MethodName) jdk_33_method_22_code 1 (some (.object "java/lang/Integer")) :: ws) ({ frames := 3, cells := 1, slots := 1, locals := 38 } : Room)) (fun a U => a = #[(.int p0)] ∧ Z.Warmed39 U.vm ∧ U.heap = h0) (fun _ _ _ _ _ => True) (fun _ U o U' => ∃ v L, o = .returned v ∧ own_Q (fun v hE L => ∃ (b : Addr), v = some (.ref b) ∧ Fr n0 L ∧ Keep h0 hE [] ∧ Exa Z hE b "java/lang/Integer") v U'.heap L ∧ FrameEnd U o U' L ({ frames := 3, cells := 1, slots := 1, locals := 38 } : Room).cells ({ frames := 3, cells := 1, slots := 1, locals := 38 } : Room).slots) := by
  refine MetFree.of_bodySF (plainFor_of_name pn_2) hisR ?_
  intro p e s m args below meth c s₁ Bd hml0 hP hK
  obtain ⟨rfl, hZ, hh⟩ := hP
  have hx := Bd.exec
  have hby := Bd.bytes
  have hml : c.maxLocals = 1 := hml0
  have hown : s.vm.findClass "java/lang/Integer" = some m.cls := findClass_of_methodNamed Bd.named
  have hnm := (name_of_methodNamed Bd.named Bd.method).1
  have X0 : Stand p l e ({ frames := 3, cells := 1, slots := 1, locals := 38 } : Room) s m #[(.int p0)] below meth c s₁ [] 0 0 := Stand.of_body Bd
  have e0 : s₁.heap = h0 := by rw [← hh, Bd.state]; rfl
  have N0 := Fr.nil n0
  have pre0 : ∀ t, Steps p.tables e below (s₁.setTop (mkF m 0 #[oI p0] [])) t → Steps p.tables e below (s₁.setTop (entryFrame m #[(.int p0)] 1)) t := fun t k => castTop (ef_2 m p0) k
  have pre26 : ∀ t, oP p e below s₁ (mkF m 3 #[oI p0] [(.int (-128 : Int32)), (.int p0)]) t → oP p e below s₁ (entryFrame m #[(.int p0)] 1) t := fun t k => pre0 t (by
    show oP p e below s₁ (mkF m 0 #[oI p0] []) _
    refine XS.iloadN X0.here hx rfl (hb hby d2_0) rfl ?_
    show oP p e below s₁ (mkF m 1 #[oI p0] [(.int p0)]) _
    refine XS.bipush X0.here hx rfl (hb hby d2_1) ?_
    exact k)
  by_cases hc27 : p0 < (-128 : Int32)
  · obtain ⟨T28, h28, X28, e28, E28, A28, D28, -, st28⟩ := newO X0 hx hZ hown (hw _ (List.mem_of_getElem? (i := 72) rfl)) (hw _ (List.mem_of_getElem? (i := 73) rfl)) (hw _ (List.mem_of_getElem? (i := 10) rfl)) e0 (g := (mkF m 23 #[oI p0] [])) rfl (hb hby d2_23) (by decide) (by decide)
    obtain ⟨b28, g28⟩ : ∃ z, z = h0.size := ⟨_, rfl⟩
    have g_b28 : n0 ≤ b28 := Nat.le_trans (own_old_le O0) (Nat.le_of_eq g28.symm)
    have sz_b28 : h0.size ≤ b28 := Nat.le_trans (Keep.refl h0 []).1 (Nat.le_of_eq g28.symm)
    rw [← g28] at A28 D28 st28
    have O28 := O0.ext E28
    have Kc28 := (Keep.refl h0 []).ext E28
    have F_value_b28 : Fld Z h28 b28 "java/lang/Integer" "value" "I" (.int (0 : Int32)) := D28 (Or.inr (hw _ (List.mem_of_getElem? (i := 86) rfl))) (ty := .int) (by decide)
    obtain ⟨_, _, ⟨T29, L29, k29, n29⟩, -, X29, ⟨Lc29, hQ29, l29, y29, z29⟩, st29⟩ := X28.specialBack hx (y := (⟨"java/lang/Integer", "<init>", "(I)V"⟩ : MethodName)) rfl hown (mvT hZ (hw _ (List.mem_of_getElem? (i := 74) rfl))) (mvT hZ (hw _ (List.mem_of_getElem? (i := 75) rfl))) (mvT hZ (hw _ (List.mem_of_getElem? (i := 77) rfl))) (by decide) (backOf (W := 1) (rm11 l Z a0 hw hS [] b28 p0 h28 n0 O28 A28 F_value_b28 g_b28) hZ (hw _ (List.mem_of_getElem? (i := 77) rfl)) (hw _ (List.mem_of_getElem? (i := 10) rfl)) (by decide) (by decide)) (g := (mkF m 28 #[oI p0] [(.int p0), (.ref b28), (.ref b28)])) rfl (by rw [hml]; rfl) (Steps.refl _) (a := b28) (argsL := [(.int p0)]) (rest := [(.ref b28)]) (lenOf pd_1 rfl) rfl (by show 2 * 0 + _ ≤ _; exact Nat.le_of_eq rfl) (hb hby d2_28) (fun _ _ => ⟨rfl, e28, (by decide : 1 + 0 ≤ _), (by decide : 1 + 0 ≤ _)⟩)
    dsimp only [Pt.U, Pt.locs, Pt.cells, Pt.slots] at X29 l29 y29 z29 st29 hQ29
    subst l29 y29 z29
    obtain ⟨v29, N29q, K29q, po29_0, po29_1⟩ := hQ29
    subst v29
    have N29 := Fr.app N0 N29q
    have O29 := O28.keep K29q (allS g_b28 all0)
    have Kc29 := Kc28.trans K29q (allS (Or.inr sz_b28) all0)
    obtain ⟨fs, hr, hrun, hended, hW, hsame⟩ := X29.leave (v := some (.ref b28)) (fun h => by rw [Bd.returns] at h; cases h)
    refine ⟨_, _, pre26 _ ?_, hrun, hended, _, _, rfl, ?_, ⟨_, rfl⟩, hW, hsame.mono (by decide) (by decide)⟩
    · show oP p e below s₁ (mkF m 3 #[oI p0] [(.int (-128 : Int32)), (.int p0)]) _
      refine XS.icmpYes X0.here hx rfl (pc0 := 3) (pc' := 23) rfl (hb hby d2_3) rfl (tlt hc27).1 (by decide) (by decide) ?_
      show oP p e below s₁ (mkF m 23 #[oI p0] []) _
      refine st28 _ ?_
      show oP p e below T28 (mkF m 26 #[oI p0] [(.ref b28)]) _
      refine XS.dup X28.here hx rfl (hb hby d2_26) rfl rfl ?_
      show oP p e below T28 (mkF m 27 #[oI p0] [(.ref b28), (.ref b28)]) _
      refine XS.iloadN X28.here hx rfl (hb hby d2_27) rfl ?_
      show oP p e below T28 (mkF m 28 #[oI p0] [(.int p0), (.ref b28), (.ref b28)]) _
      refine st29.trans ?_
      show oP p e below T29 (mkF m 31 #[oI p0] [(.ref b28)]) _
      exact own_retA X29 hx Bd.returns rfl rfl (hb hby d2_31) hr
    · show ∃ (b : Addr), (some (.ref b28) : Option Value) = some (.ref b) ∧ Fr n0 _ ∧ Keep h0 T29.heap [] ∧ Exa Z T29.heap b "java/lang/Integer"
      exact ⟨b28, rfl, N29, Kc29, po29_0⟩
  · obtain ⟨T30, X30, e30, st30⟩ := getS2 X0 hx hZ hown (host := "") (Or.inl (hw _ (List.mem_of_getElem? (i := 12) rfl))) Via.refl e0 ((s_a_high hS).ext O0.2) (g := (mkF m 7 #[oI p0] [(.int p0)])) rfl (hb hby d2_7)
    have pre31 : ∀ t, oP p e below T30 (mkF m 10 #[oI p0] [(.int (127 : Int32)), (.int p0)]) t → oP p e below s₁ (entryFrame m #[(.int p0)] 1) t := fun t k => pre26 t (by
      show oP p e below s₁ (mkF m 3 #[oI p0] [(.int (-128 : Int32)), (.int p0)]) _
      refine XS.icmpNo X0.here hx rfl (hb hby d2_3) rfl (flt hc27).1 ?_
      show oP p e below s₁ (mkF m 6 #[oI p0] []) _
      refine XS.iloadN X0.here hx rfl (hb hby d2_6) rfl ?_
      show oP p e below s₁ (mkF m 7 #[oI p0] [(.int p0)]) _
      refine st30 _ ?_
      exact k)
    by_cases hc32 : (127 : Int32) < p0
    · obtain ⟨T33, h33, X33, e33, E33, A33, D33, -, st33⟩ := newO X30 hx hZ hown (hw _ (List.mem_of_getElem? (i := 72) rfl)) (hw _ (List.mem_of_getElem? (i := 73) rfl)) (hw _ (List.mem_of_getElem? (i := 10) rfl)) e30 (g := (mkF m 23 #[oI p0] [])) rfl (hb hby d2_23) (by decide) (by decide)
      obtain ⟨b33, g33⟩ : ∃ z, z = h0.size := ⟨_, rfl⟩
      have g_b33 : n0 ≤ b33 := Nat.le_trans (own_old_le O0) (Nat.le_of_eq g33.symm)
      have sz_b33 : h0.size ≤ b33 := Nat.le_trans (Keep.refl h0 []).1 (Nat.le_of_eq g33.symm)
      rw [← g33] at A33 D33 st33
      have O33 := O0.ext E33
      have Kc33 := (Keep.refl h0 []).ext E33
      have F_value_b33 : Fld Z h33 b33 "java/lang/Integer" "value" "I" (.int (0 : Int32)) := D33 (Or.inr (hw _ (List.mem_of_getElem? (i := 86) rfl))) (ty := .int) (by decide)
      obtain ⟨_, _, ⟨T34, L34, k34, n34⟩, -, X34, ⟨Lc34, hQ34, l34, y34, z34⟩, st34⟩ := X33.specialBack hx (y := (⟨"java/lang/Integer", "<init>", "(I)V"⟩ : MethodName)) rfl hown (mvT hZ (hw _ (List.mem_of_getElem? (i := 74) rfl))) (mvT hZ (hw _ (List.mem_of_getElem? (i := 75) rfl))) (mvT hZ (hw _ (List.mem_of_getElem? (i := 77) rfl))) (by decide) (backOf (W := 1) (rm11 l Z a0 hw hS [] b33 p0 h33 n0 O33 A33 F_value_b33 g_b33) hZ (hw _ (List.mem_of_getElem? (i := 77) rfl)) (hw _ (List.mem_of_getElem? (i := 10) rfl)) (by decide) (by decide)) (g := (mkF m 28 #[oI p0] [(.int p0), (.ref b33), (.ref b33)])) rfl (by rw [hml]; rfl) (Steps.refl _) (a := b33) (argsL := [(.int p0)]) (rest := [(.ref b33)]) (lenOf pd_1 rfl) rfl (by show 2 * 0 + _ ≤ _; exact Nat.le_of_eq rfl) (hb hby d2_28) (fun _ _ => ⟨rfl, e33, (by decide : 1 + 0 ≤ _), (by decide : 1 + 0 ≤ _)⟩)
      dsimp only [Pt.U, Pt.locs, Pt.cells, Pt.slots] at X34 l34 y34 z34 st34 hQ34
      subst l34 y34 z34
      obtain ⟨v34, N34q, K34q, po34_0, po34_1⟩ := hQ34
      subst v34
      have N34 := Fr.app N0 N34q
      have O34 := O33.keep K34q (allS g_b33 all0)
      have Kc34 := Kc33.trans K34q (allS (Or.inr sz_b33) all0)
      obtain ⟨fs, hr, hrun, hended, hW, hsame⟩ := X34.leave (v := some (.ref b33)) (fun h => by rw [Bd.returns] at h; cases h)
      refine ⟨_, _, pre31 _ ?_, hrun, hended, _, _, rfl, ?_, ⟨_, rfl⟩, hW, hsame.mono (by decide) (by decide)⟩
      · show oP p e below T30 (mkF m 10 #[oI p0] [(.int (127 : Int32)), (.int p0)]) _
        refine XS.icmpYes X30.here hx rfl (pc0 := 10) (pc' := 23) rfl (hb hby d2_10) rfl (tlt hc32).2.2.1 (by decide) (by decide) ?_
        show oP p e below T30 (mkF m 23 #[oI p0] []) _
        refine st33 _ ?_
        show oP p e below T33 (mkF m 26 #[oI p0] [(.ref b33)]) _
        refine XS.dup X33.here hx rfl (hb hby d2_26) rfl rfl ?_
        show oP p e below T33 (mkF m 27 #[oI p0] [(.ref b33), (.ref b33)]) _
        refine XS.iloadN X33.here hx rfl (hb hby d2_27) rfl ?_
        show oP p e below T33 (mkF m 28 #[oI p0] [(.int p0), (.ref b33), (.ref b33)]) _
        refine st34.trans ?_
        show oP p e below T34 (mkF m 31 #[oI p0] [(.ref b33)]) _
        exact own_retA X34 hx Bd.returns rfl rfl (hb hby d2_31) hr
      · show ∃ (b : Addr), (some (.ref b33) : Option Value) = some (.ref b) ∧ Fr n0 _ ∧ Keep h0 T34.heap [] ∧ Exa Z T34.heap b "java/lang/Integer"
        exact ⟨b33, rfl, N34, Kc34, po34_0⟩
    · obtain ⟨T35, X35, e35, st35⟩ := getS2 X30 hx hZ hown (host := "") (Or.inl (hw _ (List.mem_of_getElem? (i := 14) rfl))) Via.refl e30 ((s_a_cache hS).ext O0.2) (g := (mkF m 13 #[oI p0] [])) rfl (hb hby d2_13)
      obtain ⟨cl36, Ac36, Sc36, Hc36⟩ := c_a_cache hS
      obtain ⟨hi36, hj36⟩ := own_cacheix hc27 hc32 Sc36
      obtain ⟨x36, hx36, Ex36⟩ := Hc36 _ hj36
      obtain ⟨fs, hr, hrun, hended, hW, hsame⟩ := X35.leave (v := some (.ref x36)) (fun h => by rw [Bd.returns] at h; cases h)
      refine ⟨_, _, pre31 _ ?_, hrun, hended, _, _, rfl, ?_, ⟨_, rfl⟩, hW, hsame.mono (by decide) (by decide)⟩
      · show oP p e below T30 (mkF m 10 #[oI p0] [(.int (127 : Int32)), (.int p0)]) _
        refine XS.icmpNo X30.here hx rfl (hb hby d2_10) rfl (flt hc32).2.2.1 ?_
        show oP p e below T30 (mkF m 13 #[oI p0] []) _
        refine st35 _ ?_
        show oP p e below T35 (mkF m 16 #[oI p0] [(.ref (a_cache Z))]) _
        refine XS.iloadN X35.here hx rfl (hb hby d2_16) rfl ?_
        show oP p e below T35 (mkF m 17 #[oI p0] [(.int p0), (.ref (a_cache Z))]) _
        refine XS.sipush X35.here hx rfl (hb hby d2_17) ?_
        show oP p e below T35 (mkF m 20 #[oI p0] [(.int (128 : Int32)), (.int p0), (.ref (a_cache Z))]) _
        refine XS.iadd X35.here hx rfl (hb hby d2_20) rfl ?_
        show oP p e below T35 (mkF m 21 #[oI p0] [(.int (p0 + (128 : Int32))), (.ref (a_cache Z))]) _
        refine X35.aaload hx (by rw [e35]; exact (Ac36.ext O0.2).1) (State.isArrayOf_alike hZ.alike Ac36.2.1) rfl Ac36.2.2 hi36 hx36 (g := (mkF m 21 #[oI p0] [(.int (p0 + (128 : Int32))), (.ref (a_cache Z))])) rfl rfl (hb hby d2_21) _ ?_
        show oP p e below T35 (mkF m 22 #[oI p0] [(.ref x36)]) _
        exact own_retA X35 hx Bd.returns rfl rfl (hb hby d2_22) hr
      · show ∃ (b : Addr), (some (.ref x36) : Option Value) = some (.ref b) ∧ Fr n0 _ ∧ Keep h0 T35.heap [] ∧ Exa Z T35.heap b "java/lang/Integer"
        rw [e35]
        exact ⟨x36, rfl, N0, (Keep.refl h0 []), (Ex36.ext O0.2)⟩
theorem d3_0 : decode prog_16_method_1_code 0 = .ok (.aload_n 0, 1) := by decide +kernel
theorem d3_1 : decode prog_16_method_1_code 1 = .ok (.invokespecial 1, 3) := by decide +kernel
theorem d3_4 : decode prog_16_method_1_code 4 = .ok (.aload_n 0, 1) := by decide +kernel
theorem d3_5 : decode prog_16_method_1_code 5 = .ok (.aload_n 1, 1) := by decide +kernel
theorem d3_6 : decode prog_16_method_1_code 6 = .ok (.putfield 7, 3) := by decide +kernel
theorem d3_9 : decode prog_16_method_1_code 9 = .ok (.aload_n 0, 1) := by decide +kernel
theorem d3_10 : decode prog_16_method_1_code 10 = .ok (.iload_n 2, 1) := by decide +kernel
theorem d3_11 : decode prog_16_method_1_code 11 = .ok (.putfield 13, 3) := by decide +kernel
theorem d3_14 : decode prog_16_method_1_code 14 = .ok (.aload_n 0, 1) := by decide +kernel
theorem d3_15 : decode prog_16_method_1_code 15 = .ok (.aload_n 3, 1) := by decide +kernel
theorem d3_16 : decode prog_16_method_1_code 16 = .ok (.putfield 17, 3) := by decide +kernel
theorem d3_19 : decode prog_16_method_1_code 19 = .ok (.aload_n 0, 1) := by decide +kernel
theorem d3_20 : decode prog_16_method_1_code 20 = .ok (.aload 4, 2) := by decide +kernel
theorem d3_22 : decode prog_16_method_1_code 22 = .ok (.putfield 21, 3) := by decide +kernel
theorem d3_25 : decode prog_16_method_1_code 25 = .ok (.return_, 1) := by decide +kernel
theorem ef_3 (m : MethodId) (x0 : Addr) (x1 : Addr) (x2 : Int32) (x3 : Value) (x4 : Value) (e3 : x3.isRef = true) (e4 : x4.isRef = true) : entryFrame m #[(.ref x0), (.ref x1), (.int x2), x3, x4] 5 = mkF m 0 #[.val (.ref x0), .val (.ref x1), .val (.int x2), .val x3, .val x4] [] := by first | (simp [entryFrame, mkF, argsToLocals, own_cR, own_cI, own_cN, own_cJ, own_catV e3, own_catV e4]; done) | rfl
theorem pn_3 : plainName "com/example/resumatic/resumatic/core/ResumeDecision" = true := by first | (simp [plainName, overriddenIn]; done) | decide +kernel
set_option maxRecDepth 65536 in
set_option maxHeartbeats 40000000 in
theorem rm3 (l : Launch) (Z : State) (a0 : Array Value) (hw : ∀ d ∈ tables_1, d.before a0 Z = true) (hS : St Z) (ws : List Jvm.Cond) (r0 : Addr) (r1 : Addr) (p2 : Int32) (r3 : Value) (r4 : Value) (h0 : Heap) (n0 : Nat) (O0 : Old Z n0 h0) (hv_r3 : r3.isRef = true) (hv_r4 : r4.isRef = true) (E_r0 : Exa Z h0 r0 "com/example/resumatic/resumatic/core/ResumeDecision") (g_r0 : n0 ≤ r0) (F_reasonCode_r0 : Fld Z h0 r0 "com/example/resumatic/resumatic/core/ResumeDecision" "reasonCode" "Lcom/example/resumatic/resumatic/core/ReasonCode;" .null) (F_attempt_r0 : Fld Z h0 r0 "com/example/resumatic/resumatic/core/ResumeDecision" "attempt" "I" (.int (0 : Int32))) (F_cooldownSeconds_r0 : Fld Z h0 r0 "com/example/resumatic/resumatic/core/ResumeDecision" "cooldownSeconds" "Ljava/lang/Integer;" .null) (F_rule_r0 : Fld Z h0 r0 "com/example/resumatic/resumatic/core/ResumeDecision" "rule" "Ljava/lang/String;" .null) :
    MetFree l (⟨"com/example/resumatic/resumatic/core/ResumeDecision", "<init>", "(Lcom/example/resumatic/resumatic/core/ReasonCode;ILjava/lang/Integer;Ljava/lang/String;)V"⟩ : MethodName) (head1 (Jvm.Cond.code (⟨"com/example/resumatic/resumatic/core/ResumeDecision", "<init>", "(Lcom/example/resumatic/resumatic/core/ReasonCode;ILjava/lang/Integer;Ljava/lang/String;)V"⟩ : MethodName) prog_16_method_1_code 5 none :: ws) ({ frames := 1, cells := 0, slots := 0, locals := 12 } : Room)) (fun a U => a = #[(.ref r0), (.ref r1), (.int p2), r3, r4] ∧ Z.Warmed39 U.vm ∧ U.heap = h0) (fun _ _ _ _ _ => True) (fun _ U o U' => ∃ v L, o = .returned v ∧ own_Q (fun v hE L => v = none ∧ Fr n0 L ∧ Keep h0 hE [r0] ∧ Exa Z hE r0 "com/example/resumatic/resumatic/core/ResumeDecision" ∧ Fld Z hE r0 "com/example/resumatic/resumatic/core/ResumeDecision" "reasonCode" "Lcom/example/resumatic/resumatic/core/ReasonCode;" (.ref r1)) v U'.heap L ∧ FrameEnd U o U' L ({ frames := 1, cells := 0, slots := 0, locals := 12 } : Room).cells ({ frames := 1, cells := 0, slots := 0, locals := 12 } : Room).slots) := by
  refine MetFree.of_bodySF (plainFor_of_name pn_3) hisR ?_
  intro p e s m args below meth c s₁ Bd hml0 hP hK
  obtain ⟨rfl, hZ, hh⟩ := hP
  have hx := Bd.exec
  have hby := Bd.bytes
  have hml : c.maxLocals = 5 := hml0
  have hown : s.vm.findClass "com/example/resumatic/resumatic/core/ResumeDecision" = some m.cls := findClass_of_methodNamed Bd.named
  have hnm := (name_of_methodNamed Bd.named Bd.method).1
  have X0 : Stand p l e ({ frames := 1, cells := 0, slots := 0, locals := 12 } : Room) s m #[(.ref r0), (.ref r1), (.int p2), r3, r4] below meth c s₁ [] 0 0 := Stand.of_body Bd
  have e0 : s₁.heap = h0 := by rw [← hh, Bd.state]; rfl
  have N0 := Fr.nil n0
  have pre0 : ∀ t, Steps p.tables e below (s₁.setTop (mkF m 0 #[oR r0, oR r1, oI p2, oV r3, oV r4] [])) t → Steps p.tables e below (s₁.setTop (entryFrame m #[(.ref r0), (.ref r1), (.int p2), r3, r4] 5)) t := fun t k => castTop (ef_3 m r0 r1 p2 r3 r4 hv_r3 hv_r4) k
  obtain ⟨T37, X37, e37, st37⟩ := initO X0 hx hZ hown (hw _ (List.mem_of_getElem? (i := 21) rfl)) (hw _ (List.mem_of_getElem? (i := 22) rfl)) (hw _ (List.mem_of_getElem? (i := 23) rfl)) e0 (g := (mkF m 1 #[oR r0, oR r1, oI p2, oV r3, oV r4] [(.ref r0)])) rfl (by rw [hml]; rfl) rfl (hb hby d3_1) (by decide) (W := 0) (by show 2 * 0 + _ ≤ _; exact Nat.le_of_eq rfl) (by decide)
  obtain ⟨T38, h38, X38, e38, W38, st38⟩ := putF X37 hx hZ hown (host := "") (Or.inl (hw _ (List.mem_of_getElem? (i := 24) rfl))) Via.refl e37 F_reasonCode_r0 E_r0 (Or.inr ⟨(hw _ (List.mem_of_getElem? (i := 25) rfl)), rfl, hnm⟩) (hw _ (List.mem_of_getElem? (i := 16) rfl)) (ty := (.object "com/example/resumatic/resumatic/core/ReasonCode")) (by decide) rfl rfl (g := (mkF m 6 #[oR r0, oR r1, oI p2, oV r3, oV r4] [(.ref r1), (.ref r0)])) rfl rfl (hb hby d3_6)
  have N38 := Fr.snoc X38 N0 g_r0
  have O38 := O0.wr W38 g_r0
  have Kc38 := (Keep.refl h0 [r0]).wr W38 (Or.inl (List.mem_of_getElem? (i := 0) rfl))
  have Fw38 := F_reasonCode_r0.same W38
  have fx39 := (E_r0.wr W38)
  have fx40 := (F_attempt_r0.other W38 (Or.inr (slot_ne (Or.inr (hw _ (List.mem_of_getElem? (i := 27) rfl))) (Or.inr (hw _ (List.mem_of_getElem? (i := 25) rfl))) (by decide) (t := .int) (t' := (.object "com/example/resumatic/resumatic/core/ReasonCode")) (by decide) (by decide))))
  obtain ⟨T41, h41, X41, e41, W41, st41⟩ := putF X38 hx hZ hown (host := "") (Or.inl (hw _ (List.mem_of_getElem? (i := 26) rfl))) Via.refl e38 fx40 fx39 (Or.inr ⟨(hw _ (List.mem_of_getElem? (i := 27) rfl)), rfl, hnm⟩) (hw _ (List.mem_of_getElem? (i := 16) rfl)) (ty := .int) (by decide) rfl rfl (g := (mkF m 11 #[oR r0, oR r1, oI p2, oV r3, oV r4] [(.int p2), (.ref r0)])) rfl rfl (hb hby d3_11)
  have N41 := Fr.snoc X41 N38 g_r0
  have O41 := O38.wr W41 g_r0
  have Kc41 := Kc38.wr W41 (Or.inl (List.mem_of_getElem? (i := 0) rfl))
  have Fw41 := fx40.same W41
  have fx42 := (fx39.wr W41)
  have fx43 := ((F_cooldownSeconds_r0.other W38 (Or.inr (slot_ne (Or.inr (hw _ (List.mem_of_getElem? (i := 29) rfl))) (Or.inr (hw _ (List.mem_of_getElem? (i := 25) rfl))) (by decide) (t := (.object "java/lang/Integer")) (t' := (.object "com/example/resumatic/resumatic/core/ReasonCode")) (by decide) (by decide)))).other W41 (Or.inr (slot_ne (Or.inr (hw _ (List.mem_of_getElem? (i := 29) rfl))) (Or.inr (hw _ (List.mem_of_getElem? (i := 27) rfl))) (by decide) (t := (.object "java/lang/Integer")) (t' := .int) (by decide) (by decide))))
  obtain ⟨T44, h44, X44, e44, W44, st44⟩ := putF X41 hx hZ hown (host := "") (Or.inl (hw _ (List.mem_of_getElem? (i := 28) rfl))) Via.refl e41 fx43 fx42 (Or.inr ⟨(hw _ (List.mem_of_getElem? (i := 29) rfl)), rfl, hnm⟩) (hw _ (List.mem_of_getElem? (i := 16) rfl)) (ty := (.object "java/lang/Integer")) (by decide) rfl (own_fitsR hv_r3) (g := (mkF m 16 #[oR r0, oR r1, oI p2, oV r3, oV r4] [r3, (.ref r0)])) rfl rfl (hb hby d3_16)
  have N44 := Fr.snoc X44 N41 g_r0
  have O44 := O41.wr W44 g_r0
  have Kc44 := Kc41.wr W44 (Or.inl (List.mem_of_getElem? (i := 0) rfl))
  have Fw44 := fx43.same W44
  have fx45 := (fx42.wr W44)
  have fx46 := (((F_rule_r0.other W38 (Or.inr (slot_ne (Or.inr (hw _ (List.mem_of_getElem? (i := 31) rfl))) (Or.inr (hw _ (List.mem_of_getElem? (i := 25) rfl))) (by decide) (t := (.object "java/lang/String")) (t' := (.object "com/example/resumatic/resumatic/core/ReasonCode")) (by decide) (by decide)))).other W41 (Or.inr (slot_ne (Or.inr (hw _ (List.mem_of_getElem? (i := 31) rfl))) (Or.inr (hw _ (List.mem_of_getElem? (i := 27) rfl))) (by decide) (t := (.object "java/lang/String")) (t' := .int) (by decide) (by decide)))).other W44 (Or.inr (slot_ne (Or.inr (hw _ (List.mem_of_getElem? (i := 31) rfl))) (Or.inr (hw _ (List.mem_of_getElem? (i := 29) rfl))) (by decide) (t := (.object "java/lang/String")) (t' := (.object "java/lang/Integer")) (by decide) (by decide))))
  obtain ⟨T47, h47, X47, e47, W47, st47⟩ := putF X44 hx hZ hown (host := "") (Or.inl (hw _ (List.mem_of_getElem? (i := 30) rfl))) Via.refl e44 fx46 fx45 (Or.inr ⟨(hw _ (List.mem_of_getElem? (i := 31) rfl)), rfl, hnm⟩) (hw _ (List.mem_of_getElem? (i := 16) rfl)) (ty := (.object "java/lang/String")) (by decide) rfl (own_fitsR hv_r4) (g := (mkF m 22 #[oR r0, oR r1, oI p2, oV r3, oV r4] [r4, (.ref r0)])) rfl rfl (hb hby d3_22)
  have N47 := Fr.snoc X47 N44 g_r0
  have O47 := O44.wr W47 g_r0
  have Kc47 := Kc44.wr W47 (Or.inl (List.mem_of_getElem? (i := 0) rfl))
  have Fw47 := fx46.same W47
  obtain ⟨fs, hr, hrun, hended, hW, hsame⟩ := X47.leave (v := none) (fun _ => rfl)
  refine ⟨_, _, pre0 _ ?_, hrun, hended, _, _, rfl, ?_, ⟨_, rfl⟩, hW, hsame.mono (by decide) (by decide)⟩
  · show oP p e below s₁ (mkF m 0 #[oR r0, oR r1, oI p2, oV r3, oV r4] []) _
    refine XS.aloadN X0.here hx rfl (hb hby d3_0) rfl rfl ?_
    show oP p e below s₁ (mkF m 1 #[oR r0, oR r1, oI p2, oV r3, oV r4] [(.ref r0)]) _
    refine st37 _ ?_
    show oP p e below T37 (mkF m 4 #[oR r0, oR r1, oI p2, oV r3, oV r4] []) _
    refine XS.aloadN X37.here hx rfl (hb hby d3_4) rfl rfl ?_
    show oP p e below T37 (mkF m 5 #[oR r0, oR r1, oI p2, oV r3, oV r4] [(.ref r0)]) _
    refine XS.aloadN X37.here hx rfl (hb hby d3_5) rfl rfl ?_
    show oP p e below T37 (mkF m 6 #[oR r0, oR r1, oI p2, oV r3, oV r4] [(.ref r1), (.ref r0)]) _
    refine st38 _ ?_
    show oP p e below T38 (mkF m 9 #[oR r0, oR r1, oI p2, oV r3, oV r4] []) _
    refine XS.aloadN X38.here hx rfl (hb hby d3_9) rfl rfl ?_
    show oP p e below T38 (mkF m 10 #[oR r0, oR r1, oI p2, oV r3, oV r4] [(.ref r0)]) _
    refine XS.iloadN X38.here hx rfl (hb hby d3_10) rfl ?_
    show oP p e below T38 (mkF m 11 #[oR r0, oR r1, oI p2, oV r3, oV r4] [(.int p2), (.ref r0)]) _
    refine st41 _ ?_
    show oP p e below T41 (mkF m 14 #[oR r0, oR r1, oI p2, oV r3, oV r4] []) _
    refine XS.aloadN X41.here hx rfl (hb hby d3_14) rfl rfl ?_
    show oP p e below T41 (mkF m 15 #[oR r0, oR r1, oI p2, oV r3, oV r4] [(.ref r0)]) _
    refine XS.aloadN X41.here hx rfl (hb hby d3_15) rfl hv_r3 ?_
    show oP p e below T41 (mkF m 16 #[oR r0, oR r1, oI p2, oV r3, oV r4] [r3, (.ref r0)]) _
    refine st44 _ ?_
    show oP p e below T44 (mkF m 19 #[oR r0, oR r1, oI p2, oV r3, oV r4] []) _
    refine XS.aloadN X44.here hx rfl (hb hby d3_19) rfl rfl ?_
    show oP p e below T44 (mkF m 20 #[oR r0, oR r1, oI p2, oV r3, oV r4] [(.ref r0)]) _
    refine XS.aload X44.here hx rfl (hb hby d3_20) rfl hv_r4 ?_
    show oP p e below T44 (mkF m 22 #[oR r0, oR r1, oI p2, oV r3, oV r4] [r4, (.ref r0)]) _
    refine st47 _ ?_
    show oP p e below T47 (mkF m 25 #[oR r0, oR r1, oI p2, oV r3, oV r4] []) _
    exact X47.returnOut hx Bd.returns (hb hby d3_25) hr
  · show (none : Option Value) = none ∧ Fr n0 _ ∧ Keep h0 T47.heap [r0] ∧ Exa Z T47.heap r0 "com/example/resumatic/resumatic/core/ResumeDecision" ∧ Fld Z T47.heap r0 "com/example/resumatic/resumatic/core/ResumeDecision" "reasonCode" "Lcom/example/resumatic/resumatic/core/ReasonCode;" (.ref r1)
    rw [e47]
    have fx48 := (fx45.wr W47)
    have fx49 := (((Fw38.other W41 (Or.inr (slot_ne (Or.inr (hw _ (List.mem_of_getElem? (i := 25) rfl))) (Or.inr (hw _ (List.mem_of_getElem? (i := 27) rfl))) (by decide) (t := (.object "com/example/resumatic/resumatic/core/ReasonCode")) (t' := .int) (by decide) (by decide)))).other W44 (Or.inr (slot_ne (Or.inr (hw _ (List.mem_of_getElem? (i := 25) rfl))) (Or.inr (hw _ (List.mem_of_getElem? (i := 29) rfl))) (by decide) (t := (.object "com/example/resumatic/resumatic/core/ReasonCode")) (t' := (.object "java/lang/Integer")) (by decide) (by decide)))).other W47 (Or.inr (slot_ne (Or.inr (hw _ (List.mem_of_getElem? (i := 25) rfl))) (Or.inr (hw _ (List.mem_of_getElem? (i := 31) rfl))) (by decide) (t := (.object "com/example/resumatic/resumatic/core/ReasonCode")) (t' := (.object "java/lang/String")) (by decide) (by decide))))
    exact ⟨rfl, N47, Kc47, fx48, fx49⟩
theorem d5_0 : decode prog_16_method_3_code 0 = .ok (.aload_n 0, 1) := by decide +kernel
theorem d5_1 : decode prog_16_method_3_code 1 = .ok (.getfield 7, 3) := by decide +kernel
theorem d5_4 : decode prog_16_method_3_code 4 = .ok (.getstatic 25, 3) := by decide +kernel
theorem d5_7 : decode prog_16_method_3_code 7 = .ok (.if_acmp .ne 7, 3) := by decide +kernel
theorem d5_10 : decode prog_16_method_3_code 10 = .ok (.iconst 1, 1) := by decide +kernel
theorem d5_11 : decode prog_16_method_3_code 11 = .ok (.goto 4, 3) := by decide +kernel
theorem d5_15 : decode prog_16_method_3_code 15 = .ok (.ireturn, 1) := by decide +kernel
theorem d5_14 : decode prog_16_method_3_code 14 = .ok (.iconst 0, 1) := by decide +kernel
def fn5 (Z : State) (r0 : Addr) (u : Addr) : Int32 :=
  if u = (a_RESUME_ALLOWED Z) then
    (1 : Int32)
  else
    (0 : Int32)
theorem ef_5 (m : MethodId) (x0 : Addr) : entryFrame m #[(.ref x0)] 1 = mkF m 0 #[.val (.ref x0)] [] := by first | (simp [entryFrame, mkF, argsToLocals, Value.category]; done) | rfl
set_option maxRecDepth 65536 in
set_option maxHeartbeats 40000000 in
theorem rm5 (l : Launch) (Z : State) (a0 : Array Value) (hw : ∀ d ∈ tables_1, d.before a0 Z = true) (hS : St Z) (ws : List Jvm.Cond) (r0 : Addr) (u : Addr) (h0 : Heap) (n0 : Nat) (O0 : Old Z n0 h0) (F_reasonCode_r0 : Fld Z h0 r0 "com/example/resumatic/resumatic/core/ResumeDecision" "reasonCode" "Lcom/example/resumatic/resumatic/core/ReasonCode;" (.ref u)) :
    MetFree l (⟨"com/example/resumatic/resumatic/core/ResumeDecision", "isEligible", "()Z"⟩ : MethodName) (head1 (Jvm.Cond.code (⟨"com/example/resumatic/resumatic/core/ResumeDecision", "isEligible", "()Z"⟩ : MethodName) prog_16_method_3_code 1 (some .boolean) :: ws) ({ frames := 0, cells := 0, slots := 0, locals := 0 } : Room)) (fun a U => a = #[(.ref r0)] ∧ Z.Warmed39 U.vm ∧ U.heap = h0) (fun _ _ _ _ _ => True) (fun _ U o U' => ∃ v L, o = .returned v ∧ own_Q (fun v hE L => v = some (.int (fn5 Z r0 u)) ∧ Fr n0 L ∧ Keep h0 hE []) v U'.heap L ∧ FrameEnd U o U' L ({ frames := 0, cells := 0, slots := 0, locals := 0 } : Room).cells ({ frames := 0, cells := 0, slots := 0, locals := 0 } : Room).slots) := by
  refine MetFree.of_bodySF (plainFor_of_name pn_3) hisR ?_
  intro p e s m args below meth c s₁ Bd hml0 hP hK
  obtain ⟨rfl, hZ, hh⟩ := hP
  have hx := Bd.exec
  have hby := Bd.bytes
  have hml : c.maxLocals = 1 := hml0
  have hown : s.vm.findClass "com/example/resumatic/resumatic/core/ResumeDecision" = some m.cls := findClass_of_methodNamed Bd.named
  have hnm := (name_of_methodNamed Bd.named Bd.method).1
  have X0 : Stand p l e ({ frames := 0, cells := 0, slots := 0, locals := 0 } : Room) s m #[(.ref r0)] below meth c s₁ [] 0 0 := Stand.of_body Bd
  have e0 : s₁.heap = h0 := by rw [← hh, Bd.state]; rfl
  have N0 := Fr.nil n0
  have pre0 : ∀ t, Steps p.tables e below (s₁.setTop (mkF m 0 #[oR r0] [])) t → Steps p.tables e below (s₁.setTop (entryFrame m #[(.ref r0)] 1)) t := fun t k => castTop (ef_5 m r0) k
  obtain ⟨T50, X50, e50, st50⟩ := getF X0 hx hZ hown (host := "") (Or.inl (hw _ (List.mem_of_getElem? (i := 24) rfl))) Via.refl e0 F_reasonCode_r0 (g := (mkF m 1 #[oR r0] [(.ref r0)])) rfl rfl (hb hby d5_1)
  obtain ⟨T51, X51, e51, st51⟩ := getS2 X50 hx hZ hown (host := "") (Or.inl (hw _ (List.mem_of_getElem? (i := 37) rfl))) Via.refl e50 ((s_a_RESUME_ALLOWED hS).ext O0.2) (g := (mkF m 4 #[oR r0] [(.ref u)])) rfl (hb hby d5_4)
  have pre52 : ∀ t, oP p e below T51 (mkF m 7 #[oR r0] [(.ref (a_RESUME_ALLOWED Z)), (.ref u)]) t → oP p e below s₁ (entryFrame m #[(.ref r0)] 1) t := fun t k => pre0 t (by
    show oP p e below s₁ (mkF m 0 #[oR r0] []) _
    refine XS.aloadN X0.here hx rfl (hb hby d5_0) rfl rfl ?_
    show oP p e below s₁ (mkF m 1 #[oR r0] [(.ref r0)]) _
    refine st50 _ ?_
    show oP p e below T50 (mkF m 4 #[oR r0] [(.ref u)]) _
    refine st51 _ ?_
    exact k)
  by_cases hc53 : u = (a_RESUME_ALLOWED Z)
  · obtain ⟨fs, hr, hrun, hended, hW, hsame⟩ := X51.leave (v := some (.int (1 : Int32))) (fun h => by rw [Bd.returns] at h; cases h)
    refine ⟨_, _, pre52 _ ?_, hrun, hended, _, _, rfl, ?_, ⟨_, rfl⟩, hW, hsame.mono (by decide) (by decide)⟩
    · show oP p e below T51 (mkF m 7 #[oR r0] [(.ref (a_RESUME_ALLOWED Z)), (.ref u)]) _
      refine Jvm.RoadKit.acmp (g := (mkF m 7 #[oR r0] [(.ref (a_RESUME_ALLOWED Z)), (.ref u)])) X51 hx rfl rfl rfl (pc0 := 7) (pc' := 10) (same := true) rfl (hb hby d5_7) rfl (decide_eq_true (congrArg Value.ref hc53)) (by decide) (by decide) ?_
      show oP p e below T51 (mkF m 10 #[oR r0] []) _
      refine XS.iconst X51.here hx rfl (hb hby d5_10) ?_
      show oP p e below T51 (mkF m 11 #[oR r0] [(.int (1 : Int32))]) _
      refine XS.goto X51.here hx rfl (pc0 := 11) (pc' := 15) rfl (hb hby d5_11) (by decide) (by decide) ?_
      show oP p e below T51 (mkF m 15 #[oR r0] [(.int (1 : Int32))]) _
      exact retN X51 hx (t := .boolean) Bd.returns (by simp) (hb hby d5_15) hr
    · show (some (.int (1 : Int32)) : Option Value) = some (.int (fn5 Z r0 u)) ∧ Fr n0 _ ∧ Keep h0 T51.heap []
      rw [e51]
      refine ⟨?_, N0, (Keep.refl h0 [])⟩
      unfold fn5
      rw [if_pos hc53]
  · obtain ⟨fs, hr, hrun, hended, hW, hsame⟩ := X51.leave (v := some (.int (0 : Int32))) (fun h => by rw [Bd.returns] at h; cases h)
    refine ⟨_, _, pre52 _ ?_, hrun, hended, _, _, rfl, ?_, ⟨_, rfl⟩, hW, hsame.mono (by decide) (by decide)⟩
    · show oP p e below T51 (mkF m 7 #[oR r0] [(.ref (a_RESUME_ALLOWED Z)), (.ref u)]) _
      refine Jvm.RoadKit.acmp (g := (mkF m 7 #[oR r0] [(.ref (a_RESUME_ALLOWED Z)), (.ref u)])) X51 hx rfl rfl rfl (pc0 := 7) (pc' := 14) (same := false) rfl (hb hby d5_7) rfl (decide_eq_false fun q => hc53 (Value.ref.inj q)) (by decide) (by decide) ?_
      show oP p e below T51 (mkF m 14 #[oR r0] []) _
      refine XS.iconst X51.here hx rfl (hb hby d5_14) ?_
      show oP p e below T51 (mkF m 15 #[oR r0] [(.int (0 : Int32))]) _
      exact retN X51 hx (t := .boolean) Bd.returns (by simp) (hb hby d5_15) hr
    · show (some (.int (0 : Int32)) : Option Value) = some (.int (fn5 Z r0 u)) ∧ Fr n0 _ ∧ Keep h0 T51.heap []
      rw [e51]
      refine ⟨?_, N0, (Keep.refl h0 [])⟩
      unfold fn5
      rw [if_neg hc53]
theorem rng_rem7 (k : Int32) : ((k &&& (2147483647 : Int32)) - ((k &&& (2147483647 : Int32)) / (7 : Int32)) * (7 : Int32)) = (0 : Int32) ∨ ((k &&& (2147483647 : Int32)) - ((k &&& (2147483647 : Int32)) / (7 : Int32)) * (7 : Int32)) = (1 : Int32) ∨ ((k &&& (2147483647 : Int32)) - ((k &&& (2147483647 : Int32)) / (7 : Int32)) * (7 : Int32)) = (2 : Int32) ∨ ((k &&& (2147483647 : Int32)) - ((k &&& (2147483647 : Int32)) / (7 : Int32)) * (7 : Int32)) = (3 : Int32) ∨ ((k &&& (2147483647 : Int32)) - ((k &&& (2147483647 : Int32)) / (7 : Int32)) * (7 : Int32)) = (4 : Int32) ∨ ((k &&& (2147483647 : Int32)) - ((k &&& (2147483647 : Int32)) / (7 : Int32)) * (7 : Int32)) = (5 : Int32) ∨ ((k &&& (2147483647 : Int32)) - ((k &&& (2147483647 : Int32)) / (7 : Int32)) * (7 : Int32)) = (6 : Int32) := by
  have h := own_rem (own_and_le k 2147483647 (by decide)).1 (y := 7) (by decide)
  have h5 : (7 : Int32).toInt = 7 := by decide
  rw [h5] at h
  obtain ⟨j, hj, e⟩ := own_mem (n := 7) (i := ((k &&& (2147483647 : Int32)) - ((k &&& (2147483647 : Int32)) / (7 : Int32)) * (7 : Int32))) (by omega) (by omega)
  rw [e]
  match j, hj with
  | 0, _ => decide
  | 1, _ => decide
  | 2, _ => decide
  | 3, _ => decide
  | 4, _ => decide
  | 5, _ => decide
  | 6, _ => decide
theorem pd_2 : parseMethodDescriptor "(I)Lcom/example/resumatic/resumatic/core/ReasonCode;" = some ⟨[.int], some (.object "com/example/resumatic/resumatic/core/ReasonCode")⟩ := by decide +kernel
theorem pd_3 : parseMethodDescriptor "(Lcom/example/resumatic/resumatic/core/ReasonCode;ILjava/lang/Integer;Ljava/lang/String;)V" = some ⟨[(.object "com/example/resumatic/resumatic/core/ReasonCode"), .int, (.object "java/lang/Integer"), (.object "java/lang/String")], none⟩ := by decide +kernel
theorem pd_4 : parseMethodDescriptor "()Z" = some ⟨[], some .boolean⟩ := by decide +kernel
theorem ab66 {Z : State} (hS : St Z) (p3 : Int32) (i : Int32) (ri : i = (0 : Int32) ∨ i = (1 : Int32) ∨ i = (2 : Int32) ∨ i = (3 : Int32) ∨ i = (4 : Int32) ∨ i = (5 : Int32) ∨ i = (6 : Int32)) (hc56 : (p3 &&& (1 : Int32)) = (0 : Int32)) (hc58 : (p3 &&& (2 : Int32)) = (0 : Int32)) (hc62 : i = (0 : Int32)) (hc65 : ¬ ((fn5 Z b59 (fn1 Z i)) = (1 : Int32))) : False := by
  have k0 := ((f_a_RESUME_ALLOWED_ordinal hS).ne (f_a_RESUME_MISSING_RUNTIME_ARTIFACTS_ordinal hS) (by decide))
  have k1 := ((f_a_RESUME_ALLOWED_ordinal hS).ne (f_a_RESUME_UNKNOWN_INTERRUPTION_CLASS_ordinal hS) (by decide))
  have k2 := ((f_a_RESUME_ALLOWED_ordinal hS).ne (f_a_RESUME_MISSING_CHECKPOINT_ordinal hS) (by decide))
  have k3 := ((f_a_RESUME_ALLOWED_ordinal hS).ne (f_a_RESUME_NON_IDEMPOTENT_STEP_ordinal hS) (by decide))
  have k4 := ((f_a_RESUME_ALLOWED_ordinal hS).ne (f_a_RESUME_ATTEMPT_LIMIT_REACHED_ordinal hS) (by decide))
  have k5 := ((f_a_RESUME_ALLOWED_ordinal hS).ne (f_a_RESUME_BLOCKED_COOLDOWN_ordinal hS) (by decide))
  have k6 := ((f_a_RESUME_MISSING_RUNTIME_ARTIFACTS_ordinal hS).ne (f_a_RESUME_ALLOWED_ordinal hS) (by decide))
  have k7 := ((f_a_RESUME_MISSING_RUNTIME_ARTIFACTS_ordinal hS).ne (f_a_RESUME_UNKNOWN_INTERRUPTION_CLASS_ordinal hS) (by decide))
  have k8 := ((f_a_RESUME_MISSING_RUNTIME_ARTIFACTS_ordinal hS).ne (f_a_RESUME_MISSING_CHECKPOINT_ordinal hS) (by decide))
  have k9 := ((f_a_RESUME_MISSING_RUNTIME_ARTIFACTS_ordinal hS).ne (f_a_RESUME_NON_IDEMPOTENT_STEP_ordinal hS) (by decide))
  have k10 := ((f_a_RESUME_MISSING_RUNTIME_ARTIFACTS_ordinal hS).ne (f_a_RESUME_ATTEMPT_LIMIT_REACHED_ordinal hS) (by decide))
  have k11 := ((f_a_RESUME_MISSING_RUNTIME_ARTIFACTS_ordinal hS).ne (f_a_RESUME_BLOCKED_COOLDOWN_ordinal hS) (by decide))
  have k12 := ((f_a_RESUME_UNKNOWN_INTERRUPTION_CLASS_ordinal hS).ne (f_a_RESUME_ALLOWED_ordinal hS) (by decide))
  have k13 := ((f_a_RESUME_UNKNOWN_INTERRUPTION_CLASS_ordinal hS).ne (f_a_RESUME_MISSING_RUNTIME_ARTIFACTS_ordinal hS) (by decide))
  have k14 := ((f_a_RESUME_UNKNOWN_INTERRUPTION_CLASS_ordinal hS).ne (f_a_RESUME_MISSING_CHECKPOINT_ordinal hS) (by decide))
  have k15 := ((f_a_RESUME_UNKNOWN_INTERRUPTION_CLASS_ordinal hS).ne (f_a_RESUME_NON_IDEMPOTENT_STEP_ordinal hS) (by decide))
  have k16 := ((f_a_RESUME_UNKNOWN_INTERRUPTION_CLASS_ordinal hS).ne (f_a_RESUME_ATTEMPT_LIMIT_REACHED_ordinal hS) (by decide))
  have k17 := ((f_a_RESUME_UNKNOWN_INTERRUPTION_CLASS_ordinal hS).ne (f_a_RESUME_BLOCKED_COOLDOWN_ordinal hS) (by decide))
  have k18 := ((f_a_RESUME_MISSING_CHECKPOINT_ordinal hS).ne (f_a_RESUME_ALLOWED_ordinal hS) (by decide))
  have k19 := ((f_a_RESUME_MISSING_CHECKPOINT_ordinal hS).ne (f_a_RESUME_MISSING_RUNTIME_ARTIFACTS_ordinal hS) (by decide))
  have k20 := ((f_a_RESUME_MISSING_CHECKPOINT_ordinal hS).ne (f_a_RESUME_UNKNOWN_INTERRUPTION_CLASS_ordinal hS) (by decide))
  have k21 := ((f_a_RESUME_MISSING_CHECKPOINT_ordinal hS).ne (f_a_RESUME_NON_IDEMPOTENT_STEP_ordinal hS) (by decide))
  have k22 := ((f_a_RESUME_MISSING_CHECKPOINT_ordinal hS).ne (f_a_RESUME_ATTEMPT_LIMIT_REACHED_ordinal hS) (by decide))
  have k23 := ((f_a_RESUME_MISSING_CHECKPOINT_ordinal hS).ne (f_a_RESUME_BLOCKED_COOLDOWN_ordinal hS) (by decide))
  have k24 := ((f_a_RESUME_NON_IDEMPOTENT_STEP_ordinal hS).ne (f_a_RESUME_ALLOWED_ordinal hS) (by decide))
  have k25 := ((f_a_RESUME_NON_IDEMPOTENT_STEP_ordinal hS).ne (f_a_RESUME_MISSING_RUNTIME_ARTIFACTS_ordinal hS) (by decide))
  have k26 := ((f_a_RESUME_NON_IDEMPOTENT_STEP_ordinal hS).ne (f_a_RESUME_UNKNOWN_INTERRUPTION_CLASS_ordinal hS) (by decide))
  have k27 := ((f_a_RESUME_NON_IDEMPOTENT_STEP_ordinal hS).ne (f_a_RESUME_MISSING_CHECKPOINT_ordinal hS) (by decide))
  have k28 := ((f_a_RESUME_NON_IDEMPOTENT_STEP_ordinal hS).ne (f_a_RESUME_ATTEMPT_LIMIT_REACHED_ordinal hS) (by decide))
  have k29 := ((f_a_RESUME_NON_IDEMPOTENT_STEP_ordinal hS).ne (f_a_RESUME_BLOCKED_COOLDOWN_ordinal hS) (by decide))
  have k30 := ((f_a_RESUME_ATTEMPT_LIMIT_REACHED_ordinal hS).ne (f_a_RESUME_ALLOWED_ordinal hS) (by decide))
  have k31 := ((f_a_RESUME_ATTEMPT_LIMIT_REACHED_ordinal hS).ne (f_a_RESUME_MISSING_RUNTIME_ARTIFACTS_ordinal hS) (by decide))
  have k32 := ((f_a_RESUME_ATTEMPT_LIMIT_REACHED_ordinal hS).ne (f_a_RESUME_UNKNOWN_INTERRUPTION_CLASS_ordinal hS) (by decide))
  have k33 := ((f_a_RESUME_ATTEMPT_LIMIT_REACHED_ordinal hS).ne (f_a_RESUME_MISSING_CHECKPOINT_ordinal hS) (by decide))
  have k34 := ((f_a_RESUME_ATTEMPT_LIMIT_REACHED_ordinal hS).ne (f_a_RESUME_NON_IDEMPOTENT_STEP_ordinal hS) (by decide))
  have k35 := ((f_a_RESUME_ATTEMPT_LIMIT_REACHED_ordinal hS).ne (f_a_RESUME_BLOCKED_COOLDOWN_ordinal hS) (by decide))
  have k36 := ((f_a_RESUME_BLOCKED_COOLDOWN_ordinal hS).ne (f_a_RESUME_ALLOWED_ordinal hS) (by decide))
  have k37 := ((f_a_RESUME_BLOCKED_COOLDOWN_ordinal hS).ne (f_a_RESUME_MISSING_RUNTIME_ARTIFACTS_ordinal hS) (by decide))
  have k38 := ((f_a_RESUME_BLOCKED_COOLDOWN_ordinal hS).ne (f_a_RESUME_UNKNOWN_INTERRUPTION_CLASS_ordinal hS) (by decide))
  have k39 := ((f_a_RESUME_BLOCKED_COOLDOWN_ordinal hS).ne (f_a_RESUME_MISSING_CHECKPOINT_ordinal hS) (by decide))
  have k40 := ((f_a_RESUME_BLOCKED_COOLDOWN_ordinal hS).ne (f_a_RESUME_NON_IDEMPOTENT_STEP_ordinal hS) (by decide))
  have k41 := ((f_a_RESUME_BLOCKED_COOLDOWN_ordinal hS).ne (f_a_RESUME_ATTEMPT_LIMIT_REACHED_ordinal hS) (by decide))
  rcases ri with rfl | rfl | rfl | rfl | rfl | rfl | rfl <;> simp_all [fn1, fn5]
theorem ab70 {Z : State} (hS : St Z) (p3 : Int32) (i : Int32) (ri : i = (0 : Int32) ∨ i = (1 : Int32) ∨ i = (2 : Int32) ∨ i = (3 : Int32) ∨ i = (4 : Int32) ∨ i = (5 : Int32) ∨ i = (6 : Int32)) (hc56 : (p3 &&& (1 : Int32)) = (0 : Int32)) (hc58 : (p3 &&& (2 : Int32)) = (0 : Int32)) (hc62 : ¬ (i = (0 : Int32))) (hc69 : ¬ ((fn5 Z b59 (fn1 Z i)) = (0 : Int32))) : False := by
  have k0 := ((f_a_RESUME_ALLOWED_ordinal hS).ne (f_a_RESUME_MISSING_RUNTIME_ARTIFACTS_ordinal hS) (by decide))
  have k1 := ((f_a_RESUME_ALLOWED_ordinal hS).ne (f_a_RESUME_UNKNOWN_INTERRUPTION_CLASS_ordinal hS) (by decide))
  have k2 := ((f_a_RESUME_ALLOWED_ordinal hS).ne (f_a_RESUME_MISSING_CHECKPOINT_ordinal hS) (by decide))
  have k3 := ((f_a_RESUME_ALLOWED_ordinal hS).ne (f_a_RESUME_NON_IDEMPOTENT_STEP_ordinal hS) (by decide))
  have k4 := ((f_a_RESUME_ALLOWED_ordinal hS).ne (f_a_RESUME_ATTEMPT_LIMIT_REACHED_ordinal hS) (by decide))
  have k5 := ((f_a_RESUME_ALLOWED_ordinal hS).ne (f_a_RESUME_BLOCKED_COOLDOWN_ordinal hS) (by decide))
  have k6 := ((f_a_RESUME_MISSING_RUNTIME_ARTIFACTS_ordinal hS).ne (f_a_RESUME_ALLOWED_ordinal hS) (by decide))
  have k7 := ((f_a_RESUME_MISSING_RUNTIME_ARTIFACTS_ordinal hS).ne (f_a_RESUME_UNKNOWN_INTERRUPTION_CLASS_ordinal hS) (by decide))
  have k8 := ((f_a_RESUME_MISSING_RUNTIME_ARTIFACTS_ordinal hS).ne (f_a_RESUME_MISSING_CHECKPOINT_ordinal hS) (by decide))
  have k9 := ((f_a_RESUME_MISSING_RUNTIME_ARTIFACTS_ordinal hS).ne (f_a_RESUME_NON_IDEMPOTENT_STEP_ordinal hS) (by decide))
  have k10 := ((f_a_RESUME_MISSING_RUNTIME_ARTIFACTS_ordinal hS).ne (f_a_RESUME_ATTEMPT_LIMIT_REACHED_ordinal hS) (by decide))
  have k11 := ((f_a_RESUME_MISSING_RUNTIME_ARTIFACTS_ordinal hS).ne (f_a_RESUME_BLOCKED_COOLDOWN_ordinal hS) (by decide))
  have k12 := ((f_a_RESUME_UNKNOWN_INTERRUPTION_CLASS_ordinal hS).ne (f_a_RESUME_ALLOWED_ordinal hS) (by decide))
  have k13 := ((f_a_RESUME_UNKNOWN_INTERRUPTION_CLASS_ordinal hS).ne (f_a_RESUME_MISSING_RUNTIME_ARTIFACTS_ordinal hS) (by decide))
  have k14 := ((f_a_RESUME_UNKNOWN_INTERRUPTION_CLASS_ordinal hS).ne (f_a_RESUME_MISSING_CHECKPOINT_ordinal hS) (by decide))
  have k15 := ((f_a_RESUME_UNKNOWN_INTERRUPTION_CLASS_ordinal hS).ne (f_a_RESUME_NON_IDEMPOTENT_STEP_ordinal hS) (by decide))
  have k16 := ((f_a_RESUME_UNKNOWN_INTERRUPTION_CLASS_ordinal hS).ne (f_a_RESUME_ATTEMPT_LIMIT_REACHED_ordinal hS) (by decide))
  have k17 := ((f_a_RESUME_UNKNOWN_INTERRUPTION_CLASS_ordinal hS).ne (f_a_RESUME_BLOCKED_COOLDOWN_ordinal hS) (by decide))
  have k18 := ((f_a_RESUME_MISSING_CHECKPOINT_ordinal hS).ne (f_a_RESUME_ALLOWED_ordinal hS) (by decide))
  have k19 := ((f_a_RESUME_MISSING_CHECKPOINT_ordinal hS).ne (f_a_RESUME_MISSING_RUNTIME_ARTIFACTS_ordinal hS) (by decide))
  have k20 := ((f_a_RESUME_MISSING_CHECKPOINT_ordinal hS).ne (f_a_RESUME_UNKNOWN_INTERRUPTION_CLASS_ordinal hS) (by decide))
  have k21 := ((f_a_RESUME_MISSING_CHECKPOINT_ordinal hS).ne (f_a_RESUME_NON_IDEMPOTENT_STEP_ordinal hS) (by decide))
  have k22 := ((f_a_RESUME_MISSING_CHECKPOINT_ordinal hS).ne (f_a_RESUME_ATTEMPT_LIMIT_REACHED_ordinal hS) (by decide))
  have k23 := ((f_a_RESUME_MISSING_CHECKPOINT_ordinal hS).ne (f_a_RESUME_BLOCKED_COOLDOWN_ordinal hS) (by decide))
  have k24 := ((f_a_RESUME_NON_IDEMPOTENT_STEP_ordinal hS).ne (f_a_RESUME_ALLOWED_ordinal hS) (by decide))
  have k25 := ((f_a_RESUME_NON_IDEMPOTENT_STEP_ordinal hS).ne (f_a_RESUME_MISSING_RUNTIME_ARTIFACTS_ordinal hS) (by decide))
  have k26 := ((f_a_RESUME_NON_IDEMPOTENT_STEP_ordinal hS).ne (f_a_RESUME_UNKNOWN_INTERRUPTION_CLASS_ordinal hS) (by decide))
  have k27 := ((f_a_RESUME_NON_IDEMPOTENT_STEP_ordinal hS).ne (f_a_RESUME_MISSING_CHECKPOINT_ordinal hS) (by decide))
  have k28 := ((f_a_RESUME_NON_IDEMPOTENT_STEP_ordinal hS).ne (f_a_RESUME_ATTEMPT_LIMIT_REACHED_ordinal hS) (by decide))
  have k29 := ((f_a_RESUME_NON_IDEMPOTENT_STEP_ordinal hS).ne (f_a_RESUME_BLOCKED_COOLDOWN_ordinal hS) (by decide))
  have k30 := ((f_a_RESUME_ATTEMPT_LIMIT_REACHED_ordinal hS).ne (f_a_RESUME_ALLOWED_ordinal hS) (by decide))
  have k31 := ((f_a_RESUME_ATTEMPT_LIMIT_REACHED_ordinal hS).ne (f_a_RESUME_MISSING_RUNTIME_ARTIFACTS_ordinal hS) (by decide))
  have k32 := ((f_a_RESUME_ATTEMPT_LIMIT_REACHED_ordinal hS).ne (f_a_RESUME_UNKNOWN_INTERRUPTION_CLASS_ordinal hS) (by decide))
  have k33 := ((f_a_RESUME_ATTEMPT_LIMIT_REACHED_ordinal hS).ne (f_a_RESUME_MISSING_CHECKPOINT_ordinal hS) (by decide))
  have k34 := ((f_a_RESUME_ATTEMPT_LIMIT_REACHED_ordinal hS).ne (f_a_RESUME_NON_IDEMPOTENT_STEP_ordinal hS) (by decide))
  have k35 := ((f_a_RESUME_ATTEMPT_LIMIT_REACHED_ordinal hS).ne (f_a_RESUME_BLOCKED_COOLDOWN_ordinal hS) (by decide))
  have k36 := ((f_a_RESUME_BLOCKED_COOLDOWN_ordinal hS).ne (f_a_RESUME_ALLOWED_ordinal hS) (by decide))
  have k37 := ((f_a_RESUME_BLOCKED_COOLDOWN_ordinal hS).ne (f_a_RESUME_MISSING_RUNTIME_ARTIFACTS_ordinal hS) (by decide))
  have k38 := ((f_a_RESUME_BLOCKED_COOLDOWN_ordinal hS).ne (f_a_RESUME_UNKNOWN_INTERRUPTION_CLASS_ordinal hS) (by decide))
  have k39 := ((f_a_RESUME_BLOCKED_COOLDOWN_ordinal hS).ne (f_a_RESUME_MISSING_CHECKPOINT_ordinal hS) (by decide))
  have k40 := ((f_a_RESUME_BLOCKED_COOLDOWN_ordinal hS).ne (f_a_RESUME_NON_IDEMPOTENT_STEP_ordinal hS) (by decide))
  have k41 := ((f_a_RESUME_BLOCKED_COOLDOWN_ordinal hS).ne (f_a_RESUME_ATTEMPT_LIMIT_REACHED_ordinal hS) (by decide))
  rcases ri with rfl | rfl | rfl | rfl | rfl | rfl | rfl <;> simp_all [fn1, fn5]
theorem pd_5 : parseMethodDescriptor "([C)V" = some ⟨[(.array .char)], none⟩ := by decide +kernel
theorem ab86 {Z : State} (hS : St Z) (p3 : Int32) (p4 : Int32) (p5 : Int32) (i : Int32) (c0 : Int32) (c1 : Int32) (ri : i = (0 : Int32) ∨ i = (1 : Int32) ∨ i = (2 : Int32) ∨ i = (3 : Int32) ∨ i = (4 : Int32) ∨ i = (5 : Int32) ∨ i = (6 : Int32)) (hc56 : (p3 &&& (1 : Int32)) = (0 : Int32)) (hc58 : ¬ ((p3 &&& (2 : Int32)) = (0 : Int32))) (ec0 : c0 = (p4 &&& (255 : Int32))) (ec1 : c1 = (p5 &&& (255 : Int32))) (hc82 : i = (0 : Int32)) (hc85 : ¬ ((fn5 Z b78 (fn1 Z i)) = (1 : Int32))) : False := by
  have k0 := ((f_a_RESUME_ALLOWED_ordinal hS).ne (f_a_RESUME_MISSING_RUNTIME_ARTIFACTS_ordinal hS) (by decide))
  have k1 := ((f_a_RESUME_ALLOWED_ordinal hS).ne (f_a_RESUME_UNKNOWN_INTERRUPTION_CLASS_ordinal hS) (by decide))
  have k2 := ((f_a_RESUME_ALLOWED_ordinal hS).ne (f_a_RESUME_MISSING_CHECKPOINT_ordinal hS) (by decide))
  have k3 := ((f_a_RESUME_ALLOWED_ordinal hS).ne (f_a_RESUME_NON_IDEMPOTENT_STEP_ordinal hS) (by decide))
  have k4 := ((f_a_RESUME_ALLOWED_ordinal hS).ne (f_a_RESUME_ATTEMPT_LIMIT_REACHED_ordinal hS) (by decide))
  have k5 := ((f_a_RESUME_ALLOWED_ordinal hS).ne (f_a_RESUME_BLOCKED_COOLDOWN_ordinal hS) (by decide))
  have k6 := ((f_a_RESUME_MISSING_RUNTIME_ARTIFACTS_ordinal hS).ne (f_a_RESUME_ALLOWED_ordinal hS) (by decide))
  have k7 := ((f_a_RESUME_MISSING_RUNTIME_ARTIFACTS_ordinal hS).ne (f_a_RESUME_UNKNOWN_INTERRUPTION_CLASS_ordinal hS) (by decide))
  have k8 := ((f_a_RESUME_MISSING_RUNTIME_ARTIFACTS_ordinal hS).ne (f_a_RESUME_MISSING_CHECKPOINT_ordinal hS) (by decide))
  have k9 := ((f_a_RESUME_MISSING_RUNTIME_ARTIFACTS_ordinal hS).ne (f_a_RESUME_NON_IDEMPOTENT_STEP_ordinal hS) (by decide))
  have k10 := ((f_a_RESUME_MISSING_RUNTIME_ARTIFACTS_ordinal hS).ne (f_a_RESUME_ATTEMPT_LIMIT_REACHED_ordinal hS) (by decide))
  have k11 := ((f_a_RESUME_MISSING_RUNTIME_ARTIFACTS_ordinal hS).ne (f_a_RESUME_BLOCKED_COOLDOWN_ordinal hS) (by decide))
  have k12 := ((f_a_RESUME_UNKNOWN_INTERRUPTION_CLASS_ordinal hS).ne (f_a_RESUME_ALLOWED_ordinal hS) (by decide))
  have k13 := ((f_a_RESUME_UNKNOWN_INTERRUPTION_CLASS_ordinal hS).ne (f_a_RESUME_MISSING_RUNTIME_ARTIFACTS_ordinal hS) (by decide))
  have k14 := ((f_a_RESUME_UNKNOWN_INTERRUPTION_CLASS_ordinal hS).ne (f_a_RESUME_MISSING_CHECKPOINT_ordinal hS) (by decide))
  have k15 := ((f_a_RESUME_UNKNOWN_INTERRUPTION_CLASS_ordinal hS).ne (f_a_RESUME_NON_IDEMPOTENT_STEP_ordinal hS) (by decide))
  have k16 := ((f_a_RESUME_UNKNOWN_INTERRUPTION_CLASS_ordinal hS).ne (f_a_RESUME_ATTEMPT_LIMIT_REACHED_ordinal hS) (by decide))
  have k17 := ((f_a_RESUME_UNKNOWN_INTERRUPTION_CLASS_ordinal hS).ne (f_a_RESUME_BLOCKED_COOLDOWN_ordinal hS) (by decide))
  have k18 := ((f_a_RESUME_MISSING_CHECKPOINT_ordinal hS).ne (f_a_RESUME_ALLOWED_ordinal hS) (by decide))
  have k19 := ((f_a_RESUME_MISSING_CHECKPOINT_ordinal hS).ne (f_a_RESUME_MISSING_RUNTIME_ARTIFACTS_ordinal hS) (by decide))
  have k20 := ((f_a_RESUME_MISSING_CHECKPOINT_ordinal hS).ne (f_a_RESUME_UNKNOWN_INTERRUPTION_CLASS_ordinal hS) (by decide))
  have k21 := ((f_a_RESUME_MISSING_CHECKPOINT_ordinal hS).ne (f_a_RESUME_NON_IDEMPOTENT_STEP_ordinal hS) (by decide))
  have k22 := ((f_a_RESUME_MISSING_CHECKPOINT_ordinal hS).ne (f_a_RESUME_ATTEMPT_LIMIT_REACHED_ordinal hS) (by decide))
  have k23 := ((f_a_RESUME_MISSING_CHECKPOINT_ordinal hS).ne (f_a_RESUME_BLOCKED_COOLDOWN_ordinal hS) (by decide))
  have k24 := ((f_a_RESUME_NON_IDEMPOTENT_STEP_ordinal hS).ne (f_a_RESUME_ALLOWED_ordinal hS) (by decide))
  have k25 := ((f_a_RESUME_NON_IDEMPOTENT_STEP_ordinal hS).ne (f_a_RESUME_MISSING_RUNTIME_ARTIFACTS_ordinal hS) (by decide))
  have k26 := ((f_a_RESUME_NON_IDEMPOTENT_STEP_ordinal hS).ne (f_a_RESUME_UNKNOWN_INTERRUPTION_CLASS_ordinal hS) (by decide))
  have k27 := ((f_a_RESUME_NON_IDEMPOTENT_STEP_ordinal hS).ne (f_a_RESUME_MISSING_CHECKPOINT_ordinal hS) (by decide))
  have k28 := ((f_a_RESUME_NON_IDEMPOTENT_STEP_ordinal hS).ne (f_a_RESUME_ATTEMPT_LIMIT_REACHED_ordinal hS) (by decide))
  have k29 := ((f_a_RESUME_NON_IDEMPOTENT_STEP_ordinal hS).ne (f_a_RESUME_BLOCKED_COOLDOWN_ordinal hS) (by decide))
  have k30 := ((f_a_RESUME_ATTEMPT_LIMIT_REACHED_ordinal hS).ne (f_a_RESUME_ALLOWED_ordinal hS) (by decide))
  have k31 := ((f_a_RESUME_ATTEMPT_LIMIT_REACHED_ordinal hS).ne (f_a_RESUME_MISSING_RUNTIME_ARTIFACTS_ordinal hS) (by decide))
  have k32 := ((f_a_RESUME_ATTEMPT_LIMIT_REACHED_ordinal hS).ne (f_a_RESUME_UNKNOWN_INTERRUPTION_CLASS_ordinal hS) (by decide))
  have k33 := ((f_a_RESUME_ATTEMPT_LIMIT_REACHED_ordinal hS).ne (f_a_RESUME_MISSING_CHECKPOINT_ordinal hS) (by decide))
  have k34 := ((f_a_RESUME_ATTEMPT_LIMIT_REACHED_ordinal hS).ne (f_a_RESUME_NON_IDEMPOTENT_STEP_ordinal hS) (by decide))
  have k35 := ((f_a_RESUME_ATTEMPT_LIMIT_REACHED_ordinal hS).ne (f_a_RESUME_BLOCKED_COOLDOWN_ordinal hS) (by decide))
  have k36 := ((f_a_RESUME_BLOCKED_COOLDOWN_ordinal hS).ne (f_a_RESUME_ALLOWED_ordinal hS) (by decide))
  have k37 := ((f_a_RESUME_BLOCKED_COOLDOWN_ordinal hS).ne (f_a_RESUME_MISSING_RUNTIME_ARTIFACTS_ordinal hS) (by decide))
  have k38 := ((f_a_RESUME_BLOCKED_COOLDOWN_ordinal hS).ne (f_a_RESUME_UNKNOWN_INTERRUPTION_CLASS_ordinal hS) (by decide))
  have k39 := ((f_a_RESUME_BLOCKED_COOLDOWN_ordinal hS).ne (f_a_RESUME_MISSING_CHECKPOINT_ordinal hS) (by decide))
  have k40 := ((f_a_RESUME_BLOCKED_COOLDOWN_ordinal hS).ne (f_a_RESUME_NON_IDEMPOTENT_STEP_ordinal hS) (by decide))
  have k41 := ((f_a_RESUME_BLOCKED_COOLDOWN_ordinal hS).ne (f_a_RESUME_ATTEMPT_LIMIT_REACHED_ordinal hS) (by decide))
  rcases ri with rfl | rfl | rfl | rfl | rfl | rfl | rfl <;> simp_all [fn1, fn5]
theorem ab90 {Z : State} (hS : St Z) (p3 : Int32) (p4 : Int32) (p5 : Int32) (i : Int32) (c0 : Int32) (c1 : Int32) (ri : i = (0 : Int32) ∨ i = (1 : Int32) ∨ i = (2 : Int32) ∨ i = (3 : Int32) ∨ i = (4 : Int32) ∨ i = (5 : Int32) ∨ i = (6 : Int32)) (hc56 : (p3 &&& (1 : Int32)) = (0 : Int32)) (hc58 : ¬ ((p3 &&& (2 : Int32)) = (0 : Int32))) (ec0 : c0 = (p4 &&& (255 : Int32))) (ec1 : c1 = (p5 &&& (255 : Int32))) (hc82 : ¬ (i = (0 : Int32))) (hc89 : ¬ ((fn5 Z b78 (fn1 Z i)) = (0 : Int32))) : False := by
  have k0 := ((f_a_RESUME_ALLOWED_ordinal hS).ne (f_a_RESUME_MISSING_RUNTIME_ARTIFACTS_ordinal hS) (by decide))
  have k1 := ((f_a_RESUME_ALLOWED_ordinal hS).ne (f_a_RESUME_UNKNOWN_INTERRUPTION_CLASS_ordinal hS) (by decide))
  have k2 := ((f_a_RESUME_ALLOWED_ordinal hS).ne (f_a_RESUME_MISSING_CHECKPOINT_ordinal hS) (by decide))
  have k3 := ((f_a_RESUME_ALLOWED_ordinal hS).ne (f_a_RESUME_NON_IDEMPOTENT_STEP_ordinal hS) (by decide))
  have k4 := ((f_a_RESUME_ALLOWED_ordinal hS).ne (f_a_RESUME_ATTEMPT_LIMIT_REACHED_ordinal hS) (by decide))
  have k5 := ((f_a_RESUME_ALLOWED_ordinal hS).ne (f_a_RESUME_BLOCKED_COOLDOWN_ordinal hS) (by decide))
  have k6 := ((f_a_RESUME_MISSING_RUNTIME_ARTIFACTS_ordinal hS).ne (f_a_RESUME_ALLOWED_ordinal hS) (by decide))
  have k7 := ((f_a_RESUME_MISSING_RUNTIME_ARTIFACTS_ordinal hS).ne (f_a_RESUME_UNKNOWN_INTERRUPTION_CLASS_ordinal hS) (by decide))
  have k8 := ((f_a_RESUME_MISSING_RUNTIME_ARTIFACTS_ordinal hS).ne (f_a_RESUME_MISSING_CHECKPOINT_ordinal hS) (by decide))
  have k9 := ((f_a_RESUME_MISSING_RUNTIME_ARTIFACTS_ordinal hS).ne (f_a_RESUME_NON_IDEMPOTENT_STEP_ordinal hS) (by decide))
  have k10 := ((f_a_RESUME_MISSING_RUNTIME_ARTIFACTS_ordinal hS).ne (f_a_RESUME_ATTEMPT_LIMIT_REACHED_ordinal hS) (by decide))
  have k11 := ((f_a_RESUME_MISSING_RUNTIME_ARTIFACTS_ordinal hS).ne (f_a_RESUME_BLOCKED_COOLDOWN_ordinal hS) (by decide))
  have k12 := ((f_a_RESUME_UNKNOWN_INTERRUPTION_CLASS_ordinal hS).ne (f_a_RESUME_ALLOWED_ordinal hS) (by decide))
  have k13 := ((f_a_RESUME_UNKNOWN_INTERRUPTION_CLASS_ordinal hS).ne (f_a_RESUME_MISSING_RUNTIME_ARTIFACTS_ordinal hS) (by decide))
  have k14 := ((f_a_RESUME_UNKNOWN_INTERRUPTION_CLASS_ordinal hS).ne (f_a_RESUME_MISSING_CHECKPOINT_ordinal hS) (by decide))
  have k15 := ((f_a_RESUME_UNKNOWN_INTERRUPTION_CLASS_ordinal hS).ne (f_a_RESUME_NON_IDEMPOTENT_STEP_ordinal hS) (by decide))
  have k16 := ((f_a_RESUME_UNKNOWN_INTERRUPTION_CLASS_ordinal hS).ne (f_a_RESUME_ATTEMPT_LIMIT_REACHED_ordinal hS) (by decide))
  have k17 := ((f_a_RESUME_UNKNOWN_INTERRUPTION_CLASS_ordinal hS).ne (f_a_RESUME_BLOCKED_COOLDOWN_ordinal hS) (by decide))
  have k18 := ((f_a_RESUME_MISSING_CHECKPOINT_ordinal hS).ne (f_a_RESUME_ALLOWED_ordinal hS) (by decide))
  have k19 := ((f_a_RESUME_MISSING_CHECKPOINT_ordinal hS).ne (f_a_RESUME_MISSING_RUNTIME_ARTIFACTS_ordinal hS) (by decide))
  have k20 := ((f_a_RESUME_MISSING_CHECKPOINT_ordinal hS).ne (f_a_RESUME_UNKNOWN_INTERRUPTION_CLASS_ordinal hS) (by decide))
  have k21 := ((f_a_RESUME_MISSING_CHECKPOINT_ordinal hS).ne (f_a_RESUME_NON_IDEMPOTENT_STEP_ordinal hS) (by decide))
  have k22 := ((f_a_RESUME_MISSING_CHECKPOINT_ordinal hS).ne (f_a_RESUME_ATTEMPT_LIMIT_REACHED_ordinal hS) (by decide))
  have k23 := ((f_a_RESUME_MISSING_CHECKPOINT_ordinal hS).ne (f_a_RESUME_BLOCKED_COOLDOWN_ordinal hS) (by decide))
  have k24 := ((f_a_RESUME_NON_IDEMPOTENT_STEP_ordinal hS).ne (f_a_RESUME_ALLOWED_ordinal hS) (by decide))
  have k25 := ((f_a_RESUME_NON_IDEMPOTENT_STEP_ordinal hS).ne (f_a_RESUME_MISSING_RUNTIME_ARTIFACTS_ordinal hS) (by decide))
  have k26 := ((f_a_RESUME_NON_IDEMPOTENT_STEP_ordinal hS).ne (f_a_RESUME_UNKNOWN_INTERRUPTION_CLASS_ordinal hS) (by decide))
  have k27 := ((f_a_RESUME_NON_IDEMPOTENT_STEP_ordinal hS).ne (f_a_RESUME_MISSING_CHECKPOINT_ordinal hS) (by decide))
  have k28 := ((f_a_RESUME_NON_IDEMPOTENT_STEP_ordinal hS).ne (f_a_RESUME_ATTEMPT_LIMIT_REACHED_ordinal hS) (by decide))
  have k29 := ((f_a_RESUME_NON_IDEMPOTENT_STEP_ordinal hS).ne (f_a_RESUME_BLOCKED_COOLDOWN_ordinal hS) (by decide))
  have k30 := ((f_a_RESUME_ATTEMPT_LIMIT_REACHED_ordinal hS).ne (f_a_RESUME_ALLOWED_ordinal hS) (by decide))
  have k31 := ((f_a_RESUME_ATTEMPT_LIMIT_REACHED_ordinal hS).ne (f_a_RESUME_MISSING_RUNTIME_ARTIFACTS_ordinal hS) (by decide))
  have k32 := ((f_a_RESUME_ATTEMPT_LIMIT_REACHED_ordinal hS).ne (f_a_RESUME_UNKNOWN_INTERRUPTION_CLASS_ordinal hS) (by decide))
  have k33 := ((f_a_RESUME_ATTEMPT_LIMIT_REACHED_ordinal hS).ne (f_a_RESUME_MISSING_CHECKPOINT_ordinal hS) (by decide))
  have k34 := ((f_a_RESUME_ATTEMPT_LIMIT_REACHED_ordinal hS).ne (f_a_RESUME_NON_IDEMPOTENT_STEP_ordinal hS) (by decide))
  have k35 := ((f_a_RESUME_ATTEMPT_LIMIT_REACHED_ordinal hS).ne (f_a_RESUME_BLOCKED_COOLDOWN_ordinal hS) (by decide))
  have k36 := ((f_a_RESUME_BLOCKED_COOLDOWN_ordinal hS).ne (f_a_RESUME_ALLOWED_ordinal hS) (by decide))
  have k37 := ((f_a_RESUME_BLOCKED_COOLDOWN_ordinal hS).ne (f_a_RESUME_MISSING_RUNTIME_ARTIFACTS_ordinal hS) (by decide))
  have k38 := ((f_a_RESUME_BLOCKED_COOLDOWN_ordinal hS).ne (f_a_RESUME_UNKNOWN_INTERRUPTION_CLASS_ordinal hS) (by decide))
  have k39 := ((f_a_RESUME_BLOCKED_COOLDOWN_ordinal hS).ne (f_a_RESUME_MISSING_CHECKPOINT_ordinal hS) (by decide))
  have k40 := ((f_a_RESUME_BLOCKED_COOLDOWN_ordinal hS).ne (f_a_RESUME_NON_IDEMPOTENT_STEP_ordinal hS) (by decide))
  have k41 := ((f_a_RESUME_BLOCKED_COOLDOWN_ordinal hS).ne (f_a_RESUME_ATTEMPT_LIMIT_REACHED_ordinal hS) (by decide))
  rcases ri with rfl | rfl | rfl | rfl | rfl | rfl | rfl <;> simp_all [fn1, fn5]
theorem pd_6 : parseMethodDescriptor "(I)Ljava/lang/Integer;" = some ⟨[.int], some (.object "java/lang/Integer")⟩ := by decide +kernel
theorem ab101 {Z : State} (hS : St Z) (p3 : Int32) (i : Int32) (ri : i = (0 : Int32) ∨ i = (1 : Int32) ∨ i = (2 : Int32) ∨ i = (3 : Int32) ∨ i = (4 : Int32) ∨ i = (5 : Int32) ∨ i = (6 : Int32)) (hc56 : ¬ ((p3 &&& (1 : Int32)) = (0 : Int32))) (hc93 : (p3 &&& (2 : Int32)) = (0 : Int32)) (hc97 : i = (0 : Int32)) (hc100 : ¬ ((fn5 Z b94 (fn1 Z i)) = (1 : Int32))) : False := by
  have k0 := ((f_a_RESUME_ALLOWED_ordinal hS).ne (f_a_RESUME_MISSING_RUNTIME_ARTIFACTS_ordinal hS) (by decide))
  have k1 := ((f_a_RESUME_ALLOWED_ordinal hS).ne (f_a_RESUME_UNKNOWN_INTERRUPTION_CLASS_ordinal hS) (by decide))
  have k2 := ((f_a_RESUME_ALLOWED_ordinal hS).ne (f_a_RESUME_MISSING_CHECKPOINT_ordinal hS) (by decide))
  have k3 := ((f_a_RESUME_ALLOWED_ordinal hS).ne (f_a_RESUME_NON_IDEMPOTENT_STEP_ordinal hS) (by decide))
  have k4 := ((f_a_RESUME_ALLOWED_ordinal hS).ne (f_a_RESUME_ATTEMPT_LIMIT_REACHED_ordinal hS) (by decide))
  have k5 := ((f_a_RESUME_ALLOWED_ordinal hS).ne (f_a_RESUME_BLOCKED_COOLDOWN_ordinal hS) (by decide))
  have k6 := ((f_a_RESUME_MISSING_RUNTIME_ARTIFACTS_ordinal hS).ne (f_a_RESUME_ALLOWED_ordinal hS) (by decide))
  have k7 := ((f_a_RESUME_MISSING_RUNTIME_ARTIFACTS_ordinal hS).ne (f_a_RESUME_UNKNOWN_INTERRUPTION_CLASS_ordinal hS) (by decide))
  have k8 := ((f_a_RESUME_MISSING_RUNTIME_ARTIFACTS_ordinal hS).ne (f_a_RESUME_MISSING_CHECKPOINT_ordinal hS) (by decide))
  have k9 := ((f_a_RESUME_MISSING_RUNTIME_ARTIFACTS_ordinal hS).ne (f_a_RESUME_NON_IDEMPOTENT_STEP_ordinal hS) (by decide))
  have k10 := ((f_a_RESUME_MISSING_RUNTIME_ARTIFACTS_ordinal hS).ne (f_a_RESUME_ATTEMPT_LIMIT_REACHED_ordinal hS) (by decide))
  have k11 := ((f_a_RESUME_MISSING_RUNTIME_ARTIFACTS_ordinal hS).ne (f_a_RESUME_BLOCKED_COOLDOWN_ordinal hS) (by decide))
  have k12 := ((f_a_RESUME_UNKNOWN_INTERRUPTION_CLASS_ordinal hS).ne (f_a_RESUME_ALLOWED_ordinal hS) (by decide))
  have k13 := ((f_a_RESUME_UNKNOWN_INTERRUPTION_CLASS_ordinal hS).ne (f_a_RESUME_MISSING_RUNTIME_ARTIFACTS_ordinal hS) (by decide))
  have k14 := ((f_a_RESUME_UNKNOWN_INTERRUPTION_CLASS_ordinal hS).ne (f_a_RESUME_MISSING_CHECKPOINT_ordinal hS) (by decide))
  have k15 := ((f_a_RESUME_UNKNOWN_INTERRUPTION_CLASS_ordinal hS).ne (f_a_RESUME_NON_IDEMPOTENT_STEP_ordinal hS) (by decide))
  have k16 := ((f_a_RESUME_UNKNOWN_INTERRUPTION_CLASS_ordinal hS).ne (f_a_RESUME_ATTEMPT_LIMIT_REACHED_ordinal hS) (by decide))
  have k17 := ((f_a_RESUME_UNKNOWN_INTERRUPTION_CLASS_ordinal hS).ne (f_a_RESUME_BLOCKED_COOLDOWN_ordinal hS) (by decide))
  have k18 := ((f_a_RESUME_MISSING_CHECKPOINT_ordinal hS).ne (f_a_RESUME_ALLOWED_ordinal hS) (by decide))
  have k19 := ((f_a_RESUME_MISSING_CHECKPOINT_ordinal hS).ne (f_a_RESUME_MISSING_RUNTIME_ARTIFACTS_ordinal hS) (by decide))
  have k20 := ((f_a_RESUME_MISSING_CHECKPOINT_ordinal hS).ne (f_a_RESUME_UNKNOWN_INTERRUPTION_CLASS_ordinal hS) (by decide))
  have k21 := ((f_a_RESUME_MISSING_CHECKPOINT_ordinal hS).ne (f_a_RESUME_NON_IDEMPOTENT_STEP_ordinal hS) (by decide))
  have k22 := ((f_a_RESUME_MISSING_CHECKPOINT_ordinal hS).ne (f_a_RESUME_ATTEMPT_LIMIT_REACHED_ordinal hS) (by decide))
  have k23 := ((f_a_RESUME_MISSING_CHECKPOINT_ordinal hS).ne (f_a_RESUME_BLOCKED_COOLDOWN_ordinal hS) (by decide))
  have k24 := ((f_a_RESUME_NON_IDEMPOTENT_STEP_ordinal hS).ne (f_a_RESUME_ALLOWED_ordinal hS) (by decide))
  have k25 := ((f_a_RESUME_NON_IDEMPOTENT_STEP_ordinal hS).ne (f_a_RESUME_MISSING_RUNTIME_ARTIFACTS_ordinal hS) (by decide))
  have k26 := ((f_a_RESUME_NON_IDEMPOTENT_STEP_ordinal hS).ne (f_a_RESUME_UNKNOWN_INTERRUPTION_CLASS_ordinal hS) (by decide))
  have k27 := ((f_a_RESUME_NON_IDEMPOTENT_STEP_ordinal hS).ne (f_a_RESUME_MISSING_CHECKPOINT_ordinal hS) (by decide))
  have k28 := ((f_a_RESUME_NON_IDEMPOTENT_STEP_ordinal hS).ne (f_a_RESUME_ATTEMPT_LIMIT_REACHED_ordinal hS) (by decide))
  have k29 := ((f_a_RESUME_NON_IDEMPOTENT_STEP_ordinal hS).ne (f_a_RESUME_BLOCKED_COOLDOWN_ordinal hS) (by decide))
  have k30 := ((f_a_RESUME_ATTEMPT_LIMIT_REACHED_ordinal hS).ne (f_a_RESUME_ALLOWED_ordinal hS) (by decide))
  have k31 := ((f_a_RESUME_ATTEMPT_LIMIT_REACHED_ordinal hS).ne (f_a_RESUME_MISSING_RUNTIME_ARTIFACTS_ordinal hS) (by decide))
  have k32 := ((f_a_RESUME_ATTEMPT_LIMIT_REACHED_ordinal hS).ne (f_a_RESUME_UNKNOWN_INTERRUPTION_CLASS_ordinal hS) (by decide))
  have k33 := ((f_a_RESUME_ATTEMPT_LIMIT_REACHED_ordinal hS).ne (f_a_RESUME_MISSING_CHECKPOINT_ordinal hS) (by decide))
  have k34 := ((f_a_RESUME_ATTEMPT_LIMIT_REACHED_ordinal hS).ne (f_a_RESUME_NON_IDEMPOTENT_STEP_ordinal hS) (by decide))
  have k35 := ((f_a_RESUME_ATTEMPT_LIMIT_REACHED_ordinal hS).ne (f_a_RESUME_BLOCKED_COOLDOWN_ordinal hS) (by decide))
  have k36 := ((f_a_RESUME_BLOCKED_COOLDOWN_ordinal hS).ne (f_a_RESUME_ALLOWED_ordinal hS) (by decide))
  have k37 := ((f_a_RESUME_BLOCKED_COOLDOWN_ordinal hS).ne (f_a_RESUME_MISSING_RUNTIME_ARTIFACTS_ordinal hS) (by decide))
  have k38 := ((f_a_RESUME_BLOCKED_COOLDOWN_ordinal hS).ne (f_a_RESUME_UNKNOWN_INTERRUPTION_CLASS_ordinal hS) (by decide))
  have k39 := ((f_a_RESUME_BLOCKED_COOLDOWN_ordinal hS).ne (f_a_RESUME_MISSING_CHECKPOINT_ordinal hS) (by decide))
  have k40 := ((f_a_RESUME_BLOCKED_COOLDOWN_ordinal hS).ne (f_a_RESUME_NON_IDEMPOTENT_STEP_ordinal hS) (by decide))
  have k41 := ((f_a_RESUME_BLOCKED_COOLDOWN_ordinal hS).ne (f_a_RESUME_ATTEMPT_LIMIT_REACHED_ordinal hS) (by decide))
  rcases ri with rfl | rfl | rfl | rfl | rfl | rfl | rfl <;> simp_all [fn1, fn5]
theorem ab105 {Z : State} (hS : St Z) (p3 : Int32) (i : Int32) (ri : i = (0 : Int32) ∨ i = (1 : Int32) ∨ i = (2 : Int32) ∨ i = (3 : Int32) ∨ i = (4 : Int32) ∨ i = (5 : Int32) ∨ i = (6 : Int32)) (hc56 : ¬ ((p3 &&& (1 : Int32)) = (0 : Int32))) (hc93 : (p3 &&& (2 : Int32)) = (0 : Int32)) (hc97 : ¬ (i = (0 : Int32))) (hc104 : ¬ ((fn5 Z b94 (fn1 Z i)) = (0 : Int32))) : False := by
  have k0 := ((f_a_RESUME_ALLOWED_ordinal hS).ne (f_a_RESUME_MISSING_RUNTIME_ARTIFACTS_ordinal hS) (by decide))
  have k1 := ((f_a_RESUME_ALLOWED_ordinal hS).ne (f_a_RESUME_UNKNOWN_INTERRUPTION_CLASS_ordinal hS) (by decide))
  have k2 := ((f_a_RESUME_ALLOWED_ordinal hS).ne (f_a_RESUME_MISSING_CHECKPOINT_ordinal hS) (by decide))
  have k3 := ((f_a_RESUME_ALLOWED_ordinal hS).ne (f_a_RESUME_NON_IDEMPOTENT_STEP_ordinal hS) (by decide))
  have k4 := ((f_a_RESUME_ALLOWED_ordinal hS).ne (f_a_RESUME_ATTEMPT_LIMIT_REACHED_ordinal hS) (by decide))
  have k5 := ((f_a_RESUME_ALLOWED_ordinal hS).ne (f_a_RESUME_BLOCKED_COOLDOWN_ordinal hS) (by decide))
  have k6 := ((f_a_RESUME_MISSING_RUNTIME_ARTIFACTS_ordinal hS).ne (f_a_RESUME_ALLOWED_ordinal hS) (by decide))
  have k7 := ((f_a_RESUME_MISSING_RUNTIME_ARTIFACTS_ordinal hS).ne (f_a_RESUME_UNKNOWN_INTERRUPTION_CLASS_ordinal hS) (by decide))
  have k8 := ((f_a_RESUME_MISSING_RUNTIME_ARTIFACTS_ordinal hS).ne (f_a_RESUME_MISSING_CHECKPOINT_ordinal hS) (by decide))
  have k9 := ((f_a_RESUME_MISSING_RUNTIME_ARTIFACTS_ordinal hS).ne (f_a_RESUME_NON_IDEMPOTENT_STEP_ordinal hS) (by decide))
  have k10 := ((f_a_RESUME_MISSING_RUNTIME_ARTIFACTS_ordinal hS).ne (f_a_RESUME_ATTEMPT_LIMIT_REACHED_ordinal hS) (by decide))
  have k11 := ((f_a_RESUME_MISSING_RUNTIME_ARTIFACTS_ordinal hS).ne (f_a_RESUME_BLOCKED_COOLDOWN_ordinal hS) (by decide))
  have k12 := ((f_a_RESUME_UNKNOWN_INTERRUPTION_CLASS_ordinal hS).ne (f_a_RESUME_ALLOWED_ordinal hS) (by decide))
  have k13 := ((f_a_RESUME_UNKNOWN_INTERRUPTION_CLASS_ordinal hS).ne (f_a_RESUME_MISSING_RUNTIME_ARTIFACTS_ordinal hS) (by decide))
  have k14 := ((f_a_RESUME_UNKNOWN_INTERRUPTION_CLASS_ordinal hS).ne (f_a_RESUME_MISSING_CHECKPOINT_ordinal hS) (by decide))
  have k15 := ((f_a_RESUME_UNKNOWN_INTERRUPTION_CLASS_ordinal hS).ne (f_a_RESUME_NON_IDEMPOTENT_STEP_ordinal hS) (by decide))
  have k16 := ((f_a_RESUME_UNKNOWN_INTERRUPTION_CLASS_ordinal hS).ne (f_a_RESUME_ATTEMPT_LIMIT_REACHED_ordinal hS) (by decide))
  have k17 := ((f_a_RESUME_UNKNOWN_INTERRUPTION_CLASS_ordinal hS).ne (f_a_RESUME_BLOCKED_COOLDOWN_ordinal hS) (by decide))
  have k18 := ((f_a_RESUME_MISSING_CHECKPOINT_ordinal hS).ne (f_a_RESUME_ALLOWED_ordinal hS) (by decide))
  have k19 := ((f_a_RESUME_MISSING_CHECKPOINT_ordinal hS).ne (f_a_RESUME_MISSING_RUNTIME_ARTIFACTS_ordinal hS) (by decide))
  have k20 := ((f_a_RESUME_MISSING_CHECKPOINT_ordinal hS).ne (f_a_RESUME_UNKNOWN_INTERRUPTION_CLASS_ordinal hS) (by decide))
  have k21 := ((f_a_RESUME_MISSING_CHECKPOINT_ordinal hS).ne (f_a_RESUME_NON_IDEMPOTENT_STEP_ordinal hS) (by decide))
  have k22 := ((f_a_RESUME_MISSING_CHECKPOINT_ordinal hS).ne (f_a_RESUME_ATTEMPT_LIMIT_REACHED_ordinal hS) (by decide))
  have k23 := ((f_a_RESUME_MISSING_CHECKPOINT_ordinal hS).ne (f_a_RESUME_BLOCKED_COOLDOWN_ordinal hS) (by decide))
  have k24 := ((f_a_RESUME_NON_IDEMPOTENT_STEP_ordinal hS).ne (f_a_RESUME_ALLOWED_ordinal hS) (by decide))
  have k25 := ((f_a_RESUME_NON_IDEMPOTENT_STEP_ordinal hS).ne (f_a_RESUME_MISSING_RUNTIME_ARTIFACTS_ordinal hS) (by decide))
  have k26 := ((f_a_RESUME_NON_IDEMPOTENT_STEP_ordinal hS).ne (f_a_RESUME_UNKNOWN_INTERRUPTION_CLASS_ordinal hS) (by decide))
  have k27 := ((f_a_RESUME_NON_IDEMPOTENT_STEP_ordinal hS).ne (f_a_RESUME_MISSING_CHECKPOINT_ordinal hS) (by decide))
  have k28 := ((f_a_RESUME_NON_IDEMPOTENT_STEP_ordinal hS).ne (f_a_RESUME_ATTEMPT_LIMIT_REACHED_ordinal hS) (by decide))
  have k29 := ((f_a_RESUME_NON_IDEMPOTENT_STEP_ordinal hS).ne (f_a_RESUME_BLOCKED_COOLDOWN_ordinal hS) (by decide))
  have k30 := ((f_a_RESUME_ATTEMPT_LIMIT_REACHED_ordinal hS).ne (f_a_RESUME_ALLOWED_ordinal hS) (by decide))
  have k31 := ((f_a_RESUME_ATTEMPT_LIMIT_REACHED_ordinal hS).ne (f_a_RESUME_MISSING_RUNTIME_ARTIFACTS_ordinal hS) (by decide))
  have k32 := ((f_a_RESUME_ATTEMPT_LIMIT_REACHED_ordinal hS).ne (f_a_RESUME_UNKNOWN_INTERRUPTION_CLASS_ordinal hS) (by decide))
  have k33 := ((f_a_RESUME_ATTEMPT_LIMIT_REACHED_ordinal hS).ne (f_a_RESUME_MISSING_CHECKPOINT_ordinal hS) (by decide))
  have k34 := ((f_a_RESUME_ATTEMPT_LIMIT_REACHED_ordinal hS).ne (f_a_RESUME_NON_IDEMPOTENT_STEP_ordinal hS) (by decide))
  have k35 := ((f_a_RESUME_ATTEMPT_LIMIT_REACHED_ordinal hS).ne (f_a_RESUME_BLOCKED_COOLDOWN_ordinal hS) (by decide))
  have k36 := ((f_a_RESUME_BLOCKED_COOLDOWN_ordinal hS).ne (f_a_RESUME_ALLOWED_ordinal hS) (by decide))
  have k37 := ((f_a_RESUME_BLOCKED_COOLDOWN_ordinal hS).ne (f_a_RESUME_MISSING_RUNTIME_ARTIFACTS_ordinal hS) (by decide))
  have k38 := ((f_a_RESUME_BLOCKED_COOLDOWN_ordinal hS).ne (f_a_RESUME_UNKNOWN_INTERRUPTION_CLASS_ordinal hS) (by decide))
  have k39 := ((f_a_RESUME_BLOCKED_COOLDOWN_ordinal hS).ne (f_a_RESUME_MISSING_CHECKPOINT_ordinal hS) (by decide))
  have k40 := ((f_a_RESUME_BLOCKED_COOLDOWN_ordinal hS).ne (f_a_RESUME_NON_IDEMPOTENT_STEP_ordinal hS) (by decide))
  have k41 := ((f_a_RESUME_BLOCKED_COOLDOWN_ordinal hS).ne (f_a_RESUME_ATTEMPT_LIMIT_REACHED_ordinal hS) (by decide))
  rcases ri with rfl | rfl | rfl | rfl | rfl | rfl | rfl <;> simp_all [fn1, fn5]
theorem ab121 {Z : State} (hS : St Z) (p3 : Int32) (p4 : Int32) (p5 : Int32) (i : Int32) (c0 : Int32) (c1 : Int32) (ri : i = (0 : Int32) ∨ i = (1 : Int32) ∨ i = (2 : Int32) ∨ i = (3 : Int32) ∨ i = (4 : Int32) ∨ i = (5 : Int32) ∨ i = (6 : Int32)) (hc56 : ¬ ((p3 &&& (1 : Int32)) = (0 : Int32))) (hc93 : ¬ ((p3 &&& (2 : Int32)) = (0 : Int32))) (ec0 : c0 = (p4 &&& (255 : Int32))) (ec1 : c1 = (p5 &&& (255 : Int32))) (hc117 : i = (0 : Int32)) (hc120 : ¬ ((fn5 Z b113 (fn1 Z i)) = (1 : Int32))) : False := by
  have k0 := ((f_a_RESUME_ALLOWED_ordinal hS).ne (f_a_RESUME_MISSING_RUNTIME_ARTIFACTS_ordinal hS) (by decide))
  have k1 := ((f_a_RESUME_ALLOWED_ordinal hS).ne (f_a_RESUME_UNKNOWN_INTERRUPTION_CLASS_ordinal hS) (by decide))
  have k2 := ((f_a_RESUME_ALLOWED_ordinal hS).ne (f_a_RESUME_MISSING_CHECKPOINT_ordinal hS) (by decide))
  have k3 := ((f_a_RESUME_ALLOWED_ordinal hS).ne (f_a_RESUME_NON_IDEMPOTENT_STEP_ordinal hS) (by decide))
  have k4 := ((f_a_RESUME_ALLOWED_ordinal hS).ne (f_a_RESUME_ATTEMPT_LIMIT_REACHED_ordinal hS) (by decide))
  have k5 := ((f_a_RESUME_ALLOWED_ordinal hS).ne (f_a_RESUME_BLOCKED_COOLDOWN_ordinal hS) (by decide))
  have k6 := ((f_a_RESUME_MISSING_RUNTIME_ARTIFACTS_ordinal hS).ne (f_a_RESUME_ALLOWED_ordinal hS) (by decide))
  have k7 := ((f_a_RESUME_MISSING_RUNTIME_ARTIFACTS_ordinal hS).ne (f_a_RESUME_UNKNOWN_INTERRUPTION_CLASS_ordinal hS) (by decide))
  have k8 := ((f_a_RESUME_MISSING_RUNTIME_ARTIFACTS_ordinal hS).ne (f_a_RESUME_MISSING_CHECKPOINT_ordinal hS) (by decide))
  have k9 := ((f_a_RESUME_MISSING_RUNTIME_ARTIFACTS_ordinal hS).ne (f_a_RESUME_NON_IDEMPOTENT_STEP_ordinal hS) (by decide))
  have k10 := ((f_a_RESUME_MISSING_RUNTIME_ARTIFACTS_ordinal hS).ne (f_a_RESUME_ATTEMPT_LIMIT_REACHED_ordinal hS) (by decide))
  have k11 := ((f_a_RESUME_MISSING_RUNTIME_ARTIFACTS_ordinal hS).ne (f_a_RESUME_BLOCKED_COOLDOWN_ordinal hS) (by decide))
  have k12 := ((f_a_RESUME_UNKNOWN_INTERRUPTION_CLASS_ordinal hS).ne (f_a_RESUME_ALLOWED_ordinal hS) (by decide))
  have k13 := ((f_a_RESUME_UNKNOWN_INTERRUPTION_CLASS_ordinal hS).ne (f_a_RESUME_MISSING_RUNTIME_ARTIFACTS_ordinal hS) (by decide))
  have k14 := ((f_a_RESUME_UNKNOWN_INTERRUPTION_CLASS_ordinal hS).ne (f_a_RESUME_MISSING_CHECKPOINT_ordinal hS) (by decide))
  have k15 := ((f_a_RESUME_UNKNOWN_INTERRUPTION_CLASS_ordinal hS).ne (f_a_RESUME_NON_IDEMPOTENT_STEP_ordinal hS) (by decide))
  have k16 := ((f_a_RESUME_UNKNOWN_INTERRUPTION_CLASS_ordinal hS).ne (f_a_RESUME_ATTEMPT_LIMIT_REACHED_ordinal hS) (by decide))
  have k17 := ((f_a_RESUME_UNKNOWN_INTERRUPTION_CLASS_ordinal hS).ne (f_a_RESUME_BLOCKED_COOLDOWN_ordinal hS) (by decide))
  have k18 := ((f_a_RESUME_MISSING_CHECKPOINT_ordinal hS).ne (f_a_RESUME_ALLOWED_ordinal hS) (by decide))
  have k19 := ((f_a_RESUME_MISSING_CHECKPOINT_ordinal hS).ne (f_a_RESUME_MISSING_RUNTIME_ARTIFACTS_ordinal hS) (by decide))
  have k20 := ((f_a_RESUME_MISSING_CHECKPOINT_ordinal hS).ne (f_a_RESUME_UNKNOWN_INTERRUPTION_CLASS_ordinal hS) (by decide))
  have k21 := ((f_a_RESUME_MISSING_CHECKPOINT_ordinal hS).ne (f_a_RESUME_NON_IDEMPOTENT_STEP_ordinal hS) (by decide))
  have k22 := ((f_a_RESUME_MISSING_CHECKPOINT_ordinal hS).ne (f_a_RESUME_ATTEMPT_LIMIT_REACHED_ordinal hS) (by decide))
  have k23 := ((f_a_RESUME_MISSING_CHECKPOINT_ordinal hS).ne (f_a_RESUME_BLOCKED_COOLDOWN_ordinal hS) (by decide))
  have k24 := ((f_a_RESUME_NON_IDEMPOTENT_STEP_ordinal hS).ne (f_a_RESUME_ALLOWED_ordinal hS) (by decide))
  have k25 := ((f_a_RESUME_NON_IDEMPOTENT_STEP_ordinal hS).ne (f_a_RESUME_MISSING_RUNTIME_ARTIFACTS_ordinal hS) (by decide))
  have k26 := ((f_a_RESUME_NON_IDEMPOTENT_STEP_ordinal hS).ne (f_a_RESUME_UNKNOWN_INTERRUPTION_CLASS_ordinal hS) (by decide))
  have k27 := ((f_a_RESUME_NON_IDEMPOTENT_STEP_ordinal hS).ne (f_a_RESUME_MISSING_CHECKPOINT_ordinal hS) (by decide))
  have k28 := ((f_a_RESUME_NON_IDEMPOTENT_STEP_ordinal hS).ne (f_a_RESUME_ATTEMPT_LIMIT_REACHED_ordinal hS) (by decide))
  have k29 := ((f_a_RESUME_NON_IDEMPOTENT_STEP_ordinal hS).ne (f_a_RESUME_BLOCKED_COOLDOWN_ordinal hS) (by decide))
  have k30 := ((f_a_RESUME_ATTEMPT_LIMIT_REACHED_ordinal hS).ne (f_a_RESUME_ALLOWED_ordinal hS) (by decide))
  have k31 := ((f_a_RESUME_ATTEMPT_LIMIT_REACHED_ordinal hS).ne (f_a_RESUME_MISSING_RUNTIME_ARTIFACTS_ordinal hS) (by decide))
  have k32 := ((f_a_RESUME_ATTEMPT_LIMIT_REACHED_ordinal hS).ne (f_a_RESUME_UNKNOWN_INTERRUPTION_CLASS_ordinal hS) (by decide))
  have k33 := ((f_a_RESUME_ATTEMPT_LIMIT_REACHED_ordinal hS).ne (f_a_RESUME_MISSING_CHECKPOINT_ordinal hS) (by decide))
  have k34 := ((f_a_RESUME_ATTEMPT_LIMIT_REACHED_ordinal hS).ne (f_a_RESUME_NON_IDEMPOTENT_STEP_ordinal hS) (by decide))
  have k35 := ((f_a_RESUME_ATTEMPT_LIMIT_REACHED_ordinal hS).ne (f_a_RESUME_BLOCKED_COOLDOWN_ordinal hS) (by decide))
  have k36 := ((f_a_RESUME_BLOCKED_COOLDOWN_ordinal hS).ne (f_a_RESUME_ALLOWED_ordinal hS) (by decide))
  have k37 := ((f_a_RESUME_BLOCKED_COOLDOWN_ordinal hS).ne (f_a_RESUME_MISSING_RUNTIME_ARTIFACTS_ordinal hS) (by decide))
  have k38 := ((f_a_RESUME_BLOCKED_COOLDOWN_ordinal hS).ne (f_a_RESUME_UNKNOWN_INTERRUPTION_CLASS_ordinal hS) (by decide))
  have k39 := ((f_a_RESUME_BLOCKED_COOLDOWN_ordinal hS).ne (f_a_RESUME_MISSING_CHECKPOINT_ordinal hS) (by decide))
  have k40 := ((f_a_RESUME_BLOCKED_COOLDOWN_ordinal hS).ne (f_a_RESUME_NON_IDEMPOTENT_STEP_ordinal hS) (by decide))
  have k41 := ((f_a_RESUME_BLOCKED_COOLDOWN_ordinal hS).ne (f_a_RESUME_ATTEMPT_LIMIT_REACHED_ordinal hS) (by decide))
  rcases ri with rfl | rfl | rfl | rfl | rfl | rfl | rfl <;> simp_all [fn1, fn5]
theorem ab125 {Z : State} (hS : St Z) (p3 : Int32) (p4 : Int32) (p5 : Int32) (i : Int32) (c0 : Int32) (c1 : Int32) (ri : i = (0 : Int32) ∨ i = (1 : Int32) ∨ i = (2 : Int32) ∨ i = (3 : Int32) ∨ i = (4 : Int32) ∨ i = (5 : Int32) ∨ i = (6 : Int32)) (hc56 : ¬ ((p3 &&& (1 : Int32)) = (0 : Int32))) (hc93 : ¬ ((p3 &&& (2 : Int32)) = (0 : Int32))) (ec0 : c0 = (p4 &&& (255 : Int32))) (ec1 : c1 = (p5 &&& (255 : Int32))) (hc117 : ¬ (i = (0 : Int32))) (hc124 : ¬ ((fn5 Z b113 (fn1 Z i)) = (0 : Int32))) : False := by
  have k0 := ((f_a_RESUME_ALLOWED_ordinal hS).ne (f_a_RESUME_MISSING_RUNTIME_ARTIFACTS_ordinal hS) (by decide))
  have k1 := ((f_a_RESUME_ALLOWED_ordinal hS).ne (f_a_RESUME_UNKNOWN_INTERRUPTION_CLASS_ordinal hS) (by decide))
  have k2 := ((f_a_RESUME_ALLOWED_ordinal hS).ne (f_a_RESUME_MISSING_CHECKPOINT_ordinal hS) (by decide))
  have k3 := ((f_a_RESUME_ALLOWED_ordinal hS).ne (f_a_RESUME_NON_IDEMPOTENT_STEP_ordinal hS) (by decide))
  have k4 := ((f_a_RESUME_ALLOWED_ordinal hS).ne (f_a_RESUME_ATTEMPT_LIMIT_REACHED_ordinal hS) (by decide))
  have k5 := ((f_a_RESUME_ALLOWED_ordinal hS).ne (f_a_RESUME_BLOCKED_COOLDOWN_ordinal hS) (by decide))
  have k6 := ((f_a_RESUME_MISSING_RUNTIME_ARTIFACTS_ordinal hS).ne (f_a_RESUME_ALLOWED_ordinal hS) (by decide))
  have k7 := ((f_a_RESUME_MISSING_RUNTIME_ARTIFACTS_ordinal hS).ne (f_a_RESUME_UNKNOWN_INTERRUPTION_CLASS_ordinal hS) (by decide))
  have k8 := ((f_a_RESUME_MISSING_RUNTIME_ARTIFACTS_ordinal hS).ne (f_a_RESUME_MISSING_CHECKPOINT_ordinal hS) (by decide))
  have k9 := ((f_a_RESUME_MISSING_RUNTIME_ARTIFACTS_ordinal hS).ne (f_a_RESUME_NON_IDEMPOTENT_STEP_ordinal hS) (by decide))
  have k10 := ((f_a_RESUME_MISSING_RUNTIME_ARTIFACTS_ordinal hS).ne (f_a_RESUME_ATTEMPT_LIMIT_REACHED_ordinal hS) (by decide))
  have k11 := ((f_a_RESUME_MISSING_RUNTIME_ARTIFACTS_ordinal hS).ne (f_a_RESUME_BLOCKED_COOLDOWN_ordinal hS) (by decide))
  have k12 := ((f_a_RESUME_UNKNOWN_INTERRUPTION_CLASS_ordinal hS).ne (f_a_RESUME_ALLOWED_ordinal hS) (by decide))
  have k13 := ((f_a_RESUME_UNKNOWN_INTERRUPTION_CLASS_ordinal hS).ne (f_a_RESUME_MISSING_RUNTIME_ARTIFACTS_ordinal hS) (by decide))
  have k14 := ((f_a_RESUME_UNKNOWN_INTERRUPTION_CLASS_ordinal hS).ne (f_a_RESUME_MISSING_CHECKPOINT_ordinal hS) (by decide))
  have k15 := ((f_a_RESUME_UNKNOWN_INTERRUPTION_CLASS_ordinal hS).ne (f_a_RESUME_NON_IDEMPOTENT_STEP_ordinal hS) (by decide))
  have k16 := ((f_a_RESUME_UNKNOWN_INTERRUPTION_CLASS_ordinal hS).ne (f_a_RESUME_ATTEMPT_LIMIT_REACHED_ordinal hS) (by decide))
  have k17 := ((f_a_RESUME_UNKNOWN_INTERRUPTION_CLASS_ordinal hS).ne (f_a_RESUME_BLOCKED_COOLDOWN_ordinal hS) (by decide))
  have k18 := ((f_a_RESUME_MISSING_CHECKPOINT_ordinal hS).ne (f_a_RESUME_ALLOWED_ordinal hS) (by decide))
  have k19 := ((f_a_RESUME_MISSING_CHECKPOINT_ordinal hS).ne (f_a_RESUME_MISSING_RUNTIME_ARTIFACTS_ordinal hS) (by decide))
  have k20 := ((f_a_RESUME_MISSING_CHECKPOINT_ordinal hS).ne (f_a_RESUME_UNKNOWN_INTERRUPTION_CLASS_ordinal hS) (by decide))
  have k21 := ((f_a_RESUME_MISSING_CHECKPOINT_ordinal hS).ne (f_a_RESUME_NON_IDEMPOTENT_STEP_ordinal hS) (by decide))
  have k22 := ((f_a_RESUME_MISSING_CHECKPOINT_ordinal hS).ne (f_a_RESUME_ATTEMPT_LIMIT_REACHED_ordinal hS) (by decide))
  have k23 := ((f_a_RESUME_MISSING_CHECKPOINT_ordinal hS).ne (f_a_RESUME_BLOCKED_COOLDOWN_ordinal hS) (by decide))
  have k24 := ((f_a_RESUME_NON_IDEMPOTENT_STEP_ordinal hS).ne (f_a_RESUME_ALLOWED_ordinal hS) (by decide))
  have k25 := ((f_a_RESUME_NON_IDEMPOTENT_STEP_ordinal hS).ne (f_a_RESUME_MISSING_RUNTIME_ARTIFACTS_ordinal hS) (by decide))
  have k26 := ((f_a_RESUME_NON_IDEMPOTENT_STEP_ordinal hS).ne (f_a_RESUME_UNKNOWN_INTERRUPTION_CLASS_ordinal hS) (by decide))
  have k27 := ((f_a_RESUME_NON_IDEMPOTENT_STEP_ordinal hS).ne (f_a_RESUME_MISSING_CHECKPOINT_ordinal hS) (by decide))
  have k28 := ((f_a_RESUME_NON_IDEMPOTENT_STEP_ordinal hS).ne (f_a_RESUME_ATTEMPT_LIMIT_REACHED_ordinal hS) (by decide))
  have k29 := ((f_a_RESUME_NON_IDEMPOTENT_STEP_ordinal hS).ne (f_a_RESUME_BLOCKED_COOLDOWN_ordinal hS) (by decide))
  have k30 := ((f_a_RESUME_ATTEMPT_LIMIT_REACHED_ordinal hS).ne (f_a_RESUME_ALLOWED_ordinal hS) (by decide))
  have k31 := ((f_a_RESUME_ATTEMPT_LIMIT_REACHED_ordinal hS).ne (f_a_RESUME_MISSING_RUNTIME_ARTIFACTS_ordinal hS) (by decide))
  have k32 := ((f_a_RESUME_ATTEMPT_LIMIT_REACHED_ordinal hS).ne (f_a_RESUME_UNKNOWN_INTERRUPTION_CLASS_ordinal hS) (by decide))
  have k33 := ((f_a_RESUME_ATTEMPT_LIMIT_REACHED_ordinal hS).ne (f_a_RESUME_MISSING_CHECKPOINT_ordinal hS) (by decide))
  have k34 := ((f_a_RESUME_ATTEMPT_LIMIT_REACHED_ordinal hS).ne (f_a_RESUME_NON_IDEMPOTENT_STEP_ordinal hS) (by decide))
  have k35 := ((f_a_RESUME_ATTEMPT_LIMIT_REACHED_ordinal hS).ne (f_a_RESUME_BLOCKED_COOLDOWN_ordinal hS) (by decide))
  have k36 := ((f_a_RESUME_BLOCKED_COOLDOWN_ordinal hS).ne (f_a_RESUME_ALLOWED_ordinal hS) (by decide))
  have k37 := ((f_a_RESUME_BLOCKED_COOLDOWN_ordinal hS).ne (f_a_RESUME_MISSING_RUNTIME_ARTIFACTS_ordinal hS) (by decide))
  have k38 := ((f_a_RESUME_BLOCKED_COOLDOWN_ordinal hS).ne (f_a_RESUME_UNKNOWN_INTERRUPTION_CLASS_ordinal hS) (by decide))
  have k39 := ((f_a_RESUME_BLOCKED_COOLDOWN_ordinal hS).ne (f_a_RESUME_MISSING_CHECKPOINT_ordinal hS) (by decide))
  have k40 := ((f_a_RESUME_BLOCKED_COOLDOWN_ordinal hS).ne (f_a_RESUME_NON_IDEMPOTENT_STEP_ordinal hS) (by decide))
  have k41 := ((f_a_RESUME_BLOCKED_COOLDOWN_ordinal hS).ne (f_a_RESUME_ATTEMPT_LIMIT_REACHED_ordinal hS) (by decide))
  rcases ri with rfl | rfl | rfl | rfl | rfl | rfl | rfl <;> simp_all [fn1, fn5]
theorem ef_0 (m : MethodId) (x0 : Int32) (x1 : Int32) (x2 : Int32) (x3 : Int32) (x4 : Int32) (x5 : Int32) : entryFrame m #[(.int x0), (.int x1), (.int x2), (.int x3), (.int x4), (.int x5)] maxLocals = mkF m 0 #[.val (.int x0), .val (.int x1), .val (.int x2), .val (.int x3), .val (.int x4), .val (.int x5), .unset, .unset, .unset, .unset, .unset, .unset] [] := by first | (simp [entryFrame, mkF, argsToLocals, Value.category, maxLocals]; done) | rfl
set_option maxRecDepth 65536 in
set_option maxHeartbeats 40000000 in
theorem rm0 (l : Launch) (Z : State) (a0 : Array Value) (hw : ∀ d ∈ tables_1, d.before a0 Z = true) (hS : St Z) (ws : List Jvm.Cond) (p0 : Int32) (p1 : Int32) (p2 : Int32) (p3 : Int32) (p4 : Int32) (p5 : Int32) (h0 : Heap) (n0 : Nat) (O0 : Old Z n0 h0) :
    MetFree l x (head1 (Jvm.Cond.code x code maxLocals ret :: ws) room_1) (fun a U => a = #[(.int p0), (.int p1), (.int p2), (.int p3), (.int p4), (.int p5)] ∧ Z.Warmed39 U.vm ∧ U.heap = h0) (fun _ _ _ _ _ => True) (fun _ U o U' => ∃ v L, o = .returned v ∧ own_Q (fun v hE L => v = some (.int (1 : Int32)) ∧ Fr n0 L ∧ Keep h0 hE []) v U'.heap L ∧ FrameEnd U o U' L room_1.cells room_1.slots) := by
  refine MetFree.of_bodySF (plainFor_of_name pn_0) hisR ?_
  intro p e s m args below meth c s₁ Bd hml0 hP hK
  obtain ⟨rfl, hZ, hh⟩ := hP
  have hx := Bd.exec
  have hby := Bd.bytes
  have hml : c.maxLocals = 12 := hml0
  have hown : s.vm.findClass "com/example/resumatic/resumatic/core/ResumeDecisionIsEligiblePinLaw" = some m.cls := findClass_of_methodNamed Bd.named
  have hnm := (name_of_methodNamed Bd.named Bd.method).1
  have X0 : Stand p l e room_1 s m #[(.int p0), (.int p1), (.int p2), (.int p3), (.int p4), (.int p5)] below meth c s₁ [] 0 0 := Stand.of_body Bd
  have e0 : s₁.heap = h0 := by rw [← hh, Bd.state]; rfl
  have N0 := Fr.nil n0
  have pre0 : ∀ t, Steps p.tables e below (s₁.setTop (mkF m 0 #[oI p0, oI p1, oI p2, oI p3, oI p4, oI p5, oU, oU, oU, oU, oU, oU] [])) t → Steps p.tables e below (s₁.setTop (entryFrame m #[(.int p0), (.int p1), (.int p2), (.int p3), (.int p4), (.int p5)] maxLocals)) t := fun t k => castTop (ef_0 m p0 p1 p2 p3 p4 p5) k
  obtain ⟨i, hi⟩ : ∃ z, z = ((p0 &&& (2147483647 : Int32)) - ((p0 &&& (2147483647 : Int32)) / (7 : Int32)) * (7 : Int32)) := ⟨_, rfl⟩
  have ri : i = (0 : Int32) ∨ i = (1 : Int32) ∨ i = (2 : Int32) ∨ i = (3 : Int32) ∨ i = (4 : Int32) ∨ i = (5 : Int32) ∨ i = (6 : Int32) := by rw [hi]; exact rng_rem7 p0
  obtain ⟨_, _, ⟨T54, L54, k54, n54⟩, -, X54, ⟨Lc54, hQ54, l54, y54, z54⟩, st54⟩ := Jvm.LawKit.callS X0 hx (y := (⟨"com/example/resumatic/resumatic/core/ResumeDecisionIsEligiblePinLaw", "pick", "(I)Lcom/example/resumatic/resumatic/core/ReasonCode;"⟩ : MethodName)) hown (mvT hZ (hw _ (List.mem_of_getElem? (i := 1) rfl))) (mvT hZ (hw _ (List.mem_of_getElem? (i := 2) rfl))) (mvT hZ (hw _ (List.mem_of_getElem? (i := 3) rfl))) (mvT hZ (hw _ (List.mem_of_getElem? (i := 4) rfl))) (by decide) (backOf (W := 0) (rm1 l Z a0 hw hS [] i h0 n0 O0) hZ (hw _ (List.mem_of_getElem? (i := 4) rfl)) (hw _ (List.mem_of_getElem? (i := 3) rfl)) (by decide) (by decide)) (g := (mkF m 11 #[oI p0, oI p1, oI p2, oI p3, oI p4, oI p5, oI i, oU, oU, oU, oU, oU] [(.int i)])) rfl (by rw [hml]; rfl) (argsL := [(.int i)]) (rest := []) (lenOf pd_2 rfl) rfl (by show 2 * 0 + _ ≤ _; exact Nat.le_of_eq rfl) (hb hby at_11) (fun _ _ => ⟨rfl, e0, (by decide : 0 + 0 ≤ _), (by decide : 0 + 0 ≤ _)⟩)
  dsimp only [Pt.U, Pt.locs, Pt.cells, Pt.slots] at X54 l54 y54 z54 st54 hQ54
  subst l54 y54 z54
  obtain ⟨v54, N54q, h54q⟩ := hQ54
  subst v54
  have N54 := Fr.app N0 N54q
  have pre55 : ∀ t, oP p e below T54 (mkF m 22 #[oI p0, oI p1, oI p2, oI p3, oI p4, oI p5, oI i, oR (fn1 Z i), oN, oU, oU, oU] [(.int (p3 &&& (1 : Int32)))]) t → oP p e below s₁ (entryFrame m #[(.int p0), (.int p1), (.int p2), (.int p3), (.int p4), (.int p5)] maxLocals) t := fun t k => pre0 t (by
    show oP p e below s₁ (mkF m 0 #[oI p0, oI p1, oI p2, oI p3, oI p4, oI p5, oU, oU, oU, oU, oU, oU] []) _
    refine XS.iloadN X0.here hx rfl (hb hby at_0) rfl ?_
    show oP p e below s₁ (mkF m 1 #[oI p0, oI p1, oI p2, oI p3, oI p4, oI p5, oU, oU, oU, oU, oU, oU] [(.int p0)]) _
    refine X0.ldcInt hx hown (mvT hZ (hw _ (List.mem_of_getElem? (i := 0) rfl))) (g := (mkF m 1 #[oI p0, oI p1, oI p2, oI p3, oI p4, oI p5, oU, oU, oU, oU, oU, oU] [(.int p0)])) rfl (hb hby at_1) _ ?_
    show oP p e below s₁ (mkF m 3 #[oI p0, oI p1, oI p2, oI p3, oI p4, oI p5, oU, oU, oU, oU, oU, oU] [(.int (2147483647 : Int32)), (.int p0)]) _
    refine XS.iand X0.here hx rfl (hb hby at_3) rfl ?_
    show oP p e below s₁ (mkF m 4 #[oI p0, oI p1, oI p2, oI p3, oI p4, oI p5, oU, oU, oU, oU, oU, oU] [(.int (p0 &&& (2147483647 : Int32)))]) _
    refine XS.bipush X0.here hx rfl (hb hby at_4) ?_
    show oP p e below s₁ (mkF m 6 #[oI p0, oI p1, oI p2, oI p3, oI p4, oI p5, oU, oU, oU, oU, oU, oU] [(.int (7 : Int32)), (.int (p0 &&& (2147483647 : Int32)))]) _
    refine XS.irem X0.here hx rfl (hb hby at_6) rfl (by decide) ?_
    show oP p e below s₁ (mkF m 7 #[oI p0, oI p1, oI p2, oI p3, oI p4, oI p5, oU, oU, oU, oU, oU, oU] [(.int ((p0 &&& (2147483647 : Int32)) - ((p0 &&& (2147483647 : Int32)) / (7 : Int32)) * (7 : Int32)))]) _
    rw [← hi]
    show oP p e below s₁ (mkF m 7 #[oI p0, oI p1, oI p2, oI p3, oI p4, oI p5, oU, oU, oU, oU, oU, oU] [(.int i)]) _
    refine XS.istore X0.here hx rfl (hb hby at_7) rfl (l' := #[oI p0, oI p1, oI p2, oI p3, oI p4, oI p5, oI i, oU, oU, oU, oU, oU]) rfl ?_
    show oP p e below s₁ (mkF m 9 #[oI p0, oI p1, oI p2, oI p3, oI p4, oI p5, oI i, oU, oU, oU, oU, oU] []) _
    refine XS.iload X0.here hx rfl (hb hby at_9) rfl ?_
    show oP p e below s₁ (mkF m 11 #[oI p0, oI p1, oI p2, oI p3, oI p4, oI p5, oI i, oU, oU, oU, oU, oU] [(.int i)]) _
    refine st54 _ ?_
    show oP p e below T54 (mkF m 14 #[oI p0, oI p1, oI p2, oI p3, oI p4, oI p5, oI i, oU, oU, oU, oU, oU] [(.ref (fn1 Z i))]) _
    refine XS.astore X54.here hx rfl (hb hby at_14) rfl rfl (l' := #[oI p0, oI p1, oI p2, oI p3, oI p4, oI p5, oI i, oR (fn1 Z i), oU, oU, oU, oU]) rfl ?_
    show oP p e below T54 (mkF m 16 #[oI p0, oI p1, oI p2, oI p3, oI p4, oI p5, oI i, oR (fn1 Z i), oU, oU, oU, oU] []) _
    refine XS.aconstNull X54.here hx rfl (hb hby at_16) ?_
    show oP p e below T54 (mkF m 17 #[oI p0, oI p1, oI p2, oI p3, oI p4, oI p5, oI i, oR (fn1 Z i), oU, oU, oU, oU] [.null]) _
    refine XS.astore X54.here hx rfl (hb hby at_17) rfl rfl (l' := #[oI p0, oI p1, oI p2, oI p3, oI p4, oI p5, oI i, oR (fn1 Z i), oN, oU, oU, oU]) rfl ?_
    show oP p e below T54 (mkF m 19 #[oI p0, oI p1, oI p2, oI p3, oI p4, oI p5, oI i, oR (fn1 Z i), oN, oU, oU, oU] []) _
    refine XS.iloadN X54.here hx rfl (hb hby at_19) rfl ?_
    show oP p e below T54 (mkF m 20 #[oI p0, oI p1, oI p2, oI p3, oI p4, oI p5, oI i, oR (fn1 Z i), oN, oU, oU, oU] [(.int p3)]) _
    refine XS.iconst X54.here hx rfl (hb hby at_20) ?_
    show oP p e below T54 (mkF m 21 #[oI p0, oI p1, oI p2, oI p3, oI p4, oI p5, oI i, oR (fn1 Z i), oN, oU, oU, oU] [(.int (1 : Int32)), (.int p3)]) _
    refine XS.iand X54.here hx rfl (hb hby at_21) rfl ?_
    exact k)
  by_cases hc56 : (p3 &&& (1 : Int32)) = (0 : Int32)
  · have pre57 : ∀ t, oP p e below T54 (mkF m 37 #[oI p0, oI p1, oI p2, oI p3, oI p4, oI p5, oI i, oR (fn1 Z i), oN, oN, oU, oU] [(.int (p3 &&& (2 : Int32)))]) t → oP p e below s₁ (entryFrame m #[(.int p0), (.int p1), (.int p2), (.int p3), (.int p4), (.int p5)] maxLocals) t := fun t k => pre55 t (by
      show oP p e below T54 (mkF m 22 #[oI p0, oI p1, oI p2, oI p3, oI p4, oI p5, oI i, oR (fn1 Z i), oN, oU, oU, oU] [(.int (p3 &&& (1 : Int32)))]) _
      refine XS.ifYes X54.here hx rfl (pc0 := 22) (pc' := 31) rfl (hb hby at_22) rfl ((if0 _ _).trans (teq hc56).1) (by decide) (by decide) ?_
      show oP p e below T54 (mkF m 31 #[oI p0, oI p1, oI p2, oI p3, oI p4, oI p5, oI i, oR (fn1 Z i), oN, oU, oU, oU] []) _
      refine XS.aconstNull X54.here hx rfl (hb hby at_31) ?_
      show oP p e below T54 (mkF m 32 #[oI p0, oI p1, oI p2, oI p3, oI p4, oI p5, oI i, oR (fn1 Z i), oN, oU, oU, oU] [.null]) _
      refine XS.astore X54.here hx rfl (hb hby at_32) rfl rfl (l' := #[oI p0, oI p1, oI p2, oI p3, oI p4, oI p5, oI i, oR (fn1 Z i), oN, oN, oU, oU]) rfl ?_
      show oP p e below T54 (mkF m 34 #[oI p0, oI p1, oI p2, oI p3, oI p4, oI p5, oI i, oR (fn1 Z i), oN, oN, oU, oU] []) _
      refine XS.iloadN X54.here hx rfl (hb hby at_34) rfl ?_
      show oP p e below T54 (mkF m 35 #[oI p0, oI p1, oI p2, oI p3, oI p4, oI p5, oI i, oR (fn1 Z i), oN, oN, oU, oU] [(.int p3)]) _
      refine XS.iconst X54.here hx rfl (hb hby at_35) ?_
      show oP p e below T54 (mkF m 36 #[oI p0, oI p1, oI p2, oI p3, oI p4, oI p5, oI i, oR (fn1 Z i), oN, oN, oU, oU] [(.int (2 : Int32)), (.int p3)]) _
      refine XS.iand X54.here hx rfl (hb hby at_36) rfl ?_
      exact k)
    by_cases hc58 : (p3 &&& (2 : Int32)) = (0 : Int32)
    · obtain ⟨T59, h59, X59, e59, E59, A59, D59, -, st59⟩ := newO X54 hx hZ hown (hw _ (List.mem_of_getElem? (i := 15) rfl)) (hw _ (List.mem_of_getElem? (i := 16) rfl)) (hw _ (List.mem_of_getElem? (i := 17) rfl)) h54q (g := (mkF m 78 #[oI p0, oI p1, oI p2, oI p3, oI p4, oI p5, oI i, oR (fn1 Z i), oN, oN, oU, oU] [])) rfl (hb hby at_78) (by decide) (by decide)
      obtain ⟨b59, g59⟩ : ∃ z, z = h0.size := ⟨_, rfl⟩
      have g_b59 : n0 ≤ b59 := Nat.le_trans (own_old_le O0) (Nat.le_of_eq g59.symm)
      have sz_b59 : h0.size ≤ b59 := Nat.le_trans (Keep.refl h0 []).1 (Nat.le_of_eq g59.symm)
      rw [← g59] at A59 D59 st59
      have O59 := O0.ext E59
      have Kc59 := (Keep.refl h0 []).ext E59
      have F_reasonCode_b59 : Fld Z h59 b59 "com/example/resumatic/resumatic/core/ResumeDecision" "reasonCode" "Lcom/example/resumatic/resumatic/core/ReasonCode;" .null := D59 (Or.inr (hw _ (List.mem_of_getElem? (i := 25) rfl))) (ty := (.object "com/example/resumatic/resumatic/core/ReasonCode")) (by decide)
      have F_attempt_b59 : Fld Z h59 b59 "com/example/resumatic/resumatic/core/ResumeDecision" "attempt" "I" (.int (0 : Int32)) := D59 (Or.inr (hw _ (List.mem_of_getElem? (i := 27) rfl))) (ty := .int) (by decide)
      have F_cooldownSeconds_b59 : Fld Z h59 b59 "com/example/resumatic/resumatic/core/ResumeDecision" "cooldownSeconds" "Ljava/lang/Integer;" .null := D59 (Or.inr (hw _ (List.mem_of_getElem? (i := 29) rfl))) (ty := (.object "java/lang/Integer")) (by decide)
      have F_rule_b59 : Fld Z h59 b59 "com/example/resumatic/resumatic/core/ResumeDecision" "rule" "Ljava/lang/String;" .null := D59 (Or.inr (hw _ (List.mem_of_getElem? (i := 31) rfl))) (ty := (.object "java/lang/String")) (by decide)
      obtain ⟨_, _, ⟨T60, L60, k60, n60⟩, -, X60, ⟨Lc60, hQ60, l60, y60, z60⟩, st60⟩ := X59.specialBack hx (y := (⟨"com/example/resumatic/resumatic/core/ResumeDecision", "<init>", "(Lcom/example/resumatic/resumatic/core/ReasonCode;ILjava/lang/Integer;Ljava/lang/String;)V"⟩ : MethodName)) rfl hown (mvT hZ (hw _ (List.mem_of_getElem? (i := 18) rfl))) (mvT hZ (hw _ (List.mem_of_getElem? (i := 19) rfl))) (mvT hZ (hw _ (List.mem_of_getElem? (i := 20) rfl))) (by decide) (backOf (W := 1) (rm3 l Z a0 hw hS [] b59 (fn1 Z i) p1 .null .null h59 n0 O59 rfl rfl A59 g_b59 F_reasonCode_b59 F_attempt_b59 F_cooldownSeconds_b59 F_rule_b59) hZ (hw _ (List.mem_of_getElem? (i := 20) rfl)) (hw _ (List.mem_of_getElem? (i := 17) rfl)) (by decide) (by decide)) (g := (mkF m 89 #[oI p0, oI p1, oI p2, oI p3, oI p4, oI p5, oI i, oR (fn1 Z i), oN, oN, oU, oU] [.null, .null, (.int p1), (.ref (fn1 Z i)), (.ref b59), (.ref b59)])) rfl (by rw [hml]; rfl) (Steps.refl _) (a := b59) (argsL := [(.ref (fn1 Z i)), (.int p1), .null, .null]) (rest := [(.ref b59)]) (lenOf pd_3 rfl) rfl (by show 2 * 0 + _ ≤ _; exact Nat.le_of_eq rfl) (hb hby at_89) (fun _ _ => ⟨rfl, e59, (by decide : 1 + 0 ≤ _), (by decide : 4 + 0 ≤ _)⟩)
      dsimp only [Pt.U, Pt.locs, Pt.cells, Pt.slots] at X60 l60 y60 z60 st60 hQ60
      subst l60 y60 z60
      obtain ⟨v60, N60q, K60q, po60_0, po60_1⟩ := hQ60
      subst v60
      have N60 := Fr.app N54 N60q
      have O60 := O59.keep K60q (allS g_b59 all0)
      have Kc60 := Kc59.trans K60q (allS (Or.inr sz_b59) all0)
      have pre61 : ∀ t, oP p e below T60 (mkF m 96 #[oI p0, oI p1, oI p2, oI p3, oI p4, oI p5, oI i, oR (fn1 Z i), oN, oN, oR b59, oU] [(.int i)]) t → oP p e below s₁ (entryFrame m #[(.int p0), (.int p1), (.int p2), (.int p3), (.int p4), (.int p5)] maxLocals) t := fun t k => pre57 t (by
        show oP p e below T54 (mkF m 37 #[oI p0, oI p1, oI p2, oI p3, oI p4, oI p5, oI i, oR (fn1 Z i), oN, oN, oU, oU] [(.int (p3 &&& (2 : Int32)))]) _
        refine XS.ifYes X54.here hx rfl (pc0 := 37) (pc' := 78) rfl (hb hby at_37) rfl ((if0 _ _).trans (teq hc58).1) (by decide) (by decide) ?_
        show oP p e below T54 (mkF m 78 #[oI p0, oI p1, oI p2, oI p3, oI p4, oI p5, oI i, oR (fn1 Z i), oN, oN, oU, oU] []) _
        refine st59 _ ?_
        show oP p e below T59 (mkF m 81 #[oI p0, oI p1, oI p2, oI p3, oI p4, oI p5, oI i, oR (fn1 Z i), oN, oN, oU, oU] [(.ref b59)]) _
        refine XS.dup X59.here hx rfl (hb hby at_81) rfl rfl ?_
        show oP p e below T59 (mkF m 82 #[oI p0, oI p1, oI p2, oI p3, oI p4, oI p5, oI i, oR (fn1 Z i), oN, oN, oU, oU] [(.ref b59), (.ref b59)]) _
        refine XS.aload X59.here hx rfl (hb hby at_82) rfl rfl ?_
        show oP p e below T59 (mkF m 84 #[oI p0, oI p1, oI p2, oI p3, oI p4, oI p5, oI i, oR (fn1 Z i), oN, oN, oU, oU] [(.ref (fn1 Z i)), (.ref b59), (.ref b59)]) _
        refine XS.iloadN X59.here hx rfl (hb hby at_84) rfl ?_
        show oP p e below T59 (mkF m 85 #[oI p0, oI p1, oI p2, oI p3, oI p4, oI p5, oI i, oR (fn1 Z i), oN, oN, oU, oU] [(.int p1), (.ref (fn1 Z i)), (.ref b59), (.ref b59)]) _
        refine XS.aload X59.here hx rfl (hb hby at_85) rfl rfl ?_
        show oP p e below T59 (mkF m 87 #[oI p0, oI p1, oI p2, oI p3, oI p4, oI p5, oI i, oR (fn1 Z i), oN, oN, oU, oU] [.null, (.int p1), (.ref (fn1 Z i)), (.ref b59), (.ref b59)]) _
        refine XS.aload X59.here hx rfl (hb hby at_87) rfl rfl ?_
        show oP p e below T59 (mkF m 89 #[oI p0, oI p1, oI p2, oI p3, oI p4, oI p5, oI i, oR (fn1 Z i), oN, oN, oU, oU] [.null, .null, (.int p1), (.ref (fn1 Z i)), (.ref b59), (.ref b59)]) _
        refine st60.trans ?_
        show oP p e below T60 (mkF m 92 #[oI p0, oI p1, oI p2, oI p3, oI p4, oI p5, oI i, oR (fn1 Z i), oN, oN, oU, oU] [(.ref b59)]) _
        refine XS.astore X60.here hx rfl (hb hby at_92) rfl rfl (l' := #[oI p0, oI p1, oI p2, oI p3, oI p4, oI p5, oI i, oR (fn1 Z i), oN, oN, oR b59, oU]) rfl ?_
        show oP p e below T60 (mkF m 94 #[oI p0, oI p1, oI p2, oI p3, oI p4, oI p5, oI i, oR (fn1 Z i), oN, oN, oR b59, oU] []) _
        refine XS.iload X60.here hx rfl (hb hby at_94) rfl ?_
        exact k)
      by_cases hc62 : i = (0 : Int32)
      · obtain ⟨cq63, kq63, q63a, q63b, q63c⟩ := isOf hZ rfl po60_0
        obtain ⟨_, _, ⟨T63, L63, k63, n63⟩, -, X63, ⟨Lc63, hQ63, l63, y63, z63⟩, st63⟩ := X60.virtualBack hx (y := (⟨"com/example/resumatic/resumatic/core/ResumeDecision", "isEligible", "()Z"⟩ : MethodName)) (z := (⟨"com/example/resumatic/resumatic/core/ResumeDecision", "isEligible", "()Z"⟩ : MethodName)) hown (mvT hZ (hw _ (List.mem_of_getElem? (i := 32) rfl))) (mvT hZ (hw _ (List.mem_of_getElem? (i := 33) rfl))) (notFace_of_selects (args := #[]) (mvT hZ (hw _ (List.mem_of_getElem? (i := 35) rfl)))) (mvT hZ (hw _ (List.mem_of_getElem? (i := 35) rfl))) (mvT hZ (hw _ (List.mem_of_getElem? (i := 34) rfl))) (by decide) (backOf (W := 0) (rm5 l Z a0 hw hS [] b59 (fn1 Z i) T60.heap n0 O60 po60_1) hZ (hw _ (List.mem_of_getElem? (i := 36) rfl)) (hw _ (List.mem_of_getElem? (i := 17) rfl)) (by decide) (by decide)) q63a q63c (g := (mkF m 108 #[oI p0, oI p1, oI p2, oI p3, oI p4, oI p5, oI i, oR (fn1 Z i), oN, oN, oR b59, oI (1 : Int32)] [(.ref b59)])) rfl (by rw [hml]; rfl) (Steps.refl _) (argsL := []) (rest := []) (lenOf pd_4 rfl) rfl (by show 2 * 0 + _ ≤ _; exact Nat.le_of_eq rfl) (hb hby at_108) (fun _ _ => ⟨rfl, rfl, (by decide : 1 + 0 ≤ _), (by decide : 4 + 0 ≤ _)⟩)
        dsimp only [Pt.U, Pt.locs, Pt.cells, Pt.slots] at X63 l63 y63 z63 st63 hQ63
        subst l63 y63 z63
        obtain ⟨v63, N63q, K63q⟩ := hQ63
        subst v63
        have N63 := Fr.app N60 N63q
        have O63 := O60.keep K63q all0
        have Kc63 := Kc60.trans K63q all0
        have pre64 : ∀ t, oP p e below T63 (mkF m 113 #[oI p0, oI p1, oI p2, oI p3, oI p4, oI p5, oI i, oR (fn1 Z i), oN, oN, oR b59, oI (1 : Int32)] [(.int (1 : Int32)), (.int (fn5 Z b59 (fn1 Z i)))]) t → oP p e below s₁ (entryFrame m #[(.int p0), (.int p1), (.int p2), (.int p3), (.int p4), (.int p5)] maxLocals) t := fun t k => pre61 t (by
          show oP p e below T60 (mkF m 96 #[oI p0, oI p1, oI p2, oI p3, oI p4, oI p5, oI i, oR (fn1 Z i), oN, oN, oR b59, oU] [(.int i)]) _
          refine XS.ifNo X60.here hx rfl (hb hby at_96) rfl ((if0 _ _).trans (teq hc62).2) ?_
          show oP p e below T60 (mkF m 99 #[oI p0, oI p1, oI p2, oI p3, oI p4, oI p5, oI i, oR (fn1 Z i), oN, oN, oR b59, oU] []) _
          refine XS.iconst X60.here hx rfl (hb hby at_99) ?_
          show oP p e below T60 (mkF m 100 #[oI p0, oI p1, oI p2, oI p3, oI p4, oI p5, oI i, oR (fn1 Z i), oN, oN, oR b59, oU] [(.int (1 : Int32))]) _
          refine XS.goto X60.here hx rfl (pc0 := 100) (pc' := 104) rfl (hb hby at_100) (by decide) (by decide) ?_
          show oP p e below T60 (mkF m 104 #[oI p0, oI p1, oI p2, oI p3, oI p4, oI p5, oI i, oR (fn1 Z i), oN, oN, oR b59, oU] [(.int (1 : Int32))]) _
          refine XS.istore X60.here hx rfl (hb hby at_104) rfl (l' := #[oI p0, oI p1, oI p2, oI p3, oI p4, oI p5, oI i, oR (fn1 Z i), oN, oN, oR b59, oI (1 : Int32)]) rfl ?_
          show oP p e below T60 (mkF m 106 #[oI p0, oI p1, oI p2, oI p3, oI p4, oI p5, oI i, oR (fn1 Z i), oN, oN, oR b59, oI (1 : Int32)] []) _
          refine XS.aload X60.here hx rfl (hb hby at_106) rfl rfl ?_
          show oP p e below T60 (mkF m 108 #[oI p0, oI p1, oI p2, oI p3, oI p4, oI p5, oI i, oR (fn1 Z i), oN, oN, oR b59, oI (1 : Int32)] [(.ref b59)]) _
          refine st63.trans ?_
          show oP p e below T63 (mkF m 111 #[oI p0, oI p1, oI p2, oI p3, oI p4, oI p5, oI i, oR (fn1 Z i), oN, oN, oR b59, oI (1 : Int32)] [(.int (fn5 Z b59 (fn1 Z i)))]) _
          refine XS.iload X63.here hx rfl (hb hby at_111) rfl ?_
          exact k)
        by_cases hc65 : (fn5 Z b59 (fn1 Z i)) = (1 : Int32)
        · obtain ⟨fs, hr, hrun, hended, hW, hsame⟩ := X63.leave (v := some (.int (1 : Int32))) (fun h => by rw [Bd.returns] at h; cases h)
          refine ⟨_, _, pre64 _ ?_, hrun, hended, _, _, rfl, ?_, ⟨_, rfl⟩, hW, hsame.mono (by decide) (by decide)⟩
          · show oP p e below T63 (mkF m 113 #[oI p0, oI p1, oI p2, oI p3, oI p4, oI p5, oI i, oR (fn1 Z i), oN, oN, oR b59, oI (1 : Int32)] [(.int (1 : Int32)), (.int (fn5 Z b59 (fn1 Z i)))]) _
            refine XS.icmpNo X63.here hx rfl (hb hby at_113) rfl (teq hc65).2 ?_
            show oP p e below T63 (mkF m 116 #[oI p0, oI p1, oI p2, oI p3, oI p4, oI p5, oI i, oR (fn1 Z i), oN, oN, oR b59, oI (1 : Int32)] []) _
            refine XS.iconst X63.here hx rfl (hb hby at_116) ?_
            show oP p e below T63 (mkF m 117 #[oI p0, oI p1, oI p2, oI p3, oI p4, oI p5, oI i, oR (fn1 Z i), oN, oN, oR b59, oI (1 : Int32)] [(.int (1 : Int32))]) _
            refine XS.goto X63.here hx rfl (pc0 := 117) (pc' := 121) rfl (hb hby at_117) (by decide) (by decide) ?_
            show oP p e below T63 (mkF m 121 #[oI p0, oI p1, oI p2, oI p3, oI p4, oI p5, oI i, oR (fn1 Z i), oN, oN, oR b59, oI (1 : Int32)] [(.int (1 : Int32))]) _
            exact retN X63 hx (t := .boolean) Bd.returns (by simp) (hb hby at_121) hr
          · show (some (.int (1 : Int32)) : Option Value) = some (.int (1 : Int32)) ∧ Fr n0 _ ∧ Keep h0 T63.heap []
            exact ⟨rfl, N63, Kc63⟩
        · exfalso
          exact ab66 hS p3 i ri hc56 hc58 hc62 hc65
      · obtain ⟨cq67, kq67, q67a, q67b, q67c⟩ := isOf hZ rfl po60_0
        obtain ⟨_, _, ⟨T67, L67, k67, n67⟩, -, X67, ⟨Lc67, hQ67, l67, y67, z67⟩, st67⟩ := X60.virtualBack hx (y := (⟨"com/example/resumatic/resumatic/core/ResumeDecision", "isEligible", "()Z"⟩ : MethodName)) (z := (⟨"com/example/resumatic/resumatic/core/ResumeDecision", "isEligible", "()Z"⟩ : MethodName)) hown (mvT hZ (hw _ (List.mem_of_getElem? (i := 32) rfl))) (mvT hZ (hw _ (List.mem_of_getElem? (i := 33) rfl))) (notFace_of_selects (args := #[]) (mvT hZ (hw _ (List.mem_of_getElem? (i := 35) rfl)))) (mvT hZ (hw _ (List.mem_of_getElem? (i := 35) rfl))) (mvT hZ (hw _ (List.mem_of_getElem? (i := 34) rfl))) (by decide) (backOf (W := 0) (rm5 l Z a0 hw hS [] b59 (fn1 Z i) T60.heap n0 O60 po60_1) hZ (hw _ (List.mem_of_getElem? (i := 36) rfl)) (hw _ (List.mem_of_getElem? (i := 17) rfl)) (by decide) (by decide)) q67a q67c (g := (mkF m 108 #[oI p0, oI p1, oI p2, oI p3, oI p4, oI p5, oI i, oR (fn1 Z i), oN, oN, oR b59, oI (0 : Int32)] [(.ref b59)])) rfl (by rw [hml]; rfl) (Steps.refl _) (argsL := []) (rest := []) (lenOf pd_4 rfl) rfl (by show 2 * 0 + _ ≤ _; exact Nat.le_of_eq rfl) (hb hby at_108) (fun _ _ => ⟨rfl, rfl, (by decide : 1 + 0 ≤ _), (by decide : 4 + 0 ≤ _)⟩)
        dsimp only [Pt.U, Pt.locs, Pt.cells, Pt.slots] at X67 l67 y67 z67 st67 hQ67
        subst l67 y67 z67
        obtain ⟨v67, N67q, K67q⟩ := hQ67
        subst v67
        have N67 := Fr.app N60 N67q
        have O67 := O60.keep K67q all0
        have Kc67 := Kc60.trans K67q all0
        have pre68 : ∀ t, oP p e below T67 (mkF m 113 #[oI p0, oI p1, oI p2, oI p3, oI p4, oI p5, oI i, oR (fn1 Z i), oN, oN, oR b59, oI (0 : Int32)] [(.int (0 : Int32)), (.int (fn5 Z b59 (fn1 Z i)))]) t → oP p e below s₁ (entryFrame m #[(.int p0), (.int p1), (.int p2), (.int p3), (.int p4), (.int p5)] maxLocals) t := fun t k => pre61 t (by
          show oP p e below T60 (mkF m 96 #[oI p0, oI p1, oI p2, oI p3, oI p4, oI p5, oI i, oR (fn1 Z i), oN, oN, oR b59, oU] [(.int i)]) _
          refine XS.ifYes X60.here hx rfl (pc0 := 96) (pc' := 103) rfl (hb hby at_96) rfl ((if0 _ _).trans (feq hc62).2) (by decide) (by decide) ?_
          show oP p e below T60 (mkF m 103 #[oI p0, oI p1, oI p2, oI p3, oI p4, oI p5, oI i, oR (fn1 Z i), oN, oN, oR b59, oU] []) _
          refine XS.iconst X60.here hx rfl (hb hby at_103) ?_
          show oP p e below T60 (mkF m 104 #[oI p0, oI p1, oI p2, oI p3, oI p4, oI p5, oI i, oR (fn1 Z i), oN, oN, oR b59, oU] [(.int (0 : Int32))]) _
          refine XS.istore X60.here hx rfl (hb hby at_104) rfl (l' := #[oI p0, oI p1, oI p2, oI p3, oI p4, oI p5, oI i, oR (fn1 Z i), oN, oN, oR b59, oI (0 : Int32)]) rfl ?_
          show oP p e below T60 (mkF m 106 #[oI p0, oI p1, oI p2, oI p3, oI p4, oI p5, oI i, oR (fn1 Z i), oN, oN, oR b59, oI (0 : Int32)] []) _
          refine XS.aload X60.here hx rfl (hb hby at_106) rfl rfl ?_
          show oP p e below T60 (mkF m 108 #[oI p0, oI p1, oI p2, oI p3, oI p4, oI p5, oI i, oR (fn1 Z i), oN, oN, oR b59, oI (0 : Int32)] [(.ref b59)]) _
          refine st67.trans ?_
          show oP p e below T67 (mkF m 111 #[oI p0, oI p1, oI p2, oI p3, oI p4, oI p5, oI i, oR (fn1 Z i), oN, oN, oR b59, oI (0 : Int32)] [(.int (fn5 Z b59 (fn1 Z i)))]) _
          refine XS.iload X67.here hx rfl (hb hby at_111) rfl ?_
          exact k)
        by_cases hc69 : (fn5 Z b59 (fn1 Z i)) = (0 : Int32)
        · obtain ⟨fs, hr, hrun, hended, hW, hsame⟩ := X67.leave (v := some (.int (1 : Int32))) (fun h => by rw [Bd.returns] at h; cases h)
          refine ⟨_, _, pre68 _ ?_, hrun, hended, _, _, rfl, ?_, ⟨_, rfl⟩, hW, hsame.mono (by decide) (by decide)⟩
          · show oP p e below T67 (mkF m 113 #[oI p0, oI p1, oI p2, oI p3, oI p4, oI p5, oI i, oR (fn1 Z i), oN, oN, oR b59, oI (0 : Int32)] [(.int (0 : Int32)), (.int (fn5 Z b59 (fn1 Z i)))]) _
            refine XS.icmpNo X67.here hx rfl (hb hby at_113) rfl (teq hc69).2 ?_
            show oP p e below T67 (mkF m 116 #[oI p0, oI p1, oI p2, oI p3, oI p4, oI p5, oI i, oR (fn1 Z i), oN, oN, oR b59, oI (0 : Int32)] []) _
            refine XS.iconst X67.here hx rfl (hb hby at_116) ?_
            show oP p e below T67 (mkF m 117 #[oI p0, oI p1, oI p2, oI p3, oI p4, oI p5, oI i, oR (fn1 Z i), oN, oN, oR b59, oI (0 : Int32)] [(.int (1 : Int32))]) _
            refine XS.goto X67.here hx rfl (pc0 := 117) (pc' := 121) rfl (hb hby at_117) (by decide) (by decide) ?_
            show oP p e below T67 (mkF m 121 #[oI p0, oI p1, oI p2, oI p3, oI p4, oI p5, oI i, oR (fn1 Z i), oN, oN, oR b59, oI (0 : Int32)] [(.int (1 : Int32))]) _
            exact retN X67 hx (t := .boolean) Bd.returns (by simp) (hb hby at_121) hr
          · show (some (.int (1 : Int32)) : Option Value) = some (.int (1 : Int32)) ∧ Fr n0 _ ∧ Keep h0 T67.heap []
            exact ⟨rfl, N67, Kc67⟩
        · exfalso
          exact ab70 hS p3 i ri hc56 hc58 hc62 hc69
    · obtain ⟨T71, h71, k71, X71, e71, E71, A71, st71⟩ := newP X54 hx hZ (hw _ (List.mem_of_getElem? (i := 40) rfl)) h54q (g := (mkF m 41 #[oI p0, oI p1, oI p2, oI p3, oI p4, oI p5, oI i, oR (fn1 Z i), oN, oN, oU, oU] [(.int (2 : Int32))])) rfl (hb hby at_41) rfl (by decide) (cap := 2) (by decide) (by decide) (by decide) (by decide)
      obtain ⟨b71, g71⟩ : ∃ z, z = h0.size := ⟨_, rfl⟩
      have g_b71 : n0 ≤ b71 := Nat.le_trans (own_old_le O0) (Nat.le_of_eq g71.symm)
      have sz_b71 : h0.size ≤ b71 := Nat.le_trans (Keep.refl h0 []).1 (Nat.le_of_eq g71.symm)
      rw [← g71] at A71 st71
      have O71 := O0.ext E71
      have Kc71 := (Keep.refl h0 []).ext E71
      have V71 : Arv Z h71 b71 k71 .char (2 : Int32) [(.int (0 : Int32)), (.int (0 : Int32))] (.int (0 : Int32)) := (Arv.new A71 (by decide)).pad (pad_rep [] (.int (0 : Int32)) 2)
      obtain ⟨c0, hc0⟩ : ∃ z, z = ((p4 &&& (255 : Int32)).toUInt32.toUInt16.toUInt32.toInt32) := ⟨_, rfl⟩
      have ec0 : c0 = (p4 &&& (255 : Int32)) := hc0.trans (i2c_mask _)
      have rc0 := own_char ec0
      obtain ⟨T72, h72, X72, e72, W72, V72', st72⟩ := own_stC X71 hx hZ e71 V71 (j := (0 : Int32)) ⟨by decide, by decide⟩ rfl (by decide : ((0 : Int32) : Int32).toNatClampNeg < 2) (g := (mkF m 55 #[oI p0, oI p1, oI p2, oI p3, oI p4, oI p5, oI i, oR (fn1 Z i), oN, oN, oR b71, oU] [(.int c0), (.int (0 : Int32)), (.ref b71)])) rfl rfl (hb hby at_55)
      rw [own_narc rc0] at W72 V72'
      have N72 := Fr.snoc X72 N54 g_b71
      have O72 := O71.wr W72 g_b71
      have Kc72 := Kc71.wr W72 (Or.inr sz_b71)
      have V72 : Arv Z h72 b71 k71 .char (2 : Int32) [(.int c0), (.int (0 : Int32))] (.int (0 : Int32)) := V72'
      obtain ⟨c1, hc1⟩ : ∃ z, z = ((p5 &&& (255 : Int32)).toUInt32.toUInt16.toUInt32.toInt32) := ⟨_, rfl⟩
      have ec1 : c1 = (p5 &&& (255 : Int32)) := hc1.trans (i2c_mask _)
      have rc1 := own_char ec1
      obtain ⟨T73, h73, X73, e73, W73, V73', st73⟩ := own_stC X72 hx hZ e72 V72 (j := (1 : Int32)) ⟨by decide, by decide⟩ rfl (by decide : ((1 : Int32) : Int32).toNatClampNeg < 2) (g := (mkF m 66 #[oI p0, oI p1, oI p2, oI p3, oI p4, oI p5, oI i, oR (fn1 Z i), oN, oN, oR b71, oU] [(.int c1), (.int (1 : Int32)), (.ref b71)])) rfl rfl (hb hby at_66)
      rw [own_narc rc1] at W73 V73'
      have N73 := Fr.snoc X73 N72 g_b71
      have O73 := O72.wr W73 g_b71
      have Kc73 := Kc72.wr W73 (Or.inr sz_b71)
      have V73 : Arv Z h73 b71 k71 .char (2 : Int32) [(.int c0), (.int c1)] (.int (0 : Int32)) := V73'
      obtain ⟨T74, h74, X74, e74, E74, A74, D74, -, st74⟩ := newO X73 hx hZ hown (hw _ (List.mem_of_getElem? (i := 41) rfl)) (hw _ (List.mem_of_getElem? (i := 42) rfl)) (hw _ (List.mem_of_getElem? (i := 43) rfl)) e73 (g := (mkF m 67 #[oI p0, oI p1, oI p2, oI p3, oI p4, oI p5, oI i, oR (fn1 Z i), oN, oN, oR b71, oU] [])) rfl (hb hby at_67) (by decide) (by decide)
      obtain ⟨b74, g74⟩ : ∃ z, z = h73.size := ⟨_, rfl⟩
      have g_b74 : n0 ≤ b74 := Nat.le_trans (own_old_le O73) (Nat.le_of_eq g74.symm)
      have sz_b74 : h0.size ≤ b74 := Nat.le_trans Kc73.1 (Nat.le_of_eq g74.symm)
      have ne_b71_b74 : b71 ≠ b74 := Nat.ne_of_lt (Nat.lt_of_lt_of_le V73.lt (Nat.le_of_eq g74.symm))
      rw [← g74] at A74 D74 st74
      have O74 := O73.ext E74
      have Kc74 := Kc73.ext E74
      have F_coder_b74 : Fld Z h74 b74 "java/lang/String" "coder" "B" (.int (0 : Int32)) := D74 (Or.inr (hw _ (List.mem_of_getElem? (i := 65) rfl))) (ty := .byte) (by decide)
      have F_value_b74 : Fld Z h74 b74 "java/lang/String" "value" "[B" .null := D74 (Or.inr (hw _ (List.mem_of_getElem? (i := 67) rfl))) (ty := (.array .byte)) (by decide)
      have fx76 := (V73.ext E74)
      have hp77 : ∀ c ∈ ([c0, c1] : List Int32), ¬ c < 0 ∧ ¬ (255 : Int32) < c := by
        intro c hc
        simp only [List.mem_cons, List.not_mem_nil, or_false] at hc
        rcases hc with rfl | rfl
        · exact rc0
        · exact rc1
      obtain ⟨_, _, ⟨T75, L75, k75, n75⟩, -, X75, ⟨Lc75, hQ75, l75, y75, z75⟩, st75⟩ := X74.specialBack hx (y := (⟨"java/lang/String", "<init>", "([C)V"⟩ : MethodName)) rfl hown (mvT hZ (hw _ (List.mem_of_getElem? (i := 44) rfl))) (mvT hZ (hw _ (List.mem_of_getElem? (i := 45) rfl))) (mvT hZ (hw _ (List.mem_of_getElem? (i := 46) rfl))) (by decide) (StrChars.Road.backV (W := 1) hZ (own_ws hw) (kI := 4) (hw _ (List.mem_of_getElem? (i := 42) rfl)) (cs := ([c0, c1] : List Int32)) (bs := (([c0, c1] : List Int32)).map (fun c => c.toInt8.toInt32)) (n := 2) g_b74 (own_old_le O74) A74 F_value_b74 F_coder_b74 fx76 ((s_compact hS).ext O74.2) (n_compact hS) rfl rfl (by decide) (by decide) hp77 rfl (by decide) (by decide)) (g := (mkF m 73 #[oI p0, oI p1, oI p2, oI p3, oI p4, oI p5, oI i, oR (fn1 Z i), oN, oN, oR b71, oU] [(.ref b71), (.ref b74), (.ref b74)])) rfl (by rw [hml]; rfl) (Steps.refl _) (a := b74) (argsL := [(.ref b71)]) (rest := [(.ref b74)]) (lenOf pd_5 rfl) rfl (by show 2 * 0 + _ ≤ _; exact Nat.le_of_eq rfl) (hb hby at_73) (fun _ _ => ⟨rfl, e74, (by decide : 2 + 1 ≤ _), (by decide : 6 + 2 ≤ _)⟩)
      dsimp only [Pt.U, Pt.locs, Pt.cells, Pt.slots] at X75 l75 y75 z75 st75 hQ75
      subst l75 y75 z75
      obtain ⟨v75, N75q, K75q, pE75, pC75, t75, kt75, g_t75, hs75, ns75, pV75, pA75⟩ := hQ75
      subst v75
      have N75 := Fr.app N73 N75q
      have ne_b71_t75 : b71 ≠ t75 := Nat.ne_of_lt (Nat.lt_of_lt_of_le fx76.lt hs75)
      have ne_b74_t75 : b74 ≠ t75 := Nat.ne_of_lt (Nat.lt_of_lt_of_le A74.lt hs75)
      have sz_t75 : h0.size ≤ t75 := Nat.le_trans Kc74.1 hs75
      have O75 := O74.keep K75q (allS g_b74 all0)
      have Kc75 := Kc74.trans K75q (allS (Or.inr sz_b74) all0)
      obtain ⟨T78, h78, X78, e78, E78, A78, D78, -, st78⟩ := newO X75 hx hZ hown (hw _ (List.mem_of_getElem? (i := 15) rfl)) (hw _ (List.mem_of_getElem? (i := 16) rfl)) (hw _ (List.mem_of_getElem? (i := 17) rfl)) rfl (g := (mkF m 78 #[oI p0, oI p1, oI p2, oI p3, oI p4, oI p5, oI i, oR (fn1 Z i), oN, oR b74, oR b71, oU] [])) rfl (hb hby at_78) (by decide) (by decide)
      obtain ⟨b78, g78⟩ : ∃ z, z = T75.heap.size := ⟨_, rfl⟩
      have g_b78 : n0 ≤ b78 := Nat.le_trans (own_old_le O75) (Nat.le_of_eq g78.symm)
      have sz_b78 : h0.size ≤ b78 := Nat.le_trans Kc75.1 (Nat.le_of_eq g78.symm)
      have fx79 := (fx76.keep K75q (ninS ne_b71_b74 nin0))
      have ne_b71_b78 : b71 ≠ b78 := Nat.ne_of_lt (Nat.lt_of_lt_of_le fx79.lt (Nat.le_of_eq g78.symm))
      have ne_b74_b78 : b74 ≠ b78 := Nat.ne_of_lt (Nat.lt_of_lt_of_le pE75.lt (Nat.le_of_eq g78.symm))
      have ne_t75_b78 : t75 ≠ b78 := Nat.ne_of_lt (Nat.lt_of_lt_of_le pA75.lt (Nat.le_of_eq g78.symm))
      rw [← g78] at A78 D78 st78
      have O78 := O75.ext E78
      have Kc78 := Kc75.ext E78
      have F_reasonCode_b78 : Fld Z h78 b78 "com/example/resumatic/resumatic/core/ResumeDecision" "reasonCode" "Lcom/example/resumatic/resumatic/core/ReasonCode;" .null := D78 (Or.inr (hw _ (List.mem_of_getElem? (i := 25) rfl))) (ty := (.object "com/example/resumatic/resumatic/core/ReasonCode")) (by decide)
      have F_attempt_b78 : Fld Z h78 b78 "com/example/resumatic/resumatic/core/ResumeDecision" "attempt" "I" (.int (0 : Int32)) := D78 (Or.inr (hw _ (List.mem_of_getElem? (i := 27) rfl))) (ty := .int) (by decide)
      have F_cooldownSeconds_b78 : Fld Z h78 b78 "com/example/resumatic/resumatic/core/ResumeDecision" "cooldownSeconds" "Ljava/lang/Integer;" .null := D78 (Or.inr (hw _ (List.mem_of_getElem? (i := 29) rfl))) (ty := (.object "java/lang/Integer")) (by decide)
      have F_rule_b78 : Fld Z h78 b78 "com/example/resumatic/resumatic/core/ResumeDecision" "rule" "Ljava/lang/String;" .null := D78 (Or.inr (hw _ (List.mem_of_getElem? (i := 31) rfl))) (ty := (.object "java/lang/String")) (by decide)
      obtain ⟨_, _, ⟨T80, L80, k80, n80⟩, -, X80, ⟨Lc80, hQ80, l80, y80, z80⟩, st80⟩ := X78.specialBack hx (y := (⟨"com/example/resumatic/resumatic/core/ResumeDecision", "<init>", "(Lcom/example/resumatic/resumatic/core/ReasonCode;ILjava/lang/Integer;Ljava/lang/String;)V"⟩ : MethodName)) rfl hown (mvT hZ (hw _ (List.mem_of_getElem? (i := 18) rfl))) (mvT hZ (hw _ (List.mem_of_getElem? (i := 19) rfl))) (mvT hZ (hw _ (List.mem_of_getElem? (i := 20) rfl))) (by decide) (backOf (W := 1) (rm3 l Z a0 hw hS [] b78 (fn1 Z i) p1 .null (.ref b74) h78 n0 O78 rfl rfl A78 g_b78 F_reasonCode_b78 F_attempt_b78 F_cooldownSeconds_b78 F_rule_b78) hZ (hw _ (List.mem_of_getElem? (i := 20) rfl)) (hw _ (List.mem_of_getElem? (i := 17) rfl)) (by decide) (by decide)) (g := (mkF m 89 #[oI p0, oI p1, oI p2, oI p3, oI p4, oI p5, oI i, oR (fn1 Z i), oN, oR b74, oR b71, oU] [(.ref b74), .null, (.int p1), (.ref (fn1 Z i)), (.ref b78), (.ref b78)])) rfl (by rw [hml]; rfl) (Steps.refl _) (a := b78) (argsL := [(.ref (fn1 Z i)), (.int p1), .null, (.ref b74)]) (rest := [(.ref b78)]) (lenOf pd_3 rfl) rfl (by show 2 * 0 + _ ≤ _; exact Nat.le_of_eq rfl) (hb hby at_89) (fun _ _ => ⟨rfl, e78, (by decide : 4 + 0 ≤ _), (by decide : 12 + 0 ≤ _)⟩)
      dsimp only [Pt.U, Pt.locs, Pt.cells, Pt.slots] at X80 l80 y80 z80 st80 hQ80
      subst l80 y80 z80
      obtain ⟨v80, N80q, K80q, po80_0, po80_1⟩ := hQ80
      subst v80
      have N80 := Fr.app N75 N80q
      have O80 := O78.keep K80q (allS g_b78 all0)
      have Kc80 := Kc78.trans K80q (allS (Or.inr sz_b78) all0)
      have pre81 : ∀ t, oP p e below T80 (mkF m 96 #[oI p0, oI p1, oI p2, oI p3, oI p4, oI p5, oI i, oR (fn1 Z i), oN, oR b74, oR b78, oU] [(.int i)]) t → oP p e below s₁ (entryFrame m #[(.int p0), (.int p1), (.int p2), (.int p3), (.int p4), (.int p5)] maxLocals) t := fun t k => pre57 t (by
        show oP p e below T54 (mkF m 37 #[oI p0, oI p1, oI p2, oI p3, oI p4, oI p5, oI i, oR (fn1 Z i), oN, oN, oU, oU] [(.int (p3 &&& (2 : Int32)))]) _
        refine XS.ifNo X54.here hx rfl (hb hby at_37) rfl ((if0 _ _).trans (feq hc58).1) ?_
        show oP p e below T54 (mkF m 40 #[oI p0, oI p1, oI p2, oI p3, oI p4, oI p5, oI i, oR (fn1 Z i), oN, oN, oU, oU] []) _
        refine XS.iconst X54.here hx rfl (hb hby at_40) ?_
        show oP p e below T54 (mkF m 41 #[oI p0, oI p1, oI p2, oI p3, oI p4, oI p5, oI i, oR (fn1 Z i), oN, oN, oU, oU] [(.int (2 : Int32))]) _
        refine st71 _ ?_
        show oP p e below T71 (mkF m 43 #[oI p0, oI p1, oI p2, oI p3, oI p4, oI p5, oI i, oR (fn1 Z i), oN, oN, oU, oU] [(.ref b71)]) _
        refine XS.astore X71.here hx rfl (hb hby at_43) rfl rfl (l' := #[oI p0, oI p1, oI p2, oI p3, oI p4, oI p5, oI i, oR (fn1 Z i), oN, oN, oR b71, oU]) rfl ?_
        show oP p e below T71 (mkF m 45 #[oI p0, oI p1, oI p2, oI p3, oI p4, oI p5, oI i, oR (fn1 Z i), oN, oN, oR b71, oU] []) _
        refine XS.aload X71.here hx rfl (hb hby at_45) rfl rfl ?_
        show oP p e below T71 (mkF m 47 #[oI p0, oI p1, oI p2, oI p3, oI p4, oI p5, oI i, oR (fn1 Z i), oN, oN, oR b71, oU] [(.ref b71)]) _
        refine XS.iconst X71.here hx rfl (hb hby at_47) ?_
        show oP p e below T71 (mkF m 48 #[oI p0, oI p1, oI p2, oI p3, oI p4, oI p5, oI i, oR (fn1 Z i), oN, oN, oR b71, oU] [(.int (0 : Int32)), (.ref b71)]) _
        refine XS.iload X71.here hx rfl (hb hby at_48) rfl ?_
        show oP p e below T71 (mkF m 50 #[oI p0, oI p1, oI p2, oI p3, oI p4, oI p5, oI i, oR (fn1 Z i), oN, oN, oR b71, oU] [(.int p4), (.int (0 : Int32)), (.ref b71)]) _
        refine XS.sipush X71.here hx rfl (hb hby at_50) ?_
        show oP p e below T71 (mkF m 53 #[oI p0, oI p1, oI p2, oI p3, oI p4, oI p5, oI i, oR (fn1 Z i), oN, oN, oR b71, oU] [(.int (255 : Int32)), (.int p4), (.int (0 : Int32)), (.ref b71)]) _
        refine XS.iand X71.here hx rfl (hb hby at_53) rfl ?_
        show oP p e below T71 (mkF m 54 #[oI p0, oI p1, oI p2, oI p3, oI p4, oI p5, oI i, oR (fn1 Z i), oN, oN, oR b71, oU] [(.int (p4 &&& (255 : Int32))), (.int (0 : Int32)), (.ref b71)]) _
        refine XS.i2c X71.here hx rfl (hb hby at_54) rfl ?_
        show oP p e below T71 (mkF m 55 #[oI p0, oI p1, oI p2, oI p3, oI p4, oI p5, oI i, oR (fn1 Z i), oN, oN, oR b71, oU] [(.int ((p4 &&& (255 : Int32)).toUInt32.toUInt16.toUInt32.toInt32)), (.int (0 : Int32)), (.ref b71)]) _
        rw [← hc0]
        show oP p e below T71 (mkF m 55 #[oI p0, oI p1, oI p2, oI p3, oI p4, oI p5, oI i, oR (fn1 Z i), oN, oN, oR b71, oU] [(.int c0), (.int (0 : Int32)), (.ref b71)]) _
        refine st72 _ ?_
        show oP p e below T72 (mkF m 56 #[oI p0, oI p1, oI p2, oI p3, oI p4, oI p5, oI i, oR (fn1 Z i), oN, oN, oR b71, oU] []) _
        refine XS.aload X72.here hx rfl (hb hby at_56) rfl rfl ?_
        show oP p e below T72 (mkF m 58 #[oI p0, oI p1, oI p2, oI p3, oI p4, oI p5, oI i, oR (fn1 Z i), oN, oN, oR b71, oU] [(.ref b71)]) _
        refine XS.iconst X72.here hx rfl (hb hby at_58) ?_
        show oP p e below T72 (mkF m 59 #[oI p0, oI p1, oI p2, oI p3, oI p4, oI p5, oI i, oR (fn1 Z i), oN, oN, oR b71, oU] [(.int (1 : Int32)), (.ref b71)]) _
        refine XS.iload X72.here hx rfl (hb hby at_59) rfl ?_
        show oP p e below T72 (mkF m 61 #[oI p0, oI p1, oI p2, oI p3, oI p4, oI p5, oI i, oR (fn1 Z i), oN, oN, oR b71, oU] [(.int p5), (.int (1 : Int32)), (.ref b71)]) _
        refine XS.sipush X72.here hx rfl (hb hby at_61) ?_
        show oP p e below T72 (mkF m 64 #[oI p0, oI p1, oI p2, oI p3, oI p4, oI p5, oI i, oR (fn1 Z i), oN, oN, oR b71, oU] [(.int (255 : Int32)), (.int p5), (.int (1 : Int32)), (.ref b71)]) _
        refine XS.iand X72.here hx rfl (hb hby at_64) rfl ?_
        show oP p e below T72 (mkF m 65 #[oI p0, oI p1, oI p2, oI p3, oI p4, oI p5, oI i, oR (fn1 Z i), oN, oN, oR b71, oU] [(.int (p5 &&& (255 : Int32))), (.int (1 : Int32)), (.ref b71)]) _
        refine XS.i2c X72.here hx rfl (hb hby at_65) rfl ?_
        show oP p e below T72 (mkF m 66 #[oI p0, oI p1, oI p2, oI p3, oI p4, oI p5, oI i, oR (fn1 Z i), oN, oN, oR b71, oU] [(.int ((p5 &&& (255 : Int32)).toUInt32.toUInt16.toUInt32.toInt32)), (.int (1 : Int32)), (.ref b71)]) _
        rw [← hc1]
        show oP p e below T72 (mkF m 66 #[oI p0, oI p1, oI p2, oI p3, oI p4, oI p5, oI i, oR (fn1 Z i), oN, oN, oR b71, oU] [(.int c1), (.int (1 : Int32)), (.ref b71)]) _
        refine st73 _ ?_
        show oP p e below T73 (mkF m 67 #[oI p0, oI p1, oI p2, oI p3, oI p4, oI p5, oI i, oR (fn1 Z i), oN, oN, oR b71, oU] []) _
        refine st74 _ ?_
        show oP p e below T74 (mkF m 70 #[oI p0, oI p1, oI p2, oI p3, oI p4, oI p5, oI i, oR (fn1 Z i), oN, oN, oR b71, oU] [(.ref b74)]) _
        refine XS.dup X74.here hx rfl (hb hby at_70) rfl rfl ?_
        show oP p e below T74 (mkF m 71 #[oI p0, oI p1, oI p2, oI p3, oI p4, oI p5, oI i, oR (fn1 Z i), oN, oN, oR b71, oU] [(.ref b74), (.ref b74)]) _
        refine XS.aload X74.here hx rfl (hb hby at_71) rfl rfl ?_
        show oP p e below T74 (mkF m 73 #[oI p0, oI p1, oI p2, oI p3, oI p4, oI p5, oI i, oR (fn1 Z i), oN, oN, oR b71, oU] [(.ref b71), (.ref b74), (.ref b74)]) _
        refine st75.trans ?_
        show oP p e below T75 (mkF m 76 #[oI p0, oI p1, oI p2, oI p3, oI p4, oI p5, oI i, oR (fn1 Z i), oN, oN, oR b71, oU] [(.ref b74)]) _
        refine XS.astore X75.here hx rfl (hb hby at_76) rfl rfl (l' := #[oI p0, oI p1, oI p2, oI p3, oI p4, oI p5, oI i, oR (fn1 Z i), oN, oR b74, oR b71, oU]) rfl ?_
        show oP p e below T75 (mkF m 78 #[oI p0, oI p1, oI p2, oI p3, oI p4, oI p5, oI i, oR (fn1 Z i), oN, oR b74, oR b71, oU] []) _
        refine st78 _ ?_
        show oP p e below T78 (mkF m 81 #[oI p0, oI p1, oI p2, oI p3, oI p4, oI p5, oI i, oR (fn1 Z i), oN, oR b74, oR b71, oU] [(.ref b78)]) _
        refine XS.dup X78.here hx rfl (hb hby at_81) rfl rfl ?_
        show oP p e below T78 (mkF m 82 #[oI p0, oI p1, oI p2, oI p3, oI p4, oI p5, oI i, oR (fn1 Z i), oN, oR b74, oR b71, oU] [(.ref b78), (.ref b78)]) _
        refine XS.aload X78.here hx rfl (hb hby at_82) rfl rfl ?_
        show oP p e below T78 (mkF m 84 #[oI p0, oI p1, oI p2, oI p3, oI p4, oI p5, oI i, oR (fn1 Z i), oN, oR b74, oR b71, oU] [(.ref (fn1 Z i)), (.ref b78), (.ref b78)]) _
        refine XS.iloadN X78.here hx rfl (hb hby at_84) rfl ?_
        show oP p e below T78 (mkF m 85 #[oI p0, oI p1, oI p2, oI p3, oI p4, oI p5, oI i, oR (fn1 Z i), oN, oR b74, oR b71, oU] [(.int p1), (.ref (fn1 Z i)), (.ref b78), (.ref b78)]) _
        refine XS.aload X78.here hx rfl (hb hby at_85) rfl rfl ?_
        show oP p e below T78 (mkF m 87 #[oI p0, oI p1, oI p2, oI p3, oI p4, oI p5, oI i, oR (fn1 Z i), oN, oR b74, oR b71, oU] [.null, (.int p1), (.ref (fn1 Z i)), (.ref b78), (.ref b78)]) _
        refine XS.aload X78.here hx rfl (hb hby at_87) rfl rfl ?_
        show oP p e below T78 (mkF m 89 #[oI p0, oI p1, oI p2, oI p3, oI p4, oI p5, oI i, oR (fn1 Z i), oN, oR b74, oR b71, oU] [(.ref b74), .null, (.int p1), (.ref (fn1 Z i)), (.ref b78), (.ref b78)]) _
        refine st80.trans ?_
        show oP p e below T80 (mkF m 92 #[oI p0, oI p1, oI p2, oI p3, oI p4, oI p5, oI i, oR (fn1 Z i), oN, oR b74, oR b71, oU] [(.ref b78)]) _
        refine XS.astore X80.here hx rfl (hb hby at_92) rfl rfl (l' := #[oI p0, oI p1, oI p2, oI p3, oI p4, oI p5, oI i, oR (fn1 Z i), oN, oR b74, oR b78, oU]) rfl ?_
        show oP p e below T80 (mkF m 94 #[oI p0, oI p1, oI p2, oI p3, oI p4, oI p5, oI i, oR (fn1 Z i), oN, oR b74, oR b78, oU] []) _
        refine XS.iload X80.here hx rfl (hb hby at_94) rfl ?_
        exact k)
      by_cases hc82 : i = (0 : Int32)
      · obtain ⟨cq83, kq83, q83a, q83b, q83c⟩ := isOf hZ rfl po80_0
        obtain ⟨_, _, ⟨T83, L83, k83, n83⟩, -, X83, ⟨Lc83, hQ83, l83, y83, z83⟩, st83⟩ := X80.virtualBack hx (y := (⟨"com/example/resumatic/resumatic/core/ResumeDecision", "isEligible", "()Z"⟩ : MethodName)) (z := (⟨"com/example/resumatic/resumatic/core/ResumeDecision", "isEligible", "()Z"⟩ : MethodName)) hown (mvT hZ (hw _ (List.mem_of_getElem? (i := 32) rfl))) (mvT hZ (hw _ (List.mem_of_getElem? (i := 33) rfl))) (notFace_of_selects (args := #[]) (mvT hZ (hw _ (List.mem_of_getElem? (i := 35) rfl)))) (mvT hZ (hw _ (List.mem_of_getElem? (i := 35) rfl))) (mvT hZ (hw _ (List.mem_of_getElem? (i := 34) rfl))) (by decide) (backOf (W := 0) (rm5 l Z a0 hw hS [] b78 (fn1 Z i) T80.heap n0 O80 po80_1) hZ (hw _ (List.mem_of_getElem? (i := 36) rfl)) (hw _ (List.mem_of_getElem? (i := 17) rfl)) (by decide) (by decide)) q83a q83c (g := (mkF m 108 #[oI p0, oI p1, oI p2, oI p3, oI p4, oI p5, oI i, oR (fn1 Z i), oN, oR b74, oR b78, oI (1 : Int32)] [(.ref b78)])) rfl (by rw [hml]; rfl) (Steps.refl _) (argsL := []) (rest := []) (lenOf pd_4 rfl) rfl (by show 2 * 0 + _ ≤ _; exact Nat.le_of_eq rfl) (hb hby at_108) (fun _ _ => ⟨rfl, rfl, (by decide : 4 + 0 ≤ _), (by decide : 12 + 0 ≤ _)⟩)
        dsimp only [Pt.U, Pt.locs, Pt.cells, Pt.slots] at X83 l83 y83 z83 st83 hQ83
        subst l83 y83 z83
        obtain ⟨v83, N83q, K83q⟩ := hQ83
        subst v83
        have N83 := Fr.app N80 N83q
        have O83 := O80.keep K83q all0
        have Kc83 := Kc80.trans K83q all0
        have pre84 : ∀ t, oP p e below T83 (mkF m 113 #[oI p0, oI p1, oI p2, oI p3, oI p4, oI p5, oI i, oR (fn1 Z i), oN, oR b74, oR b78, oI (1 : Int32)] [(.int (1 : Int32)), (.int (fn5 Z b78 (fn1 Z i)))]) t → oP p e below s₁ (entryFrame m #[(.int p0), (.int p1), (.int p2), (.int p3), (.int p4), (.int p5)] maxLocals) t := fun t k => pre81 t (by
          show oP p e below T80 (mkF m 96 #[oI p0, oI p1, oI p2, oI p3, oI p4, oI p5, oI i, oR (fn1 Z i), oN, oR b74, oR b78, oU] [(.int i)]) _
          refine XS.ifNo X80.here hx rfl (hb hby at_96) rfl ((if0 _ _).trans (teq hc82).2) ?_
          show oP p e below T80 (mkF m 99 #[oI p0, oI p1, oI p2, oI p3, oI p4, oI p5, oI i, oR (fn1 Z i), oN, oR b74, oR b78, oU] []) _
          refine XS.iconst X80.here hx rfl (hb hby at_99) ?_
          show oP p e below T80 (mkF m 100 #[oI p0, oI p1, oI p2, oI p3, oI p4, oI p5, oI i, oR (fn1 Z i), oN, oR b74, oR b78, oU] [(.int (1 : Int32))]) _
          refine XS.goto X80.here hx rfl (pc0 := 100) (pc' := 104) rfl (hb hby at_100) (by decide) (by decide) ?_
          show oP p e below T80 (mkF m 104 #[oI p0, oI p1, oI p2, oI p3, oI p4, oI p5, oI i, oR (fn1 Z i), oN, oR b74, oR b78, oU] [(.int (1 : Int32))]) _
          refine XS.istore X80.here hx rfl (hb hby at_104) rfl (l' := #[oI p0, oI p1, oI p2, oI p3, oI p4, oI p5, oI i, oR (fn1 Z i), oN, oR b74, oR b78, oI (1 : Int32)]) rfl ?_
          show oP p e below T80 (mkF m 106 #[oI p0, oI p1, oI p2, oI p3, oI p4, oI p5, oI i, oR (fn1 Z i), oN, oR b74, oR b78, oI (1 : Int32)] []) _
          refine XS.aload X80.here hx rfl (hb hby at_106) rfl rfl ?_
          show oP p e below T80 (mkF m 108 #[oI p0, oI p1, oI p2, oI p3, oI p4, oI p5, oI i, oR (fn1 Z i), oN, oR b74, oR b78, oI (1 : Int32)] [(.ref b78)]) _
          refine st83.trans ?_
          show oP p e below T83 (mkF m 111 #[oI p0, oI p1, oI p2, oI p3, oI p4, oI p5, oI i, oR (fn1 Z i), oN, oR b74, oR b78, oI (1 : Int32)] [(.int (fn5 Z b78 (fn1 Z i)))]) _
          refine XS.iload X83.here hx rfl (hb hby at_111) rfl ?_
          exact k)
        by_cases hc85 : (fn5 Z b78 (fn1 Z i)) = (1 : Int32)
        · obtain ⟨fs, hr, hrun, hended, hW, hsame⟩ := X83.leave (v := some (.int (1 : Int32))) (fun h => by rw [Bd.returns] at h; cases h)
          refine ⟨_, _, pre84 _ ?_, hrun, hended, _, _, rfl, ?_, ⟨_, rfl⟩, hW, hsame.mono (by decide) (by decide)⟩
          · show oP p e below T83 (mkF m 113 #[oI p0, oI p1, oI p2, oI p3, oI p4, oI p5, oI i, oR (fn1 Z i), oN, oR b74, oR b78, oI (1 : Int32)] [(.int (1 : Int32)), (.int (fn5 Z b78 (fn1 Z i)))]) _
            refine XS.icmpNo X83.here hx rfl (hb hby at_113) rfl (teq hc85).2 ?_
            show oP p e below T83 (mkF m 116 #[oI p0, oI p1, oI p2, oI p3, oI p4, oI p5, oI i, oR (fn1 Z i), oN, oR b74, oR b78, oI (1 : Int32)] []) _
            refine XS.iconst X83.here hx rfl (hb hby at_116) ?_
            show oP p e below T83 (mkF m 117 #[oI p0, oI p1, oI p2, oI p3, oI p4, oI p5, oI i, oR (fn1 Z i), oN, oR b74, oR b78, oI (1 : Int32)] [(.int (1 : Int32))]) _
            refine XS.goto X83.here hx rfl (pc0 := 117) (pc' := 121) rfl (hb hby at_117) (by decide) (by decide) ?_
            show oP p e below T83 (mkF m 121 #[oI p0, oI p1, oI p2, oI p3, oI p4, oI p5, oI i, oR (fn1 Z i), oN, oR b74, oR b78, oI (1 : Int32)] [(.int (1 : Int32))]) _
            exact retN X83 hx (t := .boolean) Bd.returns (by simp) (hb hby at_121) hr
          · show (some (.int (1 : Int32)) : Option Value) = some (.int (1 : Int32)) ∧ Fr n0 _ ∧ Keep h0 T83.heap []
            exact ⟨rfl, N83, Kc83⟩
        · exfalso
          exact ab86 hS p3 p4 p5 i c0 c1 ri hc56 hc58 ec0 ec1 hc82 hc85
      · obtain ⟨cq87, kq87, q87a, q87b, q87c⟩ := isOf hZ rfl po80_0
        obtain ⟨_, _, ⟨T87, L87, k87, n87⟩, -, X87, ⟨Lc87, hQ87, l87, y87, z87⟩, st87⟩ := X80.virtualBack hx (y := (⟨"com/example/resumatic/resumatic/core/ResumeDecision", "isEligible", "()Z"⟩ : MethodName)) (z := (⟨"com/example/resumatic/resumatic/core/ResumeDecision", "isEligible", "()Z"⟩ : MethodName)) hown (mvT hZ (hw _ (List.mem_of_getElem? (i := 32) rfl))) (mvT hZ (hw _ (List.mem_of_getElem? (i := 33) rfl))) (notFace_of_selects (args := #[]) (mvT hZ (hw _ (List.mem_of_getElem? (i := 35) rfl)))) (mvT hZ (hw _ (List.mem_of_getElem? (i := 35) rfl))) (mvT hZ (hw _ (List.mem_of_getElem? (i := 34) rfl))) (by decide) (backOf (W := 0) (rm5 l Z a0 hw hS [] b78 (fn1 Z i) T80.heap n0 O80 po80_1) hZ (hw _ (List.mem_of_getElem? (i := 36) rfl)) (hw _ (List.mem_of_getElem? (i := 17) rfl)) (by decide) (by decide)) q87a q87c (g := (mkF m 108 #[oI p0, oI p1, oI p2, oI p3, oI p4, oI p5, oI i, oR (fn1 Z i), oN, oR b74, oR b78, oI (0 : Int32)] [(.ref b78)])) rfl (by rw [hml]; rfl) (Steps.refl _) (argsL := []) (rest := []) (lenOf pd_4 rfl) rfl (by show 2 * 0 + _ ≤ _; exact Nat.le_of_eq rfl) (hb hby at_108) (fun _ _ => ⟨rfl, rfl, (by decide : 4 + 0 ≤ _), (by decide : 12 + 0 ≤ _)⟩)
        dsimp only [Pt.U, Pt.locs, Pt.cells, Pt.slots] at X87 l87 y87 z87 st87 hQ87
        subst l87 y87 z87
        obtain ⟨v87, N87q, K87q⟩ := hQ87
        subst v87
        have N87 := Fr.app N80 N87q
        have O87 := O80.keep K87q all0
        have Kc87 := Kc80.trans K87q all0
        have pre88 : ∀ t, oP p e below T87 (mkF m 113 #[oI p0, oI p1, oI p2, oI p3, oI p4, oI p5, oI i, oR (fn1 Z i), oN, oR b74, oR b78, oI (0 : Int32)] [(.int (0 : Int32)), (.int (fn5 Z b78 (fn1 Z i)))]) t → oP p e below s₁ (entryFrame m #[(.int p0), (.int p1), (.int p2), (.int p3), (.int p4), (.int p5)] maxLocals) t := fun t k => pre81 t (by
          show oP p e below T80 (mkF m 96 #[oI p0, oI p1, oI p2, oI p3, oI p4, oI p5, oI i, oR (fn1 Z i), oN, oR b74, oR b78, oU] [(.int i)]) _
          refine XS.ifYes X80.here hx rfl (pc0 := 96) (pc' := 103) rfl (hb hby at_96) rfl ((if0 _ _).trans (feq hc82).2) (by decide) (by decide) ?_
          show oP p e below T80 (mkF m 103 #[oI p0, oI p1, oI p2, oI p3, oI p4, oI p5, oI i, oR (fn1 Z i), oN, oR b74, oR b78, oU] []) _
          refine XS.iconst X80.here hx rfl (hb hby at_103) ?_
          show oP p e below T80 (mkF m 104 #[oI p0, oI p1, oI p2, oI p3, oI p4, oI p5, oI i, oR (fn1 Z i), oN, oR b74, oR b78, oU] [(.int (0 : Int32))]) _
          refine XS.istore X80.here hx rfl (hb hby at_104) rfl (l' := #[oI p0, oI p1, oI p2, oI p3, oI p4, oI p5, oI i, oR (fn1 Z i), oN, oR b74, oR b78, oI (0 : Int32)]) rfl ?_
          show oP p e below T80 (mkF m 106 #[oI p0, oI p1, oI p2, oI p3, oI p4, oI p5, oI i, oR (fn1 Z i), oN, oR b74, oR b78, oI (0 : Int32)] []) _
          refine XS.aload X80.here hx rfl (hb hby at_106) rfl rfl ?_
          show oP p e below T80 (mkF m 108 #[oI p0, oI p1, oI p2, oI p3, oI p4, oI p5, oI i, oR (fn1 Z i), oN, oR b74, oR b78, oI (0 : Int32)] [(.ref b78)]) _
          refine st87.trans ?_
          show oP p e below T87 (mkF m 111 #[oI p0, oI p1, oI p2, oI p3, oI p4, oI p5, oI i, oR (fn1 Z i), oN, oR b74, oR b78, oI (0 : Int32)] [(.int (fn5 Z b78 (fn1 Z i)))]) _
          refine XS.iload X87.here hx rfl (hb hby at_111) rfl ?_
          exact k)
        by_cases hc89 : (fn5 Z b78 (fn1 Z i)) = (0 : Int32)
        · obtain ⟨fs, hr, hrun, hended, hW, hsame⟩ := X87.leave (v := some (.int (1 : Int32))) (fun h => by rw [Bd.returns] at h; cases h)
          refine ⟨_, _, pre88 _ ?_, hrun, hended, _, _, rfl, ?_, ⟨_, rfl⟩, hW, hsame.mono (by decide) (by decide)⟩
          · show oP p e below T87 (mkF m 113 #[oI p0, oI p1, oI p2, oI p3, oI p4, oI p5, oI i, oR (fn1 Z i), oN, oR b74, oR b78, oI (0 : Int32)] [(.int (0 : Int32)), (.int (fn5 Z b78 (fn1 Z i)))]) _
            refine XS.icmpNo X87.here hx rfl (hb hby at_113) rfl (teq hc89).2 ?_
            show oP p e below T87 (mkF m 116 #[oI p0, oI p1, oI p2, oI p3, oI p4, oI p5, oI i, oR (fn1 Z i), oN, oR b74, oR b78, oI (0 : Int32)] []) _
            refine XS.iconst X87.here hx rfl (hb hby at_116) ?_
            show oP p e below T87 (mkF m 117 #[oI p0, oI p1, oI p2, oI p3, oI p4, oI p5, oI i, oR (fn1 Z i), oN, oR b74, oR b78, oI (0 : Int32)] [(.int (1 : Int32))]) _
            refine XS.goto X87.here hx rfl (pc0 := 117) (pc' := 121) rfl (hb hby at_117) (by decide) (by decide) ?_
            show oP p e below T87 (mkF m 121 #[oI p0, oI p1, oI p2, oI p3, oI p4, oI p5, oI i, oR (fn1 Z i), oN, oR b74, oR b78, oI (0 : Int32)] [(.int (1 : Int32))]) _
            exact retN X87 hx (t := .boolean) Bd.returns (by simp) (hb hby at_121) hr
          · show (some (.int (1 : Int32)) : Option Value) = some (.int (1 : Int32)) ∧ Fr n0 _ ∧ Keep h0 T87.heap []
            exact ⟨rfl, N87, Kc87⟩
        · exfalso
          exact ab90 hS p3 p4 p5 i c0 c1 ri hc56 hc58 ec0 ec1 hc82 hc89
  · obtain ⟨_, _, ⟨T91, L91, k91, n91⟩, -, X91, ⟨Lc91, hQ91, l91, y91, z91⟩, st91⟩ := Jvm.LawKit.callS X54 hx (y := (⟨"java/lang/Integer", "valueOf", "(I)Ljava/lang/Integer;"⟩ : MethodName)) hown (mvT hZ (hw _ (List.mem_of_getElem? (i := 8) rfl))) (mvT hZ (hw _ (List.mem_of_getElem? (i := 9) rfl))) (mvT hZ (hw _ (List.mem_of_getElem? (i := 10) rfl))) (mvT hZ (hw _ (List.mem_of_getElem? (i := 11) rfl))) (by decide) (backOf (W := 0) (rm2 l Z a0 hw hS [] p2 h0 n0 O0 ) hZ (hw _ (List.mem_of_getElem? (i := 11) rfl)) (hw _ (List.mem_of_getElem? (i := 10) rfl)) (by decide) (by decide)) (g := (mkF m 26 #[oI p0, oI p1, oI p2, oI p3, oI p4, oI p5, oI i, oR (fn1 Z i), oN, oU, oU, oU] [(.int p2)])) rfl (by rw [hml]; rfl) (argsL := [(.int p2)]) (rest := []) (lenOf pd_6 rfl) rfl (by show 2 * 0 + _ ≤ _; exact Nat.le_of_eq rfl) (hb hby at_26) (fun _ _ => ⟨rfl, h54q, (by decide : 0 + 1 ≤ _), (by decide : 0 + 1 ≤ _)⟩)
    dsimp only [Pt.U, Pt.locs, Pt.cells, Pt.slots] at X91 l91 y91 z91 st91 hQ91
    subst l91 y91 z91
    obtain ⟨b_91, v91, N91q, K91q, po91_0⟩ := hQ91
    subst v91
    have N91 := Fr.app N54 N91q
    have O91 := O0.keep K91q all0
    have Kc91 := (Keep.refl h0 []).trans K91q all0
    have pre92 : ∀ t, oP p e below T91 (mkF m 37 #[oI p0, oI p1, oI p2, oI p3, oI p4, oI p5, oI i, oR (fn1 Z i), oR b_91, oN, oU, oU] [(.int (p3 &&& (2 : Int32)))]) t → oP p e below s₁ (entryFrame m #[(.int p0), (.int p1), (.int p2), (.int p3), (.int p4), (.int p5)] maxLocals) t := fun t k => pre55 t (by
      show oP p e below T54 (mkF m 22 #[oI p0, oI p1, oI p2, oI p3, oI p4, oI p5, oI i, oR (fn1 Z i), oN, oU, oU, oU] [(.int (p3 &&& (1 : Int32)))]) _
      refine XS.ifNo X54.here hx rfl (hb hby at_22) rfl ((if0 _ _).trans (feq hc56).1) ?_
      show oP p e below T54 (mkF m 25 #[oI p0, oI p1, oI p2, oI p3, oI p4, oI p5, oI i, oR (fn1 Z i), oN, oU, oU, oU] []) _
      refine XS.iloadN X54.here hx rfl (hb hby at_25) rfl ?_
      show oP p e below T54 (mkF m 26 #[oI p0, oI p1, oI p2, oI p3, oI p4, oI p5, oI i, oR (fn1 Z i), oN, oU, oU, oU] [(.int p2)]) _
      refine st91 _ ?_
      show oP p e below T91 (mkF m 29 #[oI p0, oI p1, oI p2, oI p3, oI p4, oI p5, oI i, oR (fn1 Z i), oN, oU, oU, oU] [(.ref b_91)]) _
      refine XS.astore X91.here hx rfl (hb hby at_29) rfl rfl (l' := #[oI p0, oI p1, oI p2, oI p3, oI p4, oI p5, oI i, oR (fn1 Z i), oR b_91, oU, oU, oU]) rfl ?_
      show oP p e below T91 (mkF m 31 #[oI p0, oI p1, oI p2, oI p3, oI p4, oI p5, oI i, oR (fn1 Z i), oR b_91, oU, oU, oU] []) _
      refine XS.aconstNull X91.here hx rfl (hb hby at_31) ?_
      show oP p e below T91 (mkF m 32 #[oI p0, oI p1, oI p2, oI p3, oI p4, oI p5, oI i, oR (fn1 Z i), oR b_91, oU, oU, oU] [.null]) _
      refine XS.astore X91.here hx rfl (hb hby at_32) rfl rfl (l' := #[oI p0, oI p1, oI p2, oI p3, oI p4, oI p5, oI i, oR (fn1 Z i), oR b_91, oN, oU, oU]) rfl ?_
      show oP p e below T91 (mkF m 34 #[oI p0, oI p1, oI p2, oI p3, oI p4, oI p5, oI i, oR (fn1 Z i), oR b_91, oN, oU, oU] []) _
      refine XS.iloadN X91.here hx rfl (hb hby at_34) rfl ?_
      show oP p e below T91 (mkF m 35 #[oI p0, oI p1, oI p2, oI p3, oI p4, oI p5, oI i, oR (fn1 Z i), oR b_91, oN, oU, oU] [(.int p3)]) _
      refine XS.iconst X91.here hx rfl (hb hby at_35) ?_
      show oP p e below T91 (mkF m 36 #[oI p0, oI p1, oI p2, oI p3, oI p4, oI p5, oI i, oR (fn1 Z i), oR b_91, oN, oU, oU] [(.int (2 : Int32)), (.int p3)]) _
      refine XS.iand X91.here hx rfl (hb hby at_36) rfl ?_
      exact k)
    by_cases hc93 : (p3 &&& (2 : Int32)) = (0 : Int32)
    · obtain ⟨T94, h94, X94, e94, E94, A94, D94, -, st94⟩ := newO X91 hx hZ hown (hw _ (List.mem_of_getElem? (i := 15) rfl)) (hw _ (List.mem_of_getElem? (i := 16) rfl)) (hw _ (List.mem_of_getElem? (i := 17) rfl)) rfl (g := (mkF m 78 #[oI p0, oI p1, oI p2, oI p3, oI p4, oI p5, oI i, oR (fn1 Z i), oR b_91, oN, oU, oU] [])) rfl (hb hby at_78) (by decide) (by decide)
      obtain ⟨b94, g94⟩ : ∃ z, z = T91.heap.size := ⟨_, rfl⟩
      have g_b94 : n0 ≤ b94 := Nat.le_trans (own_old_le O91) (Nat.le_of_eq g94.symm)
      have sz_b94 : h0.size ≤ b94 := Nat.le_trans Kc91.1 (Nat.le_of_eq g94.symm)
      rw [← g94] at A94 D94 st94
      have O94 := O91.ext E94
      have Kc94 := Kc91.ext E94
      have F_reasonCode_b94 : Fld Z h94 b94 "com/example/resumatic/resumatic/core/ResumeDecision" "reasonCode" "Lcom/example/resumatic/resumatic/core/ReasonCode;" .null := D94 (Or.inr (hw _ (List.mem_of_getElem? (i := 25) rfl))) (ty := (.object "com/example/resumatic/resumatic/core/ReasonCode")) (by decide)
      have F_attempt_b94 : Fld Z h94 b94 "com/example/resumatic/resumatic/core/ResumeDecision" "attempt" "I" (.int (0 : Int32)) := D94 (Or.inr (hw _ (List.mem_of_getElem? (i := 27) rfl))) (ty := .int) (by decide)
      have F_cooldownSeconds_b94 : Fld Z h94 b94 "com/example/resumatic/resumatic/core/ResumeDecision" "cooldownSeconds" "Ljava/lang/Integer;" .null := D94 (Or.inr (hw _ (List.mem_of_getElem? (i := 29) rfl))) (ty := (.object "java/lang/Integer")) (by decide)
      have F_rule_b94 : Fld Z h94 b94 "com/example/resumatic/resumatic/core/ResumeDecision" "rule" "Ljava/lang/String;" .null := D94 (Or.inr (hw _ (List.mem_of_getElem? (i := 31) rfl))) (ty := (.object "java/lang/String")) (by decide)
      obtain ⟨_, _, ⟨T95, L95, k95, n95⟩, -, X95, ⟨Lc95, hQ95, l95, y95, z95⟩, st95⟩ := X94.specialBack hx (y := (⟨"com/example/resumatic/resumatic/core/ResumeDecision", "<init>", "(Lcom/example/resumatic/resumatic/core/ReasonCode;ILjava/lang/Integer;Ljava/lang/String;)V"⟩ : MethodName)) rfl hown (mvT hZ (hw _ (List.mem_of_getElem? (i := 18) rfl))) (mvT hZ (hw _ (List.mem_of_getElem? (i := 19) rfl))) (mvT hZ (hw _ (List.mem_of_getElem? (i := 20) rfl))) (by decide) (backOf (W := 1) (rm3 l Z a0 hw hS [] b94 (fn1 Z i) p1 (.ref b_91) .null h94 n0 O94 rfl rfl A94 g_b94 F_reasonCode_b94 F_attempt_b94 F_cooldownSeconds_b94 F_rule_b94) hZ (hw _ (List.mem_of_getElem? (i := 20) rfl)) (hw _ (List.mem_of_getElem? (i := 17) rfl)) (by decide) (by decide)) (g := (mkF m 89 #[oI p0, oI p1, oI p2, oI p3, oI p4, oI p5, oI i, oR (fn1 Z i), oR b_91, oN, oU, oU] [.null, (.ref b_91), (.int p1), (.ref (fn1 Z i)), (.ref b94), (.ref b94)])) rfl (by rw [hml]; rfl) (Steps.refl _) (a := b94) (argsL := [(.ref (fn1 Z i)), (.int p1), (.ref b_91), .null]) (rest := [(.ref b94)]) (lenOf pd_3 rfl) rfl (by show 2 * 0 + _ ≤ _; exact Nat.le_of_eq rfl) (hb hby at_89) (fun _ _ => ⟨rfl, e94, (by decide : 2 + 0 ≤ _), (by decide : 5 + 0 ≤ _)⟩)
      dsimp only [Pt.U, Pt.locs, Pt.cells, Pt.slots] at X95 l95 y95 z95 st95 hQ95
      subst l95 y95 z95
      obtain ⟨v95, N95q, K95q, po95_0, po95_1⟩ := hQ95
      subst v95
      have N95 := Fr.app N91 N95q
      have O95 := O94.keep K95q (allS g_b94 all0)
      have Kc95 := Kc94.trans K95q (allS (Or.inr sz_b94) all0)
      have pre96 : ∀ t, oP p e below T95 (mkF m 96 #[oI p0, oI p1, oI p2, oI p3, oI p4, oI p5, oI i, oR (fn1 Z i), oR b_91, oN, oR b94, oU] [(.int i)]) t → oP p e below s₁ (entryFrame m #[(.int p0), (.int p1), (.int p2), (.int p3), (.int p4), (.int p5)] maxLocals) t := fun t k => pre92 t (by
        show oP p e below T91 (mkF m 37 #[oI p0, oI p1, oI p2, oI p3, oI p4, oI p5, oI i, oR (fn1 Z i), oR b_91, oN, oU, oU] [(.int (p3 &&& (2 : Int32)))]) _
        refine XS.ifYes X91.here hx rfl (pc0 := 37) (pc' := 78) rfl (hb hby at_37) rfl ((if0 _ _).trans (teq hc93).1) (by decide) (by decide) ?_
        show oP p e below T91 (mkF m 78 #[oI p0, oI p1, oI p2, oI p3, oI p4, oI p5, oI i, oR (fn1 Z i), oR b_91, oN, oU, oU] []) _
        refine st94 _ ?_
        show oP p e below T94 (mkF m 81 #[oI p0, oI p1, oI p2, oI p3, oI p4, oI p5, oI i, oR (fn1 Z i), oR b_91, oN, oU, oU] [(.ref b94)]) _
        refine XS.dup X94.here hx rfl (hb hby at_81) rfl rfl ?_
        show oP p e below T94 (mkF m 82 #[oI p0, oI p1, oI p2, oI p3, oI p4, oI p5, oI i, oR (fn1 Z i), oR b_91, oN, oU, oU] [(.ref b94), (.ref b94)]) _
        refine XS.aload X94.here hx rfl (hb hby at_82) rfl rfl ?_
        show oP p e below T94 (mkF m 84 #[oI p0, oI p1, oI p2, oI p3, oI p4, oI p5, oI i, oR (fn1 Z i), oR b_91, oN, oU, oU] [(.ref (fn1 Z i)), (.ref b94), (.ref b94)]) _
        refine XS.iloadN X94.here hx rfl (hb hby at_84) rfl ?_
        show oP p e below T94 (mkF m 85 #[oI p0, oI p1, oI p2, oI p3, oI p4, oI p5, oI i, oR (fn1 Z i), oR b_91, oN, oU, oU] [(.int p1), (.ref (fn1 Z i)), (.ref b94), (.ref b94)]) _
        refine XS.aload X94.here hx rfl (hb hby at_85) rfl rfl ?_
        show oP p e below T94 (mkF m 87 #[oI p0, oI p1, oI p2, oI p3, oI p4, oI p5, oI i, oR (fn1 Z i), oR b_91, oN, oU, oU] [(.ref b_91), (.int p1), (.ref (fn1 Z i)), (.ref b94), (.ref b94)]) _
        refine XS.aload X94.here hx rfl (hb hby at_87) rfl rfl ?_
        show oP p e below T94 (mkF m 89 #[oI p0, oI p1, oI p2, oI p3, oI p4, oI p5, oI i, oR (fn1 Z i), oR b_91, oN, oU, oU] [.null, (.ref b_91), (.int p1), (.ref (fn1 Z i)), (.ref b94), (.ref b94)]) _
        refine st95.trans ?_
        show oP p e below T95 (mkF m 92 #[oI p0, oI p1, oI p2, oI p3, oI p4, oI p5, oI i, oR (fn1 Z i), oR b_91, oN, oU, oU] [(.ref b94)]) _
        refine XS.astore X95.here hx rfl (hb hby at_92) rfl rfl (l' := #[oI p0, oI p1, oI p2, oI p3, oI p4, oI p5, oI i, oR (fn1 Z i), oR b_91, oN, oR b94, oU]) rfl ?_
        show oP p e below T95 (mkF m 94 #[oI p0, oI p1, oI p2, oI p3, oI p4, oI p5, oI i, oR (fn1 Z i), oR b_91, oN, oR b94, oU] []) _
        refine XS.iload X95.here hx rfl (hb hby at_94) rfl ?_
        exact k)
      by_cases hc97 : i = (0 : Int32)
      · obtain ⟨cq98, kq98, q98a, q98b, q98c⟩ := isOf hZ rfl po95_0
        obtain ⟨_, _, ⟨T98, L98, k98, n98⟩, -, X98, ⟨Lc98, hQ98, l98, y98, z98⟩, st98⟩ := X95.virtualBack hx (y := (⟨"com/example/resumatic/resumatic/core/ResumeDecision", "isEligible", "()Z"⟩ : MethodName)) (z := (⟨"com/example/resumatic/resumatic/core/ResumeDecision", "isEligible", "()Z"⟩ : MethodName)) hown (mvT hZ (hw _ (List.mem_of_getElem? (i := 32) rfl))) (mvT hZ (hw _ (List.mem_of_getElem? (i := 33) rfl))) (notFace_of_selects (args := #[]) (mvT hZ (hw _ (List.mem_of_getElem? (i := 35) rfl)))) (mvT hZ (hw _ (List.mem_of_getElem? (i := 35) rfl))) (mvT hZ (hw _ (List.mem_of_getElem? (i := 34) rfl))) (by decide) (backOf (W := 0) (rm5 l Z a0 hw hS [] b94 (fn1 Z i) T95.heap n0 O95 po95_1) hZ (hw _ (List.mem_of_getElem? (i := 36) rfl)) (hw _ (List.mem_of_getElem? (i := 17) rfl)) (by decide) (by decide)) q98a q98c (g := (mkF m 108 #[oI p0, oI p1, oI p2, oI p3, oI p4, oI p5, oI i, oR (fn1 Z i), oR b_91, oN, oR b94, oI (1 : Int32)] [(.ref b94)])) rfl (by rw [hml]; rfl) (Steps.refl _) (argsL := []) (rest := []) (lenOf pd_4 rfl) rfl (by show 2 * 0 + _ ≤ _; exact Nat.le_of_eq rfl) (hb hby at_108) (fun _ _ => ⟨rfl, rfl, (by decide : 2 + 0 ≤ _), (by decide : 5 + 0 ≤ _)⟩)
        dsimp only [Pt.U, Pt.locs, Pt.cells, Pt.slots] at X98 l98 y98 z98 st98 hQ98
        subst l98 y98 z98
        obtain ⟨v98, N98q, K98q⟩ := hQ98
        subst v98
        have N98 := Fr.app N95 N98q
        have O98 := O95.keep K98q all0
        have Kc98 := Kc95.trans K98q all0
        have pre99 : ∀ t, oP p e below T98 (mkF m 113 #[oI p0, oI p1, oI p2, oI p3, oI p4, oI p5, oI i, oR (fn1 Z i), oR b_91, oN, oR b94, oI (1 : Int32)] [(.int (1 : Int32)), (.int (fn5 Z b94 (fn1 Z i)))]) t → oP p e below s₁ (entryFrame m #[(.int p0), (.int p1), (.int p2), (.int p3), (.int p4), (.int p5)] maxLocals) t := fun t k => pre96 t (by
          show oP p e below T95 (mkF m 96 #[oI p0, oI p1, oI p2, oI p3, oI p4, oI p5, oI i, oR (fn1 Z i), oR b_91, oN, oR b94, oU] [(.int i)]) _
          refine XS.ifNo X95.here hx rfl (hb hby at_96) rfl ((if0 _ _).trans (teq hc97).2) ?_
          show oP p e below T95 (mkF m 99 #[oI p0, oI p1, oI p2, oI p3, oI p4, oI p5, oI i, oR (fn1 Z i), oR b_91, oN, oR b94, oU] []) _
          refine XS.iconst X95.here hx rfl (hb hby at_99) ?_
          show oP p e below T95 (mkF m 100 #[oI p0, oI p1, oI p2, oI p3, oI p4, oI p5, oI i, oR (fn1 Z i), oR b_91, oN, oR b94, oU] [(.int (1 : Int32))]) _
          refine XS.goto X95.here hx rfl (pc0 := 100) (pc' := 104) rfl (hb hby at_100) (by decide) (by decide) ?_
          show oP p e below T95 (mkF m 104 #[oI p0, oI p1, oI p2, oI p3, oI p4, oI p5, oI i, oR (fn1 Z i), oR b_91, oN, oR b94, oU] [(.int (1 : Int32))]) _
          refine XS.istore X95.here hx rfl (hb hby at_104) rfl (l' := #[oI p0, oI p1, oI p2, oI p3, oI p4, oI p5, oI i, oR (fn1 Z i), oR b_91, oN, oR b94, oI (1 : Int32)]) rfl ?_
          show oP p e below T95 (mkF m 106 #[oI p0, oI p1, oI p2, oI p3, oI p4, oI p5, oI i, oR (fn1 Z i), oR b_91, oN, oR b94, oI (1 : Int32)] []) _
          refine XS.aload X95.here hx rfl (hb hby at_106) rfl rfl ?_
          show oP p e below T95 (mkF m 108 #[oI p0, oI p1, oI p2, oI p3, oI p4, oI p5, oI i, oR (fn1 Z i), oR b_91, oN, oR b94, oI (1 : Int32)] [(.ref b94)]) _
          refine st98.trans ?_
          show oP p e below T98 (mkF m 111 #[oI p0, oI p1, oI p2, oI p3, oI p4, oI p5, oI i, oR (fn1 Z i), oR b_91, oN, oR b94, oI (1 : Int32)] [(.int (fn5 Z b94 (fn1 Z i)))]) _
          refine XS.iload X98.here hx rfl (hb hby at_111) rfl ?_
          exact k)
        by_cases hc100 : (fn5 Z b94 (fn1 Z i)) = (1 : Int32)
        · obtain ⟨fs, hr, hrun, hended, hW, hsame⟩ := X98.leave (v := some (.int (1 : Int32))) (fun h => by rw [Bd.returns] at h; cases h)
          refine ⟨_, _, pre99 _ ?_, hrun, hended, _, _, rfl, ?_, ⟨_, rfl⟩, hW, hsame.mono (by decide) (by decide)⟩
          · show oP p e below T98 (mkF m 113 #[oI p0, oI p1, oI p2, oI p3, oI p4, oI p5, oI i, oR (fn1 Z i), oR b_91, oN, oR b94, oI (1 : Int32)] [(.int (1 : Int32)), (.int (fn5 Z b94 (fn1 Z i)))]) _
            refine XS.icmpNo X98.here hx rfl (hb hby at_113) rfl (teq hc100).2 ?_
            show oP p e below T98 (mkF m 116 #[oI p0, oI p1, oI p2, oI p3, oI p4, oI p5, oI i, oR (fn1 Z i), oR b_91, oN, oR b94, oI (1 : Int32)] []) _
            refine XS.iconst X98.here hx rfl (hb hby at_116) ?_
            show oP p e below T98 (mkF m 117 #[oI p0, oI p1, oI p2, oI p3, oI p4, oI p5, oI i, oR (fn1 Z i), oR b_91, oN, oR b94, oI (1 : Int32)] [(.int (1 : Int32))]) _
            refine XS.goto X98.here hx rfl (pc0 := 117) (pc' := 121) rfl (hb hby at_117) (by decide) (by decide) ?_
            show oP p e below T98 (mkF m 121 #[oI p0, oI p1, oI p2, oI p3, oI p4, oI p5, oI i, oR (fn1 Z i), oR b_91, oN, oR b94, oI (1 : Int32)] [(.int (1 : Int32))]) _
            exact retN X98 hx (t := .boolean) Bd.returns (by simp) (hb hby at_121) hr
          · show (some (.int (1 : Int32)) : Option Value) = some (.int (1 : Int32)) ∧ Fr n0 _ ∧ Keep h0 T98.heap []
            exact ⟨rfl, N98, Kc98⟩
        · exfalso
          exact ab101 hS p3 i ri hc56 hc93 hc97 hc100
      · obtain ⟨cq102, kq102, q102a, q102b, q102c⟩ := isOf hZ rfl po95_0
        obtain ⟨_, _, ⟨T102, L102, k102, n102⟩, -, X102, ⟨Lc102, hQ102, l102, y102, z102⟩, st102⟩ := X95.virtualBack hx (y := (⟨"com/example/resumatic/resumatic/core/ResumeDecision", "isEligible", "()Z"⟩ : MethodName)) (z := (⟨"com/example/resumatic/resumatic/core/ResumeDecision", "isEligible", "()Z"⟩ : MethodName)) hown (mvT hZ (hw _ (List.mem_of_getElem? (i := 32) rfl))) (mvT hZ (hw _ (List.mem_of_getElem? (i := 33) rfl))) (notFace_of_selects (args := #[]) (mvT hZ (hw _ (List.mem_of_getElem? (i := 35) rfl)))) (mvT hZ (hw _ (List.mem_of_getElem? (i := 35) rfl))) (mvT hZ (hw _ (List.mem_of_getElem? (i := 34) rfl))) (by decide) (backOf (W := 0) (rm5 l Z a0 hw hS [] b94 (fn1 Z i) T95.heap n0 O95 po95_1) hZ (hw _ (List.mem_of_getElem? (i := 36) rfl)) (hw _ (List.mem_of_getElem? (i := 17) rfl)) (by decide) (by decide)) q102a q102c (g := (mkF m 108 #[oI p0, oI p1, oI p2, oI p3, oI p4, oI p5, oI i, oR (fn1 Z i), oR b_91, oN, oR b94, oI (0 : Int32)] [(.ref b94)])) rfl (by rw [hml]; rfl) (Steps.refl _) (argsL := []) (rest := []) (lenOf pd_4 rfl) rfl (by show 2 * 0 + _ ≤ _; exact Nat.le_of_eq rfl) (hb hby at_108) (fun _ _ => ⟨rfl, rfl, (by decide : 2 + 0 ≤ _), (by decide : 5 + 0 ≤ _)⟩)
        dsimp only [Pt.U, Pt.locs, Pt.cells, Pt.slots] at X102 l102 y102 z102 st102 hQ102
        subst l102 y102 z102
        obtain ⟨v102, N102q, K102q⟩ := hQ102
        subst v102
        have N102 := Fr.app N95 N102q
        have O102 := O95.keep K102q all0
        have Kc102 := Kc95.trans K102q all0
        have pre103 : ∀ t, oP p e below T102 (mkF m 113 #[oI p0, oI p1, oI p2, oI p3, oI p4, oI p5, oI i, oR (fn1 Z i), oR b_91, oN, oR b94, oI (0 : Int32)] [(.int (0 : Int32)), (.int (fn5 Z b94 (fn1 Z i)))]) t → oP p e below s₁ (entryFrame m #[(.int p0), (.int p1), (.int p2), (.int p3), (.int p4), (.int p5)] maxLocals) t := fun t k => pre96 t (by
          show oP p e below T95 (mkF m 96 #[oI p0, oI p1, oI p2, oI p3, oI p4, oI p5, oI i, oR (fn1 Z i), oR b_91, oN, oR b94, oU] [(.int i)]) _
          refine XS.ifYes X95.here hx rfl (pc0 := 96) (pc' := 103) rfl (hb hby at_96) rfl ((if0 _ _).trans (feq hc97).2) (by decide) (by decide) ?_
          show oP p e below T95 (mkF m 103 #[oI p0, oI p1, oI p2, oI p3, oI p4, oI p5, oI i, oR (fn1 Z i), oR b_91, oN, oR b94, oU] []) _
          refine XS.iconst X95.here hx rfl (hb hby at_103) ?_
          show oP p e below T95 (mkF m 104 #[oI p0, oI p1, oI p2, oI p3, oI p4, oI p5, oI i, oR (fn1 Z i), oR b_91, oN, oR b94, oU] [(.int (0 : Int32))]) _
          refine XS.istore X95.here hx rfl (hb hby at_104) rfl (l' := #[oI p0, oI p1, oI p2, oI p3, oI p4, oI p5, oI i, oR (fn1 Z i), oR b_91, oN, oR b94, oI (0 : Int32)]) rfl ?_
          show oP p e below T95 (mkF m 106 #[oI p0, oI p1, oI p2, oI p3, oI p4, oI p5, oI i, oR (fn1 Z i), oR b_91, oN, oR b94, oI (0 : Int32)] []) _
          refine XS.aload X95.here hx rfl (hb hby at_106) rfl rfl ?_
          show oP p e below T95 (mkF m 108 #[oI p0, oI p1, oI p2, oI p3, oI p4, oI p5, oI i, oR (fn1 Z i), oR b_91, oN, oR b94, oI (0 : Int32)] [(.ref b94)]) _
          refine st102.trans ?_
          show oP p e below T102 (mkF m 111 #[oI p0, oI p1, oI p2, oI p3, oI p4, oI p5, oI i, oR (fn1 Z i), oR b_91, oN, oR b94, oI (0 : Int32)] [(.int (fn5 Z b94 (fn1 Z i)))]) _
          refine XS.iload X102.here hx rfl (hb hby at_111) rfl ?_
          exact k)
        by_cases hc104 : (fn5 Z b94 (fn1 Z i)) = (0 : Int32)
        · obtain ⟨fs, hr, hrun, hended, hW, hsame⟩ := X102.leave (v := some (.int (1 : Int32))) (fun h => by rw [Bd.returns] at h; cases h)
          refine ⟨_, _, pre103 _ ?_, hrun, hended, _, _, rfl, ?_, ⟨_, rfl⟩, hW, hsame.mono (by decide) (by decide)⟩
          · show oP p e below T102 (mkF m 113 #[oI p0, oI p1, oI p2, oI p3, oI p4, oI p5, oI i, oR (fn1 Z i), oR b_91, oN, oR b94, oI (0 : Int32)] [(.int (0 : Int32)), (.int (fn5 Z b94 (fn1 Z i)))]) _
            refine XS.icmpNo X102.here hx rfl (hb hby at_113) rfl (teq hc104).2 ?_
            show oP p e below T102 (mkF m 116 #[oI p0, oI p1, oI p2, oI p3, oI p4, oI p5, oI i, oR (fn1 Z i), oR b_91, oN, oR b94, oI (0 : Int32)] []) _
            refine XS.iconst X102.here hx rfl (hb hby at_116) ?_
            show oP p e below T102 (mkF m 117 #[oI p0, oI p1, oI p2, oI p3, oI p4, oI p5, oI i, oR (fn1 Z i), oR b_91, oN, oR b94, oI (0 : Int32)] [(.int (1 : Int32))]) _
            refine XS.goto X102.here hx rfl (pc0 := 117) (pc' := 121) rfl (hb hby at_117) (by decide) (by decide) ?_
            show oP p e below T102 (mkF m 121 #[oI p0, oI p1, oI p2, oI p3, oI p4, oI p5, oI i, oR (fn1 Z i), oR b_91, oN, oR b94, oI (0 : Int32)] [(.int (1 : Int32))]) _
            exact retN X102 hx (t := .boolean) Bd.returns (by simp) (hb hby at_121) hr
          · show (some (.int (1 : Int32)) : Option Value) = some (.int (1 : Int32)) ∧ Fr n0 _ ∧ Keep h0 T102.heap []
            exact ⟨rfl, N102, Kc102⟩
        · exfalso
          exact ab105 hS p3 i ri hc56 hc93 hc97 hc104
    · obtain ⟨T106, h106, k106, X106, e106, E106, A106, st106⟩ := newP X91 hx hZ (hw _ (List.mem_of_getElem? (i := 40) rfl)) rfl (g := (mkF m 41 #[oI p0, oI p1, oI p2, oI p3, oI p4, oI p5, oI i, oR (fn1 Z i), oR b_91, oN, oU, oU] [(.int (2 : Int32))])) rfl (hb hby at_41) rfl (by decide) (cap := 2) (by decide) (by decide) (by decide) (by decide)
      obtain ⟨b106, g106⟩ : ∃ z, z = T91.heap.size := ⟨_, rfl⟩
      have g_b106 : n0 ≤ b106 := Nat.le_trans (own_old_le O91) (Nat.le_of_eq g106.symm)
      have sz_b106 : h0.size ≤ b106 := Nat.le_trans Kc91.1 (Nat.le_of_eq g106.symm)
      rw [← g106] at A106 st106
      have O106 := O91.ext E106
      have Kc106 := Kc91.ext E106
      have V106 : Arv Z h106 b106 k106 .char (2 : Int32) [(.int (0 : Int32)), (.int (0 : Int32))] (.int (0 : Int32)) := (Arv.new A106 (by decide)).pad (pad_rep [] (.int (0 : Int32)) 2)
      obtain ⟨c0, hc0⟩ : ∃ z, z = ((p4 &&& (255 : Int32)).toUInt32.toUInt16.toUInt32.toInt32) := ⟨_, rfl⟩
      have ec0 : c0 = (p4 &&& (255 : Int32)) := hc0.trans (i2c_mask _)
      have rc0 := own_char ec0
      obtain ⟨T107, h107, X107, e107, W107, V107', st107⟩ := own_stC X106 hx hZ e106 V106 (j := (0 : Int32)) ⟨by decide, by decide⟩ rfl (by decide : ((0 : Int32) : Int32).toNatClampNeg < 2) (g := (mkF m 55 #[oI p0, oI p1, oI p2, oI p3, oI p4, oI p5, oI i, oR (fn1 Z i), oR b_91, oN, oR b106, oU] [(.int c0), (.int (0 : Int32)), (.ref b106)])) rfl rfl (hb hby at_55)
      rw [own_narc rc0] at W107 V107'
      have N107 := Fr.snoc X107 N91 g_b106
      have O107 := O106.wr W107 g_b106
      have Kc107 := Kc106.wr W107 (Or.inr sz_b106)
      have V107 : Arv Z h107 b106 k106 .char (2 : Int32) [(.int c0), (.int (0 : Int32))] (.int (0 : Int32)) := V107'
      obtain ⟨c1, hc1⟩ : ∃ z, z = ((p5 &&& (255 : Int32)).toUInt32.toUInt16.toUInt32.toInt32) := ⟨_, rfl⟩
      have ec1 : c1 = (p5 &&& (255 : Int32)) := hc1.trans (i2c_mask _)
      have rc1 := own_char ec1
      obtain ⟨T108, h108, X108, e108, W108, V108', st108⟩ := own_stC X107 hx hZ e107 V107 (j := (1 : Int32)) ⟨by decide, by decide⟩ rfl (by decide : ((1 : Int32) : Int32).toNatClampNeg < 2) (g := (mkF m 66 #[oI p0, oI p1, oI p2, oI p3, oI p4, oI p5, oI i, oR (fn1 Z i), oR b_91, oN, oR b106, oU] [(.int c1), (.int (1 : Int32)), (.ref b106)])) rfl rfl (hb hby at_66)
      rw [own_narc rc1] at W108 V108'
      have N108 := Fr.snoc X108 N107 g_b106
      have O108 := O107.wr W108 g_b106
      have Kc108 := Kc107.wr W108 (Or.inr sz_b106)
      have V108 : Arv Z h108 b106 k106 .char (2 : Int32) [(.int c0), (.int c1)] (.int (0 : Int32)) := V108'
      obtain ⟨T109, h109, X109, e109, E109, A109, D109, -, st109⟩ := newO X108 hx hZ hown (hw _ (List.mem_of_getElem? (i := 41) rfl)) (hw _ (List.mem_of_getElem? (i := 42) rfl)) (hw _ (List.mem_of_getElem? (i := 43) rfl)) e108 (g := (mkF m 67 #[oI p0, oI p1, oI p2, oI p3, oI p4, oI p5, oI i, oR (fn1 Z i), oR b_91, oN, oR b106, oU] [])) rfl (hb hby at_67) (by decide) (by decide)
      obtain ⟨b109, g109⟩ : ∃ z, z = h108.size := ⟨_, rfl⟩
      have g_b109 : n0 ≤ b109 := Nat.le_trans (own_old_le O108) (Nat.le_of_eq g109.symm)
      have sz_b109 : h0.size ≤ b109 := Nat.le_trans Kc108.1 (Nat.le_of_eq g109.symm)
      have ne_b106_b109 : b106 ≠ b109 := Nat.ne_of_lt (Nat.lt_of_lt_of_le V108.lt (Nat.le_of_eq g109.symm))
      rw [← g109] at A109 D109 st109
      have O109 := O108.ext E109
      have Kc109 := Kc108.ext E109
      have F_coder_b109 : Fld Z h109 b109 "java/lang/String" "coder" "B" (.int (0 : Int32)) := D109 (Or.inr (hw _ (List.mem_of_getElem? (i := 65) rfl))) (ty := .byte) (by decide)
      have F_value_b109 : Fld Z h109 b109 "java/lang/String" "value" "[B" .null := D109 (Or.inr (hw _ (List.mem_of_getElem? (i := 67) rfl))) (ty := (.array .byte)) (by decide)
      have fx111 := (V108.ext E109)
      have hp112 : ∀ c ∈ ([c0, c1] : List Int32), ¬ c < 0 ∧ ¬ (255 : Int32) < c := by
        intro c hc
        simp only [List.mem_cons, List.not_mem_nil, or_false] at hc
        rcases hc with rfl | rfl
        · exact rc0
        · exact rc1
      obtain ⟨_, _, ⟨T110, L110, k110, n110⟩, -, X110, ⟨Lc110, hQ110, l110, y110, z110⟩, st110⟩ := X109.specialBack hx (y := (⟨"java/lang/String", "<init>", "([C)V"⟩ : MethodName)) rfl hown (mvT hZ (hw _ (List.mem_of_getElem? (i := 44) rfl))) (mvT hZ (hw _ (List.mem_of_getElem? (i := 45) rfl))) (mvT hZ (hw _ (List.mem_of_getElem? (i := 46) rfl))) (by decide) (StrChars.Road.backV (W := 1) hZ (own_ws hw) (kI := 4) (hw _ (List.mem_of_getElem? (i := 42) rfl)) (cs := ([c0, c1] : List Int32)) (bs := (([c0, c1] : List Int32)).map (fun c => c.toInt8.toInt32)) (n := 2) g_b109 (own_old_le O109) A109 F_value_b109 F_coder_b109 fx111 ((s_compact hS).ext O109.2) (n_compact hS) rfl rfl (by decide) (by decide) hp112 rfl (by decide) (by decide)) (g := (mkF m 73 #[oI p0, oI p1, oI p2, oI p3, oI p4, oI p5, oI i, oR (fn1 Z i), oR b_91, oN, oR b106, oU] [(.ref b106), (.ref b109), (.ref b109)])) rfl (by rw [hml]; rfl) (Steps.refl _) (a := b109) (argsL := [(.ref b106)]) (rest := [(.ref b109)]) (lenOf pd_5 rfl) rfl (by show 2 * 0 + _ ≤ _; exact Nat.le_of_eq rfl) (hb hby at_73) (fun _ _ => ⟨rfl, e109, (by decide : 3 + 1 ≤ _), (by decide : 7 + 2 ≤ _)⟩)
      dsimp only [Pt.U, Pt.locs, Pt.cells, Pt.slots] at X110 l110 y110 z110 st110 hQ110
      subst l110 y110 z110
      obtain ⟨v110, N110q, K110q, pE110, pC110, t110, kt110, g_t110, hs110, ns110, pV110, pA110⟩ := hQ110
      subst v110
      have N110 := Fr.app N108 N110q
      have ne_b106_t110 : b106 ≠ t110 := Nat.ne_of_lt (Nat.lt_of_lt_of_le fx111.lt hs110)
      have ne_b109_t110 : b109 ≠ t110 := Nat.ne_of_lt (Nat.lt_of_lt_of_le A109.lt hs110)
      have sz_t110 : h0.size ≤ t110 := Nat.le_trans Kc109.1 hs110
      have O110 := O109.keep K110q (allS g_b109 all0)
      have Kc110 := Kc109.trans K110q (allS (Or.inr sz_b109) all0)
      obtain ⟨T113, h113, X113, e113, E113, A113, D113, -, st113⟩ := newO X110 hx hZ hown (hw _ (List.mem_of_getElem? (i := 15) rfl)) (hw _ (List.mem_of_getElem? (i := 16) rfl)) (hw _ (List.mem_of_getElem? (i := 17) rfl)) rfl (g := (mkF m 78 #[oI p0, oI p1, oI p2, oI p3, oI p4, oI p5, oI i, oR (fn1 Z i), oR b_91, oR b109, oR b106, oU] [])) rfl (hb hby at_78) (by decide) (by decide)
      obtain ⟨b113, g113⟩ : ∃ z, z = T110.heap.size := ⟨_, rfl⟩
      have g_b113 : n0 ≤ b113 := Nat.le_trans (own_old_le O110) (Nat.le_of_eq g113.symm)
      have sz_b113 : h0.size ≤ b113 := Nat.le_trans Kc110.1 (Nat.le_of_eq g113.symm)
      have fx114 := (fx111.keep K110q (ninS ne_b106_b109 nin0))
      have ne_b106_b113 : b106 ≠ b113 := Nat.ne_of_lt (Nat.lt_of_lt_of_le fx114.lt (Nat.le_of_eq g113.symm))
      have ne_b109_b113 : b109 ≠ b113 := Nat.ne_of_lt (Nat.lt_of_lt_of_le pE110.lt (Nat.le_of_eq g113.symm))
      have ne_t110_b113 : t110 ≠ b113 := Nat.ne_of_lt (Nat.lt_of_lt_of_le pA110.lt (Nat.le_of_eq g113.symm))
      rw [← g113] at A113 D113 st113
      have O113 := O110.ext E113
      have Kc113 := Kc110.ext E113
      have F_reasonCode_b113 : Fld Z h113 b113 "com/example/resumatic/resumatic/core/ResumeDecision" "reasonCode" "Lcom/example/resumatic/resumatic/core/ReasonCode;" .null := D113 (Or.inr (hw _ (List.mem_of_getElem? (i := 25) rfl))) (ty := (.object "com/example/resumatic/resumatic/core/ReasonCode")) (by decide)
      have F_attempt_b113 : Fld Z h113 b113 "com/example/resumatic/resumatic/core/ResumeDecision" "attempt" "I" (.int (0 : Int32)) := D113 (Or.inr (hw _ (List.mem_of_getElem? (i := 27) rfl))) (ty := .int) (by decide)
      have F_cooldownSeconds_b113 : Fld Z h113 b113 "com/example/resumatic/resumatic/core/ResumeDecision" "cooldownSeconds" "Ljava/lang/Integer;" .null := D113 (Or.inr (hw _ (List.mem_of_getElem? (i := 29) rfl))) (ty := (.object "java/lang/Integer")) (by decide)
      have F_rule_b113 : Fld Z h113 b113 "com/example/resumatic/resumatic/core/ResumeDecision" "rule" "Ljava/lang/String;" .null := D113 (Or.inr (hw _ (List.mem_of_getElem? (i := 31) rfl))) (ty := (.object "java/lang/String")) (by decide)
      obtain ⟨_, _, ⟨T115, L115, k115, n115⟩, -, X115, ⟨Lc115, hQ115, l115, y115, z115⟩, st115⟩ := X113.specialBack hx (y := (⟨"com/example/resumatic/resumatic/core/ResumeDecision", "<init>", "(Lcom/example/resumatic/resumatic/core/ReasonCode;ILjava/lang/Integer;Ljava/lang/String;)V"⟩ : MethodName)) rfl hown (mvT hZ (hw _ (List.mem_of_getElem? (i := 18) rfl))) (mvT hZ (hw _ (List.mem_of_getElem? (i := 19) rfl))) (mvT hZ (hw _ (List.mem_of_getElem? (i := 20) rfl))) (by decide) (backOf (W := 1) (rm3 l Z a0 hw hS [] b113 (fn1 Z i) p1 (.ref b_91) (.ref b109) h113 n0 O113 rfl rfl A113 g_b113 F_reasonCode_b113 F_attempt_b113 F_cooldownSeconds_b113 F_rule_b113) hZ (hw _ (List.mem_of_getElem? (i := 20) rfl)) (hw _ (List.mem_of_getElem? (i := 17) rfl)) (by decide) (by decide)) (g := (mkF m 89 #[oI p0, oI p1, oI p2, oI p3, oI p4, oI p5, oI i, oR (fn1 Z i), oR b_91, oR b109, oR b106, oU] [(.ref b109), (.ref b_91), (.int p1), (.ref (fn1 Z i)), (.ref b113), (.ref b113)])) rfl (by rw [hml]; rfl) (Steps.refl _) (a := b113) (argsL := [(.ref (fn1 Z i)), (.int p1), (.ref b_91), (.ref b109)]) (rest := [(.ref b113)]) (lenOf pd_3 rfl) rfl (by show 2 * 0 + _ ≤ _; exact Nat.le_of_eq rfl) (hb hby at_89) (fun _ _ => ⟨rfl, e113, (by decide : 5 + 0 ≤ _), (by decide : 13 + 0 ≤ _)⟩)
      dsimp only [Pt.U, Pt.locs, Pt.cells, Pt.slots] at X115 l115 y115 z115 st115 hQ115
      subst l115 y115 z115
      obtain ⟨v115, N115q, K115q, po115_0, po115_1⟩ := hQ115
      subst v115
      have N115 := Fr.app N110 N115q
      have O115 := O113.keep K115q (allS g_b113 all0)
      have Kc115 := Kc113.trans K115q (allS (Or.inr sz_b113) all0)
      have pre116 : ∀ t, oP p e below T115 (mkF m 96 #[oI p0, oI p1, oI p2, oI p3, oI p4, oI p5, oI i, oR (fn1 Z i), oR b_91, oR b109, oR b113, oU] [(.int i)]) t → oP p e below s₁ (entryFrame m #[(.int p0), (.int p1), (.int p2), (.int p3), (.int p4), (.int p5)] maxLocals) t := fun t k => pre92 t (by
        show oP p e below T91 (mkF m 37 #[oI p0, oI p1, oI p2, oI p3, oI p4, oI p5, oI i, oR (fn1 Z i), oR b_91, oN, oU, oU] [(.int (p3 &&& (2 : Int32)))]) _
        refine XS.ifNo X91.here hx rfl (hb hby at_37) rfl ((if0 _ _).trans (feq hc93).1) ?_
        show oP p e below T91 (mkF m 40 #[oI p0, oI p1, oI p2, oI p3, oI p4, oI p5, oI i, oR (fn1 Z i), oR b_91, oN, oU, oU] []) _
        refine XS.iconst X91.here hx rfl (hb hby at_40) ?_
        show oP p e below T91 (mkF m 41 #[oI p0, oI p1, oI p2, oI p3, oI p4, oI p5, oI i, oR (fn1 Z i), oR b_91, oN, oU, oU] [(.int (2 : Int32))]) _
        refine st106 _ ?_
        show oP p e below T106 (mkF m 43 #[oI p0, oI p1, oI p2, oI p3, oI p4, oI p5, oI i, oR (fn1 Z i), oR b_91, oN, oU, oU] [(.ref b106)]) _
        refine XS.astore X106.here hx rfl (hb hby at_43) rfl rfl (l' := #[oI p0, oI p1, oI p2, oI p3, oI p4, oI p5, oI i, oR (fn1 Z i), oR b_91, oN, oR b106, oU]) rfl ?_
        show oP p e below T106 (mkF m 45 #[oI p0, oI p1, oI p2, oI p3, oI p4, oI p5, oI i, oR (fn1 Z i), oR b_91, oN, oR b106, oU] []) _
        refine XS.aload X106.here hx rfl (hb hby at_45) rfl rfl ?_
        show oP p e below T106 (mkF m 47 #[oI p0, oI p1, oI p2, oI p3, oI p4, oI p5, oI i, oR (fn1 Z i), oR b_91, oN, oR b106, oU] [(.ref b106)]) _
        refine XS.iconst X106.here hx rfl (hb hby at_47) ?_
        show oP p e below T106 (mkF m 48 #[oI p0, oI p1, oI p2, oI p3, oI p4, oI p5, oI i, oR (fn1 Z i), oR b_91, oN, oR b106, oU] [(.int (0 : Int32)), (.ref b106)]) _
        refine XS.iload X106.here hx rfl (hb hby at_48) rfl ?_
        show oP p e below T106 (mkF m 50 #[oI p0, oI p1, oI p2, oI p3, oI p4, oI p5, oI i, oR (fn1 Z i), oR b_91, oN, oR b106, oU] [(.int p4), (.int (0 : Int32)), (.ref b106)]) _
        refine XS.sipush X106.here hx rfl (hb hby at_50) ?_
        show oP p e below T106 (mkF m 53 #[oI p0, oI p1, oI p2, oI p3, oI p4, oI p5, oI i, oR (fn1 Z i), oR b_91, oN, oR b106, oU] [(.int (255 : Int32)), (.int p4), (.int (0 : Int32)), (.ref b106)]) _
        refine XS.iand X106.here hx rfl (hb hby at_53) rfl ?_
        show oP p e below T106 (mkF m 54 #[oI p0, oI p1, oI p2, oI p3, oI p4, oI p5, oI i, oR (fn1 Z i), oR b_91, oN, oR b106, oU] [(.int (p4 &&& (255 : Int32))), (.int (0 : Int32)), (.ref b106)]) _
        refine XS.i2c X106.here hx rfl (hb hby at_54) rfl ?_
        show oP p e below T106 (mkF m 55 #[oI p0, oI p1, oI p2, oI p3, oI p4, oI p5, oI i, oR (fn1 Z i), oR b_91, oN, oR b106, oU] [(.int ((p4 &&& (255 : Int32)).toUInt32.toUInt16.toUInt32.toInt32)), (.int (0 : Int32)), (.ref b106)]) _
        rw [← hc0]
        show oP p e below T106 (mkF m 55 #[oI p0, oI p1, oI p2, oI p3, oI p4, oI p5, oI i, oR (fn1 Z i), oR b_91, oN, oR b106, oU] [(.int c0), (.int (0 : Int32)), (.ref b106)]) _
        refine st107 _ ?_
        show oP p e below T107 (mkF m 56 #[oI p0, oI p1, oI p2, oI p3, oI p4, oI p5, oI i, oR (fn1 Z i), oR b_91, oN, oR b106, oU] []) _
        refine XS.aload X107.here hx rfl (hb hby at_56) rfl rfl ?_
        show oP p e below T107 (mkF m 58 #[oI p0, oI p1, oI p2, oI p3, oI p4, oI p5, oI i, oR (fn1 Z i), oR b_91, oN, oR b106, oU] [(.ref b106)]) _
        refine XS.iconst X107.here hx rfl (hb hby at_58) ?_
        show oP p e below T107 (mkF m 59 #[oI p0, oI p1, oI p2, oI p3, oI p4, oI p5, oI i, oR (fn1 Z i), oR b_91, oN, oR b106, oU] [(.int (1 : Int32)), (.ref b106)]) _
        refine XS.iload X107.here hx rfl (hb hby at_59) rfl ?_
        show oP p e below T107 (mkF m 61 #[oI p0, oI p1, oI p2, oI p3, oI p4, oI p5, oI i, oR (fn1 Z i), oR b_91, oN, oR b106, oU] [(.int p5), (.int (1 : Int32)), (.ref b106)]) _
        refine XS.sipush X107.here hx rfl (hb hby at_61) ?_
        show oP p e below T107 (mkF m 64 #[oI p0, oI p1, oI p2, oI p3, oI p4, oI p5, oI i, oR (fn1 Z i), oR b_91, oN, oR b106, oU] [(.int (255 : Int32)), (.int p5), (.int (1 : Int32)), (.ref b106)]) _
        refine XS.iand X107.here hx rfl (hb hby at_64) rfl ?_
        show oP p e below T107 (mkF m 65 #[oI p0, oI p1, oI p2, oI p3, oI p4, oI p5, oI i, oR (fn1 Z i), oR b_91, oN, oR b106, oU] [(.int (p5 &&& (255 : Int32))), (.int (1 : Int32)), (.ref b106)]) _
        refine XS.i2c X107.here hx rfl (hb hby at_65) rfl ?_
        show oP p e below T107 (mkF m 66 #[oI p0, oI p1, oI p2, oI p3, oI p4, oI p5, oI i, oR (fn1 Z i), oR b_91, oN, oR b106, oU] [(.int ((p5 &&& (255 : Int32)).toUInt32.toUInt16.toUInt32.toInt32)), (.int (1 : Int32)), (.ref b106)]) _
        rw [← hc1]
        show oP p e below T107 (mkF m 66 #[oI p0, oI p1, oI p2, oI p3, oI p4, oI p5, oI i, oR (fn1 Z i), oR b_91, oN, oR b106, oU] [(.int c1), (.int (1 : Int32)), (.ref b106)]) _
        refine st108 _ ?_
        show oP p e below T108 (mkF m 67 #[oI p0, oI p1, oI p2, oI p3, oI p4, oI p5, oI i, oR (fn1 Z i), oR b_91, oN, oR b106, oU] []) _
        refine st109 _ ?_
        show oP p e below T109 (mkF m 70 #[oI p0, oI p1, oI p2, oI p3, oI p4, oI p5, oI i, oR (fn1 Z i), oR b_91, oN, oR b106, oU] [(.ref b109)]) _
        refine XS.dup X109.here hx rfl (hb hby at_70) rfl rfl ?_
        show oP p e below T109 (mkF m 71 #[oI p0, oI p1, oI p2, oI p3, oI p4, oI p5, oI i, oR (fn1 Z i), oR b_91, oN, oR b106, oU] [(.ref b109), (.ref b109)]) _
        refine XS.aload X109.here hx rfl (hb hby at_71) rfl rfl ?_
        show oP p e below T109 (mkF m 73 #[oI p0, oI p1, oI p2, oI p3, oI p4, oI p5, oI i, oR (fn1 Z i), oR b_91, oN, oR b106, oU] [(.ref b106), (.ref b109), (.ref b109)]) _
        refine st110.trans ?_
        show oP p e below T110 (mkF m 76 #[oI p0, oI p1, oI p2, oI p3, oI p4, oI p5, oI i, oR (fn1 Z i), oR b_91, oN, oR b106, oU] [(.ref b109)]) _
        refine XS.astore X110.here hx rfl (hb hby at_76) rfl rfl (l' := #[oI p0, oI p1, oI p2, oI p3, oI p4, oI p5, oI i, oR (fn1 Z i), oR b_91, oR b109, oR b106, oU]) rfl ?_
        show oP p e below T110 (mkF m 78 #[oI p0, oI p1, oI p2, oI p3, oI p4, oI p5, oI i, oR (fn1 Z i), oR b_91, oR b109, oR b106, oU] []) _
        refine st113 _ ?_
        show oP p e below T113 (mkF m 81 #[oI p0, oI p1, oI p2, oI p3, oI p4, oI p5, oI i, oR (fn1 Z i), oR b_91, oR b109, oR b106, oU] [(.ref b113)]) _
        refine XS.dup X113.here hx rfl (hb hby at_81) rfl rfl ?_
        show oP p e below T113 (mkF m 82 #[oI p0, oI p1, oI p2, oI p3, oI p4, oI p5, oI i, oR (fn1 Z i), oR b_91, oR b109, oR b106, oU] [(.ref b113), (.ref b113)]) _
        refine XS.aload X113.here hx rfl (hb hby at_82) rfl rfl ?_
        show oP p e below T113 (mkF m 84 #[oI p0, oI p1, oI p2, oI p3, oI p4, oI p5, oI i, oR (fn1 Z i), oR b_91, oR b109, oR b106, oU] [(.ref (fn1 Z i)), (.ref b113), (.ref b113)]) _
        refine XS.iloadN X113.here hx rfl (hb hby at_84) rfl ?_
        show oP p e below T113 (mkF m 85 #[oI p0, oI p1, oI p2, oI p3, oI p4, oI p5, oI i, oR (fn1 Z i), oR b_91, oR b109, oR b106, oU] [(.int p1), (.ref (fn1 Z i)), (.ref b113), (.ref b113)]) _
        refine XS.aload X113.here hx rfl (hb hby at_85) rfl rfl ?_
        show oP p e below T113 (mkF m 87 #[oI p0, oI p1, oI p2, oI p3, oI p4, oI p5, oI i, oR (fn1 Z i), oR b_91, oR b109, oR b106, oU] [(.ref b_91), (.int p1), (.ref (fn1 Z i)), (.ref b113), (.ref b113)]) _
        refine XS.aload X113.here hx rfl (hb hby at_87) rfl rfl ?_
        show oP p e below T113 (mkF m 89 #[oI p0, oI p1, oI p2, oI p3, oI p4, oI p5, oI i, oR (fn1 Z i), oR b_91, oR b109, oR b106, oU] [(.ref b109), (.ref b_91), (.int p1), (.ref (fn1 Z i)), (.ref b113), (.ref b113)]) _
        refine st115.trans ?_
        show oP p e below T115 (mkF m 92 #[oI p0, oI p1, oI p2, oI p3, oI p4, oI p5, oI i, oR (fn1 Z i), oR b_91, oR b109, oR b106, oU] [(.ref b113)]) _
        refine XS.astore X115.here hx rfl (hb hby at_92) rfl rfl (l' := #[oI p0, oI p1, oI p2, oI p3, oI p4, oI p5, oI i, oR (fn1 Z i), oR b_91, oR b109, oR b113, oU]) rfl ?_
        show oP p e below T115 (mkF m 94 #[oI p0, oI p1, oI p2, oI p3, oI p4, oI p5, oI i, oR (fn1 Z i), oR b_91, oR b109, oR b113, oU] []) _
        refine XS.iload X115.here hx rfl (hb hby at_94) rfl ?_
        exact k)
      by_cases hc117 : i = (0 : Int32)
      · obtain ⟨cq118, kq118, q118a, q118b, q118c⟩ := isOf hZ rfl po115_0
        obtain ⟨_, _, ⟨T118, L118, k118, n118⟩, -, X118, ⟨Lc118, hQ118, l118, y118, z118⟩, st118⟩ := X115.virtualBack hx (y := (⟨"com/example/resumatic/resumatic/core/ResumeDecision", "isEligible", "()Z"⟩ : MethodName)) (z := (⟨"com/example/resumatic/resumatic/core/ResumeDecision", "isEligible", "()Z"⟩ : MethodName)) hown (mvT hZ (hw _ (List.mem_of_getElem? (i := 32) rfl))) (mvT hZ (hw _ (List.mem_of_getElem? (i := 33) rfl))) (notFace_of_selects (args := #[]) (mvT hZ (hw _ (List.mem_of_getElem? (i := 35) rfl)))) (mvT hZ (hw _ (List.mem_of_getElem? (i := 35) rfl))) (mvT hZ (hw _ (List.mem_of_getElem? (i := 34) rfl))) (by decide) (backOf (W := 0) (rm5 l Z a0 hw hS [] b113 (fn1 Z i) T115.heap n0 O115 po115_1) hZ (hw _ (List.mem_of_getElem? (i := 36) rfl)) (hw _ (List.mem_of_getElem? (i := 17) rfl)) (by decide) (by decide)) q118a q118c (g := (mkF m 108 #[oI p0, oI p1, oI p2, oI p3, oI p4, oI p5, oI i, oR (fn1 Z i), oR b_91, oR b109, oR b113, oI (1 : Int32)] [(.ref b113)])) rfl (by rw [hml]; rfl) (Steps.refl _) (argsL := []) (rest := []) (lenOf pd_4 rfl) rfl (by show 2 * 0 + _ ≤ _; exact Nat.le_of_eq rfl) (hb hby at_108) (fun _ _ => ⟨rfl, rfl, (by decide : 5 + 0 ≤ _), (by decide : 13 + 0 ≤ _)⟩)
        dsimp only [Pt.U, Pt.locs, Pt.cells, Pt.slots] at X118 l118 y118 z118 st118 hQ118
        subst l118 y118 z118
        obtain ⟨v118, N118q, K118q⟩ := hQ118
        subst v118
        have N118 := Fr.app N115 N118q
        have O118 := O115.keep K118q all0
        have Kc118 := Kc115.trans K118q all0
        have pre119 : ∀ t, oP p e below T118 (mkF m 113 #[oI p0, oI p1, oI p2, oI p3, oI p4, oI p5, oI i, oR (fn1 Z i), oR b_91, oR b109, oR b113, oI (1 : Int32)] [(.int (1 : Int32)), (.int (fn5 Z b113 (fn1 Z i)))]) t → oP p e below s₁ (entryFrame m #[(.int p0), (.int p1), (.int p2), (.int p3), (.int p4), (.int p5)] maxLocals) t := fun t k => pre116 t (by
          show oP p e below T115 (mkF m 96 #[oI p0, oI p1, oI p2, oI p3, oI p4, oI p5, oI i, oR (fn1 Z i), oR b_91, oR b109, oR b113, oU] [(.int i)]) _
          refine XS.ifNo X115.here hx rfl (hb hby at_96) rfl ((if0 _ _).trans (teq hc117).2) ?_
          show oP p e below T115 (mkF m 99 #[oI p0, oI p1, oI p2, oI p3, oI p4, oI p5, oI i, oR (fn1 Z i), oR b_91, oR b109, oR b113, oU] []) _
          refine XS.iconst X115.here hx rfl (hb hby at_99) ?_
          show oP p e below T115 (mkF m 100 #[oI p0, oI p1, oI p2, oI p3, oI p4, oI p5, oI i, oR (fn1 Z i), oR b_91, oR b109, oR b113, oU] [(.int (1 : Int32))]) _
          refine XS.goto X115.here hx rfl (pc0 := 100) (pc' := 104) rfl (hb hby at_100) (by decide) (by decide) ?_
          show oP p e below T115 (mkF m 104 #[oI p0, oI p1, oI p2, oI p3, oI p4, oI p5, oI i, oR (fn1 Z i), oR b_91, oR b109, oR b113, oU] [(.int (1 : Int32))]) _
          refine XS.istore X115.here hx rfl (hb hby at_104) rfl (l' := #[oI p0, oI p1, oI p2, oI p3, oI p4, oI p5, oI i, oR (fn1 Z i), oR b_91, oR b109, oR b113, oI (1 : Int32)]) rfl ?_
          show oP p e below T115 (mkF m 106 #[oI p0, oI p1, oI p2, oI p3, oI p4, oI p5, oI i, oR (fn1 Z i), oR b_91, oR b109, oR b113, oI (1 : Int32)] []) _
          refine XS.aload X115.here hx rfl (hb hby at_106) rfl rfl ?_
          show oP p e below T115 (mkF m 108 #[oI p0, oI p1, oI p2, oI p3, oI p4, oI p5, oI i, oR (fn1 Z i), oR b_91, oR b109, oR b113, oI (1 : Int32)] [(.ref b113)]) _
          refine st118.trans ?_
          show oP p e below T118 (mkF m 111 #[oI p0, oI p1, oI p2, oI p3, oI p4, oI p5, oI i, oR (fn1 Z i), oR b_91, oR b109, oR b113, oI (1 : Int32)] [(.int (fn5 Z b113 (fn1 Z i)))]) _
          refine XS.iload X118.here hx rfl (hb hby at_111) rfl ?_
          exact k)
        by_cases hc120 : (fn5 Z b113 (fn1 Z i)) = (1 : Int32)
        · obtain ⟨fs, hr, hrun, hended, hW, hsame⟩ := X118.leave (v := some (.int (1 : Int32))) (fun h => by rw [Bd.returns] at h; cases h)
          refine ⟨_, _, pre119 _ ?_, hrun, hended, _, _, rfl, ?_, ⟨_, rfl⟩, hW, hsame.mono (by decide) (by decide)⟩
          · show oP p e below T118 (mkF m 113 #[oI p0, oI p1, oI p2, oI p3, oI p4, oI p5, oI i, oR (fn1 Z i), oR b_91, oR b109, oR b113, oI (1 : Int32)] [(.int (1 : Int32)), (.int (fn5 Z b113 (fn1 Z i)))]) _
            refine XS.icmpNo X118.here hx rfl (hb hby at_113) rfl (teq hc120).2 ?_
            show oP p e below T118 (mkF m 116 #[oI p0, oI p1, oI p2, oI p3, oI p4, oI p5, oI i, oR (fn1 Z i), oR b_91, oR b109, oR b113, oI (1 : Int32)] []) _
            refine XS.iconst X118.here hx rfl (hb hby at_116) ?_
            show oP p e below T118 (mkF m 117 #[oI p0, oI p1, oI p2, oI p3, oI p4, oI p5, oI i, oR (fn1 Z i), oR b_91, oR b109, oR b113, oI (1 : Int32)] [(.int (1 : Int32))]) _
            refine XS.goto X118.here hx rfl (pc0 := 117) (pc' := 121) rfl (hb hby at_117) (by decide) (by decide) ?_
            show oP p e below T118 (mkF m 121 #[oI p0, oI p1, oI p2, oI p3, oI p4, oI p5, oI i, oR (fn1 Z i), oR b_91, oR b109, oR b113, oI (1 : Int32)] [(.int (1 : Int32))]) _
            exact retN X118 hx (t := .boolean) Bd.returns (by simp) (hb hby at_121) hr
          · show (some (.int (1 : Int32)) : Option Value) = some (.int (1 : Int32)) ∧ Fr n0 _ ∧ Keep h0 T118.heap []
            exact ⟨rfl, N118, Kc118⟩
        · exfalso
          exact ab121 hS p3 p4 p5 i c0 c1 ri hc56 hc93 ec0 ec1 hc117 hc120
      · obtain ⟨cq122, kq122, q122a, q122b, q122c⟩ := isOf hZ rfl po115_0
        obtain ⟨_, _, ⟨T122, L122, k122, n122⟩, -, X122, ⟨Lc122, hQ122, l122, y122, z122⟩, st122⟩ := X115.virtualBack hx (y := (⟨"com/example/resumatic/resumatic/core/ResumeDecision", "isEligible", "()Z"⟩ : MethodName)) (z := (⟨"com/example/resumatic/resumatic/core/ResumeDecision", "isEligible", "()Z"⟩ : MethodName)) hown (mvT hZ (hw _ (List.mem_of_getElem? (i := 32) rfl))) (mvT hZ (hw _ (List.mem_of_getElem? (i := 33) rfl))) (notFace_of_selects (args := #[]) (mvT hZ (hw _ (List.mem_of_getElem? (i := 35) rfl)))) (mvT hZ (hw _ (List.mem_of_getElem? (i := 35) rfl))) (mvT hZ (hw _ (List.mem_of_getElem? (i := 34) rfl))) (by decide) (backOf (W := 0) (rm5 l Z a0 hw hS [] b113 (fn1 Z i) T115.heap n0 O115 po115_1) hZ (hw _ (List.mem_of_getElem? (i := 36) rfl)) (hw _ (List.mem_of_getElem? (i := 17) rfl)) (by decide) (by decide)) q122a q122c (g := (mkF m 108 #[oI p0, oI p1, oI p2, oI p3, oI p4, oI p5, oI i, oR (fn1 Z i), oR b_91, oR b109, oR b113, oI (0 : Int32)] [(.ref b113)])) rfl (by rw [hml]; rfl) (Steps.refl _) (argsL := []) (rest := []) (lenOf pd_4 rfl) rfl (by show 2 * 0 + _ ≤ _; exact Nat.le_of_eq rfl) (hb hby at_108) (fun _ _ => ⟨rfl, rfl, (by decide : 5 + 0 ≤ _), (by decide : 13 + 0 ≤ _)⟩)
        dsimp only [Pt.U, Pt.locs, Pt.cells, Pt.slots] at X122 l122 y122 z122 st122 hQ122
        subst l122 y122 z122
        obtain ⟨v122, N122q, K122q⟩ := hQ122
        subst v122
        have N122 := Fr.app N115 N122q
        have O122 := O115.keep K122q all0
        have Kc122 := Kc115.trans K122q all0
        have pre123 : ∀ t, oP p e below T122 (mkF m 113 #[oI p0, oI p1, oI p2, oI p3, oI p4, oI p5, oI i, oR (fn1 Z i), oR b_91, oR b109, oR b113, oI (0 : Int32)] [(.int (0 : Int32)), (.int (fn5 Z b113 (fn1 Z i)))]) t → oP p e below s₁ (entryFrame m #[(.int p0), (.int p1), (.int p2), (.int p3), (.int p4), (.int p5)] maxLocals) t := fun t k => pre116 t (by
          show oP p e below T115 (mkF m 96 #[oI p0, oI p1, oI p2, oI p3, oI p4, oI p5, oI i, oR (fn1 Z i), oR b_91, oR b109, oR b113, oU] [(.int i)]) _
          refine XS.ifYes X115.here hx rfl (pc0 := 96) (pc' := 103) rfl (hb hby at_96) rfl ((if0 _ _).trans (feq hc117).2) (by decide) (by decide) ?_
          show oP p e below T115 (mkF m 103 #[oI p0, oI p1, oI p2, oI p3, oI p4, oI p5, oI i, oR (fn1 Z i), oR b_91, oR b109, oR b113, oU] []) _
          refine XS.iconst X115.here hx rfl (hb hby at_103) ?_
          show oP p e below T115 (mkF m 104 #[oI p0, oI p1, oI p2, oI p3, oI p4, oI p5, oI i, oR (fn1 Z i), oR b_91, oR b109, oR b113, oU] [(.int (0 : Int32))]) _
          refine XS.istore X115.here hx rfl (hb hby at_104) rfl (l' := #[oI p0, oI p1, oI p2, oI p3, oI p4, oI p5, oI i, oR (fn1 Z i), oR b_91, oR b109, oR b113, oI (0 : Int32)]) rfl ?_
          show oP p e below T115 (mkF m 106 #[oI p0, oI p1, oI p2, oI p3, oI p4, oI p5, oI i, oR (fn1 Z i), oR b_91, oR b109, oR b113, oI (0 : Int32)] []) _
          refine XS.aload X115.here hx rfl (hb hby at_106) rfl rfl ?_
          show oP p e below T115 (mkF m 108 #[oI p0, oI p1, oI p2, oI p3, oI p4, oI p5, oI i, oR (fn1 Z i), oR b_91, oR b109, oR b113, oI (0 : Int32)] [(.ref b113)]) _
          refine st122.trans ?_
          show oP p e below T122 (mkF m 111 #[oI p0, oI p1, oI p2, oI p3, oI p4, oI p5, oI i, oR (fn1 Z i), oR b_91, oR b109, oR b113, oI (0 : Int32)] [(.int (fn5 Z b113 (fn1 Z i)))]) _
          refine XS.iload X122.here hx rfl (hb hby at_111) rfl ?_
          exact k)
        by_cases hc124 : (fn5 Z b113 (fn1 Z i)) = (0 : Int32)
        · obtain ⟨fs, hr, hrun, hended, hW, hsame⟩ := X122.leave (v := some (.int (1 : Int32))) (fun h => by rw [Bd.returns] at h; cases h)
          refine ⟨_, _, pre123 _ ?_, hrun, hended, _, _, rfl, ?_, ⟨_, rfl⟩, hW, hsame.mono (by decide) (by decide)⟩
          · show oP p e below T122 (mkF m 113 #[oI p0, oI p1, oI p2, oI p3, oI p4, oI p5, oI i, oR (fn1 Z i), oR b_91, oR b109, oR b113, oI (0 : Int32)] [(.int (0 : Int32)), (.int (fn5 Z b113 (fn1 Z i)))]) _
            refine XS.icmpNo X122.here hx rfl (hb hby at_113) rfl (teq hc124).2 ?_
            show oP p e below T122 (mkF m 116 #[oI p0, oI p1, oI p2, oI p3, oI p4, oI p5, oI i, oR (fn1 Z i), oR b_91, oR b109, oR b113, oI (0 : Int32)] []) _
            refine XS.iconst X122.here hx rfl (hb hby at_116) ?_
            show oP p e below T122 (mkF m 117 #[oI p0, oI p1, oI p2, oI p3, oI p4, oI p5, oI i, oR (fn1 Z i), oR b_91, oR b109, oR b113, oI (0 : Int32)] [(.int (1 : Int32))]) _
            refine XS.goto X122.here hx rfl (pc0 := 117) (pc' := 121) rfl (hb hby at_117) (by decide) (by decide) ?_
            show oP p e below T122 (mkF m 121 #[oI p0, oI p1, oI p2, oI p3, oI p4, oI p5, oI i, oR (fn1 Z i), oR b_91, oR b109, oR b113, oI (0 : Int32)] [(.int (1 : Int32))]) _
            exact retN X122 hx (t := .boolean) Bd.returns (by simp) (hb hby at_121) hr
          · show (some (.int (1 : Int32)) : Option Value) = some (.int (1 : Int32)) ∧ Fr n0 _ ∧ Keep h0 T122.heap []
            exact ⟨rfl, N122, Kc122⟩
        · exfalso
          exact ab125 hS p3 p4 p5 i c0 c1 ri hc56 hc93 ec0 ec1 hc117 hc124
set_option maxRecDepth 65536 in
set_option maxHeartbeats 40000000 in
theorem comes_1 {Post : Tables → Env → Array Value → State → Outcome → State → Prop} (hpost : ∀ tb e args s v u, (limb_1_1.after args s (.returned v) u = true ∧ limb_1_2.after args s (.returned v) u = true ∧ True) → FrameEnd s (.returned v) u (Jvm.fieldLocs frame_1_writes args s ++ Jvm.arrayLocs frame_1_arrays args s ++ Jvm.staticLocs frame_1_statics s) 24 128 → Post tb e args s (.returned v) u) :
    ArmFor flags0 classFile x code maxLocals ret World_1 tables_1 room_1 Calls_1 rest_1 Pre_1 Post := by
  intro l hfl _ _ p e ha hc hk s m args below hf hA hF happ hP
  obtain ⟨hcalls, hrest, hpre⟩ := hP
  obtain ⟨-, -, -, hnamed, -, -, -, hat⟩ := (Spec.applies_iff hf).mp happ
  obtain ⟨hg, hn⟩ := and_e (Cond.before_iff.mp (show (Jvm.Cond.and given_1 narrow_1).before args s = true from hpre))
  obtain ⟨g1, g2⟩ := and_e hg
  obtain ⟨g3, g4⟩ := and_e g2
  obtain ⟨g5, g6⟩ := and_e g4
  obtain ⟨g7, g8⟩ := and_e g6
  obtain ⟨g9, g10⟩ := and_e g8
  obtain ⟨g11, g12⟩ := and_e g10
  obtain ⟨w0, w1, w2, w3, w4, w5, rfl⟩ : ∃ w0 w1 w2 w3 w4 w5 : Value, args = #[w0, w1, w2, w3, w4, w5] := by
    have hs : args.size = 6 := by simpa [Cond.value, given_1] using g1
    obtain ⟨L⟩ := args
    match L, hs with
    | [w0, w1, w2, w3, w4, w5], _ => exact ⟨w0, w1, w2, w3, w4, w5, rfl⟩
  have hw := fun d (hd : d ∈ tables_1) => atoms_spec (ws := Jvm.Cond.code x code maxLocals ret :: tables_1) hat d (List.mem_cons_of_mem _ hd)
  have hfit : Fit s := fun {y c} hc i hi => by
    obtain ⟨ha, rfl⟩ := Array.getElem?_eq_some_iff.mp hc
    have q := List.all_eq_true.mp ((Array.all_eq_true_iff_forall_mem.mp hF) _ (Array.getElem_mem ha)) i (List.mem_range.mpr hi)
    simpa [Array.getElem?_eq_getElem hi] using q
  obtain ⟨i0, ei0⟩ := is_v g3
  obtain rfl : w0 = (.int i0) := Option.some.inj ei0
  obtain ⟨i1, ei1⟩ := is_v g5
  obtain rfl : w1 = (.int i1) := Option.some.inj ei1
  obtain ⟨i2, ei2⟩ := is_v g7
  obtain rfl : w2 = (.int i2) := Option.some.inj ei2
  obtain ⟨i3, ei3⟩ := is_v g9
  obtain rfl : w3 = (.int i3) := Option.some.inj ei3
  obtain ⟨i4, ei4⟩ := is_v g11
  obtain rfl : w4 = (.int i4) := Option.some.inj ei4
  obtain ⟨i5, ei5⟩ := is_v g12
  obtain rfl : w5 = (.int i5) := Option.some.inj ei5
  obtain ⟨q0, hn0⟩ := and_e hn
  obtain ⟨q1, hn1⟩ := and_e hn0
  obtain ⟨q2, hn2⟩ := and_e hn1
  obtain ⟨q3, hn3⟩ := and_e hn2
  obtain ⟨q4, hn4⟩ := and_e hn3
  obtain ⟨q5, hn5⟩ := and_e hn4
  obtain ⟨q6, hn6⟩ := and_e hn5
  obtain ⟨q7, hn7⟩ := and_e hn6
  obtain ⟨q8, hn8⟩ := and_e hn7
  obtain ⟨q9, hn9⟩ := and_e hn8
  obtain ⟨q10, hn10⟩ := and_e hn9
  obtain ⟨q11, hn11⟩ := and_e hn10
  obtain ⟨q12, hn12⟩ := and_e hn11
  have q13 := hn12
  obtain ⟨hsets, hown0⟩ := atoms_of _ (rest_1_c_eq ▸ (show rest_1_c.before _ s = true from hrest))
  have j0 := Cond.before_iff.mp (hsets _ (List.mem_of_getElem? (i := 0) rfl))
  have j1 := Cond.before_iff.mp (hsets _ (List.mem_of_getElem? (i := 1) rfl))
  have j2 := Cond.before_iff.mp (hsets _ (List.mem_of_getElem? (i := 2) rfl))
  have j3 := Cond.before_iff.mp (hsets _ (List.mem_of_getElem? (i := 3) rfl))
  have j4 := Cond.before_iff.mp (hsets _ (List.mem_of_getElem? (i := 4) rfl))
  have j5 := Cond.before_iff.mp (hsets _ (List.mem_of_getElem? (i := 5) rfl))
  have j6 := Cond.before_iff.mp (hsets _ (List.mem_of_getElem? (i := 6) rfl))
  have j7 := Cond.before_iff.mp (hsets _ (List.mem_of_getElem? (i := 7) rfl))
  have j8 := Cond.before_iff.mp (hsets _ (List.mem_of_getElem? (i := 8) rfl))
  have j9 := Cond.before_iff.mp (hsets _ (List.mem_of_getElem? (i := 9) rfl))
  have j10 := Cond.before_iff.mp (hsets _ (List.mem_of_getElem? (i := 10) rfl))
  have j11 := Cond.before_iff.mp (hsets _ (List.mem_of_getElem? (i := 11) rfl))
  have j12 := Cond.before_iff.mp (hsets _ (List.mem_of_getElem? (i := 12) rfl))
  have j13 := Cond.before_iff.mp (hsets _ (List.mem_of_getElem? (i := 13) rfl))
  have j14 := Cond.before_iff.mp (hsets _ (List.mem_of_getElem? (i := 14) rfl))
  have j15 := Cond.before_iff.mp (hsets _ (List.mem_of_getElem? (i := 15) rfl))
  have j16 := Cond.before_iff.mp (hsets _ (List.mem_of_getElem? (i := 16) rfl))
  have hS : St s := ⟨(own_sta q0 (Or.inr ⟨(hw _ (List.mem_of_getElem? (i := 6) rfl)), (hw _ (List.mem_of_getElem? (i := 7) rfl))⟩)), (own_exa q0), (own_sta q1 (Or.inr ⟨(hw _ (List.mem_of_getElem? (i := 6) rfl)), (hw _ (List.mem_of_getElem? (i := 39) rfl))⟩)), (own_exa q1), (own_fldI q2), (own_fldI q3), (own_sta q4 (Or.inr ⟨(hw _ (List.mem_of_getElem? (i := 6) rfl)), (hw _ (List.mem_of_getElem? (i := 69) rfl))⟩)), (own_exa q4), (own_fldI q5), (own_sta q6 (Or.inr ⟨(hw _ (List.mem_of_getElem? (i := 6) rfl)), (hw _ (List.mem_of_getElem? (i := 71) rfl))⟩)), (own_exa q6), (own_fldI q7), (own_sta q8 (Or.inr ⟨(hw _ (List.mem_of_getElem? (i := 6) rfl)), (hw _ (List.mem_of_getElem? (i := 88) rfl))⟩)), (own_exa q8), (own_fldI q9), (own_sta q10 (Or.inr ⟨(hw _ (List.mem_of_getElem? (i := 6) rfl)), (hw _ (List.mem_of_getElem? (i := 90) rfl))⟩)), (own_exa q10), (own_fldI q11), (own_sta q12 (Or.inr ⟨(hw _ (List.mem_of_getElem? (i := 6) rfl)), (hw _ (List.mem_of_getElem? (i := 92) rfl))⟩)), (own_exa q12), (own_fldI q13), (own_staI j3 (Or.inr ⟨(hw _ (List.mem_of_getElem? (i := 13) rfl)), (hsets _ (List.mem_of_getElem? (i := 0) rfl))⟩)), (own_sta j5 (Or.inr ⟨(hw _ (List.mem_of_getElem? (i := 13) rfl)), (hsets _ (List.mem_of_getElem? (i := 2) rfl))⟩)), (own_exa j5), (own_sti j9 (Or.inl (hsets _ (List.mem_of_getElem? (i := 8) rfl)))), (own_stn j9 j10), (own_cache j4 j6 j7 rfl)⟩
  obtain ⟨n, o, h1, h2, h3, _, L, rfl, ⟨rfl, N, -⟩, hq⟩ := rm0 l s _ hw hS tables_1 i0 i1 i2 i3 i4 i5 s.heap s.heap.size (Old.start s) p e ha hc hk s m _ below hf ((Spec.applies_iff_loose hf).mp happ).1 ⟨rfl, State.Warmed39.refl s, rfl⟩ trivial
  refine ⟨n, _, h1, h2, h3, hpost _ _ _ _ _ _ ⟨Cond.after_iff.mpr rfl, Cond.after_iff.mpr (eq_i res_at (Term.int_eval (1)) rfl), trivial⟩ ⟨hq.1, hq.2.1, (hq.2.2.sift fun y hy => Or.inr (N y hy)).mono (by decide) (by decide)⟩⟩
theorem main_1_1 : Claimed_1_1 := comes_1 fun _ _ _ _ _ _ h hF => ⟨h.1, hF⟩
theorem main_1_2 : Claimed_1_2 := comes_1 fun _ _ _ _ _ _ h hF => ⟨h.2.1, hF⟩
end Jvm.Pilot.@@N@@
namespace Jvm.Pilot.@@N@@
open Jvm Jvm.ClassFile Sem Op Lib Jvm.Free Jvm.Stand Jvm.Pilot.@@N@@.Jvm.D
/-! MADE BY PROGRAM (witnessworld.py) out of the Statement's table words and the real class files: 26 classes; the members and pool entries that the words name. The judged class is class 1, her method 1. -/
namespace start1
open Jvm.ClassFile
def u (s : String) : CpInfo := .utf8 (stringToUtf16 s)
/-- a pool by its gaps: so many unusable entries, then the entry; so many at the end -/
def gap : Nat → List CpInfo → List CpInfo
  | 0, r => r
  | n + 1, r => .unusable :: gap n r
def poolList (es : List (Nat × CpInfo)) (last : Nat) : List CpInfo := es.foldr (fun e r => gap e.1 (e.2 :: r)) (gap last [])
def pool (es : List (Nat × CpInfo)) (last : Nat) : Array CpInfo := ⟨poolList es last⟩
def fileOf (pool : Array CpInfo) (this : Nat) (attrs : Array Attribute := #[]) (ms : Array MethodInfo := #[]) (fl : Nat := 33) (sup : Nat := 0) (ifs : Array Nat := #[]) (fds : Array FieldInfo := #[]) : ClassFile where
  minorVersion := 0
  majorVersion := 65
  constantPool := pool
  accessFlags := fl
  thisClass := this
  superClass := sup
  interfaces := ifs
  fields := fds
  methods := ms
  attributes := attrs
def plain (name : String) (sup : Option ClassId) : Class where
  name := name
  kind := .ordinary
  loader := none
  accessFlags := 33
  super := sup
  interfaces := #[]
  cf := none
  fields := #[]
  methods := #[]
  instanceTypes := #[]
  staticTypes := #[]
  resolved := #[]
  callSites := []
  init := .initialized
  statics := none
  mirror := none

def pool0 : Array CpInfo := pool [(5, u "<init>"), (0, u "()V"), (1, .class_ 10), (1, u "java/lang/Object")] 113

def k0c0 : Code := { maxStack := 0, maxLocals := 1, code := object_method_1_code, exceptionTable := #[], attributes := #[] }
def k0m0 : Method := { name := "<init>", desc := "()V", sig := { parameters := [], returnType := none }, accessFlags := 1, code := some k0c0 }
/-- java/lang/Object -/
def k0 : Class := { plain "java/lang/Object" none with
  accessFlags := 33
  interfaces := #[]
  cf := some (fileOf pool0 8 #[] #[{ accessFlags := 1, nameIndex := 5, descriptorIndex := 6, attributes := #[] }] 33 0 #[] #[])
  fields := #[]
  methods := #[k0m0]
  instanceTypes := #[]
  staticTypes := #[]
  resolved := Array.replicate 124 none
  statics := none }

def pool1 : Array CpInfo := pool [(2, .class_ 4), (1, u "java/lang/Object"), (0, u "<init>"), (0, u "()V"), (0, .integer 2147483647), (0, .methodref 9 10), (0, .class_ 11), (0, .nameAndType 12 13), (0, u "com/example/resumatic/resumatic/core/ResumeDecisionIsEligiblePinLaw"), (0, u "pick"), (0, u "(I)Lcom/example/resumatic/resumatic/core/ReasonCode;"), (0, .methodref 15 16), (0, .class_ 17), (0, .nameAndType 18 19), (0, u "java/lang/Integer"), (0, u "valueOf"), (0, u "(I)Ljava/lang/Integer;"), (0, .class_ 21), (0, u "java/lang/String"), (0, .methodref 20 23), (0, .nameAndType 5 24), (0, u "([C)V"), (0, .class_ 26), (0, u "com/example/resumatic/resumatic/core/ResumeDecision"), (0, .methodref 25 28), (0, .nameAndType 5 29), (0, u "(Lcom/example/resumatic/resumatic/core/ReasonCode;ILjava/lang/Integer;Ljava/lang/String;)V"), (0, .methodref 25 31), (0, .nameAndType 32 33), (0, u "isEligible"), (0, u "()Z"), (0, .fieldref 35 36), (0, .class_ 37), (0, .nameAndType 38 39), (0, u "com/example/resumatic/resumatic/core/ReasonCode"), (0, u "RESUME_ALLOWED"), (0, u "Lcom/example/resumatic/resumatic/core/ReasonCode;"), (0, .fieldref 35 41), (0, .nameAndType 42 39), (0, u "RESUME_MISSING_CHECKPOINT"), (0, .fieldref 35 44), (0, .nameAndType 45 39), (0, u "RESUME_UNKNOWN_INTERRUPTION_CLASS"), (0, .fieldref 35 47), (0, .nameAndType 48 39), (0, u "RESUME_NON_IDEMPOTENT_STEP"), (0, .fieldref 35 50), (0, .nameAndType 51 39), (0, u "RESUME_MISSING_RUNTIME_ARTIFACTS"), (0, .fieldref 35 53), (0, .nameAndType 54 39), (0, u "RESUME_BLOCKED_COOLDOWN"), (0, .fieldref 35 56), (0, .nameAndType 57 39), (0, u "RESUME_ATTEMPT_LIMIT_REACHED"), (2, u "law"), (0, u "(IIIIII)Z")] 3

def k1m0 : Method := { name := "<init>", desc := "()V", sig := { parameters := [], returnType := none }, accessFlags := 1, code := none }
def k1c1 : Code := { maxStack := 6, maxLocals := 12, code := code, exceptionTable := #[], attributes := #[] }
def k1m1 : Method := { name := "law", desc := "(IIIIII)Z", sig := { parameters := [.int, .int, .int, .int, .int, .int], returnType := some .boolean }, accessFlags := 9, code := some k1c1 }
def k1c2 : Code := { maxStack := 2, maxLocals := 1, code := method_3_code, exceptionTable := #[], attributes := #[] }
def k1m2 : Method := { name := "pick", desc := "(I)Lcom/example/resumatic/resumatic/core/ReasonCode;", sig := { parameters := [.int], returnType := some (.object "com/example/resumatic/resumatic/core/ReasonCode") }, accessFlags := 10, code := some k1c2 }
/-- com/example/resumatic/resumatic/core/ResumeDecisionIsEligiblePinLaw -/
def k1 : Class := { plain "com/example/resumatic/resumatic/core/ResumeDecisionIsEligiblePinLaw" (some 0) with
  accessFlags := 49
  interfaces := #[]
  cf := some (fileOf pool1 9 #[] #[{ accessFlags := 1, nameIndex := 5, descriptorIndex := 6, attributes := #[] }, { accessFlags := 9, nameIndex := 60, descriptorIndex := 61, attributes := #[] }, { accessFlags := 10, nameIndex := 12, descriptorIndex := 13, attributes := #[] }] 49 2 #[] #[])
  fields := #[]
  methods := #[k1m0, k1m1, k1m2]
  instanceTypes := #[]
  staticTypes := #[]
  resolved := Array.replicate 65 none
  statics := none }

def pool2 : Array CpInfo := pool [(1, .class_ 2), (0, u "java/lang/constant/Constable"), (0, .class_ 4), (0, u "java/lang/Object")] 6

/-- java/lang/constant/Constable -/
def k2 : Class := { plain "java/lang/constant/Constable" (some 0) with
  accessFlags := 1537
  interfaces := #[]
  cf := some (fileOf pool2 1 #[] #[] 1537 3 #[] #[])
  fields := #[]
  methods := #[]
  instanceTypes := #[]
  staticTypes := #[]
  resolved := Array.replicate 11 none
  statics := none }

def pool3 : Array CpInfo := pool [(1, .class_ 2), (0, u "java/lang/Comparable"), (0, .class_ 4), (0, u "java/lang/Object")] 7

/-- java/lang/Comparable -/
def k3 : Class := { plain "java/lang/Comparable" (some 0) with
  accessFlags := 1537
  interfaces := #[]
  cf := some (fileOf pool3 1 #[] #[] 1537 3 #[] #[])
  fields := #[]
  methods := #[]
  instanceTypes := #[]
  staticTypes := #[]
  resolved := Array.replicate 12 none
  statics := none }

def pool4 : Array CpInfo := pool [(1, .class_ 2), (0, u "java/io/Serializable"), (0, .class_ 4), (0, u "java/lang/Object")] 2

/-- java/io/Serializable -/
def k4 : Class := { plain "java/io/Serializable" (some 0) with
  accessFlags := 1537
  interfaces := #[]
  cf := some (fileOf pool4 1 #[] #[] 1537 3 #[] #[])
  fields := #[]
  methods := #[]
  instanceTypes := #[]
  staticTypes := #[]
  resolved := Array.replicate 7 none
  statics := none }

def pool5 : Array CpInfo := pool [(2, .class_ 4), (1, u "java/lang/Enum"), (0, u "name"), (0, u "Ljava/lang/String;"), (2, u "ordinal"), (0, u "I"), (1, .class_ 14), (1, u "java/lang/Object"), (4, u "hash"), (86, .class_ 108), (1, u "java/lang/Enum$EnumDesc"), (2, .class_ 112), (0, u "java/lang/constant/Constable"), (0, .class_ 114), (0, u "java/lang/Comparable"), (0, .class_ 116), (0, u "java/io/Serializable")] 87

/-- java/lang/Enum -/
def k5 : Class := { plain "java/lang/Enum" (some 0) with
  accessFlags := 1057
  interfaces := #[2, 3, 4]
  cf := some (fileOf pool5 2 #[.nestMembers #[106]] #[] 1057 12 #[111, 113, 115] #[{ accessFlags := 18, nameIndex := 5, descriptorIndex := 6, attributes := #[] }, { accessFlags := 18, nameIndex := 9, descriptorIndex := 10, attributes := #[] }, { accessFlags := 2, nameIndex := 19, descriptorIndex := 10, attributes := #[] }])
  fields := #[{ name := "name", type := (.object "java/lang/String"), accessFlags := 18, slot := 0, constantValue := 0 }, { name := "ordinal", type := .int, accessFlags := 18, slot := 1, constantValue := 0 }, { name := "hash", type := .int, accessFlags := 2, slot := 2, constantValue := 0 }]
  methods := #[]
  instanceTypes := #[(.object "java/lang/String"), .int, .int]
  staticTypes := #[]
  resolved := Array.replicate 204 none
  statics := none }

def pool6 : Array CpInfo := pool [(1, .class_ 2), (0, u "com/example/resumatic/resumatic/core/ReasonCode"), (2, u "RESUME_ALLOWED"), (0, u "Lcom/example/resumatic/resumatic/core/ReasonCode;"), (2, u "RESUME_MISSING_CHECKPOINT"), (2, u "RESUME_UNKNOWN_INTERRUPTION_CLASS"), (2, u "RESUME_NON_IDEMPOTENT_STEP"), (2, u "RESUME_MISSING_RUNTIME_ARTIFACTS"), (2, u "RESUME_BLOCKED_COOLDOWN"), (2, u "RESUME_ATTEMPT_LIMIT_REACHED"), (2, u "$VALUES"), (0, u "[Lcom/example/resumatic/resumatic/core/ReasonCode;"), (6, .class_ 37), (1, u "java/lang/Enum")] 52

/-- com/example/resumatic/resumatic/core/ReasonCode -/
def k6 : Class := { plain "com/example/resumatic/resumatic/core/ReasonCode" (some 5) with
  accessFlags := 16433
  interfaces := #[]
  cf := some (fileOf pool6 1 #[] #[] 16433 35 #[] #[{ accessFlags := 16409, nameIndex := 5, descriptorIndex := 6, attributes := #[] }, { accessFlags := 16409, nameIndex := 9, descriptorIndex := 6, attributes := #[] }, { accessFlags := 16409, nameIndex := 12, descriptorIndex := 6, attributes := #[] }, { accessFlags := 16409, nameIndex := 15, descriptorIndex := 6, attributes := #[] }, { accessFlags := 16409, nameIndex := 18, descriptorIndex := 6, attributes := #[] }, { accessFlags := 16409, nameIndex := 21, descriptorIndex := 6, attributes := #[] }, { accessFlags := 16409, nameIndex := 24, descriptorIndex := 6, attributes := #[] }, { accessFlags := 4122, nameIndex := 27, descriptorIndex := 28, attributes := #[] }])
  fields := #[{ name := "RESUME_ALLOWED", type := (.object "com/example/resumatic/resumatic/core/ReasonCode"), accessFlags := 16409, slot := 0, constantValue := 0 }, { name := "RESUME_MISSING_CHECKPOINT", type := (.object "com/example/resumatic/resumatic/core/ReasonCode"), accessFlags := 16409, slot := 1, constantValue := 0 }, { name := "RESUME_UNKNOWN_INTERRUPTION_CLASS", type := (.object "com/example/resumatic/resumatic/core/ReasonCode"), accessFlags := 16409, slot := 2, constantValue := 0 }, { name := "RESUME_NON_IDEMPOTENT_STEP", type := (.object "com/example/resumatic/resumatic/core/ReasonCode"), accessFlags := 16409, slot := 3, constantValue := 0 }, { name := "RESUME_MISSING_RUNTIME_ARTIFACTS", type := (.object "com/example/resumatic/resumatic/core/ReasonCode"), accessFlags := 16409, slot := 4, constantValue := 0 }, { name := "RESUME_BLOCKED_COOLDOWN", type := (.object "com/example/resumatic/resumatic/core/ReasonCode"), accessFlags := 16409, slot := 5, constantValue := 0 }, { name := "RESUME_ATTEMPT_LIMIT_REACHED", type := (.object "com/example/resumatic/resumatic/core/ReasonCode"), accessFlags := 16409, slot := 6, constantValue := 0 }, { name := "$VALUES", type := (.array (.object "com/example/resumatic/resumatic/core/ReasonCode")), accessFlags := 4122, slot := 7, constantValue := 0 }]
  methods := #[]
  instanceTypes := #[(.object "java/lang/String"), .int, .int]
  staticTypes := #[(.object "com/example/resumatic/resumatic/core/ReasonCode"), (.object "com/example/resumatic/resumatic/core/ReasonCode"), (.object "com/example/resumatic/resumatic/core/ReasonCode"), (.object "com/example/resumatic/resumatic/core/ReasonCode"), (.object "com/example/resumatic/resumatic/core/ReasonCode"), (.object "com/example/resumatic/resumatic/core/ReasonCode"), (.object "com/example/resumatic/resumatic/core/ReasonCode"), (.array (.object "com/example/resumatic/resumatic/core/ReasonCode"))]
  resolved := Array.replicate 90 none
  statics := some 0 }

def pool7 : Array CpInfo := pool [(1, .methodref 2 3), (0, .class_ 4), (0, .nameAndType 5 6), (0, u "java/lang/Object"), (0, u "<init>"), (0, u "()V"), (1, .class_ 10), (1, u "java/lang/Number"), (2, .class_ 14), (0, u "java/io/Serializable"), (0, u "serialVersionUID"), (0, u "J")] 20

def k7c0 : Code := { maxStack := 1, maxLocals := 1, code := jdk_18_method_1_code, exceptionTable := #[], attributes := #[] }
def k7m0 : Method := { name := "<init>", desc := "()V", sig := { parameters := [], returnType := none }, accessFlags := 1, code := some k7c0 }
/-- java/lang/Number -/
def k7 : Class := { plain "java/lang/Number" (some 0) with
  accessFlags := 1057
  interfaces := #[4]
  cf := some (fileOf pool7 8 #[] #[{ accessFlags := 1, nameIndex := 5, descriptorIndex := 6, attributes := #[] }] 1057 2 #[13] #[{ accessFlags := 26, nameIndex := 15, descriptorIndex := 16, attributes := #[] }])
  fields := #[{ name := "serialVersionUID", type := .long, accessFlags := 26, slot := 0, constantValue := 0 }]
  methods := #[k7m0]
  instanceTypes := #[]
  staticTypes := #[.long]
  resolved := Array.replicate 37 none
  statics := none }

def pool8 : Array CpInfo := pool [(1, .class_ 2), (0, u "java/lang/constant/ConstantDesc"), (0, .class_ 4), (0, u "java/lang/Object")] 32

/-- java/lang/constant/ConstantDesc -/
def k8 : Class := { plain "java/lang/constant/ConstantDesc" (some 0) with
  accessFlags := 1537
  interfaces := #[]
  cf := some (fileOf pool8 1 #[] #[] 1537 3 #[] #[])
  fields := #[]
  methods := #[]
  instanceTypes := #[]
  staticTypes := #[]
  resolved := Array.replicate 37 none
  statics := none }

def pool9 : Array CpInfo := pool [(1, .class_ 2), (0, u "java/lang/Integer"), (16, u "digits"), (0, u "[C"), (46, u "<init>"), (17, u "DigitOnes"), (0, u "[B"), (2, u "DigitTens"), (10, .nameAndType 67 101), (0, u "()V"), (85, u "valueOf"), (0, u "(I)Ljava/lang/Integer;"), (0, .class_ 190), (0, u "java/lang/Integer$IntegerCache"), (0, .fieldref 189 192), (0, .nameAndType 193 194), (0, u "high"), (0, u "I"), (0, .fieldref 189 196), (0, .nameAndType 197 198), (0, u "cache"), (0, u "[Ljava/lang/Integer;"), (0, .methodref 1 200), (0, .nameAndType 67 201), (0, u "(I)V"), (0, .methodref 203 100), (0, .class_ 204), (0, u "java/lang/Number"), (0, .fieldref 1 206), (0, .nameAndType 207 194), (0, u "value"), (94, u "TYPE"), (0, u "Ljava/lang/Class;"), (0, .class_ 305), (0, u "java/lang/Comparable"), (0, .class_ 307), (0, u "java/lang/constant/Constable"), (0, .class_ 309), (0, u "java/lang/constant/ConstantDesc"), (0, u "MIN_VALUE"), (1, u "MAX_VALUE"), (3, u "SIZE"), (1, u "BYTES"), (1, u "serialVersionUID"), (0, u "J")] 131

def k9c0 : Code := { maxStack := 3, maxLocals := 1, code := jdk_33_method_22_code, exceptionTable := #[], attributes := #[] }
def k9m0 : Method := { name := "valueOf", desc := "(I)Ljava/lang/Integer;", sig := { parameters := [.int], returnType := some (.object "java/lang/Integer") }, accessFlags := 9, code := some k9c0 }
def k9c1 : Code := { maxStack := 2, maxLocals := 2, code := jdk_33_method_23_code, exceptionTable := #[], attributes := #[] }
def k9m1 : Method := { name := "<init>", desc := "(I)V", sig := { parameters := [.int], returnType := none }, accessFlags := 1, code := some k9c1 }
/-- java/lang/Integer -/
def k9 : Class := { plain "java/lang/Integer" (some 7) with
  accessFlags := 49
  interfaces := #[3, 2, 8]
  cf := some (fileOf pool9 1 #[.nestMembers #[189]] #[{ accessFlags := 9, nameIndex := 187, descriptorIndex := 188, attributes := #[] }, { accessFlags := 1, nameIndex := 67, descriptorIndex := 201, attributes := #[] }] 49 203 #[304, 306, 308] #[{ accessFlags := 25, nameIndex := 310, descriptorIndex := 194, attributes := #[] }, { accessFlags := 25, nameIndex := 312, descriptorIndex := 194, attributes := #[] }, { accessFlags := 25, nameIndex := 302, descriptorIndex := 303, attributes := #[] }, { accessFlags := 24, nameIndex := 19, descriptorIndex := 20, attributes := #[] }, { accessFlags := 24, nameIndex := 89, descriptorIndex := 86, attributes := #[] }, { accessFlags := 24, nameIndex := 85, descriptorIndex := 86, attributes := #[] }, { accessFlags := 18, nameIndex := 207, descriptorIndex := 194, attributes := #[] }, { accessFlags := 25, nameIndex := 316, descriptorIndex := 194, attributes := #[] }, { accessFlags := 25, nameIndex := 318, descriptorIndex := 194, attributes := #[] }, { accessFlags := 26, nameIndex := 320, descriptorIndex := 321, attributes := #[] }])
  fields := #[{ name := "MIN_VALUE", type := .int, accessFlags := 25, slot := 0, constantValue := 0 }, { name := "MAX_VALUE", type := .int, accessFlags := 25, slot := 1, constantValue := 0 }, { name := "TYPE", type := (.object "java/lang/Class"), accessFlags := 25, slot := 2, constantValue := 0 }, { name := "digits", type := (.array .char), accessFlags := 24, slot := 3, constantValue := 0 }, { name := "DigitTens", type := (.array .byte), accessFlags := 24, slot := 4, constantValue := 0 }, { name := "DigitOnes", type := (.array .byte), accessFlags := 24, slot := 5, constantValue := 0 }, { name := "value", type := .int, accessFlags := 18, slot := 0, constantValue := 0 }, { name := "SIZE", type := .int, accessFlags := 25, slot := 6, constantValue := 0 }, { name := "BYTES", type := .int, accessFlags := 25, slot := 7, constantValue := 0 }, { name := "serialVersionUID", type := .long, accessFlags := 26, slot := 8, constantValue := 0 }]
  methods := #[k9m0, k9m1]
  instanceTypes := #[.int]
  staticTypes := #[.int, .int, (.object "java/lang/Class"), (.array .char), (.array .byte), (.array .byte), .int, .int, .long]
  resolved := Array.replicate 453 none
  statics := none }

def pool10 : Array CpInfo := pool [(2, .class_ 4), (1, u "java/lang/Object"), (0, u "<init>"), (0, u "()V"), (0, .class_ 8), (0, u "java/lang/Integer"), (7, .class_ 18), (1, u "java/lang/Integer$IntegerCache"), (0, u "$assertionsDisabled"), (0, u "Z"), (26, u "high"), (0, u "I"), (8, u "archivedCache"), (0, u "[Ljava/lang/Integer;"), (12, u "cache"), (0, u "low")] 27

def k10m0 : Method := { name := "<init>", desc := "()V", sig := { parameters := [], returnType := none }, accessFlags := 2, code := none }
/-- java/lang/Integer$IntegerCache -/
def k10 : Class := { plain "java/lang/Integer$IntegerCache" (some 0) with
  accessFlags := 48
  interfaces := #[]
  cf := some (fileOf pool10 16 #[.nestHost 7] #[{ accessFlags := 2, nameIndex := 5, descriptorIndex := 6, attributes := #[] }] 48 2 #[] #[{ accessFlags := 24, nameIndex := 72, descriptorIndex := 48, attributes := #[] }, { accessFlags := 24, nameIndex := 47, descriptorIndex := 48, attributes := #[] }, { accessFlags := 24, nameIndex := 71, descriptorIndex := 58, attributes := #[] }, { accessFlags := 8, nameIndex := 57, descriptorIndex := 58, attributes := #[] }, { accessFlags := 4120, nameIndex := 19, descriptorIndex := 20, attributes := #[] }])
  fields := #[{ name := "low", type := .int, accessFlags := 24, slot := 0, constantValue := 0 }, { name := "high", type := .int, accessFlags := 24, slot := 1, constantValue := 0 }, { name := "cache", type := (.array (.object "java/lang/Integer")), accessFlags := 24, slot := 2, constantValue := 0 }, { name := "archivedCache", type := (.array (.object "java/lang/Integer")), accessFlags := 8, slot := 3, constantValue := 0 }, { name := "$assertionsDisabled", type := .boolean, accessFlags := 4120, slot := 4, constantValue := 0 }]
  methods := #[k10m0]
  instanceTypes := #[]
  staticTypes := #[.int, .int, (.array (.object "java/lang/Integer")), (.array (.object "java/lang/Integer")), .boolean]
  resolved := Array.replicate 100 none
  statics := some 1 }

def pool11 : Array CpInfo := pool [(1, .methodref 2 3), (0, .class_ 4), (0, .nameAndType 5 6), (0, u "java/lang/Object"), (0, u "<init>"), (0, u "()V"), (0, .fieldref 8 9), (0, .class_ 10), (0, .nameAndType 11 12), (0, u "com/example/resumatic/resumatic/core/ResumeDecision"), (0, u "reasonCode"), (0, u "Lcom/example/resumatic/resumatic/core/ReasonCode;"), (0, .fieldref 8 14), (0, .nameAndType 15 16), (0, u "attempt"), (0, u "I"), (0, .fieldref 8 18), (0, .nameAndType 19 20), (0, u "cooldownSeconds"), (0, u "Ljava/lang/Integer;"), (0, .fieldref 8 22), (0, .nameAndType 23 24), (0, u "rule"), (0, u "Ljava/lang/String;"), (0, .fieldref 26 27), (0, .class_ 28), (0, .nameAndType 29 12), (0, u "com/example/resumatic/resumatic/core/ReasonCode"), (0, u "RESUME_ALLOWED"), (0, u "(Lcom/example/resumatic/resumatic/core/ReasonCode;ILjava/lang/Integer;Ljava/lang/String;)V"), (4, u "isEligible"), (0, u "()Z")] 9

def k11c0 : Code := { maxStack := 2, maxLocals := 5, code := prog_16_method_1_code, exceptionTable := #[], attributes := #[] }
def k11m0 : Method := { name := "<init>", desc := "(Lcom/example/resumatic/resumatic/core/ReasonCode;ILjava/lang/Integer;Ljava/lang/String;)V", sig := { parameters := [(.object "com/example/resumatic/resumatic/core/ReasonCode"), .int, (.object "java/lang/Integer"), (.object "java/lang/String")], returnType := none }, accessFlags := 0, code := some k11c0 }
def k11c1 : Code := { maxStack := 2, maxLocals := 1, code := prog_16_method_3_code, exceptionTable := #[], attributes := #[] }
def k11m1 : Method := { name := "isEligible", desc := "()Z", sig := { parameters := [], returnType := some .boolean }, accessFlags := 1, code := some k11c1 }
/-- com/example/resumatic/resumatic/core/ResumeDecision -/
def k11 : Class := { plain "com/example/resumatic/resumatic/core/ResumeDecision" (some 0) with
  accessFlags := 49
  interfaces := #[]
  cf := some (fileOf pool11 8 #[] #[{ accessFlags := 0, nameIndex := 5, descriptorIndex := 30, attributes := #[] }, { accessFlags := 1, nameIndex := 35, descriptorIndex := 36, attributes := #[] }] 49 2 #[] #[{ accessFlags := 18, nameIndex := 11, descriptorIndex := 12, attributes := #[] }, { accessFlags := 18, nameIndex := 15, descriptorIndex := 16, attributes := #[] }, { accessFlags := 18, nameIndex := 19, descriptorIndex := 20, attributes := #[] }, { accessFlags := 18, nameIndex := 23, descriptorIndex := 24, attributes := #[] }])
  fields := #[{ name := "reasonCode", type := (.object "com/example/resumatic/resumatic/core/ReasonCode"), accessFlags := 18, slot := 0, constantValue := 0 }, { name := "attempt", type := .int, accessFlags := 18, slot := 1, constantValue := 0 }, { name := "cooldownSeconds", type := (.object "java/lang/Integer"), accessFlags := 18, slot := 2, constantValue := 0 }, { name := "rule", type := (.object "java/lang/String"), accessFlags := 18, slot := 3, constantValue := 0 }]
  methods := #[k11m0, k11m1]
  instanceTypes := #[(.object "com/example/resumatic/resumatic/core/ReasonCode"), .int, (.object "java/lang/Integer"), (.object "java/lang/String")]
  staticTypes := #[]
  resolved := Array.replicate 46 none
  statics := none }

def pool12 : Array CpInfo := pool [(2, .class_ 4), (1, u "java/lang/CharSequence"), (42, .class_ 48), (0, u "java/lang/CharSequence$1CodePointIterator"), (10, .class_ 60), (0, u "java/lang/CharSequence$1CharIterator"), (5, .class_ 67), (0, u "java/lang/Object")] 63

/-- java/lang/CharSequence -/
def k12 : Class := { plain "java/lang/CharSequence" (some 0) with
  accessFlags := 1537
  interfaces := #[]
  cf := some (fileOf pool12 2 #[.nestMembers #[47, 59]] #[] 1537 66 #[] #[])
  fields := #[]
  methods := #[]
  instanceTypes := #[]
  staticTypes := #[]
  resolved := Array.replicate 131 none
  statics := none }

def pool13 : Array CpInfo := pool [(1, .methodref 2 3), (0, .class_ 4), (0, .nameAndType 5 6), (0, u "java/lang/Object"), (0, u "<init>"), (0, u "()V"), (2, .fieldref 10 11), (0, .class_ 12), (0, .nameAndType 13 14), (0, u "java/lang/String"), (0, u "value"), (0, u "[B"), (0, .fieldref 10 16), (0, .nameAndType 17 18), (0, u "coder"), (0, u "B"), (2, u "hash"), (0, u "I"), (2, u "hashIsZero"), (0, u "Z"), (0, .methodref 10 28), (0, .nameAndType 5 29), (0, u "([CIILjava/lang/Void;)V"), (8, .fieldref 10 39), (0, .nameAndType 40 26), (0, u "COMPACT_STRINGS"), (1, .class_ 44), (1, u "java/lang/StringUTF16"), (0, u "compress"), (1, .methodref 42 48), (0, .nameAndType 49 50), (0, u "coderFromArrayLen"), (0, u "([BI)B"), (126, .methodref 42 178), (0, .nameAndType 45 179), (0, u "([CII)[B"), (395, .class_ 576), (0, u "java/lang/CharSequence"), (22, u "CASE_INSENSITIVE_ORDER"), (0, u "Ljava/util/Comparator;"), (409, u "([C)V"), (90, u "serialPersistentFields"), (0, u "[Ljava/io/ObjectStreamField;"), (0, .class_ 1104), (0, u "java/lang/String$CaseInsensitiveComparator"), (1, .class_ 1107), (0, u "java/io/Serializable"), (0, .class_ 1109), (0, u "java/lang/Comparable"), (0, .class_ 1111), (0, u "java/lang/constant/Constable"), (0, .class_ 1113), (0, u "java/lang/constant/ConstantDesc"), (2, u "serialVersionUID"), (0, u "J"), (3, u "REPL"), (0, u "C"), (2, u "LATIN1"), (1, u "UTF16")] 323

def k13m0 : Method := { name := "<init>", desc := "()V", sig := { parameters := [], returnType := none }, accessFlags := 1, code := none }
def k13c1 : Code := { maxStack := 5, maxLocals := 2, code := jdk_42_method_3_code, exceptionTable := #[], attributes := #[] }
def k13m1 : Method := { name := "<init>", desc := "([C)V", sig := { parameters := [(.array .char)], returnType := none }, accessFlags := 1, code := some k13c1 }
def k13c2 : Code := { maxStack := 4, maxLocals := 6, code := jdk_42_method_149_code, exceptionTable := #[], attributes := #[] }
def k13m2 : Method := { name := "<init>", desc := "([CIILjava/lang/Void;)V", sig := { parameters := [(.array .char), .int, .int, (.object "java/lang/Void")], returnType := none }, accessFlags := 2, code := some k13c2 }
/-- java/lang/String -/
def k13 : Class := { plain "java/lang/String" (some 0) with
  accessFlags := 49
  interfaces := #[4, 3, 12, 2, 8]
  cf := some (fileOf pool13 10 #[.nestMembers #[1103]] #[{ accessFlags := 1, nameIndex := 5, descriptorIndex := 6, attributes := #[] }, { accessFlags := 1, nameIndex := 5, descriptorIndex := 1010, attributes := #[] }, { accessFlags := 2, nameIndex := 5, descriptorIndex := 29, attributes := #[] }] 49 2 #[1106, 1108, 575, 1110, 1112] #[{ accessFlags := 18, nameIndex := 13, descriptorIndex := 14, attributes := #[] }, { accessFlags := 18, nameIndex := 17, descriptorIndex := 18, attributes := #[] }, { accessFlags := 2, nameIndex := 21, descriptorIndex := 22, attributes := #[] }, { accessFlags := 2, nameIndex := 25, descriptorIndex := 26, attributes := #[] }, { accessFlags := 26, nameIndex := 1116, descriptorIndex := 1117, attributes := #[] }, { accessFlags := 24, nameIndex := 40, descriptorIndex := 26, attributes := #[] }, { accessFlags := 26, nameIndex := 1101, descriptorIndex := 1102, attributes := #[] }, { accessFlags := 26, nameIndex := 1121, descriptorIndex := 1122, attributes := #[] }, { accessFlags := 25, nameIndex := 599, descriptorIndex := 600, attributes := #[] }, { accessFlags := 24, nameIndex := 1125, descriptorIndex := 18, attributes := #[] }, { accessFlags := 24, nameIndex := 1127, descriptorIndex := 18, attributes := #[] }])
  fields := #[{ name := "value", type := (.array .byte), accessFlags := 18, slot := 0, constantValue := 0 }, { name := "coder", type := .byte, accessFlags := 18, slot := 1, constantValue := 0 }, { name := "hash", type := .int, accessFlags := 2, slot := 2, constantValue := 0 }, { name := "hashIsZero", type := .boolean, accessFlags := 2, slot := 3, constantValue := 0 }, { name := "serialVersionUID", type := .long, accessFlags := 26, slot := 0, constantValue := 0 }, { name := "COMPACT_STRINGS", type := .boolean, accessFlags := 24, slot := 1, constantValue := 0 }, { name := "serialPersistentFields", type := (.array (.object "java/io/ObjectStreamField")), accessFlags := 26, slot := 2, constantValue := 0 }, { name := "REPL", type := .char, accessFlags := 26, slot := 3, constantValue := 0 }, { name := "CASE_INSENSITIVE_ORDER", type := (.object "java/util/Comparator"), accessFlags := 25, slot := 4, constantValue := 0 }, { name := "LATIN1", type := .byte, accessFlags := 24, slot := 5, constantValue := 0 }, { name := "UTF16", type := .byte, accessFlags := 24, slot := 6, constantValue := 0 }]
  methods := #[k13m0, k13m1, k13m2]
  instanceTypes := #[(.array .byte), .byte, .int, .boolean]
  staticTypes := #[.long, .boolean, (.array (.object "java/io/ObjectStreamField")), .char, (.object "java/util/Comparator"), .byte, .byte]
  resolved := Array.replicate 1451 none
  statics := some 2 }

def pool14 : Array CpInfo := pool [(6, .class_ 8), (1, u "java/lang/Object"), (0, u "<init>"), (0, u "()V"), (1, .class_ 14), (1, u "java/lang/StringUTF16"), (31, u "$assertionsDisabled"), (0, u "Z"), (13, u "HI_BYTE_SHIFT"), (0, u "I"), (2, u "LO_BYTE_SHIFT"), (49, .methodref 12 116), (0, .nameAndType 117 118), (0, u "compress"), (0, u "([CI[BII)I"), (3, u "([CII)[B"), (138, u "coderFromArrayLen"), (0, u "([BI)B"), (106, .class_ 371), (1, u "java/lang/StringUTF16$LinesSpliterator"), (58, u "MAX_LENGTH"), (196, .class_ 628), (0, u "java/lang/StringUTF16$CodePointsSpliterator"), (0, .class_ 630), (0, u "java/lang/StringUTF16$CharsSpliterator")] 4

def k14m0 : Method := { name := "<init>", desc := "()V", sig := { parameters := [], returnType := none }, accessFlags := 0, code := none }
def k14c1 : Code := { maxStack := 2, maxLocals := 2, code := jdk_52_method_15_code, exceptionTable := #[], attributes := #[] }
def k14m1 : Method := { name := "coderFromArrayLen", desc := "([BI)B", sig := { parameters := [(.array .byte), .int], returnType := some .byte }, accessFlags := 8, code := some k14c1 }
def k14c2 : Code := { maxStack := 5, maxLocals := 6, code := jdk_52_method_16_code, exceptionTable := #[], attributes := #[] }
def k14m2 : Method := { name := "compress", desc := "([CII)[B", sig := { parameters := [(.array .char), .int, .int], returnType := some (.array .byte) }, accessFlags := 9, code := some k14c2 }
def k14c3 : Code := { maxStack := 3, maxLocals := 7, code := jdk_52_method_21_code, exceptionTable := #[], attributes := #[] }
def k14m3 : Method := { name := "compress", desc := "([CI[BII)I", sig := { parameters := [(.array .char), .int, (.array .byte), .int, .int], returnType := some .int }, accessFlags := 9, code := some k14c3 }
/-- java/lang/StringUTF16 -/
def k14 : Class := { plain "java/lang/StringUTF16" (some 0) with
  accessFlags := 48
  interfaces := #[]
  cf := some (fileOf pool14 12 #[.nestMembers #[627, 629, 369]] #[{ accessFlags := 0, nameIndex := 9, descriptorIndex := 10, attributes := #[] }, { accessFlags := 8, nameIndex := 261, descriptorIndex := 262, attributes := #[] }, { accessFlags := 9, nameIndex := 117, descriptorIndex := 122, attributes := #[] }, { accessFlags := 9, nameIndex := 117, descriptorIndex := 118, attributes := #[] }] 48 6 #[] #[{ accessFlags := 26, nameIndex := 61, descriptorIndex := 62, attributes := #[] }, { accessFlags := 26, nameIndex := 65, descriptorIndex := 62, attributes := #[] }, { accessFlags := 24, nameIndex := 430, descriptorIndex := 62, attributes := #[] }, { accessFlags := 4120, nameIndex := 46, descriptorIndex := 47, attributes := #[] }])
  fields := #[{ name := "HI_BYTE_SHIFT", type := .int, accessFlags := 26, slot := 0, constantValue := 0 }, { name := "LO_BYTE_SHIFT", type := .int, accessFlags := 26, slot := 1, constantValue := 0 }, { name := "MAX_LENGTH", type := .int, accessFlags := 24, slot := 2, constantValue := 0 }, { name := "$assertionsDisabled", type := .boolean, accessFlags := 4120, slot := 3, constantValue := 0 }]
  methods := #[k14m0, k14m1, k14m2, k14m3]
  instanceTypes := #[]
  staticTypes := #[.int, .int, .int, .boolean]
  resolved := Array.replicate 635 none
  statics := none }

def pool15 : Array CpInfo := pool [(4, .class_ 6), (1, u "java/lang/Object"), (0, u "<init>"), (0, u "()V"), (5, .class_ 16), (1, u "java/lang/StringLatin1"), (104, u "$assertionsDisabled"), (0, u "Z"), (98, .class_ 223), (1, u "java/lang/StringLatin1$LinesSpliterator"), (166, .class_ 391), (0, u "java/lang/StringLatin1$CharsSpliterator")] 3

def k15m0 : Method := { name := "<init>", desc := "()V", sig := { parameters := [], returnType := none }, accessFlags := 0, code := none }
/-- java/lang/StringLatin1 -/
def k15 : Class := { plain "java/lang/StringLatin1" (some 0) with
  accessFlags := 48
  interfaces := #[]
  cf := some (fileOf pool15 14 #[.nestMembers #[390, 221]] #[{ accessFlags := 0, nameIndex := 7, descriptorIndex := 8, attributes := #[] }] 48 4 #[] #[{ accessFlags := 4120, nameIndex := 121, descriptorIndex := 122, attributes := #[] }])
  fields := #[{ name := "$assertionsDisabled", type := .boolean, accessFlags := 4120, slot := 0, constantValue := 0 }]
  methods := #[k15m0]
  instanceTypes := #[]
  staticTypes := #[.boolean]
  resolved := Array.replicate 395 none
  statics := none }

def pool16 : Array CpInfo := pool [(2, .class_ 4), (1, u "java/lang/Object"), (0, u "<init>"), (0, u "()V"), (17, .class_ 26), (1, u "jdk/internal/util/Preconditions"), (28, .class_ 56), (0, u "jdk/internal/util/Preconditions$4"), (57, .class_ 115), (0, u "jdk/internal/util/Preconditions$1"), (7, u "SIOOBE_FORMATTER"), (0, u "Ljava/util/function/BiFunction;"), (0, .class_ 126), (0, u "jdk/internal/util/Preconditions$2"), (3, u "AIOOBE_FORMATTER"), (0, .class_ 132), (0, u "jdk/internal/util/Preconditions$3"), (3, u "IOOBE_FORMATTER")] 57

def k16m0 : Method := { name := "<init>", desc := "()V", sig := { parameters := [], returnType := none }, accessFlags := 1, code := none }
/-- jdk/internal/util/Preconditions -/
def k16 : Class := { plain "jdk/internal/util/Preconditions" (some 0) with
  accessFlags := 33
  interfaces := #[]
  cf := some (fileOf pool16 24 #[.nestMembers #[55, 131, 125, 114]] #[{ accessFlags := 1, nameIndex := 5, descriptorIndex := 6, attributes := #[] }] 33 2 #[] #[{ accessFlags := 25, nameIndex := 123, descriptorIndex := 124, attributes := #[] }, { accessFlags := 25, nameIndex := 130, descriptorIndex := 124, attributes := #[] }, { accessFlags := 25, nameIndex := 136, descriptorIndex := 124, attributes := #[] }])
  fields := #[{ name := "SIOOBE_FORMATTER", type := (.object "java/util/function/BiFunction"), accessFlags := 25, slot := 0, constantValue := 0 }, { name := "AIOOBE_FORMATTER", type := (.object "java/util/function/BiFunction"), accessFlags := 25, slot := 1, constantValue := 0 }, { name := "IOOBE_FORMATTER", type := (.object "java/util/function/BiFunction"), accessFlags := 25, slot := 2, constantValue := 0 }]
  methods := #[k16m0]
  instanceTypes := #[]
  staticTypes := #[(.object "java/util/function/BiFunction"), (.object "java/util/function/BiFunction"), (.object "java/util/function/BiFunction")]
  resolved := Array.replicate 194 none
  statics := some 3 }

def pool17 : Array CpInfo := pool [(9, u "<init>"), (6, .class_ 18), (1, u "java/lang/Object"), (0, u "()V"), (1, .class_ 23), (1, u "jdk/internal/util/ArraysSupport"), (0, u "LOG2_ARRAY_LONG_INDEX_SCALE"), (0, u "I"), (2, u "U"), (0, u "Ljdk/internal/misc/Unsafe;"), (8, u "BIG_ENDIAN"), (0, u "Z"), (8, u "LOG2_BYTE_BIT_SIZE"), (4, u "LOG2_ARRAY_INT_INDEX_SCALE"), (54, u "JLA"), (0, u "Ljdk/internal/access/JavaLangAccess;"), (11, u "LOG2_ARRAY_BOOLEAN_INDEX_SCALE"), (9, u "LOG2_ARRAY_BYTE_INDEX_SCALE"), (5, u "LOG2_ARRAY_CHAR_INDEX_SCALE"), (5, u "LOG2_ARRAY_SHORT_INDEX_SCALE"), (18, u "LOG2_ARRAY_FLOAT_INDEX_SCALE"), (24, u "LOG2_ARRAY_DOUBLE_INDEX_SCALE"), (89, u "T_BOOLEAN"), (2, u "T_CHAR"), (1, u "T_FLOAT"), (1, u "T_DOUBLE"), (1, u "T_BYTE"), (1, u "T_SHORT"), (1, u "T_INT"), (1, u "T_LONG"), (1, u "SOFT_MAX_ARRAY_LENGTH")] 83

def k17m0 : Method := { name := "<init>", desc := "()V", sig := { parameters := [], returnType := none }, accessFlags := 2, code := none }
/-- jdk/internal/util/ArraysSupport -/
def k17 : Class := { plain "jdk/internal/util/ArraysSupport" (some 0) with
  accessFlags := 33
  interfaces := #[]
  cf := some (fileOf pool17 21 #[] #[{ accessFlags := 2, nameIndex := 9, descriptorIndex := 19, attributes := #[] }] 33 16 #[] #[{ accessFlags := 24, nameIndex := 28, descriptorIndex := 29, attributes := #[] }, { accessFlags := 26, nameIndex := 38, descriptorIndex := 39, attributes := #[] }, { accessFlags := 25, nameIndex := 121, descriptorIndex := 25, attributes := #[] }, { accessFlags := 25, nameIndex := 131, descriptorIndex := 25, attributes := #[] }, { accessFlags := 25, nameIndex := 137, descriptorIndex := 25, attributes := #[] }, { accessFlags := 25, nameIndex := 143, descriptorIndex := 25, attributes := #[] }, { accessFlags := 25, nameIndex := 53, descriptorIndex := 25, attributes := #[] }, { accessFlags := 25, nameIndex := 24, descriptorIndex := 25, attributes := #[] }, { accessFlags := 25, nameIndex := 162, descriptorIndex := 25, attributes := #[] }, { accessFlags := 25, nameIndex := 187, descriptorIndex := 25, attributes := #[] }, { accessFlags := 26, nameIndex := 48, descriptorIndex := 25, attributes := #[] }, { accessFlags := 25, nameIndex := 277, descriptorIndex := 25, attributes := #[] }, { accessFlags := 25, nameIndex := 280, descriptorIndex := 25, attributes := #[] }, { accessFlags := 25, nameIndex := 282, descriptorIndex := 25, attributes := #[] }, { accessFlags := 25, nameIndex := 284, descriptorIndex := 25, attributes := #[] }, { accessFlags := 25, nameIndex := 286, descriptorIndex := 25, attributes := #[] }, { accessFlags := 25, nameIndex := 288, descriptorIndex := 25, attributes := #[] }, { accessFlags := 25, nameIndex := 290, descriptorIndex := 25, attributes := #[] }, { accessFlags := 25, nameIndex := 292, descriptorIndex := 25, attributes := #[] }, { accessFlags := 26, nameIndex := 108, descriptorIndex := 109, attributes := #[] }, { accessFlags := 25, nameIndex := 294, descriptorIndex := 25, attributes := #[] }])
  fields := #[{ name := "U", type := (.object "jdk/internal/misc/Unsafe"), accessFlags := 24, slot := 0, constantValue := 0 }, { name := "BIG_ENDIAN", type := .boolean, accessFlags := 26, slot := 1, constantValue := 0 }, { name := "LOG2_ARRAY_BOOLEAN_INDEX_SCALE", type := .int, accessFlags := 25, slot := 2, constantValue := 0 }, { name := "LOG2_ARRAY_BYTE_INDEX_SCALE", type := .int, accessFlags := 25, slot := 3, constantValue := 0 }, { name := "LOG2_ARRAY_CHAR_INDEX_SCALE", type := .int, accessFlags := 25, slot := 4, constantValue := 0 }, { name := "LOG2_ARRAY_SHORT_INDEX_SCALE", type := .int, accessFlags := 25, slot := 5, constantValue := 0 }, { name := "LOG2_ARRAY_INT_INDEX_SCALE", type := .int, accessFlags := 25, slot := 6, constantValue := 0 }, { name := "LOG2_ARRAY_LONG_INDEX_SCALE", type := .int, accessFlags := 25, slot := 7, constantValue := 0 }, { name := "LOG2_ARRAY_FLOAT_INDEX_SCALE", type := .int, accessFlags := 25, slot := 8, constantValue := 0 }, { name := "LOG2_ARRAY_DOUBLE_INDEX_SCALE", type := .int, accessFlags := 25, slot := 9, constantValue := 0 }, { name := "LOG2_BYTE_BIT_SIZE", type := .int, accessFlags := 26, slot := 10, constantValue := 0 }, { name := "T_BOOLEAN", type := .int, accessFlags := 25, slot := 11, constantValue := 0 }, { name := "T_CHAR", type := .int, accessFlags := 25, slot := 12, constantValue := 0 }, { name := "T_FLOAT", type := .int, accessFlags := 25, slot := 13, constantValue := 0 }, { name := "T_DOUBLE", type := .int, accessFlags := 25, slot := 14, constantValue := 0 }, { name := "T_BYTE", type := .int, accessFlags := 25, slot := 15, constantValue := 0 }, { name := "T_SHORT", type := .int, accessFlags := 25, slot := 16, constantValue := 0 }, { name := "T_INT", type := .int, accessFlags := 25, slot := 17, constantValue := 0 }, { name := "T_LONG", type := .int, accessFlags := 25, slot := 18, constantValue := 0 }, { name := "JLA", type := (.object "jdk/internal/access/JavaLangAccess"), accessFlags := 26, slot := 19, constantValue := 0 }, { name := "SOFT_MAX_ARRAY_LENGTH", type := .int, accessFlags := 25, slot := 20, constantValue := 0 }]
  methods := #[k17m0]
  instanceTypes := #[]
  staticTypes := #[(.object "jdk/internal/misc/Unsafe"), .boolean, .int, .int, .int, .int, .int, .int, .int, .int, .int, .int, .int, .int, .int, .int, .int, .int, .int, (.object "jdk/internal/access/JavaLangAccess"), .int]
  resolved := Array.replicate 378 none
  statics := none }

def pool18 : Array CpInfo := pool [(1, u "java/lang/Cloneable"), (0, .class_ 1), (0, u "java/lang/Object"), (0, .class_ 3)] 3

/-- java/lang/Cloneable -/
def k18 : Class := { plain "java/lang/Cloneable" (some 0) with
  accessFlags := 1537
  interfaces := #[]
  cf := some (fileOf pool18 2 #[] #[] 1537 4 #[] #[])
  fields := #[]
  methods := #[]
  instanceTypes := #[]
  staticTypes := #[]
  resolved := Array.replicate 8 none
  statics := none }

/-- the primitive byte -/
def k19 : Class := { plain "byte" none with kind := .primitive 'B', accessFlags := 0x411 }
/-- [B -/
def k20 : Class := { plain "[B" (some 0) with kind := .array 19 .byte, interfaces := #[18, 4], accessFlags := 1041 }

/-- the primitive char -/
def k21 : Class := { plain "char" none with kind := .primitive 'C', accessFlags := 0x411 }
/-- [C -/
def k22 : Class := { plain "[C" (some 0) with kind := .array 21 .char, interfaces := #[18, 4], accessFlags := 1041 }

/-- the primitive int -/
def k23 : Class := { plain "int" none with kind := .primitive 'I', accessFlags := 0x411 }
/-- [I -/
def k24 : Class := { plain "[I" (some 0) with kind := .array 23 .int, interfaces := #[18, 4], accessFlags := 1041 }

/-- [Ljava/lang/Integer; -/
def k25 : Class := { plain "[Ljava/lang/Integer;" (some 0) with kind := .array 9 (.object "java/lang/Integer"), interfaces := #[18, 4], accessFlags := 1041 }

def heap : Heap := #[{ cls := 6, slots := #[.ref 5, .ref 8, .ref 7, .ref 9, .ref 6, .ref 11, .ref 10, .null], vm := .statics 6 },
  { cls := 10, slots := #[.int 0, .int 127, .ref 4, .null, .int 0], vm := .statics 10 },
  { cls := 13, slots := #[.long 0, .int 1, .null, .int 0, .null, .int 0, .int 0], vm := .statics 13 },
  { cls := 16, slots := #[.null, .null, .null], vm := .statics 16 },
  { cls := 25, slots := #[.ref 12, .ref 13, .ref 14, .ref 15, .ref 16, .ref 17, .ref 18, .ref 19, .ref 20, .ref 21, .ref 22, .ref 23, .ref 24, .ref 25, .ref 26, .ref 27, .ref 28, .ref 29, .ref 30, .ref 31, .ref 32, .ref 33, .ref 34, .ref 35, .ref 36, .ref 37, .ref 38, .ref 39, .ref 40, .ref 41, .ref 42, .ref 43, .ref 44, .ref 45, .ref 46, .ref 47, .ref 48, .ref 49, .ref 50, .ref 51, .ref 52, .ref 53, .ref 54, .ref 55, .ref 56, .ref 57, .ref 58, .ref 59, .ref 60, .ref 61, .ref 62, .ref 63, .ref 64, .ref 65, .ref 66, .ref 67, .ref 68, .ref 69, .ref 70, .ref 71, .ref 72, .ref 73, .ref 74, .ref 75, .ref 76, .ref 77, .ref 78, .ref 79, .ref 80, .ref 81, .ref 82, .ref 83, .ref 84, .ref 85, .ref 86, .ref 87, .ref 88, .ref 89, .ref 90, .ref 91, .ref 92, .ref 93, .ref 94, .ref 95, .ref 96, .ref 97, .ref 98, .ref 99, .ref 100, .ref 101, .ref 102, .ref 103, .ref 104, .ref 105, .ref 106, .ref 107, .ref 108, .ref 109, .ref 110, .ref 111, .ref 112, .ref 113, .ref 114, .ref 115, .ref 116, .ref 117, .ref 118, .ref 119, .ref 120, .ref 121, .ref 122, .ref 123, .ref 124, .ref 125, .ref 126, .ref 127, .ref 128, .ref 129, .ref 130, .ref 131, .ref 132, .ref 133, .ref 134, .ref 135, .ref 136, .ref 137, .ref 138, .ref 139, .ref 140, .ref 141, .ref 142, .ref 143, .ref 144, .ref 145, .ref 146, .ref 147, .ref 148, .ref 149, .ref 150, .ref 151, .ref 152, .ref 153, .ref 154, .ref 155, .ref 156, .ref 157, .ref 158, .ref 159, .ref 160, .ref 161, .ref 162, .ref 163, .ref 164, .ref 165, .ref 166, .ref 167, .ref 168, .ref 169, .ref 170, .ref 171, .ref 172, .ref 173, .ref 174, .ref 175, .ref 176, .ref 177, .ref 178, .ref 179, .ref 180, .ref 181, .ref 182, .ref 183, .ref 184, .ref 185, .ref 186, .ref 187, .ref 188, .ref 189, .ref 190, .ref 191, .ref 192, .ref 193, .ref 194, .ref 195, .ref 196, .ref 197, .ref 198, .ref 199, .ref 200, .ref 201, .ref 202, .ref 203, .ref 204, .ref 205, .ref 206, .ref 207, .ref 208, .ref 209, .ref 210, .ref 211, .ref 212, .ref 213, .ref 214, .ref 215, .ref 216, .ref 217, .ref 218, .ref 219, .ref 220, .ref 221, .ref 222, .ref 223, .ref 224, .ref 225, .ref 226, .ref 227, .ref 228, .ref 229, .ref 230, .ref 231, .ref 232, .ref 233, .ref 234, .ref 235, .ref 236, .ref 237, .ref 238, .ref 239, .ref 240, .ref 241, .ref 242, .ref 243, .ref 244, .ref 245, .ref 246, .ref 247, .ref 248, .ref 249, .ref 250, .ref 251, .ref 252, .ref 253, .ref 254, .ref 255, .ref 256, .ref 257, .ref 258, .ref 259, .ref 260, .ref 261, .ref 262, .ref 263, .ref 264, .ref 265, .ref 266, .ref 267], vm := .none },
  { cls := 6, slots := #[.null, .int 0, .int 0], vm := .none },
  { cls := 6, slots := #[.null, .int 4, .int 0], vm := .none },
  { cls := 6, slots := #[.null, .int 2, .int 0], vm := .none },
  { cls := 6, slots := #[.null, .int 1, .int 0], vm := .none },
  { cls := 6, slots := #[.null, .int 3, .int 0], vm := .none },
  { cls := 6, slots := #[.null, .int 6, .int 0], vm := .none },
  { cls := 6, slots := #[.null, .int 5, .int 0], vm := .none },
  { cls := 9, slots := #[.int (-128)], vm := .none },
  { cls := 9, slots := #[.int (-127)], vm := .none },
  { cls := 9, slots := #[.int (-126)], vm := .none },
  { cls := 9, slots := #[.int (-125)], vm := .none },
  { cls := 9, slots := #[.int (-124)], vm := .none },
  { cls := 9, slots := #[.int (-123)], vm := .none },
  { cls := 9, slots := #[.int (-122)], vm := .none },
  { cls := 9, slots := #[.int (-121)], vm := .none },
  { cls := 9, slots := #[.int (-120)], vm := .none },
  { cls := 9, slots := #[.int (-119)], vm := .none },
  { cls := 9, slots := #[.int (-118)], vm := .none },
  { cls := 9, slots := #[.int (-117)], vm := .none },
  { cls := 9, slots := #[.int (-116)], vm := .none },
  { cls := 9, slots := #[.int (-115)], vm := .none },
  { cls := 9, slots := #[.int (-114)], vm := .none },
  { cls := 9, slots := #[.int (-113)], vm := .none },
  { cls := 9, slots := #[.int (-112)], vm := .none },
  { cls := 9, slots := #[.int (-111)], vm := .none },
  { cls := 9, slots := #[.int (-110)], vm := .none },
  { cls := 9, slots := #[.int (-109)], vm := .none },
  { cls := 9, slots := #[.int (-108)], vm := .none },
  { cls := 9, slots := #[.int (-107)], vm := .none },
  { cls := 9, slots := #[.int (-106)], vm := .none },
  { cls := 9, slots := #[.int (-105)], vm := .none },
  { cls := 9, slots := #[.int (-104)], vm := .none },
  { cls := 9, slots := #[.int (-103)], vm := .none },
  { cls := 9, slots := #[.int (-102)], vm := .none },
  { cls := 9, slots := #[.int (-101)], vm := .none },
  { cls := 9, slots := #[.int (-100)], vm := .none },
  { cls := 9, slots := #[.int (-99)], vm := .none },
  { cls := 9, slots := #[.int (-98)], vm := .none },
  { cls := 9, slots := #[.int (-97)], vm := .none },
  { cls := 9, slots := #[.int (-96)], vm := .none },
  { cls := 9, slots := #[.int (-95)], vm := .none },
  { cls := 9, slots := #[.int (-94)], vm := .none },
  { cls := 9, slots := #[.int (-93)], vm := .none },
  { cls := 9, slots := #[.int (-92)], vm := .none },
  { cls := 9, slots := #[.int (-91)], vm := .none },
  { cls := 9, slots := #[.int (-90)], vm := .none },
  { cls := 9, slots := #[.int (-89)], vm := .none },
  { cls := 9, slots := #[.int (-88)], vm := .none },
  { cls := 9, slots := #[.int (-87)], vm := .none },
  { cls := 9, slots := #[.int (-86)], vm := .none },
  { cls := 9, slots := #[.int (-85)], vm := .none },
  { cls := 9, slots := #[.int (-84)], vm := .none },
  { cls := 9, slots := #[.int (-83)], vm := .none },
  { cls := 9, slots := #[.int (-82)], vm := .none },
  { cls := 9, slots := #[.int (-81)], vm := .none },
  { cls := 9, slots := #[.int (-80)], vm := .none },
  { cls := 9, slots := #[.int (-79)], vm := .none },
  { cls := 9, slots := #[.int (-78)], vm := .none },
  { cls := 9, slots := #[.int (-77)], vm := .none },
  { cls := 9, slots := #[.int (-76)], vm := .none },
  { cls := 9, slots := #[.int (-75)], vm := .none },
  { cls := 9, slots := #[.int (-74)], vm := .none },
  { cls := 9, slots := #[.int (-73)], vm := .none },
  { cls := 9, slots := #[.int (-72)], vm := .none },
  { cls := 9, slots := #[.int (-71)], vm := .none },
  { cls := 9, slots := #[.int (-70)], vm := .none },
  { cls := 9, slots := #[.int (-69)], vm := .none },
  { cls := 9, slots := #[.int (-68)], vm := .none },
  { cls := 9, slots := #[.int (-67)], vm := .none },
  { cls := 9, slots := #[.int (-66)], vm := .none },
  { cls := 9, slots := #[.int (-65)], vm := .none },
  { cls := 9, slots := #[.int (-64)], vm := .none },
  { cls := 9, slots := #[.int (-63)], vm := .none },
  { cls := 9, slots := #[.int (-62)], vm := .none },
  { cls := 9, slots := #[.int (-61)], vm := .none },
  { cls := 9, slots := #[.int (-60)], vm := .none },
  { cls := 9, slots := #[.int (-59)], vm := .none },
  { cls := 9, slots := #[.int (-58)], vm := .none },
  { cls := 9, slots := #[.int (-57)], vm := .none },
  { cls := 9, slots := #[.int (-56)], vm := .none },
  { cls := 9, slots := #[.int (-55)], vm := .none },
  { cls := 9, slots := #[.int (-54)], vm := .none },
  { cls := 9, slots := #[.int (-53)], vm := .none },
  { cls := 9, slots := #[.int (-52)], vm := .none },
  { cls := 9, slots := #[.int (-51)], vm := .none },
  { cls := 9, slots := #[.int (-50)], vm := .none },
  { cls := 9, slots := #[.int (-49)], vm := .none },
  { cls := 9, slots := #[.int (-48)], vm := .none },
  { cls := 9, slots := #[.int (-47)], vm := .none },
  { cls := 9, slots := #[.int (-46)], vm := .none },
  { cls := 9, slots := #[.int (-45)], vm := .none },
  { cls := 9, slots := #[.int (-44)], vm := .none },
  { cls := 9, slots := #[.int (-43)], vm := .none },
  { cls := 9, slots := #[.int (-42)], vm := .none },
  { cls := 9, slots := #[.int (-41)], vm := .none },
  { cls := 9, slots := #[.int (-40)], vm := .none },
  { cls := 9, slots := #[.int (-39)], vm := .none },
  { cls := 9, slots := #[.int (-38)], vm := .none },
  { cls := 9, slots := #[.int (-37)], vm := .none },
  { cls := 9, slots := #[.int (-36)], vm := .none },
  { cls := 9, slots := #[.int (-35)], vm := .none },
  { cls := 9, slots := #[.int (-34)], vm := .none },
  { cls := 9, slots := #[.int (-33)], vm := .none },
  { cls := 9, slots := #[.int (-32)], vm := .none },
  { cls := 9, slots := #[.int (-31)], vm := .none },
  { cls := 9, slots := #[.int (-30)], vm := .none },
  { cls := 9, slots := #[.int (-29)], vm := .none },
  { cls := 9, slots := #[.int (-28)], vm := .none },
  { cls := 9, slots := #[.int (-27)], vm := .none },
  { cls := 9, slots := #[.int (-26)], vm := .none },
  { cls := 9, slots := #[.int (-25)], vm := .none },
  { cls := 9, slots := #[.int (-24)], vm := .none },
  { cls := 9, slots := #[.int (-23)], vm := .none },
  { cls := 9, slots := #[.int (-22)], vm := .none },
  { cls := 9, slots := #[.int (-21)], vm := .none },
  { cls := 9, slots := #[.int (-20)], vm := .none },
  { cls := 9, slots := #[.int (-19)], vm := .none },
  { cls := 9, slots := #[.int (-18)], vm := .none },
  { cls := 9, slots := #[.int (-17)], vm := .none },
  { cls := 9, slots := #[.int (-16)], vm := .none },
  { cls := 9, slots := #[.int (-15)], vm := .none },
  { cls := 9, slots := #[.int (-14)], vm := .none },
  { cls := 9, slots := #[.int (-13)], vm := .none },
  { cls := 9, slots := #[.int (-12)], vm := .none },
  { cls := 9, slots := #[.int (-11)], vm := .none },
  { cls := 9, slots := #[.int (-10)], vm := .none },
  { cls := 9, slots := #[.int (-9)], vm := .none },
  { cls := 9, slots := #[.int (-8)], vm := .none },
  { cls := 9, slots := #[.int (-7)], vm := .none },
  { cls := 9, slots := #[.int (-6)], vm := .none },
  { cls := 9, slots := #[.int (-5)], vm := .none },
  { cls := 9, slots := #[.int (-4)], vm := .none },
  { cls := 9, slots := #[.int (-3)], vm := .none },
  { cls := 9, slots := #[.int (-2)], vm := .none },
  { cls := 9, slots := #[.int (-1)], vm := .none },
  { cls := 9, slots := #[.int 0], vm := .none },
  { cls := 9, slots := #[.int 1], vm := .none },
  { cls := 9, slots := #[.int 2], vm := .none },
  { cls := 9, slots := #[.int 3], vm := .none },
  { cls := 9, slots := #[.int 4], vm := .none },
  { cls := 9, slots := #[.int 5], vm := .none },
  { cls := 9, slots := #[.int 6], vm := .none },
  { cls := 9, slots := #[.int 7], vm := .none },
  { cls := 9, slots := #[.int 8], vm := .none },
  { cls := 9, slots := #[.int 9], vm := .none },
  { cls := 9, slots := #[.int 10], vm := .none },
  { cls := 9, slots := #[.int 11], vm := .none },
  { cls := 9, slots := #[.int 12], vm := .none },
  { cls := 9, slots := #[.int 13], vm := .none },
  { cls := 9, slots := #[.int 14], vm := .none },
  { cls := 9, slots := #[.int 15], vm := .none },
  { cls := 9, slots := #[.int 16], vm := .none },
  { cls := 9, slots := #[.int 17], vm := .none },
  { cls := 9, slots := #[.int 18], vm := .none },
  { cls := 9, slots := #[.int 19], vm := .none },
  { cls := 9, slots := #[.int 20], vm := .none },
  { cls := 9, slots := #[.int 21], vm := .none },
  { cls := 9, slots := #[.int 22], vm := .none },
  { cls := 9, slots := #[.int 23], vm := .none },
  { cls := 9, slots := #[.int 24], vm := .none },
  { cls := 9, slots := #[.int 25], vm := .none },
  { cls := 9, slots := #[.int 26], vm := .none },
  { cls := 9, slots := #[.int 27], vm := .none },
  { cls := 9, slots := #[.int 28], vm := .none },
  { cls := 9, slots := #[.int 29], vm := .none },
  { cls := 9, slots := #[.int 30], vm := .none },
  { cls := 9, slots := #[.int 31], vm := .none },
  { cls := 9, slots := #[.int 32], vm := .none },
  { cls := 9, slots := #[.int 33], vm := .none },
  { cls := 9, slots := #[.int 34], vm := .none },
  { cls := 9, slots := #[.int 35], vm := .none },
  { cls := 9, slots := #[.int 36], vm := .none },
  { cls := 9, slots := #[.int 37], vm := .none },
  { cls := 9, slots := #[.int 38], vm := .none },
  { cls := 9, slots := #[.int 39], vm := .none },
  { cls := 9, slots := #[.int 40], vm := .none },
  { cls := 9, slots := #[.int 41], vm := .none },
  { cls := 9, slots := #[.int 42], vm := .none },
  { cls := 9, slots := #[.int 43], vm := .none },
  { cls := 9, slots := #[.int 44], vm := .none },
  { cls := 9, slots := #[.int 45], vm := .none },
  { cls := 9, slots := #[.int 46], vm := .none },
  { cls := 9, slots := #[.int 47], vm := .none },
  { cls := 9, slots := #[.int 48], vm := .none },
  { cls := 9, slots := #[.int 49], vm := .none },
  { cls := 9, slots := #[.int 50], vm := .none },
  { cls := 9, slots := #[.int 51], vm := .none },
  { cls := 9, slots := #[.int 52], vm := .none },
  { cls := 9, slots := #[.int 53], vm := .none },
  { cls := 9, slots := #[.int 54], vm := .none },
  { cls := 9, slots := #[.int 55], vm := .none },
  { cls := 9, slots := #[.int 56], vm := .none },
  { cls := 9, slots := #[.int 57], vm := .none },
  { cls := 9, slots := #[.int 58], vm := .none },
  { cls := 9, slots := #[.int 59], vm := .none },
  { cls := 9, slots := #[.int 60], vm := .none },
  { cls := 9, slots := #[.int 61], vm := .none },
  { cls := 9, slots := #[.int 62], vm := .none },
  { cls := 9, slots := #[.int 63], vm := .none },
  { cls := 9, slots := #[.int 64], vm := .none },
  { cls := 9, slots := #[.int 65], vm := .none },
  { cls := 9, slots := #[.int 66], vm := .none },
  { cls := 9, slots := #[.int 67], vm := .none },
  { cls := 9, slots := #[.int 68], vm := .none },
  { cls := 9, slots := #[.int 69], vm := .none },
  { cls := 9, slots := #[.int 70], vm := .none },
  { cls := 9, slots := #[.int 71], vm := .none },
  { cls := 9, slots := #[.int 72], vm := .none },
  { cls := 9, slots := #[.int 73], vm := .none },
  { cls := 9, slots := #[.int 74], vm := .none },
  { cls := 9, slots := #[.int 75], vm := .none },
  { cls := 9, slots := #[.int 76], vm := .none },
  { cls := 9, slots := #[.int 77], vm := .none },
  { cls := 9, slots := #[.int 78], vm := .none },
  { cls := 9, slots := #[.int 79], vm := .none },
  { cls := 9, slots := #[.int 80], vm := .none },
  { cls := 9, slots := #[.int 81], vm := .none },
  { cls := 9, slots := #[.int 82], vm := .none },
  { cls := 9, slots := #[.int 83], vm := .none },
  { cls := 9, slots := #[.int 84], vm := .none },
  { cls := 9, slots := #[.int 85], vm := .none },
  { cls := 9, slots := #[.int 86], vm := .none },
  { cls := 9, slots := #[.int 87], vm := .none },
  { cls := 9, slots := #[.int 88], vm := .none },
  { cls := 9, slots := #[.int 89], vm := .none },
  { cls := 9, slots := #[.int 90], vm := .none },
  { cls := 9, slots := #[.int 91], vm := .none },
  { cls := 9, slots := #[.int 92], vm := .none },
  { cls := 9, slots := #[.int 93], vm := .none },
  { cls := 9, slots := #[.int 94], vm := .none },
  { cls := 9, slots := #[.int 95], vm := .none },
  { cls := 9, slots := #[.int 96], vm := .none },
  { cls := 9, slots := #[.int 97], vm := .none },
  { cls := 9, slots := #[.int 98], vm := .none },
  { cls := 9, slots := #[.int 99], vm := .none },
  { cls := 9, slots := #[.int 100], vm := .none },
  { cls := 9, slots := #[.int 101], vm := .none },
  { cls := 9, slots := #[.int 102], vm := .none },
  { cls := 9, slots := #[.int 103], vm := .none },
  { cls := 9, slots := #[.int 104], vm := .none },
  { cls := 9, slots := #[.int 105], vm := .none },
  { cls := 9, slots := #[.int 106], vm := .none },
  { cls := 9, slots := #[.int 107], vm := .none },
  { cls := 9, slots := #[.int 108], vm := .none },
  { cls := 9, slots := #[.int 109], vm := .none },
  { cls := 9, slots := #[.int 110], vm := .none },
  { cls := 9, slots := #[.int 111], vm := .none },
  { cls := 9, slots := #[.int 112], vm := .none },
  { cls := 9, slots := #[.int 113], vm := .none },
  { cls := 9, slots := #[.int 114], vm := .none },
  { cls := 9, slots := #[.int 115], vm := .none },
  { cls := 9, slots := #[.int 116], vm := .none },
  { cls := 9, slots := #[.int 117], vm := .none },
  { cls := 9, slots := #[.int 118], vm := .none },
  { cls := 9, slots := #[.int 119], vm := .none },
  { cls := 9, slots := #[.int 120], vm := .none },
  { cls := 9, slots := #[.int 121], vm := .none },
  { cls := 9, slots := #[.int 122], vm := .none },
  { cls := 9, slots := #[.int 123], vm := .none },
  { cls := 9, slots := #[.int 124], vm := .none },
  { cls := 9, slots := #[.int 125], vm := .none },
  { cls := 9, slots := #[.int 126], vm := .none },
  { cls := 9, slots := #[.int 127], vm := .none }]
def classes : Array Class := #[k0, k1, k2, k3, k4, k5, k6, k7, k8, k9, k10, k11, k12, k13, k14, k15, k16, k17, k18, k19, k20, k21, k22, k23, k24, k25]
def interned : List (Array UInt16 × Addr) := []
def slotsUsed : Nat := 556
def theMethod : MethodId := ⟨1, 1⟩
def args0 : Array Value := #[.int 5, .int 6, .int 7, .int 8, .int 9, .int 10]
def aboutOver (below : List Frame) : State where
  vm := { classes := classes, interned := interned.toArray }
  heap := heap
  slotsUsed := slotsUsed
  threads := #[{ frames := .invoking theMethod args0 :: below }]
def below0 : List Frame := [.native { method := ⟨0, 0⟩, args := #[] }]
def about1 : State := aboutOver below0
def p0 : Program := .bare "" "" ""
def e0 : Env := launch0.env 0 0 0
theorem w_frames : about1.frames = Frame.invoking theMethod args0 :: below0 := rfl
set_option maxRecDepth 65536 in
theorem w_args : argsFit about1.vm theMethod args0 = true := by decide +kernel
set_option maxRecDepth 65536 in
theorem w_heap : heapFits about1 = true := by decide +kernel
set_option maxRecDepth 65536 in
theorem w_runnable : about1.curStatus? = some .runnable := by decide +kernel
set_option maxRecDepth 65536 in
theorem w_alone : about1.alone = true := by decide +kernel
set_option maxRecDepth 65536 in
theorem w_named : about1.methodNamed? x = some theMethod := by decide +kernel
set_option maxRecDepth 65536 in
theorem w_hears : about1.hears theMethod below0 = true := by decide +kernel
set_option maxRecDepth 65536 in
theorem w_ripe : about1.ripe theMethod args0 below0 = true := by decide +kernel
theorem w_running : about1.status = .running := rfl
set_option maxRecDepth 65536 in
theorem w_room : about1.hasRoom e0.platform room_1 = true :=
  launch0.hasRoom_least _ room_1 (by decide +kernel) (by decide +kernel) (by decide +kernel) (by decide +kernel) (by decide +kernel) (by decide +kernel)
theorem allAtoms_all (ts : List Jvm.Cond) (a : Array Jvm.Value) (st : Jvm.State) : (allAtoms ts).before a st = ts.all (fun c => c.before a st) := by
  induction ts with
  | nil => rfl
  | cons c t ih =>
    show (Jvm.Cond.and c (allAtoms t)).before a st = _
    rw [Jvm.Cond.before_and, ih, List.all_cons]
def words1 : List Jvm.Cond := Jvm.Cond.code x code maxLocals ret :: tables_1
/-- a 'code' word, met by the world's own term for the bytes: nothing is compared byte by byte -/
theorem code_word {y : MethodName} {bytes : ByteArray} {mx : Nat} {rt : Option FieldType} {a : Array Value} {s : State} {m : MethodId} {meth : Method} {c : Code} (h1 : s.methodNamed? y = some m) (h2 : s.vm.method? m = some meth) (h3 : meth.code = some c) (h4 : c.code = bytes)
    (h5 : (c.maxLocals == mx && c.exceptionTable.isEmpty && decide (c.maxStack ≤ mostOperands) && decide (meth.sig.returnType = rt) && !meth.locks && decide (parseMethodDescriptor y.desc = some meth.sig)) = true) : (Jvm.Cond.code y bytes mx rt).before a s = true := by
  simp only [Bool.and_eq_true, beq_iff_eq, Bool.not_eq_true', decide_eq_true_eq] at h5
  obtain ⟨⟨⟨⟨⟨g1, g2⟩, g3⟩, g4⟩, g5⟩, g6⟩ := h5
  simp [Cond.before, Cond.holds, Cond.value, h1, h2, h3, h4, g1, g2, g3, g4, g5, g6]
def isCode : Jvm.Cond → Bool
  | .code _ _ _ _ => true
  | _ => false
theorem all_split {L : List Jvm.Cond} {P : Jvm.Cond → Bool} (h1 : L.all (fun c => isCode c || P c) = true) (h2 : ∀ c ∈ L.filter isCode, P c = true) : L.all P = true := by
  refine List.all_eq_true.mpr fun c hc => ?_
  have h := List.all_eq_true.mp h1 c hc
  rcases Bool.eq_false_or_eq_true (isCode c) with hi | hi
  · exact h2 c (List.mem_filter.mpr ⟨hc, hi⟩)
  · simpa [hi] using h
set_option maxRecDepth 65536 in
theorem w_c0 : (Jvm.Cond.code x code maxLocals ret).before args0 about1 = true := code_word (m := ⟨1, 1⟩) (meth := k1m1) (c := k1c1) (by decide +kernel) rfl rfl rfl (by decide +kernel)
set_option maxRecDepth 65536 in
theorem w_c1 : (Jvm.Cond.code ({ cls := "com/example/resumatic/resumatic/core/ResumeDecisionIsEligiblePinLaw", name := "pick", desc := "(I)Lcom/example/resumatic/resumatic/core/ReasonCode;" } : Jvm.MethodName) method_3_code (1 : Nat) (Option.some (Jvm.ClassFile.FieldType.object "com/example/resumatic/resumatic/core/ReasonCode"))).before args0 about1 = true := code_word (m := ⟨1, 2⟩) (meth := k1m2) (c := k1c2) (by decide +kernel) rfl rfl rfl (by decide +kernel)
set_option maxRecDepth 65536 in
theorem w_c2 : (Jvm.Cond.code ({ cls := "java/lang/Integer", name := "valueOf", desc := "(I)Ljava/lang/Integer;" } : Jvm.MethodName) jdk_33_method_22_code (1 : Nat) (Option.some (Jvm.ClassFile.FieldType.object "java/lang/Integer"))).before args0 about1 = true := code_word (m := ⟨9, 0⟩) (meth := k9m0) (c := k9c0) (by decide +kernel) rfl rfl rfl (by decide +kernel)
set_option maxRecDepth 65536 in
theorem w_c3 : (Jvm.Cond.code ({ cls := "com/example/resumatic/resumatic/core/ResumeDecision", name := "<init>", desc := "(Lcom/example/resumatic/resumatic/core/ReasonCode;ILjava/lang/Integer;Ljava/lang/String;)V" } : Jvm.MethodName) prog_16_method_1_code (5 : Nat) (Option.none : Option Jvm.ClassFile.FieldType)).before args0 about1 = true := code_word (m := ⟨11, 0⟩) (meth := k11m0) (c := k11c0) (by decide +kernel) rfl rfl rfl (by decide +kernel)
set_option maxRecDepth 65536 in
theorem w_c4 : (Jvm.Cond.code ({ cls := "java/lang/Object", name := "<init>", desc := "()V" } : Jvm.MethodName) object_method_1_code (1 : Nat) (Option.none : Option Jvm.ClassFile.FieldType)).before args0 about1 = true := code_word (m := ⟨0, 0⟩) (meth := k0m0) (c := k0c0) (by decide +kernel) rfl rfl rfl (by decide +kernel)
set_option maxRecDepth 65536 in
theorem w_c5 : (Jvm.Cond.code ({ cls := "com/example/resumatic/resumatic/core/ResumeDecision", name := "isEligible", desc := "()Z" } : Jvm.MethodName) prog_16_method_3_code (1 : Nat) (Option.some Jvm.ClassFile.FieldType.boolean)).before args0 about1 = true := code_word (m := ⟨11, 1⟩) (meth := k11m1) (c := k11c1) (by decide +kernel) rfl rfl rfl (by decide +kernel)
set_option maxRecDepth 65536 in
theorem w_c6 : (Jvm.Cond.code ({ cls := "java/lang/String", name := "<init>", desc := "([C)V" } : Jvm.MethodName) jdk_42_method_3_code (2 : Nat) (Option.none : Option Jvm.ClassFile.FieldType)).before args0 about1 = true := code_word (m := ⟨13, 1⟩) (meth := k13m1) (c := k13c1) (by decide +kernel) rfl rfl rfl (by decide +kernel)
set_option maxRecDepth 65536 in
theorem w_c7 : (Jvm.Cond.code ({ cls := "java/lang/String", name := "<init>", desc := "([CIILjava/lang/Void;)V" } : Jvm.MethodName) jdk_42_method_149_code (6 : Nat) (Option.none : Option Jvm.ClassFile.FieldType)).before args0 about1 = true := code_word (m := ⟨13, 2⟩) (meth := k13m2) (c := k13c2) (by decide +kernel) rfl rfl rfl (by decide +kernel)
set_option maxRecDepth 65536 in
theorem w_c8 : (Jvm.Cond.code ({ cls := "java/lang/StringUTF16", name := "compress", desc := "([CII)[B" } : Jvm.MethodName) jdk_52_method_16_code (6 : Nat) (Option.some (Jvm.ClassFile.FieldType.array Jvm.ClassFile.FieldType.byte))).before args0 about1 = true := code_word (m := ⟨14, 2⟩) (meth := k14m2) (c := k14c2) (by decide +kernel) rfl rfl rfl (by decide +kernel)
set_option maxRecDepth 65536 in
theorem w_c9 : (Jvm.Cond.code ({ cls := "java/lang/StringUTF16", name := "compress", desc := "([CI[BII)I" } : Jvm.MethodName) jdk_52_method_21_code (7 : Nat) (Option.some Jvm.ClassFile.FieldType.int)).before args0 about1 = true := code_word (m := ⟨14, 3⟩) (meth := k14m3) (c := k14c3) (by decide +kernel) rfl rfl rfl (by decide +kernel)
set_option maxRecDepth 65536 in
theorem w_c10 : (Jvm.Cond.code ({ cls := "java/lang/StringUTF16", name := "coderFromArrayLen", desc := "([BI)B" } : Jvm.MethodName) jdk_52_method_15_code (2 : Nat) (Option.some Jvm.ClassFile.FieldType.byte)).before args0 about1 = true := code_word (m := ⟨14, 1⟩) (meth := k14m1) (c := k14c1) (by decide +kernel) rfl rfl rfl (by decide +kernel)
set_option maxRecDepth 65536 in
theorem w_c11 : (Jvm.Cond.code ({ cls := "java/lang/Integer", name := "<init>", desc := "(I)V" } : Jvm.MethodName) jdk_33_method_23_code (2 : Nat) (Option.none : Option Jvm.ClassFile.FieldType)).before args0 about1 = true := code_word (m := ⟨9, 1⟩) (meth := k9m1) (c := k9c1) (by decide +kernel) rfl rfl rfl (by decide +kernel)
set_option maxRecDepth 65536 in
theorem w_c12 : (Jvm.Cond.code ({ cls := "java/lang/Number", name := "<init>", desc := "()V" } : Jvm.MethodName) jdk_18_method_1_code (1 : Nat) (Option.none : Option Jvm.ClassFile.FieldType)).before args0 about1 = true := code_word (m := ⟨7, 0⟩) (meth := k7m0) (c := k7c0) (by decide +kernel) rfl rfl rfl (by decide +kernel)
def codes1 : List Jvm.Cond := [Jvm.Cond.code x code maxLocals ret, Jvm.Cond.code ({ cls := "com/example/resumatic/resumatic/core/ResumeDecisionIsEligiblePinLaw", name := "pick", desc := "(I)Lcom/example/resumatic/resumatic/core/ReasonCode;" } : Jvm.MethodName) method_3_code (1 : Nat) (Option.some (Jvm.ClassFile.FieldType.object "com/example/resumatic/resumatic/core/ReasonCode")), Jvm.Cond.code ({ cls := "java/lang/Integer", name := "valueOf", desc := "(I)Ljava/lang/Integer;" } : Jvm.MethodName) jdk_33_method_22_code (1 : Nat) (Option.some (Jvm.ClassFile.FieldType.object "java/lang/Integer")), Jvm.Cond.code ({ cls := "com/example/resumatic/resumatic/core/ResumeDecision", name := "<init>", desc := "(Lcom/example/resumatic/resumatic/core/ReasonCode;ILjava/lang/Integer;Ljava/lang/String;)V" } : Jvm.MethodName) prog_16_method_1_code (5 : Nat) (Option.none : Option Jvm.ClassFile.FieldType), Jvm.Cond.code ({ cls := "java/lang/Object", name := "<init>", desc := "()V" } : Jvm.MethodName) object_method_1_code (1 : Nat) (Option.none : Option Jvm.ClassFile.FieldType), Jvm.Cond.code ({ cls := "com/example/resumatic/resumatic/core/ResumeDecision", name := "isEligible", desc := "()Z" } : Jvm.MethodName) prog_16_method_3_code (1 : Nat) (Option.some Jvm.ClassFile.FieldType.boolean), Jvm.Cond.code ({ cls := "java/lang/String", name := "<init>", desc := "([C)V" } : Jvm.MethodName) jdk_42_method_3_code (2 : Nat) (Option.none : Option Jvm.ClassFile.FieldType), Jvm.Cond.code ({ cls := "java/lang/String", name := "<init>", desc := "([CIILjava/lang/Void;)V" } : Jvm.MethodName) jdk_42_method_149_code (6 : Nat) (Option.none : Option Jvm.ClassFile.FieldType), Jvm.Cond.code ({ cls := "java/lang/StringUTF16", name := "compress", desc := "([CII)[B" } : Jvm.MethodName) jdk_52_method_16_code (6 : Nat) (Option.some (Jvm.ClassFile.FieldType.array Jvm.ClassFile.FieldType.byte)), Jvm.Cond.code ({ cls := "java/lang/StringUTF16", name := "compress", desc := "([CI[BII)I" } : Jvm.MethodName) jdk_52_method_21_code (7 : Nat) (Option.some Jvm.ClassFile.FieldType.int), Jvm.Cond.code ({ cls := "java/lang/StringUTF16", name := "coderFromArrayLen", desc := "([BI)B" } : Jvm.MethodName) jdk_52_method_15_code (2 : Nat) (Option.some Jvm.ClassFile.FieldType.byte), Jvm.Cond.code ({ cls := "java/lang/Integer", name := "<init>", desc := "(I)V" } : Jvm.MethodName) jdk_33_method_23_code (2 : Nat) (Option.none : Option Jvm.ClassFile.FieldType), Jvm.Cond.code ({ cls := "java/lang/Number", name := "<init>", desc := "()V" } : Jvm.MethodName) jdk_18_method_1_code (1 : Nat) (Option.none : Option Jvm.ClassFile.FieldType)]
set_option maxRecDepth 65536 in
theorem codes_eq : words1.filter isCode = codes1 := rfl
theorem w_codes : ∀ c ∈ words1.filter isCode, c.before args0 about1 = true := by
  rw [codes_eq]
  intro c hc
  simp only [codes1, List.mem_cons, List.not_mem_nil, or_false] at hc
  rcases hc with rfl | rfl | rfl | rfl | rfl | rfl | rfl | rfl | rfl | rfl | rfl | rfl | rfl
  · exact w_c0
  · exact w_c1
  · exact w_c2
  · exact w_c3
  · exact w_c4
  · exact w_c5
  · exact w_c6
  · exact w_c7
  · exact w_c8
  · exact w_c9
  · exact w_c10
  · exact w_c11
  · exact w_c12
set_option maxRecDepth 65536 in
theorem w_t1 : (words1.take 24).all (fun c => isCode c || c.before args0 about1) = true := by decide +kernel
set_option maxRecDepth 65536 in
theorem w_t2 : ((words1.drop 24).take 24).all (fun c => isCode c || c.before args0 about1) = true := by decide +kernel
set_option maxRecDepth 65536 in
theorem w_t3 : (((words1.drop 24).drop 24).take 24).all (fun c => isCode c || c.before args0 about1) = true := by decide +kernel
set_option maxRecDepth 65536 in
theorem w_t4 : (((words1.drop 24).drop 24).drop 24).all (fun c => isCode c || c.before args0 about1) = true := by decide +kernel
theorem w_tables : (allAtoms (Jvm.Cond.code x code maxLocals ret :: tables_1)).before args0 about1 = true := by
  rw [allAtoms_all]
  show words1.all (fun c => c.before args0 about1) = true
  refine all_split ?_ w_codes
  rw [← List.take_append_drop 24 words1, List.all_append, w_t1, ← List.take_append_drop 24 (words1.drop 24), List.all_append, w_t2, ← List.take_append_drop 24 ((words1.drop 24).drop 24), List.all_append, w_t3, w_t4]
  rfl
set_option maxRecDepth 65536 in
theorem w_rest : rest_1_c.before args0 about1 = true := by decide +kernel
set_option maxRecDepth 65536 in
theorem w_case : (Jvm.Cond.and given_1 narrow_1).before args0 about1 = true := by decide +kernel
theorem w_applies : (headSpec (Jvm.Cond.code x code maxLocals ret :: tables_1) room_1).applies x e0.platform about1 = true :=
  (Spec.applies_iff w_frames).mpr ⟨w_running, w_runnable, w_alone, w_named, w_hears, w_ripe, w_room, w_tables⟩
theorem atStart : AtStart classFile x code maxLocals ret World_1 tables_1 room_1 Calls_1 rest_1 Pre_1 launch0 p0 e0 about1 theMethod args0 below0 :=
  ⟨lists_1, trivial, launch0.admits_env _ _ _, launch0.least_env, fairChoices_fair.cas, fairChoices_fair.clock, w_frames, w_args, w_heap, w_applies, trivial, w_rest, w_case⟩
end start1
theorem witness_1 : WitnessClaimed_1 := ⟨start1.p0, start1.e0, start1.about1, start1.theMethod, start1.args0, start1.below0, start1.atStart⟩
end Jvm.Pilot.@@N@@
