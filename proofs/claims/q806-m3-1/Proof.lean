import JvmDerived
import JvmDerived.Pilot.@@N@@Statement
import JvmDerived.Pilot.@@N@@Code
set_option linter.unusedVariables false
set_option linter.unusedSimpArgs false
namespace Jvm.RoadKit
open Sem ClassFile Op Lib Jvm.Stand Jvm.Free Jvm.LawKit
section New
variable {p : Program} {l : Launch} {e : Env} {R : Room} {s : State} {m : MethodId} {args : Array Value} {below : List Frame} {meth : Method} {c : Code} {T : State} {locs : List Loc} {cells slots : Nat}
theorem retI (X : Stand p l e R s m args below meth c T locs cells slots) (hx : p.tables.exec = Jvm.exec) {pc : Nat} {Ls : Array Slot} {z : Int32} {rest : List Value} (hret : meth.sig.returnType = some .int) (hd : decode c.code pc = .ok (.ireturn, 1)) {fs : List Frame}
    (hl : ∀ (f : JFrame) (acts : List Action), f.method = m → f.locked = none → f.entered = [] → (doReturn e (T.setTop f) acts (some (.int z))).1 = T.setFrames fs) : Steps p.tables e below (T.setTop (mkF m pc Ls (.int z :: rest))) (T.setFrames fs) := by
  have hm' : T.vm.method? m = some meth := X.method'
  have hn : narrow .int (.int z) = .int z := rfl
  show Steps p.tables e below (T.setTop { method := m, pc := pc, locals := Ls, stack := _ :: rest, locked := none }) _
  jvm_step X.here [X.here.top, hx, hd, hm', hret, hn]
  first | (intro acts; rw [hl _ acts rfl rfl rfl]) | rw [hl _ _ rfl rfl rfl]
  exact Steps.refl _
theorem own_retJ (X : Stand p l e R s m args below meth c T locs cells slots) (hx : p.tables.exec = Jvm.exec) {pc : Nat} {Ls : Array Slot} {z : Int64} {rest : List Value} (hret : meth.sig.returnType = some .long) (hd : decode c.code pc = .ok (.lreturn, 1)) {fs : List Frame}
    (hl : ∀ (f : JFrame) (acts : List Action), f.method = m → f.locked = none → f.entered = [] → (doReturn e (T.setTop f) acts (some (.long z))).1 = T.setFrames fs) : Steps p.tables e below (T.setTop (mkF m pc Ls (.long z :: rest))) (T.setFrames fs) := by
  have hm' : T.vm.method? m = some meth := X.method'
  have hn : narrow .long (.long z) = .long z := rfl
  show Steps p.tables e below (T.setTop { method := m, pc := pc, locals := Ls, stack := _ :: rest, locked := none }) _
  jvm_step X.here [X.here.top, hx, hd, hm', hret, hn]
  first | (intro acts; rw [hl _ acts rfl rfl rfl]) | rw [hl _ _ rfl rfl rfl]
  exact Steps.refl _
theorem own_cR (a : Addr) : (Value.ref a).category = 1 := rfl
theorem own_cI (a : Int32) : (Value.int a).category = 1 := rfl
theorem own_cJ (a : Int64) : (Value.long a).category = 2 := rfl
theorem own_cN : Value.null.category = 1 := rfl
theorem own_hide (X : Stand p l e R s m args below meth c T locs cells slots) {n0 : Nat} (N : Fr n0 locs) : ∃ lo, Stand p l e R s m args below meth c T lo cells slots ∧ Fr n0 lo := ⟨locs, X, N⟩
theorem own_catV {v : Value} (h : v.isRef = true) : v.category = 1 := by cases v <;> first | rfl | cases h
theorem own_retA (X : Stand p l e R s m args below meth c T locs cells slots) (hx : p.tables.exec = Jvm.exec) {pc : Nat} {Ls : Array Slot} {w : Value} {t : FieldType} {rest : List Value} (hret : meth.sig.returnType = some t) (ht : t.isReference = true) (hw : w.isRef = true) (hd : decode c.code pc = .ok (.areturn, 1)) {fs : List Frame}
    (hl : ∀ (f : JFrame) (acts : List Action), f.method = m → f.locked = none → f.entered = [] → (doReturn e (T.setTop f) acts (some w)).1 = T.setFrames fs) : Steps p.tables e below (T.setTop (mkF m pc Ls (w :: rest))) (T.setFrames fs) := by
  have hm' : T.vm.method? m = some meth := X.method'
  show Steps p.tables e below (T.setTop { method := m, pc := pc, locals := Ls, stack := w :: rest, locked := none }) _
  jvm_step X.here [X.here.top, hx, hd, hm', hret, ht, hw]
  first | (intro acts; rw [hl _ acts rfl rfl rfl]) | rw [hl _ _ rfl rfl rfl]
  exact Steps.refl _
variable {Z : State} {h : Heap}
theorem own_len (X : Stand p l e R s m args below meth c T locs cells slots) (hx : p.tables.exec = Jvm.exec) (hZ : Z.Warmed39 s.vm) (eT : T.heap = h) {a : Addr} {k : ClassId} {ty : FieldType} {z : Int32} {vs : List Value} {dv : Value} (F : Arv Z h a k ty z vs dv) {g : JFrame} (hg : g.method = m) {rest : List Value} (hs : g.stack = .ref a :: rest) (hd : decode c.code g.pc = .ok (.arraylength, 1)) (target : State)
    (hr : Steps p.tables e below (T.setTop { g with pc := g.pc + 1, stack := .int z :: rest }) target) : Steps p.tables e below (T.setTop g) target := by
  obtain ⟨cl, A, -, S, N, -, -⟩ := F
  refine X.arraylength hx (by rw [eT]; exact A.1) (State.isArrayOf_alike hZ.alike A.2.1) hg hs hd _ ?_
  rw [len_of S N]; exact hr
theorem own_aaload (X : Stand p l e R s m args below meth c T locs cells slots) (hx : p.tables.exec = Jvm.exec) (hZ : Z.Warmed39 s.vm) (eT : T.heap = h) {a : Addr} {k : ClassId} {ty : FieldType} {z : Int32} {vs : List Value} {dv : Value} (F : Arv Z h a k ty z vs dv) (hty : ty.isReference = true) {j : Int32} (hj : ¬ j < 0 ∧ j < z) {v : Value} (hv : vs.getD j.toNatClampNeg dv = v) {g : JFrame} (hg : g.method = m) {rest : List Value} (hs : g.stack = .int j :: .ref a :: rest) (hd : decode c.code g.pc = .ok (.aaload, 1)) (target : State)
    (hr : Steps p.tables e below (T.setTop { g with pc := g.pc + 1, stack := v :: rest }) target) : Steps p.tables e below (T.setTop g) target := by
  obtain ⟨cl, A, -, S, N, H, -⟩ := F
  have hin := inb_of S hj
  exact X.aaload hx (by rw [eT]; exact A.1) (State.isArrayOf_alike hZ.alike A.2.1) hty A.2.2 hin (H.at hin hv) hg hs hd _ hr
theorem own_baload (X : Stand p l e R s m args below meth c T locs cells slots) (hx : p.tables.exec = Jvm.exec) (hZ : Z.Warmed39 s.vm) (eT : T.heap = h) {a : Addr} {k : ClassId} {z : Int32} {vs : List Value} {dv : Value} (F : Arv Z h a k .byte z vs dv) {j : Int32} (hj : ¬ j < 0 ∧ j < z) {v : Value} (hv : vs.getD j.toNatClampNeg dv = v) {g : JFrame} (hg : g.method = m) {rest : List Value} (hs : g.stack = .int j :: .ref a :: rest) (hd : decode c.code g.pc = .ok (.baload, 1)) (target : State)
    (hr : Steps p.tables e below (T.setTop { g with pc := g.pc + 1, stack := v :: rest }) target) : Steps p.tables e below (T.setTop g) target := by
  obtain ⟨cl, A, -, S, N, H, -⟩ := F
  have hin := inb_of S hj
  exact X.baloadBytes hx (by rw [eT]; exact A.1) (State.isArrayOf_alike hZ.alike A.2.1) A.2.2 hin (H.at hin hv) hg hs hd _ hr
theorem own_stR (X : Stand p l e R s m args below meth c T locs cells slots) (hx : p.tables.exec = Jvm.exec) (hZ : Z.Warmed39 s.vm) (eT : T.heap = h) {a y : Addr} {k : ClassId} {C : String} {z : Int32} {vs : List Value} {dv : Value} (F : Arv Z h a k (.object C) z vs dv) (O : Ovr Z k C) (I : Ins Z h y C true) {j : Int32} (hj : ¬ j < 0 ∧ j < z) {i : Nat} (hi : j.toNatClampNeg = i) (hl : i < vs.length) {g : JFrame} (hg : g.method = m) {rest : List Value} (hs : g.stack = .ref y :: .int j :: .ref a :: rest) (hd : decode c.code g.pc = .ok (.aastore, 1)) :
    ∃ T' h', Stand p l e R s m args below meth c T' (locs ++ [⟨a, j.toNatClampNeg⟩]) cells slots ∧ T'.heap = h' ∧ Wr h h' a j.toNatClampNeg (.ref y) ∧ Arv Z h' a k (.object C) z (vs.set i (.ref y)) dv ∧ ∀ target, Steps p.tables e below (T'.setTop { g with pc := g.pc + 1, stack := rest }) target → Steps p.tables e below (T.setTop g) target := by
  obtain ⟨cl, A, q, S, N, H, G⟩ := F
  obtain ⟨T', h', X', e', W, st⟩ := stR X hx hZ eT A (inb_of S hj) rfl (Sto.ofV A q O I) hg hs hd
  exact ⟨T', h', X', e', W, Arv.set A q S N H G rfl W i hi hl, st⟩
theorem own_stC (X : Stand p l e R s m args below meth c T locs cells slots) (hx : p.tables.exec = Jvm.exec) (hZ : Z.Warmed39 s.vm) (eT : T.heap = h) {a : Addr} {k : ClassId} {z x : Int32} {vs : List Value} {dv : Value} (F : Arv Z h a k .char z vs dv) {j : Int32} (hj : ¬ j < 0 ∧ j < z) {i : Nat} (hi : j.toNatClampNeg = i) (hl : i < vs.length) {g : JFrame} (hg : g.method = m) {rest : List Value} (hs : g.stack = .int x :: .int j :: .ref a :: rest) (hd : decode c.code g.pc = .ok (.castore, 1)) :
    ∃ T' h', Stand p l e R s m args below meth c T' (locs ++ [⟨a, j.toNatClampNeg⟩]) cells slots ∧ T'.heap = h' ∧ Wr h h' a j.toNatClampNeg (.int (nar .char x)) ∧ Arv Z h' a k .char z (vs.set i (.int (nar .char x))) dv ∧ ∀ target, Steps p.tables e below (T'.setTop { g with pc := g.pc + 1, stack := rest }) target → Steps p.tables e below (T.setTop g) target := by
  obtain ⟨cl, A, q, S, N, H, G⟩ := F
  obtain ⟨T', h', X', e', W, st⟩ := stC X hx hZ eT A (inb_of S hj) hg hs hd
  exact ⟨T', h', X', e', W, Arv.set A q S N H G (fits_nar_char _) W i hi hl, st⟩
theorem own_stB (X : Stand p l e R s m args below meth c T locs cells slots) (hx : p.tables.exec = Jvm.exec) (hZ : Z.Warmed39 s.vm) (eT : T.heap = h) {a : Addr} {k : ClassId} {z x : Int32} {vs : List Value} {dv : Value} (F : Arv Z h a k .byte z vs dv) {j : Int32} (hj : ¬ j < 0 ∧ j < z) {i : Nat} (hi : j.toNatClampNeg = i) (hl : i < vs.length) {g : JFrame} (hg : g.method = m) {rest : List Value} (hs : g.stack = .int x :: .int j :: .ref a :: rest) (hd : decode c.code g.pc = .ok (.bastore, 1)) :
    ∃ T' h', Stand p l e R s m args below meth c T' (locs ++ [⟨a, j.toNatClampNeg⟩]) cells slots ∧ T'.heap = h' ∧ Wr h h' a j.toNatClampNeg (.int (nar .byte x)) ∧ Arv Z h' a k .byte z (vs.set i (.int (nar .byte x))) dv ∧ ∀ target, Steps p.tables e below (T'.setTop { g with pc := g.pc + 1, stack := rest }) target → Steps p.tables e below (T.setTop g) target := by
  obtain ⟨cl, A, q, S, N, H, G⟩ := F
  obtain ⟨T', h', X', e', W, st⟩ := stB X hx hZ eT A (inb_of S hj) hg hs hd
  exact ⟨T', h', X', e', W, Arv.set A q S N H G (fits_nar_byte _) W i hi hl, st⟩
end New
end Jvm.RoadKit
namespace Jvm.Pilot.@@N@@
open Jvm Jvm.ClassFile Sem Op Lib Jvm.Free Jvm.Stand Jvm.LawKit Jvm.RoadKit Bundle Jvm.Pilot.@@N@@.Jvm.D
abbrev oI (x : Int32) : Slot := .val (.int x)
abbrev oJ (x : Int64) : Slot := .val (.long x)
abbrev oR (a : Addr) : Slot := .val (.ref a)
abbrev oN : Slot := .val .null
abbrev oV (v : Value) : Slot := .val v
abbrev oU : Slot := .unset
abbrev oS : Slot := .second
abbrev oP (p : Program) (e : Env) (below : List Frame) (T : State) (g : JFrame) (t : State) : Prop := Steps p.tables e below (T.setTop g) t
def own_svW (Z : State) (C n d : String) (k : Nat) : Addr :=
  match k with
  | 0 => match (Term.static C n d).eval #[] Z none [] Z with | some (.ref a) => a | _ => 0
  | j + 1 => own_svW Z C n d j
termination_by k
def own_sv (Z : State) (C n d : String) : Addr := own_svW Z C n d 0
theorem own_sv_eq (Z : State) (C n d : String) : own_sv Z C n d = match (Term.static C n d).eval #[] Z none [] Z with | some (.ref a) => a | _ => 0 := by
  unfold own_sv own_svW
  rfl
theorem own_sv_of {Z : State} {args : Array Value} {C n d : String} {a : Addr} (h : (Term.static C n d).eval args Z none [] Z = some (.ref a)) : (Term.static C n d).eval args Z none [] Z = some (.ref (own_sv Z C n d)) := by
  have h' : (Term.static C n d).eval #[] Z none [] Z = some (.ref a) := h
  rw [h, own_sv_eq, h']
theorem own_at {Z : State} {args : Array Value} {C n d K : String} (h : (Cond.exactly (Term.static C n d) K).value args Z none Z [] = some true) : (Term.static C n d).eval args Z none [] Z = some (.ref (own_sv Z C n d)) := by
  obtain ⟨a, ha⟩ := exa_v h
  exact own_sv_of ha
theorem own_sta {Z : State} {args : Array Value} {C n d K : String} (h : (Cond.exactly (Term.static C n d) K).value args Z none Z [] = some true) (hi : (Cond.initializedFor C n d).before args Z = true ∨ ((Cond.initialized C).before args Z = true ∧ (Cond.laysStatic C n d).before args Z = true)) : Sta Z Z.heap C n d (.ref (own_sv Z C n d)) := Sta.start (own_at h) hi
theorem own_exa {Z : State} {args : Array Value} {C n d K : String} (h : (Cond.exactly (Term.static C n d) K).value args Z none Z [] = some true) : Exa Z Z.heap (own_sv Z C n d) K := Exa.start (own_at h) h
theorem own_fldV {Z : State} {args : Array Value} {C n d O f fd : String} {v : Value} (h : (Term.field (Term.static C n d) O f fd).eval args Z none [] Z = some v) : Fld Z Z.heap (own_sv Z C n d) O f fd v := by
  obtain ⟨a, ha⟩ := fld_v h
  rw [fld_at (own_sv_of ha)] at h
  exact Fld.start h
theorem own_fldI {Z : State} {args : Array Value} {C n d O f fd : String} {k : Int32} (h : (Cond.eq (Term.field (Term.static C n d) O f fd) (Term.int k)).value args Z none Z [] = some true) : Fld Z Z.heap (own_sv Z C n d) O f fd (.int k) := by
  refine own_fldV (args := args) ?_
  cases hv : (Term.field (Term.static C n d) O f fd).eval args Z none [] Z with
  | none => simp [Cond.value, hv] at h
  | some v => cases v <;> simp_all [Cond.value, Term.eval]
abbrev own_Q (Q : Option Value → Heap → List Loc → Prop) (v : Option Value) (h : Heap) (L : List Loc) : Prop := Q v h L
theorem own_ite {P : Addr → Prop} {c : Prop} [Decidable c] {a b : Addr} (ha : P a) (hb : P b) : P (if c then a else b) := by split <;> assumption
theorem own_clamp (x : Int32) : x.toNatClampNeg = x.toInt.toNat := rfl
theorem own_and_le (x c : Int32) (hc : 0 ≤ c.toInt) : 0 ≤ (x &&& c).toInt ∧ (x &&& c).toInt ≤ c.toInt := by
  have hm : c.toBitVec.msb = false := by
    cases h : c.toBitVec.msb with
    | false => rfl
    | true =>
      have := BitVec.toInt_neg_of_msb_true h
      rw [Int32.toInt_toBitVec] at this
      omega
  have h : (x &&& c).toBitVec.msb = false := by
    rw [Int32.toBitVec_and, BitVec.msb_and, hm]; simp
  have e1 : (x &&& c).toInt = ((x &&& c).toBitVec.toNat : Int) := by
    rw [← Int32.toInt_toBitVec, BitVec.toInt_eq_toNat_of_msb h]
  have e2 : c.toInt = (c.toBitVec.toNat : Int) := by
    rw [← Int32.toInt_toBitVec, BitVec.toInt_eq_toNat_of_msb hm]
  have h3 : (x &&& c).toBitVec.toNat ≤ c.toBitVec.toNat := by
    rw [Int32.toBitVec_and, BitVec.toNat_and]; exact Nat.and_le_right
  omega
theorem own_rem {x y : Int32} (hx : 0 ≤ x.toInt) (hy : 0 < y.toInt) : (x - (x / y) * y).toInt = x.toInt % y.toInt := by
  have h1 : (x / y).toInt = x.toInt / y.toInt := by
    rw [Int32.toInt_div]
    rw [Int.tdiv_eq_ediv_of_nonneg hx]
    have := Int32.toInt_lt x
    have h2 : 0 ≤ x.toInt / y.toInt := Int.ediv_nonneg hx (by omega)
    have h3 : x.toInt / y.toInt ≤ x.toInt := Int.ediv_le_self _ hx
    apply Int.bmod_eq_of_le <;> omega
  rw [Int32.toInt_sub, Int32.toInt_mul, h1]
  have h2 : 0 ≤ x.toInt / y.toInt * y.toInt := Int.mul_nonneg (Int.ediv_nonneg hx (by omega)) (by omega)
  have h3 : x.toInt / y.toInt * y.toInt ≤ x.toInt := Int.ediv_mul_le _ (by omega)
  have h4 := Int32.toInt_lt x
  rw [Int.bmod_eq_of_le (n := x.toInt / y.toInt * y.toInt) (by omega) (by omega)]
  have h5 : x.toInt - x.toInt / y.toInt * y.toInt = x.toInt % y.toInt := by
    have := Int.emod_add_mul_ediv x.toInt y.toInt
    have h6 : x.toInt / y.toInt * y.toInt = y.toInt * (x.toInt / y.toInt) := Int.mul_comm _ _
    omega
  rw [h5]
  have h6 := Int.emod_nonneg x.toInt (b := y.toInt) (by omega)
  have h7 := Int.emod_lt_of_pos x.toInt hy
  have h8 := Int32.toInt_lt y
  apply Int.bmod_eq_of_le <;> omega
theorem own_mem {i : Int32} {n : Nat} (h0 : 0 ≤ i.toInt) (h1 : i.toInt < n) : ∃ k, k < n ∧ i = Int32.ofNat k := by
  refine ⟨i.toInt.toNat, by omega, ?_⟩
  apply Int32.toInt_inj.mp
  have := Int32.toInt_lt i
  rw [Int32.toInt_ofNat_of_lt (by omega)]
  omega
theorem own_old_le {Z : State} {n0 : Nat} {h : Heap} (O : Old Z n0 h) : n0 ≤ h.size := O.1 ▸ O.2.1
def own_Vals (Z : State) (a : Addr) (ty : FieldType) (z : Int32) (vs : List Value) (dv : Value) : Prop := ∃ cl : Cell, Arr Z Z.heap a cl ty ∧ FitC Z cl ∧ cl.slots.size = z.toNatClampNeg ∧ Has cl vs dv ∧ ∀ i, i < cl.slots.size → fits ty (vs.getD i dv) = true
theorem own_clone {Z : State} {h : Heap} {b : Addr} {cl : Cell} {ty : FieldType} {z : Int32} {vs : List Value} {dv : Value} (A : Arr Z h b (cloneOf cl) ty) (S : cl.slots.size = z.toNatClampNeg) (hz : ¬ z < 0) (H : Has cl vs dv) (G : ∀ i, i < cl.slots.size → fits ty (vs.getD i dv) = true) : Arv Z h b cl.cls ty z vs dv := ⟨_, A, rfl, S, hz, H, G⟩
theorem own_elem {Z : State} {args : Array Value} {C n d C2 n2 d2 : String} {i : Int32} {cl : Cell} {ty : FieldType} {j : Nat} (h : (Cond.eq (Term.elem (Term.static C n d) (Term.int i)) (Term.static C2 n2 d2)).value args Z none Z [] = some true) (ht : (Term.static C2 n2 d2).eval args Z none [] Z = some (.ref (own_sv Z C2 n2 d2))) (A : Arr Z Z.heap (own_sv Z C n d) cl ty) (hj : i.toNatClampNeg = j) : cl.slots[j]? = some (.ref (own_sv Z C2 n2 d2)) := by
  subst hj
  have hi : (Term.int i).eval args Z none [] Z = some (.int i) := Term.int_eval i
  cases hv : (Term.elem (Term.static C n d) (Term.int i)).eval args Z none [] Z with
  | none => simp [Cond.value, hv] at h
  | some w =>
    obtain ⟨⟨x, hx⟩, -⟩ := elem_v hv
    have h2 := (elem_in hv (own_sv_of hx) hi A.1).2
    rw [h2]
    cases w <;> simp_all [Cond.value]
theorem own_getD {P : Value → Prop} {dv : Value} (hd : P dv) : ∀ (vs : List Value) (h : ∀ v ∈ vs, P v) (i : Nat), P (vs.getD i dv)
  | [], _, _ => by simpa using hd
  | v :: vs, h, 0 => h v (List.mem_cons_self ..)
  | v :: vs, h, i + 1 => own_getD hd vs (fun w hw => h w (List.mem_cons_of_mem _ hw)) i
theorem own_vals {Z : State} {args : Array Value} {C n d C2 : String} {k : Int32} {vs : List Value} (hf : Fit Z) (h1 : (Cond.arrayOf (Term.static C n d) (.object C2)).value args Z none Z [] = some true) (h2 : (Cond.eq (Term.length (Term.static C n d)) (Term.int k)).value args Z none Z [] = some true) (hl : k.toNatClampNeg = vs.length) (hk : ¬ k < 0)
    (h3 : ∀ cl, Arr Z Z.heap (own_sv Z C n d) cl (.object C2) → HasL cl 0 vs) (h4 : ∀ v ∈ vs, fits (.object C2) v = true) : own_Vals Z (own_sv Z C n d) (.object C2) k vs .null := by
  obtain ⟨x, hx⟩ := arr_v h1
  have ev := own_sv_of hx
  obtain ⟨cl, A⟩ := Arr.start ev h1
  have hs : cl.slots.size = k.toNatClampNeg := by
    cases hv : (Term.length (Term.static C n d)).eval args Z none [] Z with
    | none => simp [Cond.value, hv] at h2
    | some w =>
      obtain ⟨a, cell, e1, e2, e3⟩ := Term.length_spec hv
      cases ev.symm.trans e1
      have e4 := A.fin (Vm.Alike.refl _)
      cases e4.symm.trans e2
      have hlt : cl.slots.size < 2 ^ 31 := SBG.length_lt ev e4 hv
      subst e3
      have e5 : cl.slots.size.toInt32 = k := by
        have hi : (Term.int k).eval args Z none [] Z = some (.int k) := Term.int_eval k
        simpa [Cond.value, hv, hi] using h2
      rw [← e5]
      have e6 := len_toInt hlt
      simp only [own_clamp]
      omega
  have H := h3 cl A
  refine ⟨cl, A, FitC.start hf A, hs, fun i hi => ?_, fun i _ => own_getD (P := fun v => fits (.object C2) v = true) rfl vs h4 i⟩
  have := HasL.at (dv := .null) vs 0 H i (by omega)
  simpa using this
theorem own_fldN {Z : State} {args : Array Value} {C n d O f fd : String} (h : (Cond.eq (Term.field (Term.static C n d) O f fd) Term.null).value args Z none Z [] = some true) : Fld Z Z.heap (own_sv Z C n d) O f fd .null := own_fldV (args := args) (null_v h)
theorem own_fldS {Z : State} {args : Array Value} {C n d O f fd C2 n2 d2 K2 : String} (h : (Cond.eq (Term.field (Term.static C n d) O f fd) (Term.static C2 n2 d2)).value args Z none Z [] = some true) (h2 : (Cond.exactly (Term.static C2 n2 d2) K2).value args Z none Z [] = some true) : Fld Z Z.heap (own_sv Z C n d) O f fd (.ref (own_sv Z C2 n2 d2)) := by
  refine own_fldV (args := args) ?_
  have e2 := own_at h2
  cases hv : (Term.field (Term.static C n d) O f fd).eval args Z none [] Z with
  | none => simp [Cond.value, hv] at h
  | some v => cases v <;> simp_all [Cond.value]
theorem own_fldL {Z : State} {args : Array Value} {C n d O f fd : String} {k : Int64} (h : (Cond.eq (Term.field (Term.static C n d) O f fd) (Term.long k)).value args Z none Z [] = some true) : Fld Z Z.heap (own_sv Z C n d) O f fd (.long k) := by
  refine own_fldV (args := args) ?_
  cases hv : (Term.field (Term.static C n d) O f fd).eval args Z none [] Z with
  | none => simp [Cond.value, hv] at h
  | some v => cases v <;> simp_all [Cond.value, Term.eval]
theorem own_staI {Z : State} {args : Array Value} {C n d : String} {k : Int32} (h : (Cond.eq (Term.static C n d) (Term.int k)).value args Z none Z [] = some true) (hi : (Cond.initializedFor C n d).before args Z = true ∨ ((Cond.initialized C).before args Z = true ∧ (Cond.laysStatic C n d).before args Z = true)) : Sta Z Z.heap C n d (.int k) := by
  refine Sta.start (args := args) ?_ hi
  cases hv : (Term.static C n d).eval args Z none [] Z with
  | none => simp [Cond.value, hv] at h
  | some v =>
    have hk : (Term.int k).eval args Z none [] Z = some (.int k) := Term.int_eval k
    cases v <;> simp_all [Cond.value]
def own_Cache (Z : State) (a : Addr) (C : String) (n : Nat) : Prop := ∃ cl : Cell, Arr Z Z.heap a cl (.object C) ∧ cl.slots.size = n ∧ ∀ j, j < n → ∃ x, cl.slots[j]? = some (.ref x) ∧ Exa Z Z.heap x C
theorem own_nsroot {Z : State} {a0 : Array Value} {O K : String} {n : Nat} (w : (Cond.noSuperclass O).before a0 Z = true) (wk : (Cond.instantiable K n).before a0 Z = true) (hn : O ≠ K) : NS Z O K := by
  obtain ⟨c, k, h1, h2, h3, -, -⟩ := Cond.noSuperclass_spec w
  obtain ⟨t, kt, g1, -⟩ := Cond.instantiable_spec wk
  have ne := ids_ne h1 g1 hn
  refine ⟨c, t, h1, g1, fun fuel => ?_⟩
  cases fuel with
  | zero => rfl
  | succ f => simp [Vm.isSubclassAux, ne, h2, h3]
theorem own_nsno {Z : State} {a0 : Array Value} {C S K : String} {n : Nat} (w : (Cond.superclass C S).before a0 Z = true) (wk : (Cond.instantiable K n).before a0 Z = true) (m : NS Z C K) (hn : C ≠ K) : ∃ c t, Z.vm.findClass C = some c ∧ Z.vm.findClass K = some t ∧ Z.vm.assignable c t = false := by
  obtain ⟨c, t, h0, g0, n3⟩ := m
  obtain ⟨p, k, kp, h1, h2, h3, h4, h5, -, h7⟩ := Cond.superclass_spec h0 w
  obtain ⟨t', k', g1, g2, g3, g4, -⟩ := Cond.instantiable_spec wk
  cases g0.symm.trans g1
  have g5 : k'.isInterface = false := by
    cases hq : k'.isInterface with
    | false => rfl
    | true => simp [hq] at g4
  have ne := ids_ne h0 g0 hn
  refine ⟨c, t, h0, g0, ?_⟩
  show Z.vm.assignableAux (255 + 1) c t = false
  simp [Vm.assignableAux, ne, h2, g2, h5, g3, g5, Vm.isSubclass, n3]
theorem own_fitsR {v : Value} {C : String} (h : v.isRef = true) : fits (.object C) v = true := by cases v <;> simp_all [Value.isRef, fits]
def own_si (Z : State) (C n d : String) : Int32 := match (Term.static C n d).eval #[] Z none [] Z with | some (.int a) => a | _ => 0
theorem own_si_of {Z : State} {args : Array Value} {C n d : String} (h : (Cond.isInt (Term.static C n d)).value args Z none Z [] = some true) : (Term.static C n d).eval args Z none [] Z = some (.int (own_si Z C n d)) := by
  obtain ⟨x, hx⟩ := is_v h
  have h' : (Term.static C n d).eval #[] Z none [] Z = some (.int x) := hx
  rw [hx]; unfold own_si; rw [h']
theorem own_sti {Z : State} {args : Array Value} {C n d : String} (h : (Cond.isInt (Term.static C n d)).value args Z none Z [] = some true) (hi : (Cond.initializedFor C n d).before args Z = true ∨ ((Cond.initialized C).before args Z = true ∧ (Cond.laysStatic C n d).before args Z = true)) : Sta Z Z.heap C n d (.int (own_si Z C n d)) := Sta.start (own_si_of h) hi
theorem own_stn {Z : State} {args : Array Value} {C n d : String} (h : (Cond.isInt (Term.static C n d)).value args Z none Z [] = some true) (hn : (Cond.not (Cond.eq (Term.static C n d) (Term.int 0))).value args Z none Z [] = some true) : ¬ own_si Z C n d = 0 := by
  have e := own_si_of h
  have h0 : (Term.int 0).eval args Z none [] Z = some (.int 0) := Term.int_eval 0
  have q := not_v hn
  intro z
  rw [z] at e
  simp [Cond.value, e, h0] at q
theorem own_char {c x : Int32} (h : c = (x &&& (255 : Int32))) : ¬ c < 0 ∧ ¬ (255 : Int32) < c := by
  have q := own_and_le x 255 (by decide)
  rw [← h] at q
  have e : (255 : Int32).toInt = 255 := by decide
  have e0 : (0 : Int32).toInt = 0 := by decide
  rw [Int32.lt_iff_toInt_lt, Int32.lt_iff_toInt_lt, e, e0]
  omega
theorem own_narc {c : Int32} (h : ¬ c < 0 ∧ ¬ (255 : Int32) < c) : nar .char c = c := by
  rw [Int32.lt_iff_toInt_lt, Int32.lt_iff_toInt_lt] at h
  have e : (255 : Int32).toInt = 255 := by decide
  have e0 : (0 : Int32).toInt = 0 := by decide
  rw [e, e0] at h
  obtain ⟨k, hk, rfl⟩ := own_mem (i := c) (n := 256) (by omega) (by omega)
  have t : ∀ k : Fin 256, nar .char (Int32.ofNat k.val) = Int32.ofNat k.val := by decide +kernel
  exact t ⟨k, hk⟩
theorem own_hb {cs : List Int32} (h : ∀ c ∈ cs, ¬ c < 0 ∧ ¬ (255 : Int32) < c) : ∀ c ∈ cs, ¬ c < 0 ∧ ¬ (65535 : Int32) < c := fun c hc => by
  have q := h c hc
  refine ⟨q.1, fun z => q.2 ?_⟩
  rw [Int32.lt_iff_toInt_lt] at z ⊢
  have e : (255 : Int32).toInt = 255 := by decide
  have e0 : (65535 : Int32).toInt = 65535 := by decide
  omega
theorem own_eqv {v : Option Value} {cs ds : List Int32} (h : (v = some (.int 1) ∧ cs = ds) ∨ (v = some (.int 0) ∧ ¬ cs = ds)) : v = some (.int (if cs = ds then (1 : Int32) else (0 : Int32))) := by
  rcases h with ⟨h1, h2⟩ | ⟨h1, h2⟩
  · rw [if_pos h2]; exact h1
  · rw [if_neg h2]; exact h1
theorem own_since (s : State) : s.Since s.vm 0 := (State.WarmedH.refl s).since 0
theorem own_rwmono {s t : State} {o : Outcome} {L : List Loc} {k n k' n' : Nat} (h : ReturnedEndW s o t L k n) (hk : k ≤ k') (hn : n ≤ n') : ReturnedEndW s o t L k' n' := ⟨h.1, h.2.1, h.2.2.1, h.2.2.2.mono hk hn⟩
theorem own_cache {Z : State} {args : Array Value} {C n d K : String} {k : Int32} {N : Nat} {rest : Cond} (h1 : (Cond.arrayOf (Term.static C n d) (.object K)).value args Z none Z [] = some true) (h2 : (Cond.eq (Term.length (Term.static C n d)) (Term.int k)).value args Z none Z [] = some true)
    (h3 : (Cond.all (Term.static C n d) (.and (.exactly (.elem (Term.static C n d) (.index 0)) K) rest)).value args Z none Z [] = some true) (hN : k.toNatClampNeg = N) : own_Cache Z (own_sv Z C n d) K N := by
  obtain ⟨x, hx⟩ := arr_v h1
  have ev := own_sv_of hx
  obtain ⟨cl, A⟩ := Arr.start ev h1
  have e4 := A.fin (Vm.Alike.refl _)
  have hs : cl.slots.size = k.toNatClampNeg ∧ cl.slots.size < 2 ^ 31 := by
    cases hv : (Term.length (Term.static C n d)).eval args Z none [] Z with
    | none => simp [Cond.value, hv] at h2
    | some w =>
      obtain ⟨a, cell, e1, e2, e3⟩ := Term.length_spec hv
      cases ev.symm.trans e1
      cases e4.symm.trans e2
      have hlt : cl.slots.size < 2 ^ 31 := SBG.length_lt ev e4 hv
      subst e3
      have e5 : cl.slots.size.toInt32 = k := by
        have hi : (Term.int k).eval args Z none [] Z = some (.int k) := Term.int_eval k
        simpa [Cond.value, hv, hi] using h2
      rw [← e5]
      have e6 := len_toInt hlt
      refine ⟨?_, hlt⟩
      simp only [own_clamp]
      omega
  refine ⟨cl, A, hs.1.trans hN, fun j hj => ?_⟩
  have q := Cond.all_elim ev e4 h3 j (by omega)
  obtain ⟨q1, -⟩ := and_e q
  obtain ⟨y, hy⟩ := exa_v q1
  have ev' : (Term.static C n d).eval args Z none [j] Z = some (.ref (own_sv Z C n d)) := ev
  have hj' : (Term.index 0).eval args Z none [j] Z = some (.int (Int32.ofNat j)) := Term.index_eval _
  have r := (elem_in hy ev' hj' A.1).2
  have e6 : (Int32.ofNat j).toNatClampNeg = j := by
    have := len_toInt (n := j) (by omega)
    simp only [own_clamp]
    have e7 : (Int32.ofNat j).toInt = j := this
    omega
  rw [e6] at r
  exact ⟨y, r, exa_at hy q1⟩
theorem own_cacheix {p : Int32} {cl : Cell} (h1 : ¬ p < (-128 : Int32)) (h2 : ¬ (127 : Int32) < p) (S : cl.slots.size = 256) : ¬ (p + (128 : Int32) < 0 ∨ cl.slots.size ≤ (p + (128 : Int32)).toNatClampNeg) ∧ (p + (128 : Int32)).toNatClampNeg < 256 := by
  rw [Int32.lt_iff_toInt_lt] at h1 h2 ⊢
  have e1 : (-128 : Int32).toInt = -128 := by decide
  have e2 : (127 : Int32).toInt = 127 := by decide
  have e3 : (0 : Int32).toInt = 0 := by decide
  have e4 : (128 : Int32).toInt = 128 := by decide
  have e5 : (p + (128 : Int32)).toInt = p.toInt + 128 := by
    rw [Int32.toInt_add, e4]
    apply Int.bmod_eq_of_le <;> omega
  simp only [own_clamp]
  omega
theorem own_staA {Z : State} {args : Array Value} {C n d : String} {ty : FieldType} (h : (Cond.arrayOf (Term.static C n d) ty).value args Z none Z [] = some true) (hi : (Cond.initializedFor C n d).before args Z = true ∨ ((Cond.initialized C).before args Z = true ∧ (Cond.laysStatic C n d).before args Z = true)) : Sta Z Z.heap C n d (.ref (own_sv Z C n d)) := by
  obtain ⟨a, ha⟩ := arr_v h
  exact Sta.start (own_sv_of ha) hi
end Jvm.Pilot.@@N@@
namespace Jvm.Pilot.@@N@@
open Jvm Jvm.ClassFile Sem Op Lib Jvm.Free Jvm.Stand Jvm.LawKit Jvm.RoadKit Bundle Jvm.Pilot.@@N@@.Jvm.D
theorem wi {a0 : Array Value} {Z : State} (hw : ∀ d ∈ tables_1, d.before a0 Z = true) (i : Nat) {d : Jvm.Cond} (h : tables_1[i]? = some d) : d.before a0 Z = true := hw _ (List.mem_of_getElem? h)
def chv (p0 : Int32) : Int32 := if p0 < (26 : Int32) then ((((65 : Int32) + p0).toInt8.toInt32).toInt8.toInt32) else if p0 < (52 : Int32) then ((((97 : Int32) + (p0 - (26 : Int32))).toInt8.toInt32).toInt8.toInt32) else if p0 < (62 : Int32) then ((((48 : Int32) + (p0 - (52 : Int32))).toInt8.toInt32).toInt8.toInt32) else if p0 = (62 : Int32) then (43 : Int32) else (47 : Int32)
def own_Tab (Z : State) (a : Addr) : Prop := ∃ cl : Cell, Arr Z Z.heap a cl .int ∧ cl.slots.size = 256 ∧ ∀ k : Nat, k < 64 → cl.slots[((chv (Int32.ofNat k)) &&& (255 : Int32)).toNatClampNeg]? = some (.int (Int32.ofNat k))
theorem own_or {args : Array Value} {Z : State} {idx : List Nat} {A B : Jvm.Cond} (h : (Jvm.Cond.or A B).value args Z none Z idx = some true) (hA : A.value args Z none Z idx = some false) : B.value args Z none Z idx = some true := by simpa [Cond.value, hA] using h
theorem own_eqI {args : Array Value} {Z : State} {idx : List Nat} {t u : Term} {k : Int32} (h : (Jvm.Cond.eq t u).value args Z none Z idx = some true) (hu : u.eval args Z none idx Z = some (.int k)) : t.eval args Z none idx Z = some (.int k) := by
  cases hv : t.eval args Z none idx Z with
  | none => simp [Cond.value, hv] at h
  | some w => cases w <;> simp_all [Cond.value]
theorem own_eqJ {args : Array Value} {Z : State} {idx : List Nat} {t u : Term} {k : Int64} (h : (Jvm.Cond.eq t u).value args Z none Z idx = some true) (hu : u.eval args Z none idx Z = some (.long k)) : t.eval args Z none idx Z = some (.long k) := by
  cases hv : t.eval args Z none idx Z with
  | none => simp [Cond.value, hv] at h
  | some w => cases w <;> simp_all [Cond.value]
theorem own_i2l {args : Array Value} {Z : State} {idx : List Nat} {t : Term} {k : Int64} (h : (Term.op1 .i2l t).eval args Z none idx Z = some (.long k)) : ∃ v : Int32, t.eval args Z none idx Z = some (.int v) ∧ v.toInt64 = k := by
  cases hv : t.eval args Z none idx Z with
  | none => simp [Term.eval, hv] at h
  | some w =>
    rw [op1_f hv] at h
    cases w with
    | int v =>
      have h2 : some (Value.long v.toInt64) = some (Value.long k) := h
      exact ⟨v, rfl, by simpa using h2⟩
    | _ =>
      have h2 : (none : Option Value) = some (Value.long k) := h
      cases h2
theorem own_at4 {args : Array Value} {Z : State} {a : Addr} {cl : Cell} {t : Term} {j : Nat} {k : Int32} (ev : ∀ idx, t.eval args Z none idx Z = some (.ref a)) (A : Arr Z Z.heap a cl .int) (hj : j < 256) (h : (Term.elem t (.index 0)).eval args Z none [j] Z = some (.int k)) : cl.slots[j]? = some (.int k) := by
  have hi : (Term.index 0).eval args Z none [j] Z = some (.int (Int32.ofNat j)) := Term.index_eval _
  have r := (elem_in h (ev [j]) hi A.1).2
  have e6 : (Int32.ofNat j).toNatClampNeg = j := by
    have e7 : (Int32.ofNat j).toInt = j := len_toInt (n := j) (by omega)
    simp only [own_clamp]
    omega
  rw [e6] at r
  exact r
theorem own_tab {Z : State} {args : Array Value} {C n d : String} (h0 : (Jvm.Cond.arrayOf (Term.static C n d) .int).value args Z none Z [] = some true) (h1 : (Jvm.Cond.eq (Term.length (Term.static C n d)) (Term.int 256)).value args Z none Z [] = some true)
    (h3 : (Jvm.Cond.eq (Term.elem (Term.static C n d) (Term.int 43)) (Term.int 62)).value args Z none Z [] = some true) (h7 : (Jvm.Cond.eq (Term.elem (Term.static C n d) (Term.int 47)) (Term.int 63)).value args Z none Z [] = some true)
    (h8 : (Jvm.Cond.all (Term.static C n d) (.or (.lt (.index 0) (.int 48)) (.or (.le (.int 58) (.index 0)) (.eq (.op1 .i2l (.elem (Term.static C n d) (.index 0))) (.op2 .ladd (.op1 .i2l (.index 0)) (.long 4)))))).value args Z none Z [] = some true)
    (h10 : (Jvm.Cond.all (Term.static C n d) (.or (.lt (.index 0) (.int 65)) (.or (.le (.int 91) (.index 0)) (.eq (.elem (Term.static C n d) (.index 0)) (.sub (.index 0) (.int 65)))))).value args Z none Z [] = some true)
    (h12 : (Jvm.Cond.all (Term.static C n d) (.or (.lt (.index 0) (.int 97)) (.or (.le (.int 123) (.index 0)) (.eq (.elem (Term.static C n d) (.index 0)) (.sub (.index 0) (.int 71)))))).value args Z none Z [] = some true) : own_Tab Z (own_sv Z C n d) := by
  obtain ⟨x, hx⟩ := arr_v h0
  have ev := own_sv_of hx
  have ev' : ∀ idx, (Term.static C n d).eval args Z none idx Z = some (.ref (own_sv Z C n d)) := fun _ => ev
  obtain ⟨cl, A⟩ := Arr.start ev h0
  have e4 := A.fin (Vm.Alike.refl _)
  have hs : cl.slots.size = 256 := by
    cases hv : (Term.length (Term.static C n d)).eval args Z none [] Z with
    | none => simp [Cond.value, hv] at h1
    | some w =>
      obtain ⟨a, cell, e1, e2, e3⟩ := Term.length_spec hv
      cases ev.symm.trans e1
      cases e4.symm.trans e2
      have hlt : cl.slots.size < 2 ^ 31 := SBG.length_lt ev e4 hv
      subst e3
      have e5 : cl.slots.size.toInt32 = (256 : Int32) := by
        have hi : (Term.int 256).eval args Z none [] Z = some (.int 256) := Term.int_eval 256
        simpa [Cond.value, hv, hi] using h1
      have e6 := len_toInt hlt
      rw [e5] at e6
      have e7 : (256 : Int32).toInt = 256 := by decide
      omega
  have hi : ∀ j, (Term.index 0).eval args Z none [j] Z = some (.int (Int32.ofNat j)) := fun j => Term.index_eval _
  have hc : ∀ (k : Int32) (j : Nat), (Term.int k).eval args Z none [j] Z = some (.int k) := fun k j => Term.int_eval k
  have one : ∀ (j : Nat) (k : Int32), (Term.elem (Term.static C n d) (Term.int (Int32.ofNat j))).eval args Z none [] Z = some (.int k) → j < 256 → cl.slots[j]? = some (.int k) := fun j k h hj => by
    have r := (elem_in h ev (Term.int_eval _) A.1).2
    have e6 : (Int32.ofNat j).toNatClampNeg = j := by
      have e7 : (Int32.ofNat j).toInt = j := len_toInt (n := j) (by omega)
      simp only [own_clamp]
      omega
    rw [e6] at r
    exact r
  refine ⟨cl, A, hs, fun k hk => ?_⟩
  by_cases k1 : k < 26
  · have t1 : ∀ k : Fin 26, ((chv (Int32.ofNat k.val)) &&& (255 : Int32)).toNatClampNeg = 65 + k.val ∧ ¬ (Int32.ofNat (65 + k.val) < (65 : Int32)) ∧ ¬ ((91 : Int32) ≤ Int32.ofNat (65 + k.val)) ∧ Int32.ofNat (65 + k.val) - 65 = Int32.ofNat k.val := by decide +kernel
    obtain ⟨a1, a2, a3, a4⟩ := t1 ⟨k, k1⟩
    rw [a1]
    have q := Cond.all_elim ev e4 h10 (65 + k) (by omega)
    have q1 := own_or q ((Cond.lt_ints (hi _) (hc _ _)).trans (congrArg some (decide_eq_false a2)))
    have q2 := own_or q1 ((Cond.le_ints (hc _ _) (hi _)).trans (congrArg some (decide_eq_false a3)))
    refine own_at4 ev' A (by omega) (own_eqI q2 ((Term.sub_int (hi _) (hc _ _)).trans (congrArg (fun z => some (Value.int z)) a4)))
  by_cases k2 : k < 52
  · have t1 : ∀ k : Fin 26, ((chv (Int32.ofNat (26 + k.val))) &&& (255 : Int32)).toNatClampNeg = 97 + k.val ∧ ¬ (Int32.ofNat (97 + k.val) < (97 : Int32)) ∧ ¬ ((123 : Int32) ≤ Int32.ofNat (97 + k.val)) ∧ Int32.ofNat (97 + k.val) - 71 = Int32.ofNat (26 + k.val) := by decide +kernel
    obtain ⟨a1, a2, a3, a4⟩ := t1 ⟨k - 26, by omega⟩
    simp only [] at a1 a2 a3 a4
    rw [show 26 + (k - 26) = k by omega] at a1 a4
    rw [a1]
    have q := Cond.all_elim ev e4 h12 (97 + (k - 26)) (by omega)
    have q1 := own_or q ((Cond.lt_ints (hi _) (hc _ _)).trans (congrArg some (decide_eq_false a2)))
    have q2 := own_or q1 ((Cond.le_ints (hc _ _) (hi _)).trans (congrArg some (decide_eq_false a3)))
    refine own_at4 ev' A (by omega) (own_eqI q2 ((Term.sub_int (hi _) (hc _ _)).trans (congrArg (fun z => some (Value.int z)) a4)))
  by_cases k3 : k < 62
  · have t1 : ∀ k : Fin 10, ((chv (Int32.ofNat (52 + k.val))) &&& (255 : Int32)).toNatClampNeg = 48 + k.val ∧ ¬ (Int32.ofNat (48 + k.val) < (48 : Int32)) ∧ ¬ ((58 : Int32) ≤ Int32.ofNat (48 + k.val)) ∧ ((Int32.ofNat (48 + k.val)).toInt64 + 4) = (Int32.ofNat (52 + k.val)).toInt64 := by decide +kernel
    obtain ⟨a1, a2, a3, a4⟩ := t1 ⟨k - 52, by omega⟩
    simp only [] at a1 a2 a3 a4
    rw [show 52 + (k - 52) = k by omega] at a1 a4
    rw [a1]
    have q := Cond.all_elim ev e4 h8 (48 + (k - 52)) (by omega)
    have q1 := own_or q ((Cond.lt_ints (hi _) (hc _ _)).trans (congrArg some (decide_eq_false a2)))
    have q2 := own_or q1 ((Cond.le_ints (hc _ _) (hi _)).trans (congrArg some (decide_eq_false a3)))
    refine own_at4 ev' A (by omega) ?_
    have u1 : (Term.op1 .i2l (.index 0)).eval args Z none [48 + (k - 52)] Z = some (.long (Int32.ofNat (48 + (k - 52))).toInt64) := (op1_f (hi _)).trans rfl
    have u2 : (Term.op2 .ladd (.op1 .i2l (.index 0)) (.long 4)).eval args Z none [48 + (k - 52)] Z = some (.long ((Int32.ofNat (48 + (k - 52))).toInt64 + 4)) := (op2_f u1 rfl).trans rfl
    obtain ⟨v, u3, u5⟩ := own_i2l (own_eqJ q2 u2)
    rw [a4] at u5
    have u6 : v = Int32.ofNat k := by
      have := congrArg Int64.toInt u5
      rw [Int32.toInt_toInt64, Int32.toInt_toInt64] at this
      exact Int32.toInt_inj.mp this
    rw [u3, u6]
  by_cases k4 : k = 62
  · subst k4
    exact one 43 62 (own_eqI h3 (Term.int_eval _)) (by omega)
  · obtain rfl : k = 63 := by omega
    exact one 47 63 (own_eqI h7 (Term.int_eval _)) (by omega)

def a_VALUES (Z : State) : Addr := own_sv Z "com/example/meerkat/meerkat/Base64Codec" "VALUES" "[I"
def St (Z : State) : Prop := (Sta Z Z.heap "com/example/meerkat/meerkat/Base64Codec" "VALUES" "[I" (.ref (a_VALUES Z))) ∧ (own_Tab Z (a_VALUES Z))
theorem s_a_VALUES {Z : State} (h : St Z) : Sta Z Z.heap "com/example/meerkat/meerkat/Base64Codec" "VALUES" "[I" (.ref (a_VALUES Z)) := h.1
theorem t_tab {Z : State} (h : St Z) : own_Tab Z (a_VALUES Z) := h.2
theorem d6_0 : decode method_4_code 0 = .ok (.lload_n 0, 1) := by decide +kernel
theorem d6_1 : decode method_4_code 1 = .ok (.bipush 6, 2) := by decide +kernel
theorem d6_3 : decode method_4_code 3 = .ok (.iload_n 2, 1) := by decide +kernel
theorem d6_4 : decode method_4_code 4 = .ok (.imul, 1) := by decide +kernel
theorem d6_5 : decode method_4_code 5 = .ok (.lushr, 1) := by decide +kernel
theorem d6_6 : decode method_4_code 6 = .ok (.ldc2_w 27, 3) := by decide +kernel
theorem d6_9 : decode method_4_code 9 = .ok (.land, 1) := by decide +kernel
theorem d6_10 : decode method_4_code 10 = .ok (.l2i, 1) := by decide +kernel
theorem d6_11 : decode method_4_code 11 = .ok (.ireturn, 1) := by decide +kernel
def fn6 (Z : State) (q0 : Int64) (p1 : Int32) : Int32 :=
  ((((q0.toUInt64 >>> (((6 : Int32) * p1) &&& 0x3f).toInt64.toUInt64).toInt64) &&& (63 : Int64)).toInt32)
theorem ef_6 (m : MethodId) (x0 : Int64) (x1 : Int32) : entryFrame m #[(.long x0), (.int x1)] 3 = mkF m 0 #[.val (.long x0), .second, .val (.int x1)] [] := by first | (simp [entryFrame, mkF, argsToLocals, Value.category]; done) | rfl
theorem pn_0 : plainName "com/example/meerkat/meerkat/Base64CodecDecodePinLaw" = true := by first | (simp [plainName, overriddenIn]; done) | decide +kernel
set_option maxRecDepth 65536 in
set_option maxHeartbeats 40000000 in
theorem rm6 (l : Launch) (Z : State) (a0 : Array Value) (hw : ∀ d ∈ tables_1, d.before a0 Z = true) (hS : St Z) (ws : List Jvm.Cond) (q0 : Int64) (p1 : Int32) (h0 : Heap) (n0 : Nat) (O0 : Old Z n0 h0) :
    MetFree l (⟨"com/example/meerkat/meerkat/Base64CodecDecodePinLaw", "dig", "(JI)I"⟩ : MethodName) (head1 (Jvm.Cond.code (⟨"com/example/meerkat/meerkat/Base64CodecDecodePinLaw", "dig", "(JI)I"⟩ : MethodName) method_4_code 3 (some .int) :: ws) ({ frames := 0, cells := 0, slots := 0, locals := 0 } : Room)) (fun a U => a = #[(.long q0), (.int p1)] ∧ Z.Warmed39 U.vm ∧ U.heap = h0) (fun _ _ _ _ _ => True) (fun _ U o U' => ∃ v L, o = .returned v ∧ own_Q (fun v hE L => v = some (.int (fn6 Z q0 p1)) ∧ Fr n0 L ∧ hE = h0) v U'.heap L ∧ FrameEnd U o U' L ({ frames := 0, cells := 0, slots := 0, locals := 0 } : Room).cells ({ frames := 0, cells := 0, slots := 0, locals := 0 } : Room).slots) := by
  refine MetFree.of_bodySF (plainFor_of_name pn_0) hisR ?_
  intro p e s m args below meth c s₁ Bd hml0 hP hK
  obtain ⟨rfl, hZ, hh⟩ := hP
  have hx := Bd.exec
  have hby := Bd.bytes
  have hml : c.maxLocals = 3 := hml0
  have hown : s.vm.findClass "com/example/meerkat/meerkat/Base64CodecDecodePinLaw" = some m.cls := findClass_of_methodNamed Bd.named
  have X0 : Stand p l e ({ frames := 0, cells := 0, slots := 0, locals := 0 } : Room) s m #[(.long q0), (.int p1)] below meth c s₁ [] 0 0 := Stand.of_body Bd
  have e0 : s₁.heap = h0 := by rw [← hh, Bd.state]; rfl
  have N0 := Fr.nil n0
  have pre0 : ∀ t, Steps p.tables e below (s₁.setTop (mkF m 0 #[oJ q0, oS, oI p1] [])) t → Steps p.tables e below (s₁.setTop (entryFrame m #[(.long q0), (.int p1)] 3)) t := fun t k => castTop (ef_6 m q0 p1) k
  obtain ⟨fs, hr, hrun, hended, hW, hsame⟩ := X0.leave (v := some (.int ((((q0.toUInt64 >>> (((6 : Int32) * p1) &&& 0x3f).toInt64.toUInt64).toInt64) &&& (63 : Int64)).toInt32))) (fun h => by rw [Bd.returns] at h; cases h)
  refine ⟨_, _, pre0 _ ?_, hrun, hended, _, _, rfl, ?_, ⟨_, rfl⟩, hW, hsame.mono (by decide) (by decide)⟩
  · show oP p e below s₁ (mkF m 0 #[oJ q0, oS, oI p1] []) _
    refine XS.lloadN X0.here hx rfl (hb hby d6_0) rfl ?_
    show oP p e below s₁ (mkF m 1 #[oJ q0, oS, oI p1] [(.long q0)]) _
    refine XS.bipush X0.here hx rfl (hb hby d6_1) ?_
    refine XS.iloadN X0.here hx rfl (hb hby d6_3) rfl ?_
    refine XS.imul X0.here hx rfl (hb hby d6_4) rfl ?_
    show oP p e below s₁ (mkF m 5 #[oJ q0, oS, oI p1] [(.int ((6 : Int32) * p1)), (.long q0)]) _
    refine XS.lushr X0.here hx rfl (hb hby d6_5) rfl ?_
    show oP p e below s₁ (mkF m 6 #[oJ q0, oS, oI p1] [(.long ((q0.toUInt64 >>> (((6 : Int32) * p1) &&& 0x3f).toInt64.toUInt64).toInt64))]) _
    refine X0.ldc2Long hx hown (mvT hZ (wi hw 22 rfl)) (g := (mkF m 6 #[oJ q0, oS, oI p1] [(.long ((q0.toUInt64 >>> (((6 : Int32) * p1) &&& 0x3f).toInt64.toUInt64).toInt64))])) rfl (hb hby d6_6) _ ?_
    show oP p e below s₁ (mkF m 9 #[oJ q0, oS, oI p1] [(.long (63 : Int64)), (.long ((q0.toUInt64 >>> (((6 : Int32) * p1) &&& 0x3f).toInt64.toUInt64).toInt64))]) _
    refine XS.land X0.here hx rfl (hb hby d6_9) rfl ?_
    show oP p e below s₁ (mkF m 10 #[oJ q0, oS, oI p1] [(.long (((q0.toUInt64 >>> (((6 : Int32) * p1) &&& 0x3f).toInt64.toUInt64).toInt64) &&& (63 : Int64)))]) _
    refine XS.l2i X0.here hx rfl (hb hby d6_10) rfl ?_
    show oP p e below s₁ (mkF m 11 #[oJ q0, oS, oI p1] [(.int ((((q0.toUInt64 >>> (((6 : Int32) * p1) &&& 0x3f).toInt64.toUInt64).toInt64) &&& (63 : Int64)).toInt32))]) _
    exact retI X0 hx Bd.returns (hb hby d6_11) hr
  · show (some (.int ((((q0.toUInt64 >>> (((6 : Int32) * p1) &&& 0x3f).toInt64.toUInt64).toInt64) &&& (63 : Int64)).toInt32)) : Option Value) = some (.int (fn6 Z q0 p1)) ∧ Fr n0 _ ∧ s₁.heap = h0
    rw [e0]
    refine ⟨?_, N0, rfl⟩
    rfl
theorem d7_0 : decode method_5_code 0 = .ok (.iload_n 0, 1) := by decide +kernel
theorem d7_1 : decode method_5_code 1 = .ok (.bipush 26, 2) := by decide +kernel
theorem d7_3 : decode method_5_code 3 = .ok (.if_icmp .ge 9, 3) := by decide +kernel
theorem d7_6 : decode method_5_code 6 = .ok (.bipush 65, 2) := by decide +kernel
theorem d7_8 : decode method_5_code 8 = .ok (.iload_n 0, 1) := by decide +kernel
theorem d7_9 : decode method_5_code 9 = .ok (.iadd, 1) := by decide +kernel
theorem d7_10 : decode method_5_code 10 = .ok (.i2b, 1) := by decide +kernel
theorem d7_11 : decode method_5_code 11 = .ok (.ireturn, 1) := by decide +kernel
theorem d7_12 : decode method_5_code 12 = .ok (.iload_n 0, 1) := by decide +kernel
theorem d7_13 : decode method_5_code 13 = .ok (.bipush 52, 2) := by decide +kernel
theorem d7_15 : decode method_5_code 15 = .ok (.if_icmp .ge 12, 3) := by decide +kernel
theorem d7_18 : decode method_5_code 18 = .ok (.bipush 97, 2) := by decide +kernel
theorem d7_20 : decode method_5_code 20 = .ok (.iload_n 0, 1) := by decide +kernel
theorem d7_21 : decode method_5_code 21 = .ok (.bipush 26, 2) := by decide +kernel
theorem d7_23 : decode method_5_code 23 = .ok (.isub, 1) := by decide +kernel
theorem d7_24 : decode method_5_code 24 = .ok (.iadd, 1) := by decide +kernel
theorem d7_25 : decode method_5_code 25 = .ok (.i2b, 1) := by decide +kernel
theorem d7_26 : decode method_5_code 26 = .ok (.ireturn, 1) := by decide +kernel
theorem d7_27 : decode method_5_code 27 = .ok (.iload_n 0, 1) := by decide +kernel
theorem d7_28 : decode method_5_code 28 = .ok (.bipush 62, 2) := by decide +kernel
theorem d7_30 : decode method_5_code 30 = .ok (.if_icmp .ge 12, 3) := by decide +kernel
theorem d7_33 : decode method_5_code 33 = .ok (.bipush 48, 2) := by decide +kernel
theorem d7_35 : decode method_5_code 35 = .ok (.iload_n 0, 1) := by decide +kernel
theorem d7_36 : decode method_5_code 36 = .ok (.bipush 52, 2) := by decide +kernel
theorem d7_38 : decode method_5_code 38 = .ok (.isub, 1) := by decide +kernel
theorem d7_39 : decode method_5_code 39 = .ok (.iadd, 1) := by decide +kernel
theorem d7_40 : decode method_5_code 40 = .ok (.i2b, 1) := by decide +kernel
theorem d7_41 : decode method_5_code 41 = .ok (.ireturn, 1) := by decide +kernel
theorem d7_42 : decode method_5_code 42 = .ok (.iload_n 0, 1) := by decide +kernel
theorem d7_43 : decode method_5_code 43 = .ok (.bipush 62, 2) := by decide +kernel
theorem d7_45 : decode method_5_code 45 = .ok (.if_icmp .ne 6, 3) := by decide +kernel
theorem d7_48 : decode method_5_code 48 = .ok (.bipush 43, 2) := by decide +kernel
theorem d7_50 : decode method_5_code 50 = .ok (.ireturn, 1) := by decide +kernel
theorem d7_51 : decode method_5_code 51 = .ok (.bipush 47, 2) := by decide +kernel
theorem d7_53 : decode method_5_code 53 = .ok (.ireturn, 1) := by decide +kernel
def fn7 (Z : State) (p0 : Int32) : Int32 :=
  if p0 < (26 : Int32) then
    ((((65 : Int32) + p0).toInt8.toInt32).toInt8.toInt32)
  else
    if p0 < (52 : Int32) then
      ((((97 : Int32) + (p0 - (26 : Int32))).toInt8.toInt32).toInt8.toInt32)
    else
      if p0 < (62 : Int32) then
        ((((48 : Int32) + (p0 - (52 : Int32))).toInt8.toInt32).toInt8.toInt32)
      else
        if p0 = (62 : Int32) then
          (43 : Int32)
        else
          (47 : Int32)
theorem ef_7 (m : MethodId) (x0 : Int32) : entryFrame m #[(.int x0)] 1 = mkF m 0 #[.val (.int x0)] [] := by first | (simp [entryFrame, mkF, argsToLocals, Value.category]; done) | rfl
set_option maxRecDepth 65536 in
set_option maxHeartbeats 40000000 in
theorem rm7 (l : Launch) (Z : State) (a0 : Array Value) (hw : ∀ d ∈ tables_1, d.before a0 Z = true) (hS : St Z) (ws : List Jvm.Cond) (p0 : Int32) (h0 : Heap) (n0 : Nat) (O0 : Old Z n0 h0) :
    MetFree l (⟨"com/example/meerkat/meerkat/Base64CodecDecodePinLaw", "ch", "(I)B"⟩ : MethodName) (head1 (Jvm.Cond.code (⟨"com/example/meerkat/meerkat/Base64CodecDecodePinLaw", "ch", "(I)B"⟩ : MethodName) method_5_code 1 (some .byte) :: ws) ({ frames := 0, cells := 0, slots := 0, locals := 0 } : Room)) (fun a U => a = #[(.int p0)] ∧ Z.Warmed39 U.vm ∧ U.heap = h0) (fun _ _ _ _ _ => True) (fun _ U o U' => ∃ v L, o = .returned v ∧ own_Q (fun v hE L => v = some (.int (fn7 Z p0)) ∧ Fr n0 L ∧ hE = h0) v U'.heap L ∧ FrameEnd U o U' L ({ frames := 0, cells := 0, slots := 0, locals := 0 } : Room).cells ({ frames := 0, cells := 0, slots := 0, locals := 0 } : Room).slots) := by
  refine MetFree.of_bodySF (plainFor_of_name pn_0) hisR ?_
  intro p e s m args below meth c s₁ Bd hml0 hP hK
  obtain ⟨rfl, hZ, hh⟩ := hP
  have hx := Bd.exec
  have hby := Bd.bytes
  have hml : c.maxLocals = 1 := hml0
  have hown : s.vm.findClass "com/example/meerkat/meerkat/Base64CodecDecodePinLaw" = some m.cls := findClass_of_methodNamed Bd.named
  have X0 : Stand p l e ({ frames := 0, cells := 0, slots := 0, locals := 0 } : Room) s m #[(.int p0)] below meth c s₁ [] 0 0 := Stand.of_body Bd
  have e0 : s₁.heap = h0 := by rw [← hh, Bd.state]; rfl
  have N0 := Fr.nil n0
  have pre0 : ∀ t, Steps p.tables e below (s₁.setTop (mkF m 0 #[oI p0] [])) t → Steps p.tables e below (s₁.setTop (entryFrame m #[(.int p0)] 1)) t := fun t k => castTop (ef_7 m p0) k
  have pre1 : ∀ t, oP p e below s₁ (mkF m 3 #[oI p0] [(.int 26), (.int p0)]) t → oP p e below s₁ (entryFrame m #[(.int p0)] 1) t := fun t k => pre0 t (by
    show oP p e below s₁ (mkF m 0 #[oI p0] []) _
    refine XS.iloadN X0.here hx rfl (hb hby d7_0) rfl ?_
    refine XS.bipush X0.here hx rfl (hb hby d7_1) ?_
    exact k)
  by_cases hc2 : p0 < (26 : Int32)
  · obtain ⟨fs, hr, hrun, hended, hW, hsame⟩ := X0.leave (v := some (.int ((((65 : Int32) + p0).toInt8.toInt32).toInt8.toInt32))) (fun h => by rw [Bd.returns] at h; cases h)
    refine ⟨_, _, pre1 _ ?_, hrun, hended, _, _, rfl, ?_, ⟨_, rfl⟩, hW, hsame.mono (by decide) (by decide)⟩
    · show oP p e below s₁ (mkF m 3 #[oI p0] [(.int 26), (.int p0)]) _
      refine XS.icmpNo X0.here hx rfl (hb hby d7_3) rfl (tlt hc2).2.1 ?_
      show oP p e below s₁ (mkF m 6 #[oI p0] []) _
      refine XS.bipush X0.here hx rfl (hb hby d7_6) ?_
      refine XS.iloadN X0.here hx rfl (hb hby d7_8) rfl ?_
      refine XS.iadd X0.here hx rfl (hb hby d7_9) rfl ?_
      show oP p e below s₁ (mkF m 10 #[oI p0] [(.int ((65 : Int32) + p0))]) _
      refine XS.i2b X0.here hx rfl (hb hby d7_10) rfl ?_
      show oP p e below s₁ (mkF m 11 #[oI p0] [(.int (((65 : Int32) + p0).toInt8.toInt32))]) _
      exact retN X0 hx (t := .byte) Bd.returns (by simp) (hb hby d7_11) hr
    · show (some (.int ((((65 : Int32) + p0).toInt8.toInt32).toInt8.toInt32)) : Option Value) = some (.int (fn7 Z p0)) ∧ Fr n0 _ ∧ s₁.heap = h0
      rw [e0]
      refine ⟨?_, N0, rfl⟩
      unfold fn7
      rw [if_pos hc2]
  · have pre3 : ∀ t, oP p e below s₁ (mkF m 15 #[oI p0] [(.int 52), (.int p0)]) t → oP p e below s₁ (entryFrame m #[(.int p0)] 1) t := fun t k => pre1 t (by
      show oP p e below s₁ (mkF m 3 #[oI p0] [(.int 26), (.int p0)]) _
      refine XS.icmpYes X0.here hx rfl (pc0 := 3) (pc' := 12) rfl (hb hby d7_3) rfl (flt hc2).2.1 (by decide) (by decide) ?_
      show oP p e below s₁ (mkF m 12 #[oI p0] []) _
      refine XS.iloadN X0.here hx rfl (hb hby d7_12) rfl ?_
      refine XS.bipush X0.here hx rfl (hb hby d7_13) ?_
      exact k)
    by_cases hc4 : p0 < (52 : Int32)
    · obtain ⟨fs, hr, hrun, hended, hW, hsame⟩ := X0.leave (v := some (.int ((((97 : Int32) + (p0 - (26 : Int32))).toInt8.toInt32).toInt8.toInt32))) (fun h => by rw [Bd.returns] at h; cases h)
      refine ⟨_, _, pre3 _ ?_, hrun, hended, _, _, rfl, ?_, ⟨_, rfl⟩, hW, hsame.mono (by decide) (by decide)⟩
      · show oP p e below s₁ (mkF m 15 #[oI p0] [(.int 52), (.int p0)]) _
        refine XS.icmpNo X0.here hx rfl (hb hby d7_15) rfl (tlt hc4).2.1 ?_
        show oP p e below s₁ (mkF m 18 #[oI p0] []) _
        refine XS.bipush X0.here hx rfl (hb hby d7_18) ?_
        refine XS.iloadN X0.here hx rfl (hb hby d7_20) rfl ?_
        refine XS.bipush X0.here hx rfl (hb hby d7_21) ?_
        refine XS.isub X0.here hx rfl (hb hby d7_23) rfl ?_
        show oP p e below s₁ (mkF m 24 #[oI p0] [(.int (p0 - (26 : Int32))), (.int 97)]) _
        refine XS.iadd X0.here hx rfl (hb hby d7_24) rfl ?_
        show oP p e below s₁ (mkF m 25 #[oI p0] [(.int ((97 : Int32) + (p0 - (26 : Int32))))]) _
        refine XS.i2b X0.here hx rfl (hb hby d7_25) rfl ?_
        show oP p e below s₁ (mkF m 26 #[oI p0] [(.int (((97 : Int32) + (p0 - (26 : Int32))).toInt8.toInt32))]) _
        exact retN X0 hx (t := .byte) Bd.returns (by simp) (hb hby d7_26) hr
      · show (some (.int ((((97 : Int32) + (p0 - (26 : Int32))).toInt8.toInt32).toInt8.toInt32)) : Option Value) = some (.int (fn7 Z p0)) ∧ Fr n0 _ ∧ s₁.heap = h0
        rw [e0]
        refine ⟨?_, N0, rfl⟩
        unfold fn7
        rw [if_neg hc2, if_pos hc4]
    · have pre5 : ∀ t, oP p e below s₁ (mkF m 30 #[oI p0] [(.int 62), (.int p0)]) t → oP p e below s₁ (entryFrame m #[(.int p0)] 1) t := fun t k => pre3 t (by
        show oP p e below s₁ (mkF m 15 #[oI p0] [(.int 52), (.int p0)]) _
        refine XS.icmpYes X0.here hx rfl (pc0 := 15) (pc' := 27) rfl (hb hby d7_15) rfl (flt hc4).2.1 (by decide) (by decide) ?_
        show oP p e below s₁ (mkF m 27 #[oI p0] []) _
        refine XS.iloadN X0.here hx rfl (hb hby d7_27) rfl ?_
        refine XS.bipush X0.here hx rfl (hb hby d7_28) ?_
        exact k)
      by_cases hc6 : p0 < (62 : Int32)
      · obtain ⟨fs, hr, hrun, hended, hW, hsame⟩ := X0.leave (v := some (.int ((((48 : Int32) + (p0 - (52 : Int32))).toInt8.toInt32).toInt8.toInt32))) (fun h => by rw [Bd.returns] at h; cases h)
        refine ⟨_, _, pre5 _ ?_, hrun, hended, _, _, rfl, ?_, ⟨_, rfl⟩, hW, hsame.mono (by decide) (by decide)⟩
        · show oP p e below s₁ (mkF m 30 #[oI p0] [(.int 62), (.int p0)]) _
          refine XS.icmpNo X0.here hx rfl (hb hby d7_30) rfl (tlt hc6).2.1 ?_
          show oP p e below s₁ (mkF m 33 #[oI p0] []) _
          refine XS.bipush X0.here hx rfl (hb hby d7_33) ?_
          refine XS.iloadN X0.here hx rfl (hb hby d7_35) rfl ?_
          refine XS.bipush X0.here hx rfl (hb hby d7_36) ?_
          refine XS.isub X0.here hx rfl (hb hby d7_38) rfl ?_
          show oP p e below s₁ (mkF m 39 #[oI p0] [(.int (p0 - (52 : Int32))), (.int 48)]) _
          refine XS.iadd X0.here hx rfl (hb hby d7_39) rfl ?_
          show oP p e below s₁ (mkF m 40 #[oI p0] [(.int ((48 : Int32) + (p0 - (52 : Int32))))]) _
          refine XS.i2b X0.here hx rfl (hb hby d7_40) rfl ?_
          show oP p e below s₁ (mkF m 41 #[oI p0] [(.int (((48 : Int32) + (p0 - (52 : Int32))).toInt8.toInt32))]) _
          exact retN X0 hx (t := .byte) Bd.returns (by simp) (hb hby d7_41) hr
        · show (some (.int ((((48 : Int32) + (p0 - (52 : Int32))).toInt8.toInt32).toInt8.toInt32)) : Option Value) = some (.int (fn7 Z p0)) ∧ Fr n0 _ ∧ s₁.heap = h0
          rw [e0]
          refine ⟨?_, N0, rfl⟩
          unfold fn7
          rw [if_neg hc2, if_neg hc4, if_pos hc6]
      · have pre7 : ∀ t, oP p e below s₁ (mkF m 45 #[oI p0] [(.int 62), (.int p0)]) t → oP p e below s₁ (entryFrame m #[(.int p0)] 1) t := fun t k => pre5 t (by
          show oP p e below s₁ (mkF m 30 #[oI p0] [(.int 62), (.int p0)]) _
          refine XS.icmpYes X0.here hx rfl (pc0 := 30) (pc' := 42) rfl (hb hby d7_30) rfl (flt hc6).2.1 (by decide) (by decide) ?_
          show oP p e below s₁ (mkF m 42 #[oI p0] []) _
          refine XS.iloadN X0.here hx rfl (hb hby d7_42) rfl ?_
          refine XS.bipush X0.here hx rfl (hb hby d7_43) ?_
          exact k)
        by_cases hc8 : p0 = (62 : Int32)
        · obtain ⟨fs, hr, hrun, hended, hW, hsame⟩ := X0.leave (v := some (.int 43)) (fun h => by rw [Bd.returns] at h; cases h)
          refine ⟨_, _, pre7 _ ?_, hrun, hended, _, _, rfl, ?_, ⟨_, rfl⟩, hW, hsame.mono (by decide) (by decide)⟩
          · show oP p e below s₁ (mkF m 45 #[oI p0] [(.int 62), (.int p0)]) _
            refine XS.icmpNo X0.here hx rfl (hb hby d7_45) rfl (teq hc8).2 ?_
            show oP p e below s₁ (mkF m 48 #[oI p0] []) _
            refine XS.bipush X0.here hx rfl (hb hby d7_48) ?_
            show oP p e below s₁ (mkF m 50 #[oI p0] [(.int 43)]) _
            exact retN X0 hx (t := .byte) Bd.returns (by simp) (hb hby d7_50) hr
          · show (some (.int 43) : Option Value) = some (.int (fn7 Z p0)) ∧ Fr n0 _ ∧ s₁.heap = h0
            rw [e0]
            refine ⟨?_, N0, rfl⟩
            unfold fn7
            rw [if_neg hc2, if_neg hc4, if_neg hc6, if_pos hc8]
        · obtain ⟨fs, hr, hrun, hended, hW, hsame⟩ := X0.leave (v := some (.int 47)) (fun h => by rw [Bd.returns] at h; cases h)
          refine ⟨_, _, pre7 _ ?_, hrun, hended, _, _, rfl, ?_, ⟨_, rfl⟩, hW, hsame.mono (by decide) (by decide)⟩
          · show oP p e below s₁ (mkF m 45 #[oI p0] [(.int 62), (.int p0)]) _
            refine XS.icmpYes X0.here hx rfl (pc0 := 45) (pc' := 51) rfl (hb hby d7_45) rfl (feq hc8).2 (by decide) (by decide) ?_
            show oP p e below s₁ (mkF m 51 #[oI p0] []) _
            refine XS.bipush X0.here hx rfl (hb hby d7_51) ?_
            show oP p e below s₁ (mkF m 53 #[oI p0] [(.int 47)]) _
            exact retN X0 hx (t := .byte) Bd.returns (by simp) (hb hby d7_53) hr
          · show (some (.int 47) : Option Value) = some (.int (fn7 Z p0)) ∧ Fr n0 _ ∧ s₁.heap = h0
            rw [e0]
            refine ⟨?_, N0, rfl⟩
            unfold fn7
            rw [if_neg hc2, if_neg hc4, if_neg hc6, if_neg hc8]
theorem d1_0 : decode method_6_code 0 = .ok (.iload_n 0, 1) := by decide +kernel
theorem d1_1 : decode method_6_code 1 = .ok (.iconst 4, 1) := by decide +kernel
theorem d1_2 : decode method_6_code 2 = .ok (.iload_n 1, 1) := by decide +kernel
theorem d1_3 : decode method_6_code 3 = .ok (.imul, 1) := by decide +kernel
theorem d1_4 : decode method_6_code 4 = .ok (.if_icmp .ge 12, 3) := by decide +kernel
theorem d1_7 : decode method_6_code 7 = .ok (.lload_n 3, 1) := by decide +kernel
theorem d1_8 : decode method_6_code 8 = .ok (.iload_n 0, 1) := by decide +kernel
theorem d1_9 : decode method_6_code 9 = .ok (.invokestatic 29, 3) := by decide +kernel
theorem pd_0 : parseMethodDescriptor "(JI)I" = some ⟨[.long, .int], some .int⟩ := by decide +kernel
theorem d1_12 : decode method_6_code 12 = .ok (.invokestatic 33, 3) := by decide +kernel
theorem pd_1 : parseMethodDescriptor "(I)B" = some ⟨[.int], some .byte⟩ := by decide +kernel
theorem d1_15 : decode method_6_code 15 = .ok (.ireturn, 1) := by decide +kernel
theorem d1_16 : decode method_6_code 16 = .ok (.iload_n 0, 1) := by decide +kernel
theorem d1_17 : decode method_6_code 17 = .ok (.iconst 4, 1) := by decide +kernel
theorem d1_18 : decode method_6_code 18 = .ok (.iload_n 1, 1) := by decide +kernel
theorem d1_19 : decode method_6_code 19 = .ok (.imul, 1) := by decide +kernel
theorem d1_20 : decode method_6_code 20 = .ok (.iload_n 2, 1) := by decide +kernel
theorem d1_21 : decode method_6_code 21 = .ok (.iadd, 1) := by decide +kernel
theorem d1_22 : decode method_6_code 22 = .ok (.if_icmp .ge 17, 3) := by decide +kernel
theorem d1_25 : decode method_6_code 25 = .ok (.lload 5, 2) := by decide +kernel
theorem d1_27 : decode method_6_code 27 = .ok (.iload_n 0, 1) := by decide +kernel
theorem d1_28 : decode method_6_code 28 = .ok (.iconst 4, 1) := by decide +kernel
theorem d1_29 : decode method_6_code 29 = .ok (.iload_n 1, 1) := by decide +kernel
theorem d1_30 : decode method_6_code 30 = .ok (.imul, 1) := by decide +kernel
theorem d1_31 : decode method_6_code 31 = .ok (.isub, 1) := by decide +kernel
theorem d1_32 : decode method_6_code 32 = .ok (.invokestatic 29, 3) := by decide +kernel
theorem d1_35 : decode method_6_code 35 = .ok (.invokestatic 33, 3) := by decide +kernel
theorem d1_38 : decode method_6_code 38 = .ok (.ireturn, 1) := by decide +kernel
theorem d1_39 : decode method_6_code 39 = .ok (.bipush 61, 2) := by decide +kernel
theorem d1_41 : decode method_6_code 41 = .ok (.ireturn, 1) := by decide +kernel
def fn1 (Z : State) (p0 : Int32) (p1 : Int32) (p2 : Int32) (q3 : Int64) (q4 : Int64) : Int32 :=
  if p0 < ((4 : Int32) * p1) then
    ((fn7 Z ((((q3.toUInt64 >>> (((6 : Int32) * p0) &&& 0x3f).toInt64.toUInt64).toInt64) &&& (63 : Int64)).toInt32)).toInt8.toInt32)
  else
    if p0 < (((4 : Int32) * p1) + p2) then
      ((fn7 Z ((((q4.toUInt64 >>> (((6 : Int32) * (p0 - ((4 : Int32) * p1))) &&& 0x3f).toInt64.toUInt64).toInt64) &&& (63 : Int64)).toInt32)).toInt8.toInt32)
    else
      (61 : Int32)
theorem ef_1 (m : MethodId) (x0 : Int32) (x1 : Int32) (x2 : Int32) (x3 : Int64) (x4 : Int64) : entryFrame m #[(.int x0), (.int x1), (.int x2), (.long x3), (.long x4)] 7 = mkF m 0 #[.val (.int x0), .val (.int x1), .val (.int x2), .val (.long x3), .second, .val (.long x4), .second] [] := by first | (simp [entryFrame, mkF, argsToLocals, Value.category]; done) | rfl
set_option maxRecDepth 65536 in
set_option maxHeartbeats 40000000 in
theorem rm1 (l : Launch) (Z : State) (a0 : Array Value) (hw : ∀ d ∈ tables_1, d.before a0 Z = true) (hS : St Z) (ws : List Jvm.Cond) (p0 : Int32) (p1 : Int32) (p2 : Int32) (q3 : Int64) (q4 : Int64) (h0 : Heap) (n0 : Nat) (O0 : Old Z n0 h0) :
    MetFree l (⟨"com/example/meerkat/meerkat/Base64CodecDecodePinLaw", "at", "(IIIJJ)B"⟩ : MethodName) (head1 (Jvm.Cond.code (⟨"com/example/meerkat/meerkat/Base64CodecDecodePinLaw", "at", "(IIIJJ)B"⟩ : MethodName) method_6_code 7 (some .byte) :: ws) ({ frames := 1, cells := 0, slots := 0, locals := 14 } : Room)) (fun a U => a = #[(.int p0), (.int p1), (.int p2), (.long q3), (.long q4)] ∧ Z.Warmed39 U.vm ∧ U.heap = h0) (fun _ _ _ _ _ => True) (fun _ U o U' => ∃ v L, o = .returned v ∧ own_Q (fun v hE L => v = some (.int (fn1 Z p0 p1 p2 q3 q4)) ∧ Fr n0 L ∧ hE = h0) v U'.heap L ∧ FrameEnd U o U' L ({ frames := 1, cells := 0, slots := 0, locals := 14 } : Room).cells ({ frames := 1, cells := 0, slots := 0, locals := 14 } : Room).slots) := by
  refine MetFree.of_bodySF (plainFor_of_name pn_0) hisR ?_
  intro p e s m args below meth c s₁ Bd hml0 hP hK
  obtain ⟨rfl, hZ, hh⟩ := hP
  have hx := Bd.exec
  have hby := Bd.bytes
  have hml : c.maxLocals = 7 := hml0
  have hown : s.vm.findClass "com/example/meerkat/meerkat/Base64CodecDecodePinLaw" = some m.cls := findClass_of_methodNamed Bd.named
  have X0 : Stand p l e ({ frames := 1, cells := 0, slots := 0, locals := 14 } : Room) s m #[(.int p0), (.int p1), (.int p2), (.long q3), (.long q4)] below meth c s₁ [] 0 0 := Stand.of_body Bd
  have e0 : s₁.heap = h0 := by rw [← hh, Bd.state]; rfl
  have N0 := Fr.nil n0
  have pre0 : ∀ t, Steps p.tables e below (s₁.setTop (mkF m 0 #[oI p0, oI p1, oI p2, oJ q3, oS, oJ q4, oS] [])) t → Steps p.tables e below (s₁.setTop (entryFrame m #[(.int p0), (.int p1), (.int p2), (.long q3), (.long q4)] 7)) t := fun t k => castTop (ef_1 m p0 p1 p2 q3 q4) k
  have pre9 : ∀ t, oP p e below s₁ (mkF m 4 #[oI p0, oI p1, oI p2, oJ q3, oS, oJ q4, oS] [(.int ((4 : Int32) * p1)), (.int p0)]) t → oP p e below s₁ (entryFrame m #[(.int p0), (.int p1), (.int p2), (.long q3), (.long q4)] 7) t := fun t k => pre0 t (by
    show oP p e below s₁ (mkF m 0 #[oI p0, oI p1, oI p2, oJ q3, oS, oJ q4, oS] []) _
    refine XS.iloadN X0.here hx rfl (hb hby d1_0) rfl ?_
    refine XS.iconst X0.here hx rfl (hb hby d1_1) ?_
    refine XS.iloadN X0.here hx rfl (hb hby d1_2) rfl ?_
    refine XS.imul X0.here hx rfl (hb hby d1_3) rfl ?_
    exact k)
  by_cases hc10 : p0 < ((4 : Int32) * p1)
  · obtain ⟨_, _, ⟨T11, L11, k11, n11⟩, -, X11, ⟨Lc11, hQ11, l11, y11, z11⟩, st11⟩ := Jvm.LawKit.callS X0 hx (y := (⟨"com/example/meerkat/meerkat/Base64CodecDecodePinLaw", "dig", "(JI)I"⟩ : MethodName)) hown (mvT hZ (wi hw 19 rfl)) (mvT hZ (wi hw 20 rfl)) (mvT hZ (wi hw 3 rfl)) (mvT hZ (wi hw 21 rfl)) (by decide) (backOf (W := 0) (rm6 l Z a0 hw hS [] q3 p0 h0 n0 O0) hZ (wi hw 21 rfl) (wi hw 3 rfl) (by decide) (by decide)) (g := (mkF m 9 #[oI p0, oI p1, oI p2, oJ q3, oS, oJ q4, oS] [(.int p0), (.long q3)])) rfl (by rw [hml]; rfl) (argsL := [(.long q3), (.int p0)]) (rest := []) (lenOf pd_0 rfl) rfl (by show 2 * 0 + _ ≤ _; exact Nat.le_of_eq rfl) (hb hby d1_9) (fun _ _ => ⟨rfl, e0, (by decide : 0 + 0 ≤ _), (by decide : 0 + 0 ≤ _)⟩)
    dsimp only [Pt.U, Pt.locs, Pt.cells, Pt.slots] at X11 l11 y11 z11 st11 hQ11
    subst l11 y11 z11
    obtain ⟨v11, N11q, h11q⟩ := hQ11
    have w11 : (fn6 Z q3 p0) = ((((q3.toUInt64 >>> (((6 : Int32) * p0) &&& 0x3f).toInt64.toUInt64).toInt64) &&& (63 : Int64)).toInt32) := rfl
    rw [w11] at v11
    subst v11
    have N11 := Fr.app N0 N11q
    obtain ⟨_, _, ⟨T12, L12, k12, n12⟩, -, X12, ⟨Lc12, hQ12, l12, y12, z12⟩, st12⟩ := Jvm.LawKit.callS X11 hx (y := (⟨"com/example/meerkat/meerkat/Base64CodecDecodePinLaw", "ch", "(I)B"⟩ : MethodName)) hown (mvT hZ (wi hw 23 rfl)) (mvT hZ (wi hw 24 rfl)) (mvT hZ (wi hw 3 rfl)) (mvT hZ (wi hw 25 rfl)) (by decide) (backOf (W := 0) (rm7 l Z a0 hw hS [] ((((q3.toUInt64 >>> (((6 : Int32) * p0) &&& 0x3f).toInt64.toUInt64).toInt64) &&& (63 : Int64)).toInt32) h0 n0 O0) hZ (wi hw 25 rfl) (wi hw 3 rfl) (by decide) (by decide)) (g := (mkF m 12 #[oI p0, oI p1, oI p2, oJ q3, oS, oJ q4, oS] [(.int ((((q3.toUInt64 >>> (((6 : Int32) * p0) &&& 0x3f).toInt64.toUInt64).toInt64) &&& (63 : Int64)).toInt32))])) rfl (by rw [hml]; rfl) (argsL := [(.int ((((q3.toUInt64 >>> (((6 : Int32) * p0) &&& 0x3f).toInt64.toUInt64).toInt64) &&& (63 : Int64)).toInt32))]) (rest := []) (lenOf pd_1 rfl) rfl (by show 2 * 0 + _ ≤ _; exact Nat.le_of_eq rfl) (hb hby d1_12) (fun _ _ => ⟨rfl, h11q, (by decide : 0 + 0 ≤ _), (by decide : 0 + 0 ≤ _)⟩)
    dsimp only [Pt.U, Pt.locs, Pt.cells, Pt.slots] at X12 l12 y12 z12 st12 hQ12
    subst l12 y12 z12
    obtain ⟨v12, N12q, h12q⟩ := hQ12
    subst v12
    have N12 := Fr.app N11 N12q
    obtain ⟨fs, hr, hrun, hended, hW, hsame⟩ := X12.leave (v := some (.int ((fn7 Z ((((q3.toUInt64 >>> (((6 : Int32) * p0) &&& 0x3f).toInt64.toUInt64).toInt64) &&& (63 : Int64)).toInt32)).toInt8.toInt32))) (fun h => by rw [Bd.returns] at h; cases h)
    refine ⟨_, _, pre9 _ ?_, hrun, hended, _, _, rfl, ?_, ⟨_, rfl⟩, hW, hsame.mono (by decide) (by decide)⟩
    · show oP p e below s₁ (mkF m 4 #[oI p0, oI p1, oI p2, oJ q3, oS, oJ q4, oS] [(.int ((4 : Int32) * p1)), (.int p0)]) _
      refine XS.icmpNo X0.here hx rfl (hb hby d1_4) rfl (tlt hc10).2.1 ?_
      show oP p e below s₁ (mkF m 7 #[oI p0, oI p1, oI p2, oJ q3, oS, oJ q4, oS] []) _
      refine XS.lloadN X0.here hx rfl (hb hby d1_7) rfl ?_
      show oP p e below s₁ (mkF m 8 #[oI p0, oI p1, oI p2, oJ q3, oS, oJ q4, oS] [(.long q3)]) _
      refine XS.iloadN X0.here hx rfl (hb hby d1_8) rfl ?_
      show oP p e below s₁ (mkF m 9 #[oI p0, oI p1, oI p2, oJ q3, oS, oJ q4, oS] [(.int p0), (.long q3)]) _
      refine st11 _ ?_
      show oP p e below T11 (mkF m 12 #[oI p0, oI p1, oI p2, oJ q3, oS, oJ q4, oS] [(.int ((((q3.toUInt64 >>> (((6 : Int32) * p0) &&& 0x3f).toInt64.toUInt64).toInt64) &&& (63 : Int64)).toInt32))]) _
      refine st12 _ ?_
      show oP p e below T12 (mkF m 15 #[oI p0, oI p1, oI p2, oJ q3, oS, oJ q4, oS] [(.int (fn7 Z ((((q3.toUInt64 >>> (((6 : Int32) * p0) &&& 0x3f).toInt64.toUInt64).toInt64) &&& (63 : Int64)).toInt32)))]) _
      exact retN X12 hx (t := .byte) Bd.returns (by simp) (hb hby d1_15) hr
    · show (some (.int ((fn7 Z ((((q3.toUInt64 >>> (((6 : Int32) * p0) &&& 0x3f).toInt64.toUInt64).toInt64) &&& (63 : Int64)).toInt32)).toInt8.toInt32)) : Option Value) = some (.int (fn1 Z p0 p1 p2 q3 q4)) ∧ Fr n0 _ ∧ T12.heap = h0
      rw [h12q]
      refine ⟨?_, N12, rfl⟩
      unfold fn1
      rw [if_pos hc10]
  · have pre13 : ∀ t, oP p e below s₁ (mkF m 22 #[oI p0, oI p1, oI p2, oJ q3, oS, oJ q4, oS] [(.int (((4 : Int32) * p1) + p2)), (.int p0)]) t → oP p e below s₁ (entryFrame m #[(.int p0), (.int p1), (.int p2), (.long q3), (.long q4)] 7) t := fun t k => pre9 t (by
      show oP p e below s₁ (mkF m 4 #[oI p0, oI p1, oI p2, oJ q3, oS, oJ q4, oS] [(.int ((4 : Int32) * p1)), (.int p0)]) _
      refine XS.icmpYes X0.here hx rfl (pc0 := 4) (pc' := 16) rfl (hb hby d1_4) rfl (flt hc10).2.1 (by decide) (by decide) ?_
      show oP p e below s₁ (mkF m 16 #[oI p0, oI p1, oI p2, oJ q3, oS, oJ q4, oS] []) _
      refine XS.iloadN X0.here hx rfl (hb hby d1_16) rfl ?_
      refine XS.iconst X0.here hx rfl (hb hby d1_17) ?_
      refine XS.iloadN X0.here hx rfl (hb hby d1_18) rfl ?_
      refine XS.imul X0.here hx rfl (hb hby d1_19) rfl ?_
      show oP p e below s₁ (mkF m 20 #[oI p0, oI p1, oI p2, oJ q3, oS, oJ q4, oS] [(.int ((4 : Int32) * p1)), (.int p0)]) _
      refine XS.iloadN X0.here hx rfl (hb hby d1_20) rfl ?_
      refine XS.iadd X0.here hx rfl (hb hby d1_21) rfl ?_
      exact k)
    by_cases hc14 : p0 < (((4 : Int32) * p1) + p2)
    · obtain ⟨_, _, ⟨T15, L15, k15, n15⟩, -, X15, ⟨Lc15, hQ15, l15, y15, z15⟩, st15⟩ := Jvm.LawKit.callS X0 hx (y := (⟨"com/example/meerkat/meerkat/Base64CodecDecodePinLaw", "dig", "(JI)I"⟩ : MethodName)) hown (mvT hZ (wi hw 19 rfl)) (mvT hZ (wi hw 20 rfl)) (mvT hZ (wi hw 3 rfl)) (mvT hZ (wi hw 21 rfl)) (by decide) (backOf (W := 0) (rm6 l Z a0 hw hS [] q4 (p0 - ((4 : Int32) * p1)) h0 n0 O0) hZ (wi hw 21 rfl) (wi hw 3 rfl) (by decide) (by decide)) (g := (mkF m 32 #[oI p0, oI p1, oI p2, oJ q3, oS, oJ q4, oS] [(.int (p0 - ((4 : Int32) * p1))), (.long q4)])) rfl (by rw [hml]; rfl) (argsL := [(.long q4), (.int (p0 - ((4 : Int32) * p1)))]) (rest := []) (lenOf pd_0 rfl) rfl (by show 2 * 0 + _ ≤ _; exact Nat.le_of_eq rfl) (hb hby d1_32) (fun _ _ => ⟨rfl, e0, (by decide : 0 + 0 ≤ _), (by decide : 0 + 0 ≤ _)⟩)
      dsimp only [Pt.U, Pt.locs, Pt.cells, Pt.slots] at X15 l15 y15 z15 st15 hQ15
      subst l15 y15 z15
      obtain ⟨v15, N15q, h15q⟩ := hQ15
      have w15 : (fn6 Z q4 (p0 - ((4 : Int32) * p1))) = ((((q4.toUInt64 >>> (((6 : Int32) * (p0 - ((4 : Int32) * p1))) &&& 0x3f).toInt64.toUInt64).toInt64) &&& (63 : Int64)).toInt32) := rfl
      rw [w15] at v15
      subst v15
      have N15 := Fr.app N0 N15q
      obtain ⟨_, _, ⟨T16, L16, k16, n16⟩, -, X16, ⟨Lc16, hQ16, l16, y16, z16⟩, st16⟩ := Jvm.LawKit.callS X15 hx (y := (⟨"com/example/meerkat/meerkat/Base64CodecDecodePinLaw", "ch", "(I)B"⟩ : MethodName)) hown (mvT hZ (wi hw 23 rfl)) (mvT hZ (wi hw 24 rfl)) (mvT hZ (wi hw 3 rfl)) (mvT hZ (wi hw 25 rfl)) (by decide) (backOf (W := 0) (rm7 l Z a0 hw hS [] ((((q4.toUInt64 >>> (((6 : Int32) * (p0 - ((4 : Int32) * p1))) &&& 0x3f).toInt64.toUInt64).toInt64) &&& (63 : Int64)).toInt32) h0 n0 O0) hZ (wi hw 25 rfl) (wi hw 3 rfl) (by decide) (by decide)) (g := (mkF m 35 #[oI p0, oI p1, oI p2, oJ q3, oS, oJ q4, oS] [(.int ((((q4.toUInt64 >>> (((6 : Int32) * (p0 - ((4 : Int32) * p1))) &&& 0x3f).toInt64.toUInt64).toInt64) &&& (63 : Int64)).toInt32))])) rfl (by rw [hml]; rfl) (argsL := [(.int ((((q4.toUInt64 >>> (((6 : Int32) * (p0 - ((4 : Int32) * p1))) &&& 0x3f).toInt64.toUInt64).toInt64) &&& (63 : Int64)).toInt32))]) (rest := []) (lenOf pd_1 rfl) rfl (by show 2 * 0 + _ ≤ _; exact Nat.le_of_eq rfl) (hb hby d1_35) (fun _ _ => ⟨rfl, h15q, (by decide : 0 + 0 ≤ _), (by decide : 0 + 0 ≤ _)⟩)
      dsimp only [Pt.U, Pt.locs, Pt.cells, Pt.slots] at X16 l16 y16 z16 st16 hQ16
      subst l16 y16 z16
      obtain ⟨v16, N16q, h16q⟩ := hQ16
      subst v16
      have N16 := Fr.app N15 N16q
      obtain ⟨fs, hr, hrun, hended, hW, hsame⟩ := X16.leave (v := some (.int ((fn7 Z ((((q4.toUInt64 >>> (((6 : Int32) * (p0 - ((4 : Int32) * p1))) &&& 0x3f).toInt64.toUInt64).toInt64) &&& (63 : Int64)).toInt32)).toInt8.toInt32))) (fun h => by rw [Bd.returns] at h; cases h)
      refine ⟨_, _, pre13 _ ?_, hrun, hended, _, _, rfl, ?_, ⟨_, rfl⟩, hW, hsame.mono (by decide) (by decide)⟩
      · show oP p e below s₁ (mkF m 22 #[oI p0, oI p1, oI p2, oJ q3, oS, oJ q4, oS] [(.int (((4 : Int32) * p1) + p2)), (.int p0)]) _
        refine XS.icmpNo X0.here hx rfl (hb hby d1_22) rfl (tlt hc14).2.1 ?_
        show oP p e below s₁ (mkF m 25 #[oI p0, oI p1, oI p2, oJ q3, oS, oJ q4, oS] []) _
        refine XS.lload X0.here hx rfl (hb hby d1_25) rfl ?_
        show oP p e below s₁ (mkF m 27 #[oI p0, oI p1, oI p2, oJ q3, oS, oJ q4, oS] [(.long q4)]) _
        refine XS.iloadN X0.here hx rfl (hb hby d1_27) rfl ?_
        refine XS.iconst X0.here hx rfl (hb hby d1_28) ?_
        refine XS.iloadN X0.here hx rfl (hb hby d1_29) rfl ?_
        refine XS.imul X0.here hx rfl (hb hby d1_30) rfl ?_
        show oP p e below s₁ (mkF m 31 #[oI p0, oI p1, oI p2, oJ q3, oS, oJ q4, oS] [(.int ((4 : Int32) * p1)), (.int p0), (.long q4)]) _
        refine XS.isub X0.here hx rfl (hb hby d1_31) rfl ?_
        show oP p e below s₁ (mkF m 32 #[oI p0, oI p1, oI p2, oJ q3, oS, oJ q4, oS] [(.int (p0 - ((4 : Int32) * p1))), (.long q4)]) _
        refine st15 _ ?_
        show oP p e below T15 (mkF m 35 #[oI p0, oI p1, oI p2, oJ q3, oS, oJ q4, oS] [(.int ((((q4.toUInt64 >>> (((6 : Int32) * (p0 - ((4 : Int32) * p1))) &&& 0x3f).toInt64.toUInt64).toInt64) &&& (63 : Int64)).toInt32))]) _
        refine st16 _ ?_
        show oP p e below T16 (mkF m 38 #[oI p0, oI p1, oI p2, oJ q3, oS, oJ q4, oS] [(.int (fn7 Z ((((q4.toUInt64 >>> (((6 : Int32) * (p0 - ((4 : Int32) * p1))) &&& 0x3f).toInt64.toUInt64).toInt64) &&& (63 : Int64)).toInt32)))]) _
        exact retN X16 hx (t := .byte) Bd.returns (by simp) (hb hby d1_38) hr
      · show (some (.int ((fn7 Z ((((q4.toUInt64 >>> (((6 : Int32) * (p0 - ((4 : Int32) * p1))) &&& 0x3f).toInt64.toUInt64).toInt64) &&& (63 : Int64)).toInt32)).toInt8.toInt32)) : Option Value) = some (.int (fn1 Z p0 p1 p2 q3 q4)) ∧ Fr n0 _ ∧ T16.heap = h0
        rw [h16q]
        refine ⟨?_, N16, rfl⟩
        unfold fn1
        rw [if_neg hc10, if_pos hc14]
    · obtain ⟨fs, hr, hrun, hended, hW, hsame⟩ := X0.leave (v := some (.int 61)) (fun h => by rw [Bd.returns] at h; cases h)
      refine ⟨_, _, pre13 _ ?_, hrun, hended, _, _, rfl, ?_, ⟨_, rfl⟩, hW, hsame.mono (by decide) (by decide)⟩
      · show oP p e below s₁ (mkF m 22 #[oI p0, oI p1, oI p2, oJ q3, oS, oJ q4, oS] [(.int (((4 : Int32) * p1) + p2)), (.int p0)]) _
        refine XS.icmpYes X0.here hx rfl (pc0 := 22) (pc' := 39) rfl (hb hby d1_22) rfl (flt hc14).2.1 (by decide) (by decide) ?_
        show oP p e below s₁ (mkF m 39 #[oI p0, oI p1, oI p2, oJ q3, oS, oJ q4, oS] []) _
        refine XS.bipush X0.here hx rfl (hb hby d1_39) ?_
        show oP p e below s₁ (mkF m 41 #[oI p0, oI p1, oI p2, oJ q3, oS, oJ q4, oS] [(.int 61)]) _
        exact retN X0 hx (t := .byte) Bd.returns (by simp) (hb hby d1_41) hr
      · show (some (.int 61) : Option Value) = some (.int (fn1 Z p0 p1 p2 q3 q4)) ∧ Fr n0 _ ∧ s₁.heap = h0
        rw [e0]
        refine ⟨?_, N0, rfl⟩
        unfold fn1
        rw [if_neg hc10, if_neg hc14]
theorem d10_0 : decode method_7_code 0 = .ok (.lload_n 0, 1) := by decide +kernel
theorem d10_1 : decode method_7_code 1 = .ok (.iconst 4, 1) := by decide +kernel
theorem d10_2 : decode method_7_code 2 = .ok (.iload_n 2, 1) := by decide +kernel
theorem d10_3 : decode method_7_code 3 = .ok (.imul, 1) := by decide +kernel
theorem d10_4 : decode method_7_code 4 = .ok (.invokestatic 29, 3) := by decide +kernel
theorem d10_7 : decode method_7_code 7 = .ok (.istore 4, 2) := by decide +kernel
theorem d10_9 : decode method_7_code 9 = .ok (.lload_n 0, 1) := by decide +kernel
theorem d10_10 : decode method_7_code 10 = .ok (.iconst 4, 1) := by decide +kernel
theorem d10_11 : decode method_7_code 11 = .ok (.iload_n 2, 1) := by decide +kernel
theorem d10_12 : decode method_7_code 12 = .ok (.imul, 1) := by decide +kernel
theorem d10_13 : decode method_7_code 13 = .ok (.iconst 1, 1) := by decide +kernel
theorem d10_14 : decode method_7_code 14 = .ok (.iadd, 1) := by decide +kernel
theorem d10_15 : decode method_7_code 15 = .ok (.invokestatic 29, 3) := by decide +kernel
theorem d10_18 : decode method_7_code 18 = .ok (.istore 5, 2) := by decide +kernel
theorem d10_20 : decode method_7_code 20 = .ok (.lload_n 0, 1) := by decide +kernel
theorem d10_21 : decode method_7_code 21 = .ok (.iconst 4, 1) := by decide +kernel
theorem d10_22 : decode method_7_code 22 = .ok (.iload_n 2, 1) := by decide +kernel
theorem d10_23 : decode method_7_code 23 = .ok (.imul, 1) := by decide +kernel
theorem d10_24 : decode method_7_code 24 = .ok (.iconst 2, 1) := by decide +kernel
theorem d10_25 : decode method_7_code 25 = .ok (.iadd, 1) := by decide +kernel
theorem d10_26 : decode method_7_code 26 = .ok (.invokestatic 29, 3) := by decide +kernel
theorem d10_29 : decode method_7_code 29 = .ok (.istore 6, 2) := by decide +kernel
theorem d10_31 : decode method_7_code 31 = .ok (.lload_n 0, 1) := by decide +kernel
theorem d10_32 : decode method_7_code 32 = .ok (.iconst 4, 1) := by decide +kernel
theorem d10_33 : decode method_7_code 33 = .ok (.iload_n 2, 1) := by decide +kernel
theorem d10_34 : decode method_7_code 34 = .ok (.imul, 1) := by decide +kernel
theorem d10_35 : decode method_7_code 35 = .ok (.iconst 3, 1) := by decide +kernel
theorem d10_36 : decode method_7_code 36 = .ok (.iadd, 1) := by decide +kernel
theorem d10_37 : decode method_7_code 37 = .ok (.invokestatic 29, 3) := by decide +kernel
theorem d10_40 : decode method_7_code 40 = .ok (.istore 7, 2) := by decide +kernel
theorem d10_42 : decode method_7_code 42 = .ok (.iload_n 3, 1) := by decide +kernel
theorem d10_43 : decode method_7_code 43 = .ok (.ifCond .ne 14, 3) := by decide +kernel
theorem d10_46 : decode method_7_code 46 = .ok (.iload 4, 2) := by decide +kernel
theorem d10_48 : decode method_7_code 48 = .ok (.iconst 4, 1) := by decide +kernel
theorem d10_49 : decode method_7_code 49 = .ok (.imul, 1) := by decide +kernel
theorem d10_50 : decode method_7_code 50 = .ok (.iload 5, 2) := by decide +kernel
theorem d10_52 : decode method_7_code 52 = .ok (.bipush 16, 2) := by decide +kernel
theorem d10_54 : decode method_7_code 54 = .ok (.idiv, 1) := by decide +kernel
theorem d10_55 : decode method_7_code 55 = .ok (.iadd, 1) := by decide +kernel
theorem d10_56 : decode method_7_code 56 = .ok (.ireturn, 1) := by decide +kernel
theorem d10_57 : decode method_7_code 57 = .ok (.iload_n 3, 1) := by decide +kernel
theorem d10_58 : decode method_7_code 58 = .ok (.iconst 1, 1) := by decide +kernel
theorem d10_59 : decode method_7_code 59 = .ok (.if_icmp .ne 17, 3) := by decide +kernel
theorem d10_62 : decode method_7_code 62 = .ok (.iload 5, 2) := by decide +kernel
theorem d10_64 : decode method_7_code 64 = .ok (.bipush 16, 2) := by decide +kernel
theorem d10_66 : decode method_7_code 66 = .ok (.irem, 1) := by decide +kernel
theorem d10_67 : decode method_7_code 67 = .ok (.bipush 16, 2) := by decide +kernel
theorem d10_69 : decode method_7_code 69 = .ok (.imul, 1) := by decide +kernel
theorem d10_70 : decode method_7_code 70 = .ok (.iload 6, 2) := by decide +kernel
theorem d10_72 : decode method_7_code 72 = .ok (.iconst 4, 1) := by decide +kernel
theorem d10_73 : decode method_7_code 73 = .ok (.idiv, 1) := by decide +kernel
theorem d10_74 : decode method_7_code 74 = .ok (.iadd, 1) := by decide +kernel
theorem d10_75 : decode method_7_code 75 = .ok (.ireturn, 1) := by decide +kernel
theorem d10_76 : decode method_7_code 76 = .ok (.iload 6, 2) := by decide +kernel
theorem d10_78 : decode method_7_code 78 = .ok (.iconst 4, 1) := by decide +kernel
theorem d10_79 : decode method_7_code 79 = .ok (.irem, 1) := by decide +kernel
theorem d10_80 : decode method_7_code 80 = .ok (.bipush 64, 2) := by decide +kernel
theorem d10_82 : decode method_7_code 82 = .ok (.imul, 1) := by decide +kernel
theorem d10_83 : decode method_7_code 83 = .ok (.iload 7, 2) := by decide +kernel
theorem d10_85 : decode method_7_code 85 = .ok (.iadd, 1) := by decide +kernel
theorem d10_86 : decode method_7_code 86 = .ok (.ireturn, 1) := by decide +kernel
def fn10 (Z : State) (q0 : Int64) (p1 : Int32) (p2 : Int32) : Int32 :=
  if p2 = (0 : Int32) then
    ((((((q0.toUInt64 >>> (((6 : Int32) * ((4 : Int32) * p1)) &&& 0x3f).toInt64.toUInt64).toInt64) &&& (63 : Int64)).toInt32) * (4 : Int32)) + (((((q0.toUInt64 >>> (((6 : Int32) * (((4 : Int32) * p1) + (1 : Int32))) &&& 0x3f).toInt64.toUInt64).toInt64) &&& (63 : Int64)).toInt32) / (16 : Int32)))
  else
    if p2 = (1 : Int32) then
      (((((((q0.toUInt64 >>> (((6 : Int32) * (((4 : Int32) * p1) + (1 : Int32))) &&& 0x3f).toInt64.toUInt64).toInt64) &&& (63 : Int64)).toInt32) - (((((q0.toUInt64 >>> (((6 : Int32) * (((4 : Int32) * p1) + (1 : Int32))) &&& 0x3f).toInt64.toUInt64).toInt64) &&& (63 : Int64)).toInt32) / (16 : Int32)) * (16 : Int32)) * (16 : Int32)) + (((((q0.toUInt64 >>> (((6 : Int32) * (((4 : Int32) * p1) + (2 : Int32))) &&& 0x3f).toInt64.toUInt64).toInt64) &&& (63 : Int64)).toInt32) / (4 : Int32)))
    else
      (((((((q0.toUInt64 >>> (((6 : Int32) * (((4 : Int32) * p1) + (2 : Int32))) &&& 0x3f).toInt64.toUInt64).toInt64) &&& (63 : Int64)).toInt32) - (((((q0.toUInt64 >>> (((6 : Int32) * (((4 : Int32) * p1) + (2 : Int32))) &&& 0x3f).toInt64.toUInt64).toInt64) &&& (63 : Int64)).toInt32) / (4 : Int32)) * (4 : Int32)) * (64 : Int32)) + ((((q0.toUInt64 >>> (((6 : Int32) * (((4 : Int32) * p1) + (3 : Int32))) &&& 0x3f).toInt64.toUInt64).toInt64) &&& (63 : Int64)).toInt32))
theorem ef_10 (m : MethodId) (x0 : Int64) (x1 : Int32) (x2 : Int32) : entryFrame m #[(.long x0), (.int x1), (.int x2)] 8 = mkF m 0 #[.val (.long x0), .second, .val (.int x1), .val (.int x2), .unset, .unset, .unset, .unset] [] := by first | (simp [entryFrame, mkF, argsToLocals, Value.category]; done) | rfl
set_option maxRecDepth 65536 in
set_option maxHeartbeats 40000000 in
theorem rm10 (l : Launch) (Z : State) (a0 : Array Value) (hw : ∀ d ∈ tables_1, d.before a0 Z = true) (hS : St Z) (ws : List Jvm.Cond) (q0 : Int64) (p1 : Int32) (p2 : Int32) (h0 : Heap) (n0 : Nat) (O0 : Old Z n0 h0) :
    MetFree l (⟨"com/example/meerkat/meerkat/Base64CodecDecodePinLaw", "wholeByte", "(JII)I"⟩ : MethodName) (head1 (Jvm.Cond.code (⟨"com/example/meerkat/meerkat/Base64CodecDecodePinLaw", "wholeByte", "(JII)I"⟩ : MethodName) method_7_code 8 (some .int) :: ws) ({ frames := 1, cells := 0, slots := 0, locals := 14 } : Room)) (fun a U => a = #[(.long q0), (.int p1), (.int p2)] ∧ Z.Warmed39 U.vm ∧ U.heap = h0) (fun _ _ _ _ _ => True) (fun _ U o U' => ∃ v L, o = .returned v ∧ own_Q (fun v hE L => v = some (.int (fn10 Z q0 p1 p2)) ∧ Fr n0 L ∧ hE = h0) v U'.heap L ∧ FrameEnd U o U' L ({ frames := 1, cells := 0, slots := 0, locals := 14 } : Room).cells ({ frames := 1, cells := 0, slots := 0, locals := 14 } : Room).slots) := by
  refine MetFree.of_bodySF (plainFor_of_name pn_0) hisR ?_
  intro p e s m args below meth c s₁ Bd hml0 hP hK
  obtain ⟨rfl, hZ, hh⟩ := hP
  have hx := Bd.exec
  have hby := Bd.bytes
  have hml : c.maxLocals = 8 := hml0
  have hown : s.vm.findClass "com/example/meerkat/meerkat/Base64CodecDecodePinLaw" = some m.cls := findClass_of_methodNamed Bd.named
  have X0 : Stand p l e ({ frames := 1, cells := 0, slots := 0, locals := 14 } : Room) s m #[(.long q0), (.int p1), (.int p2)] below meth c s₁ [] 0 0 := Stand.of_body Bd
  have e0 : s₁.heap = h0 := by rw [← hh, Bd.state]; rfl
  have N0 := Fr.nil n0
  have pre0 : ∀ t, Steps p.tables e below (s₁.setTop (mkF m 0 #[oJ q0, oS, oI p1, oI p2, oU, oU, oU, oU] [])) t → Steps p.tables e below (s₁.setTop (entryFrame m #[(.long q0), (.int p1), (.int p2)] 8)) t := fun t k => castTop (ef_10 m q0 p1 p2) k
  obtain ⟨_, _, ⟨T17, L17, k17, n17⟩, -, X17, ⟨Lc17, hQ17, l17, y17, z17⟩, st17⟩ := Jvm.LawKit.callS X0 hx (y := (⟨"com/example/meerkat/meerkat/Base64CodecDecodePinLaw", "dig", "(JI)I"⟩ : MethodName)) hown (mvT hZ (wi hw 19 rfl)) (mvT hZ (wi hw 20 rfl)) (mvT hZ (wi hw 3 rfl)) (mvT hZ (wi hw 21 rfl)) (by decide) (backOf (W := 0) (rm6 l Z a0 hw hS [] q0 ((4 : Int32) * p1) h0 n0 O0) hZ (wi hw 21 rfl) (wi hw 3 rfl) (by decide) (by decide)) (g := (mkF m 4 #[oJ q0, oS, oI p1, oI p2, oU, oU, oU, oU] [(.int ((4 : Int32) * p1)), (.long q0)])) rfl (by rw [hml]; rfl) (argsL := [(.long q0), (.int ((4 : Int32) * p1))]) (rest := []) (lenOf pd_0 rfl) rfl (by show 2 * 0 + _ ≤ _; exact Nat.le_of_eq rfl) (hb hby d10_4) (fun _ _ => ⟨rfl, e0, (by decide : 0 + 0 ≤ _), (by decide : 0 + 0 ≤ _)⟩)
  dsimp only [Pt.U, Pt.locs, Pt.cells, Pt.slots] at X17 l17 y17 z17 st17 hQ17
  subst l17 y17 z17
  obtain ⟨v17, N17q, h17q⟩ := hQ17
  have w17 : (fn6 Z q0 ((4 : Int32) * p1)) = ((((q0.toUInt64 >>> (((6 : Int32) * ((4 : Int32) * p1)) &&& 0x3f).toInt64.toUInt64).toInt64) &&& (63 : Int64)).toInt32) := rfl
  rw [w17] at v17
  subst v17
  have N17 := Fr.app N0 N17q
  obtain ⟨_, _, ⟨T18, L18, k18, n18⟩, -, X18, ⟨Lc18, hQ18, l18, y18, z18⟩, st18⟩ := Jvm.LawKit.callS X17 hx (y := (⟨"com/example/meerkat/meerkat/Base64CodecDecodePinLaw", "dig", "(JI)I"⟩ : MethodName)) hown (mvT hZ (wi hw 19 rfl)) (mvT hZ (wi hw 20 rfl)) (mvT hZ (wi hw 3 rfl)) (mvT hZ (wi hw 21 rfl)) (by decide) (backOf (W := 0) (rm6 l Z a0 hw hS [] q0 (((4 : Int32) * p1) + (1 : Int32)) h0 n0 O0) hZ (wi hw 21 rfl) (wi hw 3 rfl) (by decide) (by decide)) (g := (mkF m 15 #[oJ q0, oS, oI p1, oI p2, oI ((((q0.toUInt64 >>> (((6 : Int32) * ((4 : Int32) * p1)) &&& 0x3f).toInt64.toUInt64).toInt64) &&& (63 : Int64)).toInt32), oU, oU, oU] [(.int (((4 : Int32) * p1) + (1 : Int32))), (.long q0)])) rfl (by rw [hml]; rfl) (argsL := [(.long q0), (.int (((4 : Int32) * p1) + (1 : Int32)))]) (rest := []) (lenOf pd_0 rfl) rfl (by show 2 * 0 + _ ≤ _; exact Nat.le_of_eq rfl) (hb hby d10_15) (fun _ _ => ⟨rfl, h17q, (by decide : 0 + 0 ≤ _), (by decide : 0 + 0 ≤ _)⟩)
  dsimp only [Pt.U, Pt.locs, Pt.cells, Pt.slots] at X18 l18 y18 z18 st18 hQ18
  subst l18 y18 z18
  obtain ⟨v18, N18q, h18q⟩ := hQ18
  have w18 : (fn6 Z q0 (((4 : Int32) * p1) + (1 : Int32))) = ((((q0.toUInt64 >>> (((6 : Int32) * (((4 : Int32) * p1) + (1 : Int32))) &&& 0x3f).toInt64.toUInt64).toInt64) &&& (63 : Int64)).toInt32) := rfl
  rw [w18] at v18
  subst v18
  have N18 := Fr.app N17 N18q
  obtain ⟨_, _, ⟨T19, L19, k19, n19⟩, -, X19, ⟨Lc19, hQ19, l19, y19, z19⟩, st19⟩ := Jvm.LawKit.callS X18 hx (y := (⟨"com/example/meerkat/meerkat/Base64CodecDecodePinLaw", "dig", "(JI)I"⟩ : MethodName)) hown (mvT hZ (wi hw 19 rfl)) (mvT hZ (wi hw 20 rfl)) (mvT hZ (wi hw 3 rfl)) (mvT hZ (wi hw 21 rfl)) (by decide) (backOf (W := 0) (rm6 l Z a0 hw hS [] q0 (((4 : Int32) * p1) + (2 : Int32)) h0 n0 O0) hZ (wi hw 21 rfl) (wi hw 3 rfl) (by decide) (by decide)) (g := (mkF m 26 #[oJ q0, oS, oI p1, oI p2, oI ((((q0.toUInt64 >>> (((6 : Int32) * ((4 : Int32) * p1)) &&& 0x3f).toInt64.toUInt64).toInt64) &&& (63 : Int64)).toInt32), oI ((((q0.toUInt64 >>> (((6 : Int32) * (((4 : Int32) * p1) + (1 : Int32))) &&& 0x3f).toInt64.toUInt64).toInt64) &&& (63 : Int64)).toInt32), oU, oU] [(.int (((4 : Int32) * p1) + (2 : Int32))), (.long q0)])) rfl (by rw [hml]; rfl) (argsL := [(.long q0), (.int (((4 : Int32) * p1) + (2 : Int32)))]) (rest := []) (lenOf pd_0 rfl) rfl (by show 2 * 0 + _ ≤ _; exact Nat.le_of_eq rfl) (hb hby d10_26) (fun _ _ => ⟨rfl, h18q, (by decide : 0 + 0 ≤ _), (by decide : 0 + 0 ≤ _)⟩)
  dsimp only [Pt.U, Pt.locs, Pt.cells, Pt.slots] at X19 l19 y19 z19 st19 hQ19
  subst l19 y19 z19
  obtain ⟨v19, N19q, h19q⟩ := hQ19
  have w19 : (fn6 Z q0 (((4 : Int32) * p1) + (2 : Int32))) = ((((q0.toUInt64 >>> (((6 : Int32) * (((4 : Int32) * p1) + (2 : Int32))) &&& 0x3f).toInt64.toUInt64).toInt64) &&& (63 : Int64)).toInt32) := rfl
  rw [w19] at v19
  subst v19
  have N19 := Fr.app N18 N19q
  obtain ⟨_, _, ⟨T20, L20, k20, n20⟩, -, X20, ⟨Lc20, hQ20, l20, y20, z20⟩, st20⟩ := Jvm.LawKit.callS X19 hx (y := (⟨"com/example/meerkat/meerkat/Base64CodecDecodePinLaw", "dig", "(JI)I"⟩ : MethodName)) hown (mvT hZ (wi hw 19 rfl)) (mvT hZ (wi hw 20 rfl)) (mvT hZ (wi hw 3 rfl)) (mvT hZ (wi hw 21 rfl)) (by decide) (backOf (W := 0) (rm6 l Z a0 hw hS [] q0 (((4 : Int32) * p1) + (3 : Int32)) h0 n0 O0) hZ (wi hw 21 rfl) (wi hw 3 rfl) (by decide) (by decide)) (g := (mkF m 37 #[oJ q0, oS, oI p1, oI p2, oI ((((q0.toUInt64 >>> (((6 : Int32) * ((4 : Int32) * p1)) &&& 0x3f).toInt64.toUInt64).toInt64) &&& (63 : Int64)).toInt32), oI ((((q0.toUInt64 >>> (((6 : Int32) * (((4 : Int32) * p1) + (1 : Int32))) &&& 0x3f).toInt64.toUInt64).toInt64) &&& (63 : Int64)).toInt32), oI ((((q0.toUInt64 >>> (((6 : Int32) * (((4 : Int32) * p1) + (2 : Int32))) &&& 0x3f).toInt64.toUInt64).toInt64) &&& (63 : Int64)).toInt32), oU] [(.int (((4 : Int32) * p1) + (3 : Int32))), (.long q0)])) rfl (by rw [hml]; rfl) (argsL := [(.long q0), (.int (((4 : Int32) * p1) + (3 : Int32)))]) (rest := []) (lenOf pd_0 rfl) rfl (by show 2 * 0 + _ ≤ _; exact Nat.le_of_eq rfl) (hb hby d10_37) (fun _ _ => ⟨rfl, h19q, (by decide : 0 + 0 ≤ _), (by decide : 0 + 0 ≤ _)⟩)
  dsimp only [Pt.U, Pt.locs, Pt.cells, Pt.slots] at X20 l20 y20 z20 st20 hQ20
  subst l20 y20 z20
  obtain ⟨v20, N20q, h20q⟩ := hQ20
  have w20 : (fn6 Z q0 (((4 : Int32) * p1) + (3 : Int32))) = ((((q0.toUInt64 >>> (((6 : Int32) * (((4 : Int32) * p1) + (3 : Int32))) &&& 0x3f).toInt64.toUInt64).toInt64) &&& (63 : Int64)).toInt32) := rfl
  rw [w20] at v20
  subst v20
  have N20 := Fr.app N19 N20q
  have pre21 : ∀ t, oP p e below T20 (mkF m 43 #[oJ q0, oS, oI p1, oI p2, oI ((((q0.toUInt64 >>> (((6 : Int32) * ((4 : Int32) * p1)) &&& 0x3f).toInt64.toUInt64).toInt64) &&& (63 : Int64)).toInt32), oI ((((q0.toUInt64 >>> (((6 : Int32) * (((4 : Int32) * p1) + (1 : Int32))) &&& 0x3f).toInt64.toUInt64).toInt64) &&& (63 : Int64)).toInt32), oI ((((q0.toUInt64 >>> (((6 : Int32) * (((4 : Int32) * p1) + (2 : Int32))) &&& 0x3f).toInt64.toUInt64).toInt64) &&& (63 : Int64)).toInt32), oI ((((q0.toUInt64 >>> (((6 : Int32) * (((4 : Int32) * p1) + (3 : Int32))) &&& 0x3f).toInt64.toUInt64).toInt64) &&& (63 : Int64)).toInt32)] [(.int p2)]) t → oP p e below s₁ (entryFrame m #[(.long q0), (.int p1), (.int p2)] 8) t := fun t k => pre0 t (by
    show oP p e below s₁ (mkF m 0 #[oJ q0, oS, oI p1, oI p2, oU, oU, oU, oU] []) _
    refine XS.lloadN X0.here hx rfl (hb hby d10_0) rfl ?_
    show oP p e below s₁ (mkF m 1 #[oJ q0, oS, oI p1, oI p2, oU, oU, oU, oU] [(.long q0)]) _
    refine XS.iconst X0.here hx rfl (hb hby d10_1) ?_
    refine XS.iloadN X0.here hx rfl (hb hby d10_2) rfl ?_
    refine XS.imul X0.here hx rfl (hb hby d10_3) rfl ?_
    show oP p e below s₁ (mkF m 4 #[oJ q0, oS, oI p1, oI p2, oU, oU, oU, oU] [(.int ((4 : Int32) * p1)), (.long q0)]) _
    refine st17 _ ?_
    show oP p e below T17 (mkF m 7 #[oJ q0, oS, oI p1, oI p2, oU, oU, oU, oU] [(.int ((((q0.toUInt64 >>> (((6 : Int32) * ((4 : Int32) * p1)) &&& 0x3f).toInt64.toUInt64).toInt64) &&& (63 : Int64)).toInt32))]) _
    refine XS.istore X17.here hx rfl (hb hby d10_7) rfl (l' := #[oJ q0, oS, oI p1, oI p2, oI ((((q0.toUInt64 >>> (((6 : Int32) * ((4 : Int32) * p1)) &&& 0x3f).toInt64.toUInt64).toInt64) &&& (63 : Int64)).toInt32), oU, oU, oU]) rfl ?_
    show oP p e below T17 (mkF m 9 #[oJ q0, oS, oI p1, oI p2, oI ((((q0.toUInt64 >>> (((6 : Int32) * ((4 : Int32) * p1)) &&& 0x3f).toInt64.toUInt64).toInt64) &&& (63 : Int64)).toInt32), oU, oU, oU] []) _
    refine XS.lloadN X17.here hx rfl (hb hby d10_9) rfl ?_
    show oP p e below T17 (mkF m 10 #[oJ q0, oS, oI p1, oI p2, oI ((((q0.toUInt64 >>> (((6 : Int32) * ((4 : Int32) * p1)) &&& 0x3f).toInt64.toUInt64).toInt64) &&& (63 : Int64)).toInt32), oU, oU, oU] [(.long q0)]) _
    refine XS.iconst X17.here hx rfl (hb hby d10_10) ?_
    refine XS.iloadN X17.here hx rfl (hb hby d10_11) rfl ?_
    refine XS.imul X17.here hx rfl (hb hby d10_12) rfl ?_
    show oP p e below T17 (mkF m 13 #[oJ q0, oS, oI p1, oI p2, oI ((((q0.toUInt64 >>> (((6 : Int32) * ((4 : Int32) * p1)) &&& 0x3f).toInt64.toUInt64).toInt64) &&& (63 : Int64)).toInt32), oU, oU, oU] [(.int ((4 : Int32) * p1)), (.long q0)]) _
    refine XS.iconst X17.here hx rfl (hb hby d10_13) ?_
    refine XS.iadd X17.here hx rfl (hb hby d10_14) rfl ?_
    show oP p e below T17 (mkF m 15 #[oJ q0, oS, oI p1, oI p2, oI ((((q0.toUInt64 >>> (((6 : Int32) * ((4 : Int32) * p1)) &&& 0x3f).toInt64.toUInt64).toInt64) &&& (63 : Int64)).toInt32), oU, oU, oU] [(.int (((4 : Int32) * p1) + (1 : Int32))), (.long q0)]) _
    refine st18 _ ?_
    show oP p e below T18 (mkF m 18 #[oJ q0, oS, oI p1, oI p2, oI ((((q0.toUInt64 >>> (((6 : Int32) * ((4 : Int32) * p1)) &&& 0x3f).toInt64.toUInt64).toInt64) &&& (63 : Int64)).toInt32), oU, oU, oU] [(.int ((((q0.toUInt64 >>> (((6 : Int32) * (((4 : Int32) * p1) + (1 : Int32))) &&& 0x3f).toInt64.toUInt64).toInt64) &&& (63 : Int64)).toInt32))]) _
    refine XS.istore X18.here hx rfl (hb hby d10_18) rfl (l' := #[oJ q0, oS, oI p1, oI p2, oI ((((q0.toUInt64 >>> (((6 : Int32) * ((4 : Int32) * p1)) &&& 0x3f).toInt64.toUInt64).toInt64) &&& (63 : Int64)).toInt32), oI ((((q0.toUInt64 >>> (((6 : Int32) * (((4 : Int32) * p1) + (1 : Int32))) &&& 0x3f).toInt64.toUInt64).toInt64) &&& (63 : Int64)).toInt32), oU, oU]) rfl ?_
    show oP p e below T18 (mkF m 20 #[oJ q0, oS, oI p1, oI p2, oI ((((q0.toUInt64 >>> (((6 : Int32) * ((4 : Int32) * p1)) &&& 0x3f).toInt64.toUInt64).toInt64) &&& (63 : Int64)).toInt32), oI ((((q0.toUInt64 >>> (((6 : Int32) * (((4 : Int32) * p1) + (1 : Int32))) &&& 0x3f).toInt64.toUInt64).toInt64) &&& (63 : Int64)).toInt32), oU, oU] []) _
    refine XS.lloadN X18.here hx rfl (hb hby d10_20) rfl ?_
    show oP p e below T18 (mkF m 21 #[oJ q0, oS, oI p1, oI p2, oI ((((q0.toUInt64 >>> (((6 : Int32) * ((4 : Int32) * p1)) &&& 0x3f).toInt64.toUInt64).toInt64) &&& (63 : Int64)).toInt32), oI ((((q0.toUInt64 >>> (((6 : Int32) * (((4 : Int32) * p1) + (1 : Int32))) &&& 0x3f).toInt64.toUInt64).toInt64) &&& (63 : Int64)).toInt32), oU, oU] [(.long q0)]) _
    refine XS.iconst X18.here hx rfl (hb hby d10_21) ?_
    refine XS.iloadN X18.here hx rfl (hb hby d10_22) rfl ?_
    refine XS.imul X18.here hx rfl (hb hby d10_23) rfl ?_
    show oP p e below T18 (mkF m 24 #[oJ q0, oS, oI p1, oI p2, oI ((((q0.toUInt64 >>> (((6 : Int32) * ((4 : Int32) * p1)) &&& 0x3f).toInt64.toUInt64).toInt64) &&& (63 : Int64)).toInt32), oI ((((q0.toUInt64 >>> (((6 : Int32) * (((4 : Int32) * p1) + (1 : Int32))) &&& 0x3f).toInt64.toUInt64).toInt64) &&& (63 : Int64)).toInt32), oU, oU] [(.int ((4 : Int32) * p1)), (.long q0)]) _
    refine XS.iconst X18.here hx rfl (hb hby d10_24) ?_
    refine XS.iadd X18.here hx rfl (hb hby d10_25) rfl ?_
    show oP p e below T18 (mkF m 26 #[oJ q0, oS, oI p1, oI p2, oI ((((q0.toUInt64 >>> (((6 : Int32) * ((4 : Int32) * p1)) &&& 0x3f).toInt64.toUInt64).toInt64) &&& (63 : Int64)).toInt32), oI ((((q0.toUInt64 >>> (((6 : Int32) * (((4 : Int32) * p1) + (1 : Int32))) &&& 0x3f).toInt64.toUInt64).toInt64) &&& (63 : Int64)).toInt32), oU, oU] [(.int (((4 : Int32) * p1) + (2 : Int32))), (.long q0)]) _
    refine st19 _ ?_
    show oP p e below T19 (mkF m 29 #[oJ q0, oS, oI p1, oI p2, oI ((((q0.toUInt64 >>> (((6 : Int32) * ((4 : Int32) * p1)) &&& 0x3f).toInt64.toUInt64).toInt64) &&& (63 : Int64)).toInt32), oI ((((q0.toUInt64 >>> (((6 : Int32) * (((4 : Int32) * p1) + (1 : Int32))) &&& 0x3f).toInt64.toUInt64).toInt64) &&& (63 : Int64)).toInt32), oU, oU] [(.int ((((q0.toUInt64 >>> (((6 : Int32) * (((4 : Int32) * p1) + (2 : Int32))) &&& 0x3f).toInt64.toUInt64).toInt64) &&& (63 : Int64)).toInt32))]) _
    refine XS.istore X19.here hx rfl (hb hby d10_29) rfl (l' := #[oJ q0, oS, oI p1, oI p2, oI ((((q0.toUInt64 >>> (((6 : Int32) * ((4 : Int32) * p1)) &&& 0x3f).toInt64.toUInt64).toInt64) &&& (63 : Int64)).toInt32), oI ((((q0.toUInt64 >>> (((6 : Int32) * (((4 : Int32) * p1) + (1 : Int32))) &&& 0x3f).toInt64.toUInt64).toInt64) &&& (63 : Int64)).toInt32), oI ((((q0.toUInt64 >>> (((6 : Int32) * (((4 : Int32) * p1) + (2 : Int32))) &&& 0x3f).toInt64.toUInt64).toInt64) &&& (63 : Int64)).toInt32), oU]) rfl ?_
    show oP p e below T19 (mkF m 31 #[oJ q0, oS, oI p1, oI p2, oI ((((q0.toUInt64 >>> (((6 : Int32) * ((4 : Int32) * p1)) &&& 0x3f).toInt64.toUInt64).toInt64) &&& (63 : Int64)).toInt32), oI ((((q0.toUInt64 >>> (((6 : Int32) * (((4 : Int32) * p1) + (1 : Int32))) &&& 0x3f).toInt64.toUInt64).toInt64) &&& (63 : Int64)).toInt32), oI ((((q0.toUInt64 >>> (((6 : Int32) * (((4 : Int32) * p1) + (2 : Int32))) &&& 0x3f).toInt64.toUInt64).toInt64) &&& (63 : Int64)).toInt32), oU] []) _
    refine XS.lloadN X19.here hx rfl (hb hby d10_31) rfl ?_
    show oP p e below T19 (mkF m 32 #[oJ q0, oS, oI p1, oI p2, oI ((((q0.toUInt64 >>> (((6 : Int32) * ((4 : Int32) * p1)) &&& 0x3f).toInt64.toUInt64).toInt64) &&& (63 : Int64)).toInt32), oI ((((q0.toUInt64 >>> (((6 : Int32) * (((4 : Int32) * p1) + (1 : Int32))) &&& 0x3f).toInt64.toUInt64).toInt64) &&& (63 : Int64)).toInt32), oI ((((q0.toUInt64 >>> (((6 : Int32) * (((4 : Int32) * p1) + (2 : Int32))) &&& 0x3f).toInt64.toUInt64).toInt64) &&& (63 : Int64)).toInt32), oU] [(.long q0)]) _
    refine XS.iconst X19.here hx rfl (hb hby d10_32) ?_
    refine XS.iloadN X19.here hx rfl (hb hby d10_33) rfl ?_
    refine XS.imul X19.here hx rfl (hb hby d10_34) rfl ?_
    show oP p e below T19 (mkF m 35 #[oJ q0, oS, oI p1, oI p2, oI ((((q0.toUInt64 >>> (((6 : Int32) * ((4 : Int32) * p1)) &&& 0x3f).toInt64.toUInt64).toInt64) &&& (63 : Int64)).toInt32), oI ((((q0.toUInt64 >>> (((6 : Int32) * (((4 : Int32) * p1) + (1 : Int32))) &&& 0x3f).toInt64.toUInt64).toInt64) &&& (63 : Int64)).toInt32), oI ((((q0.toUInt64 >>> (((6 : Int32) * (((4 : Int32) * p1) + (2 : Int32))) &&& 0x3f).toInt64.toUInt64).toInt64) &&& (63 : Int64)).toInt32), oU] [(.int ((4 : Int32) * p1)), (.long q0)]) _
    refine XS.iconst X19.here hx rfl (hb hby d10_35) ?_
    refine XS.iadd X19.here hx rfl (hb hby d10_36) rfl ?_
    show oP p e below T19 (mkF m 37 #[oJ q0, oS, oI p1, oI p2, oI ((((q0.toUInt64 >>> (((6 : Int32) * ((4 : Int32) * p1)) &&& 0x3f).toInt64.toUInt64).toInt64) &&& (63 : Int64)).toInt32), oI ((((q0.toUInt64 >>> (((6 : Int32) * (((4 : Int32) * p1) + (1 : Int32))) &&& 0x3f).toInt64.toUInt64).toInt64) &&& (63 : Int64)).toInt32), oI ((((q0.toUInt64 >>> (((6 : Int32) * (((4 : Int32) * p1) + (2 : Int32))) &&& 0x3f).toInt64.toUInt64).toInt64) &&& (63 : Int64)).toInt32), oU] [(.int (((4 : Int32) * p1) + (3 : Int32))), (.long q0)]) _
    refine st20 _ ?_
    show oP p e below T20 (mkF m 40 #[oJ q0, oS, oI p1, oI p2, oI ((((q0.toUInt64 >>> (((6 : Int32) * ((4 : Int32) * p1)) &&& 0x3f).toInt64.toUInt64).toInt64) &&& (63 : Int64)).toInt32), oI ((((q0.toUInt64 >>> (((6 : Int32) * (((4 : Int32) * p1) + (1 : Int32))) &&& 0x3f).toInt64.toUInt64).toInt64) &&& (63 : Int64)).toInt32), oI ((((q0.toUInt64 >>> (((6 : Int32) * (((4 : Int32) * p1) + (2 : Int32))) &&& 0x3f).toInt64.toUInt64).toInt64) &&& (63 : Int64)).toInt32), oU] [(.int ((((q0.toUInt64 >>> (((6 : Int32) * (((4 : Int32) * p1) + (3 : Int32))) &&& 0x3f).toInt64.toUInt64).toInt64) &&& (63 : Int64)).toInt32))]) _
    refine XS.istore X20.here hx rfl (hb hby d10_40) rfl (l' := #[oJ q0, oS, oI p1, oI p2, oI ((((q0.toUInt64 >>> (((6 : Int32) * ((4 : Int32) * p1)) &&& 0x3f).toInt64.toUInt64).toInt64) &&& (63 : Int64)).toInt32), oI ((((q0.toUInt64 >>> (((6 : Int32) * (((4 : Int32) * p1) + (1 : Int32))) &&& 0x3f).toInt64.toUInt64).toInt64) &&& (63 : Int64)).toInt32), oI ((((q0.toUInt64 >>> (((6 : Int32) * (((4 : Int32) * p1) + (2 : Int32))) &&& 0x3f).toInt64.toUInt64).toInt64) &&& (63 : Int64)).toInt32), oI ((((q0.toUInt64 >>> (((6 : Int32) * (((4 : Int32) * p1) + (3 : Int32))) &&& 0x3f).toInt64.toUInt64).toInt64) &&& (63 : Int64)).toInt32)]) rfl ?_
    show oP p e below T20 (mkF m 42 #[oJ q0, oS, oI p1, oI p2, oI ((((q0.toUInt64 >>> (((6 : Int32) * ((4 : Int32) * p1)) &&& 0x3f).toInt64.toUInt64).toInt64) &&& (63 : Int64)).toInt32), oI ((((q0.toUInt64 >>> (((6 : Int32) * (((4 : Int32) * p1) + (1 : Int32))) &&& 0x3f).toInt64.toUInt64).toInt64) &&& (63 : Int64)).toInt32), oI ((((q0.toUInt64 >>> (((6 : Int32) * (((4 : Int32) * p1) + (2 : Int32))) &&& 0x3f).toInt64.toUInt64).toInt64) &&& (63 : Int64)).toInt32), oI ((((q0.toUInt64 >>> (((6 : Int32) * (((4 : Int32) * p1) + (3 : Int32))) &&& 0x3f).toInt64.toUInt64).toInt64) &&& (63 : Int64)).toInt32)] []) _
    refine XS.iloadN X20.here hx rfl (hb hby d10_42) rfl ?_
    exact k)
  by_cases hc22 : p2 = (0 : Int32)
  · obtain ⟨fs, hr, hrun, hended, hW, hsame⟩ := X20.leave (v := some (.int ((((((q0.toUInt64 >>> (((6 : Int32) * ((4 : Int32) * p1)) &&& 0x3f).toInt64.toUInt64).toInt64) &&& (63 : Int64)).toInt32) * (4 : Int32)) + (((((q0.toUInt64 >>> (((6 : Int32) * (((4 : Int32) * p1) + (1 : Int32))) &&& 0x3f).toInt64.toUInt64).toInt64) &&& (63 : Int64)).toInt32) / (16 : Int32))))) (fun h => by rw [Bd.returns] at h; cases h)
    refine ⟨_, _, pre21 _ ?_, hrun, hended, _, _, rfl, ?_, ⟨_, rfl⟩, hW, hsame.mono (by decide) (by decide)⟩
    · show oP p e below T20 (mkF m 43 #[oJ q0, oS, oI p1, oI p2, oI ((((q0.toUInt64 >>> (((6 : Int32) * ((4 : Int32) * p1)) &&& 0x3f).toInt64.toUInt64).toInt64) &&& (63 : Int64)).toInt32), oI ((((q0.toUInt64 >>> (((6 : Int32) * (((4 : Int32) * p1) + (1 : Int32))) &&& 0x3f).toInt64.toUInt64).toInt64) &&& (63 : Int64)).toInt32), oI ((((q0.toUInt64 >>> (((6 : Int32) * (((4 : Int32) * p1) + (2 : Int32))) &&& 0x3f).toInt64.toUInt64).toInt64) &&& (63 : Int64)).toInt32), oI ((((q0.toUInt64 >>> (((6 : Int32) * (((4 : Int32) * p1) + (3 : Int32))) &&& 0x3f).toInt64.toUInt64).toInt64) &&& (63 : Int64)).toInt32)] [(.int p2)]) _
      refine XS.ifNo X20.here hx rfl (hb hby d10_43) rfl ((if0 _ _).trans (teq hc22).2) ?_
      show oP p e below T20 (mkF m 46 #[oJ q0, oS, oI p1, oI p2, oI ((((q0.toUInt64 >>> (((6 : Int32) * ((4 : Int32) * p1)) &&& 0x3f).toInt64.toUInt64).toInt64) &&& (63 : Int64)).toInt32), oI ((((q0.toUInt64 >>> (((6 : Int32) * (((4 : Int32) * p1) + (1 : Int32))) &&& 0x3f).toInt64.toUInt64).toInt64) &&& (63 : Int64)).toInt32), oI ((((q0.toUInt64 >>> (((6 : Int32) * (((4 : Int32) * p1) + (2 : Int32))) &&& 0x3f).toInt64.toUInt64).toInt64) &&& (63 : Int64)).toInt32), oI ((((q0.toUInt64 >>> (((6 : Int32) * (((4 : Int32) * p1) + (3 : Int32))) &&& 0x3f).toInt64.toUInt64).toInt64) &&& (63 : Int64)).toInt32)] []) _
      refine XS.iload X20.here hx rfl (hb hby d10_46) rfl ?_
      show oP p e below T20 (mkF m 48 #[oJ q0, oS, oI p1, oI p2, oI ((((q0.toUInt64 >>> (((6 : Int32) * ((4 : Int32) * p1)) &&& 0x3f).toInt64.toUInt64).toInt64) &&& (63 : Int64)).toInt32), oI ((((q0.toUInt64 >>> (((6 : Int32) * (((4 : Int32) * p1) + (1 : Int32))) &&& 0x3f).toInt64.toUInt64).toInt64) &&& (63 : Int64)).toInt32), oI ((((q0.toUInt64 >>> (((6 : Int32) * (((4 : Int32) * p1) + (2 : Int32))) &&& 0x3f).toInt64.toUInt64).toInt64) &&& (63 : Int64)).toInt32), oI ((((q0.toUInt64 >>> (((6 : Int32) * (((4 : Int32) * p1) + (3 : Int32))) &&& 0x3f).toInt64.toUInt64).toInt64) &&& (63 : Int64)).toInt32)] [(.int ((((q0.toUInt64 >>> (((6 : Int32) * ((4 : Int32) * p1)) &&& 0x3f).toInt64.toUInt64).toInt64) &&& (63 : Int64)).toInt32))]) _
      refine XS.iconst X20.here hx rfl (hb hby d10_48) ?_
      refine XS.imul X20.here hx rfl (hb hby d10_49) rfl ?_
      show oP p e below T20 (mkF m 50 #[oJ q0, oS, oI p1, oI p2, oI ((((q0.toUInt64 >>> (((6 : Int32) * ((4 : Int32) * p1)) &&& 0x3f).toInt64.toUInt64).toInt64) &&& (63 : Int64)).toInt32), oI ((((q0.toUInt64 >>> (((6 : Int32) * (((4 : Int32) * p1) + (1 : Int32))) &&& 0x3f).toInt64.toUInt64).toInt64) &&& (63 : Int64)).toInt32), oI ((((q0.toUInt64 >>> (((6 : Int32) * (((4 : Int32) * p1) + (2 : Int32))) &&& 0x3f).toInt64.toUInt64).toInt64) &&& (63 : Int64)).toInt32), oI ((((q0.toUInt64 >>> (((6 : Int32) * (((4 : Int32) * p1) + (3 : Int32))) &&& 0x3f).toInt64.toUInt64).toInt64) &&& (63 : Int64)).toInt32)] [(.int (((((q0.toUInt64 >>> (((6 : Int32) * ((4 : Int32) * p1)) &&& 0x3f).toInt64.toUInt64).toInt64) &&& (63 : Int64)).toInt32) * (4 : Int32)))]) _
      refine XS.iload X20.here hx rfl (hb hby d10_50) rfl ?_
      show oP p e below T20 (mkF m 52 #[oJ q0, oS, oI p1, oI p2, oI ((((q0.toUInt64 >>> (((6 : Int32) * ((4 : Int32) * p1)) &&& 0x3f).toInt64.toUInt64).toInt64) &&& (63 : Int64)).toInt32), oI ((((q0.toUInt64 >>> (((6 : Int32) * (((4 : Int32) * p1) + (1 : Int32))) &&& 0x3f).toInt64.toUInt64).toInt64) &&& (63 : Int64)).toInt32), oI ((((q0.toUInt64 >>> (((6 : Int32) * (((4 : Int32) * p1) + (2 : Int32))) &&& 0x3f).toInt64.toUInt64).toInt64) &&& (63 : Int64)).toInt32), oI ((((q0.toUInt64 >>> (((6 : Int32) * (((4 : Int32) * p1) + (3 : Int32))) &&& 0x3f).toInt64.toUInt64).toInt64) &&& (63 : Int64)).toInt32)] [(.int ((((q0.toUInt64 >>> (((6 : Int32) * (((4 : Int32) * p1) + (1 : Int32))) &&& 0x3f).toInt64.toUInt64).toInt64) &&& (63 : Int64)).toInt32)), (.int (((((q0.toUInt64 >>> (((6 : Int32) * ((4 : Int32) * p1)) &&& 0x3f).toInt64.toUInt64).toInt64) &&& (63 : Int64)).toInt32) * (4 : Int32)))]) _
      refine XS.bipush X20.here hx rfl (hb hby d10_52) ?_
      refine XS.idiv X20.here hx rfl (hb hby d10_54) rfl (by decide) ?_
      show oP p e below T20 (mkF m 55 #[oJ q0, oS, oI p1, oI p2, oI ((((q0.toUInt64 >>> (((6 : Int32) * ((4 : Int32) * p1)) &&& 0x3f).toInt64.toUInt64).toInt64) &&& (63 : Int64)).toInt32), oI ((((q0.toUInt64 >>> (((6 : Int32) * (((4 : Int32) * p1) + (1 : Int32))) &&& 0x3f).toInt64.toUInt64).toInt64) &&& (63 : Int64)).toInt32), oI ((((q0.toUInt64 >>> (((6 : Int32) * (((4 : Int32) * p1) + (2 : Int32))) &&& 0x3f).toInt64.toUInt64).toInt64) &&& (63 : Int64)).toInt32), oI ((((q0.toUInt64 >>> (((6 : Int32) * (((4 : Int32) * p1) + (3 : Int32))) &&& 0x3f).toInt64.toUInt64).toInt64) &&& (63 : Int64)).toInt32)] [(.int (((((q0.toUInt64 >>> (((6 : Int32) * (((4 : Int32) * p1) + (1 : Int32))) &&& 0x3f).toInt64.toUInt64).toInt64) &&& (63 : Int64)).toInt32) / (16 : Int32))), (.int (((((q0.toUInt64 >>> (((6 : Int32) * ((4 : Int32) * p1)) &&& 0x3f).toInt64.toUInt64).toInt64) &&& (63 : Int64)).toInt32) * (4 : Int32)))]) _
      refine XS.iadd X20.here hx rfl (hb hby d10_55) rfl ?_
      show oP p e below T20 (mkF m 56 #[oJ q0, oS, oI p1, oI p2, oI ((((q0.toUInt64 >>> (((6 : Int32) * ((4 : Int32) * p1)) &&& 0x3f).toInt64.toUInt64).toInt64) &&& (63 : Int64)).toInt32), oI ((((q0.toUInt64 >>> (((6 : Int32) * (((4 : Int32) * p1) + (1 : Int32))) &&& 0x3f).toInt64.toUInt64).toInt64) &&& (63 : Int64)).toInt32), oI ((((q0.toUInt64 >>> (((6 : Int32) * (((4 : Int32) * p1) + (2 : Int32))) &&& 0x3f).toInt64.toUInt64).toInt64) &&& (63 : Int64)).toInt32), oI ((((q0.toUInt64 >>> (((6 : Int32) * (((4 : Int32) * p1) + (3 : Int32))) &&& 0x3f).toInt64.toUInt64).toInt64) &&& (63 : Int64)).toInt32)] [(.int ((((((q0.toUInt64 >>> (((6 : Int32) * ((4 : Int32) * p1)) &&& 0x3f).toInt64.toUInt64).toInt64) &&& (63 : Int64)).toInt32) * (4 : Int32)) + (((((q0.toUInt64 >>> (((6 : Int32) * (((4 : Int32) * p1) + (1 : Int32))) &&& 0x3f).toInt64.toUInt64).toInt64) &&& (63 : Int64)).toInt32) / (16 : Int32))))]) _
      exact retI X20 hx Bd.returns (hb hby d10_56) hr
    · show (some (.int ((((((q0.toUInt64 >>> (((6 : Int32) * ((4 : Int32) * p1)) &&& 0x3f).toInt64.toUInt64).toInt64) &&& (63 : Int64)).toInt32) * (4 : Int32)) + (((((q0.toUInt64 >>> (((6 : Int32) * (((4 : Int32) * p1) + (1 : Int32))) &&& 0x3f).toInt64.toUInt64).toInt64) &&& (63 : Int64)).toInt32) / (16 : Int32)))) : Option Value) = some (.int (fn10 Z q0 p1 p2)) ∧ Fr n0 _ ∧ T20.heap = h0
      rw [h20q]
      refine ⟨?_, N20, rfl⟩
      unfold fn10
      rw [if_pos hc22]
  · have pre23 : ∀ t, oP p e below T20 (mkF m 59 #[oJ q0, oS, oI p1, oI p2, oI ((((q0.toUInt64 >>> (((6 : Int32) * ((4 : Int32) * p1)) &&& 0x3f).toInt64.toUInt64).toInt64) &&& (63 : Int64)).toInt32), oI ((((q0.toUInt64 >>> (((6 : Int32) * (((4 : Int32) * p1) + (1 : Int32))) &&& 0x3f).toInt64.toUInt64).toInt64) &&& (63 : Int64)).toInt32), oI ((((q0.toUInt64 >>> (((6 : Int32) * (((4 : Int32) * p1) + (2 : Int32))) &&& 0x3f).toInt64.toUInt64).toInt64) &&& (63 : Int64)).toInt32), oI ((((q0.toUInt64 >>> (((6 : Int32) * (((4 : Int32) * p1) + (3 : Int32))) &&& 0x3f).toInt64.toUInt64).toInt64) &&& (63 : Int64)).toInt32)] [(.int 1), (.int p2)]) t → oP p e below s₁ (entryFrame m #[(.long q0), (.int p1), (.int p2)] 8) t := fun t k => pre21 t (by
      show oP p e below T20 (mkF m 43 #[oJ q0, oS, oI p1, oI p2, oI ((((q0.toUInt64 >>> (((6 : Int32) * ((4 : Int32) * p1)) &&& 0x3f).toInt64.toUInt64).toInt64) &&& (63 : Int64)).toInt32), oI ((((q0.toUInt64 >>> (((6 : Int32) * (((4 : Int32) * p1) + (1 : Int32))) &&& 0x3f).toInt64.toUInt64).toInt64) &&& (63 : Int64)).toInt32), oI ((((q0.toUInt64 >>> (((6 : Int32) * (((4 : Int32) * p1) + (2 : Int32))) &&& 0x3f).toInt64.toUInt64).toInt64) &&& (63 : Int64)).toInt32), oI ((((q0.toUInt64 >>> (((6 : Int32) * (((4 : Int32) * p1) + (3 : Int32))) &&& 0x3f).toInt64.toUInt64).toInt64) &&& (63 : Int64)).toInt32)] [(.int p2)]) _
      refine XS.ifYes X20.here hx rfl (pc0 := 43) (pc' := 57) rfl (hb hby d10_43) rfl ((if0 _ _).trans (feq hc22).2) (by decide) (by decide) ?_
      show oP p e below T20 (mkF m 57 #[oJ q0, oS, oI p1, oI p2, oI ((((q0.toUInt64 >>> (((6 : Int32) * ((4 : Int32) * p1)) &&& 0x3f).toInt64.toUInt64).toInt64) &&& (63 : Int64)).toInt32), oI ((((q0.toUInt64 >>> (((6 : Int32) * (((4 : Int32) * p1) + (1 : Int32))) &&& 0x3f).toInt64.toUInt64).toInt64) &&& (63 : Int64)).toInt32), oI ((((q0.toUInt64 >>> (((6 : Int32) * (((4 : Int32) * p1) + (2 : Int32))) &&& 0x3f).toInt64.toUInt64).toInt64) &&& (63 : Int64)).toInt32), oI ((((q0.toUInt64 >>> (((6 : Int32) * (((4 : Int32) * p1) + (3 : Int32))) &&& 0x3f).toInt64.toUInt64).toInt64) &&& (63 : Int64)).toInt32)] []) _
      refine XS.iloadN X20.here hx rfl (hb hby d10_57) rfl ?_
      refine XS.iconst X20.here hx rfl (hb hby d10_58) ?_
      exact k)
    by_cases hc24 : p2 = (1 : Int32)
    · obtain ⟨fs, hr, hrun, hended, hW, hsame⟩ := X20.leave (v := some (.int (((((((q0.toUInt64 >>> (((6 : Int32) * (((4 : Int32) * p1) + (1 : Int32))) &&& 0x3f).toInt64.toUInt64).toInt64) &&& (63 : Int64)).toInt32) - (((((q0.toUInt64 >>> (((6 : Int32) * (((4 : Int32) * p1) + (1 : Int32))) &&& 0x3f).toInt64.toUInt64).toInt64) &&& (63 : Int64)).toInt32) / (16 : Int32)) * (16 : Int32)) * (16 : Int32)) + (((((q0.toUInt64 >>> (((6 : Int32) * (((4 : Int32) * p1) + (2 : Int32))) &&& 0x3f).toInt64.toUInt64).toInt64) &&& (63 : Int64)).toInt32) / (4 : Int32))))) (fun h => by rw [Bd.returns] at h; cases h)
      refine ⟨_, _, pre23 _ ?_, hrun, hended, _, _, rfl, ?_, ⟨_, rfl⟩, hW, hsame.mono (by decide) (by decide)⟩
      · show oP p e below T20 (mkF m 59 #[oJ q0, oS, oI p1, oI p2, oI ((((q0.toUInt64 >>> (((6 : Int32) * ((4 : Int32) * p1)) &&& 0x3f).toInt64.toUInt64).toInt64) &&& (63 : Int64)).toInt32), oI ((((q0.toUInt64 >>> (((6 : Int32) * (((4 : Int32) * p1) + (1 : Int32))) &&& 0x3f).toInt64.toUInt64).toInt64) &&& (63 : Int64)).toInt32), oI ((((q0.toUInt64 >>> (((6 : Int32) * (((4 : Int32) * p1) + (2 : Int32))) &&& 0x3f).toInt64.toUInt64).toInt64) &&& (63 : Int64)).toInt32), oI ((((q0.toUInt64 >>> (((6 : Int32) * (((4 : Int32) * p1) + (3 : Int32))) &&& 0x3f).toInt64.toUInt64).toInt64) &&& (63 : Int64)).toInt32)] [(.int 1), (.int p2)]) _
        refine XS.icmpNo X20.here hx rfl (hb hby d10_59) rfl (teq hc24).2 ?_
        show oP p e below T20 (mkF m 62 #[oJ q0, oS, oI p1, oI p2, oI ((((q0.toUInt64 >>> (((6 : Int32) * ((4 : Int32) * p1)) &&& 0x3f).toInt64.toUInt64).toInt64) &&& (63 : Int64)).toInt32), oI ((((q0.toUInt64 >>> (((6 : Int32) * (((4 : Int32) * p1) + (1 : Int32))) &&& 0x3f).toInt64.toUInt64).toInt64) &&& (63 : Int64)).toInt32), oI ((((q0.toUInt64 >>> (((6 : Int32) * (((4 : Int32) * p1) + (2 : Int32))) &&& 0x3f).toInt64.toUInt64).toInt64) &&& (63 : Int64)).toInt32), oI ((((q0.toUInt64 >>> (((6 : Int32) * (((4 : Int32) * p1) + (3 : Int32))) &&& 0x3f).toInt64.toUInt64).toInt64) &&& (63 : Int64)).toInt32)] []) _
        refine XS.iload X20.here hx rfl (hb hby d10_62) rfl ?_
        show oP p e below T20 (mkF m 64 #[oJ q0, oS, oI p1, oI p2, oI ((((q0.toUInt64 >>> (((6 : Int32) * ((4 : Int32) * p1)) &&& 0x3f).toInt64.toUInt64).toInt64) &&& (63 : Int64)).toInt32), oI ((((q0.toUInt64 >>> (((6 : Int32) * (((4 : Int32) * p1) + (1 : Int32))) &&& 0x3f).toInt64.toUInt64).toInt64) &&& (63 : Int64)).toInt32), oI ((((q0.toUInt64 >>> (((6 : Int32) * (((4 : Int32) * p1) + (2 : Int32))) &&& 0x3f).toInt64.toUInt64).toInt64) &&& (63 : Int64)).toInt32), oI ((((q0.toUInt64 >>> (((6 : Int32) * (((4 : Int32) * p1) + (3 : Int32))) &&& 0x3f).toInt64.toUInt64).toInt64) &&& (63 : Int64)).toInt32)] [(.int ((((q0.toUInt64 >>> (((6 : Int32) * (((4 : Int32) * p1) + (1 : Int32))) &&& 0x3f).toInt64.toUInt64).toInt64) &&& (63 : Int64)).toInt32))]) _
        refine XS.bipush X20.here hx rfl (hb hby d10_64) ?_
        refine XS.irem X20.here hx rfl (hb hby d10_66) rfl (by decide) ?_
        show oP p e below T20 (mkF m 67 #[oJ q0, oS, oI p1, oI p2, oI ((((q0.toUInt64 >>> (((6 : Int32) * ((4 : Int32) * p1)) &&& 0x3f).toInt64.toUInt64).toInt64) &&& (63 : Int64)).toInt32), oI ((((q0.toUInt64 >>> (((6 : Int32) * (((4 : Int32) * p1) + (1 : Int32))) &&& 0x3f).toInt64.toUInt64).toInt64) &&& (63 : Int64)).toInt32), oI ((((q0.toUInt64 >>> (((6 : Int32) * (((4 : Int32) * p1) + (2 : Int32))) &&& 0x3f).toInt64.toUInt64).toInt64) &&& (63 : Int64)).toInt32), oI ((((q0.toUInt64 >>> (((6 : Int32) * (((4 : Int32) * p1) + (3 : Int32))) &&& 0x3f).toInt64.toUInt64).toInt64) &&& (63 : Int64)).toInt32)] [(.int (((((q0.toUInt64 >>> (((6 : Int32) * (((4 : Int32) * p1) + (1 : Int32))) &&& 0x3f).toInt64.toUInt64).toInt64) &&& (63 : Int64)).toInt32) - (((((q0.toUInt64 >>> (((6 : Int32) * (((4 : Int32) * p1) + (1 : Int32))) &&& 0x3f).toInt64.toUInt64).toInt64) &&& (63 : Int64)).toInt32) / (16 : Int32)) * (16 : Int32)))]) _
        refine XS.bipush X20.here hx rfl (hb hby d10_67) ?_
        refine XS.imul X20.here hx rfl (hb hby d10_69) rfl ?_
        show oP p e below T20 (mkF m 70 #[oJ q0, oS, oI p1, oI p2, oI ((((q0.toUInt64 >>> (((6 : Int32) * ((4 : Int32) * p1)) &&& 0x3f).toInt64.toUInt64).toInt64) &&& (63 : Int64)).toInt32), oI ((((q0.toUInt64 >>> (((6 : Int32) * (((4 : Int32) * p1) + (1 : Int32))) &&& 0x3f).toInt64.toUInt64).toInt64) &&& (63 : Int64)).toInt32), oI ((((q0.toUInt64 >>> (((6 : Int32) * (((4 : Int32) * p1) + (2 : Int32))) &&& 0x3f).toInt64.toUInt64).toInt64) &&& (63 : Int64)).toInt32), oI ((((q0.toUInt64 >>> (((6 : Int32) * (((4 : Int32) * p1) + (3 : Int32))) &&& 0x3f).toInt64.toUInt64).toInt64) &&& (63 : Int64)).toInt32)] [(.int ((((((q0.toUInt64 >>> (((6 : Int32) * (((4 : Int32) * p1) + (1 : Int32))) &&& 0x3f).toInt64.toUInt64).toInt64) &&& (63 : Int64)).toInt32) - (((((q0.toUInt64 >>> (((6 : Int32) * (((4 : Int32) * p1) + (1 : Int32))) &&& 0x3f).toInt64.toUInt64).toInt64) &&& (63 : Int64)).toInt32) / (16 : Int32)) * (16 : Int32)) * (16 : Int32)))]) _
        refine XS.iload X20.here hx rfl (hb hby d10_70) rfl ?_
        show oP p e below T20 (mkF m 72 #[oJ q0, oS, oI p1, oI p2, oI ((((q0.toUInt64 >>> (((6 : Int32) * ((4 : Int32) * p1)) &&& 0x3f).toInt64.toUInt64).toInt64) &&& (63 : Int64)).toInt32), oI ((((q0.toUInt64 >>> (((6 : Int32) * (((4 : Int32) * p1) + (1 : Int32))) &&& 0x3f).toInt64.toUInt64).toInt64) &&& (63 : Int64)).toInt32), oI ((((q0.toUInt64 >>> (((6 : Int32) * (((4 : Int32) * p1) + (2 : Int32))) &&& 0x3f).toInt64.toUInt64).toInt64) &&& (63 : Int64)).toInt32), oI ((((q0.toUInt64 >>> (((6 : Int32) * (((4 : Int32) * p1) + (3 : Int32))) &&& 0x3f).toInt64.toUInt64).toInt64) &&& (63 : Int64)).toInt32)] [(.int ((((q0.toUInt64 >>> (((6 : Int32) * (((4 : Int32) * p1) + (2 : Int32))) &&& 0x3f).toInt64.toUInt64).toInt64) &&& (63 : Int64)).toInt32)), (.int ((((((q0.toUInt64 >>> (((6 : Int32) * (((4 : Int32) * p1) + (1 : Int32))) &&& 0x3f).toInt64.toUInt64).toInt64) &&& (63 : Int64)).toInt32) - (((((q0.toUInt64 >>> (((6 : Int32) * (((4 : Int32) * p1) + (1 : Int32))) &&& 0x3f).toInt64.toUInt64).toInt64) &&& (63 : Int64)).toInt32) / (16 : Int32)) * (16 : Int32)) * (16 : Int32)))]) _
        refine XS.iconst X20.here hx rfl (hb hby d10_72) ?_
        refine XS.idiv X20.here hx rfl (hb hby d10_73) rfl (by decide) ?_
        show oP p e below T20 (mkF m 74 #[oJ q0, oS, oI p1, oI p2, oI ((((q0.toUInt64 >>> (((6 : Int32) * ((4 : Int32) * p1)) &&& 0x3f).toInt64.toUInt64).toInt64) &&& (63 : Int64)).toInt32), oI ((((q0.toUInt64 >>> (((6 : Int32) * (((4 : Int32) * p1) + (1 : Int32))) &&& 0x3f).toInt64.toUInt64).toInt64) &&& (63 : Int64)).toInt32), oI ((((q0.toUInt64 >>> (((6 : Int32) * (((4 : Int32) * p1) + (2 : Int32))) &&& 0x3f).toInt64.toUInt64).toInt64) &&& (63 : Int64)).toInt32), oI ((((q0.toUInt64 >>> (((6 : Int32) * (((4 : Int32) * p1) + (3 : Int32))) &&& 0x3f).toInt64.toUInt64).toInt64) &&& (63 : Int64)).toInt32)] [(.int (((((q0.toUInt64 >>> (((6 : Int32) * (((4 : Int32) * p1) + (2 : Int32))) &&& 0x3f).toInt64.toUInt64).toInt64) &&& (63 : Int64)).toInt32) / (4 : Int32))), (.int ((((((q0.toUInt64 >>> (((6 : Int32) * (((4 : Int32) * p1) + (1 : Int32))) &&& 0x3f).toInt64.toUInt64).toInt64) &&& (63 : Int64)).toInt32) - (((((q0.toUInt64 >>> (((6 : Int32) * (((4 : Int32) * p1) + (1 : Int32))) &&& 0x3f).toInt64.toUInt64).toInt64) &&& (63 : Int64)).toInt32) / (16 : Int32)) * (16 : Int32)) * (16 : Int32)))]) _
        refine XS.iadd X20.here hx rfl (hb hby d10_74) rfl ?_
        show oP p e below T20 (mkF m 75 #[oJ q0, oS, oI p1, oI p2, oI ((((q0.toUInt64 >>> (((6 : Int32) * ((4 : Int32) * p1)) &&& 0x3f).toInt64.toUInt64).toInt64) &&& (63 : Int64)).toInt32), oI ((((q0.toUInt64 >>> (((6 : Int32) * (((4 : Int32) * p1) + (1 : Int32))) &&& 0x3f).toInt64.toUInt64).toInt64) &&& (63 : Int64)).toInt32), oI ((((q0.toUInt64 >>> (((6 : Int32) * (((4 : Int32) * p1) + (2 : Int32))) &&& 0x3f).toInt64.toUInt64).toInt64) &&& (63 : Int64)).toInt32), oI ((((q0.toUInt64 >>> (((6 : Int32) * (((4 : Int32) * p1) + (3 : Int32))) &&& 0x3f).toInt64.toUInt64).toInt64) &&& (63 : Int64)).toInt32)] [(.int (((((((q0.toUInt64 >>> (((6 : Int32) * (((4 : Int32) * p1) + (1 : Int32))) &&& 0x3f).toInt64.toUInt64).toInt64) &&& (63 : Int64)).toInt32) - (((((q0.toUInt64 >>> (((6 : Int32) * (((4 : Int32) * p1) + (1 : Int32))) &&& 0x3f).toInt64.toUInt64).toInt64) &&& (63 : Int64)).toInt32) / (16 : Int32)) * (16 : Int32)) * (16 : Int32)) + (((((q0.toUInt64 >>> (((6 : Int32) * (((4 : Int32) * p1) + (2 : Int32))) &&& 0x3f).toInt64.toUInt64).toInt64) &&& (63 : Int64)).toInt32) / (4 : Int32))))]) _
        exact retI X20 hx Bd.returns (hb hby d10_75) hr
      · show (some (.int (((((((q0.toUInt64 >>> (((6 : Int32) * (((4 : Int32) * p1) + (1 : Int32))) &&& 0x3f).toInt64.toUInt64).toInt64) &&& (63 : Int64)).toInt32) - (((((q0.toUInt64 >>> (((6 : Int32) * (((4 : Int32) * p1) + (1 : Int32))) &&& 0x3f).toInt64.toUInt64).toInt64) &&& (63 : Int64)).toInt32) / (16 : Int32)) * (16 : Int32)) * (16 : Int32)) + (((((q0.toUInt64 >>> (((6 : Int32) * (((4 : Int32) * p1) + (2 : Int32))) &&& 0x3f).toInt64.toUInt64).toInt64) &&& (63 : Int64)).toInt32) / (4 : Int32)))) : Option Value) = some (.int (fn10 Z q0 p1 p2)) ∧ Fr n0 _ ∧ T20.heap = h0
        rw [h20q]
        refine ⟨?_, N20, rfl⟩
        unfold fn10
        rw [if_neg hc22, if_pos hc24]
    · obtain ⟨fs, hr, hrun, hended, hW, hsame⟩ := X20.leave (v := some (.int (((((((q0.toUInt64 >>> (((6 : Int32) * (((4 : Int32) * p1) + (2 : Int32))) &&& 0x3f).toInt64.toUInt64).toInt64) &&& (63 : Int64)).toInt32) - (((((q0.toUInt64 >>> (((6 : Int32) * (((4 : Int32) * p1) + (2 : Int32))) &&& 0x3f).toInt64.toUInt64).toInt64) &&& (63 : Int64)).toInt32) / (4 : Int32)) * (4 : Int32)) * (64 : Int32)) + ((((q0.toUInt64 >>> (((6 : Int32) * (((4 : Int32) * p1) + (3 : Int32))) &&& 0x3f).toInt64.toUInt64).toInt64) &&& (63 : Int64)).toInt32)))) (fun h => by rw [Bd.returns] at h; cases h)
      refine ⟨_, _, pre23 _ ?_, hrun, hended, _, _, rfl, ?_, ⟨_, rfl⟩, hW, hsame.mono (by decide) (by decide)⟩
      · show oP p e below T20 (mkF m 59 #[oJ q0, oS, oI p1, oI p2, oI ((((q0.toUInt64 >>> (((6 : Int32) * ((4 : Int32) * p1)) &&& 0x3f).toInt64.toUInt64).toInt64) &&& (63 : Int64)).toInt32), oI ((((q0.toUInt64 >>> (((6 : Int32) * (((4 : Int32) * p1) + (1 : Int32))) &&& 0x3f).toInt64.toUInt64).toInt64) &&& (63 : Int64)).toInt32), oI ((((q0.toUInt64 >>> (((6 : Int32) * (((4 : Int32) * p1) + (2 : Int32))) &&& 0x3f).toInt64.toUInt64).toInt64) &&& (63 : Int64)).toInt32), oI ((((q0.toUInt64 >>> (((6 : Int32) * (((4 : Int32) * p1) + (3 : Int32))) &&& 0x3f).toInt64.toUInt64).toInt64) &&& (63 : Int64)).toInt32)] [(.int 1), (.int p2)]) _
        refine XS.icmpYes X20.here hx rfl (pc0 := 59) (pc' := 76) rfl (hb hby d10_59) rfl (feq hc24).2 (by decide) (by decide) ?_
        show oP p e below T20 (mkF m 76 #[oJ q0, oS, oI p1, oI p2, oI ((((q0.toUInt64 >>> (((6 : Int32) * ((4 : Int32) * p1)) &&& 0x3f).toInt64.toUInt64).toInt64) &&& (63 : Int64)).toInt32), oI ((((q0.toUInt64 >>> (((6 : Int32) * (((4 : Int32) * p1) + (1 : Int32))) &&& 0x3f).toInt64.toUInt64).toInt64) &&& (63 : Int64)).toInt32), oI ((((q0.toUInt64 >>> (((6 : Int32) * (((4 : Int32) * p1) + (2 : Int32))) &&& 0x3f).toInt64.toUInt64).toInt64) &&& (63 : Int64)).toInt32), oI ((((q0.toUInt64 >>> (((6 : Int32) * (((4 : Int32) * p1) + (3 : Int32))) &&& 0x3f).toInt64.toUInt64).toInt64) &&& (63 : Int64)).toInt32)] []) _
        refine XS.iload X20.here hx rfl (hb hby d10_76) rfl ?_
        show oP p e below T20 (mkF m 78 #[oJ q0, oS, oI p1, oI p2, oI ((((q0.toUInt64 >>> (((6 : Int32) * ((4 : Int32) * p1)) &&& 0x3f).toInt64.toUInt64).toInt64) &&& (63 : Int64)).toInt32), oI ((((q0.toUInt64 >>> (((6 : Int32) * (((4 : Int32) * p1) + (1 : Int32))) &&& 0x3f).toInt64.toUInt64).toInt64) &&& (63 : Int64)).toInt32), oI ((((q0.toUInt64 >>> (((6 : Int32) * (((4 : Int32) * p1) + (2 : Int32))) &&& 0x3f).toInt64.toUInt64).toInt64) &&& (63 : Int64)).toInt32), oI ((((q0.toUInt64 >>> (((6 : Int32) * (((4 : Int32) * p1) + (3 : Int32))) &&& 0x3f).toInt64.toUInt64).toInt64) &&& (63 : Int64)).toInt32)] [(.int ((((q0.toUInt64 >>> (((6 : Int32) * (((4 : Int32) * p1) + (2 : Int32))) &&& 0x3f).toInt64.toUInt64).toInt64) &&& (63 : Int64)).toInt32))]) _
        refine XS.iconst X20.here hx rfl (hb hby d10_78) ?_
        refine XS.irem X20.here hx rfl (hb hby d10_79) rfl (by decide) ?_
        show oP p e below T20 (mkF m 80 #[oJ q0, oS, oI p1, oI p2, oI ((((q0.toUInt64 >>> (((6 : Int32) * ((4 : Int32) * p1)) &&& 0x3f).toInt64.toUInt64).toInt64) &&& (63 : Int64)).toInt32), oI ((((q0.toUInt64 >>> (((6 : Int32) * (((4 : Int32) * p1) + (1 : Int32))) &&& 0x3f).toInt64.toUInt64).toInt64) &&& (63 : Int64)).toInt32), oI ((((q0.toUInt64 >>> (((6 : Int32) * (((4 : Int32) * p1) + (2 : Int32))) &&& 0x3f).toInt64.toUInt64).toInt64) &&& (63 : Int64)).toInt32), oI ((((q0.toUInt64 >>> (((6 : Int32) * (((4 : Int32) * p1) + (3 : Int32))) &&& 0x3f).toInt64.toUInt64).toInt64) &&& (63 : Int64)).toInt32)] [(.int (((((q0.toUInt64 >>> (((6 : Int32) * (((4 : Int32) * p1) + (2 : Int32))) &&& 0x3f).toInt64.toUInt64).toInt64) &&& (63 : Int64)).toInt32) - (((((q0.toUInt64 >>> (((6 : Int32) * (((4 : Int32) * p1) + (2 : Int32))) &&& 0x3f).toInt64.toUInt64).toInt64) &&& (63 : Int64)).toInt32) / (4 : Int32)) * (4 : Int32)))]) _
        refine XS.bipush X20.here hx rfl (hb hby d10_80) ?_
        refine XS.imul X20.here hx rfl (hb hby d10_82) rfl ?_
        show oP p e below T20 (mkF m 83 #[oJ q0, oS, oI p1, oI p2, oI ((((q0.toUInt64 >>> (((6 : Int32) * ((4 : Int32) * p1)) &&& 0x3f).toInt64.toUInt64).toInt64) &&& (63 : Int64)).toInt32), oI ((((q0.toUInt64 >>> (((6 : Int32) * (((4 : Int32) * p1) + (1 : Int32))) &&& 0x3f).toInt64.toUInt64).toInt64) &&& (63 : Int64)).toInt32), oI ((((q0.toUInt64 >>> (((6 : Int32) * (((4 : Int32) * p1) + (2 : Int32))) &&& 0x3f).toInt64.toUInt64).toInt64) &&& (63 : Int64)).toInt32), oI ((((q0.toUInt64 >>> (((6 : Int32) * (((4 : Int32) * p1) + (3 : Int32))) &&& 0x3f).toInt64.toUInt64).toInt64) &&& (63 : Int64)).toInt32)] [(.int ((((((q0.toUInt64 >>> (((6 : Int32) * (((4 : Int32) * p1) + (2 : Int32))) &&& 0x3f).toInt64.toUInt64).toInt64) &&& (63 : Int64)).toInt32) - (((((q0.toUInt64 >>> (((6 : Int32) * (((4 : Int32) * p1) + (2 : Int32))) &&& 0x3f).toInt64.toUInt64).toInt64) &&& (63 : Int64)).toInt32) / (4 : Int32)) * (4 : Int32)) * (64 : Int32)))]) _
        refine XS.iload X20.here hx rfl (hb hby d10_83) rfl ?_
        show oP p e below T20 (mkF m 85 #[oJ q0, oS, oI p1, oI p2, oI ((((q0.toUInt64 >>> (((6 : Int32) * ((4 : Int32) * p1)) &&& 0x3f).toInt64.toUInt64).toInt64) &&& (63 : Int64)).toInt32), oI ((((q0.toUInt64 >>> (((6 : Int32) * (((4 : Int32) * p1) + (1 : Int32))) &&& 0x3f).toInt64.toUInt64).toInt64) &&& (63 : Int64)).toInt32), oI ((((q0.toUInt64 >>> (((6 : Int32) * (((4 : Int32) * p1) + (2 : Int32))) &&& 0x3f).toInt64.toUInt64).toInt64) &&& (63 : Int64)).toInt32), oI ((((q0.toUInt64 >>> (((6 : Int32) * (((4 : Int32) * p1) + (3 : Int32))) &&& 0x3f).toInt64.toUInt64).toInt64) &&& (63 : Int64)).toInt32)] [(.int ((((q0.toUInt64 >>> (((6 : Int32) * (((4 : Int32) * p1) + (3 : Int32))) &&& 0x3f).toInt64.toUInt64).toInt64) &&& (63 : Int64)).toInt32)), (.int ((((((q0.toUInt64 >>> (((6 : Int32) * (((4 : Int32) * p1) + (2 : Int32))) &&& 0x3f).toInt64.toUInt64).toInt64) &&& (63 : Int64)).toInt32) - (((((q0.toUInt64 >>> (((6 : Int32) * (((4 : Int32) * p1) + (2 : Int32))) &&& 0x3f).toInt64.toUInt64).toInt64) &&& (63 : Int64)).toInt32) / (4 : Int32)) * (4 : Int32)) * (64 : Int32)))]) _
        refine XS.iadd X20.here hx rfl (hb hby d10_85) rfl ?_
        show oP p e below T20 (mkF m 86 #[oJ q0, oS, oI p1, oI p2, oI ((((q0.toUInt64 >>> (((6 : Int32) * ((4 : Int32) * p1)) &&& 0x3f).toInt64.toUInt64).toInt64) &&& (63 : Int64)).toInt32), oI ((((q0.toUInt64 >>> (((6 : Int32) * (((4 : Int32) * p1) + (1 : Int32))) &&& 0x3f).toInt64.toUInt64).toInt64) &&& (63 : Int64)).toInt32), oI ((((q0.toUInt64 >>> (((6 : Int32) * (((4 : Int32) * p1) + (2 : Int32))) &&& 0x3f).toInt64.toUInt64).toInt64) &&& (63 : Int64)).toInt32), oI ((((q0.toUInt64 >>> (((6 : Int32) * (((4 : Int32) * p1) + (3 : Int32))) &&& 0x3f).toInt64.toUInt64).toInt64) &&& (63 : Int64)).toInt32)] [(.int (((((((q0.toUInt64 >>> (((6 : Int32) * (((4 : Int32) * p1) + (2 : Int32))) &&& 0x3f).toInt64.toUInt64).toInt64) &&& (63 : Int64)).toInt32) - (((((q0.toUInt64 >>> (((6 : Int32) * (((4 : Int32) * p1) + (2 : Int32))) &&& 0x3f).toInt64.toUInt64).toInt64) &&& (63 : Int64)).toInt32) / (4 : Int32)) * (4 : Int32)) * (64 : Int32)) + ((((q0.toUInt64 >>> (((6 : Int32) * (((4 : Int32) * p1) + (3 : Int32))) &&& 0x3f).toInt64.toUInt64).toInt64) &&& (63 : Int64)).toInt32)))]) _
        exact retI X20 hx Bd.returns (hb hby d10_86) hr
      · show (some (.int (((((((q0.toUInt64 >>> (((6 : Int32) * (((4 : Int32) * p1) + (2 : Int32))) &&& 0x3f).toInt64.toUInt64).toInt64) &&& (63 : Int64)).toInt32) - (((((q0.toUInt64 >>> (((6 : Int32) * (((4 : Int32) * p1) + (2 : Int32))) &&& 0x3f).toInt64.toUInt64).toInt64) &&& (63 : Int64)).toInt32) / (4 : Int32)) * (4 : Int32)) * (64 : Int32)) + ((((q0.toUInt64 >>> (((6 : Int32) * (((4 : Int32) * p1) + (3 : Int32))) &&& 0x3f).toInt64.toUInt64).toInt64) &&& (63 : Int64)).toInt32))) : Option Value) = some (.int (fn10 Z q0 p1 p2)) ∧ Fr n0 _ ∧ T20.heap = h0
        rw [h20q]
        refine ⟨?_, N20, rfl⟩
        unfold fn10
        rw [if_neg hc22, if_neg hc24]
theorem d9_0 : decode method_8_code 0 = .ok (.iload_n 0, 1) := by decide +kernel
theorem d9_1 : decode method_8_code 1 = .ok (.iconst 3, 1) := by decide +kernel
theorem d9_2 : decode method_8_code 2 = .ok (.iload_n 1, 1) := by decide +kernel
theorem d9_3 : decode method_8_code 3 = .ok (.imul, 1) := by decide +kernel
theorem d9_4 : decode method_8_code 4 = .ok (.if_icmp .ge 14, 3) := by decide +kernel
theorem d9_7 : decode method_8_code 7 = .ok (.lload_n 2, 1) := by decide +kernel
theorem d9_8 : decode method_8_code 8 = .ok (.iload_n 0, 1) := by decide +kernel
theorem d9_9 : decode method_8_code 9 = .ok (.iconst 3, 1) := by decide +kernel
theorem d9_10 : decode method_8_code 10 = .ok (.idiv, 1) := by decide +kernel
theorem d9_11 : decode method_8_code 11 = .ok (.iload_n 0, 1) := by decide +kernel
theorem d9_12 : decode method_8_code 12 = .ok (.iconst 3, 1) := by decide +kernel
theorem d9_13 : decode method_8_code 13 = .ok (.irem, 1) := by decide +kernel
theorem d9_14 : decode method_8_code 14 = .ok (.invokestatic 37, 3) := by decide +kernel
theorem pd_2 : parseMethodDescriptor "(JII)I" = some ⟨[.long, .int, .int], some .int⟩ := by decide +kernel
theorem d9_17 : decode method_8_code 17 = .ok (.ireturn, 1) := by decide +kernel
theorem d9_18 : decode method_8_code 18 = .ok (.lload 4, 2) := by decide +kernel
theorem d9_20 : decode method_8_code 20 = .ok (.iconst 0, 1) := by decide +kernel
theorem d9_21 : decode method_8_code 21 = .ok (.invokestatic 29, 3) := by decide +kernel
theorem d9_24 : decode method_8_code 24 = .ok (.istore 6, 2) := by decide +kernel
theorem d9_26 : decode method_8_code 26 = .ok (.lload 4, 2) := by decide +kernel
theorem d9_28 : decode method_8_code 28 = .ok (.iconst 1, 1) := by decide +kernel
theorem d9_29 : decode method_8_code 29 = .ok (.invokestatic 29, 3) := by decide +kernel
theorem d9_32 : decode method_8_code 32 = .ok (.istore 7, 2) := by decide +kernel
theorem d9_34 : decode method_8_code 34 = .ok (.lload 4, 2) := by decide +kernel
theorem d9_36 : decode method_8_code 36 = .ok (.iconst 2, 1) := by decide +kernel
theorem d9_37 : decode method_8_code 37 = .ok (.invokestatic 29, 3) := by decide +kernel
theorem d9_40 : decode method_8_code 40 = .ok (.istore 8, 2) := by decide +kernel
theorem d9_42 : decode method_8_code 42 = .ok (.iload_n 0, 1) := by decide +kernel
theorem d9_43 : decode method_8_code 43 = .ok (.iconst 3, 1) := by decide +kernel
theorem d9_44 : decode method_8_code 44 = .ok (.iload_n 1, 1) := by decide +kernel
theorem d9_45 : decode method_8_code 45 = .ok (.imul, 1) := by decide +kernel
theorem d9_46 : decode method_8_code 46 = .ok (.isub, 1) := by decide +kernel
theorem d9_47 : decode method_8_code 47 = .ok (.ifCond .ne 14, 3) := by decide +kernel
theorem d9_50 : decode method_8_code 50 = .ok (.iload 6, 2) := by decide +kernel
theorem d9_52 : decode method_8_code 52 = .ok (.iconst 4, 1) := by decide +kernel
theorem d9_53 : decode method_8_code 53 = .ok (.imul, 1) := by decide +kernel
theorem d9_54 : decode method_8_code 54 = .ok (.iload 7, 2) := by decide +kernel
theorem d9_56 : decode method_8_code 56 = .ok (.bipush 16, 2) := by decide +kernel
theorem d9_58 : decode method_8_code 58 = .ok (.idiv, 1) := by decide +kernel
theorem d9_59 : decode method_8_code 59 = .ok (.iadd, 1) := by decide +kernel
theorem d9_60 : decode method_8_code 60 = .ok (.ireturn, 1) := by decide +kernel
theorem d9_61 : decode method_8_code 61 = .ok (.iload 7, 2) := by decide +kernel
theorem d9_63 : decode method_8_code 63 = .ok (.bipush 16, 2) := by decide +kernel
theorem d9_65 : decode method_8_code 65 = .ok (.irem, 1) := by decide +kernel
theorem d9_66 : decode method_8_code 66 = .ok (.bipush 16, 2) := by decide +kernel
theorem d9_68 : decode method_8_code 68 = .ok (.imul, 1) := by decide +kernel
theorem d9_69 : decode method_8_code 69 = .ok (.iload 8, 2) := by decide +kernel
theorem d9_71 : decode method_8_code 71 = .ok (.iconst 4, 1) := by decide +kernel
theorem d9_72 : decode method_8_code 72 = .ok (.idiv, 1) := by decide +kernel
theorem d9_73 : decode method_8_code 73 = .ok (.iadd, 1) := by decide +kernel
theorem d9_74 : decode method_8_code 74 = .ok (.ireturn, 1) := by decide +kernel
def fn9 (Z : State) (p0 : Int32) (p1 : Int32) (q2 : Int64) (q3 : Int64) : Int32 :=
  if p0 < ((3 : Int32) * p1) then
    (fn10 Z q2 (p0 / (3 : Int32)) (p0 - (p0 / (3 : Int32)) * (3 : Int32)))
  else
    if (p0 - ((3 : Int32) * p1)) = (0 : Int32) then
      ((((((q3.toUInt64 >>> (((6 : Int32) * (0 : Int32)) &&& 0x3f).toInt64.toUInt64).toInt64) &&& (63 : Int64)).toInt32) * (4 : Int32)) + (((((q3.toUInt64 >>> (((6 : Int32) * (1 : Int32)) &&& 0x3f).toInt64.toUInt64).toInt64) &&& (63 : Int64)).toInt32) / (16 : Int32)))
    else
      (((((((q3.toUInt64 >>> (((6 : Int32) * (1 : Int32)) &&& 0x3f).toInt64.toUInt64).toInt64) &&& (63 : Int64)).toInt32) - (((((q3.toUInt64 >>> (((6 : Int32) * (1 : Int32)) &&& 0x3f).toInt64.toUInt64).toInt64) &&& (63 : Int64)).toInt32) / (16 : Int32)) * (16 : Int32)) * (16 : Int32)) + (((((q3.toUInt64 >>> (((6 : Int32) * (2 : Int32)) &&& 0x3f).toInt64.toUInt64).toInt64) &&& (63 : Int64)).toInt32) / (4 : Int32)))
theorem ef_9 (m : MethodId) (x0 : Int32) (x1 : Int32) (x2 : Int64) (x3 : Int64) : entryFrame m #[(.int x0), (.int x1), (.long x2), (.long x3)] 9 = mkF m 0 #[.val (.int x0), .val (.int x1), .val (.long x2), .second, .val (.long x3), .second, .unset, .unset, .unset] [] := by first | (simp [entryFrame, mkF, argsToLocals, Value.category]; done) | rfl
set_option maxRecDepth 65536 in
set_option maxHeartbeats 40000000 in
theorem rm9 (l : Launch) (Z : State) (a0 : Array Value) (hw : ∀ d ∈ tables_1, d.before a0 Z = true) (hS : St Z) (ws : List Jvm.Cond) (p0 : Int32) (p1 : Int32) (q2 : Int64) (q3 : Int64) (h0 : Heap) (n0 : Nat) (O0 : Old Z n0 h0) :
    MetFree l (⟨"com/example/meerkat/meerkat/Base64CodecDecodePinLaw", "expAt", "(IIJJ)I"⟩ : MethodName) (head1 (Jvm.Cond.code (⟨"com/example/meerkat/meerkat/Base64CodecDecodePinLaw", "expAt", "(IIJJ)I"⟩ : MethodName) method_8_code 9 (some .int) :: ws) ({ frames := 2, cells := 0, slots := 0, locals := 33 } : Room)) (fun a U => a = #[(.int p0), (.int p1), (.long q2), (.long q3)] ∧ Z.Warmed39 U.vm ∧ U.heap = h0) (fun _ _ _ _ _ => True) (fun _ U o U' => ∃ v L, o = .returned v ∧ own_Q (fun v hE L => v = some (.int (fn9 Z p0 p1 q2 q3)) ∧ Fr n0 L ∧ hE = h0) v U'.heap L ∧ FrameEnd U o U' L ({ frames := 2, cells := 0, slots := 0, locals := 33 } : Room).cells ({ frames := 2, cells := 0, slots := 0, locals := 33 } : Room).slots) := by
  refine MetFree.of_bodySF (plainFor_of_name pn_0) hisR ?_
  intro p e s m args below meth c s₁ Bd hml0 hP hK
  obtain ⟨rfl, hZ, hh⟩ := hP
  have hx := Bd.exec
  have hby := Bd.bytes
  have hml : c.maxLocals = 9 := hml0
  have hown : s.vm.findClass "com/example/meerkat/meerkat/Base64CodecDecodePinLaw" = some m.cls := findClass_of_methodNamed Bd.named
  have X0 : Stand p l e ({ frames := 2, cells := 0, slots := 0, locals := 33 } : Room) s m #[(.int p0), (.int p1), (.long q2), (.long q3)] below meth c s₁ [] 0 0 := Stand.of_body Bd
  have e0 : s₁.heap = h0 := by rw [← hh, Bd.state]; rfl
  have N0 := Fr.nil n0
  have pre0 : ∀ t, Steps p.tables e below (s₁.setTop (mkF m 0 #[oI p0, oI p1, oJ q2, oS, oJ q3, oS, oU, oU, oU] [])) t → Steps p.tables e below (s₁.setTop (entryFrame m #[(.int p0), (.int p1), (.long q2), (.long q3)] 9)) t := fun t k => castTop (ef_9 m p0 p1 q2 q3) k
  have pre25 : ∀ t, oP p e below s₁ (mkF m 4 #[oI p0, oI p1, oJ q2, oS, oJ q3, oS, oU, oU, oU] [(.int ((3 : Int32) * p1)), (.int p0)]) t → oP p e below s₁ (entryFrame m #[(.int p0), (.int p1), (.long q2), (.long q3)] 9) t := fun t k => pre0 t (by
    show oP p e below s₁ (mkF m 0 #[oI p0, oI p1, oJ q2, oS, oJ q3, oS, oU, oU, oU] []) _
    refine XS.iloadN X0.here hx rfl (hb hby d9_0) rfl ?_
    refine XS.iconst X0.here hx rfl (hb hby d9_1) ?_
    refine XS.iloadN X0.here hx rfl (hb hby d9_2) rfl ?_
    refine XS.imul X0.here hx rfl (hb hby d9_3) rfl ?_
    exact k)
  by_cases hc26 : p0 < ((3 : Int32) * p1)
  · obtain ⟨_, _, ⟨T27, L27, k27, n27⟩, -, X27, ⟨Lc27, hQ27, l27, y27, z27⟩, st27⟩ := Jvm.LawKit.callS X0 hx (y := (⟨"com/example/meerkat/meerkat/Base64CodecDecodePinLaw", "wholeByte", "(JII)I"⟩ : MethodName)) hown (mvT hZ (wi hw 34 rfl)) (mvT hZ (wi hw 35 rfl)) (mvT hZ (wi hw 3 rfl)) (mvT hZ (wi hw 36 rfl)) (by decide) (backOf (W := 0) (rm10 l Z a0 hw hS [] q2 (p0 / (3 : Int32)) (p0 - (p0 / (3 : Int32)) * (3 : Int32)) h0 n0 O0) hZ (wi hw 36 rfl) (wi hw 3 rfl) (by decide) (by decide)) (g := (mkF m 14 #[oI p0, oI p1, oJ q2, oS, oJ q3, oS, oU, oU, oU] [(.int (p0 - (p0 / (3 : Int32)) * (3 : Int32))), (.int (p0 / (3 : Int32))), (.long q2)])) rfl (by rw [hml]; rfl) (argsL := [(.long q2), (.int (p0 / (3 : Int32))), (.int (p0 - (p0 / (3 : Int32)) * (3 : Int32)))]) (rest := []) (lenOf pd_2 rfl) rfl (by show 2 * 0 + _ ≤ _; exact Nat.le_of_eq rfl) (hb hby d9_14) (fun _ _ => ⟨rfl, e0, (by decide : 0 + 0 ≤ _), (by decide : 0 + 0 ≤ _)⟩)
    dsimp only [Pt.U, Pt.locs, Pt.cells, Pt.slots] at X27 l27 y27 z27 st27 hQ27
    subst l27 y27 z27
    obtain ⟨v27, N27q, h27q⟩ := hQ27
    subst v27
    have N27 := Fr.app N0 N27q
    obtain ⟨fs, hr, hrun, hended, hW, hsame⟩ := X27.leave (v := some (.int (fn10 Z q2 (p0 / (3 : Int32)) (p0 - (p0 / (3 : Int32)) * (3 : Int32))))) (fun h => by rw [Bd.returns] at h; cases h)
    refine ⟨_, _, pre25 _ ?_, hrun, hended, _, _, rfl, ?_, ⟨_, rfl⟩, hW, hsame.mono (by decide) (by decide)⟩
    · show oP p e below s₁ (mkF m 4 #[oI p0, oI p1, oJ q2, oS, oJ q3, oS, oU, oU, oU] [(.int ((3 : Int32) * p1)), (.int p0)]) _
      refine XS.icmpNo X0.here hx rfl (hb hby d9_4) rfl (tlt hc26).2.1 ?_
      show oP p e below s₁ (mkF m 7 #[oI p0, oI p1, oJ q2, oS, oJ q3, oS, oU, oU, oU] []) _
      refine XS.lloadN X0.here hx rfl (hb hby d9_7) rfl ?_
      show oP p e below s₁ (mkF m 8 #[oI p0, oI p1, oJ q2, oS, oJ q3, oS, oU, oU, oU] [(.long q2)]) _
      refine XS.iloadN X0.here hx rfl (hb hby d9_8) rfl ?_
      refine XS.iconst X0.here hx rfl (hb hby d9_9) ?_
      refine XS.idiv X0.here hx rfl (hb hby d9_10) rfl (by decide) ?_
      show oP p e below s₁ (mkF m 11 #[oI p0, oI p1, oJ q2, oS, oJ q3, oS, oU, oU, oU] [(.int (p0 / (3 : Int32))), (.long q2)]) _
      refine XS.iloadN X0.here hx rfl (hb hby d9_11) rfl ?_
      refine XS.iconst X0.here hx rfl (hb hby d9_12) ?_
      refine XS.irem X0.here hx rfl (hb hby d9_13) rfl (by decide) ?_
      show oP p e below s₁ (mkF m 14 #[oI p0, oI p1, oJ q2, oS, oJ q3, oS, oU, oU, oU] [(.int (p0 - (p0 / (3 : Int32)) * (3 : Int32))), (.int (p0 / (3 : Int32))), (.long q2)]) _
      refine st27 _ ?_
      show oP p e below T27 (mkF m 17 #[oI p0, oI p1, oJ q2, oS, oJ q3, oS, oU, oU, oU] [(.int (fn10 Z q2 (p0 / (3 : Int32)) (p0 - (p0 / (3 : Int32)) * (3 : Int32))))]) _
      exact retI X27 hx Bd.returns (hb hby d9_17) hr
    · show (some (.int (fn10 Z q2 (p0 / (3 : Int32)) (p0 - (p0 / (3 : Int32)) * (3 : Int32)))) : Option Value) = some (.int (fn9 Z p0 p1 q2 q3)) ∧ Fr n0 _ ∧ T27.heap = h0
      rw [h27q]
      refine ⟨?_, N27, rfl⟩
      unfold fn9
      rw [if_pos hc26]
  · obtain ⟨_, _, ⟨T28, L28, k28, n28⟩, -, X28, ⟨Lc28, hQ28, l28, y28, z28⟩, st28⟩ := Jvm.LawKit.callS X0 hx (y := (⟨"com/example/meerkat/meerkat/Base64CodecDecodePinLaw", "dig", "(JI)I"⟩ : MethodName)) hown (mvT hZ (wi hw 19 rfl)) (mvT hZ (wi hw 20 rfl)) (mvT hZ (wi hw 3 rfl)) (mvT hZ (wi hw 21 rfl)) (by decide) (backOf (W := 0) (rm6 l Z a0 hw hS [] q3 (0 : Int32) h0 n0 O0) hZ (wi hw 21 rfl) (wi hw 3 rfl) (by decide) (by decide)) (g := (mkF m 21 #[oI p0, oI p1, oJ q2, oS, oJ q3, oS, oU, oU, oU] [(.int 0), (.long q3)])) rfl (by rw [hml]; rfl) (argsL := [(.long q3), (.int 0)]) (rest := []) (lenOf pd_0 rfl) rfl (by show 2 * 0 + _ ≤ _; exact Nat.le_of_eq rfl) (hb hby d9_21) (fun _ _ => ⟨rfl, e0, (by decide : 0 + 0 ≤ _), (by decide : 0 + 0 ≤ _)⟩)
    dsimp only [Pt.U, Pt.locs, Pt.cells, Pt.slots] at X28 l28 y28 z28 st28 hQ28
    subst l28 y28 z28
    obtain ⟨v28, N28q, h28q⟩ := hQ28
    have w28 : (fn6 Z q3 (0 : Int32)) = ((((q3.toUInt64 >>> (((6 : Int32) * (0 : Int32)) &&& 0x3f).toInt64.toUInt64).toInt64) &&& (63 : Int64)).toInt32) := rfl
    rw [w28] at v28
    subst v28
    have N28 := Fr.app N0 N28q
    obtain ⟨_, _, ⟨T29, L29, k29, n29⟩, -, X29, ⟨Lc29, hQ29, l29, y29, z29⟩, st29⟩ := Jvm.LawKit.callS X28 hx (y := (⟨"com/example/meerkat/meerkat/Base64CodecDecodePinLaw", "dig", "(JI)I"⟩ : MethodName)) hown (mvT hZ (wi hw 19 rfl)) (mvT hZ (wi hw 20 rfl)) (mvT hZ (wi hw 3 rfl)) (mvT hZ (wi hw 21 rfl)) (by decide) (backOf (W := 0) (rm6 l Z a0 hw hS [] q3 (1 : Int32) h0 n0 O0) hZ (wi hw 21 rfl) (wi hw 3 rfl) (by decide) (by decide)) (g := (mkF m 29 #[oI p0, oI p1, oJ q2, oS, oJ q3, oS, oI ((((q3.toUInt64 >>> (((6 : Int32) * (0 : Int32)) &&& 0x3f).toInt64.toUInt64).toInt64) &&& (63 : Int64)).toInt32), oU, oU] [(.int 1), (.long q3)])) rfl (by rw [hml]; rfl) (argsL := [(.long q3), (.int 1)]) (rest := []) (lenOf pd_0 rfl) rfl (by show 2 * 0 + _ ≤ _; exact Nat.le_of_eq rfl) (hb hby d9_29) (fun _ _ => ⟨rfl, h28q, (by decide : 0 + 0 ≤ _), (by decide : 0 + 0 ≤ _)⟩)
    dsimp only [Pt.U, Pt.locs, Pt.cells, Pt.slots] at X29 l29 y29 z29 st29 hQ29
    subst l29 y29 z29
    obtain ⟨v29, N29q, h29q⟩ := hQ29
    have w29 : (fn6 Z q3 (1 : Int32)) = ((((q3.toUInt64 >>> (((6 : Int32) * (1 : Int32)) &&& 0x3f).toInt64.toUInt64).toInt64) &&& (63 : Int64)).toInt32) := rfl
    rw [w29] at v29
    subst v29
    have N29 := Fr.app N28 N29q
    obtain ⟨_, _, ⟨T30, L30, k30, n30⟩, -, X30, ⟨Lc30, hQ30, l30, y30, z30⟩, st30⟩ := Jvm.LawKit.callS X29 hx (y := (⟨"com/example/meerkat/meerkat/Base64CodecDecodePinLaw", "dig", "(JI)I"⟩ : MethodName)) hown (mvT hZ (wi hw 19 rfl)) (mvT hZ (wi hw 20 rfl)) (mvT hZ (wi hw 3 rfl)) (mvT hZ (wi hw 21 rfl)) (by decide) (backOf (W := 0) (rm6 l Z a0 hw hS [] q3 (2 : Int32) h0 n0 O0) hZ (wi hw 21 rfl) (wi hw 3 rfl) (by decide) (by decide)) (g := (mkF m 37 #[oI p0, oI p1, oJ q2, oS, oJ q3, oS, oI ((((q3.toUInt64 >>> (((6 : Int32) * (0 : Int32)) &&& 0x3f).toInt64.toUInt64).toInt64) &&& (63 : Int64)).toInt32), oI ((((q3.toUInt64 >>> (((6 : Int32) * (1 : Int32)) &&& 0x3f).toInt64.toUInt64).toInt64) &&& (63 : Int64)).toInt32), oU] [(.int 2), (.long q3)])) rfl (by rw [hml]; rfl) (argsL := [(.long q3), (.int 2)]) (rest := []) (lenOf pd_0 rfl) rfl (by show 2 * 0 + _ ≤ _; exact Nat.le_of_eq rfl) (hb hby d9_37) (fun _ _ => ⟨rfl, h29q, (by decide : 0 + 0 ≤ _), (by decide : 0 + 0 ≤ _)⟩)
    dsimp only [Pt.U, Pt.locs, Pt.cells, Pt.slots] at X30 l30 y30 z30 st30 hQ30
    subst l30 y30 z30
    obtain ⟨v30, N30q, h30q⟩ := hQ30
    have w30 : (fn6 Z q3 (2 : Int32)) = ((((q3.toUInt64 >>> (((6 : Int32) * (2 : Int32)) &&& 0x3f).toInt64.toUInt64).toInt64) &&& (63 : Int64)).toInt32) := rfl
    rw [w30] at v30
    subst v30
    have N30 := Fr.app N29 N30q
    have pre31 : ∀ t, oP p e below T30 (mkF m 47 #[oI p0, oI p1, oJ q2, oS, oJ q3, oS, oI ((((q3.toUInt64 >>> (((6 : Int32) * (0 : Int32)) &&& 0x3f).toInt64.toUInt64).toInt64) &&& (63 : Int64)).toInt32), oI ((((q3.toUInt64 >>> (((6 : Int32) * (1 : Int32)) &&& 0x3f).toInt64.toUInt64).toInt64) &&& (63 : Int64)).toInt32), oI ((((q3.toUInt64 >>> (((6 : Int32) * (2 : Int32)) &&& 0x3f).toInt64.toUInt64).toInt64) &&& (63 : Int64)).toInt32)] [(.int (p0 - ((3 : Int32) * p1)))]) t → oP p e below s₁ (entryFrame m #[(.int p0), (.int p1), (.long q2), (.long q3)] 9) t := fun t k => pre25 t (by
      show oP p e below s₁ (mkF m 4 #[oI p0, oI p1, oJ q2, oS, oJ q3, oS, oU, oU, oU] [(.int ((3 : Int32) * p1)), (.int p0)]) _
      refine XS.icmpYes X0.here hx rfl (pc0 := 4) (pc' := 18) rfl (hb hby d9_4) rfl (flt hc26).2.1 (by decide) (by decide) ?_
      show oP p e below s₁ (mkF m 18 #[oI p0, oI p1, oJ q2, oS, oJ q3, oS, oU, oU, oU] []) _
      refine XS.lload X0.here hx rfl (hb hby d9_18) rfl ?_
      show oP p e below s₁ (mkF m 20 #[oI p0, oI p1, oJ q2, oS, oJ q3, oS, oU, oU, oU] [(.long q3)]) _
      refine XS.iconst X0.here hx rfl (hb hby d9_20) ?_
      show oP p e below s₁ (mkF m 21 #[oI p0, oI p1, oJ q2, oS, oJ q3, oS, oU, oU, oU] [(.int 0), (.long q3)]) _
      refine st28 _ ?_
      show oP p e below T28 (mkF m 24 #[oI p0, oI p1, oJ q2, oS, oJ q3, oS, oU, oU, oU] [(.int ((((q3.toUInt64 >>> (((6 : Int32) * (0 : Int32)) &&& 0x3f).toInt64.toUInt64).toInt64) &&& (63 : Int64)).toInt32))]) _
      refine XS.istore X28.here hx rfl (hb hby d9_24) rfl (l' := #[oI p0, oI p1, oJ q2, oS, oJ q3, oS, oI ((((q3.toUInt64 >>> (((6 : Int32) * (0 : Int32)) &&& 0x3f).toInt64.toUInt64).toInt64) &&& (63 : Int64)).toInt32), oU, oU]) rfl ?_
      show oP p e below T28 (mkF m 26 #[oI p0, oI p1, oJ q2, oS, oJ q3, oS, oI ((((q3.toUInt64 >>> (((6 : Int32) * (0 : Int32)) &&& 0x3f).toInt64.toUInt64).toInt64) &&& (63 : Int64)).toInt32), oU, oU] []) _
      refine XS.lload X28.here hx rfl (hb hby d9_26) rfl ?_
      show oP p e below T28 (mkF m 28 #[oI p0, oI p1, oJ q2, oS, oJ q3, oS, oI ((((q3.toUInt64 >>> (((6 : Int32) * (0 : Int32)) &&& 0x3f).toInt64.toUInt64).toInt64) &&& (63 : Int64)).toInt32), oU, oU] [(.long q3)]) _
      refine XS.iconst X28.here hx rfl (hb hby d9_28) ?_
      show oP p e below T28 (mkF m 29 #[oI p0, oI p1, oJ q2, oS, oJ q3, oS, oI ((((q3.toUInt64 >>> (((6 : Int32) * (0 : Int32)) &&& 0x3f).toInt64.toUInt64).toInt64) &&& (63 : Int64)).toInt32), oU, oU] [(.int 1), (.long q3)]) _
      refine st29 _ ?_
      show oP p e below T29 (mkF m 32 #[oI p0, oI p1, oJ q2, oS, oJ q3, oS, oI ((((q3.toUInt64 >>> (((6 : Int32) * (0 : Int32)) &&& 0x3f).toInt64.toUInt64).toInt64) &&& (63 : Int64)).toInt32), oU, oU] [(.int ((((q3.toUInt64 >>> (((6 : Int32) * (1 : Int32)) &&& 0x3f).toInt64.toUInt64).toInt64) &&& (63 : Int64)).toInt32))]) _
      refine XS.istore X29.here hx rfl (hb hby d9_32) rfl (l' := #[oI p0, oI p1, oJ q2, oS, oJ q3, oS, oI ((((q3.toUInt64 >>> (((6 : Int32) * (0 : Int32)) &&& 0x3f).toInt64.toUInt64).toInt64) &&& (63 : Int64)).toInt32), oI ((((q3.toUInt64 >>> (((6 : Int32) * (1 : Int32)) &&& 0x3f).toInt64.toUInt64).toInt64) &&& (63 : Int64)).toInt32), oU]) rfl ?_
      show oP p e below T29 (mkF m 34 #[oI p0, oI p1, oJ q2, oS, oJ q3, oS, oI ((((q3.toUInt64 >>> (((6 : Int32) * (0 : Int32)) &&& 0x3f).toInt64.toUInt64).toInt64) &&& (63 : Int64)).toInt32), oI ((((q3.toUInt64 >>> (((6 : Int32) * (1 : Int32)) &&& 0x3f).toInt64.toUInt64).toInt64) &&& (63 : Int64)).toInt32), oU] []) _
      refine XS.lload X29.here hx rfl (hb hby d9_34) rfl ?_
      show oP p e below T29 (mkF m 36 #[oI p0, oI p1, oJ q2, oS, oJ q3, oS, oI ((((q3.toUInt64 >>> (((6 : Int32) * (0 : Int32)) &&& 0x3f).toInt64.toUInt64).toInt64) &&& (63 : Int64)).toInt32), oI ((((q3.toUInt64 >>> (((6 : Int32) * (1 : Int32)) &&& 0x3f).toInt64.toUInt64).toInt64) &&& (63 : Int64)).toInt32), oU] [(.long q3)]) _
      refine XS.iconst X29.here hx rfl (hb hby d9_36) ?_
      show oP p e below T29 (mkF m 37 #[oI p0, oI p1, oJ q2, oS, oJ q3, oS, oI ((((q3.toUInt64 >>> (((6 : Int32) * (0 : Int32)) &&& 0x3f).toInt64.toUInt64).toInt64) &&& (63 : Int64)).toInt32), oI ((((q3.toUInt64 >>> (((6 : Int32) * (1 : Int32)) &&& 0x3f).toInt64.toUInt64).toInt64) &&& (63 : Int64)).toInt32), oU] [(.int 2), (.long q3)]) _
      refine st30 _ ?_
      show oP p e below T30 (mkF m 40 #[oI p0, oI p1, oJ q2, oS, oJ q3, oS, oI ((((q3.toUInt64 >>> (((6 : Int32) * (0 : Int32)) &&& 0x3f).toInt64.toUInt64).toInt64) &&& (63 : Int64)).toInt32), oI ((((q3.toUInt64 >>> (((6 : Int32) * (1 : Int32)) &&& 0x3f).toInt64.toUInt64).toInt64) &&& (63 : Int64)).toInt32), oU] [(.int ((((q3.toUInt64 >>> (((6 : Int32) * (2 : Int32)) &&& 0x3f).toInt64.toUInt64).toInt64) &&& (63 : Int64)).toInt32))]) _
      refine XS.istore X30.here hx rfl (hb hby d9_40) rfl (l' := #[oI p0, oI p1, oJ q2, oS, oJ q3, oS, oI ((((q3.toUInt64 >>> (((6 : Int32) * (0 : Int32)) &&& 0x3f).toInt64.toUInt64).toInt64) &&& (63 : Int64)).toInt32), oI ((((q3.toUInt64 >>> (((6 : Int32) * (1 : Int32)) &&& 0x3f).toInt64.toUInt64).toInt64) &&& (63 : Int64)).toInt32), oI ((((q3.toUInt64 >>> (((6 : Int32) * (2 : Int32)) &&& 0x3f).toInt64.toUInt64).toInt64) &&& (63 : Int64)).toInt32)]) rfl ?_
      show oP p e below T30 (mkF m 42 #[oI p0, oI p1, oJ q2, oS, oJ q3, oS, oI ((((q3.toUInt64 >>> (((6 : Int32) * (0 : Int32)) &&& 0x3f).toInt64.toUInt64).toInt64) &&& (63 : Int64)).toInt32), oI ((((q3.toUInt64 >>> (((6 : Int32) * (1 : Int32)) &&& 0x3f).toInt64.toUInt64).toInt64) &&& (63 : Int64)).toInt32), oI ((((q3.toUInt64 >>> (((6 : Int32) * (2 : Int32)) &&& 0x3f).toInt64.toUInt64).toInt64) &&& (63 : Int64)).toInt32)] []) _
      refine XS.iloadN X30.here hx rfl (hb hby d9_42) rfl ?_
      refine XS.iconst X30.here hx rfl (hb hby d9_43) ?_
      refine XS.iloadN X30.here hx rfl (hb hby d9_44) rfl ?_
      refine XS.imul X30.here hx rfl (hb hby d9_45) rfl ?_
      show oP p e below T30 (mkF m 46 #[oI p0, oI p1, oJ q2, oS, oJ q3, oS, oI ((((q3.toUInt64 >>> (((6 : Int32) * (0 : Int32)) &&& 0x3f).toInt64.toUInt64).toInt64) &&& (63 : Int64)).toInt32), oI ((((q3.toUInt64 >>> (((6 : Int32) * (1 : Int32)) &&& 0x3f).toInt64.toUInt64).toInt64) &&& (63 : Int64)).toInt32), oI ((((q3.toUInt64 >>> (((6 : Int32) * (2 : Int32)) &&& 0x3f).toInt64.toUInt64).toInt64) &&& (63 : Int64)).toInt32)] [(.int ((3 : Int32) * p1)), (.int p0)]) _
      refine XS.isub X30.here hx rfl (hb hby d9_46) rfl ?_
      exact k)
    by_cases hc32 : (p0 - ((3 : Int32) * p1)) = (0 : Int32)
    · obtain ⟨fs, hr, hrun, hended, hW, hsame⟩ := X30.leave (v := some (.int ((((((q3.toUInt64 >>> (((6 : Int32) * (0 : Int32)) &&& 0x3f).toInt64.toUInt64).toInt64) &&& (63 : Int64)).toInt32) * (4 : Int32)) + (((((q3.toUInt64 >>> (((6 : Int32) * (1 : Int32)) &&& 0x3f).toInt64.toUInt64).toInt64) &&& (63 : Int64)).toInt32) / (16 : Int32))))) (fun h => by rw [Bd.returns] at h; cases h)
      refine ⟨_, _, pre31 _ ?_, hrun, hended, _, _, rfl, ?_, ⟨_, rfl⟩, hW, hsame.mono (by decide) (by decide)⟩
      · show oP p e below T30 (mkF m 47 #[oI p0, oI p1, oJ q2, oS, oJ q3, oS, oI ((((q3.toUInt64 >>> (((6 : Int32) * (0 : Int32)) &&& 0x3f).toInt64.toUInt64).toInt64) &&& (63 : Int64)).toInt32), oI ((((q3.toUInt64 >>> (((6 : Int32) * (1 : Int32)) &&& 0x3f).toInt64.toUInt64).toInt64) &&& (63 : Int64)).toInt32), oI ((((q3.toUInt64 >>> (((6 : Int32) * (2 : Int32)) &&& 0x3f).toInt64.toUInt64).toInt64) &&& (63 : Int64)).toInt32)] [(.int (p0 - ((3 : Int32) * p1)))]) _
        refine XS.ifNo X30.here hx rfl (hb hby d9_47) rfl ((if0 _ _).trans (teq hc32).2) ?_
        show oP p e below T30 (mkF m 50 #[oI p0, oI p1, oJ q2, oS, oJ q3, oS, oI ((((q3.toUInt64 >>> (((6 : Int32) * (0 : Int32)) &&& 0x3f).toInt64.toUInt64).toInt64) &&& (63 : Int64)).toInt32), oI ((((q3.toUInt64 >>> (((6 : Int32) * (1 : Int32)) &&& 0x3f).toInt64.toUInt64).toInt64) &&& (63 : Int64)).toInt32), oI ((((q3.toUInt64 >>> (((6 : Int32) * (2 : Int32)) &&& 0x3f).toInt64.toUInt64).toInt64) &&& (63 : Int64)).toInt32)] []) _
        refine XS.iload X30.here hx rfl (hb hby d9_50) rfl ?_
        show oP p e below T30 (mkF m 52 #[oI p0, oI p1, oJ q2, oS, oJ q3, oS, oI ((((q3.toUInt64 >>> (((6 : Int32) * (0 : Int32)) &&& 0x3f).toInt64.toUInt64).toInt64) &&& (63 : Int64)).toInt32), oI ((((q3.toUInt64 >>> (((6 : Int32) * (1 : Int32)) &&& 0x3f).toInt64.toUInt64).toInt64) &&& (63 : Int64)).toInt32), oI ((((q3.toUInt64 >>> (((6 : Int32) * (2 : Int32)) &&& 0x3f).toInt64.toUInt64).toInt64) &&& (63 : Int64)).toInt32)] [(.int ((((q3.toUInt64 >>> (((6 : Int32) * (0 : Int32)) &&& 0x3f).toInt64.toUInt64).toInt64) &&& (63 : Int64)).toInt32))]) _
        refine XS.iconst X30.here hx rfl (hb hby d9_52) ?_
        refine XS.imul X30.here hx rfl (hb hby d9_53) rfl ?_
        show oP p e below T30 (mkF m 54 #[oI p0, oI p1, oJ q2, oS, oJ q3, oS, oI ((((q3.toUInt64 >>> (((6 : Int32) * (0 : Int32)) &&& 0x3f).toInt64.toUInt64).toInt64) &&& (63 : Int64)).toInt32), oI ((((q3.toUInt64 >>> (((6 : Int32) * (1 : Int32)) &&& 0x3f).toInt64.toUInt64).toInt64) &&& (63 : Int64)).toInt32), oI ((((q3.toUInt64 >>> (((6 : Int32) * (2 : Int32)) &&& 0x3f).toInt64.toUInt64).toInt64) &&& (63 : Int64)).toInt32)] [(.int (((((q3.toUInt64 >>> (((6 : Int32) * (0 : Int32)) &&& 0x3f).toInt64.toUInt64).toInt64) &&& (63 : Int64)).toInt32) * (4 : Int32)))]) _
        refine XS.iload X30.here hx rfl (hb hby d9_54) rfl ?_
        show oP p e below T30 (mkF m 56 #[oI p0, oI p1, oJ q2, oS, oJ q3, oS, oI ((((q3.toUInt64 >>> (((6 : Int32) * (0 : Int32)) &&& 0x3f).toInt64.toUInt64).toInt64) &&& (63 : Int64)).toInt32), oI ((((q3.toUInt64 >>> (((6 : Int32) * (1 : Int32)) &&& 0x3f).toInt64.toUInt64).toInt64) &&& (63 : Int64)).toInt32), oI ((((q3.toUInt64 >>> (((6 : Int32) * (2 : Int32)) &&& 0x3f).toInt64.toUInt64).toInt64) &&& (63 : Int64)).toInt32)] [(.int ((((q3.toUInt64 >>> (((6 : Int32) * (1 : Int32)) &&& 0x3f).toInt64.toUInt64).toInt64) &&& (63 : Int64)).toInt32)), (.int (((((q3.toUInt64 >>> (((6 : Int32) * (0 : Int32)) &&& 0x3f).toInt64.toUInt64).toInt64) &&& (63 : Int64)).toInt32) * (4 : Int32)))]) _
        refine XS.bipush X30.here hx rfl (hb hby d9_56) ?_
        refine XS.idiv X30.here hx rfl (hb hby d9_58) rfl (by decide) ?_
        show oP p e below T30 (mkF m 59 #[oI p0, oI p1, oJ q2, oS, oJ q3, oS, oI ((((q3.toUInt64 >>> (((6 : Int32) * (0 : Int32)) &&& 0x3f).toInt64.toUInt64).toInt64) &&& (63 : Int64)).toInt32), oI ((((q3.toUInt64 >>> (((6 : Int32) * (1 : Int32)) &&& 0x3f).toInt64.toUInt64).toInt64) &&& (63 : Int64)).toInt32), oI ((((q3.toUInt64 >>> (((6 : Int32) * (2 : Int32)) &&& 0x3f).toInt64.toUInt64).toInt64) &&& (63 : Int64)).toInt32)] [(.int (((((q3.toUInt64 >>> (((6 : Int32) * (1 : Int32)) &&& 0x3f).toInt64.toUInt64).toInt64) &&& (63 : Int64)).toInt32) / (16 : Int32))), (.int (((((q3.toUInt64 >>> (((6 : Int32) * (0 : Int32)) &&& 0x3f).toInt64.toUInt64).toInt64) &&& (63 : Int64)).toInt32) * (4 : Int32)))]) _
        refine XS.iadd X30.here hx rfl (hb hby d9_59) rfl ?_
        show oP p e below T30 (mkF m 60 #[oI p0, oI p1, oJ q2, oS, oJ q3, oS, oI ((((q3.toUInt64 >>> (((6 : Int32) * (0 : Int32)) &&& 0x3f).toInt64.toUInt64).toInt64) &&& (63 : Int64)).toInt32), oI ((((q3.toUInt64 >>> (((6 : Int32) * (1 : Int32)) &&& 0x3f).toInt64.toUInt64).toInt64) &&& (63 : Int64)).toInt32), oI ((((q3.toUInt64 >>> (((6 : Int32) * (2 : Int32)) &&& 0x3f).toInt64.toUInt64).toInt64) &&& (63 : Int64)).toInt32)] [(.int ((((((q3.toUInt64 >>> (((6 : Int32) * (0 : Int32)) &&& 0x3f).toInt64.toUInt64).toInt64) &&& (63 : Int64)).toInt32) * (4 : Int32)) + (((((q3.toUInt64 >>> (((6 : Int32) * (1 : Int32)) &&& 0x3f).toInt64.toUInt64).toInt64) &&& (63 : Int64)).toInt32) / (16 : Int32))))]) _
        exact retI X30 hx Bd.returns (hb hby d9_60) hr
      · show (some (.int ((((((q3.toUInt64 >>> (((6 : Int32) * (0 : Int32)) &&& 0x3f).toInt64.toUInt64).toInt64) &&& (63 : Int64)).toInt32) * (4 : Int32)) + (((((q3.toUInt64 >>> (((6 : Int32) * (1 : Int32)) &&& 0x3f).toInt64.toUInt64).toInt64) &&& (63 : Int64)).toInt32) / (16 : Int32)))) : Option Value) = some (.int (fn9 Z p0 p1 q2 q3)) ∧ Fr n0 _ ∧ T30.heap = h0
        rw [h30q]
        refine ⟨?_, N30, rfl⟩
        unfold fn9
        rw [if_neg hc26, if_pos hc32]
    · obtain ⟨fs, hr, hrun, hended, hW, hsame⟩ := X30.leave (v := some (.int (((((((q3.toUInt64 >>> (((6 : Int32) * (1 : Int32)) &&& 0x3f).toInt64.toUInt64).toInt64) &&& (63 : Int64)).toInt32) - (((((q3.toUInt64 >>> (((6 : Int32) * (1 : Int32)) &&& 0x3f).toInt64.toUInt64).toInt64) &&& (63 : Int64)).toInt32) / (16 : Int32)) * (16 : Int32)) * (16 : Int32)) + (((((q3.toUInt64 >>> (((6 : Int32) * (2 : Int32)) &&& 0x3f).toInt64.toUInt64).toInt64) &&& (63 : Int64)).toInt32) / (4 : Int32))))) (fun h => by rw [Bd.returns] at h; cases h)
      refine ⟨_, _, pre31 _ ?_, hrun, hended, _, _, rfl, ?_, ⟨_, rfl⟩, hW, hsame.mono (by decide) (by decide)⟩
      · show oP p e below T30 (mkF m 47 #[oI p0, oI p1, oJ q2, oS, oJ q3, oS, oI ((((q3.toUInt64 >>> (((6 : Int32) * (0 : Int32)) &&& 0x3f).toInt64.toUInt64).toInt64) &&& (63 : Int64)).toInt32), oI ((((q3.toUInt64 >>> (((6 : Int32) * (1 : Int32)) &&& 0x3f).toInt64.toUInt64).toInt64) &&& (63 : Int64)).toInt32), oI ((((q3.toUInt64 >>> (((6 : Int32) * (2 : Int32)) &&& 0x3f).toInt64.toUInt64).toInt64) &&& (63 : Int64)).toInt32)] [(.int (p0 - ((3 : Int32) * p1)))]) _
        refine XS.ifYes X30.here hx rfl (pc0 := 47) (pc' := 61) rfl (hb hby d9_47) rfl ((if0 _ _).trans (feq hc32).2) (by decide) (by decide) ?_
        show oP p e below T30 (mkF m 61 #[oI p0, oI p1, oJ q2, oS, oJ q3, oS, oI ((((q3.toUInt64 >>> (((6 : Int32) * (0 : Int32)) &&& 0x3f).toInt64.toUInt64).toInt64) &&& (63 : Int64)).toInt32), oI ((((q3.toUInt64 >>> (((6 : Int32) * (1 : Int32)) &&& 0x3f).toInt64.toUInt64).toInt64) &&& (63 : Int64)).toInt32), oI ((((q3.toUInt64 >>> (((6 : Int32) * (2 : Int32)) &&& 0x3f).toInt64.toUInt64).toInt64) &&& (63 : Int64)).toInt32)] []) _
        refine XS.iload X30.here hx rfl (hb hby d9_61) rfl ?_
        show oP p e below T30 (mkF m 63 #[oI p0, oI p1, oJ q2, oS, oJ q3, oS, oI ((((q3.toUInt64 >>> (((6 : Int32) * (0 : Int32)) &&& 0x3f).toInt64.toUInt64).toInt64) &&& (63 : Int64)).toInt32), oI ((((q3.toUInt64 >>> (((6 : Int32) * (1 : Int32)) &&& 0x3f).toInt64.toUInt64).toInt64) &&& (63 : Int64)).toInt32), oI ((((q3.toUInt64 >>> (((6 : Int32) * (2 : Int32)) &&& 0x3f).toInt64.toUInt64).toInt64) &&& (63 : Int64)).toInt32)] [(.int ((((q3.toUInt64 >>> (((6 : Int32) * (1 : Int32)) &&& 0x3f).toInt64.toUInt64).toInt64) &&& (63 : Int64)).toInt32))]) _
        refine XS.bipush X30.here hx rfl (hb hby d9_63) ?_
        refine XS.irem X30.here hx rfl (hb hby d9_65) rfl (by decide) ?_
        show oP p e below T30 (mkF m 66 #[oI p0, oI p1, oJ q2, oS, oJ q3, oS, oI ((((q3.toUInt64 >>> (((6 : Int32) * (0 : Int32)) &&& 0x3f).toInt64.toUInt64).toInt64) &&& (63 : Int64)).toInt32), oI ((((q3.toUInt64 >>> (((6 : Int32) * (1 : Int32)) &&& 0x3f).toInt64.toUInt64).toInt64) &&& (63 : Int64)).toInt32), oI ((((q3.toUInt64 >>> (((6 : Int32) * (2 : Int32)) &&& 0x3f).toInt64.toUInt64).toInt64) &&& (63 : Int64)).toInt32)] [(.int (((((q3.toUInt64 >>> (((6 : Int32) * (1 : Int32)) &&& 0x3f).toInt64.toUInt64).toInt64) &&& (63 : Int64)).toInt32) - (((((q3.toUInt64 >>> (((6 : Int32) * (1 : Int32)) &&& 0x3f).toInt64.toUInt64).toInt64) &&& (63 : Int64)).toInt32) / (16 : Int32)) * (16 : Int32)))]) _
        refine XS.bipush X30.here hx rfl (hb hby d9_66) ?_
        refine XS.imul X30.here hx rfl (hb hby d9_68) rfl ?_
        show oP p e below T30 (mkF m 69 #[oI p0, oI p1, oJ q2, oS, oJ q3, oS, oI ((((q3.toUInt64 >>> (((6 : Int32) * (0 : Int32)) &&& 0x3f).toInt64.toUInt64).toInt64) &&& (63 : Int64)).toInt32), oI ((((q3.toUInt64 >>> (((6 : Int32) * (1 : Int32)) &&& 0x3f).toInt64.toUInt64).toInt64) &&& (63 : Int64)).toInt32), oI ((((q3.toUInt64 >>> (((6 : Int32) * (2 : Int32)) &&& 0x3f).toInt64.toUInt64).toInt64) &&& (63 : Int64)).toInt32)] [(.int ((((((q3.toUInt64 >>> (((6 : Int32) * (1 : Int32)) &&& 0x3f).toInt64.toUInt64).toInt64) &&& (63 : Int64)).toInt32) - (((((q3.toUInt64 >>> (((6 : Int32) * (1 : Int32)) &&& 0x3f).toInt64.toUInt64).toInt64) &&& (63 : Int64)).toInt32) / (16 : Int32)) * (16 : Int32)) * (16 : Int32)))]) _
        refine XS.iload X30.here hx rfl (hb hby d9_69) rfl ?_
        show oP p e below T30 (mkF m 71 #[oI p0, oI p1, oJ q2, oS, oJ q3, oS, oI ((((q3.toUInt64 >>> (((6 : Int32) * (0 : Int32)) &&& 0x3f).toInt64.toUInt64).toInt64) &&& (63 : Int64)).toInt32), oI ((((q3.toUInt64 >>> (((6 : Int32) * (1 : Int32)) &&& 0x3f).toInt64.toUInt64).toInt64) &&& (63 : Int64)).toInt32), oI ((((q3.toUInt64 >>> (((6 : Int32) * (2 : Int32)) &&& 0x3f).toInt64.toUInt64).toInt64) &&& (63 : Int64)).toInt32)] [(.int ((((q3.toUInt64 >>> (((6 : Int32) * (2 : Int32)) &&& 0x3f).toInt64.toUInt64).toInt64) &&& (63 : Int64)).toInt32)), (.int ((((((q3.toUInt64 >>> (((6 : Int32) * (1 : Int32)) &&& 0x3f).toInt64.toUInt64).toInt64) &&& (63 : Int64)).toInt32) - (((((q3.toUInt64 >>> (((6 : Int32) * (1 : Int32)) &&& 0x3f).toInt64.toUInt64).toInt64) &&& (63 : Int64)).toInt32) / (16 : Int32)) * (16 : Int32)) * (16 : Int32)))]) _
        refine XS.iconst X30.here hx rfl (hb hby d9_71) ?_
        refine XS.idiv X30.here hx rfl (hb hby d9_72) rfl (by decide) ?_
        show oP p e below T30 (mkF m 73 #[oI p0, oI p1, oJ q2, oS, oJ q3, oS, oI ((((q3.toUInt64 >>> (((6 : Int32) * (0 : Int32)) &&& 0x3f).toInt64.toUInt64).toInt64) &&& (63 : Int64)).toInt32), oI ((((q3.toUInt64 >>> (((6 : Int32) * (1 : Int32)) &&& 0x3f).toInt64.toUInt64).toInt64) &&& (63 : Int64)).toInt32), oI ((((q3.toUInt64 >>> (((6 : Int32) * (2 : Int32)) &&& 0x3f).toInt64.toUInt64).toInt64) &&& (63 : Int64)).toInt32)] [(.int (((((q3.toUInt64 >>> (((6 : Int32) * (2 : Int32)) &&& 0x3f).toInt64.toUInt64).toInt64) &&& (63 : Int64)).toInt32) / (4 : Int32))), (.int ((((((q3.toUInt64 >>> (((6 : Int32) * (1 : Int32)) &&& 0x3f).toInt64.toUInt64).toInt64) &&& (63 : Int64)).toInt32) - (((((q3.toUInt64 >>> (((6 : Int32) * (1 : Int32)) &&& 0x3f).toInt64.toUInt64).toInt64) &&& (63 : Int64)).toInt32) / (16 : Int32)) * (16 : Int32)) * (16 : Int32)))]) _
        refine XS.iadd X30.here hx rfl (hb hby d9_73) rfl ?_
        show oP p e below T30 (mkF m 74 #[oI p0, oI p1, oJ q2, oS, oJ q3, oS, oI ((((q3.toUInt64 >>> (((6 : Int32) * (0 : Int32)) &&& 0x3f).toInt64.toUInt64).toInt64) &&& (63 : Int64)).toInt32), oI ((((q3.toUInt64 >>> (((6 : Int32) * (1 : Int32)) &&& 0x3f).toInt64.toUInt64).toInt64) &&& (63 : Int64)).toInt32), oI ((((q3.toUInt64 >>> (((6 : Int32) * (2 : Int32)) &&& 0x3f).toInt64.toUInt64).toInt64) &&& (63 : Int64)).toInt32)] [(.int (((((((q3.toUInt64 >>> (((6 : Int32) * (1 : Int32)) &&& 0x3f).toInt64.toUInt64).toInt64) &&& (63 : Int64)).toInt32) - (((((q3.toUInt64 >>> (((6 : Int32) * (1 : Int32)) &&& 0x3f).toInt64.toUInt64).toInt64) &&& (63 : Int64)).toInt32) / (16 : Int32)) * (16 : Int32)) * (16 : Int32)) + (((((q3.toUInt64 >>> (((6 : Int32) * (2 : Int32)) &&& 0x3f).toInt64.toUInt64).toInt64) &&& (63 : Int64)).toInt32) / (4 : Int32))))]) _
        exact retI X30 hx Bd.returns (hb hby d9_74) hr
      · show (some (.int (((((((q3.toUInt64 >>> (((6 : Int32) * (1 : Int32)) &&& 0x3f).toInt64.toUInt64).toInt64) &&& (63 : Int64)).toInt32) - (((((q3.toUInt64 >>> (((6 : Int32) * (1 : Int32)) &&& 0x3f).toInt64.toUInt64).toInt64) &&& (63 : Int64)).toInt32) / (16 : Int32)) * (16 : Int32)) * (16 : Int32)) + (((((q3.toUInt64 >>> (((6 : Int32) * (2 : Int32)) &&& 0x3f).toInt64.toUInt64).toInt64) &&& (63 : Int64)).toInt32) / (4 : Int32)))) : Option Value) = some (.int (fn9 Z p0 p1 q2 q3)) ∧ Fr n0 _ ∧ T30.heap = h0
        rw [h30q]
        refine ⟨?_, N30, rfl⟩
        unfold fn9
        rw [if_neg hc26, if_neg hc32]
theorem d4_0 : decode jdk_29_method_65_code 0 = .ok (.iload_n 0, 1) := by decide +kernel
theorem d4_1 : decode jdk_29_method_65_code 1 = .ok (.iload_n 1, 1) := by decide +kernel
theorem d4_2 : decode jdk_29_method_65_code 2 = .ok (.if_icmp .lt 7, 3) := by decide +kernel
theorem d4_9 : decode jdk_29_method_65_code 9 = .ok (.iload_n 1, 1) := by decide +kernel
theorem d4_10 : decode jdk_29_method_65_code 10 = .ok (.ireturn, 1) := by decide +kernel
theorem d4_5 : decode jdk_29_method_65_code 5 = .ok (.iload_n 0, 1) := by decide +kernel
theorem d4_6 : decode jdk_29_method_65_code 6 = .ok (.goto 4, 3) := by decide +kernel
def fn4 (Z : State) (p0 : Int32) (p1 : Int32) : Int32 :=
  if p0 < p1 then
    p1
  else
    p0
theorem ef_4 (m : MethodId) (x0 : Int32) (x1 : Int32) : entryFrame m #[(.int x0), (.int x1)] 2 = mkF m 0 #[.val (.int x0), .val (.int x1)] [] := by first | (simp [entryFrame, mkF, argsToLocals, Value.category]; done) | rfl
set_option maxRecDepth 65536 in
set_option maxHeartbeats 40000000 in
theorem rm4 (l : Launch) (Z : State) (a0 : Array Value) (hw : ∀ d ∈ tables_1, d.before a0 Z = true) (hS : St Z) (ws : List Jvm.Cond) (p0 : Int32) (p1 : Int32) (h0 : Heap) (n0 : Nat) (O0 : Old Z n0 h0) :
    MetFree l (⟨"java/lang/Math", "max", "(II)I"⟩ : MethodName) (head1 (Jvm.Cond.code (⟨"java/lang/Math", "max", "(II)I"⟩ : MethodName) jdk_29_method_65_code 2 (some .int) :: ws) ({ frames := 0, cells := 0, slots := 0, locals := 0 } : Room)) (fun a U => a = #[(.int p0), (.int p1)] ∧ Z.Warmed39 U.vm ∧ U.heap = h0) (fun _ _ _ _ _ => True) (fun _ U o U' => ∃ v L, o = .returned v ∧ own_Q (fun v hE L => v = some (.int (fn4 Z p0 p1)) ∧ Fr n0 L ∧ hE = h0) v U'.heap L ∧ FrameEnd U o U' L ({ frames := 0, cells := 0, slots := 0, locals := 0 } : Room).cells ({ frames := 0, cells := 0, slots := 0, locals := 0 } : Room).slots) := by
  refine MetFree.of_bodySF (Jvm.Free.JP.mathPlain rfl (by decide +kernel)) hisR ?_
  intro p e s m args below meth c s₁ Bd hml0 hP hK
  obtain ⟨rfl, hZ, hh⟩ := hP
  have hx := Bd.exec
  have hby := Bd.bytes
  have hml : c.maxLocals = 2 := hml0
  have hown : s.vm.findClass "java/lang/Math" = some m.cls := findClass_of_methodNamed Bd.named
  have X0 : Stand p l e ({ frames := 0, cells := 0, slots := 0, locals := 0 } : Room) s m #[(.int p0), (.int p1)] below meth c s₁ [] 0 0 := Stand.of_body Bd
  have e0 : s₁.heap = h0 := by rw [← hh, Bd.state]; rfl
  have N0 := Fr.nil n0
  have pre0 : ∀ t, Steps p.tables e below (s₁.setTop (mkF m 0 #[oI p0, oI p1] [])) t → Steps p.tables e below (s₁.setTop (entryFrame m #[(.int p0), (.int p1)] 2)) t := fun t k => castTop (ef_4 m p0 p1) k
  have pre33 : ∀ t, oP p e below s₁ (mkF m 2 #[oI p0, oI p1] [(.int p1), (.int p0)]) t → oP p e below s₁ (entryFrame m #[(.int p0), (.int p1)] 2) t := fun t k => pre0 t (by
    show oP p e below s₁ (mkF m 0 #[oI p0, oI p1] []) _
    refine XS.iloadN X0.here hx rfl (hb hby d4_0) rfl ?_
    refine XS.iloadN X0.here hx rfl (hb hby d4_1) rfl ?_
    exact k)
  by_cases hc34 : p0 < p1
  · obtain ⟨fs, hr, hrun, hended, hW, hsame⟩ := X0.leave (v := some (.int p1)) (fun h => by rw [Bd.returns] at h; cases h)
    refine ⟨_, _, pre33 _ ?_, hrun, hended, _, _, rfl, ?_, ⟨_, rfl⟩, hW, hsame.mono (by decide) (by decide)⟩
    · show oP p e below s₁ (mkF m 2 #[oI p0, oI p1] [(.int p1), (.int p0)]) _
      refine XS.icmpYes X0.here hx rfl (pc0 := 2) (pc' := 9) rfl (hb hby d4_2) rfl (tlt hc34).1 (by decide) (by decide) ?_
      show oP p e below s₁ (mkF m 9 #[oI p0, oI p1] []) _
      refine XS.iloadN X0.here hx rfl (hb hby d4_9) rfl ?_
      show oP p e below s₁ (mkF m 10 #[oI p0, oI p1] [(.int p1)]) _
      exact retI X0 hx Bd.returns (hb hby d4_10) hr
    · show (some (.int p1) : Option Value) = some (.int (fn4 Z p0 p1)) ∧ Fr n0 _ ∧ s₁.heap = h0
      rw [e0]
      refine ⟨?_, N0, rfl⟩
      unfold fn4
      rw [if_pos hc34]
  · obtain ⟨fs, hr, hrun, hended, hW, hsame⟩ := X0.leave (v := some (.int p0)) (fun h => by rw [Bd.returns] at h; cases h)
    refine ⟨_, _, pre33 _ ?_, hrun, hended, _, _, rfl, ?_, ⟨_, rfl⟩, hW, hsame.mono (by decide) (by decide)⟩
    · show oP p e below s₁ (mkF m 2 #[oI p0, oI p1] [(.int p1), (.int p0)]) _
      refine XS.icmpNo X0.here hx rfl (hb hby d4_2) rfl (flt hc34).1 ?_
      show oP p e below s₁ (mkF m 5 #[oI p0, oI p1] []) _
      refine XS.iloadN X0.here hx rfl (hb hby d4_5) rfl ?_
      refine XS.goto X0.here hx rfl (pc0 := 6) (pc' := 10) rfl (hb hby d4_6) (by decide) (by decide) ?_
      show oP p e below s₁ (mkF m 10 #[oI p0, oI p1] [(.int p0)]) _
      exact retI X0 hx Bd.returns (hb hby d4_10) hr
    · show (some (.int p0) : Option Value) = some (.int (fn4 Z p0 p1)) ∧ Fr n0 _ ∧ s₁.heap = h0
      rw [e0]
      refine ⟨?_, N0, rfl⟩
      unfold fn4
      rw [if_neg hc34]
def Dg (d : Int32) : Prop := 0 ≤ d.toInt ∧ d.toInt < 64
theorem dg_mem {d : Int32} (h : Dg d) : ∃ k, k < 64 ∧ d = Int32.ofNat k := own_mem h.1 h.2
theorem dg_nn {d : Int32} (h : Dg d) : ¬ d < 0 := by
  rw [Int32.lt_iff_toInt_lt]
  have e : (0 : Int32).toInt = 0 := by decide
  have := h.1
  omega
theorem own_and63 (x : Int64) : 0 ≤ (x &&& 63).toInt ∧ (x &&& 63).toInt < 64 := by
  have h : (x &&& 63).toBitVec.msb = false := by
    rw [Int64.toBitVec_and, BitVec.msb_and]
    have : (63 : Int64).toBitVec.msb = false := by decide
    rw [this]; simp
  have e1 : (x &&& 63).toInt = ((x &&& 63).toBitVec.toNat : Int) := by
    rw [← Int64.toInt_toBitVec, BitVec.toInt_eq_toNat_of_msb h]
  have h3 : (x &&& 63).toBitVec.toNat ≤ 63 := by
    rw [Int64.toBitVec_and, BitVec.toNat_and]; exact Nat.and_le_right
  omega
theorem dg_of (Z : State) (q : Int64) (p : Int32) : Dg (fn6 Z q p) := by
  unfold fn6 Dg
  have h := own_and63 ((q.toUInt64 >>> (((6 : Int32) * p) &&& 0x3f).toInt64.toUInt64).toInt64)
  rw [Int64.toInt_toInt32]
  rw [Int.bmod_eq_of_le (by omega) (by omega)]
  exact h
theorem chv_ne {d : Int32} (h : Dg d) : ¬ chv d = (61 : Int32) := by
  obtain ⟨k, hk, rfl⟩ := dg_mem h
  have t : ∀ k : Fin 64, ¬ chv (Int32.ofNat k.val) = (61 : Int32) := by decide +kernel
  exact t ⟨k, hk⟩
theorem chv_bb {d : Int32} (h : Dg d) : (((chv d).toInt8.toInt32).toInt8.toInt32) = chv d := by
  obtain ⟨k, hk, rfl⟩ := dg_mem h
  have t : ∀ k : Fin 64, (((chv (Int32.ofNat k.val)).toInt8.toInt32).toInt8.toInt32) = chv (Int32.ofNat k.val) := by decide +kernel
  exact t ⟨k, hk⟩
theorem own_tabat {Z : State} {a : Addr} {d : Int32} (T : own_Tab Z a) (h : Dg d) : ∃ cl : Cell, Arr Z Z.heap a cl .int ∧ ¬ (((chv d) &&& (255 : Int32)) < 0 ∨ cl.slots.size ≤ ((chv d) &&& (255 : Int32)).toNatClampNeg) ∧ cl.slots[((chv d) &&& (255 : Int32)).toNatClampNeg]? = some (.int d) := by
  obtain ⟨cl, A, S, H⟩ := T
  obtain ⟨k, hk, rfl⟩ := dg_mem h
  refine ⟨cl, A, ?_, H k hk⟩
  have t : ∀ k : Fin 64, ¬ (((chv (Int32.ofNat k.val)) &&& (255 : Int32)) < 0 ∨ 256 ≤ ((chv (Int32.ofNat k.val)) &&& (255 : Int32)).toNatClampNeg) := by decide +kernel
  rw [S]
  exact t ⟨k, hk⟩
theorem own_skip {Z : State} {h : Heap} {a : Addr} {k : ClassId} {ty : FieldType} {z i : Int32} {vs : List Value} {dv v : Value} (F : Arv Z h a k ty z vs dv) (hi : ¬ i < 0) (hc : ¬ i < z) (hv : fits ty v = true) : Arv Z h a k ty z (vs.set i.toNatClampNeg v) dv := by
  obtain ⟨c, A, q, S, N, H, G⟩ := F
  have le : z.toNatClampNeg ≤ i.toNatClampNeg := by
    rw [Int32.lt_iff_toInt_lt] at hc
    rw [own_clamp, own_clamp]
    omega
  have e : ∀ j, j < c.slots.size → (vs.set i.toNatClampNeg v).getD j dv = vs.getD j dv := fun j hj => by
    rw [List.getD_eq_getElem?_getD, List.getD_eq_getElem?_getD, List.getElem?_set_ne (by omega)]
  exact ⟨c, A, q, S, N, fun j hj => by rw [e j hj]; exact H j hj, fun j hj => by rw [e j hj]; exact G j hj⟩
theorem own_el {gg pa el : Int32} (h : ((pa = (0 : Int32)) ∧ el = (0 : Int32)) ∨ (¬ (pa = (0 : Int32)) ∧ el = (pa - (1 : Int32)))) : (((3 : Int32) * gg) + (if pa = (0 : Int32) then (0 : Int32) else (pa - (1 : Int32)))) = (((3 : Int32) * gg) + el) := by
  rcases h with ⟨h1, h2⟩ | ⟨h1, h2⟩
  · rw [if_pos h1, h2]
  · rw [if_neg h1, h2]
def grp (d0 d1 d2 d3 : Int32) : Int32 := ((((d0 <<< ((18 : Int32) &&& 31)) ||| (d1 <<< ((12 : Int32) &&& 31))) ||| (d2 <<< ((6 : Int32) &&& 31))) ||| d3)
theorem own_or_add {A B : Int32} (n a : Nat) (hA : A.toInt = (2 ^ n * a : Nat)) (hB0 : 0 ≤ B.toInt) (hB : B.toInt < (2 ^ n : Nat)) : (A ||| B).toInt = A.toInt + B.toInt := by
  have nm : ∀ {x : Int32}, 0 ≤ x.toInt → x.toBitVec.msb = false := fun {x} hx => by
    cases h : x.toBitVec.msb with
    | false => rfl
    | true =>
      have := BitVec.toInt_neg_of_msb_true h
      rw [Int32.toInt_toBitVec] at this
      omega
  have tn : ∀ {x : Int32}, x.toBitVec.msb = false → x.toInt = (x.toBitVec.toNat : Int) := fun {x} hx => by
    rw [← Int32.toInt_toBitVec, BitVec.toInt_eq_toNat_of_msb hx]
  have mA := nm (x := A) (by omega)
  have mB := nm hB0
  have mO : (A ||| B).toBitVec.msb = false := by rw [Int32.toBitVec_or, BitVec.msb_or, mA, mB]; rfl
  have eA := tn mA
  have eB := tn mB
  rw [tn mO, Int32.toBitVec_or, BitVec.toNat_or, eA, eB]
  have h1 : A.toBitVec.toNat = 2 ^ n * a := by omega
  have h2 : B.toBitVec.toNat < 2 ^ n := by omega
  rw [h1, ← Nat.two_pow_add_eq_or_of_lt h2]
  omega
theorem own_sh18 {d : Int32} (h : Dg d) : (d <<< ((18 : Int32) &&& 31)).toInt = d.toInt * 262144 := by
  obtain ⟨k, hk, rfl⟩ := dg_mem h
  have t : ∀ k : Fin 64, ((Int32.ofNat k.val) <<< ((18 : Int32) &&& 31)).toInt = (Int32.ofNat k.val).toInt * 262144 := by decide +kernel
  exact t ⟨k, hk⟩
theorem own_sh12 {d : Int32} (h : Dg d) : (d <<< ((12 : Int32) &&& 31)).toInt = d.toInt * 4096 := by
  obtain ⟨k, hk, rfl⟩ := dg_mem h
  have t : ∀ k : Fin 64, ((Int32.ofNat k.val) <<< ((12 : Int32) &&& 31)).toInt = (Int32.ofNat k.val).toInt * 4096 := by decide +kernel
  exact t ⟨k, hk⟩
theorem own_sh6 {d : Int32} (h : Dg d) : (d <<< ((6 : Int32) &&& 31)).toInt = d.toInt * 64 := by
  obtain ⟨k, hk, rfl⟩ := dg_mem h
  have t : ∀ k : Fin 64, ((Int32.ofNat k.val) <<< ((6 : Int32) &&& 31)).toInt = (Int32.ofNat k.val).toInt * 64 := by decide +kernel
  exact t ⟨k, hk⟩
theorem own_sh6b {d : Int32} (h0 : 0 ≤ d.toInt) (h1 : d.toInt < 4096) : (d <<< ((6 : Int32) &&& 31)).toInt = d.toInt * 64 := by
  obtain ⟨k, hk, rfl⟩ := own_mem (n := 4096) h0 h1
  have t : ∀ a b : Fin 64, ((Int32.ofNat (64 * a.val + b.val)) <<< ((6 : Int32) &&& 31)).toInt = (Int32.ofNat (64 * a.val + b.val)).toInt * 64 := by decide +kernel
  have q := t ⟨k / 64, by omega⟩ ⟨k % 64, by omega⟩
  dsimp only at q
  rw [Nat.div_add_mod k 64] at q
  exact q
theorem grp_int {d0 d1 d2 d3 : Int32} (h0 : Dg d0) (h1 : Dg d1) (h2 : Dg d2) (h3 : Dg d3) : (grp d0 d1 d2 d3).toInt = d0.toInt * 262144 + d1.toInt * 4096 + d2.toInt * 64 + d3.toInt := by
  obtain ⟨a0, b0⟩ := h0
  obtain ⟨a1, b1⟩ := h1
  obtain ⟨a2, b2⟩ := h2
  obtain ⟨a3, b3⟩ := h3
  have s0 := own_sh18 ⟨a0, b0⟩
  have s1 := own_sh12 ⟨a1, b1⟩
  have s2 := own_sh6 ⟨a2, b2⟩
  have e1 := own_or_add (A := d0 <<< ((18 : Int32) &&& 31)) (B := d1 <<< ((12 : Int32) &&& 31)) 18 d0.toInt.toNat (by omega) (by omega) (by omega)
  have e2 := own_or_add (A := (d0 <<< ((18 : Int32) &&& 31)) ||| (d1 <<< ((12 : Int32) &&& 31))) (B := d2 <<< ((6 : Int32) &&& 31)) 12 (d0.toInt.toNat * 64 + d1.toInt.toNat) (by omega) (by omega) (by omega)
  have e3 := own_or_add (A := ((d0 <<< ((18 : Int32) &&& 31)) ||| (d1 <<< ((12 : Int32) &&& 31))) ||| (d2 <<< ((6 : Int32) &&& 31))) (B := d3) 6 (d0.toInt.toNat * 4096 + d1.toInt.toNat * 64 + d2.toInt.toNat) (by omega) (by omega) (by omega)
  unfold grp
  omega
theorem grp_nn {d0 d1 d2 d3 : Int32} (h0 : Dg d0) (h1 : Dg d1) (h2 : Dg d2) (h3 : Dg d3) : ¬ grp d0 d1 d2 d3 < 0 := by
  have e := grp_int h0 h1 h2 h3
  obtain ⟨a0, b0⟩ := h0
  obtain ⟨a1, b1⟩ := h1
  obtain ⟨a2, b2⟩ := h2
  obtain ⟨a3, b3⟩ := h3
  rw [Int32.lt_iff_toInt_lt]
  have e0 : (0 : Int32).toInt = 0 := by decide
  omega
theorem own_shr (x y : Int32) (n : Nat) (hn : (y.toBitVec.smod 32).toNat = n) : (x >>> y).toInt = x.toInt / ((2 ^ n : Nat) : Int) := by
  rw [← Int32.toInt_toBitVec, Int32.toBitVec_shiftRight, BitVec.toInt_sshiftRight', hn, Int.shiftRight_eq_div_pow, Int32.toInt_toBitVec]
theorem byte_eq {x y : Int32} (h : x.toInt % 256 = y.toInt % 256) : x.toInt8.toInt32 = y.toInt8.toInt32 := by
  refine congrArg Int8.toInt32 (Int8.toInt_inj.mp ?_)
  rw [Int32.toInt_toInt8, Int32.toInt_toInt8, Int.bmod_def, Int.bmod_def]
  have e : ((2 ^ 8 : Nat) : Int) = 256 := by decide
  rw [e, h]
theorem byte_b (x : Int32) : (x.toInt8.toInt32).toInt8.toInt32 = x.toInt8.toInt32 := by rw [Int8.toInt8_toInt32]
theorem own_divI {x y : Int32} (hx : 0 ≤ x.toInt) (hy : 0 < y.toInt) : (x / y).toInt = x.toInt / y.toInt := by
  rw [Int32.toInt_div, Int.tdiv_eq_ediv_of_nonneg hx]
  have := Int32.toInt_lt x
  have h2 : 0 ≤ x.toInt / y.toInt := Int.ediv_nonneg hx (by omega)
  have h3 : x.toInt / y.toInt ≤ x.toInt := Int.ediv_le_self _ hx
  apply Int.bmod_eq_of_le <;> omega
theorem own_addI {x y : Int32} (h1 : -2147483648 ≤ x.toInt + y.toInt) (h2 : x.toInt + y.toInt < 2147483648) : (x + y).toInt = x.toInt + y.toInt := by
  rw [Int32.toInt_add]
  apply Int.bmod_eq_of_le <;> omega
theorem own_mulI {x y : Int32} (h1 : -2147483648 ≤ x.toInt * y.toInt) (h2 : x.toInt * y.toInt < 2147483648) : (x * y).toInt = x.toInt * y.toInt := by
  rw [Int32.toInt_mul]
  apply Int.bmod_eq_of_le <;> omega
theorem lits806 : (4 : Int32).toInt = 4 ∧ (16 : Int32).toInt = 16 ∧ (64 : Int32).toInt = 64 := by decide
theorem ex0 {d0 d1 : Int32} (h0 : Dg d0) (h1 : Dg d1) : (d0 * 4 + d1 / 16).toInt = d0.toInt * 4 + d1.toInt / 16 := by
  obtain ⟨a0, b0⟩ := h0
  obtain ⟨a1, b1⟩ := h1
  obtain ⟨l4, l16, l64⟩ := lits806
  have e1 : (d0 * 4).toInt = d0.toInt * 4 := by rw [← l4]; exact own_mulI (by rw [l4]; omega) (by rw [l4]; omega)
  have e2 : (d1 / 16).toInt = d1.toInt / 16 := by rw [← l16]; exact own_divI a1 (by rw [l16]; omega)
  rw [own_addI (by omega) (by omega), e1, e2]
theorem ex1 {d1 d2 : Int32} (h1 : Dg d1) (h2 : Dg d2) : ((d1 - (d1 / 16) * 16) * 16 + d2 / 4).toInt = (d1.toInt % 16) * 16 + d2.toInt / 4 := by
  obtain ⟨a1, b1⟩ := h1
  obtain ⟨a2, b2⟩ := h2
  obtain ⟨l4, l16, l64⟩ := lits806
  have r : (d1 - (d1 / 16) * 16).toInt = d1.toInt % 16 := by rw [← l16]; exact own_rem a1 (by rw [l16]; omega)
  have e1 : ((d1 - (d1 / 16) * 16) * 16).toInt = (d1.toInt % 16) * 16 := by
    have := own_mulI (x := d1 - (d1 / 16) * 16) (y := 16) (by rw [l16, r]; omega) (by rw [l16, r]; omega)
    rw [this, l16, r]
  have e2 : (d2 / 4).toInt = d2.toInt / 4 := by rw [← l4]; exact own_divI a2 (by rw [l4]; omega)
  rw [own_addI (by omega) (by omega), e1, e2]
theorem ex2 {d2 d3 : Int32} (h2 : Dg d2) (h3 : Dg d3) : ((d2 - (d2 / 4) * 4) * 64 + d3).toInt = (d2.toInt % 4) * 64 + d3.toInt := by
  obtain ⟨a2, b2⟩ := h2
  obtain ⟨a3, b3⟩ := h3
  obtain ⟨l4, l16, l64⟩ := lits806
  have r : (d2 - (d2 / 4) * 4).toInt = d2.toInt % 4 := by rw [← l4]; exact own_rem a2 (by rw [l4]; omega)
  have e1 : ((d2 - (d2 / 4) * 4) * 64).toInt = (d2.toInt % 4) * 64 := by
    have := own_mulI (x := d2 - (d2 / 4) * 4) (y := 64) (by rw [l64, r]; omega) (by rw [l64, r]; omega)
    rw [this, l64, r]
  rw [own_addI (by omega) (by omega), e1]
theorem whole0 {d0 d1 d2 d3 : Int32} (h0 : Dg d0) (h1 : Dg d1) (h2 : Dg d2) (h3 : Dg d3) : ((((grp d0 d1 d2 d3) >>> ((16 : Int32) &&& 31)).toInt8.toInt32).toInt8.toInt32) = ((d0 * 4 + d1 / 16).toInt8.toInt32) := by
  rw [byte_b]
  refine byte_eq ?_
  rw [own_shr _ _ 16 (by decide), grp_int h0 h1 h2 h3, ex0 h0 h1]
  obtain ⟨a0, b0⟩ := h0
  obtain ⟨a1, b1⟩ := h1
  obtain ⟨a2, b2⟩ := h2
  obtain ⟨a3, b3⟩ := h3
  omega
theorem whole1 {d0 d1 d2 d3 : Int32} (h0 : Dg d0) (h1 : Dg d1) (h2 : Dg d2) (h3 : Dg d3) : ((((grp d0 d1 d2 d3) >>> ((8 : Int32) &&& 31)).toInt8.toInt32).toInt8.toInt32) = (((d1 - (d1 / 16) * 16) * 16 + d2 / 4).toInt8.toInt32) := by
  rw [byte_b]
  refine byte_eq ?_
  rw [own_shr _ _ 8 (by decide), grp_int h0 h1 h2 h3, ex1 h1 h2]
  obtain ⟨a0, b0⟩ := h0
  obtain ⟨a1, b1⟩ := h1
  obtain ⟨a2, b2⟩ := h2
  obtain ⟨a3, b3⟩ := h3
  omega
theorem whole2 {d0 d1 d2 d3 : Int32} (h0 : Dg d0) (h1 : Dg d1) (h2 : Dg d2) (h3 : Dg d3) : (((grp d0 d1 d2 d3).toInt8.toInt32).toInt8.toInt32) = (((d2 - (d2 / 4) * 4) * 64 + d3).toInt8.toInt32) := by
  rw [byte_b]
  refine byte_eq ?_
  rw [grp_int h0 h1 h2 h3, ex2 h2 h3]
  obtain ⟨a0, b0⟩ := h0
  obtain ⟨a1, b1⟩ := h1
  obtain ⟨a2, b2⟩ := h2
  obtain ⟨a3, b3⟩ := h3
  omega
def bits1 (d0 : Int32) : Int32 := (((0 : Int32) <<< ((6 : Int32) &&& 31)) ||| d0)
def bits2 (d0 d1 : Int32) : Int32 := ((bits1 d0 <<< ((6 : Int32) &&& 31)) ||| d1)
def bits3 (d0 d1 d2 : Int32) : Int32 := ((bits2 d0 d1 <<< ((6 : Int32) &&& 31)) ||| d2)
theorem bits1_eq (d0 : Int32) : bits1 d0 = d0 := by
  unfold bits1
  have e : ((0 : Int32) <<< ((6 : Int32) &&& 31)) = 0 := by decide
  rw [e, Int32.zero_or]
theorem bits2_int {d0 d1 : Int32} (h0 : Dg d0) (h1 : Dg d1) : (bits2 d0 d1).toInt = d0.toInt * 64 + d1.toInt := by
  unfold bits2
  rw [bits1_eq]
  obtain ⟨a0, b0⟩ := h0
  obtain ⟨a1, b1⟩ := h1
  have s0 := own_sh6 ⟨a0, b0⟩
  rw [own_or_add (A := d0 <<< ((6 : Int32) &&& 31)) (B := d1) 6 d0.toInt.toNat (by omega) (by omega) (by omega), s0]
theorem bits3_int {d0 d1 d2 : Int32} (h0 : Dg d0) (h1 : Dg d1) (h2 : Dg d2) : (bits3 d0 d1 d2).toInt = d0.toInt * 4096 + d1.toInt * 64 + d2.toInt := by
  have e := bits2_int h0 h1
  unfold bits3
  obtain ⟨a0, b0⟩ := h0
  obtain ⟨a1, b1⟩ := h1
  obtain ⟨a2, b2⟩ := h2
  have s0 := own_sh6b (d := bits2 d0 d1) (by omega) (by omega)
  rw [own_or_add (A := bits2 d0 d1 <<< ((6 : Int32) &&& 31)) (B := d2) 6 (d0.toInt.toNat * 64 + d1.toInt.toNat) (by omega) (by omega) (by omega), s0]
  omega
theorem part2 {d0 d1 : Int32} (h0 : Dg d0) (h1 : Dg d1) : (((bits2 d0 d1 >>> ((4 : Int32) &&& 31)).toInt8.toInt32).toInt8.toInt32) = ((d0 * 4 + d1 / 16).toInt8.toInt32) := by
  rw [byte_b]
  refine byte_eq ?_
  rw [own_shr _ _ 4 (by decide), bits2_int h0 h1, ex0 h0 h1]
  obtain ⟨a0, b0⟩ := h0
  obtain ⟨a1, b1⟩ := h1
  omega
theorem part30 {d0 d1 d2 : Int32} (h0 : Dg d0) (h1 : Dg d1) (h2 : Dg d2) : (((bits3 d0 d1 d2 >>> ((10 : Int32) &&& 31)).toInt8.toInt32).toInt8.toInt32) = ((d0 * 4 + d1 / 16).toInt8.toInt32) := by
  rw [byte_b]
  refine byte_eq ?_
  rw [own_shr _ _ 10 (by decide), bits3_int h0 h1 h2, ex0 h0 h1]
  obtain ⟨a0, b0⟩ := h0
  obtain ⟨a1, b1⟩ := h1
  obtain ⟨a2, b2⟩ := h2
  omega
theorem part31 {d0 d1 d2 : Int32} (h0 : Dg d0) (h1 : Dg d1) (h2 : Dg d2) : (((bits3 d0 d1 d2 >>> ((2 : Int32) &&& 31)).toInt8.toInt32).toInt8.toInt32) = (((d1 - (d1 / 16) * 16) * 16 + d2 / 4).toInt8.toInt32) := by
  rw [byte_b]
  refine byte_eq ?_
  rw [own_shr _ _ 2 (by decide), bits3_int h0 h1 h2, ex1 h1 h2]
  obtain ⟨a0, b0⟩ := h0
  obtain ⟨a1, b1⟩ := h1
  obtain ⟨a2, b2⟩ := h2
  omega

theorem d2_0 : decode method_3_code 0 = .ok (.iload_n 1, 1) := by decide +kernel
theorem d2_1 : decode method_3_code 1 = .ok (.aload_n 0, 1) := by decide +kernel
theorem d2_2 : decode method_3_code 2 = .ok (.arraylength, 1) := by decide +kernel
theorem d2_3 : decode method_3_code 3 = .ok (.if_icmp .ge 7, 3) := by decide +kernel
theorem d2_6 : decode method_3_code 6 = .ok (.aload_n 0, 1) := by decide +kernel
theorem d2_7 : decode method_3_code 7 = .ok (.iload_n 1, 1) := by decide +kernel
theorem d2_8 : decode method_3_code 8 = .ok (.iload_n 2, 1) := by decide +kernel
theorem d2_9 : decode method_3_code 9 = .ok (.bastore, 1) := by decide +kernel
theorem d2_10 : decode method_3_code 10 = .ok (.return_, 1) := by decide +kernel
theorem ef_2 (m : MethodId) (x0 : Addr) (x1 : Int32) (x2 : Int32) : entryFrame m #[(.ref x0), (.int x1), (.int x2)] 3 = mkF m 0 #[.val (.ref x0), .val (.int x1), .val (.int x2)] [] := by first | (simp [entryFrame, mkF, argsToLocals, Value.category]; done) | rfl
set_option maxRecDepth 65536 in
set_option maxHeartbeats 40000000 in
theorem rm2 (l : Launch) (Z : State) (a0 : Array Value) (hw : ∀ d ∈ tables_1, d.before a0 Z = true) (hS : St Z) (ws : List Jvm.Cond) (r0 : Addr) (p1 : Int32) (p2 : Int32) (k : ClassId) (z : Int32) (vs : List Value) (h0 : Heap) (n0 : Nat) (O0 : Old Z n0 h0) (V_r0 : Arv Z h0 r0 k .byte z vs (.int 0)) (g_r0 : n0 ≤ r0) (hi0 : ¬ p1 < 0) (hil : p1.toNatClampNeg < vs.length) :
    MetFree l (⟨"com/example/meerkat/meerkat/Base64CodecDecodePinLaw", "put", "([BIB)V"⟩ : MethodName) (head1 (Jvm.Cond.code (⟨"com/example/meerkat/meerkat/Base64CodecDecodePinLaw", "put", "([BIB)V"⟩ : MethodName) method_3_code 3 none :: ws) ({ frames := 0, cells := 0, slots := 0, locals := 0 } : Room)) (fun a U => a = #[(.ref r0), (.int p1), (.int p2)] ∧ Z.Warmed39 U.vm ∧ U.heap = h0) (fun _ _ _ _ _ => True) (fun _ U o U' => ∃ v L, o = .returned v ∧ own_Q (fun v hE L => v = none ∧ Fr n0 L ∧ Keep h0 hE [r0] ∧ Arv Z hE r0 k .byte z (vs.set p1.toNatClampNeg (.int (p2.toInt8.toInt32))) (.int 0)) v U'.heap L ∧ FrameEnd U o U' L ({ frames := 0, cells := 0, slots := 0, locals := 0 } : Room).cells ({ frames := 0, cells := 0, slots := 0, locals := 0 } : Room).slots) := by
  refine MetFree.of_bodySF (plainFor_of_name pn_0) hisR ?_
  intro p e s m args below meth c s₁ Bd hml0 hP hK
  obtain ⟨rfl, hZ, hh⟩ := hP
  have hx := Bd.exec
  have hby := Bd.bytes
  have hml : c.maxLocals = 3 := hml0
  have hown : s.vm.findClass "com/example/meerkat/meerkat/Base64CodecDecodePinLaw" = some m.cls := findClass_of_methodNamed Bd.named
  have hnm := (name_of_methodNamed Bd.named Bd.method).1
  have X0 : Stand p l e ({ frames := 0, cells := 0, slots := 0, locals := 0 } : Room) s m #[(.ref r0), (.int p1), (.int p2)] below meth c s₁ [] 0 0 := Stand.of_body Bd
  have e0 : s₁.heap = h0 := by rw [← hh, Bd.state]; rfl
  have N0 := Fr.nil n0
  have pre0 : ∀ t, Steps p.tables e below (s₁.setTop (mkF m 0 #[oR r0, oI p1, oI p2] [])) t → Steps p.tables e below (s₁.setTop (entryFrame m #[(.ref r0), (.int p1), (.int p2)] 3)) t := fun t k => castTop (ef_2 m r0 p1 p2) k
  have pre35 : ∀ t, oP p e below s₁ (mkF m 3 #[oR r0, oI p1, oI p2] [(.int z), (.int p1)]) t → oP p e below s₁ (entryFrame m #[(.ref r0), (.int p1), (.int p2)] 3) t := fun t k => pre0 t (by
    show oP p e below s₁ (mkF m 0 #[oR r0, oI p1, oI p2] []) _
    refine XS.iloadN X0.here hx rfl (hb hby d2_0) rfl ?_
    refine XS.aloadN X0.here hx rfl (hb hby d2_1) rfl rfl ?_
    show oP p e below s₁ (mkF m 2 #[oR r0, oI p1, oI p2] [(.ref r0), (.int p1)]) _
    refine own_len X0 hx hZ e0 V_r0 (g := (mkF m 2 #[oR r0, oI p1, oI p2] [(.ref r0), (.int p1)])) rfl rfl (hb hby d2_2) _ ?_
    exact k)
  by_cases hc36 : p1 < z
  · obtain ⟨T37, h37, X37, e37, W37, V37', st37⟩ := own_stB X0 hx hZ e0 V_r0 (j := p1) ⟨hi0, hc36⟩ rfl hil (g := (mkF m 9 #[oR r0, oI p1, oI p2] [(.int p2), (.int p1), (.ref r0)])) rfl rfl (hb hby d2_9)
    have N37 := Fr.snoc X37 N0 g_r0
    have O37 := O0.wr W37 g_r0
    have Kc37 := (Keep.refl h0 [r0]).wr W37 (Or.inl (List.mem_of_getElem? (i := 0) rfl))
    obtain ⟨fs, hr, hrun, hended, hW, hsame⟩ := X37.leave (v := none) (fun _ => rfl)
    refine ⟨_, _, pre35 _ ?_, hrun, hended, _, _, rfl, ?_, ⟨_, rfl⟩, hW, hsame.mono (by decide) (by decide)⟩
    · show oP p e below s₁ (mkF m 3 #[oR r0, oI p1, oI p2] [(.int z), (.int p1)]) _
      refine XS.icmpNo X0.here hx rfl (hb hby d2_3) rfl (tlt hc36).2.1 ?_
      show oP p e below s₁ (mkF m 6 #[oR r0, oI p1, oI p2] []) _
      refine XS.aloadN X0.here hx rfl (hb hby d2_6) rfl rfl ?_
      refine XS.iloadN X0.here hx rfl (hb hby d2_7) rfl ?_
      refine XS.iloadN X0.here hx rfl (hb hby d2_8) rfl ?_
      show oP p e below s₁ (mkF m 9 #[oR r0, oI p1, oI p2] [(.int p2), (.int p1), (.ref r0)]) _
      refine st37 _ ?_
      show oP p e below T37 (mkF m 10 #[oR r0, oI p1, oI p2] []) _
      exact X37.returnOut hx Bd.returns (hb hby d2_10) hr
    · show (none : Option Value) = none ∧ Fr n0 _ ∧ Keep h0 T37.heap [r0] ∧ Arv Z T37.heap r0 k .byte z (vs.set p1.toNatClampNeg (.int (p2.toInt8.toInt32))) (.int 0)
      rw [e37]
      exact ⟨rfl, N37, Kc37, V37'⟩
  · have Vs38 := own_skip (v := (.int (p2.toInt8.toInt32))) V_r0 hi0 hc36 (fits_nar_byte _)
    obtain ⟨fs, hr, hrun, hended, hW, hsame⟩ := X0.leave (v := none) (fun _ => rfl)
    refine ⟨_, _, pre35 _ ?_, hrun, hended, _, _, rfl, ?_, ⟨_, rfl⟩, hW, hsame.mono (by decide) (by decide)⟩
    · show oP p e below s₁ (mkF m 3 #[oR r0, oI p1, oI p2] [(.int z), (.int p1)]) _
      refine XS.icmpYes X0.here hx rfl (pc0 := 3) (pc' := 10) rfl (hb hby d2_3) rfl (flt hc36).2.1 (by decide) (by decide) ?_
      show oP p e below s₁ (mkF m 10 #[oR r0, oI p1, oI p2] []) _
      exact X0.returnOut hx Bd.returns (hb hby d2_10) hr
    · show (none : Option Value) = none ∧ Fr n0 _ ∧ Keep h0 s₁.heap [r0] ∧ Arv Z s₁.heap r0 k .byte z (vs.set p1.toNatClampNeg (.int (p2.toInt8.toInt32))) (.int 0)
      rw [e0]
      exact ⟨rfl, N0, (Keep.refl h0 [r0]), Vs38⟩
theorem d8_0 : decode prog_8_method_4_code 0 = .ok (.iconst 0, 1) := by decide +kernel
theorem d8_1 : decode prog_8_method_4_code 1 = .ok (.istore_n 3, 1) := by decide +kernel
theorem d8_2 : decode prog_8_method_4_code 2 = .ok (.iload_n 1, 1) := by decide +kernel
theorem d8_3 : decode prog_8_method_4_code 3 = .ok (.istore 4, 2) := by decide +kernel
theorem d8_5 : decode prog_8_method_4_code 5 = .ok (.iload 4, 2) := by decide +kernel
theorem d8_7 : decode prog_8_method_4_code 7 = .ok (.iload_n 1, 1) := by decide +kernel
theorem d8_8 : decode prog_8_method_4_code 8 = .ok (.iload_n 2, 1) := by decide +kernel
theorem d8_9 : decode prog_8_method_4_code 9 = .ok (.iadd, 1) := by decide +kernel
theorem d8_10 : decode prog_8_method_4_code 10 = .ok (.if_icmp .ge 51, 3) := by decide +kernel
theorem d8_13 : decode prog_8_method_4_code 13 = .ok (.getstatic 48, 3) := by decide +kernel
theorem d8_16 : decode prog_8_method_4_code 16 = .ok (.aload_n 0, 1) := by decide +kernel
theorem d8_17 : decode prog_8_method_4_code 17 = .ok (.iload 4, 2) := by decide +kernel
theorem d8_19 : decode prog_8_method_4_code 19 = .ok (.baload, 1) := by decide +kernel
theorem d8_20 : decode prog_8_method_4_code 20 = .ok (.sipush 255, 3) := by decide +kernel
theorem d8_23 : decode prog_8_method_4_code 23 = .ok (.iand, 1) := by decide +kernel
theorem d8_24 : decode prog_8_method_4_code 24 = .ok (.iaload, 1) := by decide +kernel
theorem d8_25 : decode prog_8_method_4_code 25 = .ok (.istore 5, 2) := by decide +kernel
theorem d8_27 : decode prog_8_method_4_code 27 = .ok (.iload 5, 2) := by decide +kernel
theorem d8_29 : decode prog_8_method_4_code 29 = .ok (.ifCond .ge 18, 3) := by decide +kernel
theorem d8_47 : decode prog_8_method_4_code 47 = .ok (.iload_n 3, 1) := by decide +kernel
theorem d8_48 : decode prog_8_method_4_code 48 = .ok (.bipush 6, 2) := by decide +kernel
theorem d8_50 : decode prog_8_method_4_code 50 = .ok (.ishl, 1) := by decide +kernel
theorem d8_51 : decode prog_8_method_4_code 51 = .ok (.iload 5, 2) := by decide +kernel
theorem d8_53 : decode prog_8_method_4_code 53 = .ok (.ior, 1) := by decide +kernel
theorem d8_54 : decode prog_8_method_4_code 54 = .ok (.istore_n 3, 1) := by decide +kernel
theorem d8_55 : decode prog_8_method_4_code 55 = .ok (.iinc 4 1, 3) := by decide +kernel
theorem d8_58 : decode prog_8_method_4_code 58 = .ok (.goto (-53), 3) := by decide +kernel
theorem d8_61 : decode prog_8_method_4_code 61 = .ok (.iload_n 3, 1) := by decide +kernel
theorem d8_62 : decode prog_8_method_4_code 62 = .ok (.ireturn, 1) := by decide +kernel
def fn8b0_2 (Z : State) (r0 : Addr) (k : ClassId) (z : Int32) (vs : List Value) (d0 : Int32) (d1 : Int32) : Int32 :=
  (((((0 : Int32) <<< ((6 : Int32) &&& 31)) ||| d0) <<< ((6 : Int32) &&& 31)) ||| d1)
theorem ef_8b0_2 (m : MethodId) (x0 : Addr) (x1 : Int32) (x2 : Int32) : entryFrame m #[(.ref x0), (.int x1), (.int x2)] 6 = mkF m 0 #[.val (.ref x0), .val (.int x1), .val (.int x2), .unset, .unset, .unset] [] := by first | (simp [entryFrame, mkF, argsToLocals, Value.category]; done) | rfl
theorem pn_1 : plainName "com/example/meerkat/meerkat/Base64Codec" = true := by first | (simp [plainName, overriddenIn]; done) | decide +kernel
set_option maxRecDepth 65536 in
set_option maxHeartbeats 40000000 in
theorem rm8b0_2 (l : Launch) (Z : State) (a0 : Array Value) (hw : ∀ d ∈ tables_1, d.before a0 Z = true) (hS : St Z) (ws : List Jvm.Cond) (r0 : Addr) (k : ClassId) (z : Int32) (vs : List Value) (d0 : Int32) (d1 : Int32) (h0 : Heap) (n0 : Nat) (O0 : Old Z n0 h0) (V_r0 : Arv Z h0 r0 k .byte z vs (.int 0)) (hd0 : Dg d0) (hd1 : Dg d1) (hat0 : vs.getD ((0 : Int32)).toNatClampNeg (.int 0) = .int (chv d0)) (hat1 : vs.getD ((1 : Int32)).toNatClampNeg (.int 0) = .int (chv d1)) (hb0 : ¬ (0 : Int32) < 0 ∧ (0 : Int32) < z) (hb1 : ¬ (1 : Int32) < 0 ∧ (1 : Int32) < z) :
    MetFree l (⟨"com/example/meerkat/meerkat/Base64Codec", "bitsOf", "([BII)I"⟩ : MethodName) (head1 (Jvm.Cond.code (⟨"com/example/meerkat/meerkat/Base64Codec", "bitsOf", "([BII)I"⟩ : MethodName) prog_8_method_4_code 6 (some .int) :: ws) ({ frames := 0, cells := 0, slots := 0, locals := 0 } : Room)) (fun a U => a = #[(.ref r0), (.int 0), (.int 2)] ∧ Z.Warmed39 U.vm ∧ U.heap = h0) (fun _ _ _ _ _ => True) (fun _ U o U' => ∃ v L, o = .returned v ∧ own_Q (fun v hE L => v = some (.int (fn8b0_2 Z r0 k z vs d0 d1)) ∧ Fr n0 L ∧ Keep h0 hE []) v U'.heap L ∧ FrameEnd U o U' L ({ frames := 0, cells := 0, slots := 0, locals := 0 } : Room).cells ({ frames := 0, cells := 0, slots := 0, locals := 0 } : Room).slots) := by
  refine MetFree.of_bodySF (plainFor_of_name pn_1) hisR ?_
  intro p e s m args below meth c s₁ Bd hml0 hP hK
  obtain ⟨rfl, hZ, hh⟩ := hP
  have hx := Bd.exec
  have hby := Bd.bytes
  have hml : c.maxLocals = 6 := hml0
  have hown : s.vm.findClass "com/example/meerkat/meerkat/Base64Codec" = some m.cls := findClass_of_methodNamed Bd.named
  have hnm := (name_of_methodNamed Bd.named Bd.method).1
  have X0 : Stand p l e ({ frames := 0, cells := 0, slots := 0, locals := 0 } : Room) s m #[(.ref r0), (.int 0), (.int 2)] below meth c s₁ [] 0 0 := Stand.of_body Bd
  have e0 : s₁.heap = h0 := by rw [← hh, Bd.state]; rfl
  have N0 := Fr.nil n0
  have pre0 : ∀ t, Steps p.tables e below (s₁.setTop (mkF m 0 #[oR r0, oI 0, oI 2, oU, oU, oU] [])) t → Steps p.tables e below (s₁.setTop (entryFrame m #[(.ref r0), (.int 0), (.int 2)] 6)) t := fun t k => castTop (ef_8b0_2 m r0 (0 : Int32) (2 : Int32)) k
  obtain ⟨T39, X39, e39, st39⟩ := getS2 X0 hx hZ hown (host := "") (Or.inl (wi hw 26 rfl)) Via.refl e0 ((s_a_VALUES hS).ext O0.2) (g := (mkF m 13 #[oR r0, oI 0, oI 2, oI 0, oI 0, oU] [])) rfl (hb hby d8_13)
  obtain ⟨cl40, Ac40, Sc40, Hc40⟩ := own_tabat (t_tab hS) hd0
  obtain ⟨T41, X41, e41, st41⟩ := getS2 X39 hx hZ hown (host := "") (Or.inl (wi hw 26 rfl)) Via.refl e39 ((s_a_VALUES hS).ext O0.2) (g := (mkF m 13 #[oR r0, oI 0, oI 2, oI (((0 : Int32) <<< ((6 : Int32) &&& 31)) ||| d0), oI 1, oI d0] [])) rfl (hb hby d8_13)
  obtain ⟨cl42, Ac42, Sc42, Hc42⟩ := own_tabat (t_tab hS) hd1
  obtain ⟨fs, hr, hrun, hended, hW, hsame⟩ := X41.leave (v := some (.int (((((0 : Int32) <<< ((6 : Int32) &&& 31)) ||| d0) <<< ((6 : Int32) &&& 31)) ||| d1))) (fun h => by rw [Bd.returns] at h; cases h)
  refine ⟨_, _, pre0 _ ?_, hrun, hended, _, _, rfl, ?_, ⟨_, rfl⟩, hW, hsame.mono (by decide) (by decide)⟩
  · show oP p e below s₁ (mkF m 0 #[oR r0, oI 0, oI 2, oU, oU, oU] []) _
    refine XS.iconst X0.here hx rfl (hb hby d8_0) ?_
    refine XS.istoreN X0.here hx rfl (hb hby d8_1) rfl (l' := #[oR r0, oI 0, oI 2, oI 0, oU, oU]) rfl ?_
    show oP p e below s₁ (mkF m 2 #[oR r0, oI 0, oI 2, oI 0, oU, oU] []) _
    refine XS.iloadN X0.here hx rfl (hb hby d8_2) rfl ?_
    refine XS.istore X0.here hx rfl (hb hby d8_3) rfl (l' := #[oR r0, oI 0, oI 2, oI 0, oI 0, oU]) rfl ?_
    show oP p e below s₁ (mkF m 5 #[oR r0, oI 0, oI 2, oI 0, oI 0, oU] []) _
    refine XS.iload X0.here hx rfl (hb hby d8_5) rfl ?_
    show oP p e below s₁ (mkF m 7 #[oR r0, oI 0, oI 2, oI 0, oI 0, oU] [(.int 0)]) _
    refine XS.iloadN X0.here hx rfl (hb hby d8_7) rfl ?_
    refine XS.iloadN X0.here hx rfl (hb hby d8_8) rfl ?_
    refine XS.iadd X0.here hx rfl (hb hby d8_9) rfl ?_
    show oP p e below s₁ (mkF m 10 #[oR r0, oI 0, oI 2, oI 0, oI 0, oU] [(.int 2), (.int 0)]) _
    refine XS.icmpNo X0.here hx rfl (hb hby d8_10) rfl (tlt (by decide : (0 : Int32) < (2 : Int32))).2.1 ?_
    show oP p e below s₁ (mkF m 13 #[oR r0, oI 0, oI 2, oI 0, oI 0, oU] []) _
    refine st39 _ ?_
    show oP p e below T39 (mkF m 16 #[oR r0, oI 0, oI 2, oI 0, oI 0, oU] [(.ref (a_VALUES Z))]) _
    refine XS.aloadN X39.here hx rfl (hb hby d8_16) rfl rfl ?_
    refine XS.iload X39.here hx rfl (hb hby d8_17) rfl ?_
    show oP p e below T39 (mkF m 19 #[oR r0, oI 0, oI 2, oI 0, oI 0, oU] [(.int 0), (.ref r0), (.ref (a_VALUES Z))]) _
    refine own_baload X39 hx hZ e39 V_r0 (j := (0 : Int32)) hb0 (v := (.int (chv d0))) hat0 (g := (mkF m 19 #[oR r0, oI 0, oI 2, oI 0, oI 0, oU] [(.int 0), (.ref r0), (.ref (a_VALUES Z))])) rfl rfl (hb hby d8_19) _ ?_
    show oP p e below T39 (mkF m 20 #[oR r0, oI 0, oI 2, oI 0, oI 0, oU] [(.int (chv d0)), (.ref (a_VALUES Z))]) _
    refine XS.sipush X39.here hx rfl (hb hby d8_20) ?_
    show oP p e below T39 (mkF m 23 #[oR r0, oI 0, oI 2, oI 0, oI 0, oU] [(.int 255), (.int (chv d0)), (.ref (a_VALUES Z))]) _
    refine XS.iand X39.here hx rfl (hb hby d8_23) rfl ?_
    show oP p e below T39 (mkF m 24 #[oR r0, oI 0, oI 2, oI 0, oI 0, oU] [(.int ((chv d0) &&& (255 : Int32))), (.ref (a_VALUES Z))]) _
    refine X39.iaload hx (by rw [e39]; exact (Ac40.ext O0.2).1) (State.isArrayOf_alike hZ.alike Ac40.2.1) Ac40.2.2 Sc40 Hc40 (g := (mkF m 24 #[oR r0, oI 0, oI 2, oI 0, oI 0, oU] [(.int ((chv d0) &&& (255 : Int32))), (.ref (a_VALUES Z))])) rfl rfl (hb hby d8_24) _ ?_
    show oP p e below T39 (mkF m 25 #[oR r0, oI 0, oI 2, oI 0, oI 0, oU] [(.int d0)]) _
    refine XS.istore X39.here hx rfl (hb hby d8_25) rfl (l' := #[oR r0, oI 0, oI 2, oI 0, oI 0, oI d0]) rfl ?_
    show oP p e below T39 (mkF m 27 #[oR r0, oI 0, oI 2, oI 0, oI 0, oI d0] []) _
    refine XS.iload X39.here hx rfl (hb hby d8_27) rfl ?_
    show oP p e below T39 (mkF m 29 #[oR r0, oI 0, oI 2, oI 0, oI 0, oI d0] [(.int d0)]) _
    refine XS.ifYes X39.here hx rfl (pc0 := 29) (pc' := 47) rfl (hb hby d8_29) rfl ((if0 _ _).trans (flt (dg_nn hd0)).2.1) (by decide) (by decide) ?_
    show oP p e below T39 (mkF m 47 #[oR r0, oI 0, oI 2, oI 0, oI 0, oI d0] []) _
    refine XS.iloadN X39.here hx rfl (hb hby d8_47) rfl ?_
    refine XS.bipush X39.here hx rfl (hb hby d8_48) ?_
    refine XS.ishl X39.here hx rfl (hb hby d8_50) rfl ?_
    show oP p e below T39 (mkF m 51 #[oR r0, oI 0, oI 2, oI 0, oI 0, oI d0] [(.int ((0 : Int32) <<< ((6 : Int32) &&& 31)))]) _
    refine XS.iload X39.here hx rfl (hb hby d8_51) rfl ?_
    show oP p e below T39 (mkF m 53 #[oR r0, oI 0, oI 2, oI 0, oI 0, oI d0] [(.int d0), (.int ((0 : Int32) <<< ((6 : Int32) &&& 31)))]) _
    refine XS.ior X39.here hx rfl (hb hby d8_53) rfl ?_
    show oP p e below T39 (mkF m 54 #[oR r0, oI 0, oI 2, oI 0, oI 0, oI d0] [(.int (((0 : Int32) <<< ((6 : Int32) &&& 31)) ||| d0))]) _
    refine XS.istoreN X39.here hx rfl (hb hby d8_54) rfl (l' := #[oR r0, oI 0, oI 2, oI (((0 : Int32) <<< ((6 : Int32) &&& 31)) ||| d0), oI 0, oI d0]) rfl ?_
    show oP p e below T39 (mkF m 55 #[oR r0, oI 0, oI 2, oI (((0 : Int32) <<< ((6 : Int32) &&& 31)) ||| d0), oI 0, oI d0] []) _
    refine XS.iinc X39.here hx rfl (hb hby d8_55) rfl (l' := #[oR r0, oI 0, oI 2, oI (((0 : Int32) <<< ((6 : Int32) &&& 31)) ||| d0), oI 1, oI d0]) rfl ?_
    show oP p e below T39 (mkF m 58 #[oR r0, oI 0, oI 2, oI (((0 : Int32) <<< ((6 : Int32) &&& 31)) ||| d0), oI 1, oI d0] []) _
    refine XS.goto X39.here hx rfl (pc0 := 58) (pc' := 5) rfl (hb hby d8_58) (by decide) (by decide) ?_
    show oP p e below T39 (mkF m 5 #[oR r0, oI 0, oI 2, oI (((0 : Int32) <<< ((6 : Int32) &&& 31)) ||| d0), oI 1, oI d0] []) _
    refine XS.iload X39.here hx rfl (hb hby d8_5) rfl ?_
    show oP p e below T39 (mkF m 7 #[oR r0, oI 0, oI 2, oI (((0 : Int32) <<< ((6 : Int32) &&& 31)) ||| d0), oI 1, oI d0] [(.int 1)]) _
    refine XS.iloadN X39.here hx rfl (hb hby d8_7) rfl ?_
    refine XS.iloadN X39.here hx rfl (hb hby d8_8) rfl ?_
    refine XS.iadd X39.here hx rfl (hb hby d8_9) rfl ?_
    show oP p e below T39 (mkF m 10 #[oR r0, oI 0, oI 2, oI (((0 : Int32) <<< ((6 : Int32) &&& 31)) ||| d0), oI 1, oI d0] [(.int 2), (.int 1)]) _
    refine XS.icmpNo X39.here hx rfl (hb hby d8_10) rfl (tlt (by decide : (1 : Int32) < (2 : Int32))).2.1 ?_
    show oP p e below T39 (mkF m 13 #[oR r0, oI 0, oI 2, oI (((0 : Int32) <<< ((6 : Int32) &&& 31)) ||| d0), oI 1, oI d0] []) _
    refine st41 _ ?_
    show oP p e below T41 (mkF m 16 #[oR r0, oI 0, oI 2, oI (((0 : Int32) <<< ((6 : Int32) &&& 31)) ||| d0), oI 1, oI d0] [(.ref (a_VALUES Z))]) _
    refine XS.aloadN X41.here hx rfl (hb hby d8_16) rfl rfl ?_
    refine XS.iload X41.here hx rfl (hb hby d8_17) rfl ?_
    show oP p e below T41 (mkF m 19 #[oR r0, oI 0, oI 2, oI (((0 : Int32) <<< ((6 : Int32) &&& 31)) ||| d0), oI 1, oI d0] [(.int 1), (.ref r0), (.ref (a_VALUES Z))]) _
    refine own_baload X41 hx hZ e41 V_r0 (j := (1 : Int32)) hb1 (v := (.int (chv d1))) hat1 (g := (mkF m 19 #[oR r0, oI 0, oI 2, oI (((0 : Int32) <<< ((6 : Int32) &&& 31)) ||| d0), oI 1, oI d0] [(.int 1), (.ref r0), (.ref (a_VALUES Z))])) rfl rfl (hb hby d8_19) _ ?_
    show oP p e below T41 (mkF m 20 #[oR r0, oI 0, oI 2, oI (((0 : Int32) <<< ((6 : Int32) &&& 31)) ||| d0), oI 1, oI d0] [(.int (chv d1)), (.ref (a_VALUES Z))]) _
    refine XS.sipush X41.here hx rfl (hb hby d8_20) ?_
    show oP p e below T41 (mkF m 23 #[oR r0, oI 0, oI 2, oI (((0 : Int32) <<< ((6 : Int32) &&& 31)) ||| d0), oI 1, oI d0] [(.int 255), (.int (chv d1)), (.ref (a_VALUES Z))]) _
    refine XS.iand X41.here hx rfl (hb hby d8_23) rfl ?_
    show oP p e below T41 (mkF m 24 #[oR r0, oI 0, oI 2, oI (((0 : Int32) <<< ((6 : Int32) &&& 31)) ||| d0), oI 1, oI d0] [(.int ((chv d1) &&& (255 : Int32))), (.ref (a_VALUES Z))]) _
    refine X41.iaload hx (by rw [e41]; exact (Ac42.ext O0.2).1) (State.isArrayOf_alike hZ.alike Ac42.2.1) Ac42.2.2 Sc42 Hc42 (g := (mkF m 24 #[oR r0, oI 0, oI 2, oI (((0 : Int32) <<< ((6 : Int32) &&& 31)) ||| d0), oI 1, oI d0] [(.int ((chv d1) &&& (255 : Int32))), (.ref (a_VALUES Z))])) rfl rfl (hb hby d8_24) _ ?_
    show oP p e below T41 (mkF m 25 #[oR r0, oI 0, oI 2, oI (((0 : Int32) <<< ((6 : Int32) &&& 31)) ||| d0), oI 1, oI d0] [(.int d1)]) _
    refine XS.istore X41.here hx rfl (hb hby d8_25) rfl (l' := #[oR r0, oI 0, oI 2, oI (((0 : Int32) <<< ((6 : Int32) &&& 31)) ||| d0), oI 1, oI d1]) rfl ?_
    show oP p e below T41 (mkF m 27 #[oR r0, oI 0, oI 2, oI (((0 : Int32) <<< ((6 : Int32) &&& 31)) ||| d0), oI 1, oI d1] []) _
    refine XS.iload X41.here hx rfl (hb hby d8_27) rfl ?_
    show oP p e below T41 (mkF m 29 #[oR r0, oI 0, oI 2, oI (((0 : Int32) <<< ((6 : Int32) &&& 31)) ||| d0), oI 1, oI d1] [(.int d1)]) _
    refine XS.ifYes X41.here hx rfl (pc0 := 29) (pc' := 47) rfl (hb hby d8_29) rfl ((if0 _ _).trans (flt (dg_nn hd1)).2.1) (by decide) (by decide) ?_
    show oP p e below T41 (mkF m 47 #[oR r0, oI 0, oI 2, oI (((0 : Int32) <<< ((6 : Int32) &&& 31)) ||| d0), oI 1, oI d1] []) _
    refine XS.iloadN X41.here hx rfl (hb hby d8_47) rfl ?_
    refine XS.bipush X41.here hx rfl (hb hby d8_48) ?_
    refine XS.ishl X41.here hx rfl (hb hby d8_50) rfl ?_
    show oP p e below T41 (mkF m 51 #[oR r0, oI 0, oI 2, oI (((0 : Int32) <<< ((6 : Int32) &&& 31)) ||| d0), oI 1, oI d1] [(.int ((((0 : Int32) <<< ((6 : Int32) &&& 31)) ||| d0) <<< ((6 : Int32) &&& 31)))]) _
    refine XS.iload X41.here hx rfl (hb hby d8_51) rfl ?_
    show oP p e below T41 (mkF m 53 #[oR r0, oI 0, oI 2, oI (((0 : Int32) <<< ((6 : Int32) &&& 31)) ||| d0), oI 1, oI d1] [(.int d1), (.int ((((0 : Int32) <<< ((6 : Int32) &&& 31)) ||| d0) <<< ((6 : Int32) &&& 31)))]) _
    refine XS.ior X41.here hx rfl (hb hby d8_53) rfl ?_
    show oP p e below T41 (mkF m 54 #[oR r0, oI 0, oI 2, oI (((0 : Int32) <<< ((6 : Int32) &&& 31)) ||| d0), oI 1, oI d1] [(.int (((((0 : Int32) <<< ((6 : Int32) &&& 31)) ||| d0) <<< ((6 : Int32) &&& 31)) ||| d1))]) _
    refine XS.istoreN X41.here hx rfl (hb hby d8_54) rfl (l' := #[oR r0, oI 0, oI 2, oI (((((0 : Int32) <<< ((6 : Int32) &&& 31)) ||| d0) <<< ((6 : Int32) &&& 31)) ||| d1), oI 1, oI d1]) rfl ?_
    show oP p e below T41 (mkF m 55 #[oR r0, oI 0, oI 2, oI (((((0 : Int32) <<< ((6 : Int32) &&& 31)) ||| d0) <<< ((6 : Int32) &&& 31)) ||| d1), oI 1, oI d1] []) _
    refine XS.iinc X41.here hx rfl (hb hby d8_55) rfl (l' := #[oR r0, oI 0, oI 2, oI (((((0 : Int32) <<< ((6 : Int32) &&& 31)) ||| d0) <<< ((6 : Int32) &&& 31)) ||| d1), oI 2, oI d1]) rfl ?_
    show oP p e below T41 (mkF m 58 #[oR r0, oI 0, oI 2, oI (((((0 : Int32) <<< ((6 : Int32) &&& 31)) ||| d0) <<< ((6 : Int32) &&& 31)) ||| d1), oI 2, oI d1] []) _
    refine XS.goto X41.here hx rfl (pc0 := 58) (pc' := 5) rfl (hb hby d8_58) (by decide) (by decide) ?_
    show oP p e below T41 (mkF m 5 #[oR r0, oI 0, oI 2, oI (((((0 : Int32) <<< ((6 : Int32) &&& 31)) ||| d0) <<< ((6 : Int32) &&& 31)) ||| d1), oI 2, oI d1] []) _
    refine XS.iload X41.here hx rfl (hb hby d8_5) rfl ?_
    show oP p e below T41 (mkF m 7 #[oR r0, oI 0, oI 2, oI (((((0 : Int32) <<< ((6 : Int32) &&& 31)) ||| d0) <<< ((6 : Int32) &&& 31)) ||| d1), oI 2, oI d1] [(.int 2)]) _
    refine XS.iloadN X41.here hx rfl (hb hby d8_7) rfl ?_
    refine XS.iloadN X41.here hx rfl (hb hby d8_8) rfl ?_
    refine XS.iadd X41.here hx rfl (hb hby d8_9) rfl ?_
    show oP p e below T41 (mkF m 10 #[oR r0, oI 0, oI 2, oI (((((0 : Int32) <<< ((6 : Int32) &&& 31)) ||| d0) <<< ((6 : Int32) &&& 31)) ||| d1), oI 2, oI d1] [(.int 2), (.int 2)]) _
    refine XS.icmpYes X41.here hx rfl (pc0 := 10) (pc' := 61) rfl (hb hby d8_10) rfl (flt (by decide : ¬ ((2 : Int32) < (2 : Int32)))).2.1 (by decide) (by decide) ?_
    show oP p e below T41 (mkF m 61 #[oR r0, oI 0, oI 2, oI (((((0 : Int32) <<< ((6 : Int32) &&& 31)) ||| d0) <<< ((6 : Int32) &&& 31)) ||| d1), oI 2, oI d1] []) _
    refine XS.iloadN X41.here hx rfl (hb hby d8_61) rfl ?_
    show oP p e below T41 (mkF m 62 #[oR r0, oI 0, oI 2, oI (((((0 : Int32) <<< ((6 : Int32) &&& 31)) ||| d0) <<< ((6 : Int32) &&& 31)) ||| d1), oI 2, oI d1] [(.int (((((0 : Int32) <<< ((6 : Int32) &&& 31)) ||| d0) <<< ((6 : Int32) &&& 31)) ||| d1))]) _
    exact retI X41 hx Bd.returns (hb hby d8_62) hr
  · show (some (.int (((((0 : Int32) <<< ((6 : Int32) &&& 31)) ||| d0) <<< ((6 : Int32) &&& 31)) ||| d1)) : Option Value) = some (.int (fn8b0_2 Z r0 k z vs d0 d1)) ∧ Fr n0 _ ∧ Keep h0 T41.heap []
    rw [e41]
    refine ⟨?_, N0, (Keep.refl h0 [])⟩
    rfl
def fn8b0_3 (Z : State) (r0 : Addr) (k : ClassId) (z : Int32) (vs : List Value) (d0 : Int32) (d1 : Int32) (d2 : Int32) : Int32 :=
  (((((((0 : Int32) <<< ((6 : Int32) &&& 31)) ||| d0) <<< ((6 : Int32) &&& 31)) ||| d1) <<< ((6 : Int32) &&& 31)) ||| d2)
theorem ef_8b0_3 (m : MethodId) (x0 : Addr) (x1 : Int32) (x2 : Int32) : entryFrame m #[(.ref x0), (.int x1), (.int x2)] 6 = mkF m 0 #[.val (.ref x0), .val (.int x1), .val (.int x2), .unset, .unset, .unset] [] := by first | (simp [entryFrame, mkF, argsToLocals, Value.category]; done) | rfl
set_option maxRecDepth 65536 in
set_option maxHeartbeats 40000000 in
theorem rm8b0_3 (l : Launch) (Z : State) (a0 : Array Value) (hw : ∀ d ∈ tables_1, d.before a0 Z = true) (hS : St Z) (ws : List Jvm.Cond) (r0 : Addr) (k : ClassId) (z : Int32) (vs : List Value) (d0 : Int32) (d1 : Int32) (d2 : Int32) (h0 : Heap) (n0 : Nat) (O0 : Old Z n0 h0) (V_r0 : Arv Z h0 r0 k .byte z vs (.int 0)) (hd0 : Dg d0) (hd1 : Dg d1) (hd2 : Dg d2) (hat0 : vs.getD ((0 : Int32)).toNatClampNeg (.int 0) = .int (chv d0)) (hat1 : vs.getD ((1 : Int32)).toNatClampNeg (.int 0) = .int (chv d1)) (hat2 : vs.getD ((2 : Int32)).toNatClampNeg (.int 0) = .int (chv d2)) (hb0 : ¬ (0 : Int32) < 0 ∧ (0 : Int32) < z) (hb1 : ¬ (1 : Int32) < 0 ∧ (1 : Int32) < z) (hb2 : ¬ (2 : Int32) < 0 ∧ (2 : Int32) < z) :
    MetFree l (⟨"com/example/meerkat/meerkat/Base64Codec", "bitsOf", "([BII)I"⟩ : MethodName) (head1 (Jvm.Cond.code (⟨"com/example/meerkat/meerkat/Base64Codec", "bitsOf", "([BII)I"⟩ : MethodName) prog_8_method_4_code 6 (some .int) :: ws) ({ frames := 0, cells := 0, slots := 0, locals := 0 } : Room)) (fun a U => a = #[(.ref r0), (.int 0), (.int 3)] ∧ Z.Warmed39 U.vm ∧ U.heap = h0) (fun _ _ _ _ _ => True) (fun _ U o U' => ∃ v L, o = .returned v ∧ own_Q (fun v hE L => v = some (.int (fn8b0_3 Z r0 k z vs d0 d1 d2)) ∧ Fr n0 L ∧ Keep h0 hE []) v U'.heap L ∧ FrameEnd U o U' L ({ frames := 0, cells := 0, slots := 0, locals := 0 } : Room).cells ({ frames := 0, cells := 0, slots := 0, locals := 0 } : Room).slots) := by
  refine MetFree.of_bodySF (plainFor_of_name pn_1) hisR ?_
  intro p e s m args below meth c s₁ Bd hml0 hP hK
  obtain ⟨rfl, hZ, hh⟩ := hP
  have hx := Bd.exec
  have hby := Bd.bytes
  have hml : c.maxLocals = 6 := hml0
  have hown : s.vm.findClass "com/example/meerkat/meerkat/Base64Codec" = some m.cls := findClass_of_methodNamed Bd.named
  have hnm := (name_of_methodNamed Bd.named Bd.method).1
  have X0 : Stand p l e ({ frames := 0, cells := 0, slots := 0, locals := 0 } : Room) s m #[(.ref r0), (.int 0), (.int 3)] below meth c s₁ [] 0 0 := Stand.of_body Bd
  have e0 : s₁.heap = h0 := by rw [← hh, Bd.state]; rfl
  have N0 := Fr.nil n0
  have pre0 : ∀ t, Steps p.tables e below (s₁.setTop (mkF m 0 #[oR r0, oI 0, oI 3, oU, oU, oU] [])) t → Steps p.tables e below (s₁.setTop (entryFrame m #[(.ref r0), (.int 0), (.int 3)] 6)) t := fun t k => castTop (ef_8b0_3 m r0 (0 : Int32) (3 : Int32)) k
  obtain ⟨T43, X43, e43, st43⟩ := getS2 X0 hx hZ hown (host := "") (Or.inl (wi hw 26 rfl)) Via.refl e0 ((s_a_VALUES hS).ext O0.2) (g := (mkF m 13 #[oR r0, oI 0, oI 3, oI 0, oI 0, oU] [])) rfl (hb hby d8_13)
  obtain ⟨cl44, Ac44, Sc44, Hc44⟩ := own_tabat (t_tab hS) hd0
  obtain ⟨T45, X45, e45, st45⟩ := getS2 X43 hx hZ hown (host := "") (Or.inl (wi hw 26 rfl)) Via.refl e43 ((s_a_VALUES hS).ext O0.2) (g := (mkF m 13 #[oR r0, oI 0, oI 3, oI (((0 : Int32) <<< ((6 : Int32) &&& 31)) ||| d0), oI 1, oI d0] [])) rfl (hb hby d8_13)
  obtain ⟨cl46, Ac46, Sc46, Hc46⟩ := own_tabat (t_tab hS) hd1
  obtain ⟨T47, X47, e47, st47⟩ := getS2 X45 hx hZ hown (host := "") (Or.inl (wi hw 26 rfl)) Via.refl e45 ((s_a_VALUES hS).ext O0.2) (g := (mkF m 13 #[oR r0, oI 0, oI 3, oI (((((0 : Int32) <<< ((6 : Int32) &&& 31)) ||| d0) <<< ((6 : Int32) &&& 31)) ||| d1), oI 2, oI d1] [])) rfl (hb hby d8_13)
  obtain ⟨cl48, Ac48, Sc48, Hc48⟩ := own_tabat (t_tab hS) hd2
  obtain ⟨fs, hr, hrun, hended, hW, hsame⟩ := X47.leave (v := some (.int (((((((0 : Int32) <<< ((6 : Int32) &&& 31)) ||| d0) <<< ((6 : Int32) &&& 31)) ||| d1) <<< ((6 : Int32) &&& 31)) ||| d2))) (fun h => by rw [Bd.returns] at h; cases h)
  refine ⟨_, _, pre0 _ ?_, hrun, hended, _, _, rfl, ?_, ⟨_, rfl⟩, hW, hsame.mono (by decide) (by decide)⟩
  · show oP p e below s₁ (mkF m 0 #[oR r0, oI 0, oI 3, oU, oU, oU] []) _
    refine XS.iconst X0.here hx rfl (hb hby d8_0) ?_
    refine XS.istoreN X0.here hx rfl (hb hby d8_1) rfl (l' := #[oR r0, oI 0, oI 3, oI 0, oU, oU]) rfl ?_
    show oP p e below s₁ (mkF m 2 #[oR r0, oI 0, oI 3, oI 0, oU, oU] []) _
    refine XS.iloadN X0.here hx rfl (hb hby d8_2) rfl ?_
    refine XS.istore X0.here hx rfl (hb hby d8_3) rfl (l' := #[oR r0, oI 0, oI 3, oI 0, oI 0, oU]) rfl ?_
    show oP p e below s₁ (mkF m 5 #[oR r0, oI 0, oI 3, oI 0, oI 0, oU] []) _
    refine XS.iload X0.here hx rfl (hb hby d8_5) rfl ?_
    show oP p e below s₁ (mkF m 7 #[oR r0, oI 0, oI 3, oI 0, oI 0, oU] [(.int 0)]) _
    refine XS.iloadN X0.here hx rfl (hb hby d8_7) rfl ?_
    refine XS.iloadN X0.here hx rfl (hb hby d8_8) rfl ?_
    refine XS.iadd X0.here hx rfl (hb hby d8_9) rfl ?_
    show oP p e below s₁ (mkF m 10 #[oR r0, oI 0, oI 3, oI 0, oI 0, oU] [(.int 3), (.int 0)]) _
    refine XS.icmpNo X0.here hx rfl (hb hby d8_10) rfl (tlt (by decide : (0 : Int32) < (3 : Int32))).2.1 ?_
    show oP p e below s₁ (mkF m 13 #[oR r0, oI 0, oI 3, oI 0, oI 0, oU] []) _
    refine st43 _ ?_
    show oP p e below T43 (mkF m 16 #[oR r0, oI 0, oI 3, oI 0, oI 0, oU] [(.ref (a_VALUES Z))]) _
    refine XS.aloadN X43.here hx rfl (hb hby d8_16) rfl rfl ?_
    refine XS.iload X43.here hx rfl (hb hby d8_17) rfl ?_
    show oP p e below T43 (mkF m 19 #[oR r0, oI 0, oI 3, oI 0, oI 0, oU] [(.int 0), (.ref r0), (.ref (a_VALUES Z))]) _
    refine own_baload X43 hx hZ e43 V_r0 (j := (0 : Int32)) hb0 (v := (.int (chv d0))) hat0 (g := (mkF m 19 #[oR r0, oI 0, oI 3, oI 0, oI 0, oU] [(.int 0), (.ref r0), (.ref (a_VALUES Z))])) rfl rfl (hb hby d8_19) _ ?_
    show oP p e below T43 (mkF m 20 #[oR r0, oI 0, oI 3, oI 0, oI 0, oU] [(.int (chv d0)), (.ref (a_VALUES Z))]) _
    refine XS.sipush X43.here hx rfl (hb hby d8_20) ?_
    show oP p e below T43 (mkF m 23 #[oR r0, oI 0, oI 3, oI 0, oI 0, oU] [(.int 255), (.int (chv d0)), (.ref (a_VALUES Z))]) _
    refine XS.iand X43.here hx rfl (hb hby d8_23) rfl ?_
    show oP p e below T43 (mkF m 24 #[oR r0, oI 0, oI 3, oI 0, oI 0, oU] [(.int ((chv d0) &&& (255 : Int32))), (.ref (a_VALUES Z))]) _
    refine X43.iaload hx (by rw [e43]; exact (Ac44.ext O0.2).1) (State.isArrayOf_alike hZ.alike Ac44.2.1) Ac44.2.2 Sc44 Hc44 (g := (mkF m 24 #[oR r0, oI 0, oI 3, oI 0, oI 0, oU] [(.int ((chv d0) &&& (255 : Int32))), (.ref (a_VALUES Z))])) rfl rfl (hb hby d8_24) _ ?_
    show oP p e below T43 (mkF m 25 #[oR r0, oI 0, oI 3, oI 0, oI 0, oU] [(.int d0)]) _
    refine XS.istore X43.here hx rfl (hb hby d8_25) rfl (l' := #[oR r0, oI 0, oI 3, oI 0, oI 0, oI d0]) rfl ?_
    show oP p e below T43 (mkF m 27 #[oR r0, oI 0, oI 3, oI 0, oI 0, oI d0] []) _
    refine XS.iload X43.here hx rfl (hb hby d8_27) rfl ?_
    show oP p e below T43 (mkF m 29 #[oR r0, oI 0, oI 3, oI 0, oI 0, oI d0] [(.int d0)]) _
    refine XS.ifYes X43.here hx rfl (pc0 := 29) (pc' := 47) rfl (hb hby d8_29) rfl ((if0 _ _).trans (flt (dg_nn hd0)).2.1) (by decide) (by decide) ?_
    show oP p e below T43 (mkF m 47 #[oR r0, oI 0, oI 3, oI 0, oI 0, oI d0] []) _
    refine XS.iloadN X43.here hx rfl (hb hby d8_47) rfl ?_
    refine XS.bipush X43.here hx rfl (hb hby d8_48) ?_
    refine XS.ishl X43.here hx rfl (hb hby d8_50) rfl ?_
    show oP p e below T43 (mkF m 51 #[oR r0, oI 0, oI 3, oI 0, oI 0, oI d0] [(.int ((0 : Int32) <<< ((6 : Int32) &&& 31)))]) _
    refine XS.iload X43.here hx rfl (hb hby d8_51) rfl ?_
    show oP p e below T43 (mkF m 53 #[oR r0, oI 0, oI 3, oI 0, oI 0, oI d0] [(.int d0), (.int ((0 : Int32) <<< ((6 : Int32) &&& 31)))]) _
    refine XS.ior X43.here hx rfl (hb hby d8_53) rfl ?_
    show oP p e below T43 (mkF m 54 #[oR r0, oI 0, oI 3, oI 0, oI 0, oI d0] [(.int (((0 : Int32) <<< ((6 : Int32) &&& 31)) ||| d0))]) _
    refine XS.istoreN X43.here hx rfl (hb hby d8_54) rfl (l' := #[oR r0, oI 0, oI 3, oI (((0 : Int32) <<< ((6 : Int32) &&& 31)) ||| d0), oI 0, oI d0]) rfl ?_
    show oP p e below T43 (mkF m 55 #[oR r0, oI 0, oI 3, oI (((0 : Int32) <<< ((6 : Int32) &&& 31)) ||| d0), oI 0, oI d0] []) _
    refine XS.iinc X43.here hx rfl (hb hby d8_55) rfl (l' := #[oR r0, oI 0, oI 3, oI (((0 : Int32) <<< ((6 : Int32) &&& 31)) ||| d0), oI 1, oI d0]) rfl ?_
    show oP p e below T43 (mkF m 58 #[oR r0, oI 0, oI 3, oI (((0 : Int32) <<< ((6 : Int32) &&& 31)) ||| d0), oI 1, oI d0] []) _
    refine XS.goto X43.here hx rfl (pc0 := 58) (pc' := 5) rfl (hb hby d8_58) (by decide) (by decide) ?_
    show oP p e below T43 (mkF m 5 #[oR r0, oI 0, oI 3, oI (((0 : Int32) <<< ((6 : Int32) &&& 31)) ||| d0), oI 1, oI d0] []) _
    refine XS.iload X43.here hx rfl (hb hby d8_5) rfl ?_
    show oP p e below T43 (mkF m 7 #[oR r0, oI 0, oI 3, oI (((0 : Int32) <<< ((6 : Int32) &&& 31)) ||| d0), oI 1, oI d0] [(.int 1)]) _
    refine XS.iloadN X43.here hx rfl (hb hby d8_7) rfl ?_
    refine XS.iloadN X43.here hx rfl (hb hby d8_8) rfl ?_
    refine XS.iadd X43.here hx rfl (hb hby d8_9) rfl ?_
    show oP p e below T43 (mkF m 10 #[oR r0, oI 0, oI 3, oI (((0 : Int32) <<< ((6 : Int32) &&& 31)) ||| d0), oI 1, oI d0] [(.int 3), (.int 1)]) _
    refine XS.icmpNo X43.here hx rfl (hb hby d8_10) rfl (tlt (by decide : (1 : Int32) < (3 : Int32))).2.1 ?_
    show oP p e below T43 (mkF m 13 #[oR r0, oI 0, oI 3, oI (((0 : Int32) <<< ((6 : Int32) &&& 31)) ||| d0), oI 1, oI d0] []) _
    refine st45 _ ?_
    show oP p e below T45 (mkF m 16 #[oR r0, oI 0, oI 3, oI (((0 : Int32) <<< ((6 : Int32) &&& 31)) ||| d0), oI 1, oI d0] [(.ref (a_VALUES Z))]) _
    refine XS.aloadN X45.here hx rfl (hb hby d8_16) rfl rfl ?_
    refine XS.iload X45.here hx rfl (hb hby d8_17) rfl ?_
    show oP p e below T45 (mkF m 19 #[oR r0, oI 0, oI 3, oI (((0 : Int32) <<< ((6 : Int32) &&& 31)) ||| d0), oI 1, oI d0] [(.int 1), (.ref r0), (.ref (a_VALUES Z))]) _
    refine own_baload X45 hx hZ e45 V_r0 (j := (1 : Int32)) hb1 (v := (.int (chv d1))) hat1 (g := (mkF m 19 #[oR r0, oI 0, oI 3, oI (((0 : Int32) <<< ((6 : Int32) &&& 31)) ||| d0), oI 1, oI d0] [(.int 1), (.ref r0), (.ref (a_VALUES Z))])) rfl rfl (hb hby d8_19) _ ?_
    show oP p e below T45 (mkF m 20 #[oR r0, oI 0, oI 3, oI (((0 : Int32) <<< ((6 : Int32) &&& 31)) ||| d0), oI 1, oI d0] [(.int (chv d1)), (.ref (a_VALUES Z))]) _
    refine XS.sipush X45.here hx rfl (hb hby d8_20) ?_
    show oP p e below T45 (mkF m 23 #[oR r0, oI 0, oI 3, oI (((0 : Int32) <<< ((6 : Int32) &&& 31)) ||| d0), oI 1, oI d0] [(.int 255), (.int (chv d1)), (.ref (a_VALUES Z))]) _
    refine XS.iand X45.here hx rfl (hb hby d8_23) rfl ?_
    show oP p e below T45 (mkF m 24 #[oR r0, oI 0, oI 3, oI (((0 : Int32) <<< ((6 : Int32) &&& 31)) ||| d0), oI 1, oI d0] [(.int ((chv d1) &&& (255 : Int32))), (.ref (a_VALUES Z))]) _
    refine X45.iaload hx (by rw [e45]; exact (Ac46.ext O0.2).1) (State.isArrayOf_alike hZ.alike Ac46.2.1) Ac46.2.2 Sc46 Hc46 (g := (mkF m 24 #[oR r0, oI 0, oI 3, oI (((0 : Int32) <<< ((6 : Int32) &&& 31)) ||| d0), oI 1, oI d0] [(.int ((chv d1) &&& (255 : Int32))), (.ref (a_VALUES Z))])) rfl rfl (hb hby d8_24) _ ?_
    show oP p e below T45 (mkF m 25 #[oR r0, oI 0, oI 3, oI (((0 : Int32) <<< ((6 : Int32) &&& 31)) ||| d0), oI 1, oI d0] [(.int d1)]) _
    refine XS.istore X45.here hx rfl (hb hby d8_25) rfl (l' := #[oR r0, oI 0, oI 3, oI (((0 : Int32) <<< ((6 : Int32) &&& 31)) ||| d0), oI 1, oI d1]) rfl ?_
    show oP p e below T45 (mkF m 27 #[oR r0, oI 0, oI 3, oI (((0 : Int32) <<< ((6 : Int32) &&& 31)) ||| d0), oI 1, oI d1] []) _
    refine XS.iload X45.here hx rfl (hb hby d8_27) rfl ?_
    show oP p e below T45 (mkF m 29 #[oR r0, oI 0, oI 3, oI (((0 : Int32) <<< ((6 : Int32) &&& 31)) ||| d0), oI 1, oI d1] [(.int d1)]) _
    refine XS.ifYes X45.here hx rfl (pc0 := 29) (pc' := 47) rfl (hb hby d8_29) rfl ((if0 _ _).trans (flt (dg_nn hd1)).2.1) (by decide) (by decide) ?_
    show oP p e below T45 (mkF m 47 #[oR r0, oI 0, oI 3, oI (((0 : Int32) <<< ((6 : Int32) &&& 31)) ||| d0), oI 1, oI d1] []) _
    refine XS.iloadN X45.here hx rfl (hb hby d8_47) rfl ?_
    refine XS.bipush X45.here hx rfl (hb hby d8_48) ?_
    refine XS.ishl X45.here hx rfl (hb hby d8_50) rfl ?_
    show oP p e below T45 (mkF m 51 #[oR r0, oI 0, oI 3, oI (((0 : Int32) <<< ((6 : Int32) &&& 31)) ||| d0), oI 1, oI d1] [(.int ((((0 : Int32) <<< ((6 : Int32) &&& 31)) ||| d0) <<< ((6 : Int32) &&& 31)))]) _
    refine XS.iload X45.here hx rfl (hb hby d8_51) rfl ?_
    show oP p e below T45 (mkF m 53 #[oR r0, oI 0, oI 3, oI (((0 : Int32) <<< ((6 : Int32) &&& 31)) ||| d0), oI 1, oI d1] [(.int d1), (.int ((((0 : Int32) <<< ((6 : Int32) &&& 31)) ||| d0) <<< ((6 : Int32) &&& 31)))]) _
    refine XS.ior X45.here hx rfl (hb hby d8_53) rfl ?_
    show oP p e below T45 (mkF m 54 #[oR r0, oI 0, oI 3, oI (((0 : Int32) <<< ((6 : Int32) &&& 31)) ||| d0), oI 1, oI d1] [(.int (((((0 : Int32) <<< ((6 : Int32) &&& 31)) ||| d0) <<< ((6 : Int32) &&& 31)) ||| d1))]) _
    refine XS.istoreN X45.here hx rfl (hb hby d8_54) rfl (l' := #[oR r0, oI 0, oI 3, oI (((((0 : Int32) <<< ((6 : Int32) &&& 31)) ||| d0) <<< ((6 : Int32) &&& 31)) ||| d1), oI 1, oI d1]) rfl ?_
    show oP p e below T45 (mkF m 55 #[oR r0, oI 0, oI 3, oI (((((0 : Int32) <<< ((6 : Int32) &&& 31)) ||| d0) <<< ((6 : Int32) &&& 31)) ||| d1), oI 1, oI d1] []) _
    refine XS.iinc X45.here hx rfl (hb hby d8_55) rfl (l' := #[oR r0, oI 0, oI 3, oI (((((0 : Int32) <<< ((6 : Int32) &&& 31)) ||| d0) <<< ((6 : Int32) &&& 31)) ||| d1), oI 2, oI d1]) rfl ?_
    show oP p e below T45 (mkF m 58 #[oR r0, oI 0, oI 3, oI (((((0 : Int32) <<< ((6 : Int32) &&& 31)) ||| d0) <<< ((6 : Int32) &&& 31)) ||| d1), oI 2, oI d1] []) _
    refine XS.goto X45.here hx rfl (pc0 := 58) (pc' := 5) rfl (hb hby d8_58) (by decide) (by decide) ?_
    show oP p e below T45 (mkF m 5 #[oR r0, oI 0, oI 3, oI (((((0 : Int32) <<< ((6 : Int32) &&& 31)) ||| d0) <<< ((6 : Int32) &&& 31)) ||| d1), oI 2, oI d1] []) _
    refine XS.iload X45.here hx rfl (hb hby d8_5) rfl ?_
    show oP p e below T45 (mkF m 7 #[oR r0, oI 0, oI 3, oI (((((0 : Int32) <<< ((6 : Int32) &&& 31)) ||| d0) <<< ((6 : Int32) &&& 31)) ||| d1), oI 2, oI d1] [(.int 2)]) _
    refine XS.iloadN X45.here hx rfl (hb hby d8_7) rfl ?_
    refine XS.iloadN X45.here hx rfl (hb hby d8_8) rfl ?_
    refine XS.iadd X45.here hx rfl (hb hby d8_9) rfl ?_
    show oP p e below T45 (mkF m 10 #[oR r0, oI 0, oI 3, oI (((((0 : Int32) <<< ((6 : Int32) &&& 31)) ||| d0) <<< ((6 : Int32) &&& 31)) ||| d1), oI 2, oI d1] [(.int 3), (.int 2)]) _
    refine XS.icmpNo X45.here hx rfl (hb hby d8_10) rfl (tlt (by decide : (2 : Int32) < (3 : Int32))).2.1 ?_
    show oP p e below T45 (mkF m 13 #[oR r0, oI 0, oI 3, oI (((((0 : Int32) <<< ((6 : Int32) &&& 31)) ||| d0) <<< ((6 : Int32) &&& 31)) ||| d1), oI 2, oI d1] []) _
    refine st47 _ ?_
    show oP p e below T47 (mkF m 16 #[oR r0, oI 0, oI 3, oI (((((0 : Int32) <<< ((6 : Int32) &&& 31)) ||| d0) <<< ((6 : Int32) &&& 31)) ||| d1), oI 2, oI d1] [(.ref (a_VALUES Z))]) _
    refine XS.aloadN X47.here hx rfl (hb hby d8_16) rfl rfl ?_
    refine XS.iload X47.here hx rfl (hb hby d8_17) rfl ?_
    show oP p e below T47 (mkF m 19 #[oR r0, oI 0, oI 3, oI (((((0 : Int32) <<< ((6 : Int32) &&& 31)) ||| d0) <<< ((6 : Int32) &&& 31)) ||| d1), oI 2, oI d1] [(.int 2), (.ref r0), (.ref (a_VALUES Z))]) _
    refine own_baload X47 hx hZ e47 V_r0 (j := (2 : Int32)) hb2 (v := (.int (chv d2))) hat2 (g := (mkF m 19 #[oR r0, oI 0, oI 3, oI (((((0 : Int32) <<< ((6 : Int32) &&& 31)) ||| d0) <<< ((6 : Int32) &&& 31)) ||| d1), oI 2, oI d1] [(.int 2), (.ref r0), (.ref (a_VALUES Z))])) rfl rfl (hb hby d8_19) _ ?_
    show oP p e below T47 (mkF m 20 #[oR r0, oI 0, oI 3, oI (((((0 : Int32) <<< ((6 : Int32) &&& 31)) ||| d0) <<< ((6 : Int32) &&& 31)) ||| d1), oI 2, oI d1] [(.int (chv d2)), (.ref (a_VALUES Z))]) _
    refine XS.sipush X47.here hx rfl (hb hby d8_20) ?_
    show oP p e below T47 (mkF m 23 #[oR r0, oI 0, oI 3, oI (((((0 : Int32) <<< ((6 : Int32) &&& 31)) ||| d0) <<< ((6 : Int32) &&& 31)) ||| d1), oI 2, oI d1] [(.int 255), (.int (chv d2)), (.ref (a_VALUES Z))]) _
    refine XS.iand X47.here hx rfl (hb hby d8_23) rfl ?_
    show oP p e below T47 (mkF m 24 #[oR r0, oI 0, oI 3, oI (((((0 : Int32) <<< ((6 : Int32) &&& 31)) ||| d0) <<< ((6 : Int32) &&& 31)) ||| d1), oI 2, oI d1] [(.int ((chv d2) &&& (255 : Int32))), (.ref (a_VALUES Z))]) _
    refine X47.iaload hx (by rw [e47]; exact (Ac48.ext O0.2).1) (State.isArrayOf_alike hZ.alike Ac48.2.1) Ac48.2.2 Sc48 Hc48 (g := (mkF m 24 #[oR r0, oI 0, oI 3, oI (((((0 : Int32) <<< ((6 : Int32) &&& 31)) ||| d0) <<< ((6 : Int32) &&& 31)) ||| d1), oI 2, oI d1] [(.int ((chv d2) &&& (255 : Int32))), (.ref (a_VALUES Z))])) rfl rfl (hb hby d8_24) _ ?_
    show oP p e below T47 (mkF m 25 #[oR r0, oI 0, oI 3, oI (((((0 : Int32) <<< ((6 : Int32) &&& 31)) ||| d0) <<< ((6 : Int32) &&& 31)) ||| d1), oI 2, oI d1] [(.int d2)]) _
    refine XS.istore X47.here hx rfl (hb hby d8_25) rfl (l' := #[oR r0, oI 0, oI 3, oI (((((0 : Int32) <<< ((6 : Int32) &&& 31)) ||| d0) <<< ((6 : Int32) &&& 31)) ||| d1), oI 2, oI d2]) rfl ?_
    show oP p e below T47 (mkF m 27 #[oR r0, oI 0, oI 3, oI (((((0 : Int32) <<< ((6 : Int32) &&& 31)) ||| d0) <<< ((6 : Int32) &&& 31)) ||| d1), oI 2, oI d2] []) _
    refine XS.iload X47.here hx rfl (hb hby d8_27) rfl ?_
    show oP p e below T47 (mkF m 29 #[oR r0, oI 0, oI 3, oI (((((0 : Int32) <<< ((6 : Int32) &&& 31)) ||| d0) <<< ((6 : Int32) &&& 31)) ||| d1), oI 2, oI d2] [(.int d2)]) _
    refine XS.ifYes X47.here hx rfl (pc0 := 29) (pc' := 47) rfl (hb hby d8_29) rfl ((if0 _ _).trans (flt (dg_nn hd2)).2.1) (by decide) (by decide) ?_
    show oP p e below T47 (mkF m 47 #[oR r0, oI 0, oI 3, oI (((((0 : Int32) <<< ((6 : Int32) &&& 31)) ||| d0) <<< ((6 : Int32) &&& 31)) ||| d1), oI 2, oI d2] []) _
    refine XS.iloadN X47.here hx rfl (hb hby d8_47) rfl ?_
    refine XS.bipush X47.here hx rfl (hb hby d8_48) ?_
    refine XS.ishl X47.here hx rfl (hb hby d8_50) rfl ?_
    show oP p e below T47 (mkF m 51 #[oR r0, oI 0, oI 3, oI (((((0 : Int32) <<< ((6 : Int32) &&& 31)) ||| d0) <<< ((6 : Int32) &&& 31)) ||| d1), oI 2, oI d2] [(.int ((((((0 : Int32) <<< ((6 : Int32) &&& 31)) ||| d0) <<< ((6 : Int32) &&& 31)) ||| d1) <<< ((6 : Int32) &&& 31)))]) _
    refine XS.iload X47.here hx rfl (hb hby d8_51) rfl ?_
    show oP p e below T47 (mkF m 53 #[oR r0, oI 0, oI 3, oI (((((0 : Int32) <<< ((6 : Int32) &&& 31)) ||| d0) <<< ((6 : Int32) &&& 31)) ||| d1), oI 2, oI d2] [(.int d2), (.int ((((((0 : Int32) <<< ((6 : Int32) &&& 31)) ||| d0) <<< ((6 : Int32) &&& 31)) ||| d1) <<< ((6 : Int32) &&& 31)))]) _
    refine XS.ior X47.here hx rfl (hb hby d8_53) rfl ?_
    show oP p e below T47 (mkF m 54 #[oR r0, oI 0, oI 3, oI (((((0 : Int32) <<< ((6 : Int32) &&& 31)) ||| d0) <<< ((6 : Int32) &&& 31)) ||| d1), oI 2, oI d2] [(.int (((((((0 : Int32) <<< ((6 : Int32) &&& 31)) ||| d0) <<< ((6 : Int32) &&& 31)) ||| d1) <<< ((6 : Int32) &&& 31)) ||| d2))]) _
    refine XS.istoreN X47.here hx rfl (hb hby d8_54) rfl (l' := #[oR r0, oI 0, oI 3, oI (((((((0 : Int32) <<< ((6 : Int32) &&& 31)) ||| d0) <<< ((6 : Int32) &&& 31)) ||| d1) <<< ((6 : Int32) &&& 31)) ||| d2), oI 2, oI d2]) rfl ?_
    show oP p e below T47 (mkF m 55 #[oR r0, oI 0, oI 3, oI (((((((0 : Int32) <<< ((6 : Int32) &&& 31)) ||| d0) <<< ((6 : Int32) &&& 31)) ||| d1) <<< ((6 : Int32) &&& 31)) ||| d2), oI 2, oI d2] []) _
    refine XS.iinc X47.here hx rfl (hb hby d8_55) rfl (l' := #[oR r0, oI 0, oI 3, oI (((((((0 : Int32) <<< ((6 : Int32) &&& 31)) ||| d0) <<< ((6 : Int32) &&& 31)) ||| d1) <<< ((6 : Int32) &&& 31)) ||| d2), oI 3, oI d2]) rfl ?_
    show oP p e below T47 (mkF m 58 #[oR r0, oI 0, oI 3, oI (((((((0 : Int32) <<< ((6 : Int32) &&& 31)) ||| d0) <<< ((6 : Int32) &&& 31)) ||| d1) <<< ((6 : Int32) &&& 31)) ||| d2), oI 3, oI d2] []) _
    refine XS.goto X47.here hx rfl (pc0 := 58) (pc' := 5) rfl (hb hby d8_58) (by decide) (by decide) ?_
    show oP p e below T47 (mkF m 5 #[oR r0, oI 0, oI 3, oI (((((((0 : Int32) <<< ((6 : Int32) &&& 31)) ||| d0) <<< ((6 : Int32) &&& 31)) ||| d1) <<< ((6 : Int32) &&& 31)) ||| d2), oI 3, oI d2] []) _
    refine XS.iload X47.here hx rfl (hb hby d8_5) rfl ?_
    show oP p e below T47 (mkF m 7 #[oR r0, oI 0, oI 3, oI (((((((0 : Int32) <<< ((6 : Int32) &&& 31)) ||| d0) <<< ((6 : Int32) &&& 31)) ||| d1) <<< ((6 : Int32) &&& 31)) ||| d2), oI 3, oI d2] [(.int 3)]) _
    refine XS.iloadN X47.here hx rfl (hb hby d8_7) rfl ?_
    refine XS.iloadN X47.here hx rfl (hb hby d8_8) rfl ?_
    refine XS.iadd X47.here hx rfl (hb hby d8_9) rfl ?_
    show oP p e below T47 (mkF m 10 #[oR r0, oI 0, oI 3, oI (((((((0 : Int32) <<< ((6 : Int32) &&& 31)) ||| d0) <<< ((6 : Int32) &&& 31)) ||| d1) <<< ((6 : Int32) &&& 31)) ||| d2), oI 3, oI d2] [(.int 3), (.int 3)]) _
    refine XS.icmpYes X47.here hx rfl (pc0 := 10) (pc' := 61) rfl (hb hby d8_10) rfl (flt (by decide : ¬ ((3 : Int32) < (3 : Int32)))).2.1 (by decide) (by decide) ?_
    show oP p e below T47 (mkF m 61 #[oR r0, oI 0, oI 3, oI (((((((0 : Int32) <<< ((6 : Int32) &&& 31)) ||| d0) <<< ((6 : Int32) &&& 31)) ||| d1) <<< ((6 : Int32) &&& 31)) ||| d2), oI 3, oI d2] []) _
    refine XS.iloadN X47.here hx rfl (hb hby d8_61) rfl ?_
    show oP p e below T47 (mkF m 62 #[oR r0, oI 0, oI 3, oI (((((((0 : Int32) <<< ((6 : Int32) &&& 31)) ||| d0) <<< ((6 : Int32) &&& 31)) ||| d1) <<< ((6 : Int32) &&& 31)) ||| d2), oI 3, oI d2] [(.int (((((((0 : Int32) <<< ((6 : Int32) &&& 31)) ||| d0) <<< ((6 : Int32) &&& 31)) ||| d1) <<< ((6 : Int32) &&& 31)) ||| d2))]) _
    exact retI X47 hx Bd.returns (hb hby d8_62) hr
  · show (some (.int (((((((0 : Int32) <<< ((6 : Int32) &&& 31)) ||| d0) <<< ((6 : Int32) &&& 31)) ||| d1) <<< ((6 : Int32) &&& 31)) ||| d2)) : Option Value) = some (.int (fn8b0_3 Z r0 k z vs d0 d1 d2)) ∧ Fr n0 _ ∧ Keep h0 T47.heap []
    rw [e47]
    refine ⟨?_, N0, (Keep.refl h0 [])⟩
    rfl
def fn8b1_2 (Z : State) (r0 : Addr) (k : ClassId) (z : Int32) (vs : List Value) (d0 : Int32) (d1 : Int32) : Int32 :=
  (((((0 : Int32) <<< ((6 : Int32) &&& 31)) ||| d0) <<< ((6 : Int32) &&& 31)) ||| d1)
theorem ef_8b1_2 (m : MethodId) (x0 : Addr) (x1 : Int32) (x2 : Int32) : entryFrame m #[(.ref x0), (.int x1), (.int x2)] 6 = mkF m 0 #[.val (.ref x0), .val (.int x1), .val (.int x2), .unset, .unset, .unset] [] := by first | (simp [entryFrame, mkF, argsToLocals, Value.category]; done) | rfl
set_option maxRecDepth 65536 in
set_option maxHeartbeats 40000000 in
theorem rm8b1_2 (l : Launch) (Z : State) (a0 : Array Value) (hw : ∀ d ∈ tables_1, d.before a0 Z = true) (hS : St Z) (ws : List Jvm.Cond) (r0 : Addr) (k : ClassId) (z : Int32) (vs : List Value) (d0 : Int32) (d1 : Int32) (h0 : Heap) (n0 : Nat) (O0 : Old Z n0 h0) (V_r0 : Arv Z h0 r0 k .byte z vs (.int 0)) (hd0 : Dg d0) (hd1 : Dg d1) (hat0 : vs.getD ((4 : Int32)).toNatClampNeg (.int 0) = .int (chv d0)) (hat1 : vs.getD ((5 : Int32)).toNatClampNeg (.int 0) = .int (chv d1)) (hb0 : ¬ (4 : Int32) < 0 ∧ (4 : Int32) < z) (hb1 : ¬ (5 : Int32) < 0 ∧ (5 : Int32) < z) :
    MetFree l (⟨"com/example/meerkat/meerkat/Base64Codec", "bitsOf", "([BII)I"⟩ : MethodName) (head1 (Jvm.Cond.code (⟨"com/example/meerkat/meerkat/Base64Codec", "bitsOf", "([BII)I"⟩ : MethodName) prog_8_method_4_code 6 (some .int) :: ws) ({ frames := 0, cells := 0, slots := 0, locals := 0 } : Room)) (fun a U => a = #[(.ref r0), (.int 4), (.int 2)] ∧ Z.Warmed39 U.vm ∧ U.heap = h0) (fun _ _ _ _ _ => True) (fun _ U o U' => ∃ v L, o = .returned v ∧ own_Q (fun v hE L => v = some (.int (fn8b1_2 Z r0 k z vs d0 d1)) ∧ Fr n0 L ∧ Keep h0 hE []) v U'.heap L ∧ FrameEnd U o U' L ({ frames := 0, cells := 0, slots := 0, locals := 0 } : Room).cells ({ frames := 0, cells := 0, slots := 0, locals := 0 } : Room).slots) := by
  refine MetFree.of_bodySF (plainFor_of_name pn_1) hisR ?_
  intro p e s m args below meth c s₁ Bd hml0 hP hK
  obtain ⟨rfl, hZ, hh⟩ := hP
  have hx := Bd.exec
  have hby := Bd.bytes
  have hml : c.maxLocals = 6 := hml0
  have hown : s.vm.findClass "com/example/meerkat/meerkat/Base64Codec" = some m.cls := findClass_of_methodNamed Bd.named
  have hnm := (name_of_methodNamed Bd.named Bd.method).1
  have X0 : Stand p l e ({ frames := 0, cells := 0, slots := 0, locals := 0 } : Room) s m #[(.ref r0), (.int 4), (.int 2)] below meth c s₁ [] 0 0 := Stand.of_body Bd
  have e0 : s₁.heap = h0 := by rw [← hh, Bd.state]; rfl
  have N0 := Fr.nil n0
  have pre0 : ∀ t, Steps p.tables e below (s₁.setTop (mkF m 0 #[oR r0, oI 4, oI 2, oU, oU, oU] [])) t → Steps p.tables e below (s₁.setTop (entryFrame m #[(.ref r0), (.int 4), (.int 2)] 6)) t := fun t k => castTop (ef_8b1_2 m r0 (4 : Int32) (2 : Int32)) k
  obtain ⟨T49, X49, e49, st49⟩ := getS2 X0 hx hZ hown (host := "") (Or.inl (wi hw 26 rfl)) Via.refl e0 ((s_a_VALUES hS).ext O0.2) (g := (mkF m 13 #[oR r0, oI 4, oI 2, oI 0, oI 4, oU] [])) rfl (hb hby d8_13)
  obtain ⟨cl50, Ac50, Sc50, Hc50⟩ := own_tabat (t_tab hS) hd0
  obtain ⟨T51, X51, e51, st51⟩ := getS2 X49 hx hZ hown (host := "") (Or.inl (wi hw 26 rfl)) Via.refl e49 ((s_a_VALUES hS).ext O0.2) (g := (mkF m 13 #[oR r0, oI 4, oI 2, oI (((0 : Int32) <<< ((6 : Int32) &&& 31)) ||| d0), oI 5, oI d0] [])) rfl (hb hby d8_13)
  obtain ⟨cl52, Ac52, Sc52, Hc52⟩ := own_tabat (t_tab hS) hd1
  obtain ⟨fs, hr, hrun, hended, hW, hsame⟩ := X51.leave (v := some (.int (((((0 : Int32) <<< ((6 : Int32) &&& 31)) ||| d0) <<< ((6 : Int32) &&& 31)) ||| d1))) (fun h => by rw [Bd.returns] at h; cases h)
  refine ⟨_, _, pre0 _ ?_, hrun, hended, _, _, rfl, ?_, ⟨_, rfl⟩, hW, hsame.mono (by decide) (by decide)⟩
  · show oP p e below s₁ (mkF m 0 #[oR r0, oI 4, oI 2, oU, oU, oU] []) _
    refine XS.iconst X0.here hx rfl (hb hby d8_0) ?_
    refine XS.istoreN X0.here hx rfl (hb hby d8_1) rfl (l' := #[oR r0, oI 4, oI 2, oI 0, oU, oU]) rfl ?_
    show oP p e below s₁ (mkF m 2 #[oR r0, oI 4, oI 2, oI 0, oU, oU] []) _
    refine XS.iloadN X0.here hx rfl (hb hby d8_2) rfl ?_
    refine XS.istore X0.here hx rfl (hb hby d8_3) rfl (l' := #[oR r0, oI 4, oI 2, oI 0, oI 4, oU]) rfl ?_
    show oP p e below s₁ (mkF m 5 #[oR r0, oI 4, oI 2, oI 0, oI 4, oU] []) _
    refine XS.iload X0.here hx rfl (hb hby d8_5) rfl ?_
    show oP p e below s₁ (mkF m 7 #[oR r0, oI 4, oI 2, oI 0, oI 4, oU] [(.int 4)]) _
    refine XS.iloadN X0.here hx rfl (hb hby d8_7) rfl ?_
    refine XS.iloadN X0.here hx rfl (hb hby d8_8) rfl ?_
    refine XS.iadd X0.here hx rfl (hb hby d8_9) rfl ?_
    show oP p e below s₁ (mkF m 10 #[oR r0, oI 4, oI 2, oI 0, oI 4, oU] [(.int 6), (.int 4)]) _
    refine XS.icmpNo X0.here hx rfl (hb hby d8_10) rfl (tlt (by decide : (4 : Int32) < (6 : Int32))).2.1 ?_
    show oP p e below s₁ (mkF m 13 #[oR r0, oI 4, oI 2, oI 0, oI 4, oU] []) _
    refine st49 _ ?_
    show oP p e below T49 (mkF m 16 #[oR r0, oI 4, oI 2, oI 0, oI 4, oU] [(.ref (a_VALUES Z))]) _
    refine XS.aloadN X49.here hx rfl (hb hby d8_16) rfl rfl ?_
    refine XS.iload X49.here hx rfl (hb hby d8_17) rfl ?_
    show oP p e below T49 (mkF m 19 #[oR r0, oI 4, oI 2, oI 0, oI 4, oU] [(.int 4), (.ref r0), (.ref (a_VALUES Z))]) _
    refine own_baload X49 hx hZ e49 V_r0 (j := (4 : Int32)) hb0 (v := (.int (chv d0))) hat0 (g := (mkF m 19 #[oR r0, oI 4, oI 2, oI 0, oI 4, oU] [(.int 4), (.ref r0), (.ref (a_VALUES Z))])) rfl rfl (hb hby d8_19) _ ?_
    show oP p e below T49 (mkF m 20 #[oR r0, oI 4, oI 2, oI 0, oI 4, oU] [(.int (chv d0)), (.ref (a_VALUES Z))]) _
    refine XS.sipush X49.here hx rfl (hb hby d8_20) ?_
    show oP p e below T49 (mkF m 23 #[oR r0, oI 4, oI 2, oI 0, oI 4, oU] [(.int 255), (.int (chv d0)), (.ref (a_VALUES Z))]) _
    refine XS.iand X49.here hx rfl (hb hby d8_23) rfl ?_
    show oP p e below T49 (mkF m 24 #[oR r0, oI 4, oI 2, oI 0, oI 4, oU] [(.int ((chv d0) &&& (255 : Int32))), (.ref (a_VALUES Z))]) _
    refine X49.iaload hx (by rw [e49]; exact (Ac50.ext O0.2).1) (State.isArrayOf_alike hZ.alike Ac50.2.1) Ac50.2.2 Sc50 Hc50 (g := (mkF m 24 #[oR r0, oI 4, oI 2, oI 0, oI 4, oU] [(.int ((chv d0) &&& (255 : Int32))), (.ref (a_VALUES Z))])) rfl rfl (hb hby d8_24) _ ?_
    show oP p e below T49 (mkF m 25 #[oR r0, oI 4, oI 2, oI 0, oI 4, oU] [(.int d0)]) _
    refine XS.istore X49.here hx rfl (hb hby d8_25) rfl (l' := #[oR r0, oI 4, oI 2, oI 0, oI 4, oI d0]) rfl ?_
    show oP p e below T49 (mkF m 27 #[oR r0, oI 4, oI 2, oI 0, oI 4, oI d0] []) _
    refine XS.iload X49.here hx rfl (hb hby d8_27) rfl ?_
    show oP p e below T49 (mkF m 29 #[oR r0, oI 4, oI 2, oI 0, oI 4, oI d0] [(.int d0)]) _
    refine XS.ifYes X49.here hx rfl (pc0 := 29) (pc' := 47) rfl (hb hby d8_29) rfl ((if0 _ _).trans (flt (dg_nn hd0)).2.1) (by decide) (by decide) ?_
    show oP p e below T49 (mkF m 47 #[oR r0, oI 4, oI 2, oI 0, oI 4, oI d0] []) _
    refine XS.iloadN X49.here hx rfl (hb hby d8_47) rfl ?_
    refine XS.bipush X49.here hx rfl (hb hby d8_48) ?_
    refine XS.ishl X49.here hx rfl (hb hby d8_50) rfl ?_
    show oP p e below T49 (mkF m 51 #[oR r0, oI 4, oI 2, oI 0, oI 4, oI d0] [(.int ((0 : Int32) <<< ((6 : Int32) &&& 31)))]) _
    refine XS.iload X49.here hx rfl (hb hby d8_51) rfl ?_
    show oP p e below T49 (mkF m 53 #[oR r0, oI 4, oI 2, oI 0, oI 4, oI d0] [(.int d0), (.int ((0 : Int32) <<< ((6 : Int32) &&& 31)))]) _
    refine XS.ior X49.here hx rfl (hb hby d8_53) rfl ?_
    show oP p e below T49 (mkF m 54 #[oR r0, oI 4, oI 2, oI 0, oI 4, oI d0] [(.int (((0 : Int32) <<< ((6 : Int32) &&& 31)) ||| d0))]) _
    refine XS.istoreN X49.here hx rfl (hb hby d8_54) rfl (l' := #[oR r0, oI 4, oI 2, oI (((0 : Int32) <<< ((6 : Int32) &&& 31)) ||| d0), oI 4, oI d0]) rfl ?_
    show oP p e below T49 (mkF m 55 #[oR r0, oI 4, oI 2, oI (((0 : Int32) <<< ((6 : Int32) &&& 31)) ||| d0), oI 4, oI d0] []) _
    refine XS.iinc X49.here hx rfl (hb hby d8_55) rfl (l' := #[oR r0, oI 4, oI 2, oI (((0 : Int32) <<< ((6 : Int32) &&& 31)) ||| d0), oI 5, oI d0]) rfl ?_
    show oP p e below T49 (mkF m 58 #[oR r0, oI 4, oI 2, oI (((0 : Int32) <<< ((6 : Int32) &&& 31)) ||| d0), oI 5, oI d0] []) _
    refine XS.goto X49.here hx rfl (pc0 := 58) (pc' := 5) rfl (hb hby d8_58) (by decide) (by decide) ?_
    show oP p e below T49 (mkF m 5 #[oR r0, oI 4, oI 2, oI (((0 : Int32) <<< ((6 : Int32) &&& 31)) ||| d0), oI 5, oI d0] []) _
    refine XS.iload X49.here hx rfl (hb hby d8_5) rfl ?_
    show oP p e below T49 (mkF m 7 #[oR r0, oI 4, oI 2, oI (((0 : Int32) <<< ((6 : Int32) &&& 31)) ||| d0), oI 5, oI d0] [(.int 5)]) _
    refine XS.iloadN X49.here hx rfl (hb hby d8_7) rfl ?_
    refine XS.iloadN X49.here hx rfl (hb hby d8_8) rfl ?_
    refine XS.iadd X49.here hx rfl (hb hby d8_9) rfl ?_
    show oP p e below T49 (mkF m 10 #[oR r0, oI 4, oI 2, oI (((0 : Int32) <<< ((6 : Int32) &&& 31)) ||| d0), oI 5, oI d0] [(.int 6), (.int 5)]) _
    refine XS.icmpNo X49.here hx rfl (hb hby d8_10) rfl (tlt (by decide : (5 : Int32) < (6 : Int32))).2.1 ?_
    show oP p e below T49 (mkF m 13 #[oR r0, oI 4, oI 2, oI (((0 : Int32) <<< ((6 : Int32) &&& 31)) ||| d0), oI 5, oI d0] []) _
    refine st51 _ ?_
    show oP p e below T51 (mkF m 16 #[oR r0, oI 4, oI 2, oI (((0 : Int32) <<< ((6 : Int32) &&& 31)) ||| d0), oI 5, oI d0] [(.ref (a_VALUES Z))]) _
    refine XS.aloadN X51.here hx rfl (hb hby d8_16) rfl rfl ?_
    refine XS.iload X51.here hx rfl (hb hby d8_17) rfl ?_
    show oP p e below T51 (mkF m 19 #[oR r0, oI 4, oI 2, oI (((0 : Int32) <<< ((6 : Int32) &&& 31)) ||| d0), oI 5, oI d0] [(.int 5), (.ref r0), (.ref (a_VALUES Z))]) _
    refine own_baload X51 hx hZ e51 V_r0 (j := (5 : Int32)) hb1 (v := (.int (chv d1))) hat1 (g := (mkF m 19 #[oR r0, oI 4, oI 2, oI (((0 : Int32) <<< ((6 : Int32) &&& 31)) ||| d0), oI 5, oI d0] [(.int 5), (.ref r0), (.ref (a_VALUES Z))])) rfl rfl (hb hby d8_19) _ ?_
    show oP p e below T51 (mkF m 20 #[oR r0, oI 4, oI 2, oI (((0 : Int32) <<< ((6 : Int32) &&& 31)) ||| d0), oI 5, oI d0] [(.int (chv d1)), (.ref (a_VALUES Z))]) _
    refine XS.sipush X51.here hx rfl (hb hby d8_20) ?_
    show oP p e below T51 (mkF m 23 #[oR r0, oI 4, oI 2, oI (((0 : Int32) <<< ((6 : Int32) &&& 31)) ||| d0), oI 5, oI d0] [(.int 255), (.int (chv d1)), (.ref (a_VALUES Z))]) _
    refine XS.iand X51.here hx rfl (hb hby d8_23) rfl ?_
    show oP p e below T51 (mkF m 24 #[oR r0, oI 4, oI 2, oI (((0 : Int32) <<< ((6 : Int32) &&& 31)) ||| d0), oI 5, oI d0] [(.int ((chv d1) &&& (255 : Int32))), (.ref (a_VALUES Z))]) _
    refine X51.iaload hx (by rw [e51]; exact (Ac52.ext O0.2).1) (State.isArrayOf_alike hZ.alike Ac52.2.1) Ac52.2.2 Sc52 Hc52 (g := (mkF m 24 #[oR r0, oI 4, oI 2, oI (((0 : Int32) <<< ((6 : Int32) &&& 31)) ||| d0), oI 5, oI d0] [(.int ((chv d1) &&& (255 : Int32))), (.ref (a_VALUES Z))])) rfl rfl (hb hby d8_24) _ ?_
    show oP p e below T51 (mkF m 25 #[oR r0, oI 4, oI 2, oI (((0 : Int32) <<< ((6 : Int32) &&& 31)) ||| d0), oI 5, oI d0] [(.int d1)]) _
    refine XS.istore X51.here hx rfl (hb hby d8_25) rfl (l' := #[oR r0, oI 4, oI 2, oI (((0 : Int32) <<< ((6 : Int32) &&& 31)) ||| d0), oI 5, oI d1]) rfl ?_
    show oP p e below T51 (mkF m 27 #[oR r0, oI 4, oI 2, oI (((0 : Int32) <<< ((6 : Int32) &&& 31)) ||| d0), oI 5, oI d1] []) _
    refine XS.iload X51.here hx rfl (hb hby d8_27) rfl ?_
    show oP p e below T51 (mkF m 29 #[oR r0, oI 4, oI 2, oI (((0 : Int32) <<< ((6 : Int32) &&& 31)) ||| d0), oI 5, oI d1] [(.int d1)]) _
    refine XS.ifYes X51.here hx rfl (pc0 := 29) (pc' := 47) rfl (hb hby d8_29) rfl ((if0 _ _).trans (flt (dg_nn hd1)).2.1) (by decide) (by decide) ?_
    show oP p e below T51 (mkF m 47 #[oR r0, oI 4, oI 2, oI (((0 : Int32) <<< ((6 : Int32) &&& 31)) ||| d0), oI 5, oI d1] []) _
    refine XS.iloadN X51.here hx rfl (hb hby d8_47) rfl ?_
    refine XS.bipush X51.here hx rfl (hb hby d8_48) ?_
    refine XS.ishl X51.here hx rfl (hb hby d8_50) rfl ?_
    show oP p e below T51 (mkF m 51 #[oR r0, oI 4, oI 2, oI (((0 : Int32) <<< ((6 : Int32) &&& 31)) ||| d0), oI 5, oI d1] [(.int ((((0 : Int32) <<< ((6 : Int32) &&& 31)) ||| d0) <<< ((6 : Int32) &&& 31)))]) _
    refine XS.iload X51.here hx rfl (hb hby d8_51) rfl ?_
    show oP p e below T51 (mkF m 53 #[oR r0, oI 4, oI 2, oI (((0 : Int32) <<< ((6 : Int32) &&& 31)) ||| d0), oI 5, oI d1] [(.int d1), (.int ((((0 : Int32) <<< ((6 : Int32) &&& 31)) ||| d0) <<< ((6 : Int32) &&& 31)))]) _
    refine XS.ior X51.here hx rfl (hb hby d8_53) rfl ?_
    show oP p e below T51 (mkF m 54 #[oR r0, oI 4, oI 2, oI (((0 : Int32) <<< ((6 : Int32) &&& 31)) ||| d0), oI 5, oI d1] [(.int (((((0 : Int32) <<< ((6 : Int32) &&& 31)) ||| d0) <<< ((6 : Int32) &&& 31)) ||| d1))]) _
    refine XS.istoreN X51.here hx rfl (hb hby d8_54) rfl (l' := #[oR r0, oI 4, oI 2, oI (((((0 : Int32) <<< ((6 : Int32) &&& 31)) ||| d0) <<< ((6 : Int32) &&& 31)) ||| d1), oI 5, oI d1]) rfl ?_
    show oP p e below T51 (mkF m 55 #[oR r0, oI 4, oI 2, oI (((((0 : Int32) <<< ((6 : Int32) &&& 31)) ||| d0) <<< ((6 : Int32) &&& 31)) ||| d1), oI 5, oI d1] []) _
    refine XS.iinc X51.here hx rfl (hb hby d8_55) rfl (l' := #[oR r0, oI 4, oI 2, oI (((((0 : Int32) <<< ((6 : Int32) &&& 31)) ||| d0) <<< ((6 : Int32) &&& 31)) ||| d1), oI 6, oI d1]) rfl ?_
    show oP p e below T51 (mkF m 58 #[oR r0, oI 4, oI 2, oI (((((0 : Int32) <<< ((6 : Int32) &&& 31)) ||| d0) <<< ((6 : Int32) &&& 31)) ||| d1), oI 6, oI d1] []) _
    refine XS.goto X51.here hx rfl (pc0 := 58) (pc' := 5) rfl (hb hby d8_58) (by decide) (by decide) ?_
    show oP p e below T51 (mkF m 5 #[oR r0, oI 4, oI 2, oI (((((0 : Int32) <<< ((6 : Int32) &&& 31)) ||| d0) <<< ((6 : Int32) &&& 31)) ||| d1), oI 6, oI d1] []) _
    refine XS.iload X51.here hx rfl (hb hby d8_5) rfl ?_
    show oP p e below T51 (mkF m 7 #[oR r0, oI 4, oI 2, oI (((((0 : Int32) <<< ((6 : Int32) &&& 31)) ||| d0) <<< ((6 : Int32) &&& 31)) ||| d1), oI 6, oI d1] [(.int 6)]) _
    refine XS.iloadN X51.here hx rfl (hb hby d8_7) rfl ?_
    refine XS.iloadN X51.here hx rfl (hb hby d8_8) rfl ?_
    refine XS.iadd X51.here hx rfl (hb hby d8_9) rfl ?_
    show oP p e below T51 (mkF m 10 #[oR r0, oI 4, oI 2, oI (((((0 : Int32) <<< ((6 : Int32) &&& 31)) ||| d0) <<< ((6 : Int32) &&& 31)) ||| d1), oI 6, oI d1] [(.int 6), (.int 6)]) _
    refine XS.icmpYes X51.here hx rfl (pc0 := 10) (pc' := 61) rfl (hb hby d8_10) rfl (flt (by decide : ¬ ((6 : Int32) < (6 : Int32)))).2.1 (by decide) (by decide) ?_
    show oP p e below T51 (mkF m 61 #[oR r0, oI 4, oI 2, oI (((((0 : Int32) <<< ((6 : Int32) &&& 31)) ||| d0) <<< ((6 : Int32) &&& 31)) ||| d1), oI 6, oI d1] []) _
    refine XS.iloadN X51.here hx rfl (hb hby d8_61) rfl ?_
    show oP p e below T51 (mkF m 62 #[oR r0, oI 4, oI 2, oI (((((0 : Int32) <<< ((6 : Int32) &&& 31)) ||| d0) <<< ((6 : Int32) &&& 31)) ||| d1), oI 6, oI d1] [(.int (((((0 : Int32) <<< ((6 : Int32) &&& 31)) ||| d0) <<< ((6 : Int32) &&& 31)) ||| d1))]) _
    exact retI X51 hx Bd.returns (hb hby d8_62) hr
  · show (some (.int (((((0 : Int32) <<< ((6 : Int32) &&& 31)) ||| d0) <<< ((6 : Int32) &&& 31)) ||| d1)) : Option Value) = some (.int (fn8b1_2 Z r0 k z vs d0 d1)) ∧ Fr n0 _ ∧ Keep h0 T51.heap []
    rw [e51]
    refine ⟨?_, N0, (Keep.refl h0 [])⟩
    rfl
def fn8b1_3 (Z : State) (r0 : Addr) (k : ClassId) (z : Int32) (vs : List Value) (d0 : Int32) (d1 : Int32) (d2 : Int32) : Int32 :=
  (((((((0 : Int32) <<< ((6 : Int32) &&& 31)) ||| d0) <<< ((6 : Int32) &&& 31)) ||| d1) <<< ((6 : Int32) &&& 31)) ||| d2)
theorem ef_8b1_3 (m : MethodId) (x0 : Addr) (x1 : Int32) (x2 : Int32) : entryFrame m #[(.ref x0), (.int x1), (.int x2)] 6 = mkF m 0 #[.val (.ref x0), .val (.int x1), .val (.int x2), .unset, .unset, .unset] [] := by first | (simp [entryFrame, mkF, argsToLocals, Value.category]; done) | rfl
set_option maxRecDepth 65536 in
set_option maxHeartbeats 40000000 in
theorem rm8b1_3 (l : Launch) (Z : State) (a0 : Array Value) (hw : ∀ d ∈ tables_1, d.before a0 Z = true) (hS : St Z) (ws : List Jvm.Cond) (r0 : Addr) (k : ClassId) (z : Int32) (vs : List Value) (d0 : Int32) (d1 : Int32) (d2 : Int32) (h0 : Heap) (n0 : Nat) (O0 : Old Z n0 h0) (V_r0 : Arv Z h0 r0 k .byte z vs (.int 0)) (hd0 : Dg d0) (hd1 : Dg d1) (hd2 : Dg d2) (hat0 : vs.getD ((4 : Int32)).toNatClampNeg (.int 0) = .int (chv d0)) (hat1 : vs.getD ((5 : Int32)).toNatClampNeg (.int 0) = .int (chv d1)) (hat2 : vs.getD ((6 : Int32)).toNatClampNeg (.int 0) = .int (chv d2)) (hb0 : ¬ (4 : Int32) < 0 ∧ (4 : Int32) < z) (hb1 : ¬ (5 : Int32) < 0 ∧ (5 : Int32) < z) (hb2 : ¬ (6 : Int32) < 0 ∧ (6 : Int32) < z) :
    MetFree l (⟨"com/example/meerkat/meerkat/Base64Codec", "bitsOf", "([BII)I"⟩ : MethodName) (head1 (Jvm.Cond.code (⟨"com/example/meerkat/meerkat/Base64Codec", "bitsOf", "([BII)I"⟩ : MethodName) prog_8_method_4_code 6 (some .int) :: ws) ({ frames := 0, cells := 0, slots := 0, locals := 0 } : Room)) (fun a U => a = #[(.ref r0), (.int 4), (.int 3)] ∧ Z.Warmed39 U.vm ∧ U.heap = h0) (fun _ _ _ _ _ => True) (fun _ U o U' => ∃ v L, o = .returned v ∧ own_Q (fun v hE L => v = some (.int (fn8b1_3 Z r0 k z vs d0 d1 d2)) ∧ Fr n0 L ∧ Keep h0 hE []) v U'.heap L ∧ FrameEnd U o U' L ({ frames := 0, cells := 0, slots := 0, locals := 0 } : Room).cells ({ frames := 0, cells := 0, slots := 0, locals := 0 } : Room).slots) := by
  refine MetFree.of_bodySF (plainFor_of_name pn_1) hisR ?_
  intro p e s m args below meth c s₁ Bd hml0 hP hK
  obtain ⟨rfl, hZ, hh⟩ := hP
  have hx := Bd.exec
  have hby := Bd.bytes
  have hml : c.maxLocals = 6 := hml0
  have hown : s.vm.findClass "com/example/meerkat/meerkat/Base64Codec" = some m.cls := findClass_of_methodNamed Bd.named
  have hnm := (name_of_methodNamed Bd.named Bd.method).1
  have X0 : Stand p l e ({ frames := 0, cells := 0, slots := 0, locals := 0 } : Room) s m #[(.ref r0), (.int 4), (.int 3)] below meth c s₁ [] 0 0 := Stand.of_body Bd
  have e0 : s₁.heap = h0 := by rw [← hh, Bd.state]; rfl
  have N0 := Fr.nil n0
  have pre0 : ∀ t, Steps p.tables e below (s₁.setTop (mkF m 0 #[oR r0, oI 4, oI 3, oU, oU, oU] [])) t → Steps p.tables e below (s₁.setTop (entryFrame m #[(.ref r0), (.int 4), (.int 3)] 6)) t := fun t k => castTop (ef_8b1_3 m r0 (4 : Int32) (3 : Int32)) k
  obtain ⟨T53, X53, e53, st53⟩ := getS2 X0 hx hZ hown (host := "") (Or.inl (wi hw 26 rfl)) Via.refl e0 ((s_a_VALUES hS).ext O0.2) (g := (mkF m 13 #[oR r0, oI 4, oI 3, oI 0, oI 4, oU] [])) rfl (hb hby d8_13)
  obtain ⟨cl54, Ac54, Sc54, Hc54⟩ := own_tabat (t_tab hS) hd0
  obtain ⟨T55, X55, e55, st55⟩ := getS2 X53 hx hZ hown (host := "") (Or.inl (wi hw 26 rfl)) Via.refl e53 ((s_a_VALUES hS).ext O0.2) (g := (mkF m 13 #[oR r0, oI 4, oI 3, oI (((0 : Int32) <<< ((6 : Int32) &&& 31)) ||| d0), oI 5, oI d0] [])) rfl (hb hby d8_13)
  obtain ⟨cl56, Ac56, Sc56, Hc56⟩ := own_tabat (t_tab hS) hd1
  obtain ⟨T57, X57, e57, st57⟩ := getS2 X55 hx hZ hown (host := "") (Or.inl (wi hw 26 rfl)) Via.refl e55 ((s_a_VALUES hS).ext O0.2) (g := (mkF m 13 #[oR r0, oI 4, oI 3, oI (((((0 : Int32) <<< ((6 : Int32) &&& 31)) ||| d0) <<< ((6 : Int32) &&& 31)) ||| d1), oI 6, oI d1] [])) rfl (hb hby d8_13)
  obtain ⟨cl58, Ac58, Sc58, Hc58⟩ := own_tabat (t_tab hS) hd2
  obtain ⟨fs, hr, hrun, hended, hW, hsame⟩ := X57.leave (v := some (.int (((((((0 : Int32) <<< ((6 : Int32) &&& 31)) ||| d0) <<< ((6 : Int32) &&& 31)) ||| d1) <<< ((6 : Int32) &&& 31)) ||| d2))) (fun h => by rw [Bd.returns] at h; cases h)
  refine ⟨_, _, pre0 _ ?_, hrun, hended, _, _, rfl, ?_, ⟨_, rfl⟩, hW, hsame.mono (by decide) (by decide)⟩
  · show oP p e below s₁ (mkF m 0 #[oR r0, oI 4, oI 3, oU, oU, oU] []) _
    refine XS.iconst X0.here hx rfl (hb hby d8_0) ?_
    refine XS.istoreN X0.here hx rfl (hb hby d8_1) rfl (l' := #[oR r0, oI 4, oI 3, oI 0, oU, oU]) rfl ?_
    show oP p e below s₁ (mkF m 2 #[oR r0, oI 4, oI 3, oI 0, oU, oU] []) _
    refine XS.iloadN X0.here hx rfl (hb hby d8_2) rfl ?_
    refine XS.istore X0.here hx rfl (hb hby d8_3) rfl (l' := #[oR r0, oI 4, oI 3, oI 0, oI 4, oU]) rfl ?_
    show oP p e below s₁ (mkF m 5 #[oR r0, oI 4, oI 3, oI 0, oI 4, oU] []) _
    refine XS.iload X0.here hx rfl (hb hby d8_5) rfl ?_
    show oP p e below s₁ (mkF m 7 #[oR r0, oI 4, oI 3, oI 0, oI 4, oU] [(.int 4)]) _
    refine XS.iloadN X0.here hx rfl (hb hby d8_7) rfl ?_
    refine XS.iloadN X0.here hx rfl (hb hby d8_8) rfl ?_
    refine XS.iadd X0.here hx rfl (hb hby d8_9) rfl ?_
    show oP p e below s₁ (mkF m 10 #[oR r0, oI 4, oI 3, oI 0, oI 4, oU] [(.int 7), (.int 4)]) _
    refine XS.icmpNo X0.here hx rfl (hb hby d8_10) rfl (tlt (by decide : (4 : Int32) < (7 : Int32))).2.1 ?_
    show oP p e below s₁ (mkF m 13 #[oR r0, oI 4, oI 3, oI 0, oI 4, oU] []) _
    refine st53 _ ?_
    show oP p e below T53 (mkF m 16 #[oR r0, oI 4, oI 3, oI 0, oI 4, oU] [(.ref (a_VALUES Z))]) _
    refine XS.aloadN X53.here hx rfl (hb hby d8_16) rfl rfl ?_
    refine XS.iload X53.here hx rfl (hb hby d8_17) rfl ?_
    show oP p e below T53 (mkF m 19 #[oR r0, oI 4, oI 3, oI 0, oI 4, oU] [(.int 4), (.ref r0), (.ref (a_VALUES Z))]) _
    refine own_baload X53 hx hZ e53 V_r0 (j := (4 : Int32)) hb0 (v := (.int (chv d0))) hat0 (g := (mkF m 19 #[oR r0, oI 4, oI 3, oI 0, oI 4, oU] [(.int 4), (.ref r0), (.ref (a_VALUES Z))])) rfl rfl (hb hby d8_19) _ ?_
    show oP p e below T53 (mkF m 20 #[oR r0, oI 4, oI 3, oI 0, oI 4, oU] [(.int (chv d0)), (.ref (a_VALUES Z))]) _
    refine XS.sipush X53.here hx rfl (hb hby d8_20) ?_
    show oP p e below T53 (mkF m 23 #[oR r0, oI 4, oI 3, oI 0, oI 4, oU] [(.int 255), (.int (chv d0)), (.ref (a_VALUES Z))]) _
    refine XS.iand X53.here hx rfl (hb hby d8_23) rfl ?_
    show oP p e below T53 (mkF m 24 #[oR r0, oI 4, oI 3, oI 0, oI 4, oU] [(.int ((chv d0) &&& (255 : Int32))), (.ref (a_VALUES Z))]) _
    refine X53.iaload hx (by rw [e53]; exact (Ac54.ext O0.2).1) (State.isArrayOf_alike hZ.alike Ac54.2.1) Ac54.2.2 Sc54 Hc54 (g := (mkF m 24 #[oR r0, oI 4, oI 3, oI 0, oI 4, oU] [(.int ((chv d0) &&& (255 : Int32))), (.ref (a_VALUES Z))])) rfl rfl (hb hby d8_24) _ ?_
    show oP p e below T53 (mkF m 25 #[oR r0, oI 4, oI 3, oI 0, oI 4, oU] [(.int d0)]) _
    refine XS.istore X53.here hx rfl (hb hby d8_25) rfl (l' := #[oR r0, oI 4, oI 3, oI 0, oI 4, oI d0]) rfl ?_
    show oP p e below T53 (mkF m 27 #[oR r0, oI 4, oI 3, oI 0, oI 4, oI d0] []) _
    refine XS.iload X53.here hx rfl (hb hby d8_27) rfl ?_
    show oP p e below T53 (mkF m 29 #[oR r0, oI 4, oI 3, oI 0, oI 4, oI d0] [(.int d0)]) _
    refine XS.ifYes X53.here hx rfl (pc0 := 29) (pc' := 47) rfl (hb hby d8_29) rfl ((if0 _ _).trans (flt (dg_nn hd0)).2.1) (by decide) (by decide) ?_
    show oP p e below T53 (mkF m 47 #[oR r0, oI 4, oI 3, oI 0, oI 4, oI d0] []) _
    refine XS.iloadN X53.here hx rfl (hb hby d8_47) rfl ?_
    refine XS.bipush X53.here hx rfl (hb hby d8_48) ?_
    refine XS.ishl X53.here hx rfl (hb hby d8_50) rfl ?_
    show oP p e below T53 (mkF m 51 #[oR r0, oI 4, oI 3, oI 0, oI 4, oI d0] [(.int ((0 : Int32) <<< ((6 : Int32) &&& 31)))]) _
    refine XS.iload X53.here hx rfl (hb hby d8_51) rfl ?_
    show oP p e below T53 (mkF m 53 #[oR r0, oI 4, oI 3, oI 0, oI 4, oI d0] [(.int d0), (.int ((0 : Int32) <<< ((6 : Int32) &&& 31)))]) _
    refine XS.ior X53.here hx rfl (hb hby d8_53) rfl ?_
    show oP p e below T53 (mkF m 54 #[oR r0, oI 4, oI 3, oI 0, oI 4, oI d0] [(.int (((0 : Int32) <<< ((6 : Int32) &&& 31)) ||| d0))]) _
    refine XS.istoreN X53.here hx rfl (hb hby d8_54) rfl (l' := #[oR r0, oI 4, oI 3, oI (((0 : Int32) <<< ((6 : Int32) &&& 31)) ||| d0), oI 4, oI d0]) rfl ?_
    show oP p e below T53 (mkF m 55 #[oR r0, oI 4, oI 3, oI (((0 : Int32) <<< ((6 : Int32) &&& 31)) ||| d0), oI 4, oI d0] []) _
    refine XS.iinc X53.here hx rfl (hb hby d8_55) rfl (l' := #[oR r0, oI 4, oI 3, oI (((0 : Int32) <<< ((6 : Int32) &&& 31)) ||| d0), oI 5, oI d0]) rfl ?_
    show oP p e below T53 (mkF m 58 #[oR r0, oI 4, oI 3, oI (((0 : Int32) <<< ((6 : Int32) &&& 31)) ||| d0), oI 5, oI d0] []) _
    refine XS.goto X53.here hx rfl (pc0 := 58) (pc' := 5) rfl (hb hby d8_58) (by decide) (by decide) ?_
    show oP p e below T53 (mkF m 5 #[oR r0, oI 4, oI 3, oI (((0 : Int32) <<< ((6 : Int32) &&& 31)) ||| d0), oI 5, oI d0] []) _
    refine XS.iload X53.here hx rfl (hb hby d8_5) rfl ?_
    show oP p e below T53 (mkF m 7 #[oR r0, oI 4, oI 3, oI (((0 : Int32) <<< ((6 : Int32) &&& 31)) ||| d0), oI 5, oI d0] [(.int 5)]) _
    refine XS.iloadN X53.here hx rfl (hb hby d8_7) rfl ?_
    refine XS.iloadN X53.here hx rfl (hb hby d8_8) rfl ?_
    refine XS.iadd X53.here hx rfl (hb hby d8_9) rfl ?_
    show oP p e below T53 (mkF m 10 #[oR r0, oI 4, oI 3, oI (((0 : Int32) <<< ((6 : Int32) &&& 31)) ||| d0), oI 5, oI d0] [(.int 7), (.int 5)]) _
    refine XS.icmpNo X53.here hx rfl (hb hby d8_10) rfl (tlt (by decide : (5 : Int32) < (7 : Int32))).2.1 ?_
    show oP p e below T53 (mkF m 13 #[oR r0, oI 4, oI 3, oI (((0 : Int32) <<< ((6 : Int32) &&& 31)) ||| d0), oI 5, oI d0] []) _
    refine st55 _ ?_
    show oP p e below T55 (mkF m 16 #[oR r0, oI 4, oI 3, oI (((0 : Int32) <<< ((6 : Int32) &&& 31)) ||| d0), oI 5, oI d0] [(.ref (a_VALUES Z))]) _
    refine XS.aloadN X55.here hx rfl (hb hby d8_16) rfl rfl ?_
    refine XS.iload X55.here hx rfl (hb hby d8_17) rfl ?_
    show oP p e below T55 (mkF m 19 #[oR r0, oI 4, oI 3, oI (((0 : Int32) <<< ((6 : Int32) &&& 31)) ||| d0), oI 5, oI d0] [(.int 5), (.ref r0), (.ref (a_VALUES Z))]) _
    refine own_baload X55 hx hZ e55 V_r0 (j := (5 : Int32)) hb1 (v := (.int (chv d1))) hat1 (g := (mkF m 19 #[oR r0, oI 4, oI 3, oI (((0 : Int32) <<< ((6 : Int32) &&& 31)) ||| d0), oI 5, oI d0] [(.int 5), (.ref r0), (.ref (a_VALUES Z))])) rfl rfl (hb hby d8_19) _ ?_
    show oP p e below T55 (mkF m 20 #[oR r0, oI 4, oI 3, oI (((0 : Int32) <<< ((6 : Int32) &&& 31)) ||| d0), oI 5, oI d0] [(.int (chv d1)), (.ref (a_VALUES Z))]) _
    refine XS.sipush X55.here hx rfl (hb hby d8_20) ?_
    show oP p e below T55 (mkF m 23 #[oR r0, oI 4, oI 3, oI (((0 : Int32) <<< ((6 : Int32) &&& 31)) ||| d0), oI 5, oI d0] [(.int 255), (.int (chv d1)), (.ref (a_VALUES Z))]) _
    refine XS.iand X55.here hx rfl (hb hby d8_23) rfl ?_
    show oP p e below T55 (mkF m 24 #[oR r0, oI 4, oI 3, oI (((0 : Int32) <<< ((6 : Int32) &&& 31)) ||| d0), oI 5, oI d0] [(.int ((chv d1) &&& (255 : Int32))), (.ref (a_VALUES Z))]) _
    refine X55.iaload hx (by rw [e55]; exact (Ac56.ext O0.2).1) (State.isArrayOf_alike hZ.alike Ac56.2.1) Ac56.2.2 Sc56 Hc56 (g := (mkF m 24 #[oR r0, oI 4, oI 3, oI (((0 : Int32) <<< ((6 : Int32) &&& 31)) ||| d0), oI 5, oI d0] [(.int ((chv d1) &&& (255 : Int32))), (.ref (a_VALUES Z))])) rfl rfl (hb hby d8_24) _ ?_
    show oP p e below T55 (mkF m 25 #[oR r0, oI 4, oI 3, oI (((0 : Int32) <<< ((6 : Int32) &&& 31)) ||| d0), oI 5, oI d0] [(.int d1)]) _
    refine XS.istore X55.here hx rfl (hb hby d8_25) rfl (l' := #[oR r0, oI 4, oI 3, oI (((0 : Int32) <<< ((6 : Int32) &&& 31)) ||| d0), oI 5, oI d1]) rfl ?_
    show oP p e below T55 (mkF m 27 #[oR r0, oI 4, oI 3, oI (((0 : Int32) <<< ((6 : Int32) &&& 31)) ||| d0), oI 5, oI d1] []) _
    refine XS.iload X55.here hx rfl (hb hby d8_27) rfl ?_
    show oP p e below T55 (mkF m 29 #[oR r0, oI 4, oI 3, oI (((0 : Int32) <<< ((6 : Int32) &&& 31)) ||| d0), oI 5, oI d1] [(.int d1)]) _
    refine XS.ifYes X55.here hx rfl (pc0 := 29) (pc' := 47) rfl (hb hby d8_29) rfl ((if0 _ _).trans (flt (dg_nn hd1)).2.1) (by decide) (by decide) ?_
    show oP p e below T55 (mkF m 47 #[oR r0, oI 4, oI 3, oI (((0 : Int32) <<< ((6 : Int32) &&& 31)) ||| d0), oI 5, oI d1] []) _
    refine XS.iloadN X55.here hx rfl (hb hby d8_47) rfl ?_
    refine XS.bipush X55.here hx rfl (hb hby d8_48) ?_
    refine XS.ishl X55.here hx rfl (hb hby d8_50) rfl ?_
    show oP p e below T55 (mkF m 51 #[oR r0, oI 4, oI 3, oI (((0 : Int32) <<< ((6 : Int32) &&& 31)) ||| d0), oI 5, oI d1] [(.int ((((0 : Int32) <<< ((6 : Int32) &&& 31)) ||| d0) <<< ((6 : Int32) &&& 31)))]) _
    refine XS.iload X55.here hx rfl (hb hby d8_51) rfl ?_
    show oP p e below T55 (mkF m 53 #[oR r0, oI 4, oI 3, oI (((0 : Int32) <<< ((6 : Int32) &&& 31)) ||| d0), oI 5, oI d1] [(.int d1), (.int ((((0 : Int32) <<< ((6 : Int32) &&& 31)) ||| d0) <<< ((6 : Int32) &&& 31)))]) _
    refine XS.ior X55.here hx rfl (hb hby d8_53) rfl ?_
    show oP p e below T55 (mkF m 54 #[oR r0, oI 4, oI 3, oI (((0 : Int32) <<< ((6 : Int32) &&& 31)) ||| d0), oI 5, oI d1] [(.int (((((0 : Int32) <<< ((6 : Int32) &&& 31)) ||| d0) <<< ((6 : Int32) &&& 31)) ||| d1))]) _
    refine XS.istoreN X55.here hx rfl (hb hby d8_54) rfl (l' := #[oR r0, oI 4, oI 3, oI (((((0 : Int32) <<< ((6 : Int32) &&& 31)) ||| d0) <<< ((6 : Int32) &&& 31)) ||| d1), oI 5, oI d1]) rfl ?_
    show oP p e below T55 (mkF m 55 #[oR r0, oI 4, oI 3, oI (((((0 : Int32) <<< ((6 : Int32) &&& 31)) ||| d0) <<< ((6 : Int32) &&& 31)) ||| d1), oI 5, oI d1] []) _
    refine XS.iinc X55.here hx rfl (hb hby d8_55) rfl (l' := #[oR r0, oI 4, oI 3, oI (((((0 : Int32) <<< ((6 : Int32) &&& 31)) ||| d0) <<< ((6 : Int32) &&& 31)) ||| d1), oI 6, oI d1]) rfl ?_
    show oP p e below T55 (mkF m 58 #[oR r0, oI 4, oI 3, oI (((((0 : Int32) <<< ((6 : Int32) &&& 31)) ||| d0) <<< ((6 : Int32) &&& 31)) ||| d1), oI 6, oI d1] []) _
    refine XS.goto X55.here hx rfl (pc0 := 58) (pc' := 5) rfl (hb hby d8_58) (by decide) (by decide) ?_
    show oP p e below T55 (mkF m 5 #[oR r0, oI 4, oI 3, oI (((((0 : Int32) <<< ((6 : Int32) &&& 31)) ||| d0) <<< ((6 : Int32) &&& 31)) ||| d1), oI 6, oI d1] []) _
    refine XS.iload X55.here hx rfl (hb hby d8_5) rfl ?_
    show oP p e below T55 (mkF m 7 #[oR r0, oI 4, oI 3, oI (((((0 : Int32) <<< ((6 : Int32) &&& 31)) ||| d0) <<< ((6 : Int32) &&& 31)) ||| d1), oI 6, oI d1] [(.int 6)]) _
    refine XS.iloadN X55.here hx rfl (hb hby d8_7) rfl ?_
    refine XS.iloadN X55.here hx rfl (hb hby d8_8) rfl ?_
    refine XS.iadd X55.here hx rfl (hb hby d8_9) rfl ?_
    show oP p e below T55 (mkF m 10 #[oR r0, oI 4, oI 3, oI (((((0 : Int32) <<< ((6 : Int32) &&& 31)) ||| d0) <<< ((6 : Int32) &&& 31)) ||| d1), oI 6, oI d1] [(.int 7), (.int 6)]) _
    refine XS.icmpNo X55.here hx rfl (hb hby d8_10) rfl (tlt (by decide : (6 : Int32) < (7 : Int32))).2.1 ?_
    show oP p e below T55 (mkF m 13 #[oR r0, oI 4, oI 3, oI (((((0 : Int32) <<< ((6 : Int32) &&& 31)) ||| d0) <<< ((6 : Int32) &&& 31)) ||| d1), oI 6, oI d1] []) _
    refine st57 _ ?_
    show oP p e below T57 (mkF m 16 #[oR r0, oI 4, oI 3, oI (((((0 : Int32) <<< ((6 : Int32) &&& 31)) ||| d0) <<< ((6 : Int32) &&& 31)) ||| d1), oI 6, oI d1] [(.ref (a_VALUES Z))]) _
    refine XS.aloadN X57.here hx rfl (hb hby d8_16) rfl rfl ?_
    refine XS.iload X57.here hx rfl (hb hby d8_17) rfl ?_
    show oP p e below T57 (mkF m 19 #[oR r0, oI 4, oI 3, oI (((((0 : Int32) <<< ((6 : Int32) &&& 31)) ||| d0) <<< ((6 : Int32) &&& 31)) ||| d1), oI 6, oI d1] [(.int 6), (.ref r0), (.ref (a_VALUES Z))]) _
    refine own_baload X57 hx hZ e57 V_r0 (j := (6 : Int32)) hb2 (v := (.int (chv d2))) hat2 (g := (mkF m 19 #[oR r0, oI 4, oI 3, oI (((((0 : Int32) <<< ((6 : Int32) &&& 31)) ||| d0) <<< ((6 : Int32) &&& 31)) ||| d1), oI 6, oI d1] [(.int 6), (.ref r0), (.ref (a_VALUES Z))])) rfl rfl (hb hby d8_19) _ ?_
    show oP p e below T57 (mkF m 20 #[oR r0, oI 4, oI 3, oI (((((0 : Int32) <<< ((6 : Int32) &&& 31)) ||| d0) <<< ((6 : Int32) &&& 31)) ||| d1), oI 6, oI d1] [(.int (chv d2)), (.ref (a_VALUES Z))]) _
    refine XS.sipush X57.here hx rfl (hb hby d8_20) ?_
    show oP p e below T57 (mkF m 23 #[oR r0, oI 4, oI 3, oI (((((0 : Int32) <<< ((6 : Int32) &&& 31)) ||| d0) <<< ((6 : Int32) &&& 31)) ||| d1), oI 6, oI d1] [(.int 255), (.int (chv d2)), (.ref (a_VALUES Z))]) _
    refine XS.iand X57.here hx rfl (hb hby d8_23) rfl ?_
    show oP p e below T57 (mkF m 24 #[oR r0, oI 4, oI 3, oI (((((0 : Int32) <<< ((6 : Int32) &&& 31)) ||| d0) <<< ((6 : Int32) &&& 31)) ||| d1), oI 6, oI d1] [(.int ((chv d2) &&& (255 : Int32))), (.ref (a_VALUES Z))]) _
    refine X57.iaload hx (by rw [e57]; exact (Ac58.ext O0.2).1) (State.isArrayOf_alike hZ.alike Ac58.2.1) Ac58.2.2 Sc58 Hc58 (g := (mkF m 24 #[oR r0, oI 4, oI 3, oI (((((0 : Int32) <<< ((6 : Int32) &&& 31)) ||| d0) <<< ((6 : Int32) &&& 31)) ||| d1), oI 6, oI d1] [(.int ((chv d2) &&& (255 : Int32))), (.ref (a_VALUES Z))])) rfl rfl (hb hby d8_24) _ ?_
    show oP p e below T57 (mkF m 25 #[oR r0, oI 4, oI 3, oI (((((0 : Int32) <<< ((6 : Int32) &&& 31)) ||| d0) <<< ((6 : Int32) &&& 31)) ||| d1), oI 6, oI d1] [(.int d2)]) _
    refine XS.istore X57.here hx rfl (hb hby d8_25) rfl (l' := #[oR r0, oI 4, oI 3, oI (((((0 : Int32) <<< ((6 : Int32) &&& 31)) ||| d0) <<< ((6 : Int32) &&& 31)) ||| d1), oI 6, oI d2]) rfl ?_
    show oP p e below T57 (mkF m 27 #[oR r0, oI 4, oI 3, oI (((((0 : Int32) <<< ((6 : Int32) &&& 31)) ||| d0) <<< ((6 : Int32) &&& 31)) ||| d1), oI 6, oI d2] []) _
    refine XS.iload X57.here hx rfl (hb hby d8_27) rfl ?_
    show oP p e below T57 (mkF m 29 #[oR r0, oI 4, oI 3, oI (((((0 : Int32) <<< ((6 : Int32) &&& 31)) ||| d0) <<< ((6 : Int32) &&& 31)) ||| d1), oI 6, oI d2] [(.int d2)]) _
    refine XS.ifYes X57.here hx rfl (pc0 := 29) (pc' := 47) rfl (hb hby d8_29) rfl ((if0 _ _).trans (flt (dg_nn hd2)).2.1) (by decide) (by decide) ?_
    show oP p e below T57 (mkF m 47 #[oR r0, oI 4, oI 3, oI (((((0 : Int32) <<< ((6 : Int32) &&& 31)) ||| d0) <<< ((6 : Int32) &&& 31)) ||| d1), oI 6, oI d2] []) _
    refine XS.iloadN X57.here hx rfl (hb hby d8_47) rfl ?_
    refine XS.bipush X57.here hx rfl (hb hby d8_48) ?_
    refine XS.ishl X57.here hx rfl (hb hby d8_50) rfl ?_
    show oP p e below T57 (mkF m 51 #[oR r0, oI 4, oI 3, oI (((((0 : Int32) <<< ((6 : Int32) &&& 31)) ||| d0) <<< ((6 : Int32) &&& 31)) ||| d1), oI 6, oI d2] [(.int ((((((0 : Int32) <<< ((6 : Int32) &&& 31)) ||| d0) <<< ((6 : Int32) &&& 31)) ||| d1) <<< ((6 : Int32) &&& 31)))]) _
    refine XS.iload X57.here hx rfl (hb hby d8_51) rfl ?_
    show oP p e below T57 (mkF m 53 #[oR r0, oI 4, oI 3, oI (((((0 : Int32) <<< ((6 : Int32) &&& 31)) ||| d0) <<< ((6 : Int32) &&& 31)) ||| d1), oI 6, oI d2] [(.int d2), (.int ((((((0 : Int32) <<< ((6 : Int32) &&& 31)) ||| d0) <<< ((6 : Int32) &&& 31)) ||| d1) <<< ((6 : Int32) &&& 31)))]) _
    refine XS.ior X57.here hx rfl (hb hby d8_53) rfl ?_
    show oP p e below T57 (mkF m 54 #[oR r0, oI 4, oI 3, oI (((((0 : Int32) <<< ((6 : Int32) &&& 31)) ||| d0) <<< ((6 : Int32) &&& 31)) ||| d1), oI 6, oI d2] [(.int (((((((0 : Int32) <<< ((6 : Int32) &&& 31)) ||| d0) <<< ((6 : Int32) &&& 31)) ||| d1) <<< ((6 : Int32) &&& 31)) ||| d2))]) _
    refine XS.istoreN X57.here hx rfl (hb hby d8_54) rfl (l' := #[oR r0, oI 4, oI 3, oI (((((((0 : Int32) <<< ((6 : Int32) &&& 31)) ||| d0) <<< ((6 : Int32) &&& 31)) ||| d1) <<< ((6 : Int32) &&& 31)) ||| d2), oI 6, oI d2]) rfl ?_
    show oP p e below T57 (mkF m 55 #[oR r0, oI 4, oI 3, oI (((((((0 : Int32) <<< ((6 : Int32) &&& 31)) ||| d0) <<< ((6 : Int32) &&& 31)) ||| d1) <<< ((6 : Int32) &&& 31)) ||| d2), oI 6, oI d2] []) _
    refine XS.iinc X57.here hx rfl (hb hby d8_55) rfl (l' := #[oR r0, oI 4, oI 3, oI (((((((0 : Int32) <<< ((6 : Int32) &&& 31)) ||| d0) <<< ((6 : Int32) &&& 31)) ||| d1) <<< ((6 : Int32) &&& 31)) ||| d2), oI 7, oI d2]) rfl ?_
    show oP p e below T57 (mkF m 58 #[oR r0, oI 4, oI 3, oI (((((((0 : Int32) <<< ((6 : Int32) &&& 31)) ||| d0) <<< ((6 : Int32) &&& 31)) ||| d1) <<< ((6 : Int32) &&& 31)) ||| d2), oI 7, oI d2] []) _
    refine XS.goto X57.here hx rfl (pc0 := 58) (pc' := 5) rfl (hb hby d8_58) (by decide) (by decide) ?_
    show oP p e below T57 (mkF m 5 #[oR r0, oI 4, oI 3, oI (((((((0 : Int32) <<< ((6 : Int32) &&& 31)) ||| d0) <<< ((6 : Int32) &&& 31)) ||| d1) <<< ((6 : Int32) &&& 31)) ||| d2), oI 7, oI d2] []) _
    refine XS.iload X57.here hx rfl (hb hby d8_5) rfl ?_
    show oP p e below T57 (mkF m 7 #[oR r0, oI 4, oI 3, oI (((((((0 : Int32) <<< ((6 : Int32) &&& 31)) ||| d0) <<< ((6 : Int32) &&& 31)) ||| d1) <<< ((6 : Int32) &&& 31)) ||| d2), oI 7, oI d2] [(.int 7)]) _
    refine XS.iloadN X57.here hx rfl (hb hby d8_7) rfl ?_
    refine XS.iloadN X57.here hx rfl (hb hby d8_8) rfl ?_
    refine XS.iadd X57.here hx rfl (hb hby d8_9) rfl ?_
    show oP p e below T57 (mkF m 10 #[oR r0, oI 4, oI 3, oI (((((((0 : Int32) <<< ((6 : Int32) &&& 31)) ||| d0) <<< ((6 : Int32) &&& 31)) ||| d1) <<< ((6 : Int32) &&& 31)) ||| d2), oI 7, oI d2] [(.int 7), (.int 7)]) _
    refine XS.icmpYes X57.here hx rfl (pc0 := 10) (pc' := 61) rfl (hb hby d8_10) rfl (flt (by decide : ¬ ((7 : Int32) < (7 : Int32)))).2.1 (by decide) (by decide) ?_
    show oP p e below T57 (mkF m 61 #[oR r0, oI 4, oI 3, oI (((((((0 : Int32) <<< ((6 : Int32) &&& 31)) ||| d0) <<< ((6 : Int32) &&& 31)) ||| d1) <<< ((6 : Int32) &&& 31)) ||| d2), oI 7, oI d2] []) _
    refine XS.iloadN X57.here hx rfl (hb hby d8_61) rfl ?_
    show oP p e below T57 (mkF m 62 #[oR r0, oI 4, oI 3, oI (((((((0 : Int32) <<< ((6 : Int32) &&& 31)) ||| d0) <<< ((6 : Int32) &&& 31)) ||| d1) <<< ((6 : Int32) &&& 31)) ||| d2), oI 7, oI d2] [(.int (((((((0 : Int32) <<< ((6 : Int32) &&& 31)) ||| d0) <<< ((6 : Int32) &&& 31)) ||| d1) <<< ((6 : Int32) &&& 31)) ||| d2))]) _
    exact retI X57 hx Bd.returns (hb hby d8_62) hr
  · show (some (.int (((((((0 : Int32) <<< ((6 : Int32) &&& 31)) ||| d0) <<< ((6 : Int32) &&& 31)) ||| d1) <<< ((6 : Int32) &&& 31)) ||| d2)) : Option Value) = some (.int (fn8b1_3 Z r0 k z vs d0 d1 d2)) ∧ Fr n0 _ ∧ Keep h0 T57.heap []
    rw [e57]
    refine ⟨?_, N0, (Keep.refl h0 [])⟩
    rfl
def fn8b2_2 (Z : State) (r0 : Addr) (k : ClassId) (z : Int32) (vs : List Value) (d0 : Int32) (d1 : Int32) : Int32 :=
  (((((0 : Int32) <<< ((6 : Int32) &&& 31)) ||| d0) <<< ((6 : Int32) &&& 31)) ||| d1)
theorem ef_8b2_2 (m : MethodId) (x0 : Addr) (x1 : Int32) (x2 : Int32) : entryFrame m #[(.ref x0), (.int x1), (.int x2)] 6 = mkF m 0 #[.val (.ref x0), .val (.int x1), .val (.int x2), .unset, .unset, .unset] [] := by first | (simp [entryFrame, mkF, argsToLocals, Value.category]; done) | rfl
set_option maxRecDepth 65536 in
set_option maxHeartbeats 40000000 in
theorem rm8b2_2 (l : Launch) (Z : State) (a0 : Array Value) (hw : ∀ d ∈ tables_1, d.before a0 Z = true) (hS : St Z) (ws : List Jvm.Cond) (r0 : Addr) (k : ClassId) (z : Int32) (vs : List Value) (d0 : Int32) (d1 : Int32) (h0 : Heap) (n0 : Nat) (O0 : Old Z n0 h0) (V_r0 : Arv Z h0 r0 k .byte z vs (.int 0)) (hd0 : Dg d0) (hd1 : Dg d1) (hat0 : vs.getD ((8 : Int32)).toNatClampNeg (.int 0) = .int (chv d0)) (hat1 : vs.getD ((9 : Int32)).toNatClampNeg (.int 0) = .int (chv d1)) (hb0 : ¬ (8 : Int32) < 0 ∧ (8 : Int32) < z) (hb1 : ¬ (9 : Int32) < 0 ∧ (9 : Int32) < z) :
    MetFree l (⟨"com/example/meerkat/meerkat/Base64Codec", "bitsOf", "([BII)I"⟩ : MethodName) (head1 (Jvm.Cond.code (⟨"com/example/meerkat/meerkat/Base64Codec", "bitsOf", "([BII)I"⟩ : MethodName) prog_8_method_4_code 6 (some .int) :: ws) ({ frames := 0, cells := 0, slots := 0, locals := 0 } : Room)) (fun a U => a = #[(.ref r0), (.int 8), (.int 2)] ∧ Z.Warmed39 U.vm ∧ U.heap = h0) (fun _ _ _ _ _ => True) (fun _ U o U' => ∃ v L, o = .returned v ∧ own_Q (fun v hE L => v = some (.int (fn8b2_2 Z r0 k z vs d0 d1)) ∧ Fr n0 L ∧ Keep h0 hE []) v U'.heap L ∧ FrameEnd U o U' L ({ frames := 0, cells := 0, slots := 0, locals := 0 } : Room).cells ({ frames := 0, cells := 0, slots := 0, locals := 0 } : Room).slots) := by
  refine MetFree.of_bodySF (plainFor_of_name pn_1) hisR ?_
  intro p e s m args below meth c s₁ Bd hml0 hP hK
  obtain ⟨rfl, hZ, hh⟩ := hP
  have hx := Bd.exec
  have hby := Bd.bytes
  have hml : c.maxLocals = 6 := hml0
  have hown : s.vm.findClass "com/example/meerkat/meerkat/Base64Codec" = some m.cls := findClass_of_methodNamed Bd.named
  have hnm := (name_of_methodNamed Bd.named Bd.method).1
  have X0 : Stand p l e ({ frames := 0, cells := 0, slots := 0, locals := 0 } : Room) s m #[(.ref r0), (.int 8), (.int 2)] below meth c s₁ [] 0 0 := Stand.of_body Bd
  have e0 : s₁.heap = h0 := by rw [← hh, Bd.state]; rfl
  have N0 := Fr.nil n0
  have pre0 : ∀ t, Steps p.tables e below (s₁.setTop (mkF m 0 #[oR r0, oI 8, oI 2, oU, oU, oU] [])) t → Steps p.tables e below (s₁.setTop (entryFrame m #[(.ref r0), (.int 8), (.int 2)] 6)) t := fun t k => castTop (ef_8b2_2 m r0 (8 : Int32) (2 : Int32)) k
  obtain ⟨T59, X59, e59, st59⟩ := getS2 X0 hx hZ hown (host := "") (Or.inl (wi hw 26 rfl)) Via.refl e0 ((s_a_VALUES hS).ext O0.2) (g := (mkF m 13 #[oR r0, oI 8, oI 2, oI 0, oI 8, oU] [])) rfl (hb hby d8_13)
  obtain ⟨cl60, Ac60, Sc60, Hc60⟩ := own_tabat (t_tab hS) hd0
  obtain ⟨T61, X61, e61, st61⟩ := getS2 X59 hx hZ hown (host := "") (Or.inl (wi hw 26 rfl)) Via.refl e59 ((s_a_VALUES hS).ext O0.2) (g := (mkF m 13 #[oR r0, oI 8, oI 2, oI (((0 : Int32) <<< ((6 : Int32) &&& 31)) ||| d0), oI 9, oI d0] [])) rfl (hb hby d8_13)
  obtain ⟨cl62, Ac62, Sc62, Hc62⟩ := own_tabat (t_tab hS) hd1
  obtain ⟨fs, hr, hrun, hended, hW, hsame⟩ := X61.leave (v := some (.int (((((0 : Int32) <<< ((6 : Int32) &&& 31)) ||| d0) <<< ((6 : Int32) &&& 31)) ||| d1))) (fun h => by rw [Bd.returns] at h; cases h)
  refine ⟨_, _, pre0 _ ?_, hrun, hended, _, _, rfl, ?_, ⟨_, rfl⟩, hW, hsame.mono (by decide) (by decide)⟩
  · show oP p e below s₁ (mkF m 0 #[oR r0, oI 8, oI 2, oU, oU, oU] []) _
    refine XS.iconst X0.here hx rfl (hb hby d8_0) ?_
    refine XS.istoreN X0.here hx rfl (hb hby d8_1) rfl (l' := #[oR r0, oI 8, oI 2, oI 0, oU, oU]) rfl ?_
    show oP p e below s₁ (mkF m 2 #[oR r0, oI 8, oI 2, oI 0, oU, oU] []) _
    refine XS.iloadN X0.here hx rfl (hb hby d8_2) rfl ?_
    refine XS.istore X0.here hx rfl (hb hby d8_3) rfl (l' := #[oR r0, oI 8, oI 2, oI 0, oI 8, oU]) rfl ?_
    show oP p e below s₁ (mkF m 5 #[oR r0, oI 8, oI 2, oI 0, oI 8, oU] []) _
    refine XS.iload X0.here hx rfl (hb hby d8_5) rfl ?_
    show oP p e below s₁ (mkF m 7 #[oR r0, oI 8, oI 2, oI 0, oI 8, oU] [(.int 8)]) _
    refine XS.iloadN X0.here hx rfl (hb hby d8_7) rfl ?_
    refine XS.iloadN X0.here hx rfl (hb hby d8_8) rfl ?_
    refine XS.iadd X0.here hx rfl (hb hby d8_9) rfl ?_
    show oP p e below s₁ (mkF m 10 #[oR r0, oI 8, oI 2, oI 0, oI 8, oU] [(.int 10), (.int 8)]) _
    refine XS.icmpNo X0.here hx rfl (hb hby d8_10) rfl (tlt (by decide : (8 : Int32) < (10 : Int32))).2.1 ?_
    show oP p e below s₁ (mkF m 13 #[oR r0, oI 8, oI 2, oI 0, oI 8, oU] []) _
    refine st59 _ ?_
    show oP p e below T59 (mkF m 16 #[oR r0, oI 8, oI 2, oI 0, oI 8, oU] [(.ref (a_VALUES Z))]) _
    refine XS.aloadN X59.here hx rfl (hb hby d8_16) rfl rfl ?_
    refine XS.iload X59.here hx rfl (hb hby d8_17) rfl ?_
    show oP p e below T59 (mkF m 19 #[oR r0, oI 8, oI 2, oI 0, oI 8, oU] [(.int 8), (.ref r0), (.ref (a_VALUES Z))]) _
    refine own_baload X59 hx hZ e59 V_r0 (j := (8 : Int32)) hb0 (v := (.int (chv d0))) hat0 (g := (mkF m 19 #[oR r0, oI 8, oI 2, oI 0, oI 8, oU] [(.int 8), (.ref r0), (.ref (a_VALUES Z))])) rfl rfl (hb hby d8_19) _ ?_
    show oP p e below T59 (mkF m 20 #[oR r0, oI 8, oI 2, oI 0, oI 8, oU] [(.int (chv d0)), (.ref (a_VALUES Z))]) _
    refine XS.sipush X59.here hx rfl (hb hby d8_20) ?_
    show oP p e below T59 (mkF m 23 #[oR r0, oI 8, oI 2, oI 0, oI 8, oU] [(.int 255), (.int (chv d0)), (.ref (a_VALUES Z))]) _
    refine XS.iand X59.here hx rfl (hb hby d8_23) rfl ?_
    show oP p e below T59 (mkF m 24 #[oR r0, oI 8, oI 2, oI 0, oI 8, oU] [(.int ((chv d0) &&& (255 : Int32))), (.ref (a_VALUES Z))]) _
    refine X59.iaload hx (by rw [e59]; exact (Ac60.ext O0.2).1) (State.isArrayOf_alike hZ.alike Ac60.2.1) Ac60.2.2 Sc60 Hc60 (g := (mkF m 24 #[oR r0, oI 8, oI 2, oI 0, oI 8, oU] [(.int ((chv d0) &&& (255 : Int32))), (.ref (a_VALUES Z))])) rfl rfl (hb hby d8_24) _ ?_
    show oP p e below T59 (mkF m 25 #[oR r0, oI 8, oI 2, oI 0, oI 8, oU] [(.int d0)]) _
    refine XS.istore X59.here hx rfl (hb hby d8_25) rfl (l' := #[oR r0, oI 8, oI 2, oI 0, oI 8, oI d0]) rfl ?_
    show oP p e below T59 (mkF m 27 #[oR r0, oI 8, oI 2, oI 0, oI 8, oI d0] []) _
    refine XS.iload X59.here hx rfl (hb hby d8_27) rfl ?_
    show oP p e below T59 (mkF m 29 #[oR r0, oI 8, oI 2, oI 0, oI 8, oI d0] [(.int d0)]) _
    refine XS.ifYes X59.here hx rfl (pc0 := 29) (pc' := 47) rfl (hb hby d8_29) rfl ((if0 _ _).trans (flt (dg_nn hd0)).2.1) (by decide) (by decide) ?_
    show oP p e below T59 (mkF m 47 #[oR r0, oI 8, oI 2, oI 0, oI 8, oI d0] []) _
    refine XS.iloadN X59.here hx rfl (hb hby d8_47) rfl ?_
    refine XS.bipush X59.here hx rfl (hb hby d8_48) ?_
    refine XS.ishl X59.here hx rfl (hb hby d8_50) rfl ?_
    show oP p e below T59 (mkF m 51 #[oR r0, oI 8, oI 2, oI 0, oI 8, oI d0] [(.int ((0 : Int32) <<< ((6 : Int32) &&& 31)))]) _
    refine XS.iload X59.here hx rfl (hb hby d8_51) rfl ?_
    show oP p e below T59 (mkF m 53 #[oR r0, oI 8, oI 2, oI 0, oI 8, oI d0] [(.int d0), (.int ((0 : Int32) <<< ((6 : Int32) &&& 31)))]) _
    refine XS.ior X59.here hx rfl (hb hby d8_53) rfl ?_
    show oP p e below T59 (mkF m 54 #[oR r0, oI 8, oI 2, oI 0, oI 8, oI d0] [(.int (((0 : Int32) <<< ((6 : Int32) &&& 31)) ||| d0))]) _
    refine XS.istoreN X59.here hx rfl (hb hby d8_54) rfl (l' := #[oR r0, oI 8, oI 2, oI (((0 : Int32) <<< ((6 : Int32) &&& 31)) ||| d0), oI 8, oI d0]) rfl ?_
    show oP p e below T59 (mkF m 55 #[oR r0, oI 8, oI 2, oI (((0 : Int32) <<< ((6 : Int32) &&& 31)) ||| d0), oI 8, oI d0] []) _
    refine XS.iinc X59.here hx rfl (hb hby d8_55) rfl (l' := #[oR r0, oI 8, oI 2, oI (((0 : Int32) <<< ((6 : Int32) &&& 31)) ||| d0), oI 9, oI d0]) rfl ?_
    show oP p e below T59 (mkF m 58 #[oR r0, oI 8, oI 2, oI (((0 : Int32) <<< ((6 : Int32) &&& 31)) ||| d0), oI 9, oI d0] []) _
    refine XS.goto X59.here hx rfl (pc0 := 58) (pc' := 5) rfl (hb hby d8_58) (by decide) (by decide) ?_
    show oP p e below T59 (mkF m 5 #[oR r0, oI 8, oI 2, oI (((0 : Int32) <<< ((6 : Int32) &&& 31)) ||| d0), oI 9, oI d0] []) _
    refine XS.iload X59.here hx rfl (hb hby d8_5) rfl ?_
    show oP p e below T59 (mkF m 7 #[oR r0, oI 8, oI 2, oI (((0 : Int32) <<< ((6 : Int32) &&& 31)) ||| d0), oI 9, oI d0] [(.int 9)]) _
    refine XS.iloadN X59.here hx rfl (hb hby d8_7) rfl ?_
    refine XS.iloadN X59.here hx rfl (hb hby d8_8) rfl ?_
    refine XS.iadd X59.here hx rfl (hb hby d8_9) rfl ?_
    show oP p e below T59 (mkF m 10 #[oR r0, oI 8, oI 2, oI (((0 : Int32) <<< ((6 : Int32) &&& 31)) ||| d0), oI 9, oI d0] [(.int 10), (.int 9)]) _
    refine XS.icmpNo X59.here hx rfl (hb hby d8_10) rfl (tlt (by decide : (9 : Int32) < (10 : Int32))).2.1 ?_
    show oP p e below T59 (mkF m 13 #[oR r0, oI 8, oI 2, oI (((0 : Int32) <<< ((6 : Int32) &&& 31)) ||| d0), oI 9, oI d0] []) _
    refine st61 _ ?_
    show oP p e below T61 (mkF m 16 #[oR r0, oI 8, oI 2, oI (((0 : Int32) <<< ((6 : Int32) &&& 31)) ||| d0), oI 9, oI d0] [(.ref (a_VALUES Z))]) _
    refine XS.aloadN X61.here hx rfl (hb hby d8_16) rfl rfl ?_
    refine XS.iload X61.here hx rfl (hb hby d8_17) rfl ?_
    show oP p e below T61 (mkF m 19 #[oR r0, oI 8, oI 2, oI (((0 : Int32) <<< ((6 : Int32) &&& 31)) ||| d0), oI 9, oI d0] [(.int 9), (.ref r0), (.ref (a_VALUES Z))]) _
    refine own_baload X61 hx hZ e61 V_r0 (j := (9 : Int32)) hb1 (v := (.int (chv d1))) hat1 (g := (mkF m 19 #[oR r0, oI 8, oI 2, oI (((0 : Int32) <<< ((6 : Int32) &&& 31)) ||| d0), oI 9, oI d0] [(.int 9), (.ref r0), (.ref (a_VALUES Z))])) rfl rfl (hb hby d8_19) _ ?_
    show oP p e below T61 (mkF m 20 #[oR r0, oI 8, oI 2, oI (((0 : Int32) <<< ((6 : Int32) &&& 31)) ||| d0), oI 9, oI d0] [(.int (chv d1)), (.ref (a_VALUES Z))]) _
    refine XS.sipush X61.here hx rfl (hb hby d8_20) ?_
    show oP p e below T61 (mkF m 23 #[oR r0, oI 8, oI 2, oI (((0 : Int32) <<< ((6 : Int32) &&& 31)) ||| d0), oI 9, oI d0] [(.int 255), (.int (chv d1)), (.ref (a_VALUES Z))]) _
    refine XS.iand X61.here hx rfl (hb hby d8_23) rfl ?_
    show oP p e below T61 (mkF m 24 #[oR r0, oI 8, oI 2, oI (((0 : Int32) <<< ((6 : Int32) &&& 31)) ||| d0), oI 9, oI d0] [(.int ((chv d1) &&& (255 : Int32))), (.ref (a_VALUES Z))]) _
    refine X61.iaload hx (by rw [e61]; exact (Ac62.ext O0.2).1) (State.isArrayOf_alike hZ.alike Ac62.2.1) Ac62.2.2 Sc62 Hc62 (g := (mkF m 24 #[oR r0, oI 8, oI 2, oI (((0 : Int32) <<< ((6 : Int32) &&& 31)) ||| d0), oI 9, oI d0] [(.int ((chv d1) &&& (255 : Int32))), (.ref (a_VALUES Z))])) rfl rfl (hb hby d8_24) _ ?_
    show oP p e below T61 (mkF m 25 #[oR r0, oI 8, oI 2, oI (((0 : Int32) <<< ((6 : Int32) &&& 31)) ||| d0), oI 9, oI d0] [(.int d1)]) _
    refine XS.istore X61.here hx rfl (hb hby d8_25) rfl (l' := #[oR r0, oI 8, oI 2, oI (((0 : Int32) <<< ((6 : Int32) &&& 31)) ||| d0), oI 9, oI d1]) rfl ?_
    show oP p e below T61 (mkF m 27 #[oR r0, oI 8, oI 2, oI (((0 : Int32) <<< ((6 : Int32) &&& 31)) ||| d0), oI 9, oI d1] []) _
    refine XS.iload X61.here hx rfl (hb hby d8_27) rfl ?_
    show oP p e below T61 (mkF m 29 #[oR r0, oI 8, oI 2, oI (((0 : Int32) <<< ((6 : Int32) &&& 31)) ||| d0), oI 9, oI d1] [(.int d1)]) _
    refine XS.ifYes X61.here hx rfl (pc0 := 29) (pc' := 47) rfl (hb hby d8_29) rfl ((if0 _ _).trans (flt (dg_nn hd1)).2.1) (by decide) (by decide) ?_
    show oP p e below T61 (mkF m 47 #[oR r0, oI 8, oI 2, oI (((0 : Int32) <<< ((6 : Int32) &&& 31)) ||| d0), oI 9, oI d1] []) _
    refine XS.iloadN X61.here hx rfl (hb hby d8_47) rfl ?_
    refine XS.bipush X61.here hx rfl (hb hby d8_48) ?_
    refine XS.ishl X61.here hx rfl (hb hby d8_50) rfl ?_
    show oP p e below T61 (mkF m 51 #[oR r0, oI 8, oI 2, oI (((0 : Int32) <<< ((6 : Int32) &&& 31)) ||| d0), oI 9, oI d1] [(.int ((((0 : Int32) <<< ((6 : Int32) &&& 31)) ||| d0) <<< ((6 : Int32) &&& 31)))]) _
    refine XS.iload X61.here hx rfl (hb hby d8_51) rfl ?_
    show oP p e below T61 (mkF m 53 #[oR r0, oI 8, oI 2, oI (((0 : Int32) <<< ((6 : Int32) &&& 31)) ||| d0), oI 9, oI d1] [(.int d1), (.int ((((0 : Int32) <<< ((6 : Int32) &&& 31)) ||| d0) <<< ((6 : Int32) &&& 31)))]) _
    refine XS.ior X61.here hx rfl (hb hby d8_53) rfl ?_
    show oP p e below T61 (mkF m 54 #[oR r0, oI 8, oI 2, oI (((0 : Int32) <<< ((6 : Int32) &&& 31)) ||| d0), oI 9, oI d1] [(.int (((((0 : Int32) <<< ((6 : Int32) &&& 31)) ||| d0) <<< ((6 : Int32) &&& 31)) ||| d1))]) _
    refine XS.istoreN X61.here hx rfl (hb hby d8_54) rfl (l' := #[oR r0, oI 8, oI 2, oI (((((0 : Int32) <<< ((6 : Int32) &&& 31)) ||| d0) <<< ((6 : Int32) &&& 31)) ||| d1), oI 9, oI d1]) rfl ?_
    show oP p e below T61 (mkF m 55 #[oR r0, oI 8, oI 2, oI (((((0 : Int32) <<< ((6 : Int32) &&& 31)) ||| d0) <<< ((6 : Int32) &&& 31)) ||| d1), oI 9, oI d1] []) _
    refine XS.iinc X61.here hx rfl (hb hby d8_55) rfl (l' := #[oR r0, oI 8, oI 2, oI (((((0 : Int32) <<< ((6 : Int32) &&& 31)) ||| d0) <<< ((6 : Int32) &&& 31)) ||| d1), oI 10, oI d1]) rfl ?_
    show oP p e below T61 (mkF m 58 #[oR r0, oI 8, oI 2, oI (((((0 : Int32) <<< ((6 : Int32) &&& 31)) ||| d0) <<< ((6 : Int32) &&& 31)) ||| d1), oI 10, oI d1] []) _
    refine XS.goto X61.here hx rfl (pc0 := 58) (pc' := 5) rfl (hb hby d8_58) (by decide) (by decide) ?_
    show oP p e below T61 (mkF m 5 #[oR r0, oI 8, oI 2, oI (((((0 : Int32) <<< ((6 : Int32) &&& 31)) ||| d0) <<< ((6 : Int32) &&& 31)) ||| d1), oI 10, oI d1] []) _
    refine XS.iload X61.here hx rfl (hb hby d8_5) rfl ?_
    show oP p e below T61 (mkF m 7 #[oR r0, oI 8, oI 2, oI (((((0 : Int32) <<< ((6 : Int32) &&& 31)) ||| d0) <<< ((6 : Int32) &&& 31)) ||| d1), oI 10, oI d1] [(.int 10)]) _
    refine XS.iloadN X61.here hx rfl (hb hby d8_7) rfl ?_
    refine XS.iloadN X61.here hx rfl (hb hby d8_8) rfl ?_
    refine XS.iadd X61.here hx rfl (hb hby d8_9) rfl ?_
    show oP p e below T61 (mkF m 10 #[oR r0, oI 8, oI 2, oI (((((0 : Int32) <<< ((6 : Int32) &&& 31)) ||| d0) <<< ((6 : Int32) &&& 31)) ||| d1), oI 10, oI d1] [(.int 10), (.int 10)]) _
    refine XS.icmpYes X61.here hx rfl (pc0 := 10) (pc' := 61) rfl (hb hby d8_10) rfl (flt (by decide : ¬ ((10 : Int32) < (10 : Int32)))).2.1 (by decide) (by decide) ?_
    show oP p e below T61 (mkF m 61 #[oR r0, oI 8, oI 2, oI (((((0 : Int32) <<< ((6 : Int32) &&& 31)) ||| d0) <<< ((6 : Int32) &&& 31)) ||| d1), oI 10, oI d1] []) _
    refine XS.iloadN X61.here hx rfl (hb hby d8_61) rfl ?_
    show oP p e below T61 (mkF m 62 #[oR r0, oI 8, oI 2, oI (((((0 : Int32) <<< ((6 : Int32) &&& 31)) ||| d0) <<< ((6 : Int32) &&& 31)) ||| d1), oI 10, oI d1] [(.int (((((0 : Int32) <<< ((6 : Int32) &&& 31)) ||| d0) <<< ((6 : Int32) &&& 31)) ||| d1))]) _
    exact retI X61 hx Bd.returns (hb hby d8_62) hr
  · show (some (.int (((((0 : Int32) <<< ((6 : Int32) &&& 31)) ||| d0) <<< ((6 : Int32) &&& 31)) ||| d1)) : Option Value) = some (.int (fn8b2_2 Z r0 k z vs d0 d1)) ∧ Fr n0 _ ∧ Keep h0 T61.heap []
    rw [e61]
    refine ⟨?_, N0, (Keep.refl h0 [])⟩
    rfl
def fn8b2_3 (Z : State) (r0 : Addr) (k : ClassId) (z : Int32) (vs : List Value) (d0 : Int32) (d1 : Int32) (d2 : Int32) : Int32 :=
  (((((((0 : Int32) <<< ((6 : Int32) &&& 31)) ||| d0) <<< ((6 : Int32) &&& 31)) ||| d1) <<< ((6 : Int32) &&& 31)) ||| d2)
theorem ef_8b2_3 (m : MethodId) (x0 : Addr) (x1 : Int32) (x2 : Int32) : entryFrame m #[(.ref x0), (.int x1), (.int x2)] 6 = mkF m 0 #[.val (.ref x0), .val (.int x1), .val (.int x2), .unset, .unset, .unset] [] := by first | (simp [entryFrame, mkF, argsToLocals, Value.category]; done) | rfl
set_option maxRecDepth 65536 in
set_option maxHeartbeats 40000000 in
theorem rm8b2_3 (l : Launch) (Z : State) (a0 : Array Value) (hw : ∀ d ∈ tables_1, d.before a0 Z = true) (hS : St Z) (ws : List Jvm.Cond) (r0 : Addr) (k : ClassId) (z : Int32) (vs : List Value) (d0 : Int32) (d1 : Int32) (d2 : Int32) (h0 : Heap) (n0 : Nat) (O0 : Old Z n0 h0) (V_r0 : Arv Z h0 r0 k .byte z vs (.int 0)) (hd0 : Dg d0) (hd1 : Dg d1) (hd2 : Dg d2) (hat0 : vs.getD ((8 : Int32)).toNatClampNeg (.int 0) = .int (chv d0)) (hat1 : vs.getD ((9 : Int32)).toNatClampNeg (.int 0) = .int (chv d1)) (hat2 : vs.getD ((10 : Int32)).toNatClampNeg (.int 0) = .int (chv d2)) (hb0 : ¬ (8 : Int32) < 0 ∧ (8 : Int32) < z) (hb1 : ¬ (9 : Int32) < 0 ∧ (9 : Int32) < z) (hb2 : ¬ (10 : Int32) < 0 ∧ (10 : Int32) < z) :
    MetFree l (⟨"com/example/meerkat/meerkat/Base64Codec", "bitsOf", "([BII)I"⟩ : MethodName) (head1 (Jvm.Cond.code (⟨"com/example/meerkat/meerkat/Base64Codec", "bitsOf", "([BII)I"⟩ : MethodName) prog_8_method_4_code 6 (some .int) :: ws) ({ frames := 0, cells := 0, slots := 0, locals := 0 } : Room)) (fun a U => a = #[(.ref r0), (.int 8), (.int 3)] ∧ Z.Warmed39 U.vm ∧ U.heap = h0) (fun _ _ _ _ _ => True) (fun _ U o U' => ∃ v L, o = .returned v ∧ own_Q (fun v hE L => v = some (.int (fn8b2_3 Z r0 k z vs d0 d1 d2)) ∧ Fr n0 L ∧ Keep h0 hE []) v U'.heap L ∧ FrameEnd U o U' L ({ frames := 0, cells := 0, slots := 0, locals := 0 } : Room).cells ({ frames := 0, cells := 0, slots := 0, locals := 0 } : Room).slots) := by
  refine MetFree.of_bodySF (plainFor_of_name pn_1) hisR ?_
  intro p e s m args below meth c s₁ Bd hml0 hP hK
  obtain ⟨rfl, hZ, hh⟩ := hP
  have hx := Bd.exec
  have hby := Bd.bytes
  have hml : c.maxLocals = 6 := hml0
  have hown : s.vm.findClass "com/example/meerkat/meerkat/Base64Codec" = some m.cls := findClass_of_methodNamed Bd.named
  have hnm := (name_of_methodNamed Bd.named Bd.method).1
  have X0 : Stand p l e ({ frames := 0, cells := 0, slots := 0, locals := 0 } : Room) s m #[(.ref r0), (.int 8), (.int 3)] below meth c s₁ [] 0 0 := Stand.of_body Bd
  have e0 : s₁.heap = h0 := by rw [← hh, Bd.state]; rfl
  have N0 := Fr.nil n0
  have pre0 : ∀ t, Steps p.tables e below (s₁.setTop (mkF m 0 #[oR r0, oI 8, oI 3, oU, oU, oU] [])) t → Steps p.tables e below (s₁.setTop (entryFrame m #[(.ref r0), (.int 8), (.int 3)] 6)) t := fun t k => castTop (ef_8b2_3 m r0 (8 : Int32) (3 : Int32)) k
  obtain ⟨T63, X63, e63, st63⟩ := getS2 X0 hx hZ hown (host := "") (Or.inl (wi hw 26 rfl)) Via.refl e0 ((s_a_VALUES hS).ext O0.2) (g := (mkF m 13 #[oR r0, oI 8, oI 3, oI 0, oI 8, oU] [])) rfl (hb hby d8_13)
  obtain ⟨cl64, Ac64, Sc64, Hc64⟩ := own_tabat (t_tab hS) hd0
  obtain ⟨T65, X65, e65, st65⟩ := getS2 X63 hx hZ hown (host := "") (Or.inl (wi hw 26 rfl)) Via.refl e63 ((s_a_VALUES hS).ext O0.2) (g := (mkF m 13 #[oR r0, oI 8, oI 3, oI (((0 : Int32) <<< ((6 : Int32) &&& 31)) ||| d0), oI 9, oI d0] [])) rfl (hb hby d8_13)
  obtain ⟨cl66, Ac66, Sc66, Hc66⟩ := own_tabat (t_tab hS) hd1
  obtain ⟨T67, X67, e67, st67⟩ := getS2 X65 hx hZ hown (host := "") (Or.inl (wi hw 26 rfl)) Via.refl e65 ((s_a_VALUES hS).ext O0.2) (g := (mkF m 13 #[oR r0, oI 8, oI 3, oI (((((0 : Int32) <<< ((6 : Int32) &&& 31)) ||| d0) <<< ((6 : Int32) &&& 31)) ||| d1), oI 10, oI d1] [])) rfl (hb hby d8_13)
  obtain ⟨cl68, Ac68, Sc68, Hc68⟩ := own_tabat (t_tab hS) hd2
  obtain ⟨fs, hr, hrun, hended, hW, hsame⟩ := X67.leave (v := some (.int (((((((0 : Int32) <<< ((6 : Int32) &&& 31)) ||| d0) <<< ((6 : Int32) &&& 31)) ||| d1) <<< ((6 : Int32) &&& 31)) ||| d2))) (fun h => by rw [Bd.returns] at h; cases h)
  refine ⟨_, _, pre0 _ ?_, hrun, hended, _, _, rfl, ?_, ⟨_, rfl⟩, hW, hsame.mono (by decide) (by decide)⟩
  · show oP p e below s₁ (mkF m 0 #[oR r0, oI 8, oI 3, oU, oU, oU] []) _
    refine XS.iconst X0.here hx rfl (hb hby d8_0) ?_
    refine XS.istoreN X0.here hx rfl (hb hby d8_1) rfl (l' := #[oR r0, oI 8, oI 3, oI 0, oU, oU]) rfl ?_
    show oP p e below s₁ (mkF m 2 #[oR r0, oI 8, oI 3, oI 0, oU, oU] []) _
    refine XS.iloadN X0.here hx rfl (hb hby d8_2) rfl ?_
    refine XS.istore X0.here hx rfl (hb hby d8_3) rfl (l' := #[oR r0, oI 8, oI 3, oI 0, oI 8, oU]) rfl ?_
    show oP p e below s₁ (mkF m 5 #[oR r0, oI 8, oI 3, oI 0, oI 8, oU] []) _
    refine XS.iload X0.here hx rfl (hb hby d8_5) rfl ?_
    show oP p e below s₁ (mkF m 7 #[oR r0, oI 8, oI 3, oI 0, oI 8, oU] [(.int 8)]) _
    refine XS.iloadN X0.here hx rfl (hb hby d8_7) rfl ?_
    refine XS.iloadN X0.here hx rfl (hb hby d8_8) rfl ?_
    refine XS.iadd X0.here hx rfl (hb hby d8_9) rfl ?_
    show oP p e below s₁ (mkF m 10 #[oR r0, oI 8, oI 3, oI 0, oI 8, oU] [(.int 11), (.int 8)]) _
    refine XS.icmpNo X0.here hx rfl (hb hby d8_10) rfl (tlt (by decide : (8 : Int32) < (11 : Int32))).2.1 ?_
    show oP p e below s₁ (mkF m 13 #[oR r0, oI 8, oI 3, oI 0, oI 8, oU] []) _
    refine st63 _ ?_
    show oP p e below T63 (mkF m 16 #[oR r0, oI 8, oI 3, oI 0, oI 8, oU] [(.ref (a_VALUES Z))]) _
    refine XS.aloadN X63.here hx rfl (hb hby d8_16) rfl rfl ?_
    refine XS.iload X63.here hx rfl (hb hby d8_17) rfl ?_
    show oP p e below T63 (mkF m 19 #[oR r0, oI 8, oI 3, oI 0, oI 8, oU] [(.int 8), (.ref r0), (.ref (a_VALUES Z))]) _
    refine own_baload X63 hx hZ e63 V_r0 (j := (8 : Int32)) hb0 (v := (.int (chv d0))) hat0 (g := (mkF m 19 #[oR r0, oI 8, oI 3, oI 0, oI 8, oU] [(.int 8), (.ref r0), (.ref (a_VALUES Z))])) rfl rfl (hb hby d8_19) _ ?_
    show oP p e below T63 (mkF m 20 #[oR r0, oI 8, oI 3, oI 0, oI 8, oU] [(.int (chv d0)), (.ref (a_VALUES Z))]) _
    refine XS.sipush X63.here hx rfl (hb hby d8_20) ?_
    show oP p e below T63 (mkF m 23 #[oR r0, oI 8, oI 3, oI 0, oI 8, oU] [(.int 255), (.int (chv d0)), (.ref (a_VALUES Z))]) _
    refine XS.iand X63.here hx rfl (hb hby d8_23) rfl ?_
    show oP p e below T63 (mkF m 24 #[oR r0, oI 8, oI 3, oI 0, oI 8, oU] [(.int ((chv d0) &&& (255 : Int32))), (.ref (a_VALUES Z))]) _
    refine X63.iaload hx (by rw [e63]; exact (Ac64.ext O0.2).1) (State.isArrayOf_alike hZ.alike Ac64.2.1) Ac64.2.2 Sc64 Hc64 (g := (mkF m 24 #[oR r0, oI 8, oI 3, oI 0, oI 8, oU] [(.int ((chv d0) &&& (255 : Int32))), (.ref (a_VALUES Z))])) rfl rfl (hb hby d8_24) _ ?_
    show oP p e below T63 (mkF m 25 #[oR r0, oI 8, oI 3, oI 0, oI 8, oU] [(.int d0)]) _
    refine XS.istore X63.here hx rfl (hb hby d8_25) rfl (l' := #[oR r0, oI 8, oI 3, oI 0, oI 8, oI d0]) rfl ?_
    show oP p e below T63 (mkF m 27 #[oR r0, oI 8, oI 3, oI 0, oI 8, oI d0] []) _
    refine XS.iload X63.here hx rfl (hb hby d8_27) rfl ?_
    show oP p e below T63 (mkF m 29 #[oR r0, oI 8, oI 3, oI 0, oI 8, oI d0] [(.int d0)]) _
    refine XS.ifYes X63.here hx rfl (pc0 := 29) (pc' := 47) rfl (hb hby d8_29) rfl ((if0 _ _).trans (flt (dg_nn hd0)).2.1) (by decide) (by decide) ?_
    show oP p e below T63 (mkF m 47 #[oR r0, oI 8, oI 3, oI 0, oI 8, oI d0] []) _
    refine XS.iloadN X63.here hx rfl (hb hby d8_47) rfl ?_
    refine XS.bipush X63.here hx rfl (hb hby d8_48) ?_
    refine XS.ishl X63.here hx rfl (hb hby d8_50) rfl ?_
    show oP p e below T63 (mkF m 51 #[oR r0, oI 8, oI 3, oI 0, oI 8, oI d0] [(.int ((0 : Int32) <<< ((6 : Int32) &&& 31)))]) _
    refine XS.iload X63.here hx rfl (hb hby d8_51) rfl ?_
    show oP p e below T63 (mkF m 53 #[oR r0, oI 8, oI 3, oI 0, oI 8, oI d0] [(.int d0), (.int ((0 : Int32) <<< ((6 : Int32) &&& 31)))]) _
    refine XS.ior X63.here hx rfl (hb hby d8_53) rfl ?_
    show oP p e below T63 (mkF m 54 #[oR r0, oI 8, oI 3, oI 0, oI 8, oI d0] [(.int (((0 : Int32) <<< ((6 : Int32) &&& 31)) ||| d0))]) _
    refine XS.istoreN X63.here hx rfl (hb hby d8_54) rfl (l' := #[oR r0, oI 8, oI 3, oI (((0 : Int32) <<< ((6 : Int32) &&& 31)) ||| d0), oI 8, oI d0]) rfl ?_
    show oP p e below T63 (mkF m 55 #[oR r0, oI 8, oI 3, oI (((0 : Int32) <<< ((6 : Int32) &&& 31)) ||| d0), oI 8, oI d0] []) _
    refine XS.iinc X63.here hx rfl (hb hby d8_55) rfl (l' := #[oR r0, oI 8, oI 3, oI (((0 : Int32) <<< ((6 : Int32) &&& 31)) ||| d0), oI 9, oI d0]) rfl ?_
    show oP p e below T63 (mkF m 58 #[oR r0, oI 8, oI 3, oI (((0 : Int32) <<< ((6 : Int32) &&& 31)) ||| d0), oI 9, oI d0] []) _
    refine XS.goto X63.here hx rfl (pc0 := 58) (pc' := 5) rfl (hb hby d8_58) (by decide) (by decide) ?_
    show oP p e below T63 (mkF m 5 #[oR r0, oI 8, oI 3, oI (((0 : Int32) <<< ((6 : Int32) &&& 31)) ||| d0), oI 9, oI d0] []) _
    refine XS.iload X63.here hx rfl (hb hby d8_5) rfl ?_
    show oP p e below T63 (mkF m 7 #[oR r0, oI 8, oI 3, oI (((0 : Int32) <<< ((6 : Int32) &&& 31)) ||| d0), oI 9, oI d0] [(.int 9)]) _
    refine XS.iloadN X63.here hx rfl (hb hby d8_7) rfl ?_
    refine XS.iloadN X63.here hx rfl (hb hby d8_8) rfl ?_
    refine XS.iadd X63.here hx rfl (hb hby d8_9) rfl ?_
    show oP p e below T63 (mkF m 10 #[oR r0, oI 8, oI 3, oI (((0 : Int32) <<< ((6 : Int32) &&& 31)) ||| d0), oI 9, oI d0] [(.int 11), (.int 9)]) _
    refine XS.icmpNo X63.here hx rfl (hb hby d8_10) rfl (tlt (by decide : (9 : Int32) < (11 : Int32))).2.1 ?_
    show oP p e below T63 (mkF m 13 #[oR r0, oI 8, oI 3, oI (((0 : Int32) <<< ((6 : Int32) &&& 31)) ||| d0), oI 9, oI d0] []) _
    refine st65 _ ?_
    show oP p e below T65 (mkF m 16 #[oR r0, oI 8, oI 3, oI (((0 : Int32) <<< ((6 : Int32) &&& 31)) ||| d0), oI 9, oI d0] [(.ref (a_VALUES Z))]) _
    refine XS.aloadN X65.here hx rfl (hb hby d8_16) rfl rfl ?_
    refine XS.iload X65.here hx rfl (hb hby d8_17) rfl ?_
    show oP p e below T65 (mkF m 19 #[oR r0, oI 8, oI 3, oI (((0 : Int32) <<< ((6 : Int32) &&& 31)) ||| d0), oI 9, oI d0] [(.int 9), (.ref r0), (.ref (a_VALUES Z))]) _
    refine own_baload X65 hx hZ e65 V_r0 (j := (9 : Int32)) hb1 (v := (.int (chv d1))) hat1 (g := (mkF m 19 #[oR r0, oI 8, oI 3, oI (((0 : Int32) <<< ((6 : Int32) &&& 31)) ||| d0), oI 9, oI d0] [(.int 9), (.ref r0), (.ref (a_VALUES Z))])) rfl rfl (hb hby d8_19) _ ?_
    show oP p e below T65 (mkF m 20 #[oR r0, oI 8, oI 3, oI (((0 : Int32) <<< ((6 : Int32) &&& 31)) ||| d0), oI 9, oI d0] [(.int (chv d1)), (.ref (a_VALUES Z))]) _
    refine XS.sipush X65.here hx rfl (hb hby d8_20) ?_
    show oP p e below T65 (mkF m 23 #[oR r0, oI 8, oI 3, oI (((0 : Int32) <<< ((6 : Int32) &&& 31)) ||| d0), oI 9, oI d0] [(.int 255), (.int (chv d1)), (.ref (a_VALUES Z))]) _
    refine XS.iand X65.here hx rfl (hb hby d8_23) rfl ?_
    show oP p e below T65 (mkF m 24 #[oR r0, oI 8, oI 3, oI (((0 : Int32) <<< ((6 : Int32) &&& 31)) ||| d0), oI 9, oI d0] [(.int ((chv d1) &&& (255 : Int32))), (.ref (a_VALUES Z))]) _
    refine X65.iaload hx (by rw [e65]; exact (Ac66.ext O0.2).1) (State.isArrayOf_alike hZ.alike Ac66.2.1) Ac66.2.2 Sc66 Hc66 (g := (mkF m 24 #[oR r0, oI 8, oI 3, oI (((0 : Int32) <<< ((6 : Int32) &&& 31)) ||| d0), oI 9, oI d0] [(.int ((chv d1) &&& (255 : Int32))), (.ref (a_VALUES Z))])) rfl rfl (hb hby d8_24) _ ?_
    show oP p e below T65 (mkF m 25 #[oR r0, oI 8, oI 3, oI (((0 : Int32) <<< ((6 : Int32) &&& 31)) ||| d0), oI 9, oI d0] [(.int d1)]) _
    refine XS.istore X65.here hx rfl (hb hby d8_25) rfl (l' := #[oR r0, oI 8, oI 3, oI (((0 : Int32) <<< ((6 : Int32) &&& 31)) ||| d0), oI 9, oI d1]) rfl ?_
    show oP p e below T65 (mkF m 27 #[oR r0, oI 8, oI 3, oI (((0 : Int32) <<< ((6 : Int32) &&& 31)) ||| d0), oI 9, oI d1] []) _
    refine XS.iload X65.here hx rfl (hb hby d8_27) rfl ?_
    show oP p e below T65 (mkF m 29 #[oR r0, oI 8, oI 3, oI (((0 : Int32) <<< ((6 : Int32) &&& 31)) ||| d0), oI 9, oI d1] [(.int d1)]) _
    refine XS.ifYes X65.here hx rfl (pc0 := 29) (pc' := 47) rfl (hb hby d8_29) rfl ((if0 _ _).trans (flt (dg_nn hd1)).2.1) (by decide) (by decide) ?_
    show oP p e below T65 (mkF m 47 #[oR r0, oI 8, oI 3, oI (((0 : Int32) <<< ((6 : Int32) &&& 31)) ||| d0), oI 9, oI d1] []) _
    refine XS.iloadN X65.here hx rfl (hb hby d8_47) rfl ?_
    refine XS.bipush X65.here hx rfl (hb hby d8_48) ?_
    refine XS.ishl X65.here hx rfl (hb hby d8_50) rfl ?_
    show oP p e below T65 (mkF m 51 #[oR r0, oI 8, oI 3, oI (((0 : Int32) <<< ((6 : Int32) &&& 31)) ||| d0), oI 9, oI d1] [(.int ((((0 : Int32) <<< ((6 : Int32) &&& 31)) ||| d0) <<< ((6 : Int32) &&& 31)))]) _
    refine XS.iload X65.here hx rfl (hb hby d8_51) rfl ?_
    show oP p e below T65 (mkF m 53 #[oR r0, oI 8, oI 3, oI (((0 : Int32) <<< ((6 : Int32) &&& 31)) ||| d0), oI 9, oI d1] [(.int d1), (.int ((((0 : Int32) <<< ((6 : Int32) &&& 31)) ||| d0) <<< ((6 : Int32) &&& 31)))]) _
    refine XS.ior X65.here hx rfl (hb hby d8_53) rfl ?_
    show oP p e below T65 (mkF m 54 #[oR r0, oI 8, oI 3, oI (((0 : Int32) <<< ((6 : Int32) &&& 31)) ||| d0), oI 9, oI d1] [(.int (((((0 : Int32) <<< ((6 : Int32) &&& 31)) ||| d0) <<< ((6 : Int32) &&& 31)) ||| d1))]) _
    refine XS.istoreN X65.here hx rfl (hb hby d8_54) rfl (l' := #[oR r0, oI 8, oI 3, oI (((((0 : Int32) <<< ((6 : Int32) &&& 31)) ||| d0) <<< ((6 : Int32) &&& 31)) ||| d1), oI 9, oI d1]) rfl ?_
    show oP p e below T65 (mkF m 55 #[oR r0, oI 8, oI 3, oI (((((0 : Int32) <<< ((6 : Int32) &&& 31)) ||| d0) <<< ((6 : Int32) &&& 31)) ||| d1), oI 9, oI d1] []) _
    refine XS.iinc X65.here hx rfl (hb hby d8_55) rfl (l' := #[oR r0, oI 8, oI 3, oI (((((0 : Int32) <<< ((6 : Int32) &&& 31)) ||| d0) <<< ((6 : Int32) &&& 31)) ||| d1), oI 10, oI d1]) rfl ?_
    show oP p e below T65 (mkF m 58 #[oR r0, oI 8, oI 3, oI (((((0 : Int32) <<< ((6 : Int32) &&& 31)) ||| d0) <<< ((6 : Int32) &&& 31)) ||| d1), oI 10, oI d1] []) _
    refine XS.goto X65.here hx rfl (pc0 := 58) (pc' := 5) rfl (hb hby d8_58) (by decide) (by decide) ?_
    show oP p e below T65 (mkF m 5 #[oR r0, oI 8, oI 3, oI (((((0 : Int32) <<< ((6 : Int32) &&& 31)) ||| d0) <<< ((6 : Int32) &&& 31)) ||| d1), oI 10, oI d1] []) _
    refine XS.iload X65.here hx rfl (hb hby d8_5) rfl ?_
    show oP p e below T65 (mkF m 7 #[oR r0, oI 8, oI 3, oI (((((0 : Int32) <<< ((6 : Int32) &&& 31)) ||| d0) <<< ((6 : Int32) &&& 31)) ||| d1), oI 10, oI d1] [(.int 10)]) _
    refine XS.iloadN X65.here hx rfl (hb hby d8_7) rfl ?_
    refine XS.iloadN X65.here hx rfl (hb hby d8_8) rfl ?_
    refine XS.iadd X65.here hx rfl (hb hby d8_9) rfl ?_
    show oP p e below T65 (mkF m 10 #[oR r0, oI 8, oI 3, oI (((((0 : Int32) <<< ((6 : Int32) &&& 31)) ||| d0) <<< ((6 : Int32) &&& 31)) ||| d1), oI 10, oI d1] [(.int 11), (.int 10)]) _
    refine XS.icmpNo X65.here hx rfl (hb hby d8_10) rfl (tlt (by decide : (10 : Int32) < (11 : Int32))).2.1 ?_
    show oP p e below T65 (mkF m 13 #[oR r0, oI 8, oI 3, oI (((((0 : Int32) <<< ((6 : Int32) &&& 31)) ||| d0) <<< ((6 : Int32) &&& 31)) ||| d1), oI 10, oI d1] []) _
    refine st67 _ ?_
    show oP p e below T67 (mkF m 16 #[oR r0, oI 8, oI 3, oI (((((0 : Int32) <<< ((6 : Int32) &&& 31)) ||| d0) <<< ((6 : Int32) &&& 31)) ||| d1), oI 10, oI d1] [(.ref (a_VALUES Z))]) _
    refine XS.aloadN X67.here hx rfl (hb hby d8_16) rfl rfl ?_
    refine XS.iload X67.here hx rfl (hb hby d8_17) rfl ?_
    show oP p e below T67 (mkF m 19 #[oR r0, oI 8, oI 3, oI (((((0 : Int32) <<< ((6 : Int32) &&& 31)) ||| d0) <<< ((6 : Int32) &&& 31)) ||| d1), oI 10, oI d1] [(.int 10), (.ref r0), (.ref (a_VALUES Z))]) _
    refine own_baload X67 hx hZ e67 V_r0 (j := (10 : Int32)) hb2 (v := (.int (chv d2))) hat2 (g := (mkF m 19 #[oR r0, oI 8, oI 3, oI (((((0 : Int32) <<< ((6 : Int32) &&& 31)) ||| d0) <<< ((6 : Int32) &&& 31)) ||| d1), oI 10, oI d1] [(.int 10), (.ref r0), (.ref (a_VALUES Z))])) rfl rfl (hb hby d8_19) _ ?_
    show oP p e below T67 (mkF m 20 #[oR r0, oI 8, oI 3, oI (((((0 : Int32) <<< ((6 : Int32) &&& 31)) ||| d0) <<< ((6 : Int32) &&& 31)) ||| d1), oI 10, oI d1] [(.int (chv d2)), (.ref (a_VALUES Z))]) _
    refine XS.sipush X67.here hx rfl (hb hby d8_20) ?_
    show oP p e below T67 (mkF m 23 #[oR r0, oI 8, oI 3, oI (((((0 : Int32) <<< ((6 : Int32) &&& 31)) ||| d0) <<< ((6 : Int32) &&& 31)) ||| d1), oI 10, oI d1] [(.int 255), (.int (chv d2)), (.ref (a_VALUES Z))]) _
    refine XS.iand X67.here hx rfl (hb hby d8_23) rfl ?_
    show oP p e below T67 (mkF m 24 #[oR r0, oI 8, oI 3, oI (((((0 : Int32) <<< ((6 : Int32) &&& 31)) ||| d0) <<< ((6 : Int32) &&& 31)) ||| d1), oI 10, oI d1] [(.int ((chv d2) &&& (255 : Int32))), (.ref (a_VALUES Z))]) _
    refine X67.iaload hx (by rw [e67]; exact (Ac68.ext O0.2).1) (State.isArrayOf_alike hZ.alike Ac68.2.1) Ac68.2.2 Sc68 Hc68 (g := (mkF m 24 #[oR r0, oI 8, oI 3, oI (((((0 : Int32) <<< ((6 : Int32) &&& 31)) ||| d0) <<< ((6 : Int32) &&& 31)) ||| d1), oI 10, oI d1] [(.int ((chv d2) &&& (255 : Int32))), (.ref (a_VALUES Z))])) rfl rfl (hb hby d8_24) _ ?_
    show oP p e below T67 (mkF m 25 #[oR r0, oI 8, oI 3, oI (((((0 : Int32) <<< ((6 : Int32) &&& 31)) ||| d0) <<< ((6 : Int32) &&& 31)) ||| d1), oI 10, oI d1] [(.int d2)]) _
    refine XS.istore X67.here hx rfl (hb hby d8_25) rfl (l' := #[oR r0, oI 8, oI 3, oI (((((0 : Int32) <<< ((6 : Int32) &&& 31)) ||| d0) <<< ((6 : Int32) &&& 31)) ||| d1), oI 10, oI d2]) rfl ?_
    show oP p e below T67 (mkF m 27 #[oR r0, oI 8, oI 3, oI (((((0 : Int32) <<< ((6 : Int32) &&& 31)) ||| d0) <<< ((6 : Int32) &&& 31)) ||| d1), oI 10, oI d2] []) _
    refine XS.iload X67.here hx rfl (hb hby d8_27) rfl ?_
    show oP p e below T67 (mkF m 29 #[oR r0, oI 8, oI 3, oI (((((0 : Int32) <<< ((6 : Int32) &&& 31)) ||| d0) <<< ((6 : Int32) &&& 31)) ||| d1), oI 10, oI d2] [(.int d2)]) _
    refine XS.ifYes X67.here hx rfl (pc0 := 29) (pc' := 47) rfl (hb hby d8_29) rfl ((if0 _ _).trans (flt (dg_nn hd2)).2.1) (by decide) (by decide) ?_
    show oP p e below T67 (mkF m 47 #[oR r0, oI 8, oI 3, oI (((((0 : Int32) <<< ((6 : Int32) &&& 31)) ||| d0) <<< ((6 : Int32) &&& 31)) ||| d1), oI 10, oI d2] []) _
    refine XS.iloadN X67.here hx rfl (hb hby d8_47) rfl ?_
    refine XS.bipush X67.here hx rfl (hb hby d8_48) ?_
    refine XS.ishl X67.here hx rfl (hb hby d8_50) rfl ?_
    show oP p e below T67 (mkF m 51 #[oR r0, oI 8, oI 3, oI (((((0 : Int32) <<< ((6 : Int32) &&& 31)) ||| d0) <<< ((6 : Int32) &&& 31)) ||| d1), oI 10, oI d2] [(.int ((((((0 : Int32) <<< ((6 : Int32) &&& 31)) ||| d0) <<< ((6 : Int32) &&& 31)) ||| d1) <<< ((6 : Int32) &&& 31)))]) _
    refine XS.iload X67.here hx rfl (hb hby d8_51) rfl ?_
    show oP p e below T67 (mkF m 53 #[oR r0, oI 8, oI 3, oI (((((0 : Int32) <<< ((6 : Int32) &&& 31)) ||| d0) <<< ((6 : Int32) &&& 31)) ||| d1), oI 10, oI d2] [(.int d2), (.int ((((((0 : Int32) <<< ((6 : Int32) &&& 31)) ||| d0) <<< ((6 : Int32) &&& 31)) ||| d1) <<< ((6 : Int32) &&& 31)))]) _
    refine XS.ior X67.here hx rfl (hb hby d8_53) rfl ?_
    show oP p e below T67 (mkF m 54 #[oR r0, oI 8, oI 3, oI (((((0 : Int32) <<< ((6 : Int32) &&& 31)) ||| d0) <<< ((6 : Int32) &&& 31)) ||| d1), oI 10, oI d2] [(.int (((((((0 : Int32) <<< ((6 : Int32) &&& 31)) ||| d0) <<< ((6 : Int32) &&& 31)) ||| d1) <<< ((6 : Int32) &&& 31)) ||| d2))]) _
    refine XS.istoreN X67.here hx rfl (hb hby d8_54) rfl (l' := #[oR r0, oI 8, oI 3, oI (((((((0 : Int32) <<< ((6 : Int32) &&& 31)) ||| d0) <<< ((6 : Int32) &&& 31)) ||| d1) <<< ((6 : Int32) &&& 31)) ||| d2), oI 10, oI d2]) rfl ?_
    show oP p e below T67 (mkF m 55 #[oR r0, oI 8, oI 3, oI (((((((0 : Int32) <<< ((6 : Int32) &&& 31)) ||| d0) <<< ((6 : Int32) &&& 31)) ||| d1) <<< ((6 : Int32) &&& 31)) ||| d2), oI 10, oI d2] []) _
    refine XS.iinc X67.here hx rfl (hb hby d8_55) rfl (l' := #[oR r0, oI 8, oI 3, oI (((((((0 : Int32) <<< ((6 : Int32) &&& 31)) ||| d0) <<< ((6 : Int32) &&& 31)) ||| d1) <<< ((6 : Int32) &&& 31)) ||| d2), oI 11, oI d2]) rfl ?_
    show oP p e below T67 (mkF m 58 #[oR r0, oI 8, oI 3, oI (((((((0 : Int32) <<< ((6 : Int32) &&& 31)) ||| d0) <<< ((6 : Int32) &&& 31)) ||| d1) <<< ((6 : Int32) &&& 31)) ||| d2), oI 11, oI d2] []) _
    refine XS.goto X67.here hx rfl (pc0 := 58) (pc' := 5) rfl (hb hby d8_58) (by decide) (by decide) ?_
    show oP p e below T67 (mkF m 5 #[oR r0, oI 8, oI 3, oI (((((((0 : Int32) <<< ((6 : Int32) &&& 31)) ||| d0) <<< ((6 : Int32) &&& 31)) ||| d1) <<< ((6 : Int32) &&& 31)) ||| d2), oI 11, oI d2] []) _
    refine XS.iload X67.here hx rfl (hb hby d8_5) rfl ?_
    show oP p e below T67 (mkF m 7 #[oR r0, oI 8, oI 3, oI (((((((0 : Int32) <<< ((6 : Int32) &&& 31)) ||| d0) <<< ((6 : Int32) &&& 31)) ||| d1) <<< ((6 : Int32) &&& 31)) ||| d2), oI 11, oI d2] [(.int 11)]) _
    refine XS.iloadN X67.here hx rfl (hb hby d8_7) rfl ?_
    refine XS.iloadN X67.here hx rfl (hb hby d8_8) rfl ?_
    refine XS.iadd X67.here hx rfl (hb hby d8_9) rfl ?_
    show oP p e below T67 (mkF m 10 #[oR r0, oI 8, oI 3, oI (((((((0 : Int32) <<< ((6 : Int32) &&& 31)) ||| d0) <<< ((6 : Int32) &&& 31)) ||| d1) <<< ((6 : Int32) &&& 31)) ||| d2), oI 11, oI d2] [(.int 11), (.int 11)]) _
    refine XS.icmpYes X67.here hx rfl (pc0 := 10) (pc' := 61) rfl (hb hby d8_10) rfl (flt (by decide : ¬ ((11 : Int32) < (11 : Int32)))).2.1 (by decide) (by decide) ?_
    show oP p e below T67 (mkF m 61 #[oR r0, oI 8, oI 3, oI (((((((0 : Int32) <<< ((6 : Int32) &&& 31)) ||| d0) <<< ((6 : Int32) &&& 31)) ||| d1) <<< ((6 : Int32) &&& 31)) ||| d2), oI 11, oI d2] []) _
    refine XS.iloadN X67.here hx rfl (hb hby d8_61) rfl ?_
    show oP p e below T67 (mkF m 62 #[oR r0, oI 8, oI 3, oI (((((((0 : Int32) <<< ((6 : Int32) &&& 31)) ||| d0) <<< ((6 : Int32) &&& 31)) ||| d1) <<< ((6 : Int32) &&& 31)) ||| d2), oI 11, oI d2] [(.int (((((((0 : Int32) <<< ((6 : Int32) &&& 31)) ||| d0) <<< ((6 : Int32) &&& 31)) ||| d1) <<< ((6 : Int32) &&& 31)) ||| d2))]) _
    exact retI X67 hx Bd.returns (hb hby d8_62) hr
  · show (some (.int (((((((0 : Int32) <<< ((6 : Int32) &&& 31)) ||| d0) <<< ((6 : Int32) &&& 31)) ||| d1) <<< ((6 : Int32) &&& 31)) ||| d2)) : Option Value) = some (.int (fn8b2_3 Z r0 k z vs d0 d1 d2)) ∧ Fr n0 _ ∧ Keep h0 T67.heap []
    rw [e67]
    refine ⟨?_, N0, (Keep.refl h0 [])⟩
    rfl
theorem d3_100 : decode prog_8_method_3_code 100 = .ok (.iload 7, 2) := by decide +kernel
theorem d3_102 : decode prog_8_method_3_code 102 = .ok (.iload 6, 2) := by decide +kernel
theorem d3_104 : decode prog_8_method_3_code 104 = .ok (.if_icmp .ge 129, 3) := by decide +kernel
theorem d3_107 : decode prog_8_method_3_code 107 = .ok (.getstatic 48, 3) := by decide +kernel
theorem d3_110 : decode prog_8_method_3_code 110 = .ok (.aload_n 0, 1) := by decide +kernel
theorem d3_111 : decode prog_8_method_3_code 111 = .ok (.iload 7, 2) := by decide +kernel
theorem d3_113 : decode prog_8_method_3_code 113 = .ok (.baload, 1) := by decide +kernel
theorem d3_114 : decode prog_8_method_3_code 114 = .ok (.sipush 255, 3) := by decide +kernel
theorem d3_117 : decode prog_8_method_3_code 117 = .ok (.iand, 1) := by decide +kernel
theorem d3_118 : decode prog_8_method_3_code 118 = .ok (.iaload, 1) := by decide +kernel
theorem d3_119 : decode prog_8_method_3_code 119 = .ok (.bipush 18, 2) := by decide +kernel
theorem d3_121 : decode prog_8_method_3_code 121 = .ok (.ishl, 1) := by decide +kernel
theorem d3_122 : decode prog_8_method_3_code 122 = .ok (.getstatic 48, 3) := by decide +kernel
theorem d3_125 : decode prog_8_method_3_code 125 = .ok (.aload_n 0, 1) := by decide +kernel
theorem d3_126 : decode prog_8_method_3_code 126 = .ok (.iload 7, 2) := by decide +kernel
theorem d3_128 : decode prog_8_method_3_code 128 = .ok (.iconst 1, 1) := by decide +kernel
theorem d3_129 : decode prog_8_method_3_code 129 = .ok (.iadd, 1) := by decide +kernel
theorem d3_130 : decode prog_8_method_3_code 130 = .ok (.baload, 1) := by decide +kernel
theorem d3_131 : decode prog_8_method_3_code 131 = .ok (.sipush 255, 3) := by decide +kernel
theorem d3_134 : decode prog_8_method_3_code 134 = .ok (.iand, 1) := by decide +kernel
theorem d3_135 : decode prog_8_method_3_code 135 = .ok (.iaload, 1) := by decide +kernel
theorem d3_136 : decode prog_8_method_3_code 136 = .ok (.bipush 12, 2) := by decide +kernel
theorem d3_138 : decode prog_8_method_3_code 138 = .ok (.ishl, 1) := by decide +kernel
theorem d3_139 : decode prog_8_method_3_code 139 = .ok (.ior, 1) := by decide +kernel
theorem d3_140 : decode prog_8_method_3_code 140 = .ok (.getstatic 48, 3) := by decide +kernel
theorem d3_143 : decode prog_8_method_3_code 143 = .ok (.aload_n 0, 1) := by decide +kernel
theorem d3_144 : decode prog_8_method_3_code 144 = .ok (.iload 7, 2) := by decide +kernel
theorem d3_146 : decode prog_8_method_3_code 146 = .ok (.iconst 2, 1) := by decide +kernel
theorem d3_147 : decode prog_8_method_3_code 147 = .ok (.iadd, 1) := by decide +kernel
theorem d3_148 : decode prog_8_method_3_code 148 = .ok (.baload, 1) := by decide +kernel
theorem d3_149 : decode prog_8_method_3_code 149 = .ok (.sipush 255, 3) := by decide +kernel
theorem d3_152 : decode prog_8_method_3_code 152 = .ok (.iand, 1) := by decide +kernel
theorem d3_153 : decode prog_8_method_3_code 153 = .ok (.iaload, 1) := by decide +kernel
theorem d3_154 : decode prog_8_method_3_code 154 = .ok (.bipush 6, 2) := by decide +kernel
theorem d3_156 : decode prog_8_method_3_code 156 = .ok (.ishl, 1) := by decide +kernel
theorem d3_157 : decode prog_8_method_3_code 157 = .ok (.ior, 1) := by decide +kernel
theorem d3_158 : decode prog_8_method_3_code 158 = .ok (.getstatic 48, 3) := by decide +kernel
theorem d3_161 : decode prog_8_method_3_code 161 = .ok (.aload_n 0, 1) := by decide +kernel
theorem d3_162 : decode prog_8_method_3_code 162 = .ok (.iload 7, 2) := by decide +kernel
theorem d3_164 : decode prog_8_method_3_code 164 = .ok (.iconst 3, 1) := by decide +kernel
theorem d3_165 : decode prog_8_method_3_code 165 = .ok (.iadd, 1) := by decide +kernel
theorem d3_166 : decode prog_8_method_3_code 166 = .ok (.baload, 1) := by decide +kernel
theorem d3_167 : decode prog_8_method_3_code 167 = .ok (.sipush 255, 3) := by decide +kernel
theorem d3_170 : decode prog_8_method_3_code 170 = .ok (.iand, 1) := by decide +kernel
theorem d3_171 : decode prog_8_method_3_code 171 = .ok (.iaload, 1) := by decide +kernel
theorem d3_172 : decode prog_8_method_3_code 172 = .ok (.ior, 1) := by decide +kernel
theorem d3_173 : decode prog_8_method_3_code 173 = .ok (.istore 8, 2) := by decide +kernel
theorem d3_175 : decode prog_8_method_3_code 175 = .ok (.iload 8, 2) := by decide +kernel
theorem d3_177 : decode prog_8_method_3_code 177 = .ok (.ifCond .ge 11, 3) := by decide +kernel
theorem d3_188 : decode prog_8_method_3_code 188 = .ok (.aload 4, 2) := by decide +kernel
theorem d3_190 : decode prog_8_method_3_code 190 = .ok (.iload 5, 2) := by decide +kernel
theorem d3_192 : decode prog_8_method_3_code 192 = .ok (.iinc 5 1, 3) := by decide +kernel
theorem d3_195 : decode prog_8_method_3_code 195 = .ok (.iload 8, 2) := by decide +kernel
theorem d3_197 : decode prog_8_method_3_code 197 = .ok (.bipush 16, 2) := by decide +kernel
theorem d3_199 : decode prog_8_method_3_code 199 = .ok (.ishr, 1) := by decide +kernel
theorem d3_200 : decode prog_8_method_3_code 200 = .ok (.i2b, 1) := by decide +kernel
theorem d3_201 : decode prog_8_method_3_code 201 = .ok (.bastore, 1) := by decide +kernel
theorem d3_202 : decode prog_8_method_3_code 202 = .ok (.aload 4, 2) := by decide +kernel
theorem d3_204 : decode prog_8_method_3_code 204 = .ok (.iload 5, 2) := by decide +kernel
theorem d3_206 : decode prog_8_method_3_code 206 = .ok (.iinc 5 1, 3) := by decide +kernel
theorem d3_209 : decode prog_8_method_3_code 209 = .ok (.iload 8, 2) := by decide +kernel
theorem d3_211 : decode prog_8_method_3_code 211 = .ok (.bipush 8, 2) := by decide +kernel
theorem d3_213 : decode prog_8_method_3_code 213 = .ok (.ishr, 1) := by decide +kernel
theorem d3_214 : decode prog_8_method_3_code 214 = .ok (.i2b, 1) := by decide +kernel
theorem d3_215 : decode prog_8_method_3_code 215 = .ok (.bastore, 1) := by decide +kernel
theorem d3_216 : decode prog_8_method_3_code 216 = .ok (.aload 4, 2) := by decide +kernel
theorem d3_218 : decode prog_8_method_3_code 218 = .ok (.iload 5, 2) := by decide +kernel
theorem d3_220 : decode prog_8_method_3_code 220 = .ok (.iinc 5 1, 3) := by decide +kernel
theorem d3_223 : decode prog_8_method_3_code 223 = .ok (.iload 8, 2) := by decide +kernel
theorem d3_225 : decode prog_8_method_3_code 225 = .ok (.i2b, 1) := by decide +kernel
theorem d3_226 : decode prog_8_method_3_code 226 = .ok (.bastore, 1) := by decide +kernel
theorem d3_227 : decode prog_8_method_3_code 227 = .ok (.iinc 7 4, 3) := by decide +kernel
theorem d3_230 : decode prog_8_method_3_code 230 = .ok (.goto (-130), 3) := by decide +kernel
set_option maxRecDepth 65536 in
set_option maxHeartbeats 40000000 in
theorem tn3_0 {p : Program} {l : Launch} {e : Env} {R : Room} {s : State} {m : MethodId} {args : Array Value} {below : List Frame} {meth : Method} {c : Code} {T0 : State} {locs : List Loc} {cells slots : Nat} (Z : State) (a0 : Array Value) (hw : ∀ d ∈ tables_1, d.before a0 Z = true) (hS : St Z) (r0 : Addr) (b : Addr) (en : Int32) (pt : Int32) (pg : Int32) (wh : Int32) (k : ClassId) (z : Int32) (vs : List Value) (kb : ClassId) (zo : Int32) (ws : List Value) (d0 : Int32) (d1 : Int32) (d2 : Int32) (d3 : Int32) (h0 : Heap) (n0 : Nat) (O0 : Old Z n0 h0) (V_r0 : Arv Z h0 r0 k .byte z vs (.int 0)) (V_b : Arv Z h0 b kb .byte zo ws (.int 0)) (g_b : n0 ≤ b) (ne_r0_b : r0 ≠ b) (hd0 : Dg d0) (hd1 : Dg d1) (hd2 : Dg d2) (hd3 : Dg d3) (hat0 : vs.getD ((0 : Int32)).toNatClampNeg (.int 0) = .int (chv d0)) (hat1 : vs.getD ((1 : Int32)).toNatClampNeg (.int 0) = .int (chv d1)) (hat2 : vs.getD ((2 : Int32)).toNatClampNeg (.int 0) = .int (chv d2)) (hat3 : vs.getD ((3 : Int32)).toNatClampNeg (.int 0) = .int (chv d3)) (hb0 : ¬ (0 : Int32) < 0 ∧ (0 : Int32) < z) (hb1 : ¬ (1 : Int32) < 0 ∧ (1 : Int32) < z) (hb2 : ¬ (2 : Int32) < 0 ∧ (2 : Int32) < z) (hb3 : ¬ (3 : Int32) < 0 ∧ (3 : Int32) < z) (hi0 : ¬ (0 : Int32) < 0 ∧ (0 : Int32) < zo) (hi1 : ¬ (1 : Int32) < 0 ∧ (1 : Int32) < zo) (hi2 : ¬ (2 : Int32) < 0 ∧ (2 : Int32) < zo) (hl0 : 0 < ws.length) (hl1 : 1 < ws.length) (hl2 : 2 < ws.length) (hlt : (0 : Int32) < wh)
    (X0 : Stand p l e R s m args below meth c T0 locs cells slots) (hx : p.tables.exec = Jvm.exec) (hZ : Z.Warmed39 s.vm) (hby : c.code = prog_8_method_3_code) (hml : c.maxLocals = 9) (hown : s.vm.findClass "com/example/meerkat/meerkat/Base64Codec" = some m.cls) (e0 : T0.heap = h0) (N0 : Fr n0 locs) :
    ∃ (T' : State) (h' : Heap) (locs' : List Loc), Stand p l e R s m args below meth c T' locs' cells slots ∧ T'.heap = h' ∧ Fr n0 locs' ∧ Keep h0 h' [b] ∧ Arv Z h' b kb .byte zo (((ws.set 0 (.int ((((grp d0 d1 d2 d3) >>> ((16 : Int32) &&& 31)).toInt8.toInt32).toInt8.toInt32))).set 1 (.int ((((grp d0 d1 d2 d3) >>> ((8 : Int32) &&& 31)).toInt8.toInt32).toInt8.toInt32))).set 2 (.int (((grp d0 d1 d2 d3).toInt8.toInt32).toInt8.toInt32))) (.int 0) ∧ ∀ t, oP p e below T' (mkF m 100 #[oR r0, oI en, oI pt, oI pg, oR b, oI 3, oI wh, oI 4, oI (grp d0 d1 d2 d3)] []) t → oP p e below T0 (mkF m 100 #[oR r0, oI en, oI pt, oI pg, oR b, oI 0, oI wh, oI 0, oU] []) t := by
  have pre0 : ∀ t, oP p e below T0 (mkF m 100 #[oR r0, oI en, oI pt, oI pg, oR b, oI 0, oI wh, oI 0, oU] []) t → oP p e below T0 (mkF m 100 #[oR r0, oI en, oI pt, oI pg, oR b, oI 0, oI wh, oI 0, oU] []) t := fun t k => k
  obtain ⟨T69, X69, e69, st69⟩ := getS2 X0 hx hZ hown (host := "") (Or.inl (wi hw 26 rfl)) Via.refl e0 ((s_a_VALUES hS).ext O0.2) (g := (mkF m 107 #[oR r0, oI en, oI pt, oI pg, oR b, oI 0, oI wh, oI 0, oU] [])) rfl (hb hby d3_107)
  obtain ⟨cl70, Ac70, Sc70, Hc70⟩ := own_tabat (t_tab hS) hd0
  obtain ⟨T71, X71, e71, st71⟩ := getS2 X69 hx hZ hown (host := "") (Or.inl (wi hw 26 rfl)) Via.refl e69 ((s_a_VALUES hS).ext O0.2) (g := (mkF m 122 #[oR r0, oI en, oI pt, oI pg, oR b, oI 0, oI wh, oI 0, oU] [(.int (d0 <<< ((18 : Int32) &&& 31)))])) rfl (hb hby d3_122)
  obtain ⟨cl72, Ac72, Sc72, Hc72⟩ := own_tabat (t_tab hS) hd1
  obtain ⟨T73, X73, e73, st73⟩ := getS2 X71 hx hZ hown (host := "") (Or.inl (wi hw 26 rfl)) Via.refl e71 ((s_a_VALUES hS).ext O0.2) (g := (mkF m 140 #[oR r0, oI en, oI pt, oI pg, oR b, oI 0, oI wh, oI 0, oU] [(.int ((d0 <<< ((18 : Int32) &&& 31)) ||| (d1 <<< ((12 : Int32) &&& 31))))])) rfl (hb hby d3_140)
  obtain ⟨cl74, Ac74, Sc74, Hc74⟩ := own_tabat (t_tab hS) hd2
  obtain ⟨T75, X75, e75, st75⟩ := getS2 X73 hx hZ hown (host := "") (Or.inl (wi hw 26 rfl)) Via.refl e73 ((s_a_VALUES hS).ext O0.2) (g := (mkF m 158 #[oR r0, oI en, oI pt, oI pg, oR b, oI 0, oI wh, oI 0, oU] [(.int (((d0 <<< ((18 : Int32) &&& 31)) ||| (d1 <<< ((12 : Int32) &&& 31))) ||| (d2 <<< ((6 : Int32) &&& 31))))])) rfl (hb hby d3_158)
  obtain ⟨cl76, Ac76, Sc76, Hc76⟩ := own_tabat (t_tab hS) hd3
  obtain ⟨T77, h77, X77, e77, W77, V77', st77⟩ := own_stB X75 hx hZ e75 V_b (j := (0 : Int32)) hi0 rfl hl0 (g := (mkF m 201 #[oR r0, oI en, oI pt, oI pg, oR b, oI 1, oI wh, oI 0, oI (grp d0 d1 d2 d3)] [(.int (((grp d0 d1 d2 d3) >>> ((16 : Int32) &&& 31)).toInt8.toInt32)), (.int 0), (.ref b)])) rfl rfl (hb hby d3_201)
  have N77 := Fr.snoc X77 N0 g_b
  have O77 := O0.wr W77 g_b
  have Kc77 := (Keep.refl h0 [b]).wr W77 (Or.inl (List.mem_of_getElem? (i := 0) rfl))
  obtain ⟨T78, h78, X78, e78, W78, V78', st78⟩ := own_stB X77 hx hZ e77 V77' (j := (1 : Int32)) hi1 rfl (by rw [List.length_set]; exact hl1) (g := (mkF m 215 #[oR r0, oI en, oI pt, oI pg, oR b, oI 2, oI wh, oI 0, oI (grp d0 d1 d2 d3)] [(.int (((grp d0 d1 d2 d3) >>> ((8 : Int32) &&& 31)).toInt8.toInt32)), (.int 1), (.ref b)])) rfl rfl (hb hby d3_215)
  have N78 := Fr.snoc X78 N77 g_b
  have O78 := O77.wr W78 g_b
  have Kc78 := Kc77.wr W78 (Or.inl (List.mem_of_getElem? (i := 0) rfl))
  obtain ⟨T79, h79, X79, e79, W79, V79', st79⟩ := own_stB X78 hx hZ e78 V78' (j := (2 : Int32)) hi2 rfl (by rw [List.length_set, List.length_set]; exact hl2) (g := (mkF m 226 #[oR r0, oI en, oI pt, oI pg, oR b, oI 3, oI wh, oI 0, oI (grp d0 d1 d2 d3)] [(.int ((grp d0 d1 d2 d3).toInt8.toInt32)), (.int 2), (.ref b)])) rfl rfl (hb hby d3_226)
  have N79 := Fr.snoc X79 N78 g_b
  have O79 := O78.wr W79 g_b
  have Kc79 := Kc78.wr W79 (Or.inl (List.mem_of_getElem? (i := 0) rfl))
  refine ⟨T79, _, _, X79, e79, N79, Kc79, V79', fun t k => pre0 t ?_⟩
  show oP p e below T0 (mkF m 100 #[oR r0, oI en, oI pt, oI pg, oR b, oI 0, oI wh, oI 0, oU] []) _
  refine XS.iload X0.here hx rfl (hb hby d3_100) rfl ?_
  show oP p e below T0 (mkF m 102 #[oR r0, oI en, oI pt, oI pg, oR b, oI 0, oI wh, oI 0, oU] [(.int 0)]) _
  refine XS.iload X0.here hx rfl (hb hby d3_102) rfl ?_
  show oP p e below T0 (mkF m 104 #[oR r0, oI en, oI pt, oI pg, oR b, oI 0, oI wh, oI 0, oU] [(.int wh), (.int 0)]) _
  refine XS.icmpNo X0.here hx rfl (hb hby d3_104) rfl (tlt hlt).2.1 ?_
  show oP p e below T0 (mkF m 107 #[oR r0, oI en, oI pt, oI pg, oR b, oI 0, oI wh, oI 0, oU] []) _
  refine st69 _ ?_
  show oP p e below T69 (mkF m 110 #[oR r0, oI en, oI pt, oI pg, oR b, oI 0, oI wh, oI 0, oU] [(.ref (a_VALUES Z))]) _
  refine XS.aloadN X69.here hx rfl (hb hby d3_110) rfl rfl ?_
  refine XS.iload X69.here hx rfl (hb hby d3_111) rfl ?_
  show oP p e below T69 (mkF m 113 #[oR r0, oI en, oI pt, oI pg, oR b, oI 0, oI wh, oI 0, oU] [(.int 0), (.ref r0), (.ref (a_VALUES Z))]) _
  refine own_baload X69 hx hZ e69 V_r0 (j := (0 : Int32)) hb0 (v := (.int (chv d0))) hat0 (g := (mkF m 113 #[oR r0, oI en, oI pt, oI pg, oR b, oI 0, oI wh, oI 0, oU] [(.int 0), (.ref r0), (.ref (a_VALUES Z))])) rfl rfl (hb hby d3_113) _ ?_
  show oP p e below T69 (mkF m 114 #[oR r0, oI en, oI pt, oI pg, oR b, oI 0, oI wh, oI 0, oU] [(.int (chv d0)), (.ref (a_VALUES Z))]) _
  refine XS.sipush X69.here hx rfl (hb hby d3_114) ?_
  show oP p e below T69 (mkF m 117 #[oR r0, oI en, oI pt, oI pg, oR b, oI 0, oI wh, oI 0, oU] [(.int 255), (.int (chv d0)), (.ref (a_VALUES Z))]) _
  refine XS.iand X69.here hx rfl (hb hby d3_117) rfl ?_
  show oP p e below T69 (mkF m 118 #[oR r0, oI en, oI pt, oI pg, oR b, oI 0, oI wh, oI 0, oU] [(.int ((chv d0) &&& (255 : Int32))), (.ref (a_VALUES Z))]) _
  refine X69.iaload hx (by rw [e69]; exact (Ac70.ext O0.2).1) (State.isArrayOf_alike hZ.alike Ac70.2.1) Ac70.2.2 Sc70 Hc70 (g := (mkF m 118 #[oR r0, oI en, oI pt, oI pg, oR b, oI 0, oI wh, oI 0, oU] [(.int ((chv d0) &&& (255 : Int32))), (.ref (a_VALUES Z))])) rfl rfl (hb hby d3_118) _ ?_
  show oP p e below T69 (mkF m 119 #[oR r0, oI en, oI pt, oI pg, oR b, oI 0, oI wh, oI 0, oU] [(.int d0)]) _
  refine XS.bipush X69.here hx rfl (hb hby d3_119) ?_
  refine XS.ishl X69.here hx rfl (hb hby d3_121) rfl ?_
  show oP p e below T69 (mkF m 122 #[oR r0, oI en, oI pt, oI pg, oR b, oI 0, oI wh, oI 0, oU] [(.int (d0 <<< ((18 : Int32) &&& 31)))]) _
  refine st71 _ ?_
  show oP p e below T71 (mkF m 125 #[oR r0, oI en, oI pt, oI pg, oR b, oI 0, oI wh, oI 0, oU] [(.ref (a_VALUES Z)), (.int (d0 <<< ((18 : Int32) &&& 31)))]) _
  refine XS.aloadN X71.here hx rfl (hb hby d3_125) rfl rfl ?_
  refine XS.iload X71.here hx rfl (hb hby d3_126) rfl ?_
  show oP p e below T71 (mkF m 128 #[oR r0, oI en, oI pt, oI pg, oR b, oI 0, oI wh, oI 0, oU] [(.int 0), (.ref r0), (.ref (a_VALUES Z)), (.int (d0 <<< ((18 : Int32) &&& 31)))]) _
  refine XS.iconst X71.here hx rfl (hb hby d3_128) ?_
  refine XS.iadd X71.here hx rfl (hb hby d3_129) rfl ?_
  show oP p e below T71 (mkF m 130 #[oR r0, oI en, oI pt, oI pg, oR b, oI 0, oI wh, oI 0, oU] [(.int 1), (.ref r0), (.ref (a_VALUES Z)), (.int (d0 <<< ((18 : Int32) &&& 31)))]) _
  refine own_baload X71 hx hZ e71 V_r0 (j := (1 : Int32)) hb1 (v := (.int (chv d1))) hat1 (g := (mkF m 130 #[oR r0, oI en, oI pt, oI pg, oR b, oI 0, oI wh, oI 0, oU] [(.int 1), (.ref r0), (.ref (a_VALUES Z)), (.int (d0 <<< ((18 : Int32) &&& 31)))])) rfl rfl (hb hby d3_130) _ ?_
  show oP p e below T71 (mkF m 131 #[oR r0, oI en, oI pt, oI pg, oR b, oI 0, oI wh, oI 0, oU] [(.int (chv d1)), (.ref (a_VALUES Z)), (.int (d0 <<< ((18 : Int32) &&& 31)))]) _
  refine XS.sipush X71.here hx rfl (hb hby d3_131) ?_
  show oP p e below T71 (mkF m 134 #[oR r0, oI en, oI pt, oI pg, oR b, oI 0, oI wh, oI 0, oU] [(.int 255), (.int (chv d1)), (.ref (a_VALUES Z)), (.int (d0 <<< ((18 : Int32) &&& 31)))]) _
  refine XS.iand X71.here hx rfl (hb hby d3_134) rfl ?_
  show oP p e below T71 (mkF m 135 #[oR r0, oI en, oI pt, oI pg, oR b, oI 0, oI wh, oI 0, oU] [(.int ((chv d1) &&& (255 : Int32))), (.ref (a_VALUES Z)), (.int (d0 <<< ((18 : Int32) &&& 31)))]) _
  refine X71.iaload hx (by rw [e71]; exact (Ac72.ext O0.2).1) (State.isArrayOf_alike hZ.alike Ac72.2.1) Ac72.2.2 Sc72 Hc72 (g := (mkF m 135 #[oR r0, oI en, oI pt, oI pg, oR b, oI 0, oI wh, oI 0, oU] [(.int ((chv d1) &&& (255 : Int32))), (.ref (a_VALUES Z)), (.int (d0 <<< ((18 : Int32) &&& 31)))])) rfl rfl (hb hby d3_135) _ ?_
  show oP p e below T71 (mkF m 136 #[oR r0, oI en, oI pt, oI pg, oR b, oI 0, oI wh, oI 0, oU] [(.int d1), (.int (d0 <<< ((18 : Int32) &&& 31)))]) _
  refine XS.bipush X71.here hx rfl (hb hby d3_136) ?_
  refine XS.ishl X71.here hx rfl (hb hby d3_138) rfl ?_
  show oP p e below T71 (mkF m 139 #[oR r0, oI en, oI pt, oI pg, oR b, oI 0, oI wh, oI 0, oU] [(.int (d1 <<< ((12 : Int32) &&& 31))), (.int (d0 <<< ((18 : Int32) &&& 31)))]) _
  refine XS.ior X71.here hx rfl (hb hby d3_139) rfl ?_
  show oP p e below T71 (mkF m 140 #[oR r0, oI en, oI pt, oI pg, oR b, oI 0, oI wh, oI 0, oU] [(.int ((d0 <<< ((18 : Int32) &&& 31)) ||| (d1 <<< ((12 : Int32) &&& 31))))]) _
  refine st73 _ ?_
  show oP p e below T73 (mkF m 143 #[oR r0, oI en, oI pt, oI pg, oR b, oI 0, oI wh, oI 0, oU] [(.ref (a_VALUES Z)), (.int ((d0 <<< ((18 : Int32) &&& 31)) ||| (d1 <<< ((12 : Int32) &&& 31))))]) _
  refine XS.aloadN X73.here hx rfl (hb hby d3_143) rfl rfl ?_
  refine XS.iload X73.here hx rfl (hb hby d3_144) rfl ?_
  show oP p e below T73 (mkF m 146 #[oR r0, oI en, oI pt, oI pg, oR b, oI 0, oI wh, oI 0, oU] [(.int 0), (.ref r0), (.ref (a_VALUES Z)), (.int ((d0 <<< ((18 : Int32) &&& 31)) ||| (d1 <<< ((12 : Int32) &&& 31))))]) _
  refine XS.iconst X73.here hx rfl (hb hby d3_146) ?_
  refine XS.iadd X73.here hx rfl (hb hby d3_147) rfl ?_
  show oP p e below T73 (mkF m 148 #[oR r0, oI en, oI pt, oI pg, oR b, oI 0, oI wh, oI 0, oU] [(.int 2), (.ref r0), (.ref (a_VALUES Z)), (.int ((d0 <<< ((18 : Int32) &&& 31)) ||| (d1 <<< ((12 : Int32) &&& 31))))]) _
  refine own_baload X73 hx hZ e73 V_r0 (j := (2 : Int32)) hb2 (v := (.int (chv d2))) hat2 (g := (mkF m 148 #[oR r0, oI en, oI pt, oI pg, oR b, oI 0, oI wh, oI 0, oU] [(.int 2), (.ref r0), (.ref (a_VALUES Z)), (.int ((d0 <<< ((18 : Int32) &&& 31)) ||| (d1 <<< ((12 : Int32) &&& 31))))])) rfl rfl (hb hby d3_148) _ ?_
  show oP p e below T73 (mkF m 149 #[oR r0, oI en, oI pt, oI pg, oR b, oI 0, oI wh, oI 0, oU] [(.int (chv d2)), (.ref (a_VALUES Z)), (.int ((d0 <<< ((18 : Int32) &&& 31)) ||| (d1 <<< ((12 : Int32) &&& 31))))]) _
  refine XS.sipush X73.here hx rfl (hb hby d3_149) ?_
  show oP p e below T73 (mkF m 152 #[oR r0, oI en, oI pt, oI pg, oR b, oI 0, oI wh, oI 0, oU] [(.int 255), (.int (chv d2)), (.ref (a_VALUES Z)), (.int ((d0 <<< ((18 : Int32) &&& 31)) ||| (d1 <<< ((12 : Int32) &&& 31))))]) _
  refine XS.iand X73.here hx rfl (hb hby d3_152) rfl ?_
  show oP p e below T73 (mkF m 153 #[oR r0, oI en, oI pt, oI pg, oR b, oI 0, oI wh, oI 0, oU] [(.int ((chv d2) &&& (255 : Int32))), (.ref (a_VALUES Z)), (.int ((d0 <<< ((18 : Int32) &&& 31)) ||| (d1 <<< ((12 : Int32) &&& 31))))]) _
  refine X73.iaload hx (by rw [e73]; exact (Ac74.ext O0.2).1) (State.isArrayOf_alike hZ.alike Ac74.2.1) Ac74.2.2 Sc74 Hc74 (g := (mkF m 153 #[oR r0, oI en, oI pt, oI pg, oR b, oI 0, oI wh, oI 0, oU] [(.int ((chv d2) &&& (255 : Int32))), (.ref (a_VALUES Z)), (.int ((d0 <<< ((18 : Int32) &&& 31)) ||| (d1 <<< ((12 : Int32) &&& 31))))])) rfl rfl (hb hby d3_153) _ ?_
  show oP p e below T73 (mkF m 154 #[oR r0, oI en, oI pt, oI pg, oR b, oI 0, oI wh, oI 0, oU] [(.int d2), (.int ((d0 <<< ((18 : Int32) &&& 31)) ||| (d1 <<< ((12 : Int32) &&& 31))))]) _
  refine XS.bipush X73.here hx rfl (hb hby d3_154) ?_
  refine XS.ishl X73.here hx rfl (hb hby d3_156) rfl ?_
  show oP p e below T73 (mkF m 157 #[oR r0, oI en, oI pt, oI pg, oR b, oI 0, oI wh, oI 0, oU] [(.int (d2 <<< ((6 : Int32) &&& 31))), (.int ((d0 <<< ((18 : Int32) &&& 31)) ||| (d1 <<< ((12 : Int32) &&& 31))))]) _
  refine XS.ior X73.here hx rfl (hb hby d3_157) rfl ?_
  show oP p e below T73 (mkF m 158 #[oR r0, oI en, oI pt, oI pg, oR b, oI 0, oI wh, oI 0, oU] [(.int (((d0 <<< ((18 : Int32) &&& 31)) ||| (d1 <<< ((12 : Int32) &&& 31))) ||| (d2 <<< ((6 : Int32) &&& 31))))]) _
  refine st75 _ ?_
  show oP p e below T75 (mkF m 161 #[oR r0, oI en, oI pt, oI pg, oR b, oI 0, oI wh, oI 0, oU] [(.ref (a_VALUES Z)), (.int (((d0 <<< ((18 : Int32) &&& 31)) ||| (d1 <<< ((12 : Int32) &&& 31))) ||| (d2 <<< ((6 : Int32) &&& 31))))]) _
  refine XS.aloadN X75.here hx rfl (hb hby d3_161) rfl rfl ?_
  refine XS.iload X75.here hx rfl (hb hby d3_162) rfl ?_
  show oP p e below T75 (mkF m 164 #[oR r0, oI en, oI pt, oI pg, oR b, oI 0, oI wh, oI 0, oU] [(.int 0), (.ref r0), (.ref (a_VALUES Z)), (.int (((d0 <<< ((18 : Int32) &&& 31)) ||| (d1 <<< ((12 : Int32) &&& 31))) ||| (d2 <<< ((6 : Int32) &&& 31))))]) _
  refine XS.iconst X75.here hx rfl (hb hby d3_164) ?_
  refine XS.iadd X75.here hx rfl (hb hby d3_165) rfl ?_
  show oP p e below T75 (mkF m 166 #[oR r0, oI en, oI pt, oI pg, oR b, oI 0, oI wh, oI 0, oU] [(.int 3), (.ref r0), (.ref (a_VALUES Z)), (.int (((d0 <<< ((18 : Int32) &&& 31)) ||| (d1 <<< ((12 : Int32) &&& 31))) ||| (d2 <<< ((6 : Int32) &&& 31))))]) _
  refine own_baload X75 hx hZ e75 V_r0 (j := (3 : Int32)) hb3 (v := (.int (chv d3))) hat3 (g := (mkF m 166 #[oR r0, oI en, oI pt, oI pg, oR b, oI 0, oI wh, oI 0, oU] [(.int 3), (.ref r0), (.ref (a_VALUES Z)), (.int (((d0 <<< ((18 : Int32) &&& 31)) ||| (d1 <<< ((12 : Int32) &&& 31))) ||| (d2 <<< ((6 : Int32) &&& 31))))])) rfl rfl (hb hby d3_166) _ ?_
  show oP p e below T75 (mkF m 167 #[oR r0, oI en, oI pt, oI pg, oR b, oI 0, oI wh, oI 0, oU] [(.int (chv d3)), (.ref (a_VALUES Z)), (.int (((d0 <<< ((18 : Int32) &&& 31)) ||| (d1 <<< ((12 : Int32) &&& 31))) ||| (d2 <<< ((6 : Int32) &&& 31))))]) _
  refine XS.sipush X75.here hx rfl (hb hby d3_167) ?_
  show oP p e below T75 (mkF m 170 #[oR r0, oI en, oI pt, oI pg, oR b, oI 0, oI wh, oI 0, oU] [(.int 255), (.int (chv d3)), (.ref (a_VALUES Z)), (.int (((d0 <<< ((18 : Int32) &&& 31)) ||| (d1 <<< ((12 : Int32) &&& 31))) ||| (d2 <<< ((6 : Int32) &&& 31))))]) _
  refine XS.iand X75.here hx rfl (hb hby d3_170) rfl ?_
  show oP p e below T75 (mkF m 171 #[oR r0, oI en, oI pt, oI pg, oR b, oI 0, oI wh, oI 0, oU] [(.int ((chv d3) &&& (255 : Int32))), (.ref (a_VALUES Z)), (.int (((d0 <<< ((18 : Int32) &&& 31)) ||| (d1 <<< ((12 : Int32) &&& 31))) ||| (d2 <<< ((6 : Int32) &&& 31))))]) _
  refine X75.iaload hx (by rw [e75]; exact (Ac76.ext O0.2).1) (State.isArrayOf_alike hZ.alike Ac76.2.1) Ac76.2.2 Sc76 Hc76 (g := (mkF m 171 #[oR r0, oI en, oI pt, oI pg, oR b, oI 0, oI wh, oI 0, oU] [(.int ((chv d3) &&& (255 : Int32))), (.ref (a_VALUES Z)), (.int (((d0 <<< ((18 : Int32) &&& 31)) ||| (d1 <<< ((12 : Int32) &&& 31))) ||| (d2 <<< ((6 : Int32) &&& 31))))])) rfl rfl (hb hby d3_171) _ ?_
  show oP p e below T75 (mkF m 172 #[oR r0, oI en, oI pt, oI pg, oR b, oI 0, oI wh, oI 0, oU] [(.int d3), (.int (((d0 <<< ((18 : Int32) &&& 31)) ||| (d1 <<< ((12 : Int32) &&& 31))) ||| (d2 <<< ((6 : Int32) &&& 31))))]) _
  refine XS.ior X75.here hx rfl (hb hby d3_172) rfl ?_
  show oP p e below T75 (mkF m 173 #[oR r0, oI en, oI pt, oI pg, oR b, oI 0, oI wh, oI 0, oU] [(.int (grp d0 d1 d2 d3))]) _
  refine XS.istore X75.here hx rfl (hb hby d3_173) rfl (l' := #[oR r0, oI en, oI pt, oI pg, oR b, oI 0, oI wh, oI 0, oI (grp d0 d1 d2 d3)]) rfl ?_
  show oP p e below T75 (mkF m 175 #[oR r0, oI en, oI pt, oI pg, oR b, oI 0, oI wh, oI 0, oI (grp d0 d1 d2 d3)] []) _
  refine XS.iload X75.here hx rfl (hb hby d3_175) rfl ?_
  show oP p e below T75 (mkF m 177 #[oR r0, oI en, oI pt, oI pg, oR b, oI 0, oI wh, oI 0, oI (grp d0 d1 d2 d3)] [(.int (grp d0 d1 d2 d3))]) _
  refine XS.ifYes X75.here hx rfl (pc0 := 177) (pc' := 188) rfl (hb hby d3_177) rfl ((if0 _ _).trans (flt (grp_nn hd0 hd1 hd2 hd3)).2.1) (by decide) (by decide) ?_
  show oP p e below T75 (mkF m 188 #[oR r0, oI en, oI pt, oI pg, oR b, oI 0, oI wh, oI 0, oI (grp d0 d1 d2 d3)] []) _
  refine XS.aload X75.here hx rfl (hb hby d3_188) rfl rfl ?_
  show oP p e below T75 (mkF m 190 #[oR r0, oI en, oI pt, oI pg, oR b, oI 0, oI wh, oI 0, oI (grp d0 d1 d2 d3)] [(.ref b)]) _
  refine XS.iload X75.here hx rfl (hb hby d3_190) rfl ?_
  show oP p e below T75 (mkF m 192 #[oR r0, oI en, oI pt, oI pg, oR b, oI 0, oI wh, oI 0, oI (grp d0 d1 d2 d3)] [(.int 0), (.ref b)]) _
  refine XS.iinc X75.here hx rfl (hb hby d3_192) rfl (l' := #[oR r0, oI en, oI pt, oI pg, oR b, oI 1, oI wh, oI 0, oI (grp d0 d1 d2 d3)]) rfl ?_
  show oP p e below T75 (mkF m 195 #[oR r0, oI en, oI pt, oI pg, oR b, oI 1, oI wh, oI 0, oI (grp d0 d1 d2 d3)] [(.int 0), (.ref b)]) _
  refine XS.iload X75.here hx rfl (hb hby d3_195) rfl ?_
  show oP p e below T75 (mkF m 197 #[oR r0, oI en, oI pt, oI pg, oR b, oI 1, oI wh, oI 0, oI (grp d0 d1 d2 d3)] [(.int (grp d0 d1 d2 d3)), (.int 0), (.ref b)]) _
  refine XS.bipush X75.here hx rfl (hb hby d3_197) ?_
  refine XS.ishr X75.here hx rfl (hb hby d3_199) rfl ?_
  show oP p e below T75 (mkF m 200 #[oR r0, oI en, oI pt, oI pg, oR b, oI 1, oI wh, oI 0, oI (grp d0 d1 d2 d3)] [(.int ((grp d0 d1 d2 d3) >>> ((16 : Int32) &&& 31))), (.int 0), (.ref b)]) _
  refine XS.i2b X75.here hx rfl (hb hby d3_200) rfl ?_
  show oP p e below T75 (mkF m 201 #[oR r0, oI en, oI pt, oI pg, oR b, oI 1, oI wh, oI 0, oI (grp d0 d1 d2 d3)] [(.int (((grp d0 d1 d2 d3) >>> ((16 : Int32) &&& 31)).toInt8.toInt32)), (.int 0), (.ref b)]) _
  refine st77 _ ?_
  show oP p e below T77 (mkF m 202 #[oR r0, oI en, oI pt, oI pg, oR b, oI 1, oI wh, oI 0, oI (grp d0 d1 d2 d3)] []) _
  refine XS.aload X77.here hx rfl (hb hby d3_202) rfl rfl ?_
  show oP p e below T77 (mkF m 204 #[oR r0, oI en, oI pt, oI pg, oR b, oI 1, oI wh, oI 0, oI (grp d0 d1 d2 d3)] [(.ref b)]) _
  refine XS.iload X77.here hx rfl (hb hby d3_204) rfl ?_
  show oP p e below T77 (mkF m 206 #[oR r0, oI en, oI pt, oI pg, oR b, oI 1, oI wh, oI 0, oI (grp d0 d1 d2 d3)] [(.int 1), (.ref b)]) _
  refine XS.iinc X77.here hx rfl (hb hby d3_206) rfl (l' := #[oR r0, oI en, oI pt, oI pg, oR b, oI 2, oI wh, oI 0, oI (grp d0 d1 d2 d3)]) rfl ?_
  show oP p e below T77 (mkF m 209 #[oR r0, oI en, oI pt, oI pg, oR b, oI 2, oI wh, oI 0, oI (grp d0 d1 d2 d3)] [(.int 1), (.ref b)]) _
  refine XS.iload X77.here hx rfl (hb hby d3_209) rfl ?_
  show oP p e below T77 (mkF m 211 #[oR r0, oI en, oI pt, oI pg, oR b, oI 2, oI wh, oI 0, oI (grp d0 d1 d2 d3)] [(.int (grp d0 d1 d2 d3)), (.int 1), (.ref b)]) _
  refine XS.bipush X77.here hx rfl (hb hby d3_211) ?_
  refine XS.ishr X77.here hx rfl (hb hby d3_213) rfl ?_
  show oP p e below T77 (mkF m 214 #[oR r0, oI en, oI pt, oI pg, oR b, oI 2, oI wh, oI 0, oI (grp d0 d1 d2 d3)] [(.int ((grp d0 d1 d2 d3) >>> ((8 : Int32) &&& 31))), (.int 1), (.ref b)]) _
  refine XS.i2b X77.here hx rfl (hb hby d3_214) rfl ?_
  show oP p e below T77 (mkF m 215 #[oR r0, oI en, oI pt, oI pg, oR b, oI 2, oI wh, oI 0, oI (grp d0 d1 d2 d3)] [(.int (((grp d0 d1 d2 d3) >>> ((8 : Int32) &&& 31)).toInt8.toInt32)), (.int 1), (.ref b)]) _
  refine st78 _ ?_
  show oP p e below T78 (mkF m 216 #[oR r0, oI en, oI pt, oI pg, oR b, oI 2, oI wh, oI 0, oI (grp d0 d1 d2 d3)] []) _
  refine XS.aload X78.here hx rfl (hb hby d3_216) rfl rfl ?_
  show oP p e below T78 (mkF m 218 #[oR r0, oI en, oI pt, oI pg, oR b, oI 2, oI wh, oI 0, oI (grp d0 d1 d2 d3)] [(.ref b)]) _
  refine XS.iload X78.here hx rfl (hb hby d3_218) rfl ?_
  show oP p e below T78 (mkF m 220 #[oR r0, oI en, oI pt, oI pg, oR b, oI 2, oI wh, oI 0, oI (grp d0 d1 d2 d3)] [(.int 2), (.ref b)]) _
  refine XS.iinc X78.here hx rfl (hb hby d3_220) rfl (l' := #[oR r0, oI en, oI pt, oI pg, oR b, oI 3, oI wh, oI 0, oI (grp d0 d1 d2 d3)]) rfl ?_
  show oP p e below T78 (mkF m 223 #[oR r0, oI en, oI pt, oI pg, oR b, oI 3, oI wh, oI 0, oI (grp d0 d1 d2 d3)] [(.int 2), (.ref b)]) _
  refine XS.iload X78.here hx rfl (hb hby d3_223) rfl ?_
  show oP p e below T78 (mkF m 225 #[oR r0, oI en, oI pt, oI pg, oR b, oI 3, oI wh, oI 0, oI (grp d0 d1 d2 d3)] [(.int (grp d0 d1 d2 d3)), (.int 2), (.ref b)]) _
  refine XS.i2b X78.here hx rfl (hb hby d3_225) rfl ?_
  show oP p e below T78 (mkF m 226 #[oR r0, oI en, oI pt, oI pg, oR b, oI 3, oI wh, oI 0, oI (grp d0 d1 d2 d3)] [(.int ((grp d0 d1 d2 d3).toInt8.toInt32)), (.int 2), (.ref b)]) _
  refine st79 _ ?_
  show oP p e below T79 (mkF m 227 #[oR r0, oI en, oI pt, oI pg, oR b, oI 3, oI wh, oI 0, oI (grp d0 d1 d2 d3)] []) _
  refine XS.iinc X79.here hx rfl (hb hby d3_227) rfl (l' := #[oR r0, oI en, oI pt, oI pg, oR b, oI 3, oI wh, oI 4, oI (grp d0 d1 d2 d3)]) rfl ?_
  show oP p e below T79 (mkF m 230 #[oR r0, oI en, oI pt, oI pg, oR b, oI 3, oI wh, oI 4, oI (grp d0 d1 d2 d3)] []) _
  refine XS.goto X79.here hx rfl (pc0 := 230) (pc' := 100) rfl (hb hby d3_230) (by decide) (by decide) ?_
  exact k
set_option maxRecDepth 65536 in
set_option maxHeartbeats 40000000 in
theorem tn3_4 {p : Program} {l : Launch} {e : Env} {R : Room} {s : State} {m : MethodId} {args : Array Value} {below : List Frame} {meth : Method} {c : Code} {T0 : State} {locs : List Loc} {cells slots : Nat} (Z : State) (a0 : Array Value) (hw : ∀ d ∈ tables_1, d.before a0 Z = true) (hS : St Z) (r0 : Addr) (b : Addr) (en : Int32) (pt : Int32) (pg : Int32) (wh : Int32) (x8 : Int32) (k : ClassId) (z : Int32) (vs : List Value) (kb : ClassId) (zo : Int32) (ws : List Value) (d0 : Int32) (d1 : Int32) (d2 : Int32) (d3 : Int32) (h0 : Heap) (n0 : Nat) (O0 : Old Z n0 h0) (V_r0 : Arv Z h0 r0 k .byte z vs (.int 0)) (V_b : Arv Z h0 b kb .byte zo ws (.int 0)) (g_b : n0 ≤ b) (ne_r0_b : r0 ≠ b) (hd0 : Dg d0) (hd1 : Dg d1) (hd2 : Dg d2) (hd3 : Dg d3) (hat0 : vs.getD ((4 : Int32)).toNatClampNeg (.int 0) = .int (chv d0)) (hat1 : vs.getD ((5 : Int32)).toNatClampNeg (.int 0) = .int (chv d1)) (hat2 : vs.getD ((6 : Int32)).toNatClampNeg (.int 0) = .int (chv d2)) (hat3 : vs.getD ((7 : Int32)).toNatClampNeg (.int 0) = .int (chv d3)) (hb0 : ¬ (4 : Int32) < 0 ∧ (4 : Int32) < z) (hb1 : ¬ (5 : Int32) < 0 ∧ (5 : Int32) < z) (hb2 : ¬ (6 : Int32) < 0 ∧ (6 : Int32) < z) (hb3 : ¬ (7 : Int32) < 0 ∧ (7 : Int32) < z) (hi0 : ¬ (3 : Int32) < 0 ∧ (3 : Int32) < zo) (hi1 : ¬ (4 : Int32) < 0 ∧ (4 : Int32) < zo) (hi2 : ¬ (5 : Int32) < 0 ∧ (5 : Int32) < zo) (hl0 : 3 < ws.length) (hl1 : 4 < ws.length) (hl2 : 5 < ws.length) (hlt : (4 : Int32) < wh)
    (X0 : Stand p l e R s m args below meth c T0 locs cells slots) (hx : p.tables.exec = Jvm.exec) (hZ : Z.Warmed39 s.vm) (hby : c.code = prog_8_method_3_code) (hml : c.maxLocals = 9) (hown : s.vm.findClass "com/example/meerkat/meerkat/Base64Codec" = some m.cls) (e0 : T0.heap = h0) (N0 : Fr n0 locs) :
    ∃ (T' : State) (h' : Heap) (locs' : List Loc), Stand p l e R s m args below meth c T' locs' cells slots ∧ T'.heap = h' ∧ Fr n0 locs' ∧ Keep h0 h' [b] ∧ Arv Z h' b kb .byte zo (((ws.set 3 (.int ((((grp d0 d1 d2 d3) >>> ((16 : Int32) &&& 31)).toInt8.toInt32).toInt8.toInt32))).set 4 (.int ((((grp d0 d1 d2 d3) >>> ((8 : Int32) &&& 31)).toInt8.toInt32).toInt8.toInt32))).set 5 (.int (((grp d0 d1 d2 d3).toInt8.toInt32).toInt8.toInt32))) (.int 0) ∧ ∀ t, oP p e below T' (mkF m 100 #[oR r0, oI en, oI pt, oI pg, oR b, oI 6, oI wh, oI 8, oI (grp d0 d1 d2 d3)] []) t → oP p e below T0 (mkF m 100 #[oR r0, oI en, oI pt, oI pg, oR b, oI 3, oI wh, oI 4, oI x8] []) t := by
  have pre0 : ∀ t, oP p e below T0 (mkF m 100 #[oR r0, oI en, oI pt, oI pg, oR b, oI 3, oI wh, oI 4, oI x8] []) t → oP p e below T0 (mkF m 100 #[oR r0, oI en, oI pt, oI pg, oR b, oI 3, oI wh, oI 4, oI x8] []) t := fun t k => k
  obtain ⟨T80, X80, e80, st80⟩ := getS2 X0 hx hZ hown (host := "") (Or.inl (wi hw 26 rfl)) Via.refl e0 ((s_a_VALUES hS).ext O0.2) (g := (mkF m 107 #[oR r0, oI en, oI pt, oI pg, oR b, oI 3, oI wh, oI 4, oI x8] [])) rfl (hb hby d3_107)
  obtain ⟨cl81, Ac81, Sc81, Hc81⟩ := own_tabat (t_tab hS) hd0
  obtain ⟨T82, X82, e82, st82⟩ := getS2 X80 hx hZ hown (host := "") (Or.inl (wi hw 26 rfl)) Via.refl e80 ((s_a_VALUES hS).ext O0.2) (g := (mkF m 122 #[oR r0, oI en, oI pt, oI pg, oR b, oI 3, oI wh, oI 4, oI x8] [(.int (d0 <<< ((18 : Int32) &&& 31)))])) rfl (hb hby d3_122)
  obtain ⟨cl83, Ac83, Sc83, Hc83⟩ := own_tabat (t_tab hS) hd1
  obtain ⟨T84, X84, e84, st84⟩ := getS2 X82 hx hZ hown (host := "") (Or.inl (wi hw 26 rfl)) Via.refl e82 ((s_a_VALUES hS).ext O0.2) (g := (mkF m 140 #[oR r0, oI en, oI pt, oI pg, oR b, oI 3, oI wh, oI 4, oI x8] [(.int ((d0 <<< ((18 : Int32) &&& 31)) ||| (d1 <<< ((12 : Int32) &&& 31))))])) rfl (hb hby d3_140)
  obtain ⟨cl85, Ac85, Sc85, Hc85⟩ := own_tabat (t_tab hS) hd2
  obtain ⟨T86, X86, e86, st86⟩ := getS2 X84 hx hZ hown (host := "") (Or.inl (wi hw 26 rfl)) Via.refl e84 ((s_a_VALUES hS).ext O0.2) (g := (mkF m 158 #[oR r0, oI en, oI pt, oI pg, oR b, oI 3, oI wh, oI 4, oI x8] [(.int (((d0 <<< ((18 : Int32) &&& 31)) ||| (d1 <<< ((12 : Int32) &&& 31))) ||| (d2 <<< ((6 : Int32) &&& 31))))])) rfl (hb hby d3_158)
  obtain ⟨cl87, Ac87, Sc87, Hc87⟩ := own_tabat (t_tab hS) hd3
  obtain ⟨T88, h88, X88, e88, W88, V88', st88⟩ := own_stB X86 hx hZ e86 V_b (j := (3 : Int32)) hi0 rfl hl0 (g := (mkF m 201 #[oR r0, oI en, oI pt, oI pg, oR b, oI 4, oI wh, oI 4, oI (grp d0 d1 d2 d3)] [(.int (((grp d0 d1 d2 d3) >>> ((16 : Int32) &&& 31)).toInt8.toInt32)), (.int 3), (.ref b)])) rfl rfl (hb hby d3_201)
  have N88 := Fr.snoc X88 N0 g_b
  have O88 := O0.wr W88 g_b
  have Kc88 := (Keep.refl h0 [b]).wr W88 (Or.inl (List.mem_of_getElem? (i := 0) rfl))
  obtain ⟨T89, h89, X89, e89, W89, V89', st89⟩ := own_stB X88 hx hZ e88 V88' (j := (4 : Int32)) hi1 rfl (by rw [List.length_set]; exact hl1) (g := (mkF m 215 #[oR r0, oI en, oI pt, oI pg, oR b, oI 5, oI wh, oI 4, oI (grp d0 d1 d2 d3)] [(.int (((grp d0 d1 d2 d3) >>> ((8 : Int32) &&& 31)).toInt8.toInt32)), (.int 4), (.ref b)])) rfl rfl (hb hby d3_215)
  have N89 := Fr.snoc X89 N88 g_b
  have O89 := O88.wr W89 g_b
  have Kc89 := Kc88.wr W89 (Or.inl (List.mem_of_getElem? (i := 0) rfl))
  obtain ⟨T90, h90, X90, e90, W90, V90', st90⟩ := own_stB X89 hx hZ e89 V89' (j := (5 : Int32)) hi2 rfl (by rw [List.length_set, List.length_set]; exact hl2) (g := (mkF m 226 #[oR r0, oI en, oI pt, oI pg, oR b, oI 6, oI wh, oI 4, oI (grp d0 d1 d2 d3)] [(.int ((grp d0 d1 d2 d3).toInt8.toInt32)), (.int 5), (.ref b)])) rfl rfl (hb hby d3_226)
  have N90 := Fr.snoc X90 N89 g_b
  have O90 := O89.wr W90 g_b
  have Kc90 := Kc89.wr W90 (Or.inl (List.mem_of_getElem? (i := 0) rfl))
  refine ⟨T90, _, _, X90, e90, N90, Kc90, V90', fun t k => pre0 t ?_⟩
  show oP p e below T0 (mkF m 100 #[oR r0, oI en, oI pt, oI pg, oR b, oI 3, oI wh, oI 4, oI x8] []) _
  refine XS.iload X0.here hx rfl (hb hby d3_100) rfl ?_
  show oP p e below T0 (mkF m 102 #[oR r0, oI en, oI pt, oI pg, oR b, oI 3, oI wh, oI 4, oI x8] [(.int 4)]) _
  refine XS.iload X0.here hx rfl (hb hby d3_102) rfl ?_
  show oP p e below T0 (mkF m 104 #[oR r0, oI en, oI pt, oI pg, oR b, oI 3, oI wh, oI 4, oI x8] [(.int wh), (.int 4)]) _
  refine XS.icmpNo X0.here hx rfl (hb hby d3_104) rfl (tlt hlt).2.1 ?_
  show oP p e below T0 (mkF m 107 #[oR r0, oI en, oI pt, oI pg, oR b, oI 3, oI wh, oI 4, oI x8] []) _
  refine st80 _ ?_
  show oP p e below T80 (mkF m 110 #[oR r0, oI en, oI pt, oI pg, oR b, oI 3, oI wh, oI 4, oI x8] [(.ref (a_VALUES Z))]) _
  refine XS.aloadN X80.here hx rfl (hb hby d3_110) rfl rfl ?_
  refine XS.iload X80.here hx rfl (hb hby d3_111) rfl ?_
  show oP p e below T80 (mkF m 113 #[oR r0, oI en, oI pt, oI pg, oR b, oI 3, oI wh, oI 4, oI x8] [(.int 4), (.ref r0), (.ref (a_VALUES Z))]) _
  refine own_baload X80 hx hZ e80 V_r0 (j := (4 : Int32)) hb0 (v := (.int (chv d0))) hat0 (g := (mkF m 113 #[oR r0, oI en, oI pt, oI pg, oR b, oI 3, oI wh, oI 4, oI x8] [(.int 4), (.ref r0), (.ref (a_VALUES Z))])) rfl rfl (hb hby d3_113) _ ?_
  show oP p e below T80 (mkF m 114 #[oR r0, oI en, oI pt, oI pg, oR b, oI 3, oI wh, oI 4, oI x8] [(.int (chv d0)), (.ref (a_VALUES Z))]) _
  refine XS.sipush X80.here hx rfl (hb hby d3_114) ?_
  show oP p e below T80 (mkF m 117 #[oR r0, oI en, oI pt, oI pg, oR b, oI 3, oI wh, oI 4, oI x8] [(.int 255), (.int (chv d0)), (.ref (a_VALUES Z))]) _
  refine XS.iand X80.here hx rfl (hb hby d3_117) rfl ?_
  show oP p e below T80 (mkF m 118 #[oR r0, oI en, oI pt, oI pg, oR b, oI 3, oI wh, oI 4, oI x8] [(.int ((chv d0) &&& (255 : Int32))), (.ref (a_VALUES Z))]) _
  refine X80.iaload hx (by rw [e80]; exact (Ac81.ext O0.2).1) (State.isArrayOf_alike hZ.alike Ac81.2.1) Ac81.2.2 Sc81 Hc81 (g := (mkF m 118 #[oR r0, oI en, oI pt, oI pg, oR b, oI 3, oI wh, oI 4, oI x8] [(.int ((chv d0) &&& (255 : Int32))), (.ref (a_VALUES Z))])) rfl rfl (hb hby d3_118) _ ?_
  show oP p e below T80 (mkF m 119 #[oR r0, oI en, oI pt, oI pg, oR b, oI 3, oI wh, oI 4, oI x8] [(.int d0)]) _
  refine XS.bipush X80.here hx rfl (hb hby d3_119) ?_
  refine XS.ishl X80.here hx rfl (hb hby d3_121) rfl ?_
  show oP p e below T80 (mkF m 122 #[oR r0, oI en, oI pt, oI pg, oR b, oI 3, oI wh, oI 4, oI x8] [(.int (d0 <<< ((18 : Int32) &&& 31)))]) _
  refine st82 _ ?_
  show oP p e below T82 (mkF m 125 #[oR r0, oI en, oI pt, oI pg, oR b, oI 3, oI wh, oI 4, oI x8] [(.ref (a_VALUES Z)), (.int (d0 <<< ((18 : Int32) &&& 31)))]) _
  refine XS.aloadN X82.here hx rfl (hb hby d3_125) rfl rfl ?_
  refine XS.iload X82.here hx rfl (hb hby d3_126) rfl ?_
  show oP p e below T82 (mkF m 128 #[oR r0, oI en, oI pt, oI pg, oR b, oI 3, oI wh, oI 4, oI x8] [(.int 4), (.ref r0), (.ref (a_VALUES Z)), (.int (d0 <<< ((18 : Int32) &&& 31)))]) _
  refine XS.iconst X82.here hx rfl (hb hby d3_128) ?_
  refine XS.iadd X82.here hx rfl (hb hby d3_129) rfl ?_
  show oP p e below T82 (mkF m 130 #[oR r0, oI en, oI pt, oI pg, oR b, oI 3, oI wh, oI 4, oI x8] [(.int 5), (.ref r0), (.ref (a_VALUES Z)), (.int (d0 <<< ((18 : Int32) &&& 31)))]) _
  refine own_baload X82 hx hZ e82 V_r0 (j := (5 : Int32)) hb1 (v := (.int (chv d1))) hat1 (g := (mkF m 130 #[oR r0, oI en, oI pt, oI pg, oR b, oI 3, oI wh, oI 4, oI x8] [(.int 5), (.ref r0), (.ref (a_VALUES Z)), (.int (d0 <<< ((18 : Int32) &&& 31)))])) rfl rfl (hb hby d3_130) _ ?_
  show oP p e below T82 (mkF m 131 #[oR r0, oI en, oI pt, oI pg, oR b, oI 3, oI wh, oI 4, oI x8] [(.int (chv d1)), (.ref (a_VALUES Z)), (.int (d0 <<< ((18 : Int32) &&& 31)))]) _
  refine XS.sipush X82.here hx rfl (hb hby d3_131) ?_
  show oP p e below T82 (mkF m 134 #[oR r0, oI en, oI pt, oI pg, oR b, oI 3, oI wh, oI 4, oI x8] [(.int 255), (.int (chv d1)), (.ref (a_VALUES Z)), (.int (d0 <<< ((18 : Int32) &&& 31)))]) _
  refine XS.iand X82.here hx rfl (hb hby d3_134) rfl ?_
  show oP p e below T82 (mkF m 135 #[oR r0, oI en, oI pt, oI pg, oR b, oI 3, oI wh, oI 4, oI x8] [(.int ((chv d1) &&& (255 : Int32))), (.ref (a_VALUES Z)), (.int (d0 <<< ((18 : Int32) &&& 31)))]) _
  refine X82.iaload hx (by rw [e82]; exact (Ac83.ext O0.2).1) (State.isArrayOf_alike hZ.alike Ac83.2.1) Ac83.2.2 Sc83 Hc83 (g := (mkF m 135 #[oR r0, oI en, oI pt, oI pg, oR b, oI 3, oI wh, oI 4, oI x8] [(.int ((chv d1) &&& (255 : Int32))), (.ref (a_VALUES Z)), (.int (d0 <<< ((18 : Int32) &&& 31)))])) rfl rfl (hb hby d3_135) _ ?_
  show oP p e below T82 (mkF m 136 #[oR r0, oI en, oI pt, oI pg, oR b, oI 3, oI wh, oI 4, oI x8] [(.int d1), (.int (d0 <<< ((18 : Int32) &&& 31)))]) _
  refine XS.bipush X82.here hx rfl (hb hby d3_136) ?_
  refine XS.ishl X82.here hx rfl (hb hby d3_138) rfl ?_
  show oP p e below T82 (mkF m 139 #[oR r0, oI en, oI pt, oI pg, oR b, oI 3, oI wh, oI 4, oI x8] [(.int (d1 <<< ((12 : Int32) &&& 31))), (.int (d0 <<< ((18 : Int32) &&& 31)))]) _
  refine XS.ior X82.here hx rfl (hb hby d3_139) rfl ?_
  show oP p e below T82 (mkF m 140 #[oR r0, oI en, oI pt, oI pg, oR b, oI 3, oI wh, oI 4, oI x8] [(.int ((d0 <<< ((18 : Int32) &&& 31)) ||| (d1 <<< ((12 : Int32) &&& 31))))]) _
  refine st84 _ ?_
  show oP p e below T84 (mkF m 143 #[oR r0, oI en, oI pt, oI pg, oR b, oI 3, oI wh, oI 4, oI x8] [(.ref (a_VALUES Z)), (.int ((d0 <<< ((18 : Int32) &&& 31)) ||| (d1 <<< ((12 : Int32) &&& 31))))]) _
  refine XS.aloadN X84.here hx rfl (hb hby d3_143) rfl rfl ?_
  refine XS.iload X84.here hx rfl (hb hby d3_144) rfl ?_
  show oP p e below T84 (mkF m 146 #[oR r0, oI en, oI pt, oI pg, oR b, oI 3, oI wh, oI 4, oI x8] [(.int 4), (.ref r0), (.ref (a_VALUES Z)), (.int ((d0 <<< ((18 : Int32) &&& 31)) ||| (d1 <<< ((12 : Int32) &&& 31))))]) _
  refine XS.iconst X84.here hx rfl (hb hby d3_146) ?_
  refine XS.iadd X84.here hx rfl (hb hby d3_147) rfl ?_
  show oP p e below T84 (mkF m 148 #[oR r0, oI en, oI pt, oI pg, oR b, oI 3, oI wh, oI 4, oI x8] [(.int 6), (.ref r0), (.ref (a_VALUES Z)), (.int ((d0 <<< ((18 : Int32) &&& 31)) ||| (d1 <<< ((12 : Int32) &&& 31))))]) _
  refine own_baload X84 hx hZ e84 V_r0 (j := (6 : Int32)) hb2 (v := (.int (chv d2))) hat2 (g := (mkF m 148 #[oR r0, oI en, oI pt, oI pg, oR b, oI 3, oI wh, oI 4, oI x8] [(.int 6), (.ref r0), (.ref (a_VALUES Z)), (.int ((d0 <<< ((18 : Int32) &&& 31)) ||| (d1 <<< ((12 : Int32) &&& 31))))])) rfl rfl (hb hby d3_148) _ ?_
  show oP p e below T84 (mkF m 149 #[oR r0, oI en, oI pt, oI pg, oR b, oI 3, oI wh, oI 4, oI x8] [(.int (chv d2)), (.ref (a_VALUES Z)), (.int ((d0 <<< ((18 : Int32) &&& 31)) ||| (d1 <<< ((12 : Int32) &&& 31))))]) _
  refine XS.sipush X84.here hx rfl (hb hby d3_149) ?_
  show oP p e below T84 (mkF m 152 #[oR r0, oI en, oI pt, oI pg, oR b, oI 3, oI wh, oI 4, oI x8] [(.int 255), (.int (chv d2)), (.ref (a_VALUES Z)), (.int ((d0 <<< ((18 : Int32) &&& 31)) ||| (d1 <<< ((12 : Int32) &&& 31))))]) _
  refine XS.iand X84.here hx rfl (hb hby d3_152) rfl ?_
  show oP p e below T84 (mkF m 153 #[oR r0, oI en, oI pt, oI pg, oR b, oI 3, oI wh, oI 4, oI x8] [(.int ((chv d2) &&& (255 : Int32))), (.ref (a_VALUES Z)), (.int ((d0 <<< ((18 : Int32) &&& 31)) ||| (d1 <<< ((12 : Int32) &&& 31))))]) _
  refine X84.iaload hx (by rw [e84]; exact (Ac85.ext O0.2).1) (State.isArrayOf_alike hZ.alike Ac85.2.1) Ac85.2.2 Sc85 Hc85 (g := (mkF m 153 #[oR r0, oI en, oI pt, oI pg, oR b, oI 3, oI wh, oI 4, oI x8] [(.int ((chv d2) &&& (255 : Int32))), (.ref (a_VALUES Z)), (.int ((d0 <<< ((18 : Int32) &&& 31)) ||| (d1 <<< ((12 : Int32) &&& 31))))])) rfl rfl (hb hby d3_153) _ ?_
  show oP p e below T84 (mkF m 154 #[oR r0, oI en, oI pt, oI pg, oR b, oI 3, oI wh, oI 4, oI x8] [(.int d2), (.int ((d0 <<< ((18 : Int32) &&& 31)) ||| (d1 <<< ((12 : Int32) &&& 31))))]) _
  refine XS.bipush X84.here hx rfl (hb hby d3_154) ?_
  refine XS.ishl X84.here hx rfl (hb hby d3_156) rfl ?_
  show oP p e below T84 (mkF m 157 #[oR r0, oI en, oI pt, oI pg, oR b, oI 3, oI wh, oI 4, oI x8] [(.int (d2 <<< ((6 : Int32) &&& 31))), (.int ((d0 <<< ((18 : Int32) &&& 31)) ||| (d1 <<< ((12 : Int32) &&& 31))))]) _
  refine XS.ior X84.here hx rfl (hb hby d3_157) rfl ?_
  show oP p e below T84 (mkF m 158 #[oR r0, oI en, oI pt, oI pg, oR b, oI 3, oI wh, oI 4, oI x8] [(.int (((d0 <<< ((18 : Int32) &&& 31)) ||| (d1 <<< ((12 : Int32) &&& 31))) ||| (d2 <<< ((6 : Int32) &&& 31))))]) _
  refine st86 _ ?_
  show oP p e below T86 (mkF m 161 #[oR r0, oI en, oI pt, oI pg, oR b, oI 3, oI wh, oI 4, oI x8] [(.ref (a_VALUES Z)), (.int (((d0 <<< ((18 : Int32) &&& 31)) ||| (d1 <<< ((12 : Int32) &&& 31))) ||| (d2 <<< ((6 : Int32) &&& 31))))]) _
  refine XS.aloadN X86.here hx rfl (hb hby d3_161) rfl rfl ?_
  refine XS.iload X86.here hx rfl (hb hby d3_162) rfl ?_
  show oP p e below T86 (mkF m 164 #[oR r0, oI en, oI pt, oI pg, oR b, oI 3, oI wh, oI 4, oI x8] [(.int 4), (.ref r0), (.ref (a_VALUES Z)), (.int (((d0 <<< ((18 : Int32) &&& 31)) ||| (d1 <<< ((12 : Int32) &&& 31))) ||| (d2 <<< ((6 : Int32) &&& 31))))]) _
  refine XS.iconst X86.here hx rfl (hb hby d3_164) ?_
  refine XS.iadd X86.here hx rfl (hb hby d3_165) rfl ?_
  show oP p e below T86 (mkF m 166 #[oR r0, oI en, oI pt, oI pg, oR b, oI 3, oI wh, oI 4, oI x8] [(.int 7), (.ref r0), (.ref (a_VALUES Z)), (.int (((d0 <<< ((18 : Int32) &&& 31)) ||| (d1 <<< ((12 : Int32) &&& 31))) ||| (d2 <<< ((6 : Int32) &&& 31))))]) _
  refine own_baload X86 hx hZ e86 V_r0 (j := (7 : Int32)) hb3 (v := (.int (chv d3))) hat3 (g := (mkF m 166 #[oR r0, oI en, oI pt, oI pg, oR b, oI 3, oI wh, oI 4, oI x8] [(.int 7), (.ref r0), (.ref (a_VALUES Z)), (.int (((d0 <<< ((18 : Int32) &&& 31)) ||| (d1 <<< ((12 : Int32) &&& 31))) ||| (d2 <<< ((6 : Int32) &&& 31))))])) rfl rfl (hb hby d3_166) _ ?_
  show oP p e below T86 (mkF m 167 #[oR r0, oI en, oI pt, oI pg, oR b, oI 3, oI wh, oI 4, oI x8] [(.int (chv d3)), (.ref (a_VALUES Z)), (.int (((d0 <<< ((18 : Int32) &&& 31)) ||| (d1 <<< ((12 : Int32) &&& 31))) ||| (d2 <<< ((6 : Int32) &&& 31))))]) _
  refine XS.sipush X86.here hx rfl (hb hby d3_167) ?_
  show oP p e below T86 (mkF m 170 #[oR r0, oI en, oI pt, oI pg, oR b, oI 3, oI wh, oI 4, oI x8] [(.int 255), (.int (chv d3)), (.ref (a_VALUES Z)), (.int (((d0 <<< ((18 : Int32) &&& 31)) ||| (d1 <<< ((12 : Int32) &&& 31))) ||| (d2 <<< ((6 : Int32) &&& 31))))]) _
  refine XS.iand X86.here hx rfl (hb hby d3_170) rfl ?_
  show oP p e below T86 (mkF m 171 #[oR r0, oI en, oI pt, oI pg, oR b, oI 3, oI wh, oI 4, oI x8] [(.int ((chv d3) &&& (255 : Int32))), (.ref (a_VALUES Z)), (.int (((d0 <<< ((18 : Int32) &&& 31)) ||| (d1 <<< ((12 : Int32) &&& 31))) ||| (d2 <<< ((6 : Int32) &&& 31))))]) _
  refine X86.iaload hx (by rw [e86]; exact (Ac87.ext O0.2).1) (State.isArrayOf_alike hZ.alike Ac87.2.1) Ac87.2.2 Sc87 Hc87 (g := (mkF m 171 #[oR r0, oI en, oI pt, oI pg, oR b, oI 3, oI wh, oI 4, oI x8] [(.int ((chv d3) &&& (255 : Int32))), (.ref (a_VALUES Z)), (.int (((d0 <<< ((18 : Int32) &&& 31)) ||| (d1 <<< ((12 : Int32) &&& 31))) ||| (d2 <<< ((6 : Int32) &&& 31))))])) rfl rfl (hb hby d3_171) _ ?_
  show oP p e below T86 (mkF m 172 #[oR r0, oI en, oI pt, oI pg, oR b, oI 3, oI wh, oI 4, oI x8] [(.int d3), (.int (((d0 <<< ((18 : Int32) &&& 31)) ||| (d1 <<< ((12 : Int32) &&& 31))) ||| (d2 <<< ((6 : Int32) &&& 31))))]) _
  refine XS.ior X86.here hx rfl (hb hby d3_172) rfl ?_
  show oP p e below T86 (mkF m 173 #[oR r0, oI en, oI pt, oI pg, oR b, oI 3, oI wh, oI 4, oI x8] [(.int (grp d0 d1 d2 d3))]) _
  refine XS.istore X86.here hx rfl (hb hby d3_173) rfl (l' := #[oR r0, oI en, oI pt, oI pg, oR b, oI 3, oI wh, oI 4, oI (grp d0 d1 d2 d3)]) rfl ?_
  show oP p e below T86 (mkF m 175 #[oR r0, oI en, oI pt, oI pg, oR b, oI 3, oI wh, oI 4, oI (grp d0 d1 d2 d3)] []) _
  refine XS.iload X86.here hx rfl (hb hby d3_175) rfl ?_
  show oP p e below T86 (mkF m 177 #[oR r0, oI en, oI pt, oI pg, oR b, oI 3, oI wh, oI 4, oI (grp d0 d1 d2 d3)] [(.int (grp d0 d1 d2 d3))]) _
  refine XS.ifYes X86.here hx rfl (pc0 := 177) (pc' := 188) rfl (hb hby d3_177) rfl ((if0 _ _).trans (flt (grp_nn hd0 hd1 hd2 hd3)).2.1) (by decide) (by decide) ?_
  show oP p e below T86 (mkF m 188 #[oR r0, oI en, oI pt, oI pg, oR b, oI 3, oI wh, oI 4, oI (grp d0 d1 d2 d3)] []) _
  refine XS.aload X86.here hx rfl (hb hby d3_188) rfl rfl ?_
  show oP p e below T86 (mkF m 190 #[oR r0, oI en, oI pt, oI pg, oR b, oI 3, oI wh, oI 4, oI (grp d0 d1 d2 d3)] [(.ref b)]) _
  refine XS.iload X86.here hx rfl (hb hby d3_190) rfl ?_
  show oP p e below T86 (mkF m 192 #[oR r0, oI en, oI pt, oI pg, oR b, oI 3, oI wh, oI 4, oI (grp d0 d1 d2 d3)] [(.int 3), (.ref b)]) _
  refine XS.iinc X86.here hx rfl (hb hby d3_192) rfl (l' := #[oR r0, oI en, oI pt, oI pg, oR b, oI 4, oI wh, oI 4, oI (grp d0 d1 d2 d3)]) rfl ?_
  show oP p e below T86 (mkF m 195 #[oR r0, oI en, oI pt, oI pg, oR b, oI 4, oI wh, oI 4, oI (grp d0 d1 d2 d3)] [(.int 3), (.ref b)]) _
  refine XS.iload X86.here hx rfl (hb hby d3_195) rfl ?_
  show oP p e below T86 (mkF m 197 #[oR r0, oI en, oI pt, oI pg, oR b, oI 4, oI wh, oI 4, oI (grp d0 d1 d2 d3)] [(.int (grp d0 d1 d2 d3)), (.int 3), (.ref b)]) _
  refine XS.bipush X86.here hx rfl (hb hby d3_197) ?_
  refine XS.ishr X86.here hx rfl (hb hby d3_199) rfl ?_
  show oP p e below T86 (mkF m 200 #[oR r0, oI en, oI pt, oI pg, oR b, oI 4, oI wh, oI 4, oI (grp d0 d1 d2 d3)] [(.int ((grp d0 d1 d2 d3) >>> ((16 : Int32) &&& 31))), (.int 3), (.ref b)]) _
  refine XS.i2b X86.here hx rfl (hb hby d3_200) rfl ?_
  show oP p e below T86 (mkF m 201 #[oR r0, oI en, oI pt, oI pg, oR b, oI 4, oI wh, oI 4, oI (grp d0 d1 d2 d3)] [(.int (((grp d0 d1 d2 d3) >>> ((16 : Int32) &&& 31)).toInt8.toInt32)), (.int 3), (.ref b)]) _
  refine st88 _ ?_
  show oP p e below T88 (mkF m 202 #[oR r0, oI en, oI pt, oI pg, oR b, oI 4, oI wh, oI 4, oI (grp d0 d1 d2 d3)] []) _
  refine XS.aload X88.here hx rfl (hb hby d3_202) rfl rfl ?_
  show oP p e below T88 (mkF m 204 #[oR r0, oI en, oI pt, oI pg, oR b, oI 4, oI wh, oI 4, oI (grp d0 d1 d2 d3)] [(.ref b)]) _
  refine XS.iload X88.here hx rfl (hb hby d3_204) rfl ?_
  show oP p e below T88 (mkF m 206 #[oR r0, oI en, oI pt, oI pg, oR b, oI 4, oI wh, oI 4, oI (grp d0 d1 d2 d3)] [(.int 4), (.ref b)]) _
  refine XS.iinc X88.here hx rfl (hb hby d3_206) rfl (l' := #[oR r0, oI en, oI pt, oI pg, oR b, oI 5, oI wh, oI 4, oI (grp d0 d1 d2 d3)]) rfl ?_
  show oP p e below T88 (mkF m 209 #[oR r0, oI en, oI pt, oI pg, oR b, oI 5, oI wh, oI 4, oI (grp d0 d1 d2 d3)] [(.int 4), (.ref b)]) _
  refine XS.iload X88.here hx rfl (hb hby d3_209) rfl ?_
  show oP p e below T88 (mkF m 211 #[oR r0, oI en, oI pt, oI pg, oR b, oI 5, oI wh, oI 4, oI (grp d0 d1 d2 d3)] [(.int (grp d0 d1 d2 d3)), (.int 4), (.ref b)]) _
  refine XS.bipush X88.here hx rfl (hb hby d3_211) ?_
  refine XS.ishr X88.here hx rfl (hb hby d3_213) rfl ?_
  show oP p e below T88 (mkF m 214 #[oR r0, oI en, oI pt, oI pg, oR b, oI 5, oI wh, oI 4, oI (grp d0 d1 d2 d3)] [(.int ((grp d0 d1 d2 d3) >>> ((8 : Int32) &&& 31))), (.int 4), (.ref b)]) _
  refine XS.i2b X88.here hx rfl (hb hby d3_214) rfl ?_
  show oP p e below T88 (mkF m 215 #[oR r0, oI en, oI pt, oI pg, oR b, oI 5, oI wh, oI 4, oI (grp d0 d1 d2 d3)] [(.int (((grp d0 d1 d2 d3) >>> ((8 : Int32) &&& 31)).toInt8.toInt32)), (.int 4), (.ref b)]) _
  refine st89 _ ?_
  show oP p e below T89 (mkF m 216 #[oR r0, oI en, oI pt, oI pg, oR b, oI 5, oI wh, oI 4, oI (grp d0 d1 d2 d3)] []) _
  refine XS.aload X89.here hx rfl (hb hby d3_216) rfl rfl ?_
  show oP p e below T89 (mkF m 218 #[oR r0, oI en, oI pt, oI pg, oR b, oI 5, oI wh, oI 4, oI (grp d0 d1 d2 d3)] [(.ref b)]) _
  refine XS.iload X89.here hx rfl (hb hby d3_218) rfl ?_
  show oP p e below T89 (mkF m 220 #[oR r0, oI en, oI pt, oI pg, oR b, oI 5, oI wh, oI 4, oI (grp d0 d1 d2 d3)] [(.int 5), (.ref b)]) _
  refine XS.iinc X89.here hx rfl (hb hby d3_220) rfl (l' := #[oR r0, oI en, oI pt, oI pg, oR b, oI 6, oI wh, oI 4, oI (grp d0 d1 d2 d3)]) rfl ?_
  show oP p e below T89 (mkF m 223 #[oR r0, oI en, oI pt, oI pg, oR b, oI 6, oI wh, oI 4, oI (grp d0 d1 d2 d3)] [(.int 5), (.ref b)]) _
  refine XS.iload X89.here hx rfl (hb hby d3_223) rfl ?_
  show oP p e below T89 (mkF m 225 #[oR r0, oI en, oI pt, oI pg, oR b, oI 6, oI wh, oI 4, oI (grp d0 d1 d2 d3)] [(.int (grp d0 d1 d2 d3)), (.int 5), (.ref b)]) _
  refine XS.i2b X89.here hx rfl (hb hby d3_225) rfl ?_
  show oP p e below T89 (mkF m 226 #[oR r0, oI en, oI pt, oI pg, oR b, oI 6, oI wh, oI 4, oI (grp d0 d1 d2 d3)] [(.int ((grp d0 d1 d2 d3).toInt8.toInt32)), (.int 5), (.ref b)]) _
  refine st90 _ ?_
  show oP p e below T90 (mkF m 227 #[oR r0, oI en, oI pt, oI pg, oR b, oI 6, oI wh, oI 4, oI (grp d0 d1 d2 d3)] []) _
  refine XS.iinc X90.here hx rfl (hb hby d3_227) rfl (l' := #[oR r0, oI en, oI pt, oI pg, oR b, oI 6, oI wh, oI 8, oI (grp d0 d1 d2 d3)]) rfl ?_
  show oP p e below T90 (mkF m 230 #[oR r0, oI en, oI pt, oI pg, oR b, oI 6, oI wh, oI 8, oI (grp d0 d1 d2 d3)] []) _
  refine XS.goto X90.here hx rfl (pc0 := 230) (pc' := 100) rfl (hb hby d3_230) (by decide) (by decide) ?_
  exact k
theorem d3_0 : decode prog_8_method_3_code 0 = .ok (.aload_n 0, 1) := by decide +kernel
theorem d3_1 : decode prog_8_method_3_code 1 = .ok (.arraylength, 1) := by decide +kernel
theorem d3_2 : decode prog_8_method_3_code 2 = .ok (.istore_n 1, 1) := by decide +kernel
theorem d3_3 : decode prog_8_method_3_code 3 = .ok (.iload_n 1, 1) := by decide +kernel
theorem d3_4 : decode prog_8_method_3_code 4 = .ok (.ifCond .le 19, 3) := by decide +kernel
theorem d3_23 : decode prog_8_method_3_code 23 = .ok (.iload_n 1, 1) := by decide +kernel
theorem d3_24 : decode prog_8_method_3_code 24 = .ok (.iconst 4, 1) := by decide +kernel
theorem d3_25 : decode prog_8_method_3_code 25 = .ok (.irem, 1) := by decide +kernel
theorem d3_26 : decode prog_8_method_3_code 26 = .ok (.istore_n 2, 1) := by decide +kernel
theorem d3_27 : decode prog_8_method_3_code 27 = .ok (.aload_n 0, 1) := by decide +kernel
theorem d3_28 : decode prog_8_method_3_code 28 = .ok (.arraylength, 1) := by decide +kernel
theorem d3_29 : decode prog_8_method_3_code 29 = .ok (.iload_n 1, 1) := by decide +kernel
theorem d3_30 : decode prog_8_method_3_code 30 = .ok (.isub, 1) := by decide +kernel
theorem d3_31 : decode prog_8_method_3_code 31 = .ok (.istore_n 3, 1) := by decide +kernel
theorem d3_32 : decode prog_8_method_3_code 32 = .ok (.iload_n 2, 1) := by decide +kernel
theorem d3_33 : decode prog_8_method_3_code 33 = .ok (.iconst 1, 1) := by decide +kernel
theorem d3_34 : decode prog_8_method_3_code 34 = .ok (.if_icmp .ne 13, 3) := by decide +kernel
theorem d3_47 : decode prog_8_method_3_code 47 = .ok (.iload_n 3, 1) := by decide +kernel
theorem d3_48 : decode prog_8_method_3_code 48 = .ok (.ifCond .le 24, 3) := by decide +kernel
theorem d3_72 : decode prog_8_method_3_code 72 = .ok (.iload_n 1, 1) := by decide +kernel
theorem d3_73 : decode prog_8_method_3_code 73 = .ok (.iconst 4, 1) := by decide +kernel
theorem d3_74 : decode prog_8_method_3_code 74 = .ok (.idiv, 1) := by decide +kernel
theorem d3_75 : decode prog_8_method_3_code 75 = .ok (.iconst 3, 1) := by decide +kernel
theorem d3_76 : decode prog_8_method_3_code 76 = .ok (.imul, 1) := by decide +kernel
theorem d3_77 : decode prog_8_method_3_code 77 = .ok (.iconst 0, 1) := by decide +kernel
theorem d3_78 : decode prog_8_method_3_code 78 = .ok (.iload_n 2, 1) := by decide +kernel
theorem d3_79 : decode prog_8_method_3_code 79 = .ok (.iconst 1, 1) := by decide +kernel
theorem d3_80 : decode prog_8_method_3_code 80 = .ok (.isub, 1) := by decide +kernel
theorem d3_81 : decode prog_8_method_3_code 81 = .ok (.invokestatic 45, 3) := by decide +kernel
theorem pd_3 : parseMethodDescriptor "(II)I" = some ⟨[.int, .int], some .int⟩ := by decide +kernel
theorem d3_84 : decode prog_8_method_3_code 84 = .ok (.iadd, 1) := by decide +kernel
theorem d3_85 : decode prog_8_method_3_code 85 = .ok (.newarray .byte, 2) := by decide +kernel
theorem d3_87 : decode prog_8_method_3_code 87 = .ok (.astore 4, 2) := by decide +kernel
theorem d3_89 : decode prog_8_method_3_code 89 = .ok (.iconst 0, 1) := by decide +kernel
theorem d3_90 : decode prog_8_method_3_code 90 = .ok (.istore 5, 2) := by decide +kernel
theorem d3_92 : decode prog_8_method_3_code 92 = .ok (.iload_n 1, 1) := by decide +kernel
theorem d3_93 : decode prog_8_method_3_code 93 = .ok (.iload_n 2, 1) := by decide +kernel
theorem d3_94 : decode prog_8_method_3_code 94 = .ok (.isub, 1) := by decide +kernel
theorem d3_95 : decode prog_8_method_3_code 95 = .ok (.istore 6, 2) := by decide +kernel
theorem d3_97 : decode prog_8_method_3_code 97 = .ok (.iconst 0, 1) := by decide +kernel
theorem d3_98 : decode prog_8_method_3_code 98 = .ok (.istore 7, 2) := by decide +kernel
theorem d3_233 : decode prog_8_method_3_code 233 = .ok (.iload_n 2, 1) := by decide +kernel
theorem d3_234 : decode prog_8_method_3_code 234 = .ok (.iconst 2, 1) := by decide +kernel
theorem d3_235 : decode prog_8_method_3_code 235 = .ok (.if_icmp .ne 21, 3) := by decide +kernel
theorem d3_256 : decode prog_8_method_3_code 256 = .ok (.iload_n 2, 1) := by decide +kernel
theorem d3_257 : decode prog_8_method_3_code 257 = .ok (.iconst 3, 1) := by decide +kernel
theorem d3_258 : decode prog_8_method_3_code 258 = .ok (.if_icmp .ne 36, 3) := by decide +kernel
theorem d3_294 : decode prog_8_method_3_code 294 = .ok (.aload 4, 2) := by decide +kernel
theorem d3_296 : decode prog_8_method_3_code 296 = .ok (.areturn, 1) := by decide +kernel
theorem ef_3x000 (m : MethodId) (x0 : Addr) : entryFrame m #[(.ref x0)] 9 = mkF m 0 #[.val (.ref x0), .unset, .unset, .unset, .unset, .unset, .unset, .unset, .unset] [] := by first | (simp [entryFrame, mkF, argsToLocals, Value.category]; done) | rfl
set_option maxRecDepth 65536 in
set_option maxHeartbeats 40000000 in
theorem rm3x000 (l : Launch) (Z : State) (a0 : Array Value) (hw : ∀ d ∈ tables_1, d.before a0 Z = true) (hS : St Z) (ws : List Jvm.Cond) (r0 : Addr) (k : ClassId) (r0_ : Value) (r1_ : Value) (r2_ : Value) (r3_ : Value) (r4_ : Value) (r5_ : Value) (r6_ : Value) (r7_ : Value) (r8_ : Value) (r9_ : Value) (r10_ : Value) (r11_ : Value) (h0 : Heap) (n0 : Nat) (O0 : Old Z n0 h0) (V_r0 : Arv Z h0 r0 k .byte (0 : Int32) [r0_, r1_, r2_, r3_, r4_, r5_, r6_, r7_, r8_, r9_, r10_, r11_] (.int 0)) :
    MetFree l (⟨"com/example/meerkat/meerkat/Base64Codec", "decode", "([B)[B"⟩ : MethodName) (head1 (Jvm.Cond.code (⟨"com/example/meerkat/meerkat/Base64Codec", "decode", "([B)[B"⟩ : MethodName) prog_8_method_3_code 9 (some (.array .byte)) :: ws) ({ frames := 2, cells := 1, slots := 8, locals := 60 } : Room)) (fun a U => a = #[(.ref r0)] ∧ Z.Warmed39 U.vm ∧ U.heap = h0) (fun _ _ _ _ _ => True) (fun _ U o U' => ∃ v L, o = .returned v ∧ own_Q (fun v hE L => ∃ (b : Addr), ∃ (kb : ClassId), v = some (.ref b) ∧ Fr n0 L ∧ Keep h0 hE [] ∧ h0.size ≤ b ∧ Arv Z hE b kb .byte (0 : Int32) [] (.int 0)) v U'.heap L ∧ FrameEnd U o U' L ({ frames := 2, cells := 1, slots := 8, locals := 60 } : Room).cells ({ frames := 2, cells := 1, slots := 8, locals := 60 } : Room).slots) := by
  refine MetFree.of_bodySF (plainFor_of_name pn_1) hisR ?_
  intro p e s m args below meth c s₁ Bd hml0 hP hK
  obtain ⟨rfl, hZ, hh⟩ := hP
  have hx := Bd.exec
  have hby := Bd.bytes
  have hml : c.maxLocals = 9 := hml0
  have hown : s.vm.findClass "com/example/meerkat/meerkat/Base64Codec" = some m.cls := findClass_of_methodNamed Bd.named
  have hnm := (name_of_methodNamed Bd.named Bd.method).1
  have X0 : Stand p l e ({ frames := 2, cells := 1, slots := 8, locals := 60 } : Room) s m #[(.ref r0)] below meth c s₁ [] 0 0 := Stand.of_body Bd
  have e0 : s₁.heap = h0 := by rw [← hh, Bd.state]; rfl
  have N0 := Fr.nil n0
  have pre0 : ∀ t, Steps p.tables e below (s₁.setTop (mkF m 0 #[oR r0, oU, oU, oU, oU, oU, oU, oU, oU] [])) t → Steps p.tables e below (s₁.setTop (entryFrame m #[(.ref r0)] 9)) t := fun t k => castTop (ef_3x000 m r0) k
  obtain ⟨_, _, ⟨T91, L91, k91, n91⟩, -, X91, ⟨Lc91, hQ91, l91, y91, z91⟩, st91⟩ := Jvm.LawKit.callS X0 hx (y := (⟨"java/lang/Math", "max", "(II)I"⟩ : MethodName)) hown (mvT hZ (wi hw 12 rfl)) (mvT hZ (wi hw 13 rfl)) (mvT hZ (wi hw 14 rfl)) (mvT hZ (wi hw 15 rfl)) (by decide) (backOf (W := 1) (rm4 l Z a0 hw hS [] (0 : Int32) (-1 : Int32) h0 n0 O0) hZ (wi hw 15 rfl) (wi hw 14 rfl) (by decide) (by decide)) (g := (mkF m 81 #[oR r0, oI 0, oI 0, oI 0, oU, oU, oU, oU, oU] [(.int (-1)), (.int 0), (.int 0)])) rfl (by rw [hml]; rfl) (argsL := [(.int 0), (.int (-1))]) (rest := [(.int 0)]) (lenOf pd_3 rfl) rfl (by show 2 * 0 + _ ≤ _; exact Nat.le_of_eq rfl) (hb hby d3_81) (fun _ _ => ⟨rfl, e0, (by decide : 0 + 0 ≤ _), (by decide : 0 + 0 ≤ _)⟩)
  dsimp only [Pt.U, Pt.locs, Pt.cells, Pt.slots] at X91 l91 y91 z91 st91 hQ91
  subst l91 y91 z91
  obtain ⟨v91, N91q, h91q⟩ := hQ91
  have w91 : (fn4 Z (0 : Int32) (-1 : Int32)) = (0 : Int32) := by unfold fn4; rw [if_neg (by decide : ¬ ((0 : Int32) < (-1 : Int32)))]; all_goals first | rfl | decide
  rw [w91] at v91
  subst v91
  have N91 := Fr.app N0 N91q
  obtain ⟨T92, h92, k92, X92, e92, E92, A92, st92⟩ := newP X91 hx hZ (wi hw 0 rfl) h91q (g := (mkF m 85 #[oR r0, oI 0, oI 0, oI 0, oU, oU, oU, oU, oU] [(.int 0)])) rfl (hb hby d3_85) rfl (by decide) (cap := 0) (by decide) (by decide) (by decide) (by decide)
  obtain ⟨b92, g92⟩ : ∃ z, z = h0.size := ⟨_, rfl⟩
  have g_b92 : n0 ≤ b92 := Nat.le_trans (own_old_le O0) (Nat.le_of_eq g92.symm)
  have sz_b92 : h0.size ≤ b92 := Nat.le_trans (Keep.refl h0 []).1 (Nat.le_of_eq g92.symm)
  have ne_r0_b92 : r0 ≠ b92 := Nat.ne_of_lt (Nat.lt_of_lt_of_le V_r0.lt (Nat.le_of_eq g92.symm))
  rw [← g92] at A92 st92
  have O92 := O0.ext E92
  have Kc92 := (Keep.refl h0 []).ext E92
  have V92 : Arv Z h92 b92 k92 .byte (0 : Int32) [] (.int 0) := (Arv.new A92 (by decide)).pad (pad_rep [] (.int 0) 0)
  obtain ⟨fs, hr, hrun, hended, hW, hsame⟩ := X92.leave (v := some (.ref b92)) (fun h => by rw [Bd.returns] at h; cases h)
  refine ⟨_, _, pre0 _ ?_, hrun, hended, _, _, rfl, ?_, ⟨_, rfl⟩, hW, hsame.mono (by decide) (by decide)⟩
  · show oP p e below s₁ (mkF m 0 #[oR r0, oU, oU, oU, oU, oU, oU, oU, oU] []) _
    refine XS.aloadN X0.here hx rfl (hb hby d3_0) rfl rfl ?_
    show oP p e below s₁ (mkF m 1 #[oR r0, oU, oU, oU, oU, oU, oU, oU, oU] [(.ref r0)]) _
    refine own_len X0 hx hZ e0 V_r0 (g := (mkF m 1 #[oR r0, oU, oU, oU, oU, oU, oU, oU, oU] [(.ref r0)])) rfl rfl (hb hby d3_1) _ ?_
    show oP p e below s₁ (mkF m 2 #[oR r0, oU, oU, oU, oU, oU, oU, oU, oU] [(.int 0)]) _
    refine XS.istoreN X0.here hx rfl (hb hby d3_2) rfl (l' := #[oR r0, oI 0, oU, oU, oU, oU, oU, oU, oU]) rfl ?_
    show oP p e below s₁ (mkF m 3 #[oR r0, oI 0, oU, oU, oU, oU, oU, oU, oU] []) _
    refine XS.iloadN X0.here hx rfl (hb hby d3_3) rfl ?_
    refine XS.ifYes X0.here hx rfl (pc0 := 4) (pc' := 23) rfl (hb hby d3_4) rfl ((if0 _ _).trans (flt (by decide : ¬ ((0 : Int32) < (0 : Int32)))).2.2.2) (by decide) (by decide) ?_
    show oP p e below s₁ (mkF m 23 #[oR r0, oI 0, oU, oU, oU, oU, oU, oU, oU] []) _
    refine XS.iloadN X0.here hx rfl (hb hby d3_23) rfl ?_
    refine XS.iconst X0.here hx rfl (hb hby d3_24) ?_
    refine XS.irem X0.here hx rfl (hb hby d3_25) rfl (by decide) ?_
    show oP p e below s₁ (mkF m 26 #[oR r0, oI 0, oU, oU, oU, oU, oU, oU, oU] [(.int 0)]) _
    refine XS.istoreN X0.here hx rfl (hb hby d3_26) rfl (l' := #[oR r0, oI 0, oI 0, oU, oU, oU, oU, oU, oU]) rfl ?_
    show oP p e below s₁ (mkF m 27 #[oR r0, oI 0, oI 0, oU, oU, oU, oU, oU, oU] []) _
    refine XS.aloadN X0.here hx rfl (hb hby d3_27) rfl rfl ?_
    show oP p e below s₁ (mkF m 28 #[oR r0, oI 0, oI 0, oU, oU, oU, oU, oU, oU] [(.ref r0)]) _
    refine own_len X0 hx hZ e0 V_r0 (g := (mkF m 28 #[oR r0, oI 0, oI 0, oU, oU, oU, oU, oU, oU] [(.ref r0)])) rfl rfl (hb hby d3_28) _ ?_
    show oP p e below s₁ (mkF m 29 #[oR r0, oI 0, oI 0, oU, oU, oU, oU, oU, oU] [(.int 0)]) _
    refine XS.iloadN X0.here hx rfl (hb hby d3_29) rfl ?_
    refine XS.isub X0.here hx rfl (hb hby d3_30) rfl ?_
    show oP p e below s₁ (mkF m 31 #[oR r0, oI 0, oI 0, oU, oU, oU, oU, oU, oU] [(.int 0)]) _
    refine XS.istoreN X0.here hx rfl (hb hby d3_31) rfl (l' := #[oR r0, oI 0, oI 0, oI 0, oU, oU, oU, oU, oU]) rfl ?_
    show oP p e below s₁ (mkF m 32 #[oR r0, oI 0, oI 0, oI 0, oU, oU, oU, oU, oU] []) _
    refine XS.iloadN X0.here hx rfl (hb hby d3_32) rfl ?_
    refine XS.iconst X0.here hx rfl (hb hby d3_33) ?_
    refine XS.icmpYes X0.here hx rfl (pc0 := 34) (pc' := 47) rfl (hb hby d3_34) rfl (feq (by decide : ¬ ((0 : Int32) = (1 : Int32)))).2 (by decide) (by decide) ?_
    show oP p e below s₁ (mkF m 47 #[oR r0, oI 0, oI 0, oI 0, oU, oU, oU, oU, oU] []) _
    refine XS.iloadN X0.here hx rfl (hb hby d3_47) rfl ?_
    refine XS.ifYes X0.here hx rfl (pc0 := 48) (pc' := 72) rfl (hb hby d3_48) rfl ((if0 _ _).trans (flt (by decide : ¬ ((0 : Int32) < (0 : Int32)))).2.2.2) (by decide) (by decide) ?_
    show oP p e below s₁ (mkF m 72 #[oR r0, oI 0, oI 0, oI 0, oU, oU, oU, oU, oU] []) _
    refine XS.iloadN X0.here hx rfl (hb hby d3_72) rfl ?_
    refine XS.iconst X0.here hx rfl (hb hby d3_73) ?_
    refine XS.idiv X0.here hx rfl (hb hby d3_74) rfl (by decide) ?_
    show oP p e below s₁ (mkF m 75 #[oR r0, oI 0, oI 0, oI 0, oU, oU, oU, oU, oU] [(.int 0)]) _
    refine XS.iconst X0.here hx rfl (hb hby d3_75) ?_
    refine XS.imul X0.here hx rfl (hb hby d3_76) rfl ?_
    show oP p e below s₁ (mkF m 77 #[oR r0, oI 0, oI 0, oI 0, oU, oU, oU, oU, oU] [(.int 0)]) _
    refine XS.iconst X0.here hx rfl (hb hby d3_77) ?_
    refine XS.iloadN X0.here hx rfl (hb hby d3_78) rfl ?_
    refine XS.iconst X0.here hx rfl (hb hby d3_79) ?_
    refine XS.isub X0.here hx rfl (hb hby d3_80) rfl ?_
    show oP p e below s₁ (mkF m 81 #[oR r0, oI 0, oI 0, oI 0, oU, oU, oU, oU, oU] [(.int (-1)), (.int 0), (.int 0)]) _
    refine st91 _ ?_
    show oP p e below T91 (mkF m 84 #[oR r0, oI 0, oI 0, oI 0, oU, oU, oU, oU, oU] [(.int 0), (.int 0)]) _
    refine XS.iadd X91.here hx rfl (hb hby d3_84) rfl ?_
    show oP p e below T91 (mkF m 85 #[oR r0, oI 0, oI 0, oI 0, oU, oU, oU, oU, oU] [(.int 0)]) _
    refine st92 _ ?_
    show oP p e below T92 (mkF m 87 #[oR r0, oI 0, oI 0, oI 0, oU, oU, oU, oU, oU] [(.ref b92)]) _
    refine XS.astore X92.here hx rfl (hb hby d3_87) rfl rfl (l' := #[oR r0, oI 0, oI 0, oI 0, oR b92, oU, oU, oU, oU]) rfl ?_
    show oP p e below T92 (mkF m 89 #[oR r0, oI 0, oI 0, oI 0, oR b92, oU, oU, oU, oU] []) _
    refine XS.iconst X92.here hx rfl (hb hby d3_89) ?_
    refine XS.istore X92.here hx rfl (hb hby d3_90) rfl (l' := #[oR r0, oI 0, oI 0, oI 0, oR b92, oI 0, oU, oU, oU]) rfl ?_
    show oP p e below T92 (mkF m 92 #[oR r0, oI 0, oI 0, oI 0, oR b92, oI 0, oU, oU, oU] []) _
    refine XS.iloadN X92.here hx rfl (hb hby d3_92) rfl ?_
    refine XS.iloadN X92.here hx rfl (hb hby d3_93) rfl ?_
    refine XS.isub X92.here hx rfl (hb hby d3_94) rfl ?_
    show oP p e below T92 (mkF m 95 #[oR r0, oI 0, oI 0, oI 0, oR b92, oI 0, oU, oU, oU] [(.int 0)]) _
    refine XS.istore X92.here hx rfl (hb hby d3_95) rfl (l' := #[oR r0, oI 0, oI 0, oI 0, oR b92, oI 0, oI 0, oU, oU]) rfl ?_
    show oP p e below T92 (mkF m 97 #[oR r0, oI 0, oI 0, oI 0, oR b92, oI 0, oI 0, oU, oU] []) _
    refine XS.iconst X92.here hx rfl (hb hby d3_97) ?_
    refine XS.istore X92.here hx rfl (hb hby d3_98) rfl (l' := #[oR r0, oI 0, oI 0, oI 0, oR b92, oI 0, oI 0, oI 0, oU]) rfl ?_
    show oP p e below T92 (mkF m 100 #[oR r0, oI 0, oI 0, oI 0, oR b92, oI 0, oI 0, oI 0, oU] []) _
    refine XS.iload X92.here hx rfl (hb hby d3_100) rfl ?_
    show oP p e below T92 (mkF m 102 #[oR r0, oI 0, oI 0, oI 0, oR b92, oI 0, oI 0, oI 0, oU] [(.int 0)]) _
    refine XS.iload X92.here hx rfl (hb hby d3_102) rfl ?_
    show oP p e below T92 (mkF m 104 #[oR r0, oI 0, oI 0, oI 0, oR b92, oI 0, oI 0, oI 0, oU] [(.int 0), (.int 0)]) _
    refine XS.icmpYes X92.here hx rfl (pc0 := 104) (pc' := 233) rfl (hb hby d3_104) rfl (flt (by decide : ¬ ((0 : Int32) < (0 : Int32)))).2.1 (by decide) (by decide) ?_
    show oP p e below T92 (mkF m 233 #[oR r0, oI 0, oI 0, oI 0, oR b92, oI 0, oI 0, oI 0, oU] []) _
    refine XS.iloadN X92.here hx rfl (hb hby d3_233) rfl ?_
    refine XS.iconst X92.here hx rfl (hb hby d3_234) ?_
    refine XS.icmpYes X92.here hx rfl (pc0 := 235) (pc' := 256) rfl (hb hby d3_235) rfl (feq (by decide : ¬ ((0 : Int32) = (2 : Int32)))).2 (by decide) (by decide) ?_
    show oP p e below T92 (mkF m 256 #[oR r0, oI 0, oI 0, oI 0, oR b92, oI 0, oI 0, oI 0, oU] []) _
    refine XS.iloadN X92.here hx rfl (hb hby d3_256) rfl ?_
    refine XS.iconst X92.here hx rfl (hb hby d3_257) ?_
    refine XS.icmpYes X92.here hx rfl (pc0 := 258) (pc' := 294) rfl (hb hby d3_258) rfl (feq (by decide : ¬ ((0 : Int32) = (3 : Int32)))).2 (by decide) (by decide) ?_
    show oP p e below T92 (mkF m 294 #[oR r0, oI 0, oI 0, oI 0, oR b92, oI 0, oI 0, oI 0, oU] []) _
    refine XS.aload X92.here hx rfl (hb hby d3_294) rfl rfl ?_
    show oP p e below T92 (mkF m 296 #[oR r0, oI 0, oI 0, oI 0, oR b92, oI 0, oI 0, oI 0, oU] [(.ref b92)]) _
    exact own_retA X92 hx Bd.returns rfl rfl (hb hby d3_296) hr
  · show ∃ (b : Addr), ∃ (kb : ClassId), (some (.ref b92) : Option Value) = some (.ref b) ∧ Fr n0 _ ∧ Keep h0 T92.heap [] ∧ h0.size ≤ b ∧ Arv Z T92.heap b kb .byte (0 : Int32) [] (.int 0)
    rw [e92]
    exact ⟨b92, k92, rfl, N91, Kc92, sz_b92, V92⟩
theorem d3_7 : decode prog_8_method_3_code 7 = .ok (.aload_n 0, 1) := by decide +kernel
theorem d3_8 : decode prog_8_method_3_code 8 = .ok (.iload_n 1, 1) := by decide +kernel
theorem d3_9 : decode prog_8_method_3_code 9 = .ok (.iconst 1, 1) := by decide +kernel
theorem d3_10 : decode prog_8_method_3_code 10 = .ok (.isub, 1) := by decide +kernel
theorem d3_11 : decode prog_8_method_3_code 11 = .ok (.baload, 1) := by decide +kernel
theorem d3_12 : decode prog_8_method_3_code 12 = .ok (.bipush 61, 2) := by decide +kernel
theorem d3_14 : decode prog_8_method_3_code 14 = .ok (.if_icmp .ne 9, 3) := by decide +kernel
theorem d3_238 : decode prog_8_method_3_code 238 = .ok (.aload 4, 2) := by decide +kernel
theorem d3_240 : decode prog_8_method_3_code 240 = .ok (.iload 5, 2) := by decide +kernel
theorem d3_242 : decode prog_8_method_3_code 242 = .ok (.aload_n 0, 1) := by decide +kernel
theorem d3_243 : decode prog_8_method_3_code 243 = .ok (.iload 6, 2) := by decide +kernel
theorem d3_245 : decode prog_8_method_3_code 245 = .ok (.iconst 2, 1) := by decide +kernel
theorem d3_246 : decode prog_8_method_3_code 246 = .ok (.invokestatic 52, 3) := by decide +kernel
theorem pd_4 : parseMethodDescriptor "([BII)I" = some ⟨[(.array .byte), .int, .int], some .int⟩ := by decide +kernel
theorem d3_249 : decode prog_8_method_3_code 249 = .ok (.iconst 4, 1) := by decide +kernel
theorem d3_250 : decode prog_8_method_3_code 250 = .ok (.ishr, 1) := by decide +kernel
theorem d3_251 : decode prog_8_method_3_code 251 = .ok (.i2b, 1) := by decide +kernel
theorem d3_252 : decode prog_8_method_3_code 252 = .ok (.bastore, 1) := by decide +kernel
theorem d3_253 : decode prog_8_method_3_code 253 = .ok (.goto 41, 3) := by decide +kernel
theorem ef_3x020 (m : MethodId) (x0 : Addr) : entryFrame m #[(.ref x0)] 9 = mkF m 0 #[.val (.ref x0), .unset, .unset, .unset, .unset, .unset, .unset, .unset, .unset] [] := by first | (simp [entryFrame, mkF, argsToLocals, Value.category]; done) | rfl
set_option maxRecDepth 65536 in
set_option maxHeartbeats 40000000 in
theorem rm3x020 (l : Launch) (Z : State) (a0 : Array Value) (hw : ∀ d ∈ tables_1, d.before a0 Z = true) (hS : St Z) (ws : List Jvm.Cond) (r0 : Addr) (k : ClassId) (d0 : Int32) (d1 : Int32) (r2_ : Value) (r3_ : Value) (r4_ : Value) (r5_ : Value) (r6_ : Value) (r7_ : Value) (r8_ : Value) (r9_ : Value) (r10_ : Value) (r11_ : Value) (h0 : Heap) (n0 : Nat) (O0 : Old Z n0 h0) (V_r0 : Arv Z h0 r0 k .byte (2 : Int32) [(.int (chv d0)), (.int (chv d1)), r2_, r3_, r4_, r5_, r6_, r7_, r8_, r9_, r10_, r11_] (.int 0)) (hd0 : Dg d0) (hd1 : Dg d1) :
    MetFree l (⟨"com/example/meerkat/meerkat/Base64Codec", "decode", "([B)[B"⟩ : MethodName) (head1 (Jvm.Cond.code (⟨"com/example/meerkat/meerkat/Base64Codec", "decode", "([B)[B"⟩ : MethodName) prog_8_method_3_code 9 (some (.array .byte)) :: ws) ({ frames := 2, cells := 1, slots := 8, locals := 60 } : Room)) (fun a U => a = #[(.ref r0)] ∧ Z.Warmed39 U.vm ∧ U.heap = h0) (fun _ _ _ _ _ => True) (fun _ U o U' => ∃ v L, o = .returned v ∧ own_Q (fun v hE L => ∃ (b : Addr), ∃ (kb : ClassId), v = some (.ref b) ∧ Fr n0 L ∧ Keep h0 hE [] ∧ h0.size ≤ b ∧ Arv Z hE b kb .byte (1 : Int32) [(.int ((((((((0 : Int32) <<< ((6 : Int32) &&& 31)) ||| d0) <<< ((6 : Int32) &&& 31)) ||| d1) >>> ((4 : Int32) &&& 31)).toInt8.toInt32).toInt8.toInt32))] (.int 0)) v U'.heap L ∧ FrameEnd U o U' L ({ frames := 2, cells := 1, slots := 8, locals := 60 } : Room).cells ({ frames := 2, cells := 1, slots := 8, locals := 60 } : Room).slots) := by
  refine MetFree.of_bodySF (plainFor_of_name pn_1) hisR ?_
  intro p e s m args below meth c s₁ Bd hml0 hP hK
  obtain ⟨rfl, hZ, hh⟩ := hP
  have hx := Bd.exec
  have hby := Bd.bytes
  have hml : c.maxLocals = 9 := hml0
  have hown : s.vm.findClass "com/example/meerkat/meerkat/Base64Codec" = some m.cls := findClass_of_methodNamed Bd.named
  have hnm := (name_of_methodNamed Bd.named Bd.method).1
  have X0 : Stand p l e ({ frames := 2, cells := 1, slots := 8, locals := 60 } : Room) s m #[(.ref r0)] below meth c s₁ [] 0 0 := Stand.of_body Bd
  have e0 : s₁.heap = h0 := by rw [← hh, Bd.state]; rfl
  have N0 := Fr.nil n0
  have pre0 : ∀ t, Steps p.tables e below (s₁.setTop (mkF m 0 #[oR r0, oU, oU, oU, oU, oU, oU, oU, oU] [])) t → Steps p.tables e below (s₁.setTop (entryFrame m #[(.ref r0)] 9)) t := fun t k => castTop (ef_3x020 m r0) k
  obtain ⟨_, _, ⟨T93, L93, k93, n93⟩, -, X93, ⟨Lc93, hQ93, l93, y93, z93⟩, st93⟩ := Jvm.LawKit.callS X0 hx (y := (⟨"java/lang/Math", "max", "(II)I"⟩ : MethodName)) hown (mvT hZ (wi hw 12 rfl)) (mvT hZ (wi hw 13 rfl)) (mvT hZ (wi hw 14 rfl)) (mvT hZ (wi hw 15 rfl)) (by decide) (backOf (W := 1) (rm4 l Z a0 hw hS [] (0 : Int32) (1 : Int32) h0 n0 O0) hZ (wi hw 15 rfl) (wi hw 14 rfl) (by decide) (by decide)) (g := (mkF m 81 #[oR r0, oI 2, oI 2, oI 0, oU, oU, oU, oU, oU] [(.int 1), (.int 0), (.int 0)])) rfl (by rw [hml]; rfl) (argsL := [(.int 0), (.int 1)]) (rest := [(.int 0)]) (lenOf pd_3 rfl) rfl (by show 2 * 0 + _ ≤ _; exact Nat.le_of_eq rfl) (hb hby d3_81) (fun _ _ => ⟨rfl, e0, (by decide : 0 + 0 ≤ _), (by decide : 0 + 0 ≤ _)⟩)
  dsimp only [Pt.U, Pt.locs, Pt.cells, Pt.slots] at X93 l93 y93 z93 st93 hQ93
  subst l93 y93 z93
  obtain ⟨v93, N93q, h93q⟩ := hQ93
  have w93 : (fn4 Z (0 : Int32) (1 : Int32)) = (1 : Int32) := by unfold fn4; rw [if_pos (by decide : (0 : Int32) < (1 : Int32))]; all_goals first | rfl | decide
  rw [w93] at v93
  subst v93
  have N93 := Fr.app N0 N93q
  obtain ⟨T94, h94, k94, X94, e94, E94, A94, st94⟩ := newP X93 hx hZ (wi hw 0 rfl) h93q (g := (mkF m 85 #[oR r0, oI 2, oI 2, oI 0, oU, oU, oU, oU, oU] [(.int 1)])) rfl (hb hby d3_85) rfl (by decide) (cap := 1) (by decide) (by decide) (by decide) (by decide)
  obtain ⟨b94, g94⟩ : ∃ z, z = h0.size := ⟨_, rfl⟩
  have g_b94 : n0 ≤ b94 := Nat.le_trans (own_old_le O0) (Nat.le_of_eq g94.symm)
  have sz_b94 : h0.size ≤ b94 := Nat.le_trans (Keep.refl h0 []).1 (Nat.le_of_eq g94.symm)
  have ne_r0_b94 : r0 ≠ b94 := Nat.ne_of_lt (Nat.lt_of_lt_of_le V_r0.lt (Nat.le_of_eq g94.symm))
  rw [← g94] at A94 st94
  have O94 := O0.ext E94
  have Kc94 := (Keep.refl h0 []).ext E94
  have V94 : Arv Z h94 b94 k94 .byte (1 : Int32) [(.int 0)] (.int 0) := (Arv.new A94 (by decide)).pad (pad_rep [] (.int 0) 1)
  have fx96 := (V_r0.ext E94)
  obtain ⟨_, _, ⟨T95, L95, k95, n95⟩, -, X95, ⟨Lc95, hQ95, l95, y95, z95⟩, st95⟩ := Jvm.LawKit.callS X94 hx (y := (⟨"com/example/meerkat/meerkat/Base64Codec", "bitsOf", "([BII)I"⟩ : MethodName)) hown (mvT hZ (wi hw 28 rfl)) (mvT hZ (wi hw 29 rfl)) (mvT hZ (wi hw 10 rfl)) (mvT hZ (wi hw 30 rfl)) (by decide) (backOf (W := 2) (rm8b0_2 l Z a0 hw hS [] r0 k (2 : Int32) [(.int (chv d0)), (.int (chv d1)), r2_, r3_, r4_, r5_, r6_, r7_, r8_, r9_, r10_, r11_] d0 d1 h94 n0 O94 fx96 hd0 hd1 rfl rfl ⟨by decide, by decide⟩ ⟨by decide, by decide⟩) hZ (wi hw 30 rfl) (wi hw 10 rfl) (by decide) (by decide)) (g := (mkF m 246 #[oR r0, oI 2, oI 2, oI 0, oR b94, oI 0, oI 0, oI 0, oU] [(.int 2), (.int 0), (.ref r0), (.int 0), (.ref b94)])) rfl (by rw [hml]; rfl) (argsL := [(.ref r0), (.int 0), (.int 2)]) (rest := [(.int 0), (.ref b94)]) (lenOf pd_4 rfl) rfl (by show 2 * 0 + _ ≤ _; exact Nat.le_of_eq rfl) (hb hby d3_246) (fun _ _ => ⟨rfl, e94, (by decide : 1 + 0 ≤ _), (by decide : 1 + 0 ≤ _)⟩)
  dsimp only [Pt.U, Pt.locs, Pt.cells, Pt.slots] at X95 l95 y95 z95 st95 hQ95
  subst l95 y95 z95
  obtain ⟨v95, N95q, K95q⟩ := hQ95
  have w95 : (fn8b0_2 Z r0 k (2 : Int32) [(.int (chv d0)), (.int (chv d1)), r2_, r3_, r4_, r5_, r6_, r7_, r8_, r9_, r10_, r11_] d0 d1) = (((((0 : Int32) <<< ((6 : Int32) &&& 31)) ||| d0) <<< ((6 : Int32) &&& 31)) ||| d1) := rfl
  rw [w95] at v95
  subst v95
  have N95 := Fr.app N93 N95q
  have O95 := O94.keep K95q all0
  have Kc95 := Kc94.trans K95q all0
  have fx98 := (V94.keep K95q nin0)
  obtain ⟨T97, h97, X97, e97, W97, V97', st97⟩ := own_stB X95 hx hZ rfl fx98 (j := (0 : Int32)) ⟨by decide, by decide⟩ rfl (by decide : ((0 : Int32) : Int32).toNatClampNeg < 1) (g := (mkF m 252 #[oR r0, oI 2, oI 2, oI 0, oR b94, oI 0, oI 0, oI 0, oU] [(.int (((((((0 : Int32) <<< ((6 : Int32) &&& 31)) ||| d0) <<< ((6 : Int32) &&& 31)) ||| d1) >>> ((4 : Int32) &&& 31)).toInt8.toInt32)), (.int 0), (.ref b94)])) rfl rfl (hb hby d3_252)
  have N97 := Fr.snoc X97 N95 g_b94
  have O97 := O95.wr W97 g_b94
  have Kc97 := Kc95.wr W97 (Or.inr sz_b94)
  have V97 : Arv Z h97 b94 k94 .byte (1 : Int32) [(.int ((((((((0 : Int32) <<< ((6 : Int32) &&& 31)) ||| d0) <<< ((6 : Int32) &&& 31)) ||| d1) >>> ((4 : Int32) &&& 31)).toInt8.toInt32).toInt8.toInt32))] (.int 0) := V97'
  obtain ⟨fs, hr, hrun, hended, hW, hsame⟩ := X97.leave (v := some (.ref b94)) (fun h => by rw [Bd.returns] at h; cases h)
  refine ⟨_, _, pre0 _ ?_, hrun, hended, _, _, rfl, ?_, ⟨_, rfl⟩, hW, hsame.mono (by decide) (by decide)⟩
  · show oP p e below s₁ (mkF m 0 #[oR r0, oU, oU, oU, oU, oU, oU, oU, oU] []) _
    refine XS.aloadN X0.here hx rfl (hb hby d3_0) rfl rfl ?_
    show oP p e below s₁ (mkF m 1 #[oR r0, oU, oU, oU, oU, oU, oU, oU, oU] [(.ref r0)]) _
    refine own_len X0 hx hZ e0 V_r0 (g := (mkF m 1 #[oR r0, oU, oU, oU, oU, oU, oU, oU, oU] [(.ref r0)])) rfl rfl (hb hby d3_1) _ ?_
    show oP p e below s₁ (mkF m 2 #[oR r0, oU, oU, oU, oU, oU, oU, oU, oU] [(.int 2)]) _
    refine XS.istoreN X0.here hx rfl (hb hby d3_2) rfl (l' := #[oR r0, oI 2, oU, oU, oU, oU, oU, oU, oU]) rfl ?_
    show oP p e below s₁ (mkF m 3 #[oR r0, oI 2, oU, oU, oU, oU, oU, oU, oU] []) _
    refine XS.iloadN X0.here hx rfl (hb hby d3_3) rfl ?_
    refine XS.ifNo X0.here hx rfl (hb hby d3_4) rfl ((if0 _ _).trans (tlt (by decide : (0 : Int32) < (2 : Int32))).2.2.2) ?_
    show oP p e below s₁ (mkF m 7 #[oR r0, oI 2, oU, oU, oU, oU, oU, oU, oU] []) _
    refine XS.aloadN X0.here hx rfl (hb hby d3_7) rfl rfl ?_
    refine XS.iloadN X0.here hx rfl (hb hby d3_8) rfl ?_
    refine XS.iconst X0.here hx rfl (hb hby d3_9) ?_
    refine XS.isub X0.here hx rfl (hb hby d3_10) rfl ?_
    show oP p e below s₁ (mkF m 11 #[oR r0, oI 2, oU, oU, oU, oU, oU, oU, oU] [(.int 1), (.ref r0)]) _
    refine own_baload X0 hx hZ e0 V_r0 (j := (1 : Int32)) ⟨by decide, by decide⟩ (v := (.int (chv d1))) rfl (g := (mkF m 11 #[oR r0, oI 2, oU, oU, oU, oU, oU, oU, oU] [(.int 1), (.ref r0)])) rfl rfl (hb hby d3_11) _ ?_
    show oP p e below s₁ (mkF m 12 #[oR r0, oI 2, oU, oU, oU, oU, oU, oU, oU] [(.int (chv d1))]) _
    refine XS.bipush X0.here hx rfl (hb hby d3_12) ?_
    refine XS.icmpYes X0.here hx rfl (pc0 := 14) (pc' := 23) rfl (hb hby d3_14) rfl (feq (chv_ne hd1)).2 (by decide) (by decide) ?_
    show oP p e below s₁ (mkF m 23 #[oR r0, oI 2, oU, oU, oU, oU, oU, oU, oU] []) _
    refine XS.iloadN X0.here hx rfl (hb hby d3_23) rfl ?_
    refine XS.iconst X0.here hx rfl (hb hby d3_24) ?_
    refine XS.irem X0.here hx rfl (hb hby d3_25) rfl (by decide) ?_
    show oP p e below s₁ (mkF m 26 #[oR r0, oI 2, oU, oU, oU, oU, oU, oU, oU] [(.int 2)]) _
    refine XS.istoreN X0.here hx rfl (hb hby d3_26) rfl (l' := #[oR r0, oI 2, oI 2, oU, oU, oU, oU, oU, oU]) rfl ?_
    show oP p e below s₁ (mkF m 27 #[oR r0, oI 2, oI 2, oU, oU, oU, oU, oU, oU] []) _
    refine XS.aloadN X0.here hx rfl (hb hby d3_27) rfl rfl ?_
    show oP p e below s₁ (mkF m 28 #[oR r0, oI 2, oI 2, oU, oU, oU, oU, oU, oU] [(.ref r0)]) _
    refine own_len X0 hx hZ e0 V_r0 (g := (mkF m 28 #[oR r0, oI 2, oI 2, oU, oU, oU, oU, oU, oU] [(.ref r0)])) rfl rfl (hb hby d3_28) _ ?_
    show oP p e below s₁ (mkF m 29 #[oR r0, oI 2, oI 2, oU, oU, oU, oU, oU, oU] [(.int 2)]) _
    refine XS.iloadN X0.here hx rfl (hb hby d3_29) rfl ?_
    refine XS.isub X0.here hx rfl (hb hby d3_30) rfl ?_
    show oP p e below s₁ (mkF m 31 #[oR r0, oI 2, oI 2, oU, oU, oU, oU, oU, oU] [(.int 0)]) _
    refine XS.istoreN X0.here hx rfl (hb hby d3_31) rfl (l' := #[oR r0, oI 2, oI 2, oI 0, oU, oU, oU, oU, oU]) rfl ?_
    show oP p e below s₁ (mkF m 32 #[oR r0, oI 2, oI 2, oI 0, oU, oU, oU, oU, oU] []) _
    refine XS.iloadN X0.here hx rfl (hb hby d3_32) rfl ?_
    refine XS.iconst X0.here hx rfl (hb hby d3_33) ?_
    refine XS.icmpYes X0.here hx rfl (pc0 := 34) (pc' := 47) rfl (hb hby d3_34) rfl (feq (by decide : ¬ ((2 : Int32) = (1 : Int32)))).2 (by decide) (by decide) ?_
    show oP p e below s₁ (mkF m 47 #[oR r0, oI 2, oI 2, oI 0, oU, oU, oU, oU, oU] []) _
    refine XS.iloadN X0.here hx rfl (hb hby d3_47) rfl ?_
    refine XS.ifYes X0.here hx rfl (pc0 := 48) (pc' := 72) rfl (hb hby d3_48) rfl ((if0 _ _).trans (flt (by decide : ¬ ((0 : Int32) < (0 : Int32)))).2.2.2) (by decide) (by decide) ?_
    show oP p e below s₁ (mkF m 72 #[oR r0, oI 2, oI 2, oI 0, oU, oU, oU, oU, oU] []) _
    refine XS.iloadN X0.here hx rfl (hb hby d3_72) rfl ?_
    refine XS.iconst X0.here hx rfl (hb hby d3_73) ?_
    refine XS.idiv X0.here hx rfl (hb hby d3_74) rfl (by decide) ?_
    show oP p e below s₁ (mkF m 75 #[oR r0, oI 2, oI 2, oI 0, oU, oU, oU, oU, oU] [(.int 0)]) _
    refine XS.iconst X0.here hx rfl (hb hby d3_75) ?_
    refine XS.imul X0.here hx rfl (hb hby d3_76) rfl ?_
    show oP p e below s₁ (mkF m 77 #[oR r0, oI 2, oI 2, oI 0, oU, oU, oU, oU, oU] [(.int 0)]) _
    refine XS.iconst X0.here hx rfl (hb hby d3_77) ?_
    refine XS.iloadN X0.here hx rfl (hb hby d3_78) rfl ?_
    refine XS.iconst X0.here hx rfl (hb hby d3_79) ?_
    refine XS.isub X0.here hx rfl (hb hby d3_80) rfl ?_
    show oP p e below s₁ (mkF m 81 #[oR r0, oI 2, oI 2, oI 0, oU, oU, oU, oU, oU] [(.int 1), (.int 0), (.int 0)]) _
    refine st93 _ ?_
    show oP p e below T93 (mkF m 84 #[oR r0, oI 2, oI 2, oI 0, oU, oU, oU, oU, oU] [(.int 1), (.int 0)]) _
    refine XS.iadd X93.here hx rfl (hb hby d3_84) rfl ?_
    show oP p e below T93 (mkF m 85 #[oR r0, oI 2, oI 2, oI 0, oU, oU, oU, oU, oU] [(.int 1)]) _
    refine st94 _ ?_
    show oP p e below T94 (mkF m 87 #[oR r0, oI 2, oI 2, oI 0, oU, oU, oU, oU, oU] [(.ref b94)]) _
    refine XS.astore X94.here hx rfl (hb hby d3_87) rfl rfl (l' := #[oR r0, oI 2, oI 2, oI 0, oR b94, oU, oU, oU, oU]) rfl ?_
    show oP p e below T94 (mkF m 89 #[oR r0, oI 2, oI 2, oI 0, oR b94, oU, oU, oU, oU] []) _
    refine XS.iconst X94.here hx rfl (hb hby d3_89) ?_
    refine XS.istore X94.here hx rfl (hb hby d3_90) rfl (l' := #[oR r0, oI 2, oI 2, oI 0, oR b94, oI 0, oU, oU, oU]) rfl ?_
    show oP p e below T94 (mkF m 92 #[oR r0, oI 2, oI 2, oI 0, oR b94, oI 0, oU, oU, oU] []) _
    refine XS.iloadN X94.here hx rfl (hb hby d3_92) rfl ?_
    refine XS.iloadN X94.here hx rfl (hb hby d3_93) rfl ?_
    refine XS.isub X94.here hx rfl (hb hby d3_94) rfl ?_
    show oP p e below T94 (mkF m 95 #[oR r0, oI 2, oI 2, oI 0, oR b94, oI 0, oU, oU, oU] [(.int 0)]) _
    refine XS.istore X94.here hx rfl (hb hby d3_95) rfl (l' := #[oR r0, oI 2, oI 2, oI 0, oR b94, oI 0, oI 0, oU, oU]) rfl ?_
    show oP p e below T94 (mkF m 97 #[oR r0, oI 2, oI 2, oI 0, oR b94, oI 0, oI 0, oU, oU] []) _
    refine XS.iconst X94.here hx rfl (hb hby d3_97) ?_
    refine XS.istore X94.here hx rfl (hb hby d3_98) rfl (l' := #[oR r0, oI 2, oI 2, oI 0, oR b94, oI 0, oI 0, oI 0, oU]) rfl ?_
    show oP p e below T94 (mkF m 100 #[oR r0, oI 2, oI 2, oI 0, oR b94, oI 0, oI 0, oI 0, oU] []) _
    refine XS.iload X94.here hx rfl (hb hby d3_100) rfl ?_
    show oP p e below T94 (mkF m 102 #[oR r0, oI 2, oI 2, oI 0, oR b94, oI 0, oI 0, oI 0, oU] [(.int 0)]) _
    refine XS.iload X94.here hx rfl (hb hby d3_102) rfl ?_
    show oP p e below T94 (mkF m 104 #[oR r0, oI 2, oI 2, oI 0, oR b94, oI 0, oI 0, oI 0, oU] [(.int 0), (.int 0)]) _
    refine XS.icmpYes X94.here hx rfl (pc0 := 104) (pc' := 233) rfl (hb hby d3_104) rfl (flt (by decide : ¬ ((0 : Int32) < (0 : Int32)))).2.1 (by decide) (by decide) ?_
    show oP p e below T94 (mkF m 233 #[oR r0, oI 2, oI 2, oI 0, oR b94, oI 0, oI 0, oI 0, oU] []) _
    refine XS.iloadN X94.here hx rfl (hb hby d3_233) rfl ?_
    refine XS.iconst X94.here hx rfl (hb hby d3_234) ?_
    refine XS.icmpNo X94.here hx rfl (hb hby d3_235) rfl (teq (by decide : (2 : Int32) = (2 : Int32))).2 ?_
    show oP p e below T94 (mkF m 238 #[oR r0, oI 2, oI 2, oI 0, oR b94, oI 0, oI 0, oI 0, oU] []) _
    refine XS.aload X94.here hx rfl (hb hby d3_238) rfl rfl ?_
    show oP p e below T94 (mkF m 240 #[oR r0, oI 2, oI 2, oI 0, oR b94, oI 0, oI 0, oI 0, oU] [(.ref b94)]) _
    refine XS.iload X94.here hx rfl (hb hby d3_240) rfl ?_
    show oP p e below T94 (mkF m 242 #[oR r0, oI 2, oI 2, oI 0, oR b94, oI 0, oI 0, oI 0, oU] [(.int 0), (.ref b94)]) _
    refine XS.aloadN X94.here hx rfl (hb hby d3_242) rfl rfl ?_
    refine XS.iload X94.here hx rfl (hb hby d3_243) rfl ?_
    show oP p e below T94 (mkF m 245 #[oR r0, oI 2, oI 2, oI 0, oR b94, oI 0, oI 0, oI 0, oU] [(.int 0), (.ref r0), (.int 0), (.ref b94)]) _
    refine XS.iconst X94.here hx rfl (hb hby d3_245) ?_
    show oP p e below T94 (mkF m 246 #[oR r0, oI 2, oI 2, oI 0, oR b94, oI 0, oI 0, oI 0, oU] [(.int 2), (.int 0), (.ref r0), (.int 0), (.ref b94)]) _
    refine st95 _ ?_
    show oP p e below T95 (mkF m 249 #[oR r0, oI 2, oI 2, oI 0, oR b94, oI 0, oI 0, oI 0, oU] [(.int (((((0 : Int32) <<< ((6 : Int32) &&& 31)) ||| d0) <<< ((6 : Int32) &&& 31)) ||| d1)), (.int 0), (.ref b94)]) _
    refine XS.iconst X95.here hx rfl (hb hby d3_249) ?_
    refine XS.ishr X95.here hx rfl (hb hby d3_250) rfl ?_
    show oP p e below T95 (mkF m 251 #[oR r0, oI 2, oI 2, oI 0, oR b94, oI 0, oI 0, oI 0, oU] [(.int ((((((0 : Int32) <<< ((6 : Int32) &&& 31)) ||| d0) <<< ((6 : Int32) &&& 31)) ||| d1) >>> ((4 : Int32) &&& 31))), (.int 0), (.ref b94)]) _
    refine XS.i2b X95.here hx rfl (hb hby d3_251) rfl ?_
    show oP p e below T95 (mkF m 252 #[oR r0, oI 2, oI 2, oI 0, oR b94, oI 0, oI 0, oI 0, oU] [(.int (((((((0 : Int32) <<< ((6 : Int32) &&& 31)) ||| d0) <<< ((6 : Int32) &&& 31)) ||| d1) >>> ((4 : Int32) &&& 31)).toInt8.toInt32)), (.int 0), (.ref b94)]) _
    refine st97 _ ?_
    show oP p e below T97 (mkF m 253 #[oR r0, oI 2, oI 2, oI 0, oR b94, oI 0, oI 0, oI 0, oU] []) _
    refine XS.goto X97.here hx rfl (pc0 := 253) (pc' := 294) rfl (hb hby d3_253) (by decide) (by decide) ?_
    show oP p e below T97 (mkF m 294 #[oR r0, oI 2, oI 2, oI 0, oR b94, oI 0, oI 0, oI 0, oU] []) _
    refine XS.aload X97.here hx rfl (hb hby d3_294) rfl rfl ?_
    show oP p e below T97 (mkF m 296 #[oR r0, oI 2, oI 2, oI 0, oR b94, oI 0, oI 0, oI 0, oU] [(.ref b94)]) _
    exact own_retA X97 hx Bd.returns rfl rfl (hb hby d3_296) hr
  · show ∃ (b : Addr), ∃ (kb : ClassId), (some (.ref b94) : Option Value) = some (.ref b) ∧ Fr n0 _ ∧ Keep h0 T97.heap [] ∧ h0.size ≤ b ∧ Arv Z T97.heap b kb .byte (1 : Int32) [(.int ((((((((0 : Int32) <<< ((6 : Int32) &&& 31)) ||| d0) <<< ((6 : Int32) &&& 31)) ||| d1) >>> ((4 : Int32) &&& 31)).toInt8.toInt32).toInt8.toInt32))] (.int 0)
    rw [e97]
    exact ⟨b94, k94, rfl, N97, Kc97, sz_b94, V97⟩
theorem d3_17 : decode prog_8_method_3_code 17 = .ok (.iinc 1 (-1), 3) := by decide +kernel
theorem d3_20 : decode prog_8_method_3_code 20 = .ok (.goto (-17), 3) := by decide +kernel
theorem d3_51 : decode prog_8_method_3_code 51 = .ok (.iload_n 2, 1) := by decide +kernel
theorem d3_52 : decode prog_8_method_3_code 52 = .ok (.ifCond .eq 10, 3) := by decide +kernel
theorem d3_55 : decode prog_8_method_3_code 55 = .ok (.iload_n 3, 1) := by decide +kernel
theorem d3_56 : decode prog_8_method_3_code 56 = .ok (.iconst 4, 1) := by decide +kernel
theorem d3_57 : decode prog_8_method_3_code 57 = .ok (.iload_n 2, 1) := by decide +kernel
theorem d3_58 : decode prog_8_method_3_code 58 = .ok (.isub, 1) := by decide +kernel
theorem d3_59 : decode prog_8_method_3_code 59 = .ok (.if_icmp .eq 13, 3) := by decide +kernel
theorem ef_3x022 (m : MethodId) (x0 : Addr) : entryFrame m #[(.ref x0)] 9 = mkF m 0 #[.val (.ref x0), .unset, .unset, .unset, .unset, .unset, .unset, .unset, .unset] [] := by first | (simp [entryFrame, mkF, argsToLocals, Value.category]; done) | rfl
set_option maxRecDepth 65536 in
set_option maxHeartbeats 40000000 in
theorem rm3x022 (l : Launch) (Z : State) (a0 : Array Value) (hw : ∀ d ∈ tables_1, d.before a0 Z = true) (hS : St Z) (ws : List Jvm.Cond) (r0 : Addr) (k : ClassId) (d0 : Int32) (d1 : Int32) (r4_ : Value) (r5_ : Value) (r6_ : Value) (r7_ : Value) (r8_ : Value) (r9_ : Value) (r10_ : Value) (r11_ : Value) (h0 : Heap) (n0 : Nat) (O0 : Old Z n0 h0) (V_r0 : Arv Z h0 r0 k .byte (4 : Int32) [(.int (chv d0)), (.int (chv d1)), (.int 61), (.int 61), r4_, r5_, r6_, r7_, r8_, r9_, r10_, r11_] (.int 0)) (hd0 : Dg d0) (hd1 : Dg d1) :
    MetFree l (⟨"com/example/meerkat/meerkat/Base64Codec", "decode", "([B)[B"⟩ : MethodName) (head1 (Jvm.Cond.code (⟨"com/example/meerkat/meerkat/Base64Codec", "decode", "([B)[B"⟩ : MethodName) prog_8_method_3_code 9 (some (.array .byte)) :: ws) ({ frames := 2, cells := 1, slots := 8, locals := 60 } : Room)) (fun a U => a = #[(.ref r0)] ∧ Z.Warmed39 U.vm ∧ U.heap = h0) (fun _ _ _ _ _ => True) (fun _ U o U' => ∃ v L, o = .returned v ∧ own_Q (fun v hE L => ∃ (b : Addr), ∃ (kb : ClassId), v = some (.ref b) ∧ Fr n0 L ∧ Keep h0 hE [] ∧ h0.size ≤ b ∧ Arv Z hE b kb .byte (1 : Int32) [(.int ((((((((0 : Int32) <<< ((6 : Int32) &&& 31)) ||| d0) <<< ((6 : Int32) &&& 31)) ||| d1) >>> ((4 : Int32) &&& 31)).toInt8.toInt32).toInt8.toInt32))] (.int 0)) v U'.heap L ∧ FrameEnd U o U' L ({ frames := 2, cells := 1, slots := 8, locals := 60 } : Room).cells ({ frames := 2, cells := 1, slots := 8, locals := 60 } : Room).slots) := by
  refine MetFree.of_bodySF (plainFor_of_name pn_1) hisR ?_
  intro p e s m args below meth c s₁ Bd hml0 hP hK
  obtain ⟨rfl, hZ, hh⟩ := hP
  have hx := Bd.exec
  have hby := Bd.bytes
  have hml : c.maxLocals = 9 := hml0
  have hown : s.vm.findClass "com/example/meerkat/meerkat/Base64Codec" = some m.cls := findClass_of_methodNamed Bd.named
  have hnm := (name_of_methodNamed Bd.named Bd.method).1
  have X0 : Stand p l e ({ frames := 2, cells := 1, slots := 8, locals := 60 } : Room) s m #[(.ref r0)] below meth c s₁ [] 0 0 := Stand.of_body Bd
  have e0 : s₁.heap = h0 := by rw [← hh, Bd.state]; rfl
  have N0 := Fr.nil n0
  have pre0 : ∀ t, Steps p.tables e below (s₁.setTop (mkF m 0 #[oR r0, oU, oU, oU, oU, oU, oU, oU, oU] [])) t → Steps p.tables e below (s₁.setTop (entryFrame m #[(.ref r0)] 9)) t := fun t k => castTop (ef_3x022 m r0) k
  obtain ⟨_, _, ⟨T99, L99, k99, n99⟩, -, X99, ⟨Lc99, hQ99, l99, y99, z99⟩, st99⟩ := Jvm.LawKit.callS X0 hx (y := (⟨"java/lang/Math", "max", "(II)I"⟩ : MethodName)) hown (mvT hZ (wi hw 12 rfl)) (mvT hZ (wi hw 13 rfl)) (mvT hZ (wi hw 14 rfl)) (mvT hZ (wi hw 15 rfl)) (by decide) (backOf (W := 1) (rm4 l Z a0 hw hS [] (0 : Int32) (1 : Int32) h0 n0 O0) hZ (wi hw 15 rfl) (wi hw 14 rfl) (by decide) (by decide)) (g := (mkF m 81 #[oR r0, oI 2, oI 2, oI 2, oU, oU, oU, oU, oU] [(.int 1), (.int 0), (.int 0)])) rfl (by rw [hml]; rfl) (argsL := [(.int 0), (.int 1)]) (rest := [(.int 0)]) (lenOf pd_3 rfl) rfl (by show 2 * 0 + _ ≤ _; exact Nat.le_of_eq rfl) (hb hby d3_81) (fun _ _ => ⟨rfl, e0, (by decide : 0 + 0 ≤ _), (by decide : 0 + 0 ≤ _)⟩)
  dsimp only [Pt.U, Pt.locs, Pt.cells, Pt.slots] at X99 l99 y99 z99 st99 hQ99
  subst l99 y99 z99
  obtain ⟨v99, N99q, h99q⟩ := hQ99
  have w99 : (fn4 Z (0 : Int32) (1 : Int32)) = (1 : Int32) := by unfold fn4; rw [if_pos (by decide : (0 : Int32) < (1 : Int32))]; all_goals first | rfl | decide
  rw [w99] at v99
  subst v99
  have N99 := Fr.app N0 N99q
  obtain ⟨T100, h100, k100, X100, e100, E100, A100, st100⟩ := newP X99 hx hZ (wi hw 0 rfl) h99q (g := (mkF m 85 #[oR r0, oI 2, oI 2, oI 2, oU, oU, oU, oU, oU] [(.int 1)])) rfl (hb hby d3_85) rfl (by decide) (cap := 1) (by decide) (by decide) (by decide) (by decide)
  obtain ⟨b100, g100⟩ : ∃ z, z = h0.size := ⟨_, rfl⟩
  have g_b100 : n0 ≤ b100 := Nat.le_trans (own_old_le O0) (Nat.le_of_eq g100.symm)
  have sz_b100 : h0.size ≤ b100 := Nat.le_trans (Keep.refl h0 []).1 (Nat.le_of_eq g100.symm)
  have ne_r0_b100 : r0 ≠ b100 := Nat.ne_of_lt (Nat.lt_of_lt_of_le V_r0.lt (Nat.le_of_eq g100.symm))
  rw [← g100] at A100 st100
  have O100 := O0.ext E100
  have Kc100 := (Keep.refl h0 []).ext E100
  have V100 : Arv Z h100 b100 k100 .byte (1 : Int32) [(.int 0)] (.int 0) := (Arv.new A100 (by decide)).pad (pad_rep [] (.int 0) 1)
  have fx102 := (V_r0.ext E100)
  obtain ⟨_, _, ⟨T101, L101, k101, n101⟩, -, X101, ⟨Lc101, hQ101, l101, y101, z101⟩, st101⟩ := Jvm.LawKit.callS X100 hx (y := (⟨"com/example/meerkat/meerkat/Base64Codec", "bitsOf", "([BII)I"⟩ : MethodName)) hown (mvT hZ (wi hw 28 rfl)) (mvT hZ (wi hw 29 rfl)) (mvT hZ (wi hw 10 rfl)) (mvT hZ (wi hw 30 rfl)) (by decide) (backOf (W := 2) (rm8b0_2 l Z a0 hw hS [] r0 k (4 : Int32) [(.int (chv d0)), (.int (chv d1)), (.int 61), (.int 61), r4_, r5_, r6_, r7_, r8_, r9_, r10_, r11_] d0 d1 h100 n0 O100 fx102 hd0 hd1 rfl rfl ⟨by decide, by decide⟩ ⟨by decide, by decide⟩) hZ (wi hw 30 rfl) (wi hw 10 rfl) (by decide) (by decide)) (g := (mkF m 246 #[oR r0, oI 2, oI 2, oI 2, oR b100, oI 0, oI 0, oI 0, oU] [(.int 2), (.int 0), (.ref r0), (.int 0), (.ref b100)])) rfl (by rw [hml]; rfl) (argsL := [(.ref r0), (.int 0), (.int 2)]) (rest := [(.int 0), (.ref b100)]) (lenOf pd_4 rfl) rfl (by show 2 * 0 + _ ≤ _; exact Nat.le_of_eq rfl) (hb hby d3_246) (fun _ _ => ⟨rfl, e100, (by decide : 1 + 0 ≤ _), (by decide : 1 + 0 ≤ _)⟩)
  dsimp only [Pt.U, Pt.locs, Pt.cells, Pt.slots] at X101 l101 y101 z101 st101 hQ101
  subst l101 y101 z101
  obtain ⟨v101, N101q, K101q⟩ := hQ101
  have w101 : (fn8b0_2 Z r0 k (4 : Int32) [(.int (chv d0)), (.int (chv d1)), (.int 61), (.int 61), r4_, r5_, r6_, r7_, r8_, r9_, r10_, r11_] d0 d1) = (((((0 : Int32) <<< ((6 : Int32) &&& 31)) ||| d0) <<< ((6 : Int32) &&& 31)) ||| d1) := rfl
  rw [w101] at v101
  subst v101
  have N101 := Fr.app N99 N101q
  have O101 := O100.keep K101q all0
  have Kc101 := Kc100.trans K101q all0
  have fx104 := (V100.keep K101q nin0)
  obtain ⟨T103, h103, X103, e103, W103, V103', st103⟩ := own_stB X101 hx hZ rfl fx104 (j := (0 : Int32)) ⟨by decide, by decide⟩ rfl (by decide : ((0 : Int32) : Int32).toNatClampNeg < 1) (g := (mkF m 252 #[oR r0, oI 2, oI 2, oI 2, oR b100, oI 0, oI 0, oI 0, oU] [(.int (((((((0 : Int32) <<< ((6 : Int32) &&& 31)) ||| d0) <<< ((6 : Int32) &&& 31)) ||| d1) >>> ((4 : Int32) &&& 31)).toInt8.toInt32)), (.int 0), (.ref b100)])) rfl rfl (hb hby d3_252)
  have N103 := Fr.snoc X103 N101 g_b100
  have O103 := O101.wr W103 g_b100
  have Kc103 := Kc101.wr W103 (Or.inr sz_b100)
  have V103 : Arv Z h103 b100 k100 .byte (1 : Int32) [(.int ((((((((0 : Int32) <<< ((6 : Int32) &&& 31)) ||| d0) <<< ((6 : Int32) &&& 31)) ||| d1) >>> ((4 : Int32) &&& 31)).toInt8.toInt32).toInt8.toInt32))] (.int 0) := V103'
  obtain ⟨fs, hr, hrun, hended, hW, hsame⟩ := X103.leave (v := some (.ref b100)) (fun h => by rw [Bd.returns] at h; cases h)
  refine ⟨_, _, pre0 _ ?_, hrun, hended, _, _, rfl, ?_, ⟨_, rfl⟩, hW, hsame.mono (by decide) (by decide)⟩
  · show oP p e below s₁ (mkF m 0 #[oR r0, oU, oU, oU, oU, oU, oU, oU, oU] []) _
    refine XS.aloadN X0.here hx rfl (hb hby d3_0) rfl rfl ?_
    show oP p e below s₁ (mkF m 1 #[oR r0, oU, oU, oU, oU, oU, oU, oU, oU] [(.ref r0)]) _
    refine own_len X0 hx hZ e0 V_r0 (g := (mkF m 1 #[oR r0, oU, oU, oU, oU, oU, oU, oU, oU] [(.ref r0)])) rfl rfl (hb hby d3_1) _ ?_
    show oP p e below s₁ (mkF m 2 #[oR r0, oU, oU, oU, oU, oU, oU, oU, oU] [(.int 4)]) _
    refine XS.istoreN X0.here hx rfl (hb hby d3_2) rfl (l' := #[oR r0, oI 4, oU, oU, oU, oU, oU, oU, oU]) rfl ?_
    show oP p e below s₁ (mkF m 3 #[oR r0, oI 4, oU, oU, oU, oU, oU, oU, oU] []) _
    refine XS.iloadN X0.here hx rfl (hb hby d3_3) rfl ?_
    refine XS.ifNo X0.here hx rfl (hb hby d3_4) rfl ((if0 _ _).trans (tlt (by decide : (0 : Int32) < (4 : Int32))).2.2.2) ?_
    show oP p e below s₁ (mkF m 7 #[oR r0, oI 4, oU, oU, oU, oU, oU, oU, oU] []) _
    refine XS.aloadN X0.here hx rfl (hb hby d3_7) rfl rfl ?_
    refine XS.iloadN X0.here hx rfl (hb hby d3_8) rfl ?_
    refine XS.iconst X0.here hx rfl (hb hby d3_9) ?_
    refine XS.isub X0.here hx rfl (hb hby d3_10) rfl ?_
    show oP p e below s₁ (mkF m 11 #[oR r0, oI 4, oU, oU, oU, oU, oU, oU, oU] [(.int 3), (.ref r0)]) _
    refine own_baload X0 hx hZ e0 V_r0 (j := (3 : Int32)) ⟨by decide, by decide⟩ (v := (.int 61)) rfl (g := (mkF m 11 #[oR r0, oI 4, oU, oU, oU, oU, oU, oU, oU] [(.int 3), (.ref r0)])) rfl rfl (hb hby d3_11) _ ?_
    show oP p e below s₁ (mkF m 12 #[oR r0, oI 4, oU, oU, oU, oU, oU, oU, oU] [(.int 61)]) _
    refine XS.bipush X0.here hx rfl (hb hby d3_12) ?_
    refine XS.icmpNo X0.here hx rfl (hb hby d3_14) rfl (teq (by decide : (61 : Int32) = (61 : Int32))).2 ?_
    show oP p e below s₁ (mkF m 17 #[oR r0, oI 4, oU, oU, oU, oU, oU, oU, oU] []) _
    refine XS.iinc X0.here hx rfl (hb hby d3_17) rfl (l' := #[oR r0, oI 3, oU, oU, oU, oU, oU, oU, oU]) rfl ?_
    show oP p e below s₁ (mkF m 20 #[oR r0, oI 3, oU, oU, oU, oU, oU, oU, oU] []) _
    refine XS.goto X0.here hx rfl (pc0 := 20) (pc' := 3) rfl (hb hby d3_20) (by decide) (by decide) ?_
    show oP p e below s₁ (mkF m 3 #[oR r0, oI 3, oU, oU, oU, oU, oU, oU, oU] []) _
    refine XS.iloadN X0.here hx rfl (hb hby d3_3) rfl ?_
    refine XS.ifNo X0.here hx rfl (hb hby d3_4) rfl ((if0 _ _).trans (tlt (by decide : (0 : Int32) < (3 : Int32))).2.2.2) ?_
    show oP p e below s₁ (mkF m 7 #[oR r0, oI 3, oU, oU, oU, oU, oU, oU, oU] []) _
    refine XS.aloadN X0.here hx rfl (hb hby d3_7) rfl rfl ?_
    refine XS.iloadN X0.here hx rfl (hb hby d3_8) rfl ?_
    refine XS.iconst X0.here hx rfl (hb hby d3_9) ?_
    refine XS.isub X0.here hx rfl (hb hby d3_10) rfl ?_
    show oP p e below s₁ (mkF m 11 #[oR r0, oI 3, oU, oU, oU, oU, oU, oU, oU] [(.int 2), (.ref r0)]) _
    refine own_baload X0 hx hZ e0 V_r0 (j := (2 : Int32)) ⟨by decide, by decide⟩ (v := (.int 61)) rfl (g := (mkF m 11 #[oR r0, oI 3, oU, oU, oU, oU, oU, oU, oU] [(.int 2), (.ref r0)])) rfl rfl (hb hby d3_11) _ ?_
    show oP p e below s₁ (mkF m 12 #[oR r0, oI 3, oU, oU, oU, oU, oU, oU, oU] [(.int 61)]) _
    refine XS.bipush X0.here hx rfl (hb hby d3_12) ?_
    refine XS.icmpNo X0.here hx rfl (hb hby d3_14) rfl (teq (by decide : (61 : Int32) = (61 : Int32))).2 ?_
    show oP p e below s₁ (mkF m 17 #[oR r0, oI 3, oU, oU, oU, oU, oU, oU, oU] []) _
    refine XS.iinc X0.here hx rfl (hb hby d3_17) rfl (l' := #[oR r0, oI 2, oU, oU, oU, oU, oU, oU, oU]) rfl ?_
    show oP p e below s₁ (mkF m 20 #[oR r0, oI 2, oU, oU, oU, oU, oU, oU, oU] []) _
    refine XS.goto X0.here hx rfl (pc0 := 20) (pc' := 3) rfl (hb hby d3_20) (by decide) (by decide) ?_
    show oP p e below s₁ (mkF m 3 #[oR r0, oI 2, oU, oU, oU, oU, oU, oU, oU] []) _
    refine XS.iloadN X0.here hx rfl (hb hby d3_3) rfl ?_
    refine XS.ifNo X0.here hx rfl (hb hby d3_4) rfl ((if0 _ _).trans (tlt (by decide : (0 : Int32) < (2 : Int32))).2.2.2) ?_
    show oP p e below s₁ (mkF m 7 #[oR r0, oI 2, oU, oU, oU, oU, oU, oU, oU] []) _
    refine XS.aloadN X0.here hx rfl (hb hby d3_7) rfl rfl ?_
    refine XS.iloadN X0.here hx rfl (hb hby d3_8) rfl ?_
    refine XS.iconst X0.here hx rfl (hb hby d3_9) ?_
    refine XS.isub X0.here hx rfl (hb hby d3_10) rfl ?_
    show oP p e below s₁ (mkF m 11 #[oR r0, oI 2, oU, oU, oU, oU, oU, oU, oU] [(.int 1), (.ref r0)]) _
    refine own_baload X0 hx hZ e0 V_r0 (j := (1 : Int32)) ⟨by decide, by decide⟩ (v := (.int (chv d1))) rfl (g := (mkF m 11 #[oR r0, oI 2, oU, oU, oU, oU, oU, oU, oU] [(.int 1), (.ref r0)])) rfl rfl (hb hby d3_11) _ ?_
    show oP p e below s₁ (mkF m 12 #[oR r0, oI 2, oU, oU, oU, oU, oU, oU, oU] [(.int (chv d1))]) _
    refine XS.bipush X0.here hx rfl (hb hby d3_12) ?_
    refine XS.icmpYes X0.here hx rfl (pc0 := 14) (pc' := 23) rfl (hb hby d3_14) rfl (feq (chv_ne hd1)).2 (by decide) (by decide) ?_
    show oP p e below s₁ (mkF m 23 #[oR r0, oI 2, oU, oU, oU, oU, oU, oU, oU] []) _
    refine XS.iloadN X0.here hx rfl (hb hby d3_23) rfl ?_
    refine XS.iconst X0.here hx rfl (hb hby d3_24) ?_
    refine XS.irem X0.here hx rfl (hb hby d3_25) rfl (by decide) ?_
    show oP p e below s₁ (mkF m 26 #[oR r0, oI 2, oU, oU, oU, oU, oU, oU, oU] [(.int 2)]) _
    refine XS.istoreN X0.here hx rfl (hb hby d3_26) rfl (l' := #[oR r0, oI 2, oI 2, oU, oU, oU, oU, oU, oU]) rfl ?_
    show oP p e below s₁ (mkF m 27 #[oR r0, oI 2, oI 2, oU, oU, oU, oU, oU, oU] []) _
    refine XS.aloadN X0.here hx rfl (hb hby d3_27) rfl rfl ?_
    show oP p e below s₁ (mkF m 28 #[oR r0, oI 2, oI 2, oU, oU, oU, oU, oU, oU] [(.ref r0)]) _
    refine own_len X0 hx hZ e0 V_r0 (g := (mkF m 28 #[oR r0, oI 2, oI 2, oU, oU, oU, oU, oU, oU] [(.ref r0)])) rfl rfl (hb hby d3_28) _ ?_
    show oP p e below s₁ (mkF m 29 #[oR r0, oI 2, oI 2, oU, oU, oU, oU, oU, oU] [(.int 4)]) _
    refine XS.iloadN X0.here hx rfl (hb hby d3_29) rfl ?_
    refine XS.isub X0.here hx rfl (hb hby d3_30) rfl ?_
    show oP p e below s₁ (mkF m 31 #[oR r0, oI 2, oI 2, oU, oU, oU, oU, oU, oU] [(.int 2)]) _
    refine XS.istoreN X0.here hx rfl (hb hby d3_31) rfl (l' := #[oR r0, oI 2, oI 2, oI 2, oU, oU, oU, oU, oU]) rfl ?_
    show oP p e below s₁ (mkF m 32 #[oR r0, oI 2, oI 2, oI 2, oU, oU, oU, oU, oU] []) _
    refine XS.iloadN X0.here hx rfl (hb hby d3_32) rfl ?_
    refine XS.iconst X0.here hx rfl (hb hby d3_33) ?_
    refine XS.icmpYes X0.here hx rfl (pc0 := 34) (pc' := 47) rfl (hb hby d3_34) rfl (feq (by decide : ¬ ((2 : Int32) = (1 : Int32)))).2 (by decide) (by decide) ?_
    show oP p e below s₁ (mkF m 47 #[oR r0, oI 2, oI 2, oI 2, oU, oU, oU, oU, oU] []) _
    refine XS.iloadN X0.here hx rfl (hb hby d3_47) rfl ?_
    refine XS.ifNo X0.here hx rfl (hb hby d3_48) rfl ((if0 _ _).trans (tlt (by decide : (0 : Int32) < (2 : Int32))).2.2.2) ?_
    show oP p e below s₁ (mkF m 51 #[oR r0, oI 2, oI 2, oI 2, oU, oU, oU, oU, oU] []) _
    refine XS.iloadN X0.here hx rfl (hb hby d3_51) rfl ?_
    refine XS.ifNo X0.here hx rfl (hb hby d3_52) rfl ((if0 _ _).trans (feq (by decide : ¬ ((2 : Int32) = (0 : Int32)))).1) ?_
    show oP p e below s₁ (mkF m 55 #[oR r0, oI 2, oI 2, oI 2, oU, oU, oU, oU, oU] []) _
    refine XS.iloadN X0.here hx rfl (hb hby d3_55) rfl ?_
    refine XS.iconst X0.here hx rfl (hb hby d3_56) ?_
    refine XS.iloadN X0.here hx rfl (hb hby d3_57) rfl ?_
    refine XS.isub X0.here hx rfl (hb hby d3_58) rfl ?_
    show oP p e below s₁ (mkF m 59 #[oR r0, oI 2, oI 2, oI 2, oU, oU, oU, oU, oU] [(.int 2), (.int 2)]) _
    refine XS.icmpYes X0.here hx rfl (pc0 := 59) (pc' := 72) rfl (hb hby d3_59) rfl (teq (by decide : (2 : Int32) = (2 : Int32))).1 (by decide) (by decide) ?_
    show oP p e below s₁ (mkF m 72 #[oR r0, oI 2, oI 2, oI 2, oU, oU, oU, oU, oU] []) _
    refine XS.iloadN X0.here hx rfl (hb hby d3_72) rfl ?_
    refine XS.iconst X0.here hx rfl (hb hby d3_73) ?_
    refine XS.idiv X0.here hx rfl (hb hby d3_74) rfl (by decide) ?_
    show oP p e below s₁ (mkF m 75 #[oR r0, oI 2, oI 2, oI 2, oU, oU, oU, oU, oU] [(.int 0)]) _
    refine XS.iconst X0.here hx rfl (hb hby d3_75) ?_
    refine XS.imul X0.here hx rfl (hb hby d3_76) rfl ?_
    show oP p e below s₁ (mkF m 77 #[oR r0, oI 2, oI 2, oI 2, oU, oU, oU, oU, oU] [(.int 0)]) _
    refine XS.iconst X0.here hx rfl (hb hby d3_77) ?_
    refine XS.iloadN X0.here hx rfl (hb hby d3_78) rfl ?_
    refine XS.iconst X0.here hx rfl (hb hby d3_79) ?_
    refine XS.isub X0.here hx rfl (hb hby d3_80) rfl ?_
    show oP p e below s₁ (mkF m 81 #[oR r0, oI 2, oI 2, oI 2, oU, oU, oU, oU, oU] [(.int 1), (.int 0), (.int 0)]) _
    refine st99 _ ?_
    show oP p e below T99 (mkF m 84 #[oR r0, oI 2, oI 2, oI 2, oU, oU, oU, oU, oU] [(.int 1), (.int 0)]) _
    refine XS.iadd X99.here hx rfl (hb hby d3_84) rfl ?_
    show oP p e below T99 (mkF m 85 #[oR r0, oI 2, oI 2, oI 2, oU, oU, oU, oU, oU] [(.int 1)]) _
    refine st100 _ ?_
    show oP p e below T100 (mkF m 87 #[oR r0, oI 2, oI 2, oI 2, oU, oU, oU, oU, oU] [(.ref b100)]) _
    refine XS.astore X100.here hx rfl (hb hby d3_87) rfl rfl (l' := #[oR r0, oI 2, oI 2, oI 2, oR b100, oU, oU, oU, oU]) rfl ?_
    show oP p e below T100 (mkF m 89 #[oR r0, oI 2, oI 2, oI 2, oR b100, oU, oU, oU, oU] []) _
    refine XS.iconst X100.here hx rfl (hb hby d3_89) ?_
    refine XS.istore X100.here hx rfl (hb hby d3_90) rfl (l' := #[oR r0, oI 2, oI 2, oI 2, oR b100, oI 0, oU, oU, oU]) rfl ?_
    show oP p e below T100 (mkF m 92 #[oR r0, oI 2, oI 2, oI 2, oR b100, oI 0, oU, oU, oU] []) _
    refine XS.iloadN X100.here hx rfl (hb hby d3_92) rfl ?_
    refine XS.iloadN X100.here hx rfl (hb hby d3_93) rfl ?_
    refine XS.isub X100.here hx rfl (hb hby d3_94) rfl ?_
    show oP p e below T100 (mkF m 95 #[oR r0, oI 2, oI 2, oI 2, oR b100, oI 0, oU, oU, oU] [(.int 0)]) _
    refine XS.istore X100.here hx rfl (hb hby d3_95) rfl (l' := #[oR r0, oI 2, oI 2, oI 2, oR b100, oI 0, oI 0, oU, oU]) rfl ?_
    show oP p e below T100 (mkF m 97 #[oR r0, oI 2, oI 2, oI 2, oR b100, oI 0, oI 0, oU, oU] []) _
    refine XS.iconst X100.here hx rfl (hb hby d3_97) ?_
    refine XS.istore X100.here hx rfl (hb hby d3_98) rfl (l' := #[oR r0, oI 2, oI 2, oI 2, oR b100, oI 0, oI 0, oI 0, oU]) rfl ?_
    show oP p e below T100 (mkF m 100 #[oR r0, oI 2, oI 2, oI 2, oR b100, oI 0, oI 0, oI 0, oU] []) _
    refine XS.iload X100.here hx rfl (hb hby d3_100) rfl ?_
    show oP p e below T100 (mkF m 102 #[oR r0, oI 2, oI 2, oI 2, oR b100, oI 0, oI 0, oI 0, oU] [(.int 0)]) _
    refine XS.iload X100.here hx rfl (hb hby d3_102) rfl ?_
    show oP p e below T100 (mkF m 104 #[oR r0, oI 2, oI 2, oI 2, oR b100, oI 0, oI 0, oI 0, oU] [(.int 0), (.int 0)]) _
    refine XS.icmpYes X100.here hx rfl (pc0 := 104) (pc' := 233) rfl (hb hby d3_104) rfl (flt (by decide : ¬ ((0 : Int32) < (0 : Int32)))).2.1 (by decide) (by decide) ?_
    show oP p e below T100 (mkF m 233 #[oR r0, oI 2, oI 2, oI 2, oR b100, oI 0, oI 0, oI 0, oU] []) _
    refine XS.iloadN X100.here hx rfl (hb hby d3_233) rfl ?_
    refine XS.iconst X100.here hx rfl (hb hby d3_234) ?_
    refine XS.icmpNo X100.here hx rfl (hb hby d3_235) rfl (teq (by decide : (2 : Int32) = (2 : Int32))).2 ?_
    show oP p e below T100 (mkF m 238 #[oR r0, oI 2, oI 2, oI 2, oR b100, oI 0, oI 0, oI 0, oU] []) _
    refine XS.aload X100.here hx rfl (hb hby d3_238) rfl rfl ?_
    show oP p e below T100 (mkF m 240 #[oR r0, oI 2, oI 2, oI 2, oR b100, oI 0, oI 0, oI 0, oU] [(.ref b100)]) _
    refine XS.iload X100.here hx rfl (hb hby d3_240) rfl ?_
    show oP p e below T100 (mkF m 242 #[oR r0, oI 2, oI 2, oI 2, oR b100, oI 0, oI 0, oI 0, oU] [(.int 0), (.ref b100)]) _
    refine XS.aloadN X100.here hx rfl (hb hby d3_242) rfl rfl ?_
    refine XS.iload X100.here hx rfl (hb hby d3_243) rfl ?_
    show oP p e below T100 (mkF m 245 #[oR r0, oI 2, oI 2, oI 2, oR b100, oI 0, oI 0, oI 0, oU] [(.int 0), (.ref r0), (.int 0), (.ref b100)]) _
    refine XS.iconst X100.here hx rfl (hb hby d3_245) ?_
    show oP p e below T100 (mkF m 246 #[oR r0, oI 2, oI 2, oI 2, oR b100, oI 0, oI 0, oI 0, oU] [(.int 2), (.int 0), (.ref r0), (.int 0), (.ref b100)]) _
    refine st101 _ ?_
    show oP p e below T101 (mkF m 249 #[oR r0, oI 2, oI 2, oI 2, oR b100, oI 0, oI 0, oI 0, oU] [(.int (((((0 : Int32) <<< ((6 : Int32) &&& 31)) ||| d0) <<< ((6 : Int32) &&& 31)) ||| d1)), (.int 0), (.ref b100)]) _
    refine XS.iconst X101.here hx rfl (hb hby d3_249) ?_
    refine XS.ishr X101.here hx rfl (hb hby d3_250) rfl ?_
    show oP p e below T101 (mkF m 251 #[oR r0, oI 2, oI 2, oI 2, oR b100, oI 0, oI 0, oI 0, oU] [(.int ((((((0 : Int32) <<< ((6 : Int32) &&& 31)) ||| d0) <<< ((6 : Int32) &&& 31)) ||| d1) >>> ((4 : Int32) &&& 31))), (.int 0), (.ref b100)]) _
    refine XS.i2b X101.here hx rfl (hb hby d3_251) rfl ?_
    show oP p e below T101 (mkF m 252 #[oR r0, oI 2, oI 2, oI 2, oR b100, oI 0, oI 0, oI 0, oU] [(.int (((((((0 : Int32) <<< ((6 : Int32) &&& 31)) ||| d0) <<< ((6 : Int32) &&& 31)) ||| d1) >>> ((4 : Int32) &&& 31)).toInt8.toInt32)), (.int 0), (.ref b100)]) _
    refine st103 _ ?_
    show oP p e below T103 (mkF m 253 #[oR r0, oI 2, oI 2, oI 2, oR b100, oI 0, oI 0, oI 0, oU] []) _
    refine XS.goto X103.here hx rfl (pc0 := 253) (pc' := 294) rfl (hb hby d3_253) (by decide) (by decide) ?_
    show oP p e below T103 (mkF m 294 #[oR r0, oI 2, oI 2, oI 2, oR b100, oI 0, oI 0, oI 0, oU] []) _
    refine XS.aload X103.here hx rfl (hb hby d3_294) rfl rfl ?_
    show oP p e below T103 (mkF m 296 #[oR r0, oI 2, oI 2, oI 2, oR b100, oI 0, oI 0, oI 0, oU] [(.ref b100)]) _
    exact own_retA X103 hx Bd.returns rfl rfl (hb hby d3_296) hr
  · show ∃ (b : Addr), ∃ (kb : ClassId), (some (.ref b100) : Option Value) = some (.ref b) ∧ Fr n0 _ ∧ Keep h0 T103.heap [] ∧ h0.size ≤ b ∧ Arv Z T103.heap b kb .byte (1 : Int32) [(.int ((((((((0 : Int32) <<< ((6 : Int32) &&& 31)) ||| d0) <<< ((6 : Int32) &&& 31)) ||| d1) >>> ((4 : Int32) &&& 31)).toInt8.toInt32).toInt8.toInt32))] (.int 0)
    rw [e103]
    exact ⟨b100, k100, rfl, N103, Kc103, sz_b100, V103⟩
theorem d3_261 : decode prog_8_method_3_code 261 = .ok (.aload_n 0, 1) := by decide +kernel
theorem d3_262 : decode prog_8_method_3_code 262 = .ok (.iload 6, 2) := by decide +kernel
theorem d3_264 : decode prog_8_method_3_code 264 = .ok (.iconst 3, 1) := by decide +kernel
theorem d3_265 : decode prog_8_method_3_code 265 = .ok (.invokestatic 52, 3) := by decide +kernel
theorem d3_268 : decode prog_8_method_3_code 268 = .ok (.istore 7, 2) := by decide +kernel
theorem d3_270 : decode prog_8_method_3_code 270 = .ok (.aload 4, 2) := by decide +kernel
theorem d3_272 : decode prog_8_method_3_code 272 = .ok (.iload 5, 2) := by decide +kernel
theorem d3_274 : decode prog_8_method_3_code 274 = .ok (.iinc 5 1, 3) := by decide +kernel
theorem d3_277 : decode prog_8_method_3_code 277 = .ok (.iload 7, 2) := by decide +kernel
theorem d3_279 : decode prog_8_method_3_code 279 = .ok (.bipush 10, 2) := by decide +kernel
theorem d3_281 : decode prog_8_method_3_code 281 = .ok (.ishr, 1) := by decide +kernel
theorem d3_282 : decode prog_8_method_3_code 282 = .ok (.i2b, 1) := by decide +kernel
theorem d3_283 : decode prog_8_method_3_code 283 = .ok (.bastore, 1) := by decide +kernel
theorem d3_284 : decode prog_8_method_3_code 284 = .ok (.aload 4, 2) := by decide +kernel
theorem d3_286 : decode prog_8_method_3_code 286 = .ok (.iload 5, 2) := by decide +kernel
theorem d3_288 : decode prog_8_method_3_code 288 = .ok (.iload 7, 2) := by decide +kernel
theorem d3_290 : decode prog_8_method_3_code 290 = .ok (.iconst 2, 1) := by decide +kernel
theorem d3_291 : decode prog_8_method_3_code 291 = .ok (.ishr, 1) := by decide +kernel
theorem d3_292 : decode prog_8_method_3_code 292 = .ok (.i2b, 1) := by decide +kernel
theorem d3_293 : decode prog_8_method_3_code 293 = .ok (.bastore, 1) := by decide +kernel
theorem ef_3x030 (m : MethodId) (x0 : Addr) : entryFrame m #[(.ref x0)] 9 = mkF m 0 #[.val (.ref x0), .unset, .unset, .unset, .unset, .unset, .unset, .unset, .unset] [] := by first | (simp [entryFrame, mkF, argsToLocals, Value.category]; done) | rfl
set_option maxRecDepth 65536 in
set_option maxHeartbeats 40000000 in
theorem rm3x030 (l : Launch) (Z : State) (a0 : Array Value) (hw : ∀ d ∈ tables_1, d.before a0 Z = true) (hS : St Z) (ws : List Jvm.Cond) (r0 : Addr) (k : ClassId) (d0 : Int32) (d1 : Int32) (d2 : Int32) (r3_ : Value) (r4_ : Value) (r5_ : Value) (r6_ : Value) (r7_ : Value) (r8_ : Value) (r9_ : Value) (r10_ : Value) (r11_ : Value) (h0 : Heap) (n0 : Nat) (O0 : Old Z n0 h0) (V_r0 : Arv Z h0 r0 k .byte (3 : Int32) [(.int (chv d0)), (.int (chv d1)), (.int (chv d2)), r3_, r4_, r5_, r6_, r7_, r8_, r9_, r10_, r11_] (.int 0)) (hd0 : Dg d0) (hd1 : Dg d1) (hd2 : Dg d2) :
    MetFree l (⟨"com/example/meerkat/meerkat/Base64Codec", "decode", "([B)[B"⟩ : MethodName) (head1 (Jvm.Cond.code (⟨"com/example/meerkat/meerkat/Base64Codec", "decode", "([B)[B"⟩ : MethodName) prog_8_method_3_code 9 (some (.array .byte)) :: ws) ({ frames := 2, cells := 1, slots := 8, locals := 60 } : Room)) (fun a U => a = #[(.ref r0)] ∧ Z.Warmed39 U.vm ∧ U.heap = h0) (fun _ _ _ _ _ => True) (fun _ U o U' => ∃ v L, o = .returned v ∧ own_Q (fun v hE L => ∃ (b : Addr), ∃ (kb : ClassId), v = some (.ref b) ∧ Fr n0 L ∧ Keep h0 hE [] ∧ h0.size ≤ b ∧ Arv Z hE b kb .byte (2 : Int32) [(.int ((((((((((0 : Int32) <<< ((6 : Int32) &&& 31)) ||| d0) <<< ((6 : Int32) &&& 31)) ||| d1) <<< ((6 : Int32) &&& 31)) ||| d2) >>> ((10 : Int32) &&& 31)).toInt8.toInt32).toInt8.toInt32)), (.int ((((((((((0 : Int32) <<< ((6 : Int32) &&& 31)) ||| d0) <<< ((6 : Int32) &&& 31)) ||| d1) <<< ((6 : Int32) &&& 31)) ||| d2) >>> ((2 : Int32) &&& 31)).toInt8.toInt32).toInt8.toInt32))] (.int 0)) v U'.heap L ∧ FrameEnd U o U' L ({ frames := 2, cells := 1, slots := 8, locals := 60 } : Room).cells ({ frames := 2, cells := 1, slots := 8, locals := 60 } : Room).slots) := by
  refine MetFree.of_bodySF (plainFor_of_name pn_1) hisR ?_
  intro p e s m args below meth c s₁ Bd hml0 hP hK
  obtain ⟨rfl, hZ, hh⟩ := hP
  have hx := Bd.exec
  have hby := Bd.bytes
  have hml : c.maxLocals = 9 := hml0
  have hown : s.vm.findClass "com/example/meerkat/meerkat/Base64Codec" = some m.cls := findClass_of_methodNamed Bd.named
  have hnm := (name_of_methodNamed Bd.named Bd.method).1
  have X0 : Stand p l e ({ frames := 2, cells := 1, slots := 8, locals := 60 } : Room) s m #[(.ref r0)] below meth c s₁ [] 0 0 := Stand.of_body Bd
  have e0 : s₁.heap = h0 := by rw [← hh, Bd.state]; rfl
  have N0 := Fr.nil n0
  have pre0 : ∀ t, Steps p.tables e below (s₁.setTop (mkF m 0 #[oR r0, oU, oU, oU, oU, oU, oU, oU, oU] [])) t → Steps p.tables e below (s₁.setTop (entryFrame m #[(.ref r0)] 9)) t := fun t k => castTop (ef_3x030 m r0) k
  obtain ⟨_, _, ⟨T105, L105, k105, n105⟩, -, X105, ⟨Lc105, hQ105, l105, y105, z105⟩, st105⟩ := Jvm.LawKit.callS X0 hx (y := (⟨"java/lang/Math", "max", "(II)I"⟩ : MethodName)) hown (mvT hZ (wi hw 12 rfl)) (mvT hZ (wi hw 13 rfl)) (mvT hZ (wi hw 14 rfl)) (mvT hZ (wi hw 15 rfl)) (by decide) (backOf (W := 1) (rm4 l Z a0 hw hS [] (0 : Int32) (2 : Int32) h0 n0 O0) hZ (wi hw 15 rfl) (wi hw 14 rfl) (by decide) (by decide)) (g := (mkF m 81 #[oR r0, oI 3, oI 3, oI 0, oU, oU, oU, oU, oU] [(.int 2), (.int 0), (.int 0)])) rfl (by rw [hml]; rfl) (argsL := [(.int 0), (.int 2)]) (rest := [(.int 0)]) (lenOf pd_3 rfl) rfl (by show 2 * 0 + _ ≤ _; exact Nat.le_of_eq rfl) (hb hby d3_81) (fun _ _ => ⟨rfl, e0, (by decide : 0 + 0 ≤ _), (by decide : 0 + 0 ≤ _)⟩)
  dsimp only [Pt.U, Pt.locs, Pt.cells, Pt.slots] at X105 l105 y105 z105 st105 hQ105
  subst l105 y105 z105
  obtain ⟨v105, N105q, h105q⟩ := hQ105
  have w105 : (fn4 Z (0 : Int32) (2 : Int32)) = (2 : Int32) := by unfold fn4; rw [if_pos (by decide : (0 : Int32) < (2 : Int32))]; all_goals first | rfl | decide
  rw [w105] at v105
  subst v105
  have N105 := Fr.app N0 N105q
  obtain ⟨T106, h106, k106, X106, e106, E106, A106, st106⟩ := newP X105 hx hZ (wi hw 0 rfl) h105q (g := (mkF m 85 #[oR r0, oI 3, oI 3, oI 0, oU, oU, oU, oU, oU] [(.int 2)])) rfl (hb hby d3_85) rfl (by decide) (cap := 2) (by decide) (by decide) (by decide) (by decide)
  obtain ⟨b106, g106⟩ : ∃ z, z = h0.size := ⟨_, rfl⟩
  have g_b106 : n0 ≤ b106 := Nat.le_trans (own_old_le O0) (Nat.le_of_eq g106.symm)
  have sz_b106 : h0.size ≤ b106 := Nat.le_trans (Keep.refl h0 []).1 (Nat.le_of_eq g106.symm)
  have ne_r0_b106 : r0 ≠ b106 := Nat.ne_of_lt (Nat.lt_of_lt_of_le V_r0.lt (Nat.le_of_eq g106.symm))
  rw [← g106] at A106 st106
  have O106 := O0.ext E106
  have Kc106 := (Keep.refl h0 []).ext E106
  have V106 : Arv Z h106 b106 k106 .byte (2 : Int32) [(.int 0), (.int 0)] (.int 0) := (Arv.new A106 (by decide)).pad (pad_rep [] (.int 0) 2)
  have fx108 := (V_r0.ext E106)
  obtain ⟨_, _, ⟨T107, L107, k107, n107⟩, -, X107, ⟨Lc107, hQ107, l107, y107, z107⟩, st107⟩ := Jvm.LawKit.callS X106 hx (y := (⟨"com/example/meerkat/meerkat/Base64Codec", "bitsOf", "([BII)I"⟩ : MethodName)) hown (mvT hZ (wi hw 28 rfl)) (mvT hZ (wi hw 29 rfl)) (mvT hZ (wi hw 10 rfl)) (mvT hZ (wi hw 30 rfl)) (by decide) (backOf (W := 0) (rm8b0_3 l Z a0 hw hS [] r0 k (3 : Int32) [(.int (chv d0)), (.int (chv d1)), (.int (chv d2)), r3_, r4_, r5_, r6_, r7_, r8_, r9_, r10_, r11_] d0 d1 d2 h106 n0 O106 fx108 hd0 hd1 hd2 rfl rfl rfl ⟨by decide, by decide⟩ ⟨by decide, by decide⟩ ⟨by decide, by decide⟩) hZ (wi hw 30 rfl) (wi hw 10 rfl) (by decide) (by decide)) (g := (mkF m 265 #[oR r0, oI 3, oI 3, oI 0, oR b106, oI 0, oI 0, oI 0, oU] [(.int 3), (.int 0), (.ref r0)])) rfl (by rw [hml]; rfl) (argsL := [(.ref r0), (.int 0), (.int 3)]) (rest := []) (lenOf pd_4 rfl) rfl (by show 2 * 0 + _ ≤ _; exact Nat.le_of_eq rfl) (hb hby d3_265) (fun _ _ => ⟨rfl, e106, (by decide : 1 + 0 ≤ _), (by decide : 2 + 0 ≤ _)⟩)
  dsimp only [Pt.U, Pt.locs, Pt.cells, Pt.slots] at X107 l107 y107 z107 st107 hQ107
  subst l107 y107 z107
  obtain ⟨v107, N107q, K107q⟩ := hQ107
  have w107 : (fn8b0_3 Z r0 k (3 : Int32) [(.int (chv d0)), (.int (chv d1)), (.int (chv d2)), r3_, r4_, r5_, r6_, r7_, r8_, r9_, r10_, r11_] d0 d1 d2) = (((((((0 : Int32) <<< ((6 : Int32) &&& 31)) ||| d0) <<< ((6 : Int32) &&& 31)) ||| d1) <<< ((6 : Int32) &&& 31)) ||| d2) := rfl
  rw [w107] at v107
  subst v107
  have N107 := Fr.app N105 N107q
  have O107 := O106.keep K107q all0
  have Kc107 := Kc106.trans K107q all0
  have fx110 := (V106.keep K107q nin0)
  obtain ⟨T109, h109, X109, e109, W109, V109', st109⟩ := own_stB X107 hx hZ rfl fx110 (j := (0 : Int32)) ⟨by decide, by decide⟩ rfl (by decide : ((0 : Int32) : Int32).toNatClampNeg < 2) (g := (mkF m 283 #[oR r0, oI 3, oI 3, oI 0, oR b106, oI 1, oI 0, oI (((((((0 : Int32) <<< ((6 : Int32) &&& 31)) ||| d0) <<< ((6 : Int32) &&& 31)) ||| d1) <<< ((6 : Int32) &&& 31)) ||| d2), oU] [(.int (((((((((0 : Int32) <<< ((6 : Int32) &&& 31)) ||| d0) <<< ((6 : Int32) &&& 31)) ||| d1) <<< ((6 : Int32) &&& 31)) ||| d2) >>> ((10 : Int32) &&& 31)).toInt8.toInt32)), (.int 0), (.ref b106)])) rfl rfl (hb hby d3_283)
  have N109 := Fr.snoc X109 N107 g_b106
  have O109 := O107.wr W109 g_b106
  have Kc109 := Kc107.wr W109 (Or.inr sz_b106)
  have V109 : Arv Z h109 b106 k106 .byte (2 : Int32) [(.int ((((((((((0 : Int32) <<< ((6 : Int32) &&& 31)) ||| d0) <<< ((6 : Int32) &&& 31)) ||| d1) <<< ((6 : Int32) &&& 31)) ||| d2) >>> ((10 : Int32) &&& 31)).toInt8.toInt32).toInt8.toInt32)), (.int 0)] (.int 0) := V109'
  obtain ⟨T111, h111, X111, e111, W111, V111', st111⟩ := own_stB X109 hx hZ e109 V109 (j := (1 : Int32)) ⟨by decide, by decide⟩ rfl (by decide : ((1 : Int32) : Int32).toNatClampNeg < 2) (g := (mkF m 293 #[oR r0, oI 3, oI 3, oI 0, oR b106, oI 1, oI 0, oI (((((((0 : Int32) <<< ((6 : Int32) &&& 31)) ||| d0) <<< ((6 : Int32) &&& 31)) ||| d1) <<< ((6 : Int32) &&& 31)) ||| d2), oU] [(.int (((((((((0 : Int32) <<< ((6 : Int32) &&& 31)) ||| d0) <<< ((6 : Int32) &&& 31)) ||| d1) <<< ((6 : Int32) &&& 31)) ||| d2) >>> ((2 : Int32) &&& 31)).toInt8.toInt32)), (.int 1), (.ref b106)])) rfl rfl (hb hby d3_293)
  have N111 := Fr.snoc X111 N109 g_b106
  have O111 := O109.wr W111 g_b106
  have Kc111 := Kc109.wr W111 (Or.inr sz_b106)
  have V111 : Arv Z h111 b106 k106 .byte (2 : Int32) [(.int ((((((((((0 : Int32) <<< ((6 : Int32) &&& 31)) ||| d0) <<< ((6 : Int32) &&& 31)) ||| d1) <<< ((6 : Int32) &&& 31)) ||| d2) >>> ((10 : Int32) &&& 31)).toInt8.toInt32).toInt8.toInt32)), (.int ((((((((((0 : Int32) <<< ((6 : Int32) &&& 31)) ||| d0) <<< ((6 : Int32) &&& 31)) ||| d1) <<< ((6 : Int32) &&& 31)) ||| d2) >>> ((2 : Int32) &&& 31)).toInt8.toInt32).toInt8.toInt32))] (.int 0) := V111'
  obtain ⟨fs, hr, hrun, hended, hW, hsame⟩ := X111.leave (v := some (.ref b106)) (fun h => by rw [Bd.returns] at h; cases h)
  refine ⟨_, _, pre0 _ ?_, hrun, hended, _, _, rfl, ?_, ⟨_, rfl⟩, hW, hsame.mono (by decide) (by decide)⟩
  · show oP p e below s₁ (mkF m 0 #[oR r0, oU, oU, oU, oU, oU, oU, oU, oU] []) _
    refine XS.aloadN X0.here hx rfl (hb hby d3_0) rfl rfl ?_
    show oP p e below s₁ (mkF m 1 #[oR r0, oU, oU, oU, oU, oU, oU, oU, oU] [(.ref r0)]) _
    refine own_len X0 hx hZ e0 V_r0 (g := (mkF m 1 #[oR r0, oU, oU, oU, oU, oU, oU, oU, oU] [(.ref r0)])) rfl rfl (hb hby d3_1) _ ?_
    show oP p e below s₁ (mkF m 2 #[oR r0, oU, oU, oU, oU, oU, oU, oU, oU] [(.int 3)]) _
    refine XS.istoreN X0.here hx rfl (hb hby d3_2) rfl (l' := #[oR r0, oI 3, oU, oU, oU, oU, oU, oU, oU]) rfl ?_
    show oP p e below s₁ (mkF m 3 #[oR r0, oI 3, oU, oU, oU, oU, oU, oU, oU] []) _
    refine XS.iloadN X0.here hx rfl (hb hby d3_3) rfl ?_
    refine XS.ifNo X0.here hx rfl (hb hby d3_4) rfl ((if0 _ _).trans (tlt (by decide : (0 : Int32) < (3 : Int32))).2.2.2) ?_
    show oP p e below s₁ (mkF m 7 #[oR r0, oI 3, oU, oU, oU, oU, oU, oU, oU] []) _
    refine XS.aloadN X0.here hx rfl (hb hby d3_7) rfl rfl ?_
    refine XS.iloadN X0.here hx rfl (hb hby d3_8) rfl ?_
    refine XS.iconst X0.here hx rfl (hb hby d3_9) ?_
    refine XS.isub X0.here hx rfl (hb hby d3_10) rfl ?_
    show oP p e below s₁ (mkF m 11 #[oR r0, oI 3, oU, oU, oU, oU, oU, oU, oU] [(.int 2), (.ref r0)]) _
    refine own_baload X0 hx hZ e0 V_r0 (j := (2 : Int32)) ⟨by decide, by decide⟩ (v := (.int (chv d2))) rfl (g := (mkF m 11 #[oR r0, oI 3, oU, oU, oU, oU, oU, oU, oU] [(.int 2), (.ref r0)])) rfl rfl (hb hby d3_11) _ ?_
    show oP p e below s₁ (mkF m 12 #[oR r0, oI 3, oU, oU, oU, oU, oU, oU, oU] [(.int (chv d2))]) _
    refine XS.bipush X0.here hx rfl (hb hby d3_12) ?_
    refine XS.icmpYes X0.here hx rfl (pc0 := 14) (pc' := 23) rfl (hb hby d3_14) rfl (feq (chv_ne hd2)).2 (by decide) (by decide) ?_
    show oP p e below s₁ (mkF m 23 #[oR r0, oI 3, oU, oU, oU, oU, oU, oU, oU] []) _
    refine XS.iloadN X0.here hx rfl (hb hby d3_23) rfl ?_
    refine XS.iconst X0.here hx rfl (hb hby d3_24) ?_
    refine XS.irem X0.here hx rfl (hb hby d3_25) rfl (by decide) ?_
    show oP p e below s₁ (mkF m 26 #[oR r0, oI 3, oU, oU, oU, oU, oU, oU, oU] [(.int 3)]) _
    refine XS.istoreN X0.here hx rfl (hb hby d3_26) rfl (l' := #[oR r0, oI 3, oI 3, oU, oU, oU, oU, oU, oU]) rfl ?_
    show oP p e below s₁ (mkF m 27 #[oR r0, oI 3, oI 3, oU, oU, oU, oU, oU, oU] []) _
    refine XS.aloadN X0.here hx rfl (hb hby d3_27) rfl rfl ?_
    show oP p e below s₁ (mkF m 28 #[oR r0, oI 3, oI 3, oU, oU, oU, oU, oU, oU] [(.ref r0)]) _
    refine own_len X0 hx hZ e0 V_r0 (g := (mkF m 28 #[oR r0, oI 3, oI 3, oU, oU, oU, oU, oU, oU] [(.ref r0)])) rfl rfl (hb hby d3_28) _ ?_
    show oP p e below s₁ (mkF m 29 #[oR r0, oI 3, oI 3, oU, oU, oU, oU, oU, oU] [(.int 3)]) _
    refine XS.iloadN X0.here hx rfl (hb hby d3_29) rfl ?_
    refine XS.isub X0.here hx rfl (hb hby d3_30) rfl ?_
    show oP p e below s₁ (mkF m 31 #[oR r0, oI 3, oI 3, oU, oU, oU, oU, oU, oU] [(.int 0)]) _
    refine XS.istoreN X0.here hx rfl (hb hby d3_31) rfl (l' := #[oR r0, oI 3, oI 3, oI 0, oU, oU, oU, oU, oU]) rfl ?_
    show oP p e below s₁ (mkF m 32 #[oR r0, oI 3, oI 3, oI 0, oU, oU, oU, oU, oU] []) _
    refine XS.iloadN X0.here hx rfl (hb hby d3_32) rfl ?_
    refine XS.iconst X0.here hx rfl (hb hby d3_33) ?_
    refine XS.icmpYes X0.here hx rfl (pc0 := 34) (pc' := 47) rfl (hb hby d3_34) rfl (feq (by decide : ¬ ((3 : Int32) = (1 : Int32)))).2 (by decide) (by decide) ?_
    show oP p e below s₁ (mkF m 47 #[oR r0, oI 3, oI 3, oI 0, oU, oU, oU, oU, oU] []) _
    refine XS.iloadN X0.here hx rfl (hb hby d3_47) rfl ?_
    refine XS.ifYes X0.here hx rfl (pc0 := 48) (pc' := 72) rfl (hb hby d3_48) rfl ((if0 _ _).trans (flt (by decide : ¬ ((0 : Int32) < (0 : Int32)))).2.2.2) (by decide) (by decide) ?_
    show oP p e below s₁ (mkF m 72 #[oR r0, oI 3, oI 3, oI 0, oU, oU, oU, oU, oU] []) _
    refine XS.iloadN X0.here hx rfl (hb hby d3_72) rfl ?_
    refine XS.iconst X0.here hx rfl (hb hby d3_73) ?_
    refine XS.idiv X0.here hx rfl (hb hby d3_74) rfl (by decide) ?_
    show oP p e below s₁ (mkF m 75 #[oR r0, oI 3, oI 3, oI 0, oU, oU, oU, oU, oU] [(.int 0)]) _
    refine XS.iconst X0.here hx rfl (hb hby d3_75) ?_
    refine XS.imul X0.here hx rfl (hb hby d3_76) rfl ?_
    show oP p e below s₁ (mkF m 77 #[oR r0, oI 3, oI 3, oI 0, oU, oU, oU, oU, oU] [(.int 0)]) _
    refine XS.iconst X0.here hx rfl (hb hby d3_77) ?_
    refine XS.iloadN X0.here hx rfl (hb hby d3_78) rfl ?_
    refine XS.iconst X0.here hx rfl (hb hby d3_79) ?_
    refine XS.isub X0.here hx rfl (hb hby d3_80) rfl ?_
    show oP p e below s₁ (mkF m 81 #[oR r0, oI 3, oI 3, oI 0, oU, oU, oU, oU, oU] [(.int 2), (.int 0), (.int 0)]) _
    refine st105 _ ?_
    show oP p e below T105 (mkF m 84 #[oR r0, oI 3, oI 3, oI 0, oU, oU, oU, oU, oU] [(.int 2), (.int 0)]) _
    refine XS.iadd X105.here hx rfl (hb hby d3_84) rfl ?_
    show oP p e below T105 (mkF m 85 #[oR r0, oI 3, oI 3, oI 0, oU, oU, oU, oU, oU] [(.int 2)]) _
    refine st106 _ ?_
    show oP p e below T106 (mkF m 87 #[oR r0, oI 3, oI 3, oI 0, oU, oU, oU, oU, oU] [(.ref b106)]) _
    refine XS.astore X106.here hx rfl (hb hby d3_87) rfl rfl (l' := #[oR r0, oI 3, oI 3, oI 0, oR b106, oU, oU, oU, oU]) rfl ?_
    show oP p e below T106 (mkF m 89 #[oR r0, oI 3, oI 3, oI 0, oR b106, oU, oU, oU, oU] []) _
    refine XS.iconst X106.here hx rfl (hb hby d3_89) ?_
    refine XS.istore X106.here hx rfl (hb hby d3_90) rfl (l' := #[oR r0, oI 3, oI 3, oI 0, oR b106, oI 0, oU, oU, oU]) rfl ?_
    show oP p e below T106 (mkF m 92 #[oR r0, oI 3, oI 3, oI 0, oR b106, oI 0, oU, oU, oU] []) _
    refine XS.iloadN X106.here hx rfl (hb hby d3_92) rfl ?_
    refine XS.iloadN X106.here hx rfl (hb hby d3_93) rfl ?_
    refine XS.isub X106.here hx rfl (hb hby d3_94) rfl ?_
    show oP p e below T106 (mkF m 95 #[oR r0, oI 3, oI 3, oI 0, oR b106, oI 0, oU, oU, oU] [(.int 0)]) _
    refine XS.istore X106.here hx rfl (hb hby d3_95) rfl (l' := #[oR r0, oI 3, oI 3, oI 0, oR b106, oI 0, oI 0, oU, oU]) rfl ?_
    show oP p e below T106 (mkF m 97 #[oR r0, oI 3, oI 3, oI 0, oR b106, oI 0, oI 0, oU, oU] []) _
    refine XS.iconst X106.here hx rfl (hb hby d3_97) ?_
    refine XS.istore X106.here hx rfl (hb hby d3_98) rfl (l' := #[oR r0, oI 3, oI 3, oI 0, oR b106, oI 0, oI 0, oI 0, oU]) rfl ?_
    show oP p e below T106 (mkF m 100 #[oR r0, oI 3, oI 3, oI 0, oR b106, oI 0, oI 0, oI 0, oU] []) _
    refine XS.iload X106.here hx rfl (hb hby d3_100) rfl ?_
    show oP p e below T106 (mkF m 102 #[oR r0, oI 3, oI 3, oI 0, oR b106, oI 0, oI 0, oI 0, oU] [(.int 0)]) _
    refine XS.iload X106.here hx rfl (hb hby d3_102) rfl ?_
    show oP p e below T106 (mkF m 104 #[oR r0, oI 3, oI 3, oI 0, oR b106, oI 0, oI 0, oI 0, oU] [(.int 0), (.int 0)]) _
    refine XS.icmpYes X106.here hx rfl (pc0 := 104) (pc' := 233) rfl (hb hby d3_104) rfl (flt (by decide : ¬ ((0 : Int32) < (0 : Int32)))).2.1 (by decide) (by decide) ?_
    show oP p e below T106 (mkF m 233 #[oR r0, oI 3, oI 3, oI 0, oR b106, oI 0, oI 0, oI 0, oU] []) _
    refine XS.iloadN X106.here hx rfl (hb hby d3_233) rfl ?_
    refine XS.iconst X106.here hx rfl (hb hby d3_234) ?_
    refine XS.icmpYes X106.here hx rfl (pc0 := 235) (pc' := 256) rfl (hb hby d3_235) rfl (feq (by decide : ¬ ((3 : Int32) = (2 : Int32)))).2 (by decide) (by decide) ?_
    show oP p e below T106 (mkF m 256 #[oR r0, oI 3, oI 3, oI 0, oR b106, oI 0, oI 0, oI 0, oU] []) _
    refine XS.iloadN X106.here hx rfl (hb hby d3_256) rfl ?_
    refine XS.iconst X106.here hx rfl (hb hby d3_257) ?_
    refine XS.icmpNo X106.here hx rfl (hb hby d3_258) rfl (teq (by decide : (3 : Int32) = (3 : Int32))).2 ?_
    show oP p e below T106 (mkF m 261 #[oR r0, oI 3, oI 3, oI 0, oR b106, oI 0, oI 0, oI 0, oU] []) _
    refine XS.aloadN X106.here hx rfl (hb hby d3_261) rfl rfl ?_
    refine XS.iload X106.here hx rfl (hb hby d3_262) rfl ?_
    show oP p e below T106 (mkF m 264 #[oR r0, oI 3, oI 3, oI 0, oR b106, oI 0, oI 0, oI 0, oU] [(.int 0), (.ref r0)]) _
    refine XS.iconst X106.here hx rfl (hb hby d3_264) ?_
    show oP p e below T106 (mkF m 265 #[oR r0, oI 3, oI 3, oI 0, oR b106, oI 0, oI 0, oI 0, oU] [(.int 3), (.int 0), (.ref r0)]) _
    refine st107 _ ?_
    show oP p e below T107 (mkF m 268 #[oR r0, oI 3, oI 3, oI 0, oR b106, oI 0, oI 0, oI 0, oU] [(.int (((((((0 : Int32) <<< ((6 : Int32) &&& 31)) ||| d0) <<< ((6 : Int32) &&& 31)) ||| d1) <<< ((6 : Int32) &&& 31)) ||| d2))]) _
    refine XS.istore X107.here hx rfl (hb hby d3_268) rfl (l' := #[oR r0, oI 3, oI 3, oI 0, oR b106, oI 0, oI 0, oI (((((((0 : Int32) <<< ((6 : Int32) &&& 31)) ||| d0) <<< ((6 : Int32) &&& 31)) ||| d1) <<< ((6 : Int32) &&& 31)) ||| d2), oU]) rfl ?_
    show oP p e below T107 (mkF m 270 #[oR r0, oI 3, oI 3, oI 0, oR b106, oI 0, oI 0, oI (((((((0 : Int32) <<< ((6 : Int32) &&& 31)) ||| d0) <<< ((6 : Int32) &&& 31)) ||| d1) <<< ((6 : Int32) &&& 31)) ||| d2), oU] []) _
    refine XS.aload X107.here hx rfl (hb hby d3_270) rfl rfl ?_
    show oP p e below T107 (mkF m 272 #[oR r0, oI 3, oI 3, oI 0, oR b106, oI 0, oI 0, oI (((((((0 : Int32) <<< ((6 : Int32) &&& 31)) ||| d0) <<< ((6 : Int32) &&& 31)) ||| d1) <<< ((6 : Int32) &&& 31)) ||| d2), oU] [(.ref b106)]) _
    refine XS.iload X107.here hx rfl (hb hby d3_272) rfl ?_
    show oP p e below T107 (mkF m 274 #[oR r0, oI 3, oI 3, oI 0, oR b106, oI 0, oI 0, oI (((((((0 : Int32) <<< ((6 : Int32) &&& 31)) ||| d0) <<< ((6 : Int32) &&& 31)) ||| d1) <<< ((6 : Int32) &&& 31)) ||| d2), oU] [(.int 0), (.ref b106)]) _
    refine XS.iinc X107.here hx rfl (hb hby d3_274) rfl (l' := #[oR r0, oI 3, oI 3, oI 0, oR b106, oI 1, oI 0, oI (((((((0 : Int32) <<< ((6 : Int32) &&& 31)) ||| d0) <<< ((6 : Int32) &&& 31)) ||| d1) <<< ((6 : Int32) &&& 31)) ||| d2), oU]) rfl ?_
    show oP p e below T107 (mkF m 277 #[oR r0, oI 3, oI 3, oI 0, oR b106, oI 1, oI 0, oI (((((((0 : Int32) <<< ((6 : Int32) &&& 31)) ||| d0) <<< ((6 : Int32) &&& 31)) ||| d1) <<< ((6 : Int32) &&& 31)) ||| d2), oU] [(.int 0), (.ref b106)]) _
    refine XS.iload X107.here hx rfl (hb hby d3_277) rfl ?_
    show oP p e below T107 (mkF m 279 #[oR r0, oI 3, oI 3, oI 0, oR b106, oI 1, oI 0, oI (((((((0 : Int32) <<< ((6 : Int32) &&& 31)) ||| d0) <<< ((6 : Int32) &&& 31)) ||| d1) <<< ((6 : Int32) &&& 31)) ||| d2), oU] [(.int (((((((0 : Int32) <<< ((6 : Int32) &&& 31)) ||| d0) <<< ((6 : Int32) &&& 31)) ||| d1) <<< ((6 : Int32) &&& 31)) ||| d2)), (.int 0), (.ref b106)]) _
    refine XS.bipush X107.here hx rfl (hb hby d3_279) ?_
    refine XS.ishr X107.here hx rfl (hb hby d3_281) rfl ?_
    show oP p e below T107 (mkF m 282 #[oR r0, oI 3, oI 3, oI 0, oR b106, oI 1, oI 0, oI (((((((0 : Int32) <<< ((6 : Int32) &&& 31)) ||| d0) <<< ((6 : Int32) &&& 31)) ||| d1) <<< ((6 : Int32) &&& 31)) ||| d2), oU] [(.int ((((((((0 : Int32) <<< ((6 : Int32) &&& 31)) ||| d0) <<< ((6 : Int32) &&& 31)) ||| d1) <<< ((6 : Int32) &&& 31)) ||| d2) >>> ((10 : Int32) &&& 31))), (.int 0), (.ref b106)]) _
    refine XS.i2b X107.here hx rfl (hb hby d3_282) rfl ?_
    show oP p e below T107 (mkF m 283 #[oR r0, oI 3, oI 3, oI 0, oR b106, oI 1, oI 0, oI (((((((0 : Int32) <<< ((6 : Int32) &&& 31)) ||| d0) <<< ((6 : Int32) &&& 31)) ||| d1) <<< ((6 : Int32) &&& 31)) ||| d2), oU] [(.int (((((((((0 : Int32) <<< ((6 : Int32) &&& 31)) ||| d0) <<< ((6 : Int32) &&& 31)) ||| d1) <<< ((6 : Int32) &&& 31)) ||| d2) >>> ((10 : Int32) &&& 31)).toInt8.toInt32)), (.int 0), (.ref b106)]) _
    refine st109 _ ?_
    show oP p e below T109 (mkF m 284 #[oR r0, oI 3, oI 3, oI 0, oR b106, oI 1, oI 0, oI (((((((0 : Int32) <<< ((6 : Int32) &&& 31)) ||| d0) <<< ((6 : Int32) &&& 31)) ||| d1) <<< ((6 : Int32) &&& 31)) ||| d2), oU] []) _
    refine XS.aload X109.here hx rfl (hb hby d3_284) rfl rfl ?_
    show oP p e below T109 (mkF m 286 #[oR r0, oI 3, oI 3, oI 0, oR b106, oI 1, oI 0, oI (((((((0 : Int32) <<< ((6 : Int32) &&& 31)) ||| d0) <<< ((6 : Int32) &&& 31)) ||| d1) <<< ((6 : Int32) &&& 31)) ||| d2), oU] [(.ref b106)]) _
    refine XS.iload X109.here hx rfl (hb hby d3_286) rfl ?_
    show oP p e below T109 (mkF m 288 #[oR r0, oI 3, oI 3, oI 0, oR b106, oI 1, oI 0, oI (((((((0 : Int32) <<< ((6 : Int32) &&& 31)) ||| d0) <<< ((6 : Int32) &&& 31)) ||| d1) <<< ((6 : Int32) &&& 31)) ||| d2), oU] [(.int 1), (.ref b106)]) _
    refine XS.iload X109.here hx rfl (hb hby d3_288) rfl ?_
    show oP p e below T109 (mkF m 290 #[oR r0, oI 3, oI 3, oI 0, oR b106, oI 1, oI 0, oI (((((((0 : Int32) <<< ((6 : Int32) &&& 31)) ||| d0) <<< ((6 : Int32) &&& 31)) ||| d1) <<< ((6 : Int32) &&& 31)) ||| d2), oU] [(.int (((((((0 : Int32) <<< ((6 : Int32) &&& 31)) ||| d0) <<< ((6 : Int32) &&& 31)) ||| d1) <<< ((6 : Int32) &&& 31)) ||| d2)), (.int 1), (.ref b106)]) _
    refine XS.iconst X109.here hx rfl (hb hby d3_290) ?_
    refine XS.ishr X109.here hx rfl (hb hby d3_291) rfl ?_
    show oP p e below T109 (mkF m 292 #[oR r0, oI 3, oI 3, oI 0, oR b106, oI 1, oI 0, oI (((((((0 : Int32) <<< ((6 : Int32) &&& 31)) ||| d0) <<< ((6 : Int32) &&& 31)) ||| d1) <<< ((6 : Int32) &&& 31)) ||| d2), oU] [(.int ((((((((0 : Int32) <<< ((6 : Int32) &&& 31)) ||| d0) <<< ((6 : Int32) &&& 31)) ||| d1) <<< ((6 : Int32) &&& 31)) ||| d2) >>> ((2 : Int32) &&& 31))), (.int 1), (.ref b106)]) _
    refine XS.i2b X109.here hx rfl (hb hby d3_292) rfl ?_
    show oP p e below T109 (mkF m 293 #[oR r0, oI 3, oI 3, oI 0, oR b106, oI 1, oI 0, oI (((((((0 : Int32) <<< ((6 : Int32) &&& 31)) ||| d0) <<< ((6 : Int32) &&& 31)) ||| d1) <<< ((6 : Int32) &&& 31)) ||| d2), oU] [(.int (((((((((0 : Int32) <<< ((6 : Int32) &&& 31)) ||| d0) <<< ((6 : Int32) &&& 31)) ||| d1) <<< ((6 : Int32) &&& 31)) ||| d2) >>> ((2 : Int32) &&& 31)).toInt8.toInt32)), (.int 1), (.ref b106)]) _
    refine st111 _ ?_
    show oP p e below T111 (mkF m 294 #[oR r0, oI 3, oI 3, oI 0, oR b106, oI 1, oI 0, oI (((((((0 : Int32) <<< ((6 : Int32) &&& 31)) ||| d0) <<< ((6 : Int32) &&& 31)) ||| d1) <<< ((6 : Int32) &&& 31)) ||| d2), oU] []) _
    refine XS.aload X111.here hx rfl (hb hby d3_294) rfl rfl ?_
    show oP p e below T111 (mkF m 296 #[oR r0, oI 3, oI 3, oI 0, oR b106, oI 1, oI 0, oI (((((((0 : Int32) <<< ((6 : Int32) &&& 31)) ||| d0) <<< ((6 : Int32) &&& 31)) ||| d1) <<< ((6 : Int32) &&& 31)) ||| d2), oU] [(.ref b106)]) _
    exact own_retA X111 hx Bd.returns rfl rfl (hb hby d3_296) hr
  · show ∃ (b : Addr), ∃ (kb : ClassId), (some (.ref b106) : Option Value) = some (.ref b) ∧ Fr n0 _ ∧ Keep h0 T111.heap [] ∧ h0.size ≤ b ∧ Arv Z T111.heap b kb .byte (2 : Int32) [(.int ((((((((((0 : Int32) <<< ((6 : Int32) &&& 31)) ||| d0) <<< ((6 : Int32) &&& 31)) ||| d1) <<< ((6 : Int32) &&& 31)) ||| d2) >>> ((10 : Int32) &&& 31)).toInt8.toInt32).toInt8.toInt32)), (.int ((((((((((0 : Int32) <<< ((6 : Int32) &&& 31)) ||| d0) <<< ((6 : Int32) &&& 31)) ||| d1) <<< ((6 : Int32) &&& 31)) ||| d2) >>> ((2 : Int32) &&& 31)).toInt8.toInt32).toInt8.toInt32))] (.int 0)
    rw [e111]
    exact ⟨b106, k106, rfl, N111, Kc111, sz_b106, V111⟩
theorem ef_3x031 (m : MethodId) (x0 : Addr) : entryFrame m #[(.ref x0)] 9 = mkF m 0 #[.val (.ref x0), .unset, .unset, .unset, .unset, .unset, .unset, .unset, .unset] [] := by first | (simp [entryFrame, mkF, argsToLocals, Value.category]; done) | rfl
set_option maxRecDepth 65536 in
set_option maxHeartbeats 40000000 in
theorem rm3x031 (l : Launch) (Z : State) (a0 : Array Value) (hw : ∀ d ∈ tables_1, d.before a0 Z = true) (hS : St Z) (ws : List Jvm.Cond) (r0 : Addr) (k : ClassId) (d0 : Int32) (d1 : Int32) (d2 : Int32) (r4_ : Value) (r5_ : Value) (r6_ : Value) (r7_ : Value) (r8_ : Value) (r9_ : Value) (r10_ : Value) (r11_ : Value) (h0 : Heap) (n0 : Nat) (O0 : Old Z n0 h0) (V_r0 : Arv Z h0 r0 k .byte (4 : Int32) [(.int (chv d0)), (.int (chv d1)), (.int (chv d2)), (.int 61), r4_, r5_, r6_, r7_, r8_, r9_, r10_, r11_] (.int 0)) (hd0 : Dg d0) (hd1 : Dg d1) (hd2 : Dg d2) :
    MetFree l (⟨"com/example/meerkat/meerkat/Base64Codec", "decode", "([B)[B"⟩ : MethodName) (head1 (Jvm.Cond.code (⟨"com/example/meerkat/meerkat/Base64Codec", "decode", "([B)[B"⟩ : MethodName) prog_8_method_3_code 9 (some (.array .byte)) :: ws) ({ frames := 2, cells := 1, slots := 8, locals := 60 } : Room)) (fun a U => a = #[(.ref r0)] ∧ Z.Warmed39 U.vm ∧ U.heap = h0) (fun _ _ _ _ _ => True) (fun _ U o U' => ∃ v L, o = .returned v ∧ own_Q (fun v hE L => ∃ (b : Addr), ∃ (kb : ClassId), v = some (.ref b) ∧ Fr n0 L ∧ Keep h0 hE [] ∧ h0.size ≤ b ∧ Arv Z hE b kb .byte (2 : Int32) [(.int ((((((((((0 : Int32) <<< ((6 : Int32) &&& 31)) ||| d0) <<< ((6 : Int32) &&& 31)) ||| d1) <<< ((6 : Int32) &&& 31)) ||| d2) >>> ((10 : Int32) &&& 31)).toInt8.toInt32).toInt8.toInt32)), (.int ((((((((((0 : Int32) <<< ((6 : Int32) &&& 31)) ||| d0) <<< ((6 : Int32) &&& 31)) ||| d1) <<< ((6 : Int32) &&& 31)) ||| d2) >>> ((2 : Int32) &&& 31)).toInt8.toInt32).toInt8.toInt32))] (.int 0)) v U'.heap L ∧ FrameEnd U o U' L ({ frames := 2, cells := 1, slots := 8, locals := 60 } : Room).cells ({ frames := 2, cells := 1, slots := 8, locals := 60 } : Room).slots) := by
  refine MetFree.of_bodySF (plainFor_of_name pn_1) hisR ?_
  intro p e s m args below meth c s₁ Bd hml0 hP hK
  obtain ⟨rfl, hZ, hh⟩ := hP
  have hx := Bd.exec
  have hby := Bd.bytes
  have hml : c.maxLocals = 9 := hml0
  have hown : s.vm.findClass "com/example/meerkat/meerkat/Base64Codec" = some m.cls := findClass_of_methodNamed Bd.named
  have hnm := (name_of_methodNamed Bd.named Bd.method).1
  have X0 : Stand p l e ({ frames := 2, cells := 1, slots := 8, locals := 60 } : Room) s m #[(.ref r0)] below meth c s₁ [] 0 0 := Stand.of_body Bd
  have e0 : s₁.heap = h0 := by rw [← hh, Bd.state]; rfl
  have N0 := Fr.nil n0
  have pre0 : ∀ t, Steps p.tables e below (s₁.setTop (mkF m 0 #[oR r0, oU, oU, oU, oU, oU, oU, oU, oU] [])) t → Steps p.tables e below (s₁.setTop (entryFrame m #[(.ref r0)] 9)) t := fun t k => castTop (ef_3x031 m r0) k
  obtain ⟨_, _, ⟨T112, L112, k112, n112⟩, -, X112, ⟨Lc112, hQ112, l112, y112, z112⟩, st112⟩ := Jvm.LawKit.callS X0 hx (y := (⟨"java/lang/Math", "max", "(II)I"⟩ : MethodName)) hown (mvT hZ (wi hw 12 rfl)) (mvT hZ (wi hw 13 rfl)) (mvT hZ (wi hw 14 rfl)) (mvT hZ (wi hw 15 rfl)) (by decide) (backOf (W := 1) (rm4 l Z a0 hw hS [] (0 : Int32) (2 : Int32) h0 n0 O0) hZ (wi hw 15 rfl) (wi hw 14 rfl) (by decide) (by decide)) (g := (mkF m 81 #[oR r0, oI 3, oI 3, oI 1, oU, oU, oU, oU, oU] [(.int 2), (.int 0), (.int 0)])) rfl (by rw [hml]; rfl) (argsL := [(.int 0), (.int 2)]) (rest := [(.int 0)]) (lenOf pd_3 rfl) rfl (by show 2 * 0 + _ ≤ _; exact Nat.le_of_eq rfl) (hb hby d3_81) (fun _ _ => ⟨rfl, e0, (by decide : 0 + 0 ≤ _), (by decide : 0 + 0 ≤ _)⟩)
  dsimp only [Pt.U, Pt.locs, Pt.cells, Pt.slots] at X112 l112 y112 z112 st112 hQ112
  subst l112 y112 z112
  obtain ⟨v112, N112q, h112q⟩ := hQ112
  have w112 : (fn4 Z (0 : Int32) (2 : Int32)) = (2 : Int32) := by unfold fn4; rw [if_pos (by decide : (0 : Int32) < (2 : Int32))]; all_goals first | rfl | decide
  rw [w112] at v112
  subst v112
  have N112 := Fr.app N0 N112q
  obtain ⟨T113, h113, k113, X113, e113, E113, A113, st113⟩ := newP X112 hx hZ (wi hw 0 rfl) h112q (g := (mkF m 85 #[oR r0, oI 3, oI 3, oI 1, oU, oU, oU, oU, oU] [(.int 2)])) rfl (hb hby d3_85) rfl (by decide) (cap := 2) (by decide) (by decide) (by decide) (by decide)
  obtain ⟨b113, g113⟩ : ∃ z, z = h0.size := ⟨_, rfl⟩
  have g_b113 : n0 ≤ b113 := Nat.le_trans (own_old_le O0) (Nat.le_of_eq g113.symm)
  have sz_b113 : h0.size ≤ b113 := Nat.le_trans (Keep.refl h0 []).1 (Nat.le_of_eq g113.symm)
  have ne_r0_b113 : r0 ≠ b113 := Nat.ne_of_lt (Nat.lt_of_lt_of_le V_r0.lt (Nat.le_of_eq g113.symm))
  rw [← g113] at A113 st113
  have O113 := O0.ext E113
  have Kc113 := (Keep.refl h0 []).ext E113
  have V113 : Arv Z h113 b113 k113 .byte (2 : Int32) [(.int 0), (.int 0)] (.int 0) := (Arv.new A113 (by decide)).pad (pad_rep [] (.int 0) 2)
  have fx115 := (V_r0.ext E113)
  obtain ⟨_, _, ⟨T114, L114, k114, n114⟩, -, X114, ⟨Lc114, hQ114, l114, y114, z114⟩, st114⟩ := Jvm.LawKit.callS X113 hx (y := (⟨"com/example/meerkat/meerkat/Base64Codec", "bitsOf", "([BII)I"⟩ : MethodName)) hown (mvT hZ (wi hw 28 rfl)) (mvT hZ (wi hw 29 rfl)) (mvT hZ (wi hw 10 rfl)) (mvT hZ (wi hw 30 rfl)) (by decide) (backOf (W := 0) (rm8b0_3 l Z a0 hw hS [] r0 k (4 : Int32) [(.int (chv d0)), (.int (chv d1)), (.int (chv d2)), (.int 61), r4_, r5_, r6_, r7_, r8_, r9_, r10_, r11_] d0 d1 d2 h113 n0 O113 fx115 hd0 hd1 hd2 rfl rfl rfl ⟨by decide, by decide⟩ ⟨by decide, by decide⟩ ⟨by decide, by decide⟩) hZ (wi hw 30 rfl) (wi hw 10 rfl) (by decide) (by decide)) (g := (mkF m 265 #[oR r0, oI 3, oI 3, oI 1, oR b113, oI 0, oI 0, oI 0, oU] [(.int 3), (.int 0), (.ref r0)])) rfl (by rw [hml]; rfl) (argsL := [(.ref r0), (.int 0), (.int 3)]) (rest := []) (lenOf pd_4 rfl) rfl (by show 2 * 0 + _ ≤ _; exact Nat.le_of_eq rfl) (hb hby d3_265) (fun _ _ => ⟨rfl, e113, (by decide : 1 + 0 ≤ _), (by decide : 2 + 0 ≤ _)⟩)
  dsimp only [Pt.U, Pt.locs, Pt.cells, Pt.slots] at X114 l114 y114 z114 st114 hQ114
  subst l114 y114 z114
  obtain ⟨v114, N114q, K114q⟩ := hQ114
  have w114 : (fn8b0_3 Z r0 k (4 : Int32) [(.int (chv d0)), (.int (chv d1)), (.int (chv d2)), (.int 61), r4_, r5_, r6_, r7_, r8_, r9_, r10_, r11_] d0 d1 d2) = (((((((0 : Int32) <<< ((6 : Int32) &&& 31)) ||| d0) <<< ((6 : Int32) &&& 31)) ||| d1) <<< ((6 : Int32) &&& 31)) ||| d2) := rfl
  rw [w114] at v114
  subst v114
  have N114 := Fr.app N112 N114q
  have O114 := O113.keep K114q all0
  have Kc114 := Kc113.trans K114q all0
  have fx117 := (V113.keep K114q nin0)
  obtain ⟨T116, h116, X116, e116, W116, V116', st116⟩ := own_stB X114 hx hZ rfl fx117 (j := (0 : Int32)) ⟨by decide, by decide⟩ rfl (by decide : ((0 : Int32) : Int32).toNatClampNeg < 2) (g := (mkF m 283 #[oR r0, oI 3, oI 3, oI 1, oR b113, oI 1, oI 0, oI (((((((0 : Int32) <<< ((6 : Int32) &&& 31)) ||| d0) <<< ((6 : Int32) &&& 31)) ||| d1) <<< ((6 : Int32) &&& 31)) ||| d2), oU] [(.int (((((((((0 : Int32) <<< ((6 : Int32) &&& 31)) ||| d0) <<< ((6 : Int32) &&& 31)) ||| d1) <<< ((6 : Int32) &&& 31)) ||| d2) >>> ((10 : Int32) &&& 31)).toInt8.toInt32)), (.int 0), (.ref b113)])) rfl rfl (hb hby d3_283)
  have N116 := Fr.snoc X116 N114 g_b113
  have O116 := O114.wr W116 g_b113
  have Kc116 := Kc114.wr W116 (Or.inr sz_b113)
  have V116 : Arv Z h116 b113 k113 .byte (2 : Int32) [(.int ((((((((((0 : Int32) <<< ((6 : Int32) &&& 31)) ||| d0) <<< ((6 : Int32) &&& 31)) ||| d1) <<< ((6 : Int32) &&& 31)) ||| d2) >>> ((10 : Int32) &&& 31)).toInt8.toInt32).toInt8.toInt32)), (.int 0)] (.int 0) := V116'
  obtain ⟨T118, h118, X118, e118, W118, V118', st118⟩ := own_stB X116 hx hZ e116 V116 (j := (1 : Int32)) ⟨by decide, by decide⟩ rfl (by decide : ((1 : Int32) : Int32).toNatClampNeg < 2) (g := (mkF m 293 #[oR r0, oI 3, oI 3, oI 1, oR b113, oI 1, oI 0, oI (((((((0 : Int32) <<< ((6 : Int32) &&& 31)) ||| d0) <<< ((6 : Int32) &&& 31)) ||| d1) <<< ((6 : Int32) &&& 31)) ||| d2), oU] [(.int (((((((((0 : Int32) <<< ((6 : Int32) &&& 31)) ||| d0) <<< ((6 : Int32) &&& 31)) ||| d1) <<< ((6 : Int32) &&& 31)) ||| d2) >>> ((2 : Int32) &&& 31)).toInt8.toInt32)), (.int 1), (.ref b113)])) rfl rfl (hb hby d3_293)
  have N118 := Fr.snoc X118 N116 g_b113
  have O118 := O116.wr W118 g_b113
  have Kc118 := Kc116.wr W118 (Or.inr sz_b113)
  have V118 : Arv Z h118 b113 k113 .byte (2 : Int32) [(.int ((((((((((0 : Int32) <<< ((6 : Int32) &&& 31)) ||| d0) <<< ((6 : Int32) &&& 31)) ||| d1) <<< ((6 : Int32) &&& 31)) ||| d2) >>> ((10 : Int32) &&& 31)).toInt8.toInt32).toInt8.toInt32)), (.int ((((((((((0 : Int32) <<< ((6 : Int32) &&& 31)) ||| d0) <<< ((6 : Int32) &&& 31)) ||| d1) <<< ((6 : Int32) &&& 31)) ||| d2) >>> ((2 : Int32) &&& 31)).toInt8.toInt32).toInt8.toInt32))] (.int 0) := V118'
  obtain ⟨fs, hr, hrun, hended, hW, hsame⟩ := X118.leave (v := some (.ref b113)) (fun h => by rw [Bd.returns] at h; cases h)
  refine ⟨_, _, pre0 _ ?_, hrun, hended, _, _, rfl, ?_, ⟨_, rfl⟩, hW, hsame.mono (by decide) (by decide)⟩
  · show oP p e below s₁ (mkF m 0 #[oR r0, oU, oU, oU, oU, oU, oU, oU, oU] []) _
    refine XS.aloadN X0.here hx rfl (hb hby d3_0) rfl rfl ?_
    show oP p e below s₁ (mkF m 1 #[oR r0, oU, oU, oU, oU, oU, oU, oU, oU] [(.ref r0)]) _
    refine own_len X0 hx hZ e0 V_r0 (g := (mkF m 1 #[oR r0, oU, oU, oU, oU, oU, oU, oU, oU] [(.ref r0)])) rfl rfl (hb hby d3_1) _ ?_
    show oP p e below s₁ (mkF m 2 #[oR r0, oU, oU, oU, oU, oU, oU, oU, oU] [(.int 4)]) _
    refine XS.istoreN X0.here hx rfl (hb hby d3_2) rfl (l' := #[oR r0, oI 4, oU, oU, oU, oU, oU, oU, oU]) rfl ?_
    show oP p e below s₁ (mkF m 3 #[oR r0, oI 4, oU, oU, oU, oU, oU, oU, oU] []) _
    refine XS.iloadN X0.here hx rfl (hb hby d3_3) rfl ?_
    refine XS.ifNo X0.here hx rfl (hb hby d3_4) rfl ((if0 _ _).trans (tlt (by decide : (0 : Int32) < (4 : Int32))).2.2.2) ?_
    show oP p e below s₁ (mkF m 7 #[oR r0, oI 4, oU, oU, oU, oU, oU, oU, oU] []) _
    refine XS.aloadN X0.here hx rfl (hb hby d3_7) rfl rfl ?_
    refine XS.iloadN X0.here hx rfl (hb hby d3_8) rfl ?_
    refine XS.iconst X0.here hx rfl (hb hby d3_9) ?_
    refine XS.isub X0.here hx rfl (hb hby d3_10) rfl ?_
    show oP p e below s₁ (mkF m 11 #[oR r0, oI 4, oU, oU, oU, oU, oU, oU, oU] [(.int 3), (.ref r0)]) _
    refine own_baload X0 hx hZ e0 V_r0 (j := (3 : Int32)) ⟨by decide, by decide⟩ (v := (.int 61)) rfl (g := (mkF m 11 #[oR r0, oI 4, oU, oU, oU, oU, oU, oU, oU] [(.int 3), (.ref r0)])) rfl rfl (hb hby d3_11) _ ?_
    show oP p e below s₁ (mkF m 12 #[oR r0, oI 4, oU, oU, oU, oU, oU, oU, oU] [(.int 61)]) _
    refine XS.bipush X0.here hx rfl (hb hby d3_12) ?_
    refine XS.icmpNo X0.here hx rfl (hb hby d3_14) rfl (teq (by decide : (61 : Int32) = (61 : Int32))).2 ?_
    show oP p e below s₁ (mkF m 17 #[oR r0, oI 4, oU, oU, oU, oU, oU, oU, oU] []) _
    refine XS.iinc X0.here hx rfl (hb hby d3_17) rfl (l' := #[oR r0, oI 3, oU, oU, oU, oU, oU, oU, oU]) rfl ?_
    show oP p e below s₁ (mkF m 20 #[oR r0, oI 3, oU, oU, oU, oU, oU, oU, oU] []) _
    refine XS.goto X0.here hx rfl (pc0 := 20) (pc' := 3) rfl (hb hby d3_20) (by decide) (by decide) ?_
    show oP p e below s₁ (mkF m 3 #[oR r0, oI 3, oU, oU, oU, oU, oU, oU, oU] []) _
    refine XS.iloadN X0.here hx rfl (hb hby d3_3) rfl ?_
    refine XS.ifNo X0.here hx rfl (hb hby d3_4) rfl ((if0 _ _).trans (tlt (by decide : (0 : Int32) < (3 : Int32))).2.2.2) ?_
    show oP p e below s₁ (mkF m 7 #[oR r0, oI 3, oU, oU, oU, oU, oU, oU, oU] []) _
    refine XS.aloadN X0.here hx rfl (hb hby d3_7) rfl rfl ?_
    refine XS.iloadN X0.here hx rfl (hb hby d3_8) rfl ?_
    refine XS.iconst X0.here hx rfl (hb hby d3_9) ?_
    refine XS.isub X0.here hx rfl (hb hby d3_10) rfl ?_
    show oP p e below s₁ (mkF m 11 #[oR r0, oI 3, oU, oU, oU, oU, oU, oU, oU] [(.int 2), (.ref r0)]) _
    refine own_baload X0 hx hZ e0 V_r0 (j := (2 : Int32)) ⟨by decide, by decide⟩ (v := (.int (chv d2))) rfl (g := (mkF m 11 #[oR r0, oI 3, oU, oU, oU, oU, oU, oU, oU] [(.int 2), (.ref r0)])) rfl rfl (hb hby d3_11) _ ?_
    show oP p e below s₁ (mkF m 12 #[oR r0, oI 3, oU, oU, oU, oU, oU, oU, oU] [(.int (chv d2))]) _
    refine XS.bipush X0.here hx rfl (hb hby d3_12) ?_
    refine XS.icmpYes X0.here hx rfl (pc0 := 14) (pc' := 23) rfl (hb hby d3_14) rfl (feq (chv_ne hd2)).2 (by decide) (by decide) ?_
    show oP p e below s₁ (mkF m 23 #[oR r0, oI 3, oU, oU, oU, oU, oU, oU, oU] []) _
    refine XS.iloadN X0.here hx rfl (hb hby d3_23) rfl ?_
    refine XS.iconst X0.here hx rfl (hb hby d3_24) ?_
    refine XS.irem X0.here hx rfl (hb hby d3_25) rfl (by decide) ?_
    show oP p e below s₁ (mkF m 26 #[oR r0, oI 3, oU, oU, oU, oU, oU, oU, oU] [(.int 3)]) _
    refine XS.istoreN X0.here hx rfl (hb hby d3_26) rfl (l' := #[oR r0, oI 3, oI 3, oU, oU, oU, oU, oU, oU]) rfl ?_
    show oP p e below s₁ (mkF m 27 #[oR r0, oI 3, oI 3, oU, oU, oU, oU, oU, oU] []) _
    refine XS.aloadN X0.here hx rfl (hb hby d3_27) rfl rfl ?_
    show oP p e below s₁ (mkF m 28 #[oR r0, oI 3, oI 3, oU, oU, oU, oU, oU, oU] [(.ref r0)]) _
    refine own_len X0 hx hZ e0 V_r0 (g := (mkF m 28 #[oR r0, oI 3, oI 3, oU, oU, oU, oU, oU, oU] [(.ref r0)])) rfl rfl (hb hby d3_28) _ ?_
    show oP p e below s₁ (mkF m 29 #[oR r0, oI 3, oI 3, oU, oU, oU, oU, oU, oU] [(.int 4)]) _
    refine XS.iloadN X0.here hx rfl (hb hby d3_29) rfl ?_
    refine XS.isub X0.here hx rfl (hb hby d3_30) rfl ?_
    show oP p e below s₁ (mkF m 31 #[oR r0, oI 3, oI 3, oU, oU, oU, oU, oU, oU] [(.int 1)]) _
    refine XS.istoreN X0.here hx rfl (hb hby d3_31) rfl (l' := #[oR r0, oI 3, oI 3, oI 1, oU, oU, oU, oU, oU]) rfl ?_
    show oP p e below s₁ (mkF m 32 #[oR r0, oI 3, oI 3, oI 1, oU, oU, oU, oU, oU] []) _
    refine XS.iloadN X0.here hx rfl (hb hby d3_32) rfl ?_
    refine XS.iconst X0.here hx rfl (hb hby d3_33) ?_
    refine XS.icmpYes X0.here hx rfl (pc0 := 34) (pc' := 47) rfl (hb hby d3_34) rfl (feq (by decide : ¬ ((3 : Int32) = (1 : Int32)))).2 (by decide) (by decide) ?_
    show oP p e below s₁ (mkF m 47 #[oR r0, oI 3, oI 3, oI 1, oU, oU, oU, oU, oU] []) _
    refine XS.iloadN X0.here hx rfl (hb hby d3_47) rfl ?_
    refine XS.ifNo X0.here hx rfl (hb hby d3_48) rfl ((if0 _ _).trans (tlt (by decide : (0 : Int32) < (1 : Int32))).2.2.2) ?_
    show oP p e below s₁ (mkF m 51 #[oR r0, oI 3, oI 3, oI 1, oU, oU, oU, oU, oU] []) _
    refine XS.iloadN X0.here hx rfl (hb hby d3_51) rfl ?_
    refine XS.ifNo X0.here hx rfl (hb hby d3_52) rfl ((if0 _ _).trans (feq (by decide : ¬ ((3 : Int32) = (0 : Int32)))).1) ?_
    show oP p e below s₁ (mkF m 55 #[oR r0, oI 3, oI 3, oI 1, oU, oU, oU, oU, oU] []) _
    refine XS.iloadN X0.here hx rfl (hb hby d3_55) rfl ?_
    refine XS.iconst X0.here hx rfl (hb hby d3_56) ?_
    refine XS.iloadN X0.here hx rfl (hb hby d3_57) rfl ?_
    refine XS.isub X0.here hx rfl (hb hby d3_58) rfl ?_
    show oP p e below s₁ (mkF m 59 #[oR r0, oI 3, oI 3, oI 1, oU, oU, oU, oU, oU] [(.int 1), (.int 1)]) _
    refine XS.icmpYes X0.here hx rfl (pc0 := 59) (pc' := 72) rfl (hb hby d3_59) rfl (teq (by decide : (1 : Int32) = (1 : Int32))).1 (by decide) (by decide) ?_
    show oP p e below s₁ (mkF m 72 #[oR r0, oI 3, oI 3, oI 1, oU, oU, oU, oU, oU] []) _
    refine XS.iloadN X0.here hx rfl (hb hby d3_72) rfl ?_
    refine XS.iconst X0.here hx rfl (hb hby d3_73) ?_
    refine XS.idiv X0.here hx rfl (hb hby d3_74) rfl (by decide) ?_
    show oP p e below s₁ (mkF m 75 #[oR r0, oI 3, oI 3, oI 1, oU, oU, oU, oU, oU] [(.int 0)]) _
    refine XS.iconst X0.here hx rfl (hb hby d3_75) ?_
    refine XS.imul X0.here hx rfl (hb hby d3_76) rfl ?_
    show oP p e below s₁ (mkF m 77 #[oR r0, oI 3, oI 3, oI 1, oU, oU, oU, oU, oU] [(.int 0)]) _
    refine XS.iconst X0.here hx rfl (hb hby d3_77) ?_
    refine XS.iloadN X0.here hx rfl (hb hby d3_78) rfl ?_
    refine XS.iconst X0.here hx rfl (hb hby d3_79) ?_
    refine XS.isub X0.here hx rfl (hb hby d3_80) rfl ?_
    show oP p e below s₁ (mkF m 81 #[oR r0, oI 3, oI 3, oI 1, oU, oU, oU, oU, oU] [(.int 2), (.int 0), (.int 0)]) _
    refine st112 _ ?_
    show oP p e below T112 (mkF m 84 #[oR r0, oI 3, oI 3, oI 1, oU, oU, oU, oU, oU] [(.int 2), (.int 0)]) _
    refine XS.iadd X112.here hx rfl (hb hby d3_84) rfl ?_
    show oP p e below T112 (mkF m 85 #[oR r0, oI 3, oI 3, oI 1, oU, oU, oU, oU, oU] [(.int 2)]) _
    refine st113 _ ?_
    show oP p e below T113 (mkF m 87 #[oR r0, oI 3, oI 3, oI 1, oU, oU, oU, oU, oU] [(.ref b113)]) _
    refine XS.astore X113.here hx rfl (hb hby d3_87) rfl rfl (l' := #[oR r0, oI 3, oI 3, oI 1, oR b113, oU, oU, oU, oU]) rfl ?_
    show oP p e below T113 (mkF m 89 #[oR r0, oI 3, oI 3, oI 1, oR b113, oU, oU, oU, oU] []) _
    refine XS.iconst X113.here hx rfl (hb hby d3_89) ?_
    refine XS.istore X113.here hx rfl (hb hby d3_90) rfl (l' := #[oR r0, oI 3, oI 3, oI 1, oR b113, oI 0, oU, oU, oU]) rfl ?_
    show oP p e below T113 (mkF m 92 #[oR r0, oI 3, oI 3, oI 1, oR b113, oI 0, oU, oU, oU] []) _
    refine XS.iloadN X113.here hx rfl (hb hby d3_92) rfl ?_
    refine XS.iloadN X113.here hx rfl (hb hby d3_93) rfl ?_
    refine XS.isub X113.here hx rfl (hb hby d3_94) rfl ?_
    show oP p e below T113 (mkF m 95 #[oR r0, oI 3, oI 3, oI 1, oR b113, oI 0, oU, oU, oU] [(.int 0)]) _
    refine XS.istore X113.here hx rfl (hb hby d3_95) rfl (l' := #[oR r0, oI 3, oI 3, oI 1, oR b113, oI 0, oI 0, oU, oU]) rfl ?_
    show oP p e below T113 (mkF m 97 #[oR r0, oI 3, oI 3, oI 1, oR b113, oI 0, oI 0, oU, oU] []) _
    refine XS.iconst X113.here hx rfl (hb hby d3_97) ?_
    refine XS.istore X113.here hx rfl (hb hby d3_98) rfl (l' := #[oR r0, oI 3, oI 3, oI 1, oR b113, oI 0, oI 0, oI 0, oU]) rfl ?_
    show oP p e below T113 (mkF m 100 #[oR r0, oI 3, oI 3, oI 1, oR b113, oI 0, oI 0, oI 0, oU] []) _
    refine XS.iload X113.here hx rfl (hb hby d3_100) rfl ?_
    show oP p e below T113 (mkF m 102 #[oR r0, oI 3, oI 3, oI 1, oR b113, oI 0, oI 0, oI 0, oU] [(.int 0)]) _
    refine XS.iload X113.here hx rfl (hb hby d3_102) rfl ?_
    show oP p e below T113 (mkF m 104 #[oR r0, oI 3, oI 3, oI 1, oR b113, oI 0, oI 0, oI 0, oU] [(.int 0), (.int 0)]) _
    refine XS.icmpYes X113.here hx rfl (pc0 := 104) (pc' := 233) rfl (hb hby d3_104) rfl (flt (by decide : ¬ ((0 : Int32) < (0 : Int32)))).2.1 (by decide) (by decide) ?_
    show oP p e below T113 (mkF m 233 #[oR r0, oI 3, oI 3, oI 1, oR b113, oI 0, oI 0, oI 0, oU] []) _
    refine XS.iloadN X113.here hx rfl (hb hby d3_233) rfl ?_
    refine XS.iconst X113.here hx rfl (hb hby d3_234) ?_
    refine XS.icmpYes X113.here hx rfl (pc0 := 235) (pc' := 256) rfl (hb hby d3_235) rfl (feq (by decide : ¬ ((3 : Int32) = (2 : Int32)))).2 (by decide) (by decide) ?_
    show oP p e below T113 (mkF m 256 #[oR r0, oI 3, oI 3, oI 1, oR b113, oI 0, oI 0, oI 0, oU] []) _
    refine XS.iloadN X113.here hx rfl (hb hby d3_256) rfl ?_
    refine XS.iconst X113.here hx rfl (hb hby d3_257) ?_
    refine XS.icmpNo X113.here hx rfl (hb hby d3_258) rfl (teq (by decide : (3 : Int32) = (3 : Int32))).2 ?_
    show oP p e below T113 (mkF m 261 #[oR r0, oI 3, oI 3, oI 1, oR b113, oI 0, oI 0, oI 0, oU] []) _
    refine XS.aloadN X113.here hx rfl (hb hby d3_261) rfl rfl ?_
    refine XS.iload X113.here hx rfl (hb hby d3_262) rfl ?_
    show oP p e below T113 (mkF m 264 #[oR r0, oI 3, oI 3, oI 1, oR b113, oI 0, oI 0, oI 0, oU] [(.int 0), (.ref r0)]) _
    refine XS.iconst X113.here hx rfl (hb hby d3_264) ?_
    show oP p e below T113 (mkF m 265 #[oR r0, oI 3, oI 3, oI 1, oR b113, oI 0, oI 0, oI 0, oU] [(.int 3), (.int 0), (.ref r0)]) _
    refine st114 _ ?_
    show oP p e below T114 (mkF m 268 #[oR r0, oI 3, oI 3, oI 1, oR b113, oI 0, oI 0, oI 0, oU] [(.int (((((((0 : Int32) <<< ((6 : Int32) &&& 31)) ||| d0) <<< ((6 : Int32) &&& 31)) ||| d1) <<< ((6 : Int32) &&& 31)) ||| d2))]) _
    refine XS.istore X114.here hx rfl (hb hby d3_268) rfl (l' := #[oR r0, oI 3, oI 3, oI 1, oR b113, oI 0, oI 0, oI (((((((0 : Int32) <<< ((6 : Int32) &&& 31)) ||| d0) <<< ((6 : Int32) &&& 31)) ||| d1) <<< ((6 : Int32) &&& 31)) ||| d2), oU]) rfl ?_
    show oP p e below T114 (mkF m 270 #[oR r0, oI 3, oI 3, oI 1, oR b113, oI 0, oI 0, oI (((((((0 : Int32) <<< ((6 : Int32) &&& 31)) ||| d0) <<< ((6 : Int32) &&& 31)) ||| d1) <<< ((6 : Int32) &&& 31)) ||| d2), oU] []) _
    refine XS.aload X114.here hx rfl (hb hby d3_270) rfl rfl ?_
    show oP p e below T114 (mkF m 272 #[oR r0, oI 3, oI 3, oI 1, oR b113, oI 0, oI 0, oI (((((((0 : Int32) <<< ((6 : Int32) &&& 31)) ||| d0) <<< ((6 : Int32) &&& 31)) ||| d1) <<< ((6 : Int32) &&& 31)) ||| d2), oU] [(.ref b113)]) _
    refine XS.iload X114.here hx rfl (hb hby d3_272) rfl ?_
    show oP p e below T114 (mkF m 274 #[oR r0, oI 3, oI 3, oI 1, oR b113, oI 0, oI 0, oI (((((((0 : Int32) <<< ((6 : Int32) &&& 31)) ||| d0) <<< ((6 : Int32) &&& 31)) ||| d1) <<< ((6 : Int32) &&& 31)) ||| d2), oU] [(.int 0), (.ref b113)]) _
    refine XS.iinc X114.here hx rfl (hb hby d3_274) rfl (l' := #[oR r0, oI 3, oI 3, oI 1, oR b113, oI 1, oI 0, oI (((((((0 : Int32) <<< ((6 : Int32) &&& 31)) ||| d0) <<< ((6 : Int32) &&& 31)) ||| d1) <<< ((6 : Int32) &&& 31)) ||| d2), oU]) rfl ?_
    show oP p e below T114 (mkF m 277 #[oR r0, oI 3, oI 3, oI 1, oR b113, oI 1, oI 0, oI (((((((0 : Int32) <<< ((6 : Int32) &&& 31)) ||| d0) <<< ((6 : Int32) &&& 31)) ||| d1) <<< ((6 : Int32) &&& 31)) ||| d2), oU] [(.int 0), (.ref b113)]) _
    refine XS.iload X114.here hx rfl (hb hby d3_277) rfl ?_
    show oP p e below T114 (mkF m 279 #[oR r0, oI 3, oI 3, oI 1, oR b113, oI 1, oI 0, oI (((((((0 : Int32) <<< ((6 : Int32) &&& 31)) ||| d0) <<< ((6 : Int32) &&& 31)) ||| d1) <<< ((6 : Int32) &&& 31)) ||| d2), oU] [(.int (((((((0 : Int32) <<< ((6 : Int32) &&& 31)) ||| d0) <<< ((6 : Int32) &&& 31)) ||| d1) <<< ((6 : Int32) &&& 31)) ||| d2)), (.int 0), (.ref b113)]) _
    refine XS.bipush X114.here hx rfl (hb hby d3_279) ?_
    refine XS.ishr X114.here hx rfl (hb hby d3_281) rfl ?_
    show oP p e below T114 (mkF m 282 #[oR r0, oI 3, oI 3, oI 1, oR b113, oI 1, oI 0, oI (((((((0 : Int32) <<< ((6 : Int32) &&& 31)) ||| d0) <<< ((6 : Int32) &&& 31)) ||| d1) <<< ((6 : Int32) &&& 31)) ||| d2), oU] [(.int ((((((((0 : Int32) <<< ((6 : Int32) &&& 31)) ||| d0) <<< ((6 : Int32) &&& 31)) ||| d1) <<< ((6 : Int32) &&& 31)) ||| d2) >>> ((10 : Int32) &&& 31))), (.int 0), (.ref b113)]) _
    refine XS.i2b X114.here hx rfl (hb hby d3_282) rfl ?_
    show oP p e below T114 (mkF m 283 #[oR r0, oI 3, oI 3, oI 1, oR b113, oI 1, oI 0, oI (((((((0 : Int32) <<< ((6 : Int32) &&& 31)) ||| d0) <<< ((6 : Int32) &&& 31)) ||| d1) <<< ((6 : Int32) &&& 31)) ||| d2), oU] [(.int (((((((((0 : Int32) <<< ((6 : Int32) &&& 31)) ||| d0) <<< ((6 : Int32) &&& 31)) ||| d1) <<< ((6 : Int32) &&& 31)) ||| d2) >>> ((10 : Int32) &&& 31)).toInt8.toInt32)), (.int 0), (.ref b113)]) _
    refine st116 _ ?_
    show oP p e below T116 (mkF m 284 #[oR r0, oI 3, oI 3, oI 1, oR b113, oI 1, oI 0, oI (((((((0 : Int32) <<< ((6 : Int32) &&& 31)) ||| d0) <<< ((6 : Int32) &&& 31)) ||| d1) <<< ((6 : Int32) &&& 31)) ||| d2), oU] []) _
    refine XS.aload X116.here hx rfl (hb hby d3_284) rfl rfl ?_
    show oP p e below T116 (mkF m 286 #[oR r0, oI 3, oI 3, oI 1, oR b113, oI 1, oI 0, oI (((((((0 : Int32) <<< ((6 : Int32) &&& 31)) ||| d0) <<< ((6 : Int32) &&& 31)) ||| d1) <<< ((6 : Int32) &&& 31)) ||| d2), oU] [(.ref b113)]) _
    refine XS.iload X116.here hx rfl (hb hby d3_286) rfl ?_
    show oP p e below T116 (mkF m 288 #[oR r0, oI 3, oI 3, oI 1, oR b113, oI 1, oI 0, oI (((((((0 : Int32) <<< ((6 : Int32) &&& 31)) ||| d0) <<< ((6 : Int32) &&& 31)) ||| d1) <<< ((6 : Int32) &&& 31)) ||| d2), oU] [(.int 1), (.ref b113)]) _
    refine XS.iload X116.here hx rfl (hb hby d3_288) rfl ?_
    show oP p e below T116 (mkF m 290 #[oR r0, oI 3, oI 3, oI 1, oR b113, oI 1, oI 0, oI (((((((0 : Int32) <<< ((6 : Int32) &&& 31)) ||| d0) <<< ((6 : Int32) &&& 31)) ||| d1) <<< ((6 : Int32) &&& 31)) ||| d2), oU] [(.int (((((((0 : Int32) <<< ((6 : Int32) &&& 31)) ||| d0) <<< ((6 : Int32) &&& 31)) ||| d1) <<< ((6 : Int32) &&& 31)) ||| d2)), (.int 1), (.ref b113)]) _
    refine XS.iconst X116.here hx rfl (hb hby d3_290) ?_
    refine XS.ishr X116.here hx rfl (hb hby d3_291) rfl ?_
    show oP p e below T116 (mkF m 292 #[oR r0, oI 3, oI 3, oI 1, oR b113, oI 1, oI 0, oI (((((((0 : Int32) <<< ((6 : Int32) &&& 31)) ||| d0) <<< ((6 : Int32) &&& 31)) ||| d1) <<< ((6 : Int32) &&& 31)) ||| d2), oU] [(.int ((((((((0 : Int32) <<< ((6 : Int32) &&& 31)) ||| d0) <<< ((6 : Int32) &&& 31)) ||| d1) <<< ((6 : Int32) &&& 31)) ||| d2) >>> ((2 : Int32) &&& 31))), (.int 1), (.ref b113)]) _
    refine XS.i2b X116.here hx rfl (hb hby d3_292) rfl ?_
    show oP p e below T116 (mkF m 293 #[oR r0, oI 3, oI 3, oI 1, oR b113, oI 1, oI 0, oI (((((((0 : Int32) <<< ((6 : Int32) &&& 31)) ||| d0) <<< ((6 : Int32) &&& 31)) ||| d1) <<< ((6 : Int32) &&& 31)) ||| d2), oU] [(.int (((((((((0 : Int32) <<< ((6 : Int32) &&& 31)) ||| d0) <<< ((6 : Int32) &&& 31)) ||| d1) <<< ((6 : Int32) &&& 31)) ||| d2) >>> ((2 : Int32) &&& 31)).toInt8.toInt32)), (.int 1), (.ref b113)]) _
    refine st118 _ ?_
    show oP p e below T118 (mkF m 294 #[oR r0, oI 3, oI 3, oI 1, oR b113, oI 1, oI 0, oI (((((((0 : Int32) <<< ((6 : Int32) &&& 31)) ||| d0) <<< ((6 : Int32) &&& 31)) ||| d1) <<< ((6 : Int32) &&& 31)) ||| d2), oU] []) _
    refine XS.aload X118.here hx rfl (hb hby d3_294) rfl rfl ?_
    show oP p e below T118 (mkF m 296 #[oR r0, oI 3, oI 3, oI 1, oR b113, oI 1, oI 0, oI (((((((0 : Int32) <<< ((6 : Int32) &&& 31)) ||| d0) <<< ((6 : Int32) &&& 31)) ||| d1) <<< ((6 : Int32) &&& 31)) ||| d2), oU] [(.ref b113)]) _
    exact own_retA X118 hx Bd.returns rfl rfl (hb hby d3_296) hr
  · show ∃ (b : Addr), ∃ (kb : ClassId), (some (.ref b113) : Option Value) = some (.ref b) ∧ Fr n0 _ ∧ Keep h0 T118.heap [] ∧ h0.size ≤ b ∧ Arv Z T118.heap b kb .byte (2 : Int32) [(.int ((((((((((0 : Int32) <<< ((6 : Int32) &&& 31)) ||| d0) <<< ((6 : Int32) &&& 31)) ||| d1) <<< ((6 : Int32) &&& 31)) ||| d2) >>> ((10 : Int32) &&& 31)).toInt8.toInt32).toInt8.toInt32)), (.int ((((((((((0 : Int32) <<< ((6 : Int32) &&& 31)) ||| d0) <<< ((6 : Int32) &&& 31)) ||| d1) <<< ((6 : Int32) &&& 31)) ||| d2) >>> ((2 : Int32) &&& 31)).toInt8.toInt32).toInt8.toInt32))] (.int 0)
    rw [e118]
    exact ⟨b113, k113, rfl, N118, Kc118, sz_b113, V118⟩
theorem ef_3x100 (m : MethodId) (x0 : Addr) : entryFrame m #[(.ref x0)] 9 = mkF m 0 #[.val (.ref x0), .unset, .unset, .unset, .unset, .unset, .unset, .unset, .unset] [] := by first | (simp [entryFrame, mkF, argsToLocals, Value.category]; done) | rfl
set_option maxRecDepth 65536 in
set_option maxHeartbeats 40000000 in
theorem rm3x100 (l : Launch) (Z : State) (a0 : Array Value) (hw : ∀ d ∈ tables_1, d.before a0 Z = true) (hS : St Z) (ws : List Jvm.Cond) (r0 : Addr) (k : ClassId) (d0 : Int32) (d1 : Int32) (d2 : Int32) (d3 : Int32) (r4_ : Value) (r5_ : Value) (r6_ : Value) (r7_ : Value) (r8_ : Value) (r9_ : Value) (r10_ : Value) (r11_ : Value) (h0 : Heap) (n0 : Nat) (O0 : Old Z n0 h0) (V_r0 : Arv Z h0 r0 k .byte (4 : Int32) [(.int (chv d0)), (.int (chv d1)), (.int (chv d2)), (.int (chv d3)), r4_, r5_, r6_, r7_, r8_, r9_, r10_, r11_] (.int 0)) (hd0 : Dg d0) (hd1 : Dg d1) (hd2 : Dg d2) (hd3 : Dg d3) :
    MetFree l (⟨"com/example/meerkat/meerkat/Base64Codec", "decode", "([B)[B"⟩ : MethodName) (head1 (Jvm.Cond.code (⟨"com/example/meerkat/meerkat/Base64Codec", "decode", "([B)[B"⟩ : MethodName) prog_8_method_3_code 9 (some (.array .byte)) :: ws) ({ frames := 2, cells := 1, slots := 8, locals := 60 } : Room)) (fun a U => a = #[(.ref r0)] ∧ Z.Warmed39 U.vm ∧ U.heap = h0) (fun _ _ _ _ _ => True) (fun _ U o U' => ∃ v L, o = .returned v ∧ own_Q (fun v hE L => ∃ (b : Addr), ∃ (kb : ClassId), v = some (.ref b) ∧ Fr n0 L ∧ Keep h0 hE [] ∧ h0.size ≤ b ∧ Arv Z hE b kb .byte (3 : Int32) [(.int ((((grp d0 d1 d2 d3) >>> ((16 : Int32) &&& 31)).toInt8.toInt32).toInt8.toInt32)), (.int ((((grp d0 d1 d2 d3) >>> ((8 : Int32) &&& 31)).toInt8.toInt32).toInt8.toInt32)), (.int (((grp d0 d1 d2 d3).toInt8.toInt32).toInt8.toInt32))] (.int 0)) v U'.heap L ∧ FrameEnd U o U' L ({ frames := 2, cells := 1, slots := 8, locals := 60 } : Room).cells ({ frames := 2, cells := 1, slots := 8, locals := 60 } : Room).slots) := by
  refine MetFree.of_bodySF (plainFor_of_name pn_1) hisR ?_
  intro p e s m args below meth c s₁ Bd hml0 hP hK
  obtain ⟨rfl, hZ, hh⟩ := hP
  have hx := Bd.exec
  have hby := Bd.bytes
  have hml : c.maxLocals = 9 := hml0
  have hown : s.vm.findClass "com/example/meerkat/meerkat/Base64Codec" = some m.cls := findClass_of_methodNamed Bd.named
  have hnm := (name_of_methodNamed Bd.named Bd.method).1
  have X0 : Stand p l e ({ frames := 2, cells := 1, slots := 8, locals := 60 } : Room) s m #[(.ref r0)] below meth c s₁ [] 0 0 := Stand.of_body Bd
  have e0 : s₁.heap = h0 := by rw [← hh, Bd.state]; rfl
  have N0 := Fr.nil n0
  have pre0 : ∀ t, Steps p.tables e below (s₁.setTop (mkF m 0 #[oR r0, oU, oU, oU, oU, oU, oU, oU, oU] [])) t → Steps p.tables e below (s₁.setTop (entryFrame m #[(.ref r0)] 9)) t := fun t k => castTop (ef_3x100 m r0) k
  obtain ⟨_, _, ⟨T119, L119, k119, n119⟩, -, X119, ⟨Lc119, hQ119, l119, y119, z119⟩, st119⟩ := Jvm.LawKit.callS X0 hx (y := (⟨"java/lang/Math", "max", "(II)I"⟩ : MethodName)) hown (mvT hZ (wi hw 12 rfl)) (mvT hZ (wi hw 13 rfl)) (mvT hZ (wi hw 14 rfl)) (mvT hZ (wi hw 15 rfl)) (by decide) (backOf (W := 1) (rm4 l Z a0 hw hS [] (0 : Int32) (-1 : Int32) h0 n0 O0) hZ (wi hw 15 rfl) (wi hw 14 rfl) (by decide) (by decide)) (g := (mkF m 81 #[oR r0, oI 4, oI 0, oI 0, oU, oU, oU, oU, oU] [(.int (-1)), (.int 0), (.int 3)])) rfl (by rw [hml]; rfl) (argsL := [(.int 0), (.int (-1))]) (rest := [(.int 3)]) (lenOf pd_3 rfl) rfl (by show 2 * 0 + _ ≤ _; exact Nat.le_of_eq rfl) (hb hby d3_81) (fun _ _ => ⟨rfl, e0, (by decide : 0 + 0 ≤ _), (by decide : 0 + 0 ≤ _)⟩)
  dsimp only [Pt.U, Pt.locs, Pt.cells, Pt.slots] at X119 l119 y119 z119 st119 hQ119
  subst l119 y119 z119
  obtain ⟨v119, N119q, h119q⟩ := hQ119
  have w119 : (fn4 Z (0 : Int32) (-1 : Int32)) = (0 : Int32) := by unfold fn4; rw [if_neg (by decide : ¬ ((0 : Int32) < (-1 : Int32)))]; all_goals first | rfl | decide
  rw [w119] at v119
  subst v119
  have N119 := Fr.app N0 N119q
  obtain ⟨T120, h120, k120, X120, e120, E120, A120, st120⟩ := newP X119 hx hZ (wi hw 0 rfl) h119q (g := (mkF m 85 #[oR r0, oI 4, oI 0, oI 0, oU, oU, oU, oU, oU] [(.int 3)])) rfl (hb hby d3_85) rfl (by decide) (cap := 3) (by decide) (by decide) (by decide) (by decide)
  obtain ⟨b120, g120⟩ : ∃ z, z = h0.size := ⟨_, rfl⟩
  have g_b120 : n0 ≤ b120 := Nat.le_trans (own_old_le O0) (Nat.le_of_eq g120.symm)
  have sz_b120 : h0.size ≤ b120 := Nat.le_trans (Keep.refl h0 []).1 (Nat.le_of_eq g120.symm)
  have ne_r0_b120 : r0 ≠ b120 := Nat.ne_of_lt (Nat.lt_of_lt_of_le V_r0.lt (Nat.le_of_eq g120.symm))
  rw [← g120] at A120 st120
  have O120 := O0.ext E120
  have Kc120 := (Keep.refl h0 []).ext E120
  have V120 : Arv Z h120 b120 k120 .byte (3 : Int32) [(.int 0), (.int 0), (.int 0)] (.int 0) := (Arv.new A120 (by decide)).pad (pad_rep [] (.int 0) 3)
  have fx121 := (V_r0.ext E120)
  obtain ⟨T122, h122, lc122, X122, e122, N122, K122q, V122', st122⟩ := tn3_0 Z a0 hw hS r0 b120 (4 : Int32) (0 : Int32) (0 : Int32) (4 : Int32) k (4 : Int32) [(.int (chv d0)), (.int (chv d1)), (.int (chv d2)), (.int (chv d3)), r4_, r5_, r6_, r7_, r8_, r9_, r10_, r11_] k120 (3 : Int32) [(.int 0), (.int 0), (.int 0)] d0 d1 d2 d3 h120 n0 O120 fx121 V120 g_b120 ne_r0_b120 hd0 hd1 hd2 hd3 rfl rfl rfl rfl ⟨by decide, by decide⟩ ⟨by decide, by decide⟩ ⟨by decide, by decide⟩ ⟨by decide, by decide⟩ ⟨by decide, by decide⟩ ⟨by decide, by decide⟩ ⟨by decide, by decide⟩ (Nat.le_of_ble_eq_true rfl) (Nat.le_of_ble_eq_true rfl) (Nat.le_of_ble_eq_true rfl) (by decide) X120 hx hZ hby hml hown e120 N119
  have O122 := O120.keep K122q (allS g_b120 all0)
  have Kc122 := Kc120.trans K122q (allS (Or.inr sz_b120) all0)
  have V122 : Arv Z h122 b120 k120 .byte (3 : Int32) [(.int ((((grp d0 d1 d2 d3) >>> ((16 : Int32) &&& 31)).toInt8.toInt32).toInt8.toInt32)), (.int ((((grp d0 d1 d2 d3) >>> ((8 : Int32) &&& 31)).toInt8.toInt32).toInt8.toInt32)), (.int (((grp d0 d1 d2 d3).toInt8.toInt32).toInt8.toInt32))] (.int 0) := V122'
  obtain ⟨fs, hr, hrun, hended, hW, hsame⟩ := X122.leave (v := some (.ref b120)) (fun h => by rw [Bd.returns] at h; cases h)
  refine ⟨_, _, pre0 _ ?_, hrun, hended, _, _, rfl, ?_, ⟨_, rfl⟩, hW, hsame.mono (by decide) (by decide)⟩
  · show oP p e below s₁ (mkF m 0 #[oR r0, oU, oU, oU, oU, oU, oU, oU, oU] []) _
    refine XS.aloadN X0.here hx rfl (hb hby d3_0) rfl rfl ?_
    show oP p e below s₁ (mkF m 1 #[oR r0, oU, oU, oU, oU, oU, oU, oU, oU] [(.ref r0)]) _
    refine own_len X0 hx hZ e0 V_r0 (g := (mkF m 1 #[oR r0, oU, oU, oU, oU, oU, oU, oU, oU] [(.ref r0)])) rfl rfl (hb hby d3_1) _ ?_
    show oP p e below s₁ (mkF m 2 #[oR r0, oU, oU, oU, oU, oU, oU, oU, oU] [(.int 4)]) _
    refine XS.istoreN X0.here hx rfl (hb hby d3_2) rfl (l' := #[oR r0, oI 4, oU, oU, oU, oU, oU, oU, oU]) rfl ?_
    show oP p e below s₁ (mkF m 3 #[oR r0, oI 4, oU, oU, oU, oU, oU, oU, oU] []) _
    refine XS.iloadN X0.here hx rfl (hb hby d3_3) rfl ?_
    refine XS.ifNo X0.here hx rfl (hb hby d3_4) rfl ((if0 _ _).trans (tlt (by decide : (0 : Int32) < (4 : Int32))).2.2.2) ?_
    show oP p e below s₁ (mkF m 7 #[oR r0, oI 4, oU, oU, oU, oU, oU, oU, oU] []) _
    refine XS.aloadN X0.here hx rfl (hb hby d3_7) rfl rfl ?_
    refine XS.iloadN X0.here hx rfl (hb hby d3_8) rfl ?_
    refine XS.iconst X0.here hx rfl (hb hby d3_9) ?_
    refine XS.isub X0.here hx rfl (hb hby d3_10) rfl ?_
    show oP p e below s₁ (mkF m 11 #[oR r0, oI 4, oU, oU, oU, oU, oU, oU, oU] [(.int 3), (.ref r0)]) _
    refine own_baload X0 hx hZ e0 V_r0 (j := (3 : Int32)) ⟨by decide, by decide⟩ (v := (.int (chv d3))) rfl (g := (mkF m 11 #[oR r0, oI 4, oU, oU, oU, oU, oU, oU, oU] [(.int 3), (.ref r0)])) rfl rfl (hb hby d3_11) _ ?_
    show oP p e below s₁ (mkF m 12 #[oR r0, oI 4, oU, oU, oU, oU, oU, oU, oU] [(.int (chv d3))]) _
    refine XS.bipush X0.here hx rfl (hb hby d3_12) ?_
    refine XS.icmpYes X0.here hx rfl (pc0 := 14) (pc' := 23) rfl (hb hby d3_14) rfl (feq (chv_ne hd3)).2 (by decide) (by decide) ?_
    show oP p e below s₁ (mkF m 23 #[oR r0, oI 4, oU, oU, oU, oU, oU, oU, oU] []) _
    refine XS.iloadN X0.here hx rfl (hb hby d3_23) rfl ?_
    refine XS.iconst X0.here hx rfl (hb hby d3_24) ?_
    refine XS.irem X0.here hx rfl (hb hby d3_25) rfl (by decide) ?_
    show oP p e below s₁ (mkF m 26 #[oR r0, oI 4, oU, oU, oU, oU, oU, oU, oU] [(.int 0)]) _
    refine XS.istoreN X0.here hx rfl (hb hby d3_26) rfl (l' := #[oR r0, oI 4, oI 0, oU, oU, oU, oU, oU, oU]) rfl ?_
    show oP p e below s₁ (mkF m 27 #[oR r0, oI 4, oI 0, oU, oU, oU, oU, oU, oU] []) _
    refine XS.aloadN X0.here hx rfl (hb hby d3_27) rfl rfl ?_
    show oP p e below s₁ (mkF m 28 #[oR r0, oI 4, oI 0, oU, oU, oU, oU, oU, oU] [(.ref r0)]) _
    refine own_len X0 hx hZ e0 V_r0 (g := (mkF m 28 #[oR r0, oI 4, oI 0, oU, oU, oU, oU, oU, oU] [(.ref r0)])) rfl rfl (hb hby d3_28) _ ?_
    show oP p e below s₁ (mkF m 29 #[oR r0, oI 4, oI 0, oU, oU, oU, oU, oU, oU] [(.int 4)]) _
    refine XS.iloadN X0.here hx rfl (hb hby d3_29) rfl ?_
    refine XS.isub X0.here hx rfl (hb hby d3_30) rfl ?_
    show oP p e below s₁ (mkF m 31 #[oR r0, oI 4, oI 0, oU, oU, oU, oU, oU, oU] [(.int 0)]) _
    refine XS.istoreN X0.here hx rfl (hb hby d3_31) rfl (l' := #[oR r0, oI 4, oI 0, oI 0, oU, oU, oU, oU, oU]) rfl ?_
    show oP p e below s₁ (mkF m 32 #[oR r0, oI 4, oI 0, oI 0, oU, oU, oU, oU, oU] []) _
    refine XS.iloadN X0.here hx rfl (hb hby d3_32) rfl ?_
    refine XS.iconst X0.here hx rfl (hb hby d3_33) ?_
    refine XS.icmpYes X0.here hx rfl (pc0 := 34) (pc' := 47) rfl (hb hby d3_34) rfl (feq (by decide : ¬ ((0 : Int32) = (1 : Int32)))).2 (by decide) (by decide) ?_
    show oP p e below s₁ (mkF m 47 #[oR r0, oI 4, oI 0, oI 0, oU, oU, oU, oU, oU] []) _
    refine XS.iloadN X0.here hx rfl (hb hby d3_47) rfl ?_
    refine XS.ifYes X0.here hx rfl (pc0 := 48) (pc' := 72) rfl (hb hby d3_48) rfl ((if0 _ _).trans (flt (by decide : ¬ ((0 : Int32) < (0 : Int32)))).2.2.2) (by decide) (by decide) ?_
    show oP p e below s₁ (mkF m 72 #[oR r0, oI 4, oI 0, oI 0, oU, oU, oU, oU, oU] []) _
    refine XS.iloadN X0.here hx rfl (hb hby d3_72) rfl ?_
    refine XS.iconst X0.here hx rfl (hb hby d3_73) ?_
    refine XS.idiv X0.here hx rfl (hb hby d3_74) rfl (by decide) ?_
    show oP p e below s₁ (mkF m 75 #[oR r0, oI 4, oI 0, oI 0, oU, oU, oU, oU, oU] [(.int 1)]) _
    refine XS.iconst X0.here hx rfl (hb hby d3_75) ?_
    refine XS.imul X0.here hx rfl (hb hby d3_76) rfl ?_
    show oP p e below s₁ (mkF m 77 #[oR r0, oI 4, oI 0, oI 0, oU, oU, oU, oU, oU] [(.int 3)]) _
    refine XS.iconst X0.here hx rfl (hb hby d3_77) ?_
    refine XS.iloadN X0.here hx rfl (hb hby d3_78) rfl ?_
    refine XS.iconst X0.here hx rfl (hb hby d3_79) ?_
    refine XS.isub X0.here hx rfl (hb hby d3_80) rfl ?_
    show oP p e below s₁ (mkF m 81 #[oR r0, oI 4, oI 0, oI 0, oU, oU, oU, oU, oU] [(.int (-1)), (.int 0), (.int 3)]) _
    refine st119 _ ?_
    show oP p e below T119 (mkF m 84 #[oR r0, oI 4, oI 0, oI 0, oU, oU, oU, oU, oU] [(.int 0), (.int 3)]) _
    refine XS.iadd X119.here hx rfl (hb hby d3_84) rfl ?_
    show oP p e below T119 (mkF m 85 #[oR r0, oI 4, oI 0, oI 0, oU, oU, oU, oU, oU] [(.int 3)]) _
    refine st120 _ ?_
    show oP p e below T120 (mkF m 87 #[oR r0, oI 4, oI 0, oI 0, oU, oU, oU, oU, oU] [(.ref b120)]) _
    refine XS.astore X120.here hx rfl (hb hby d3_87) rfl rfl (l' := #[oR r0, oI 4, oI 0, oI 0, oR b120, oU, oU, oU, oU]) rfl ?_
    show oP p e below T120 (mkF m 89 #[oR r0, oI 4, oI 0, oI 0, oR b120, oU, oU, oU, oU] []) _
    refine XS.iconst X120.here hx rfl (hb hby d3_89) ?_
    refine XS.istore X120.here hx rfl (hb hby d3_90) rfl (l' := #[oR r0, oI 4, oI 0, oI 0, oR b120, oI 0, oU, oU, oU]) rfl ?_
    show oP p e below T120 (mkF m 92 #[oR r0, oI 4, oI 0, oI 0, oR b120, oI 0, oU, oU, oU] []) _
    refine XS.iloadN X120.here hx rfl (hb hby d3_92) rfl ?_
    refine XS.iloadN X120.here hx rfl (hb hby d3_93) rfl ?_
    refine XS.isub X120.here hx rfl (hb hby d3_94) rfl ?_
    show oP p e below T120 (mkF m 95 #[oR r0, oI 4, oI 0, oI 0, oR b120, oI 0, oU, oU, oU] [(.int 4)]) _
    refine XS.istore X120.here hx rfl (hb hby d3_95) rfl (l' := #[oR r0, oI 4, oI 0, oI 0, oR b120, oI 0, oI 4, oU, oU]) rfl ?_
    show oP p e below T120 (mkF m 97 #[oR r0, oI 4, oI 0, oI 0, oR b120, oI 0, oI 4, oU, oU] []) _
    refine XS.iconst X120.here hx rfl (hb hby d3_97) ?_
    refine XS.istore X120.here hx rfl (hb hby d3_98) rfl (l' := #[oR r0, oI 4, oI 0, oI 0, oR b120, oI 0, oI 4, oI 0, oU]) rfl ?_
    show oP p e below T120 (mkF m 100 #[oR r0, oI 4, oI 0, oI 0, oR b120, oI 0, oI 4, oI 0, oU] []) _
    refine st122 _ ?_
    show oP p e below T122 (mkF m 100 #[oR r0, oI 4, oI 0, oI 0, oR b120, oI 3, oI 4, oI 4, oI (grp d0 d1 d2 d3)] []) _
    refine XS.iload X122.here hx rfl (hb hby d3_100) rfl ?_
    show oP p e below T122 (mkF m 102 #[oR r0, oI 4, oI 0, oI 0, oR b120, oI 3, oI 4, oI 4, oI (grp d0 d1 d2 d3)] [(.int 4)]) _
    refine XS.iload X122.here hx rfl (hb hby d3_102) rfl ?_
    show oP p e below T122 (mkF m 104 #[oR r0, oI 4, oI 0, oI 0, oR b120, oI 3, oI 4, oI 4, oI (grp d0 d1 d2 d3)] [(.int 4), (.int 4)]) _
    refine XS.icmpYes X122.here hx rfl (pc0 := 104) (pc' := 233) rfl (hb hby d3_104) rfl (flt (by decide : ¬ ((4 : Int32) < (4 : Int32)))).2.1 (by decide) (by decide) ?_
    show oP p e below T122 (mkF m 233 #[oR r0, oI 4, oI 0, oI 0, oR b120, oI 3, oI 4, oI 4, oI (grp d0 d1 d2 d3)] []) _
    refine XS.iloadN X122.here hx rfl (hb hby d3_233) rfl ?_
    refine XS.iconst X122.here hx rfl (hb hby d3_234) ?_
    refine XS.icmpYes X122.here hx rfl (pc0 := 235) (pc' := 256) rfl (hb hby d3_235) rfl (feq (by decide : ¬ ((0 : Int32) = (2 : Int32)))).2 (by decide) (by decide) ?_
    show oP p e below T122 (mkF m 256 #[oR r0, oI 4, oI 0, oI 0, oR b120, oI 3, oI 4, oI 4, oI (grp d0 d1 d2 d3)] []) _
    refine XS.iloadN X122.here hx rfl (hb hby d3_256) rfl ?_
    refine XS.iconst X122.here hx rfl (hb hby d3_257) ?_
    refine XS.icmpYes X122.here hx rfl (pc0 := 258) (pc' := 294) rfl (hb hby d3_258) rfl (feq (by decide : ¬ ((0 : Int32) = (3 : Int32)))).2 (by decide) (by decide) ?_
    show oP p e below T122 (mkF m 294 #[oR r0, oI 4, oI 0, oI 0, oR b120, oI 3, oI 4, oI 4, oI (grp d0 d1 d2 d3)] []) _
    refine XS.aload X122.here hx rfl (hb hby d3_294) rfl rfl ?_
    show oP p e below T122 (mkF m 296 #[oR r0, oI 4, oI 0, oI 0, oR b120, oI 3, oI 4, oI 4, oI (grp d0 d1 d2 d3)] [(.ref b120)]) _
    exact own_retA X122 hx Bd.returns rfl rfl (hb hby d3_296) hr
  · show ∃ (b : Addr), ∃ (kb : ClassId), (some (.ref b120) : Option Value) = some (.ref b) ∧ Fr n0 _ ∧ Keep h0 T122.heap [] ∧ h0.size ≤ b ∧ Arv Z T122.heap b kb .byte (3 : Int32) [(.int ((((grp d0 d1 d2 d3) >>> ((16 : Int32) &&& 31)).toInt8.toInt32).toInt8.toInt32)), (.int ((((grp d0 d1 d2 d3) >>> ((8 : Int32) &&& 31)).toInt8.toInt32).toInt8.toInt32)), (.int (((grp d0 d1 d2 d3).toInt8.toInt32).toInt8.toInt32))] (.int 0)
    rw [e122]
    exact ⟨b120, k120, rfl, N122, Kc122, sz_b120, V122⟩
theorem ef_3x120 (m : MethodId) (x0 : Addr) : entryFrame m #[(.ref x0)] 9 = mkF m 0 #[.val (.ref x0), .unset, .unset, .unset, .unset, .unset, .unset, .unset, .unset] [] := by first | (simp [entryFrame, mkF, argsToLocals, Value.category]; done) | rfl
set_option maxRecDepth 65536 in
set_option maxHeartbeats 40000000 in
theorem rm3x120 (l : Launch) (Z : State) (a0 : Array Value) (hw : ∀ d ∈ tables_1, d.before a0 Z = true) (hS : St Z) (ws : List Jvm.Cond) (r0 : Addr) (k : ClassId) (d0 : Int32) (d1 : Int32) (d2 : Int32) (d3 : Int32) (d4 : Int32) (d5 : Int32) (r6_ : Value) (r7_ : Value) (r8_ : Value) (r9_ : Value) (r10_ : Value) (r11_ : Value) (h0 : Heap) (n0 : Nat) (O0 : Old Z n0 h0) (V_r0 : Arv Z h0 r0 k .byte (6 : Int32) [(.int (chv d0)), (.int (chv d1)), (.int (chv d2)), (.int (chv d3)), (.int (chv d4)), (.int (chv d5)), r6_, r7_, r8_, r9_, r10_, r11_] (.int 0)) (hd0 : Dg d0) (hd1 : Dg d1) (hd2 : Dg d2) (hd3 : Dg d3) (hd4 : Dg d4) (hd5 : Dg d5) :
    MetFree l (⟨"com/example/meerkat/meerkat/Base64Codec", "decode", "([B)[B"⟩ : MethodName) (head1 (Jvm.Cond.code (⟨"com/example/meerkat/meerkat/Base64Codec", "decode", "([B)[B"⟩ : MethodName) prog_8_method_3_code 9 (some (.array .byte)) :: ws) ({ frames := 2, cells := 1, slots := 8, locals := 60 } : Room)) (fun a U => a = #[(.ref r0)] ∧ Z.Warmed39 U.vm ∧ U.heap = h0) (fun _ _ _ _ _ => True) (fun _ U o U' => ∃ v L, o = .returned v ∧ own_Q (fun v hE L => ∃ (b : Addr), ∃ (kb : ClassId), v = some (.ref b) ∧ Fr n0 L ∧ Keep h0 hE [] ∧ h0.size ≤ b ∧ Arv Z hE b kb .byte (4 : Int32) [(.int ((((grp d0 d1 d2 d3) >>> ((16 : Int32) &&& 31)).toInt8.toInt32).toInt8.toInt32)), (.int ((((grp d0 d1 d2 d3) >>> ((8 : Int32) &&& 31)).toInt8.toInt32).toInt8.toInt32)), (.int (((grp d0 d1 d2 d3).toInt8.toInt32).toInt8.toInt32)), (.int ((((((((0 : Int32) <<< ((6 : Int32) &&& 31)) ||| d4) <<< ((6 : Int32) &&& 31)) ||| d5) >>> ((4 : Int32) &&& 31)).toInt8.toInt32).toInt8.toInt32))] (.int 0)) v U'.heap L ∧ FrameEnd U o U' L ({ frames := 2, cells := 1, slots := 8, locals := 60 } : Room).cells ({ frames := 2, cells := 1, slots := 8, locals := 60 } : Room).slots) := by
  refine MetFree.of_bodySF (plainFor_of_name pn_1) hisR ?_
  intro p e s m args below meth c s₁ Bd hml0 hP hK
  obtain ⟨rfl, hZ, hh⟩ := hP
  have hx := Bd.exec
  have hby := Bd.bytes
  have hml : c.maxLocals = 9 := hml0
  have hown : s.vm.findClass "com/example/meerkat/meerkat/Base64Codec" = some m.cls := findClass_of_methodNamed Bd.named
  have hnm := (name_of_methodNamed Bd.named Bd.method).1
  have X0 : Stand p l e ({ frames := 2, cells := 1, slots := 8, locals := 60 } : Room) s m #[(.ref r0)] below meth c s₁ [] 0 0 := Stand.of_body Bd
  have e0 : s₁.heap = h0 := by rw [← hh, Bd.state]; rfl
  have N0 := Fr.nil n0
  have pre0 : ∀ t, Steps p.tables e below (s₁.setTop (mkF m 0 #[oR r0, oU, oU, oU, oU, oU, oU, oU, oU] [])) t → Steps p.tables e below (s₁.setTop (entryFrame m #[(.ref r0)] 9)) t := fun t k => castTop (ef_3x120 m r0) k
  obtain ⟨_, _, ⟨T123, L123, k123, n123⟩, -, X123, ⟨Lc123, hQ123, l123, y123, z123⟩, st123⟩ := Jvm.LawKit.callS X0 hx (y := (⟨"java/lang/Math", "max", "(II)I"⟩ : MethodName)) hown (mvT hZ (wi hw 12 rfl)) (mvT hZ (wi hw 13 rfl)) (mvT hZ (wi hw 14 rfl)) (mvT hZ (wi hw 15 rfl)) (by decide) (backOf (W := 1) (rm4 l Z a0 hw hS [] (0 : Int32) (1 : Int32) h0 n0 O0) hZ (wi hw 15 rfl) (wi hw 14 rfl) (by decide) (by decide)) (g := (mkF m 81 #[oR r0, oI 6, oI 2, oI 0, oU, oU, oU, oU, oU] [(.int 1), (.int 0), (.int 3)])) rfl (by rw [hml]; rfl) (argsL := [(.int 0), (.int 1)]) (rest := [(.int 3)]) (lenOf pd_3 rfl) rfl (by show 2 * 0 + _ ≤ _; exact Nat.le_of_eq rfl) (hb hby d3_81) (fun _ _ => ⟨rfl, e0, (by decide : 0 + 0 ≤ _), (by decide : 0 + 0 ≤ _)⟩)
  dsimp only [Pt.U, Pt.locs, Pt.cells, Pt.slots] at X123 l123 y123 z123 st123 hQ123
  subst l123 y123 z123
  obtain ⟨v123, N123q, h123q⟩ := hQ123
  have w123 : (fn4 Z (0 : Int32) (1 : Int32)) = (1 : Int32) := by unfold fn4; rw [if_pos (by decide : (0 : Int32) < (1 : Int32))]; all_goals first | rfl | decide
  rw [w123] at v123
  subst v123
  have N123 := Fr.app N0 N123q
  obtain ⟨T124, h124, k124, X124, e124, E124, A124, st124⟩ := newP X123 hx hZ (wi hw 0 rfl) h123q (g := (mkF m 85 #[oR r0, oI 6, oI 2, oI 0, oU, oU, oU, oU, oU] [(.int 4)])) rfl (hb hby d3_85) rfl (by decide) (cap := 4) (by decide) (by decide) (by decide) (by decide)
  obtain ⟨b124, g124⟩ : ∃ z, z = h0.size := ⟨_, rfl⟩
  have g_b124 : n0 ≤ b124 := Nat.le_trans (own_old_le O0) (Nat.le_of_eq g124.symm)
  have sz_b124 : h0.size ≤ b124 := Nat.le_trans (Keep.refl h0 []).1 (Nat.le_of_eq g124.symm)
  have ne_r0_b124 : r0 ≠ b124 := Nat.ne_of_lt (Nat.lt_of_lt_of_le V_r0.lt (Nat.le_of_eq g124.symm))
  rw [← g124] at A124 st124
  have O124 := O0.ext E124
  have Kc124 := (Keep.refl h0 []).ext E124
  have V124 : Arv Z h124 b124 k124 .byte (4 : Int32) [(.int 0), (.int 0), (.int 0), (.int 0)] (.int 0) := (Arv.new A124 (by decide)).pad (pad_rep [] (.int 0) 4)
  have fx125 := (V_r0.ext E124)
  obtain ⟨T126, h126, lc126, X126, e126, N126, K126q, V126', st126⟩ := tn3_0 Z a0 hw hS r0 b124 (6 : Int32) (2 : Int32) (0 : Int32) (4 : Int32) k (6 : Int32) [(.int (chv d0)), (.int (chv d1)), (.int (chv d2)), (.int (chv d3)), (.int (chv d4)), (.int (chv d5)), r6_, r7_, r8_, r9_, r10_, r11_] k124 (4 : Int32) [(.int 0), (.int 0), (.int 0), (.int 0)] d0 d1 d2 d3 h124 n0 O124 fx125 V124 g_b124 ne_r0_b124 hd0 hd1 hd2 hd3 rfl rfl rfl rfl ⟨by decide, by decide⟩ ⟨by decide, by decide⟩ ⟨by decide, by decide⟩ ⟨by decide, by decide⟩ ⟨by decide, by decide⟩ ⟨by decide, by decide⟩ ⟨by decide, by decide⟩ (Nat.le_of_ble_eq_true rfl) (Nat.le_of_ble_eq_true rfl) (Nat.le_of_ble_eq_true rfl) (by decide) X124 hx hZ hby hml hown e124 N123
  have O126 := O124.keep K126q (allS g_b124 all0)
  have Kc126 := Kc124.trans K126q (allS (Or.inr sz_b124) all0)
  have V126 : Arv Z h126 b124 k124 .byte (4 : Int32) [(.int ((((grp d0 d1 d2 d3) >>> ((16 : Int32) &&& 31)).toInt8.toInt32).toInt8.toInt32)), (.int ((((grp d0 d1 d2 d3) >>> ((8 : Int32) &&& 31)).toInt8.toInt32).toInt8.toInt32)), (.int (((grp d0 d1 d2 d3).toInt8.toInt32).toInt8.toInt32)), (.int 0)] (.int 0) := V126'
  have fx128 := (fx125.keep K126q (ninS ne_r0_b124 nin0))
  obtain ⟨_, _, ⟨T127, L127, k127, n127⟩, -, X127, ⟨Lc127, hQ127, l127, y127, z127⟩, st127⟩ := Jvm.LawKit.callS X126 hx (y := (⟨"com/example/meerkat/meerkat/Base64Codec", "bitsOf", "([BII)I"⟩ : MethodName)) hown (mvT hZ (wi hw 28 rfl)) (mvT hZ (wi hw 29 rfl)) (mvT hZ (wi hw 10 rfl)) (mvT hZ (wi hw 30 rfl)) (by decide) (backOf (W := 2) (rm8b1_2 l Z a0 hw hS [] r0 k (6 : Int32) [(.int (chv d0)), (.int (chv d1)), (.int (chv d2)), (.int (chv d3)), (.int (chv d4)), (.int (chv d5)), r6_, r7_, r8_, r9_, r10_, r11_] d4 d5 h126 n0 O126 fx128 hd4 hd5 rfl rfl ⟨by decide, by decide⟩ ⟨by decide, by decide⟩) hZ (wi hw 30 rfl) (wi hw 10 rfl) (by decide) (by decide)) (g := (mkF m 246 #[oR r0, oI 6, oI 2, oI 0, oR b124, oI 3, oI 4, oI 4, oI (grp d0 d1 d2 d3)] [(.int 2), (.int 4), (.ref r0), (.int 3), (.ref b124)])) rfl (by rw [hml]; rfl) (argsL := [(.ref r0), (.int 4), (.int 2)]) (rest := [(.int 3), (.ref b124)]) (lenOf pd_4 rfl) rfl (by show 2 * 0 + _ ≤ _; exact Nat.le_of_eq rfl) (hb hby d3_246) (fun _ _ => ⟨rfl, e126, (by decide : 1 + 0 ≤ _), (by decide : 4 + 0 ≤ _)⟩)
  dsimp only [Pt.U, Pt.locs, Pt.cells, Pt.slots] at X127 l127 y127 z127 st127 hQ127
  subst l127 y127 z127
  obtain ⟨v127, N127q, K127q⟩ := hQ127
  have w127 : (fn8b1_2 Z r0 k (6 : Int32) [(.int (chv d0)), (.int (chv d1)), (.int (chv d2)), (.int (chv d3)), (.int (chv d4)), (.int (chv d5)), r6_, r7_, r8_, r9_, r10_, r11_] d4 d5) = (((((0 : Int32) <<< ((6 : Int32) &&& 31)) ||| d4) <<< ((6 : Int32) &&& 31)) ||| d5) := rfl
  rw [w127] at v127
  subst v127
  have N127 := Fr.app N126 N127q
  have O127 := O126.keep K127q all0
  have Kc127 := Kc126.trans K127q all0
  have fx130 := (V126.keep K127q nin0)
  obtain ⟨T129, h129, X129, e129, W129, V129', st129⟩ := own_stB X127 hx hZ rfl fx130 (j := (3 : Int32)) ⟨by decide, by decide⟩ rfl (by decide : ((3 : Int32) : Int32).toNatClampNeg < 4) (g := (mkF m 252 #[oR r0, oI 6, oI 2, oI 0, oR b124, oI 3, oI 4, oI 4, oI (grp d0 d1 d2 d3)] [(.int (((((((0 : Int32) <<< ((6 : Int32) &&& 31)) ||| d4) <<< ((6 : Int32) &&& 31)) ||| d5) >>> ((4 : Int32) &&& 31)).toInt8.toInt32)), (.int 3), (.ref b124)])) rfl rfl (hb hby d3_252)
  have N129 := Fr.snoc X129 N127 g_b124
  have O129 := O127.wr W129 g_b124
  have Kc129 := Kc127.wr W129 (Or.inr sz_b124)
  have V129 : Arv Z h129 b124 k124 .byte (4 : Int32) [(.int ((((grp d0 d1 d2 d3) >>> ((16 : Int32) &&& 31)).toInt8.toInt32).toInt8.toInt32)), (.int ((((grp d0 d1 d2 d3) >>> ((8 : Int32) &&& 31)).toInt8.toInt32).toInt8.toInt32)), (.int (((grp d0 d1 d2 d3).toInt8.toInt32).toInt8.toInt32)), (.int ((((((((0 : Int32) <<< ((6 : Int32) &&& 31)) ||| d4) <<< ((6 : Int32) &&& 31)) ||| d5) >>> ((4 : Int32) &&& 31)).toInt8.toInt32).toInt8.toInt32))] (.int 0) := V129'
  obtain ⟨fs, hr, hrun, hended, hW, hsame⟩ := X129.leave (v := some (.ref b124)) (fun h => by rw [Bd.returns] at h; cases h)
  refine ⟨_, _, pre0 _ ?_, hrun, hended, _, _, rfl, ?_, ⟨_, rfl⟩, hW, hsame.mono (by decide) (by decide)⟩
  · show oP p e below s₁ (mkF m 0 #[oR r0, oU, oU, oU, oU, oU, oU, oU, oU] []) _
    refine XS.aloadN X0.here hx rfl (hb hby d3_0) rfl rfl ?_
    show oP p e below s₁ (mkF m 1 #[oR r0, oU, oU, oU, oU, oU, oU, oU, oU] [(.ref r0)]) _
    refine own_len X0 hx hZ e0 V_r0 (g := (mkF m 1 #[oR r0, oU, oU, oU, oU, oU, oU, oU, oU] [(.ref r0)])) rfl rfl (hb hby d3_1) _ ?_
    show oP p e below s₁ (mkF m 2 #[oR r0, oU, oU, oU, oU, oU, oU, oU, oU] [(.int 6)]) _
    refine XS.istoreN X0.here hx rfl (hb hby d3_2) rfl (l' := #[oR r0, oI 6, oU, oU, oU, oU, oU, oU, oU]) rfl ?_
    show oP p e below s₁ (mkF m 3 #[oR r0, oI 6, oU, oU, oU, oU, oU, oU, oU] []) _
    refine XS.iloadN X0.here hx rfl (hb hby d3_3) rfl ?_
    refine XS.ifNo X0.here hx rfl (hb hby d3_4) rfl ((if0 _ _).trans (tlt (by decide : (0 : Int32) < (6 : Int32))).2.2.2) ?_
    show oP p e below s₁ (mkF m 7 #[oR r0, oI 6, oU, oU, oU, oU, oU, oU, oU] []) _
    refine XS.aloadN X0.here hx rfl (hb hby d3_7) rfl rfl ?_
    refine XS.iloadN X0.here hx rfl (hb hby d3_8) rfl ?_
    refine XS.iconst X0.here hx rfl (hb hby d3_9) ?_
    refine XS.isub X0.here hx rfl (hb hby d3_10) rfl ?_
    show oP p e below s₁ (mkF m 11 #[oR r0, oI 6, oU, oU, oU, oU, oU, oU, oU] [(.int 5), (.ref r0)]) _
    refine own_baload X0 hx hZ e0 V_r0 (j := (5 : Int32)) ⟨by decide, by decide⟩ (v := (.int (chv d5))) rfl (g := (mkF m 11 #[oR r0, oI 6, oU, oU, oU, oU, oU, oU, oU] [(.int 5), (.ref r0)])) rfl rfl (hb hby d3_11) _ ?_
    show oP p e below s₁ (mkF m 12 #[oR r0, oI 6, oU, oU, oU, oU, oU, oU, oU] [(.int (chv d5))]) _
    refine XS.bipush X0.here hx rfl (hb hby d3_12) ?_
    refine XS.icmpYes X0.here hx rfl (pc0 := 14) (pc' := 23) rfl (hb hby d3_14) rfl (feq (chv_ne hd5)).2 (by decide) (by decide) ?_
    show oP p e below s₁ (mkF m 23 #[oR r0, oI 6, oU, oU, oU, oU, oU, oU, oU] []) _
    refine XS.iloadN X0.here hx rfl (hb hby d3_23) rfl ?_
    refine XS.iconst X0.here hx rfl (hb hby d3_24) ?_
    refine XS.irem X0.here hx rfl (hb hby d3_25) rfl (by decide) ?_
    show oP p e below s₁ (mkF m 26 #[oR r0, oI 6, oU, oU, oU, oU, oU, oU, oU] [(.int 2)]) _
    refine XS.istoreN X0.here hx rfl (hb hby d3_26) rfl (l' := #[oR r0, oI 6, oI 2, oU, oU, oU, oU, oU, oU]) rfl ?_
    show oP p e below s₁ (mkF m 27 #[oR r0, oI 6, oI 2, oU, oU, oU, oU, oU, oU] []) _
    refine XS.aloadN X0.here hx rfl (hb hby d3_27) rfl rfl ?_
    show oP p e below s₁ (mkF m 28 #[oR r0, oI 6, oI 2, oU, oU, oU, oU, oU, oU] [(.ref r0)]) _
    refine own_len X0 hx hZ e0 V_r0 (g := (mkF m 28 #[oR r0, oI 6, oI 2, oU, oU, oU, oU, oU, oU] [(.ref r0)])) rfl rfl (hb hby d3_28) _ ?_
    show oP p e below s₁ (mkF m 29 #[oR r0, oI 6, oI 2, oU, oU, oU, oU, oU, oU] [(.int 6)]) _
    refine XS.iloadN X0.here hx rfl (hb hby d3_29) rfl ?_
    refine XS.isub X0.here hx rfl (hb hby d3_30) rfl ?_
    show oP p e below s₁ (mkF m 31 #[oR r0, oI 6, oI 2, oU, oU, oU, oU, oU, oU] [(.int 0)]) _
    refine XS.istoreN X0.here hx rfl (hb hby d3_31) rfl (l' := #[oR r0, oI 6, oI 2, oI 0, oU, oU, oU, oU, oU]) rfl ?_
    show oP p e below s₁ (mkF m 32 #[oR r0, oI 6, oI 2, oI 0, oU, oU, oU, oU, oU] []) _
    refine XS.iloadN X0.here hx rfl (hb hby d3_32) rfl ?_
    refine XS.iconst X0.here hx rfl (hb hby d3_33) ?_
    refine XS.icmpYes X0.here hx rfl (pc0 := 34) (pc' := 47) rfl (hb hby d3_34) rfl (feq (by decide : ¬ ((2 : Int32) = (1 : Int32)))).2 (by decide) (by decide) ?_
    show oP p e below s₁ (mkF m 47 #[oR r0, oI 6, oI 2, oI 0, oU, oU, oU, oU, oU] []) _
    refine XS.iloadN X0.here hx rfl (hb hby d3_47) rfl ?_
    refine XS.ifYes X0.here hx rfl (pc0 := 48) (pc' := 72) rfl (hb hby d3_48) rfl ((if0 _ _).trans (flt (by decide : ¬ ((0 : Int32) < (0 : Int32)))).2.2.2) (by decide) (by decide) ?_
    show oP p e below s₁ (mkF m 72 #[oR r0, oI 6, oI 2, oI 0, oU, oU, oU, oU, oU] []) _
    refine XS.iloadN X0.here hx rfl (hb hby d3_72) rfl ?_
    refine XS.iconst X0.here hx rfl (hb hby d3_73) ?_
    refine XS.idiv X0.here hx rfl (hb hby d3_74) rfl (by decide) ?_
    show oP p e below s₁ (mkF m 75 #[oR r0, oI 6, oI 2, oI 0, oU, oU, oU, oU, oU] [(.int 1)]) _
    refine XS.iconst X0.here hx rfl (hb hby d3_75) ?_
    refine XS.imul X0.here hx rfl (hb hby d3_76) rfl ?_
    show oP p e below s₁ (mkF m 77 #[oR r0, oI 6, oI 2, oI 0, oU, oU, oU, oU, oU] [(.int 3)]) _
    refine XS.iconst X0.here hx rfl (hb hby d3_77) ?_
    refine XS.iloadN X0.here hx rfl (hb hby d3_78) rfl ?_
    refine XS.iconst X0.here hx rfl (hb hby d3_79) ?_
    refine XS.isub X0.here hx rfl (hb hby d3_80) rfl ?_
    show oP p e below s₁ (mkF m 81 #[oR r0, oI 6, oI 2, oI 0, oU, oU, oU, oU, oU] [(.int 1), (.int 0), (.int 3)]) _
    refine st123 _ ?_
    show oP p e below T123 (mkF m 84 #[oR r0, oI 6, oI 2, oI 0, oU, oU, oU, oU, oU] [(.int 1), (.int 3)]) _
    refine XS.iadd X123.here hx rfl (hb hby d3_84) rfl ?_
    show oP p e below T123 (mkF m 85 #[oR r0, oI 6, oI 2, oI 0, oU, oU, oU, oU, oU] [(.int 4)]) _
    refine st124 _ ?_
    show oP p e below T124 (mkF m 87 #[oR r0, oI 6, oI 2, oI 0, oU, oU, oU, oU, oU] [(.ref b124)]) _
    refine XS.astore X124.here hx rfl (hb hby d3_87) rfl rfl (l' := #[oR r0, oI 6, oI 2, oI 0, oR b124, oU, oU, oU, oU]) rfl ?_
    show oP p e below T124 (mkF m 89 #[oR r0, oI 6, oI 2, oI 0, oR b124, oU, oU, oU, oU] []) _
    refine XS.iconst X124.here hx rfl (hb hby d3_89) ?_
    refine XS.istore X124.here hx rfl (hb hby d3_90) rfl (l' := #[oR r0, oI 6, oI 2, oI 0, oR b124, oI 0, oU, oU, oU]) rfl ?_
    show oP p e below T124 (mkF m 92 #[oR r0, oI 6, oI 2, oI 0, oR b124, oI 0, oU, oU, oU] []) _
    refine XS.iloadN X124.here hx rfl (hb hby d3_92) rfl ?_
    refine XS.iloadN X124.here hx rfl (hb hby d3_93) rfl ?_
    refine XS.isub X124.here hx rfl (hb hby d3_94) rfl ?_
    show oP p e below T124 (mkF m 95 #[oR r0, oI 6, oI 2, oI 0, oR b124, oI 0, oU, oU, oU] [(.int 4)]) _
    refine XS.istore X124.here hx rfl (hb hby d3_95) rfl (l' := #[oR r0, oI 6, oI 2, oI 0, oR b124, oI 0, oI 4, oU, oU]) rfl ?_
    show oP p e below T124 (mkF m 97 #[oR r0, oI 6, oI 2, oI 0, oR b124, oI 0, oI 4, oU, oU] []) _
    refine XS.iconst X124.here hx rfl (hb hby d3_97) ?_
    refine XS.istore X124.here hx rfl (hb hby d3_98) rfl (l' := #[oR r0, oI 6, oI 2, oI 0, oR b124, oI 0, oI 4, oI 0, oU]) rfl ?_
    show oP p e below T124 (mkF m 100 #[oR r0, oI 6, oI 2, oI 0, oR b124, oI 0, oI 4, oI 0, oU] []) _
    refine st126 _ ?_
    show oP p e below T126 (mkF m 100 #[oR r0, oI 6, oI 2, oI 0, oR b124, oI 3, oI 4, oI 4, oI (grp d0 d1 d2 d3)] []) _
    refine XS.iload X126.here hx rfl (hb hby d3_100) rfl ?_
    show oP p e below T126 (mkF m 102 #[oR r0, oI 6, oI 2, oI 0, oR b124, oI 3, oI 4, oI 4, oI (grp d0 d1 d2 d3)] [(.int 4)]) _
    refine XS.iload X126.here hx rfl (hb hby d3_102) rfl ?_
    show oP p e below T126 (mkF m 104 #[oR r0, oI 6, oI 2, oI 0, oR b124, oI 3, oI 4, oI 4, oI (grp d0 d1 d2 d3)] [(.int 4), (.int 4)]) _
    refine XS.icmpYes X126.here hx rfl (pc0 := 104) (pc' := 233) rfl (hb hby d3_104) rfl (flt (by decide : ¬ ((4 : Int32) < (4 : Int32)))).2.1 (by decide) (by decide) ?_
    show oP p e below T126 (mkF m 233 #[oR r0, oI 6, oI 2, oI 0, oR b124, oI 3, oI 4, oI 4, oI (grp d0 d1 d2 d3)] []) _
    refine XS.iloadN X126.here hx rfl (hb hby d3_233) rfl ?_
    refine XS.iconst X126.here hx rfl (hb hby d3_234) ?_
    refine XS.icmpNo X126.here hx rfl (hb hby d3_235) rfl (teq (by decide : (2 : Int32) = (2 : Int32))).2 ?_
    show oP p e below T126 (mkF m 238 #[oR r0, oI 6, oI 2, oI 0, oR b124, oI 3, oI 4, oI 4, oI (grp d0 d1 d2 d3)] []) _
    refine XS.aload X126.here hx rfl (hb hby d3_238) rfl rfl ?_
    show oP p e below T126 (mkF m 240 #[oR r0, oI 6, oI 2, oI 0, oR b124, oI 3, oI 4, oI 4, oI (grp d0 d1 d2 d3)] [(.ref b124)]) _
    refine XS.iload X126.here hx rfl (hb hby d3_240) rfl ?_
    show oP p e below T126 (mkF m 242 #[oR r0, oI 6, oI 2, oI 0, oR b124, oI 3, oI 4, oI 4, oI (grp d0 d1 d2 d3)] [(.int 3), (.ref b124)]) _
    refine XS.aloadN X126.here hx rfl (hb hby d3_242) rfl rfl ?_
    refine XS.iload X126.here hx rfl (hb hby d3_243) rfl ?_
    show oP p e below T126 (mkF m 245 #[oR r0, oI 6, oI 2, oI 0, oR b124, oI 3, oI 4, oI 4, oI (grp d0 d1 d2 d3)] [(.int 4), (.ref r0), (.int 3), (.ref b124)]) _
    refine XS.iconst X126.here hx rfl (hb hby d3_245) ?_
    show oP p e below T126 (mkF m 246 #[oR r0, oI 6, oI 2, oI 0, oR b124, oI 3, oI 4, oI 4, oI (grp d0 d1 d2 d3)] [(.int 2), (.int 4), (.ref r0), (.int 3), (.ref b124)]) _
    refine st127 _ ?_
    show oP p e below T127 (mkF m 249 #[oR r0, oI 6, oI 2, oI 0, oR b124, oI 3, oI 4, oI 4, oI (grp d0 d1 d2 d3)] [(.int (((((0 : Int32) <<< ((6 : Int32) &&& 31)) ||| d4) <<< ((6 : Int32) &&& 31)) ||| d5)), (.int 3), (.ref b124)]) _
    refine XS.iconst X127.here hx rfl (hb hby d3_249) ?_
    refine XS.ishr X127.here hx rfl (hb hby d3_250) rfl ?_
    show oP p e below T127 (mkF m 251 #[oR r0, oI 6, oI 2, oI 0, oR b124, oI 3, oI 4, oI 4, oI (grp d0 d1 d2 d3)] [(.int ((((((0 : Int32) <<< ((6 : Int32) &&& 31)) ||| d4) <<< ((6 : Int32) &&& 31)) ||| d5) >>> ((4 : Int32) &&& 31))), (.int 3), (.ref b124)]) _
    refine XS.i2b X127.here hx rfl (hb hby d3_251) rfl ?_
    show oP p e below T127 (mkF m 252 #[oR r0, oI 6, oI 2, oI 0, oR b124, oI 3, oI 4, oI 4, oI (grp d0 d1 d2 d3)] [(.int (((((((0 : Int32) <<< ((6 : Int32) &&& 31)) ||| d4) <<< ((6 : Int32) &&& 31)) ||| d5) >>> ((4 : Int32) &&& 31)).toInt8.toInt32)), (.int 3), (.ref b124)]) _
    refine st129 _ ?_
    show oP p e below T129 (mkF m 253 #[oR r0, oI 6, oI 2, oI 0, oR b124, oI 3, oI 4, oI 4, oI (grp d0 d1 d2 d3)] []) _
    refine XS.goto X129.here hx rfl (pc0 := 253) (pc' := 294) rfl (hb hby d3_253) (by decide) (by decide) ?_
    show oP p e below T129 (mkF m 294 #[oR r0, oI 6, oI 2, oI 0, oR b124, oI 3, oI 4, oI 4, oI (grp d0 d1 d2 d3)] []) _
    refine XS.aload X129.here hx rfl (hb hby d3_294) rfl rfl ?_
    show oP p e below T129 (mkF m 296 #[oR r0, oI 6, oI 2, oI 0, oR b124, oI 3, oI 4, oI 4, oI (grp d0 d1 d2 d3)] [(.ref b124)]) _
    exact own_retA X129 hx Bd.returns rfl rfl (hb hby d3_296) hr
  · show ∃ (b : Addr), ∃ (kb : ClassId), (some (.ref b124) : Option Value) = some (.ref b) ∧ Fr n0 _ ∧ Keep h0 T129.heap [] ∧ h0.size ≤ b ∧ Arv Z T129.heap b kb .byte (4 : Int32) [(.int ((((grp d0 d1 d2 d3) >>> ((16 : Int32) &&& 31)).toInt8.toInt32).toInt8.toInt32)), (.int ((((grp d0 d1 d2 d3) >>> ((8 : Int32) &&& 31)).toInt8.toInt32).toInt8.toInt32)), (.int (((grp d0 d1 d2 d3).toInt8.toInt32).toInt8.toInt32)), (.int ((((((((0 : Int32) <<< ((6 : Int32) &&& 31)) ||| d4) <<< ((6 : Int32) &&& 31)) ||| d5) >>> ((4 : Int32) &&& 31)).toInt8.toInt32).toInt8.toInt32))] (.int 0)
    rw [e129]
    exact ⟨b124, k124, rfl, N129, Kc129, sz_b124, V129⟩
theorem ef_3x122 (m : MethodId) (x0 : Addr) : entryFrame m #[(.ref x0)] 9 = mkF m 0 #[.val (.ref x0), .unset, .unset, .unset, .unset, .unset, .unset, .unset, .unset] [] := by first | (simp [entryFrame, mkF, argsToLocals, Value.category]; done) | rfl
set_option maxRecDepth 65536 in
set_option maxHeartbeats 40000000 in
theorem rm3x122 (l : Launch) (Z : State) (a0 : Array Value) (hw : ∀ d ∈ tables_1, d.before a0 Z = true) (hS : St Z) (ws : List Jvm.Cond) (r0 : Addr) (k : ClassId) (d0 : Int32) (d1 : Int32) (d2 : Int32) (d3 : Int32) (d4 : Int32) (d5 : Int32) (r8_ : Value) (r9_ : Value) (r10_ : Value) (r11_ : Value) (h0 : Heap) (n0 : Nat) (O0 : Old Z n0 h0) (V_r0 : Arv Z h0 r0 k .byte (8 : Int32) [(.int (chv d0)), (.int (chv d1)), (.int (chv d2)), (.int (chv d3)), (.int (chv d4)), (.int (chv d5)), (.int 61), (.int 61), r8_, r9_, r10_, r11_] (.int 0)) (hd0 : Dg d0) (hd1 : Dg d1) (hd2 : Dg d2) (hd3 : Dg d3) (hd4 : Dg d4) (hd5 : Dg d5) :
    MetFree l (⟨"com/example/meerkat/meerkat/Base64Codec", "decode", "([B)[B"⟩ : MethodName) (head1 (Jvm.Cond.code (⟨"com/example/meerkat/meerkat/Base64Codec", "decode", "([B)[B"⟩ : MethodName) prog_8_method_3_code 9 (some (.array .byte)) :: ws) ({ frames := 2, cells := 1, slots := 8, locals := 60 } : Room)) (fun a U => a = #[(.ref r0)] ∧ Z.Warmed39 U.vm ∧ U.heap = h0) (fun _ _ _ _ _ => True) (fun _ U o U' => ∃ v L, o = .returned v ∧ own_Q (fun v hE L => ∃ (b : Addr), ∃ (kb : ClassId), v = some (.ref b) ∧ Fr n0 L ∧ Keep h0 hE [] ∧ h0.size ≤ b ∧ Arv Z hE b kb .byte (4 : Int32) [(.int ((((grp d0 d1 d2 d3) >>> ((16 : Int32) &&& 31)).toInt8.toInt32).toInt8.toInt32)), (.int ((((grp d0 d1 d2 d3) >>> ((8 : Int32) &&& 31)).toInt8.toInt32).toInt8.toInt32)), (.int (((grp d0 d1 d2 d3).toInt8.toInt32).toInt8.toInt32)), (.int ((((((((0 : Int32) <<< ((6 : Int32) &&& 31)) ||| d4) <<< ((6 : Int32) &&& 31)) ||| d5) >>> ((4 : Int32) &&& 31)).toInt8.toInt32).toInt8.toInt32))] (.int 0)) v U'.heap L ∧ FrameEnd U o U' L ({ frames := 2, cells := 1, slots := 8, locals := 60 } : Room).cells ({ frames := 2, cells := 1, slots := 8, locals := 60 } : Room).slots) := by
  refine MetFree.of_bodySF (plainFor_of_name pn_1) hisR ?_
  intro p e s m args below meth c s₁ Bd hml0 hP hK
  obtain ⟨rfl, hZ, hh⟩ := hP
  have hx := Bd.exec
  have hby := Bd.bytes
  have hml : c.maxLocals = 9 := hml0
  have hown : s.vm.findClass "com/example/meerkat/meerkat/Base64Codec" = some m.cls := findClass_of_methodNamed Bd.named
  have hnm := (name_of_methodNamed Bd.named Bd.method).1
  have X0 : Stand p l e ({ frames := 2, cells := 1, slots := 8, locals := 60 } : Room) s m #[(.ref r0)] below meth c s₁ [] 0 0 := Stand.of_body Bd
  have e0 : s₁.heap = h0 := by rw [← hh, Bd.state]; rfl
  have N0 := Fr.nil n0
  have pre0 : ∀ t, Steps p.tables e below (s₁.setTop (mkF m 0 #[oR r0, oU, oU, oU, oU, oU, oU, oU, oU] [])) t → Steps p.tables e below (s₁.setTop (entryFrame m #[(.ref r0)] 9)) t := fun t k => castTop (ef_3x122 m r0) k
  obtain ⟨_, _, ⟨T131, L131, k131, n131⟩, -, X131, ⟨Lc131, hQ131, l131, y131, z131⟩, st131⟩ := Jvm.LawKit.callS X0 hx (y := (⟨"java/lang/Math", "max", "(II)I"⟩ : MethodName)) hown (mvT hZ (wi hw 12 rfl)) (mvT hZ (wi hw 13 rfl)) (mvT hZ (wi hw 14 rfl)) (mvT hZ (wi hw 15 rfl)) (by decide) (backOf (W := 1) (rm4 l Z a0 hw hS [] (0 : Int32) (1 : Int32) h0 n0 O0) hZ (wi hw 15 rfl) (wi hw 14 rfl) (by decide) (by decide)) (g := (mkF m 81 #[oR r0, oI 6, oI 2, oI 2, oU, oU, oU, oU, oU] [(.int 1), (.int 0), (.int 3)])) rfl (by rw [hml]; rfl) (argsL := [(.int 0), (.int 1)]) (rest := [(.int 3)]) (lenOf pd_3 rfl) rfl (by show 2 * 0 + _ ≤ _; exact Nat.le_of_eq rfl) (hb hby d3_81) (fun _ _ => ⟨rfl, e0, (by decide : 0 + 0 ≤ _), (by decide : 0 + 0 ≤ _)⟩)
  dsimp only [Pt.U, Pt.locs, Pt.cells, Pt.slots] at X131 l131 y131 z131 st131 hQ131
  subst l131 y131 z131
  obtain ⟨v131, N131q, h131q⟩ := hQ131
  have w131 : (fn4 Z (0 : Int32) (1 : Int32)) = (1 : Int32) := by unfold fn4; rw [if_pos (by decide : (0 : Int32) < (1 : Int32))]; all_goals first | rfl | decide
  rw [w131] at v131
  subst v131
  have N131 := Fr.app N0 N131q
  obtain ⟨T132, h132, k132, X132, e132, E132, A132, st132⟩ := newP X131 hx hZ (wi hw 0 rfl) h131q (g := (mkF m 85 #[oR r0, oI 6, oI 2, oI 2, oU, oU, oU, oU, oU] [(.int 4)])) rfl (hb hby d3_85) rfl (by decide) (cap := 4) (by decide) (by decide) (by decide) (by decide)
  obtain ⟨b132, g132⟩ : ∃ z, z = h0.size := ⟨_, rfl⟩
  have g_b132 : n0 ≤ b132 := Nat.le_trans (own_old_le O0) (Nat.le_of_eq g132.symm)
  have sz_b132 : h0.size ≤ b132 := Nat.le_trans (Keep.refl h0 []).1 (Nat.le_of_eq g132.symm)
  have ne_r0_b132 : r0 ≠ b132 := Nat.ne_of_lt (Nat.lt_of_lt_of_le V_r0.lt (Nat.le_of_eq g132.symm))
  rw [← g132] at A132 st132
  have O132 := O0.ext E132
  have Kc132 := (Keep.refl h0 []).ext E132
  have V132 : Arv Z h132 b132 k132 .byte (4 : Int32) [(.int 0), (.int 0), (.int 0), (.int 0)] (.int 0) := (Arv.new A132 (by decide)).pad (pad_rep [] (.int 0) 4)
  have fx133 := (V_r0.ext E132)
  obtain ⟨T134, h134, lc134, X134, e134, N134, K134q, V134', st134⟩ := tn3_0 Z a0 hw hS r0 b132 (6 : Int32) (2 : Int32) (2 : Int32) (4 : Int32) k (8 : Int32) [(.int (chv d0)), (.int (chv d1)), (.int (chv d2)), (.int (chv d3)), (.int (chv d4)), (.int (chv d5)), (.int 61), (.int 61), r8_, r9_, r10_, r11_] k132 (4 : Int32) [(.int 0), (.int 0), (.int 0), (.int 0)] d0 d1 d2 d3 h132 n0 O132 fx133 V132 g_b132 ne_r0_b132 hd0 hd1 hd2 hd3 rfl rfl rfl rfl ⟨by decide, by decide⟩ ⟨by decide, by decide⟩ ⟨by decide, by decide⟩ ⟨by decide, by decide⟩ ⟨by decide, by decide⟩ ⟨by decide, by decide⟩ ⟨by decide, by decide⟩ (Nat.le_of_ble_eq_true rfl) (Nat.le_of_ble_eq_true rfl) (Nat.le_of_ble_eq_true rfl) (by decide) X132 hx hZ hby hml hown e132 N131
  have O134 := O132.keep K134q (allS g_b132 all0)
  have Kc134 := Kc132.trans K134q (allS (Or.inr sz_b132) all0)
  have V134 : Arv Z h134 b132 k132 .byte (4 : Int32) [(.int ((((grp d0 d1 d2 d3) >>> ((16 : Int32) &&& 31)).toInt8.toInt32).toInt8.toInt32)), (.int ((((grp d0 d1 d2 d3) >>> ((8 : Int32) &&& 31)).toInt8.toInt32).toInt8.toInt32)), (.int (((grp d0 d1 d2 d3).toInt8.toInt32).toInt8.toInt32)), (.int 0)] (.int 0) := V134'
  have fx136 := (fx133.keep K134q (ninS ne_r0_b132 nin0))
  obtain ⟨_, _, ⟨T135, L135, k135, n135⟩, -, X135, ⟨Lc135, hQ135, l135, y135, z135⟩, st135⟩ := Jvm.LawKit.callS X134 hx (y := (⟨"com/example/meerkat/meerkat/Base64Codec", "bitsOf", "([BII)I"⟩ : MethodName)) hown (mvT hZ (wi hw 28 rfl)) (mvT hZ (wi hw 29 rfl)) (mvT hZ (wi hw 10 rfl)) (mvT hZ (wi hw 30 rfl)) (by decide) (backOf (W := 2) (rm8b1_2 l Z a0 hw hS [] r0 k (8 : Int32) [(.int (chv d0)), (.int (chv d1)), (.int (chv d2)), (.int (chv d3)), (.int (chv d4)), (.int (chv d5)), (.int 61), (.int 61), r8_, r9_, r10_, r11_] d4 d5 h134 n0 O134 fx136 hd4 hd5 rfl rfl ⟨by decide, by decide⟩ ⟨by decide, by decide⟩) hZ (wi hw 30 rfl) (wi hw 10 rfl) (by decide) (by decide)) (g := (mkF m 246 #[oR r0, oI 6, oI 2, oI 2, oR b132, oI 3, oI 4, oI 4, oI (grp d0 d1 d2 d3)] [(.int 2), (.int 4), (.ref r0), (.int 3), (.ref b132)])) rfl (by rw [hml]; rfl) (argsL := [(.ref r0), (.int 4), (.int 2)]) (rest := [(.int 3), (.ref b132)]) (lenOf pd_4 rfl) rfl (by show 2 * 0 + _ ≤ _; exact Nat.le_of_eq rfl) (hb hby d3_246) (fun _ _ => ⟨rfl, e134, (by decide : 1 + 0 ≤ _), (by decide : 4 + 0 ≤ _)⟩)
  dsimp only [Pt.U, Pt.locs, Pt.cells, Pt.slots] at X135 l135 y135 z135 st135 hQ135
  subst l135 y135 z135
  obtain ⟨v135, N135q, K135q⟩ := hQ135
  have w135 : (fn8b1_2 Z r0 k (8 : Int32) [(.int (chv d0)), (.int (chv d1)), (.int (chv d2)), (.int (chv d3)), (.int (chv d4)), (.int (chv d5)), (.int 61), (.int 61), r8_, r9_, r10_, r11_] d4 d5) = (((((0 : Int32) <<< ((6 : Int32) &&& 31)) ||| d4) <<< ((6 : Int32) &&& 31)) ||| d5) := rfl
  rw [w135] at v135
  subst v135
  have N135 := Fr.app N134 N135q
  have O135 := O134.keep K135q all0
  have Kc135 := Kc134.trans K135q all0
  have fx138 := (V134.keep K135q nin0)
  obtain ⟨T137, h137, X137, e137, W137, V137', st137⟩ := own_stB X135 hx hZ rfl fx138 (j := (3 : Int32)) ⟨by decide, by decide⟩ rfl (by decide : ((3 : Int32) : Int32).toNatClampNeg < 4) (g := (mkF m 252 #[oR r0, oI 6, oI 2, oI 2, oR b132, oI 3, oI 4, oI 4, oI (grp d0 d1 d2 d3)] [(.int (((((((0 : Int32) <<< ((6 : Int32) &&& 31)) ||| d4) <<< ((6 : Int32) &&& 31)) ||| d5) >>> ((4 : Int32) &&& 31)).toInt8.toInt32)), (.int 3), (.ref b132)])) rfl rfl (hb hby d3_252)
  have N137 := Fr.snoc X137 N135 g_b132
  have O137 := O135.wr W137 g_b132
  have Kc137 := Kc135.wr W137 (Or.inr sz_b132)
  have V137 : Arv Z h137 b132 k132 .byte (4 : Int32) [(.int ((((grp d0 d1 d2 d3) >>> ((16 : Int32) &&& 31)).toInt8.toInt32).toInt8.toInt32)), (.int ((((grp d0 d1 d2 d3) >>> ((8 : Int32) &&& 31)).toInt8.toInt32).toInt8.toInt32)), (.int (((grp d0 d1 d2 d3).toInt8.toInt32).toInt8.toInt32)), (.int ((((((((0 : Int32) <<< ((6 : Int32) &&& 31)) ||| d4) <<< ((6 : Int32) &&& 31)) ||| d5) >>> ((4 : Int32) &&& 31)).toInt8.toInt32).toInt8.toInt32))] (.int 0) := V137'
  obtain ⟨fs, hr, hrun, hended, hW, hsame⟩ := X137.leave (v := some (.ref b132)) (fun h => by rw [Bd.returns] at h; cases h)
  refine ⟨_, _, pre0 _ ?_, hrun, hended, _, _, rfl, ?_, ⟨_, rfl⟩, hW, hsame.mono (by decide) (by decide)⟩
  · show oP p e below s₁ (mkF m 0 #[oR r0, oU, oU, oU, oU, oU, oU, oU, oU] []) _
    refine XS.aloadN X0.here hx rfl (hb hby d3_0) rfl rfl ?_
    show oP p e below s₁ (mkF m 1 #[oR r0, oU, oU, oU, oU, oU, oU, oU, oU] [(.ref r0)]) _
    refine own_len X0 hx hZ e0 V_r0 (g := (mkF m 1 #[oR r0, oU, oU, oU, oU, oU, oU, oU, oU] [(.ref r0)])) rfl rfl (hb hby d3_1) _ ?_
    show oP p e below s₁ (mkF m 2 #[oR r0, oU, oU, oU, oU, oU, oU, oU, oU] [(.int 8)]) _
    refine XS.istoreN X0.here hx rfl (hb hby d3_2) rfl (l' := #[oR r0, oI 8, oU, oU, oU, oU, oU, oU, oU]) rfl ?_
    show oP p e below s₁ (mkF m 3 #[oR r0, oI 8, oU, oU, oU, oU, oU, oU, oU] []) _
    refine XS.iloadN X0.here hx rfl (hb hby d3_3) rfl ?_
    refine XS.ifNo X0.here hx rfl (hb hby d3_4) rfl ((if0 _ _).trans (tlt (by decide : (0 : Int32) < (8 : Int32))).2.2.2) ?_
    show oP p e below s₁ (mkF m 7 #[oR r0, oI 8, oU, oU, oU, oU, oU, oU, oU] []) _
    refine XS.aloadN X0.here hx rfl (hb hby d3_7) rfl rfl ?_
    refine XS.iloadN X0.here hx rfl (hb hby d3_8) rfl ?_
    refine XS.iconst X0.here hx rfl (hb hby d3_9) ?_
    refine XS.isub X0.here hx rfl (hb hby d3_10) rfl ?_
    show oP p e below s₁ (mkF m 11 #[oR r0, oI 8, oU, oU, oU, oU, oU, oU, oU] [(.int 7), (.ref r0)]) _
    refine own_baload X0 hx hZ e0 V_r0 (j := (7 : Int32)) ⟨by decide, by decide⟩ (v := (.int 61)) rfl (g := (mkF m 11 #[oR r0, oI 8, oU, oU, oU, oU, oU, oU, oU] [(.int 7), (.ref r0)])) rfl rfl (hb hby d3_11) _ ?_
    show oP p e below s₁ (mkF m 12 #[oR r0, oI 8, oU, oU, oU, oU, oU, oU, oU] [(.int 61)]) _
    refine XS.bipush X0.here hx rfl (hb hby d3_12) ?_
    refine XS.icmpNo X0.here hx rfl (hb hby d3_14) rfl (teq (by decide : (61 : Int32) = (61 : Int32))).2 ?_
    show oP p e below s₁ (mkF m 17 #[oR r0, oI 8, oU, oU, oU, oU, oU, oU, oU] []) _
    refine XS.iinc X0.here hx rfl (hb hby d3_17) rfl (l' := #[oR r0, oI 7, oU, oU, oU, oU, oU, oU, oU]) rfl ?_
    show oP p e below s₁ (mkF m 20 #[oR r0, oI 7, oU, oU, oU, oU, oU, oU, oU] []) _
    refine XS.goto X0.here hx rfl (pc0 := 20) (pc' := 3) rfl (hb hby d3_20) (by decide) (by decide) ?_
    show oP p e below s₁ (mkF m 3 #[oR r0, oI 7, oU, oU, oU, oU, oU, oU, oU] []) _
    refine XS.iloadN X0.here hx rfl (hb hby d3_3) rfl ?_
    refine XS.ifNo X0.here hx rfl (hb hby d3_4) rfl ((if0 _ _).trans (tlt (by decide : (0 : Int32) < (7 : Int32))).2.2.2) ?_
    show oP p e below s₁ (mkF m 7 #[oR r0, oI 7, oU, oU, oU, oU, oU, oU, oU] []) _
    refine XS.aloadN X0.here hx rfl (hb hby d3_7) rfl rfl ?_
    refine XS.iloadN X0.here hx rfl (hb hby d3_8) rfl ?_
    refine XS.iconst X0.here hx rfl (hb hby d3_9) ?_
    refine XS.isub X0.here hx rfl (hb hby d3_10) rfl ?_
    show oP p e below s₁ (mkF m 11 #[oR r0, oI 7, oU, oU, oU, oU, oU, oU, oU] [(.int 6), (.ref r0)]) _
    refine own_baload X0 hx hZ e0 V_r0 (j := (6 : Int32)) ⟨by decide, by decide⟩ (v := (.int 61)) rfl (g := (mkF m 11 #[oR r0, oI 7, oU, oU, oU, oU, oU, oU, oU] [(.int 6), (.ref r0)])) rfl rfl (hb hby d3_11) _ ?_
    show oP p e below s₁ (mkF m 12 #[oR r0, oI 7, oU, oU, oU, oU, oU, oU, oU] [(.int 61)]) _
    refine XS.bipush X0.here hx rfl (hb hby d3_12) ?_
    refine XS.icmpNo X0.here hx rfl (hb hby d3_14) rfl (teq (by decide : (61 : Int32) = (61 : Int32))).2 ?_
    show oP p e below s₁ (mkF m 17 #[oR r0, oI 7, oU, oU, oU, oU, oU, oU, oU] []) _
    refine XS.iinc X0.here hx rfl (hb hby d3_17) rfl (l' := #[oR r0, oI 6, oU, oU, oU, oU, oU, oU, oU]) rfl ?_
    show oP p e below s₁ (mkF m 20 #[oR r0, oI 6, oU, oU, oU, oU, oU, oU, oU] []) _
    refine XS.goto X0.here hx rfl (pc0 := 20) (pc' := 3) rfl (hb hby d3_20) (by decide) (by decide) ?_
    show oP p e below s₁ (mkF m 3 #[oR r0, oI 6, oU, oU, oU, oU, oU, oU, oU] []) _
    refine XS.iloadN X0.here hx rfl (hb hby d3_3) rfl ?_
    refine XS.ifNo X0.here hx rfl (hb hby d3_4) rfl ((if0 _ _).trans (tlt (by decide : (0 : Int32) < (6 : Int32))).2.2.2) ?_
    show oP p e below s₁ (mkF m 7 #[oR r0, oI 6, oU, oU, oU, oU, oU, oU, oU] []) _
    refine XS.aloadN X0.here hx rfl (hb hby d3_7) rfl rfl ?_
    refine XS.iloadN X0.here hx rfl (hb hby d3_8) rfl ?_
    refine XS.iconst X0.here hx rfl (hb hby d3_9) ?_
    refine XS.isub X0.here hx rfl (hb hby d3_10) rfl ?_
    show oP p e below s₁ (mkF m 11 #[oR r0, oI 6, oU, oU, oU, oU, oU, oU, oU] [(.int 5), (.ref r0)]) _
    refine own_baload X0 hx hZ e0 V_r0 (j := (5 : Int32)) ⟨by decide, by decide⟩ (v := (.int (chv d5))) rfl (g := (mkF m 11 #[oR r0, oI 6, oU, oU, oU, oU, oU, oU, oU] [(.int 5), (.ref r0)])) rfl rfl (hb hby d3_11) _ ?_
    show oP p e below s₁ (mkF m 12 #[oR r0, oI 6, oU, oU, oU, oU, oU, oU, oU] [(.int (chv d5))]) _
    refine XS.bipush X0.here hx rfl (hb hby d3_12) ?_
    refine XS.icmpYes X0.here hx rfl (pc0 := 14) (pc' := 23) rfl (hb hby d3_14) rfl (feq (chv_ne hd5)).2 (by decide) (by decide) ?_
    show oP p e below s₁ (mkF m 23 #[oR r0, oI 6, oU, oU, oU, oU, oU, oU, oU] []) _
    refine XS.iloadN X0.here hx rfl (hb hby d3_23) rfl ?_
    refine XS.iconst X0.here hx rfl (hb hby d3_24) ?_
    refine XS.irem X0.here hx rfl (hb hby d3_25) rfl (by decide) ?_
    show oP p e below s₁ (mkF m 26 #[oR r0, oI 6, oU, oU, oU, oU, oU, oU, oU] [(.int 2)]) _
    refine XS.istoreN X0.here hx rfl (hb hby d3_26) rfl (l' := #[oR r0, oI 6, oI 2, oU, oU, oU, oU, oU, oU]) rfl ?_
    show oP p e below s₁ (mkF m 27 #[oR r0, oI 6, oI 2, oU, oU, oU, oU, oU, oU] []) _
    refine XS.aloadN X0.here hx rfl (hb hby d3_27) rfl rfl ?_
    show oP p e below s₁ (mkF m 28 #[oR r0, oI 6, oI 2, oU, oU, oU, oU, oU, oU] [(.ref r0)]) _
    refine own_len X0 hx hZ e0 V_r0 (g := (mkF m 28 #[oR r0, oI 6, oI 2, oU, oU, oU, oU, oU, oU] [(.ref r0)])) rfl rfl (hb hby d3_28) _ ?_
    show oP p e below s₁ (mkF m 29 #[oR r0, oI 6, oI 2, oU, oU, oU, oU, oU, oU] [(.int 8)]) _
    refine XS.iloadN X0.here hx rfl (hb hby d3_29) rfl ?_
    refine XS.isub X0.here hx rfl (hb hby d3_30) rfl ?_
    show oP p e below s₁ (mkF m 31 #[oR r0, oI 6, oI 2, oU, oU, oU, oU, oU, oU] [(.int 2)]) _
    refine XS.istoreN X0.here hx rfl (hb hby d3_31) rfl (l' := #[oR r0, oI 6, oI 2, oI 2, oU, oU, oU, oU, oU]) rfl ?_
    show oP p e below s₁ (mkF m 32 #[oR r0, oI 6, oI 2, oI 2, oU, oU, oU, oU, oU] []) _
    refine XS.iloadN X0.here hx rfl (hb hby d3_32) rfl ?_
    refine XS.iconst X0.here hx rfl (hb hby d3_33) ?_
    refine XS.icmpYes X0.here hx rfl (pc0 := 34) (pc' := 47) rfl (hb hby d3_34) rfl (feq (by decide : ¬ ((2 : Int32) = (1 : Int32)))).2 (by decide) (by decide) ?_
    show oP p e below s₁ (mkF m 47 #[oR r0, oI 6, oI 2, oI 2, oU, oU, oU, oU, oU] []) _
    refine XS.iloadN X0.here hx rfl (hb hby d3_47) rfl ?_
    refine XS.ifNo X0.here hx rfl (hb hby d3_48) rfl ((if0 _ _).trans (tlt (by decide : (0 : Int32) < (2 : Int32))).2.2.2) ?_
    show oP p e below s₁ (mkF m 51 #[oR r0, oI 6, oI 2, oI 2, oU, oU, oU, oU, oU] []) _
    refine XS.iloadN X0.here hx rfl (hb hby d3_51) rfl ?_
    refine XS.ifNo X0.here hx rfl (hb hby d3_52) rfl ((if0 _ _).trans (feq (by decide : ¬ ((2 : Int32) = (0 : Int32)))).1) ?_
    show oP p e below s₁ (mkF m 55 #[oR r0, oI 6, oI 2, oI 2, oU, oU, oU, oU, oU] []) _
    refine XS.iloadN X0.here hx rfl (hb hby d3_55) rfl ?_
    refine XS.iconst X0.here hx rfl (hb hby d3_56) ?_
    refine XS.iloadN X0.here hx rfl (hb hby d3_57) rfl ?_
    refine XS.isub X0.here hx rfl (hb hby d3_58) rfl ?_
    show oP p e below s₁ (mkF m 59 #[oR r0, oI 6, oI 2, oI 2, oU, oU, oU, oU, oU] [(.int 2), (.int 2)]) _
    refine XS.icmpYes X0.here hx rfl (pc0 := 59) (pc' := 72) rfl (hb hby d3_59) rfl (teq (by decide : (2 : Int32) = (2 : Int32))).1 (by decide) (by decide) ?_
    show oP p e below s₁ (mkF m 72 #[oR r0, oI 6, oI 2, oI 2, oU, oU, oU, oU, oU] []) _
    refine XS.iloadN X0.here hx rfl (hb hby d3_72) rfl ?_
    refine XS.iconst X0.here hx rfl (hb hby d3_73) ?_
    refine XS.idiv X0.here hx rfl (hb hby d3_74) rfl (by decide) ?_
    show oP p e below s₁ (mkF m 75 #[oR r0, oI 6, oI 2, oI 2, oU, oU, oU, oU, oU] [(.int 1)]) _
    refine XS.iconst X0.here hx rfl (hb hby d3_75) ?_
    refine XS.imul X0.here hx rfl (hb hby d3_76) rfl ?_
    show oP p e below s₁ (mkF m 77 #[oR r0, oI 6, oI 2, oI 2, oU, oU, oU, oU, oU] [(.int 3)]) _
    refine XS.iconst X0.here hx rfl (hb hby d3_77) ?_
    refine XS.iloadN X0.here hx rfl (hb hby d3_78) rfl ?_
    refine XS.iconst X0.here hx rfl (hb hby d3_79) ?_
    refine XS.isub X0.here hx rfl (hb hby d3_80) rfl ?_
    show oP p e below s₁ (mkF m 81 #[oR r0, oI 6, oI 2, oI 2, oU, oU, oU, oU, oU] [(.int 1), (.int 0), (.int 3)]) _
    refine st131 _ ?_
    show oP p e below T131 (mkF m 84 #[oR r0, oI 6, oI 2, oI 2, oU, oU, oU, oU, oU] [(.int 1), (.int 3)]) _
    refine XS.iadd X131.here hx rfl (hb hby d3_84) rfl ?_
    show oP p e below T131 (mkF m 85 #[oR r0, oI 6, oI 2, oI 2, oU, oU, oU, oU, oU] [(.int 4)]) _
    refine st132 _ ?_
    show oP p e below T132 (mkF m 87 #[oR r0, oI 6, oI 2, oI 2, oU, oU, oU, oU, oU] [(.ref b132)]) _
    refine XS.astore X132.here hx rfl (hb hby d3_87) rfl rfl (l' := #[oR r0, oI 6, oI 2, oI 2, oR b132, oU, oU, oU, oU]) rfl ?_
    show oP p e below T132 (mkF m 89 #[oR r0, oI 6, oI 2, oI 2, oR b132, oU, oU, oU, oU] []) _
    refine XS.iconst X132.here hx rfl (hb hby d3_89) ?_
    refine XS.istore X132.here hx rfl (hb hby d3_90) rfl (l' := #[oR r0, oI 6, oI 2, oI 2, oR b132, oI 0, oU, oU, oU]) rfl ?_
    show oP p e below T132 (mkF m 92 #[oR r0, oI 6, oI 2, oI 2, oR b132, oI 0, oU, oU, oU] []) _
    refine XS.iloadN X132.here hx rfl (hb hby d3_92) rfl ?_
    refine XS.iloadN X132.here hx rfl (hb hby d3_93) rfl ?_
    refine XS.isub X132.here hx rfl (hb hby d3_94) rfl ?_
    show oP p e below T132 (mkF m 95 #[oR r0, oI 6, oI 2, oI 2, oR b132, oI 0, oU, oU, oU] [(.int 4)]) _
    refine XS.istore X132.here hx rfl (hb hby d3_95) rfl (l' := #[oR r0, oI 6, oI 2, oI 2, oR b132, oI 0, oI 4, oU, oU]) rfl ?_
    show oP p e below T132 (mkF m 97 #[oR r0, oI 6, oI 2, oI 2, oR b132, oI 0, oI 4, oU, oU] []) _
    refine XS.iconst X132.here hx rfl (hb hby d3_97) ?_
    refine XS.istore X132.here hx rfl (hb hby d3_98) rfl (l' := #[oR r0, oI 6, oI 2, oI 2, oR b132, oI 0, oI 4, oI 0, oU]) rfl ?_
    show oP p e below T132 (mkF m 100 #[oR r0, oI 6, oI 2, oI 2, oR b132, oI 0, oI 4, oI 0, oU] []) _
    refine st134 _ ?_
    show oP p e below T134 (mkF m 100 #[oR r0, oI 6, oI 2, oI 2, oR b132, oI 3, oI 4, oI 4, oI (grp d0 d1 d2 d3)] []) _
    refine XS.iload X134.here hx rfl (hb hby d3_100) rfl ?_
    show oP p e below T134 (mkF m 102 #[oR r0, oI 6, oI 2, oI 2, oR b132, oI 3, oI 4, oI 4, oI (grp d0 d1 d2 d3)] [(.int 4)]) _
    refine XS.iload X134.here hx rfl (hb hby d3_102) rfl ?_
    show oP p e below T134 (mkF m 104 #[oR r0, oI 6, oI 2, oI 2, oR b132, oI 3, oI 4, oI 4, oI (grp d0 d1 d2 d3)] [(.int 4), (.int 4)]) _
    refine XS.icmpYes X134.here hx rfl (pc0 := 104) (pc' := 233) rfl (hb hby d3_104) rfl (flt (by decide : ¬ ((4 : Int32) < (4 : Int32)))).2.1 (by decide) (by decide) ?_
    show oP p e below T134 (mkF m 233 #[oR r0, oI 6, oI 2, oI 2, oR b132, oI 3, oI 4, oI 4, oI (grp d0 d1 d2 d3)] []) _
    refine XS.iloadN X134.here hx rfl (hb hby d3_233) rfl ?_
    refine XS.iconst X134.here hx rfl (hb hby d3_234) ?_
    refine XS.icmpNo X134.here hx rfl (hb hby d3_235) rfl (teq (by decide : (2 : Int32) = (2 : Int32))).2 ?_
    show oP p e below T134 (mkF m 238 #[oR r0, oI 6, oI 2, oI 2, oR b132, oI 3, oI 4, oI 4, oI (grp d0 d1 d2 d3)] []) _
    refine XS.aload X134.here hx rfl (hb hby d3_238) rfl rfl ?_
    show oP p e below T134 (mkF m 240 #[oR r0, oI 6, oI 2, oI 2, oR b132, oI 3, oI 4, oI 4, oI (grp d0 d1 d2 d3)] [(.ref b132)]) _
    refine XS.iload X134.here hx rfl (hb hby d3_240) rfl ?_
    show oP p e below T134 (mkF m 242 #[oR r0, oI 6, oI 2, oI 2, oR b132, oI 3, oI 4, oI 4, oI (grp d0 d1 d2 d3)] [(.int 3), (.ref b132)]) _
    refine XS.aloadN X134.here hx rfl (hb hby d3_242) rfl rfl ?_
    refine XS.iload X134.here hx rfl (hb hby d3_243) rfl ?_
    show oP p e below T134 (mkF m 245 #[oR r0, oI 6, oI 2, oI 2, oR b132, oI 3, oI 4, oI 4, oI (grp d0 d1 d2 d3)] [(.int 4), (.ref r0), (.int 3), (.ref b132)]) _
    refine XS.iconst X134.here hx rfl (hb hby d3_245) ?_
    show oP p e below T134 (mkF m 246 #[oR r0, oI 6, oI 2, oI 2, oR b132, oI 3, oI 4, oI 4, oI (grp d0 d1 d2 d3)] [(.int 2), (.int 4), (.ref r0), (.int 3), (.ref b132)]) _
    refine st135 _ ?_
    show oP p e below T135 (mkF m 249 #[oR r0, oI 6, oI 2, oI 2, oR b132, oI 3, oI 4, oI 4, oI (grp d0 d1 d2 d3)] [(.int (((((0 : Int32) <<< ((6 : Int32) &&& 31)) ||| d4) <<< ((6 : Int32) &&& 31)) ||| d5)), (.int 3), (.ref b132)]) _
    refine XS.iconst X135.here hx rfl (hb hby d3_249) ?_
    refine XS.ishr X135.here hx rfl (hb hby d3_250) rfl ?_
    show oP p e below T135 (mkF m 251 #[oR r0, oI 6, oI 2, oI 2, oR b132, oI 3, oI 4, oI 4, oI (grp d0 d1 d2 d3)] [(.int ((((((0 : Int32) <<< ((6 : Int32) &&& 31)) ||| d4) <<< ((6 : Int32) &&& 31)) ||| d5) >>> ((4 : Int32) &&& 31))), (.int 3), (.ref b132)]) _
    refine XS.i2b X135.here hx rfl (hb hby d3_251) rfl ?_
    show oP p e below T135 (mkF m 252 #[oR r0, oI 6, oI 2, oI 2, oR b132, oI 3, oI 4, oI 4, oI (grp d0 d1 d2 d3)] [(.int (((((((0 : Int32) <<< ((6 : Int32) &&& 31)) ||| d4) <<< ((6 : Int32) &&& 31)) ||| d5) >>> ((4 : Int32) &&& 31)).toInt8.toInt32)), (.int 3), (.ref b132)]) _
    refine st137 _ ?_
    show oP p e below T137 (mkF m 253 #[oR r0, oI 6, oI 2, oI 2, oR b132, oI 3, oI 4, oI 4, oI (grp d0 d1 d2 d3)] []) _
    refine XS.goto X137.here hx rfl (pc0 := 253) (pc' := 294) rfl (hb hby d3_253) (by decide) (by decide) ?_
    show oP p e below T137 (mkF m 294 #[oR r0, oI 6, oI 2, oI 2, oR b132, oI 3, oI 4, oI 4, oI (grp d0 d1 d2 d3)] []) _
    refine XS.aload X137.here hx rfl (hb hby d3_294) rfl rfl ?_
    show oP p e below T137 (mkF m 296 #[oR r0, oI 6, oI 2, oI 2, oR b132, oI 3, oI 4, oI 4, oI (grp d0 d1 d2 d3)] [(.ref b132)]) _
    exact own_retA X137 hx Bd.returns rfl rfl (hb hby d3_296) hr
  · show ∃ (b : Addr), ∃ (kb : ClassId), (some (.ref b132) : Option Value) = some (.ref b) ∧ Fr n0 _ ∧ Keep h0 T137.heap [] ∧ h0.size ≤ b ∧ Arv Z T137.heap b kb .byte (4 : Int32) [(.int ((((grp d0 d1 d2 d3) >>> ((16 : Int32) &&& 31)).toInt8.toInt32).toInt8.toInt32)), (.int ((((grp d0 d1 d2 d3) >>> ((8 : Int32) &&& 31)).toInt8.toInt32).toInt8.toInt32)), (.int (((grp d0 d1 d2 d3).toInt8.toInt32).toInt8.toInt32)), (.int ((((((((0 : Int32) <<< ((6 : Int32) &&& 31)) ||| d4) <<< ((6 : Int32) &&& 31)) ||| d5) >>> ((4 : Int32) &&& 31)).toInt8.toInt32).toInt8.toInt32))] (.int 0)
    rw [e137]
    exact ⟨b132, k132, rfl, N137, Kc137, sz_b132, V137⟩
theorem ef_3x130 (m : MethodId) (x0 : Addr) : entryFrame m #[(.ref x0)] 9 = mkF m 0 #[.val (.ref x0), .unset, .unset, .unset, .unset, .unset, .unset, .unset, .unset] [] := by first | (simp [entryFrame, mkF, argsToLocals, Value.category]; done) | rfl
set_option maxRecDepth 65536 in
set_option maxHeartbeats 40000000 in
theorem rm3x130 (l : Launch) (Z : State) (a0 : Array Value) (hw : ∀ d ∈ tables_1, d.before a0 Z = true) (hS : St Z) (ws : List Jvm.Cond) (r0 : Addr) (k : ClassId) (d0 : Int32) (d1 : Int32) (d2 : Int32) (d3 : Int32) (d4 : Int32) (d5 : Int32) (d6 : Int32) (r7_ : Value) (r8_ : Value) (r9_ : Value) (r10_ : Value) (r11_ : Value) (h0 : Heap) (n0 : Nat) (O0 : Old Z n0 h0) (V_r0 : Arv Z h0 r0 k .byte (7 : Int32) [(.int (chv d0)), (.int (chv d1)), (.int (chv d2)), (.int (chv d3)), (.int (chv d4)), (.int (chv d5)), (.int (chv d6)), r7_, r8_, r9_, r10_, r11_] (.int 0)) (hd0 : Dg d0) (hd1 : Dg d1) (hd2 : Dg d2) (hd3 : Dg d3) (hd4 : Dg d4) (hd5 : Dg d5) (hd6 : Dg d6) :
    MetFree l (⟨"com/example/meerkat/meerkat/Base64Codec", "decode", "([B)[B"⟩ : MethodName) (head1 (Jvm.Cond.code (⟨"com/example/meerkat/meerkat/Base64Codec", "decode", "([B)[B"⟩ : MethodName) prog_8_method_3_code 9 (some (.array .byte)) :: ws) ({ frames := 2, cells := 1, slots := 8, locals := 60 } : Room)) (fun a U => a = #[(.ref r0)] ∧ Z.Warmed39 U.vm ∧ U.heap = h0) (fun _ _ _ _ _ => True) (fun _ U o U' => ∃ v L, o = .returned v ∧ own_Q (fun v hE L => ∃ (b : Addr), ∃ (kb : ClassId), v = some (.ref b) ∧ Fr n0 L ∧ Keep h0 hE [] ∧ h0.size ≤ b ∧ Arv Z hE b kb .byte (5 : Int32) [(.int ((((grp d0 d1 d2 d3) >>> ((16 : Int32) &&& 31)).toInt8.toInt32).toInt8.toInt32)), (.int ((((grp d0 d1 d2 d3) >>> ((8 : Int32) &&& 31)).toInt8.toInt32).toInt8.toInt32)), (.int (((grp d0 d1 d2 d3).toInt8.toInt32).toInt8.toInt32)), (.int ((((((((((0 : Int32) <<< ((6 : Int32) &&& 31)) ||| d4) <<< ((6 : Int32) &&& 31)) ||| d5) <<< ((6 : Int32) &&& 31)) ||| d6) >>> ((10 : Int32) &&& 31)).toInt8.toInt32).toInt8.toInt32)), (.int ((((((((((0 : Int32) <<< ((6 : Int32) &&& 31)) ||| d4) <<< ((6 : Int32) &&& 31)) ||| d5) <<< ((6 : Int32) &&& 31)) ||| d6) >>> ((2 : Int32) &&& 31)).toInt8.toInt32).toInt8.toInt32))] (.int 0)) v U'.heap L ∧ FrameEnd U o U' L ({ frames := 2, cells := 1, slots := 8, locals := 60 } : Room).cells ({ frames := 2, cells := 1, slots := 8, locals := 60 } : Room).slots) := by
  refine MetFree.of_bodySF (plainFor_of_name pn_1) hisR ?_
  intro p e s m args below meth c s₁ Bd hml0 hP hK
  obtain ⟨rfl, hZ, hh⟩ := hP
  have hx := Bd.exec
  have hby := Bd.bytes
  have hml : c.maxLocals = 9 := hml0
  have hown : s.vm.findClass "com/example/meerkat/meerkat/Base64Codec" = some m.cls := findClass_of_methodNamed Bd.named
  have hnm := (name_of_methodNamed Bd.named Bd.method).1
  have X0 : Stand p l e ({ frames := 2, cells := 1, slots := 8, locals := 60 } : Room) s m #[(.ref r0)] below meth c s₁ [] 0 0 := Stand.of_body Bd
  have e0 : s₁.heap = h0 := by rw [← hh, Bd.state]; rfl
  have N0 := Fr.nil n0
  have pre0 : ∀ t, Steps p.tables e below (s₁.setTop (mkF m 0 #[oR r0, oU, oU, oU, oU, oU, oU, oU, oU] [])) t → Steps p.tables e below (s₁.setTop (entryFrame m #[(.ref r0)] 9)) t := fun t k => castTop (ef_3x130 m r0) k
  obtain ⟨_, _, ⟨T139, L139, k139, n139⟩, -, X139, ⟨Lc139, hQ139, l139, y139, z139⟩, st139⟩ := Jvm.LawKit.callS X0 hx (y := (⟨"java/lang/Math", "max", "(II)I"⟩ : MethodName)) hown (mvT hZ (wi hw 12 rfl)) (mvT hZ (wi hw 13 rfl)) (mvT hZ (wi hw 14 rfl)) (mvT hZ (wi hw 15 rfl)) (by decide) (backOf (W := 1) (rm4 l Z a0 hw hS [] (0 : Int32) (2 : Int32) h0 n0 O0) hZ (wi hw 15 rfl) (wi hw 14 rfl) (by decide) (by decide)) (g := (mkF m 81 #[oR r0, oI 7, oI 3, oI 0, oU, oU, oU, oU, oU] [(.int 2), (.int 0), (.int 3)])) rfl (by rw [hml]; rfl) (argsL := [(.int 0), (.int 2)]) (rest := [(.int 3)]) (lenOf pd_3 rfl) rfl (by show 2 * 0 + _ ≤ _; exact Nat.le_of_eq rfl) (hb hby d3_81) (fun _ _ => ⟨rfl, e0, (by decide : 0 + 0 ≤ _), (by decide : 0 + 0 ≤ _)⟩)
  dsimp only [Pt.U, Pt.locs, Pt.cells, Pt.slots] at X139 l139 y139 z139 st139 hQ139
  subst l139 y139 z139
  obtain ⟨v139, N139q, h139q⟩ := hQ139
  have w139 : (fn4 Z (0 : Int32) (2 : Int32)) = (2 : Int32) := by unfold fn4; rw [if_pos (by decide : (0 : Int32) < (2 : Int32))]; all_goals first | rfl | decide
  rw [w139] at v139
  subst v139
  have N139 := Fr.app N0 N139q
  obtain ⟨T140, h140, k140, X140, e140, E140, A140, st140⟩ := newP X139 hx hZ (wi hw 0 rfl) h139q (g := (mkF m 85 #[oR r0, oI 7, oI 3, oI 0, oU, oU, oU, oU, oU] [(.int 5)])) rfl (hb hby d3_85) rfl (by decide) (cap := 5) (by decide) (by decide) (by decide) (by decide)
  obtain ⟨b140, g140⟩ : ∃ z, z = h0.size := ⟨_, rfl⟩
  have g_b140 : n0 ≤ b140 := Nat.le_trans (own_old_le O0) (Nat.le_of_eq g140.symm)
  have sz_b140 : h0.size ≤ b140 := Nat.le_trans (Keep.refl h0 []).1 (Nat.le_of_eq g140.symm)
  have ne_r0_b140 : r0 ≠ b140 := Nat.ne_of_lt (Nat.lt_of_lt_of_le V_r0.lt (Nat.le_of_eq g140.symm))
  rw [← g140] at A140 st140
  have O140 := O0.ext E140
  have Kc140 := (Keep.refl h0 []).ext E140
  have V140 : Arv Z h140 b140 k140 .byte (5 : Int32) [(.int 0), (.int 0), (.int 0), (.int 0), (.int 0)] (.int 0) := (Arv.new A140 (by decide)).pad (pad_rep [] (.int 0) 5)
  have fx141 := (V_r0.ext E140)
  obtain ⟨T142, h142, lc142, X142, e142, N142, K142q, V142', st142⟩ := tn3_0 Z a0 hw hS r0 b140 (7 : Int32) (3 : Int32) (0 : Int32) (4 : Int32) k (7 : Int32) [(.int (chv d0)), (.int (chv d1)), (.int (chv d2)), (.int (chv d3)), (.int (chv d4)), (.int (chv d5)), (.int (chv d6)), r7_, r8_, r9_, r10_, r11_] k140 (5 : Int32) [(.int 0), (.int 0), (.int 0), (.int 0), (.int 0)] d0 d1 d2 d3 h140 n0 O140 fx141 V140 g_b140 ne_r0_b140 hd0 hd1 hd2 hd3 rfl rfl rfl rfl ⟨by decide, by decide⟩ ⟨by decide, by decide⟩ ⟨by decide, by decide⟩ ⟨by decide, by decide⟩ ⟨by decide, by decide⟩ ⟨by decide, by decide⟩ ⟨by decide, by decide⟩ (Nat.le_of_ble_eq_true rfl) (Nat.le_of_ble_eq_true rfl) (Nat.le_of_ble_eq_true rfl) (by decide) X140 hx hZ hby hml hown e140 N139
  have O142 := O140.keep K142q (allS g_b140 all0)
  have Kc142 := Kc140.trans K142q (allS (Or.inr sz_b140) all0)
  have V142 : Arv Z h142 b140 k140 .byte (5 : Int32) [(.int ((((grp d0 d1 d2 d3) >>> ((16 : Int32) &&& 31)).toInt8.toInt32).toInt8.toInt32)), (.int ((((grp d0 d1 d2 d3) >>> ((8 : Int32) &&& 31)).toInt8.toInt32).toInt8.toInt32)), (.int (((grp d0 d1 d2 d3).toInt8.toInt32).toInt8.toInt32)), (.int 0), (.int 0)] (.int 0) := V142'
  have fx144 := (fx141.keep K142q (ninS ne_r0_b140 nin0))
  obtain ⟨_, _, ⟨T143, L143, k143, n143⟩, -, X143, ⟨Lc143, hQ143, l143, y143, z143⟩, st143⟩ := Jvm.LawKit.callS X142 hx (y := (⟨"com/example/meerkat/meerkat/Base64Codec", "bitsOf", "([BII)I"⟩ : MethodName)) hown (mvT hZ (wi hw 28 rfl)) (mvT hZ (wi hw 29 rfl)) (mvT hZ (wi hw 10 rfl)) (mvT hZ (wi hw 30 rfl)) (by decide) (backOf (W := 0) (rm8b1_3 l Z a0 hw hS [] r0 k (7 : Int32) [(.int (chv d0)), (.int (chv d1)), (.int (chv d2)), (.int (chv d3)), (.int (chv d4)), (.int (chv d5)), (.int (chv d6)), r7_, r8_, r9_, r10_, r11_] d4 d5 d6 h142 n0 O142 fx144 hd4 hd5 hd6 rfl rfl rfl ⟨by decide, by decide⟩ ⟨by decide, by decide⟩ ⟨by decide, by decide⟩) hZ (wi hw 30 rfl) (wi hw 10 rfl) (by decide) (by decide)) (g := (mkF m 265 #[oR r0, oI 7, oI 3, oI 0, oR b140, oI 3, oI 4, oI 4, oI (grp d0 d1 d2 d3)] [(.int 3), (.int 4), (.ref r0)])) rfl (by rw [hml]; rfl) (argsL := [(.ref r0), (.int 4), (.int 3)]) (rest := []) (lenOf pd_4 rfl) rfl (by show 2 * 0 + _ ≤ _; exact Nat.le_of_eq rfl) (hb hby d3_265) (fun _ _ => ⟨rfl, e142, (by decide : 1 + 0 ≤ _), (by decide : 5 + 0 ≤ _)⟩)
  dsimp only [Pt.U, Pt.locs, Pt.cells, Pt.slots] at X143 l143 y143 z143 st143 hQ143
  subst l143 y143 z143
  obtain ⟨v143, N143q, K143q⟩ := hQ143
  have w143 : (fn8b1_3 Z r0 k (7 : Int32) [(.int (chv d0)), (.int (chv d1)), (.int (chv d2)), (.int (chv d3)), (.int (chv d4)), (.int (chv d5)), (.int (chv d6)), r7_, r8_, r9_, r10_, r11_] d4 d5 d6) = (((((((0 : Int32) <<< ((6 : Int32) &&& 31)) ||| d4) <<< ((6 : Int32) &&& 31)) ||| d5) <<< ((6 : Int32) &&& 31)) ||| d6) := rfl
  rw [w143] at v143
  subst v143
  have N143 := Fr.app N142 N143q
  have O143 := O142.keep K143q all0
  have Kc143 := Kc142.trans K143q all0
  have fx146 := (V142.keep K143q nin0)
  obtain ⟨T145, h145, X145, e145, W145, V145', st145⟩ := own_stB X143 hx hZ rfl fx146 (j := (3 : Int32)) ⟨by decide, by decide⟩ rfl (by decide : ((3 : Int32) : Int32).toNatClampNeg < 5) (g := (mkF m 283 #[oR r0, oI 7, oI 3, oI 0, oR b140, oI 4, oI 4, oI (((((((0 : Int32) <<< ((6 : Int32) &&& 31)) ||| d4) <<< ((6 : Int32) &&& 31)) ||| d5) <<< ((6 : Int32) &&& 31)) ||| d6), oI (grp d0 d1 d2 d3)] [(.int (((((((((0 : Int32) <<< ((6 : Int32) &&& 31)) ||| d4) <<< ((6 : Int32) &&& 31)) ||| d5) <<< ((6 : Int32) &&& 31)) ||| d6) >>> ((10 : Int32) &&& 31)).toInt8.toInt32)), (.int 3), (.ref b140)])) rfl rfl (hb hby d3_283)
  have N145 := Fr.snoc X145 N143 g_b140
  have O145 := O143.wr W145 g_b140
  have Kc145 := Kc143.wr W145 (Or.inr sz_b140)
  have V145 : Arv Z h145 b140 k140 .byte (5 : Int32) [(.int ((((grp d0 d1 d2 d3) >>> ((16 : Int32) &&& 31)).toInt8.toInt32).toInt8.toInt32)), (.int ((((grp d0 d1 d2 d3) >>> ((8 : Int32) &&& 31)).toInt8.toInt32).toInt8.toInt32)), (.int (((grp d0 d1 d2 d3).toInt8.toInt32).toInt8.toInt32)), (.int ((((((((((0 : Int32) <<< ((6 : Int32) &&& 31)) ||| d4) <<< ((6 : Int32) &&& 31)) ||| d5) <<< ((6 : Int32) &&& 31)) ||| d6) >>> ((10 : Int32) &&& 31)).toInt8.toInt32).toInt8.toInt32)), (.int 0)] (.int 0) := V145'
  obtain ⟨T147, h147, X147, e147, W147, V147', st147⟩ := own_stB X145 hx hZ e145 V145 (j := (4 : Int32)) ⟨by decide, by decide⟩ rfl (by decide : ((4 : Int32) : Int32).toNatClampNeg < 5) (g := (mkF m 293 #[oR r0, oI 7, oI 3, oI 0, oR b140, oI 4, oI 4, oI (((((((0 : Int32) <<< ((6 : Int32) &&& 31)) ||| d4) <<< ((6 : Int32) &&& 31)) ||| d5) <<< ((6 : Int32) &&& 31)) ||| d6), oI (grp d0 d1 d2 d3)] [(.int (((((((((0 : Int32) <<< ((6 : Int32) &&& 31)) ||| d4) <<< ((6 : Int32) &&& 31)) ||| d5) <<< ((6 : Int32) &&& 31)) ||| d6) >>> ((2 : Int32) &&& 31)).toInt8.toInt32)), (.int 4), (.ref b140)])) rfl rfl (hb hby d3_293)
  have N147 := Fr.snoc X147 N145 g_b140
  have O147 := O145.wr W147 g_b140
  have Kc147 := Kc145.wr W147 (Or.inr sz_b140)
  have V147 : Arv Z h147 b140 k140 .byte (5 : Int32) [(.int ((((grp d0 d1 d2 d3) >>> ((16 : Int32) &&& 31)).toInt8.toInt32).toInt8.toInt32)), (.int ((((grp d0 d1 d2 d3) >>> ((8 : Int32) &&& 31)).toInt8.toInt32).toInt8.toInt32)), (.int (((grp d0 d1 d2 d3).toInt8.toInt32).toInt8.toInt32)), (.int ((((((((((0 : Int32) <<< ((6 : Int32) &&& 31)) ||| d4) <<< ((6 : Int32) &&& 31)) ||| d5) <<< ((6 : Int32) &&& 31)) ||| d6) >>> ((10 : Int32) &&& 31)).toInt8.toInt32).toInt8.toInt32)), (.int ((((((((((0 : Int32) <<< ((6 : Int32) &&& 31)) ||| d4) <<< ((6 : Int32) &&& 31)) ||| d5) <<< ((6 : Int32) &&& 31)) ||| d6) >>> ((2 : Int32) &&& 31)).toInt8.toInt32).toInt8.toInt32))] (.int 0) := V147'
  obtain ⟨fs, hr, hrun, hended, hW, hsame⟩ := X147.leave (v := some (.ref b140)) (fun h => by rw [Bd.returns] at h; cases h)
  refine ⟨_, _, pre0 _ ?_, hrun, hended, _, _, rfl, ?_, ⟨_, rfl⟩, hW, hsame.mono (by decide) (by decide)⟩
  · show oP p e below s₁ (mkF m 0 #[oR r0, oU, oU, oU, oU, oU, oU, oU, oU] []) _
    refine XS.aloadN X0.here hx rfl (hb hby d3_0) rfl rfl ?_
    show oP p e below s₁ (mkF m 1 #[oR r0, oU, oU, oU, oU, oU, oU, oU, oU] [(.ref r0)]) _
    refine own_len X0 hx hZ e0 V_r0 (g := (mkF m 1 #[oR r0, oU, oU, oU, oU, oU, oU, oU, oU] [(.ref r0)])) rfl rfl (hb hby d3_1) _ ?_
    show oP p e below s₁ (mkF m 2 #[oR r0, oU, oU, oU, oU, oU, oU, oU, oU] [(.int 7)]) _
    refine XS.istoreN X0.here hx rfl (hb hby d3_2) rfl (l' := #[oR r0, oI 7, oU, oU, oU, oU, oU, oU, oU]) rfl ?_
    show oP p e below s₁ (mkF m 3 #[oR r0, oI 7, oU, oU, oU, oU, oU, oU, oU] []) _
    refine XS.iloadN X0.here hx rfl (hb hby d3_3) rfl ?_
    refine XS.ifNo X0.here hx rfl (hb hby d3_4) rfl ((if0 _ _).trans (tlt (by decide : (0 : Int32) < (7 : Int32))).2.2.2) ?_
    show oP p e below s₁ (mkF m 7 #[oR r0, oI 7, oU, oU, oU, oU, oU, oU, oU] []) _
    refine XS.aloadN X0.here hx rfl (hb hby d3_7) rfl rfl ?_
    refine XS.iloadN X0.here hx rfl (hb hby d3_8) rfl ?_
    refine XS.iconst X0.here hx rfl (hb hby d3_9) ?_
    refine XS.isub X0.here hx rfl (hb hby d3_10) rfl ?_
    show oP p e below s₁ (mkF m 11 #[oR r0, oI 7, oU, oU, oU, oU, oU, oU, oU] [(.int 6), (.ref r0)]) _
    refine own_baload X0 hx hZ e0 V_r0 (j := (6 : Int32)) ⟨by decide, by decide⟩ (v := (.int (chv d6))) rfl (g := (mkF m 11 #[oR r0, oI 7, oU, oU, oU, oU, oU, oU, oU] [(.int 6), (.ref r0)])) rfl rfl (hb hby d3_11) _ ?_
    show oP p e below s₁ (mkF m 12 #[oR r0, oI 7, oU, oU, oU, oU, oU, oU, oU] [(.int (chv d6))]) _
    refine XS.bipush X0.here hx rfl (hb hby d3_12) ?_
    refine XS.icmpYes X0.here hx rfl (pc0 := 14) (pc' := 23) rfl (hb hby d3_14) rfl (feq (chv_ne hd6)).2 (by decide) (by decide) ?_
    show oP p e below s₁ (mkF m 23 #[oR r0, oI 7, oU, oU, oU, oU, oU, oU, oU] []) _
    refine XS.iloadN X0.here hx rfl (hb hby d3_23) rfl ?_
    refine XS.iconst X0.here hx rfl (hb hby d3_24) ?_
    refine XS.irem X0.here hx rfl (hb hby d3_25) rfl (by decide) ?_
    show oP p e below s₁ (mkF m 26 #[oR r0, oI 7, oU, oU, oU, oU, oU, oU, oU] [(.int 3)]) _
    refine XS.istoreN X0.here hx rfl (hb hby d3_26) rfl (l' := #[oR r0, oI 7, oI 3, oU, oU, oU, oU, oU, oU]) rfl ?_
    show oP p e below s₁ (mkF m 27 #[oR r0, oI 7, oI 3, oU, oU, oU, oU, oU, oU] []) _
    refine XS.aloadN X0.here hx rfl (hb hby d3_27) rfl rfl ?_
    show oP p e below s₁ (mkF m 28 #[oR r0, oI 7, oI 3, oU, oU, oU, oU, oU, oU] [(.ref r0)]) _
    refine own_len X0 hx hZ e0 V_r0 (g := (mkF m 28 #[oR r0, oI 7, oI 3, oU, oU, oU, oU, oU, oU] [(.ref r0)])) rfl rfl (hb hby d3_28) _ ?_
    show oP p e below s₁ (mkF m 29 #[oR r0, oI 7, oI 3, oU, oU, oU, oU, oU, oU] [(.int 7)]) _
    refine XS.iloadN X0.here hx rfl (hb hby d3_29) rfl ?_
    refine XS.isub X0.here hx rfl (hb hby d3_30) rfl ?_
    show oP p e below s₁ (mkF m 31 #[oR r0, oI 7, oI 3, oU, oU, oU, oU, oU, oU] [(.int 0)]) _
    refine XS.istoreN X0.here hx rfl (hb hby d3_31) rfl (l' := #[oR r0, oI 7, oI 3, oI 0, oU, oU, oU, oU, oU]) rfl ?_
    show oP p e below s₁ (mkF m 32 #[oR r0, oI 7, oI 3, oI 0, oU, oU, oU, oU, oU] []) _
    refine XS.iloadN X0.here hx rfl (hb hby d3_32) rfl ?_
    refine XS.iconst X0.here hx rfl (hb hby d3_33) ?_
    refine XS.icmpYes X0.here hx rfl (pc0 := 34) (pc' := 47) rfl (hb hby d3_34) rfl (feq (by decide : ¬ ((3 : Int32) = (1 : Int32)))).2 (by decide) (by decide) ?_
    show oP p e below s₁ (mkF m 47 #[oR r0, oI 7, oI 3, oI 0, oU, oU, oU, oU, oU] []) _
    refine XS.iloadN X0.here hx rfl (hb hby d3_47) rfl ?_
    refine XS.ifYes X0.here hx rfl (pc0 := 48) (pc' := 72) rfl (hb hby d3_48) rfl ((if0 _ _).trans (flt (by decide : ¬ ((0 : Int32) < (0 : Int32)))).2.2.2) (by decide) (by decide) ?_
    show oP p e below s₁ (mkF m 72 #[oR r0, oI 7, oI 3, oI 0, oU, oU, oU, oU, oU] []) _
    refine XS.iloadN X0.here hx rfl (hb hby d3_72) rfl ?_
    refine XS.iconst X0.here hx rfl (hb hby d3_73) ?_
    refine XS.idiv X0.here hx rfl (hb hby d3_74) rfl (by decide) ?_
    show oP p e below s₁ (mkF m 75 #[oR r0, oI 7, oI 3, oI 0, oU, oU, oU, oU, oU] [(.int 1)]) _
    refine XS.iconst X0.here hx rfl (hb hby d3_75) ?_
    refine XS.imul X0.here hx rfl (hb hby d3_76) rfl ?_
    show oP p e below s₁ (mkF m 77 #[oR r0, oI 7, oI 3, oI 0, oU, oU, oU, oU, oU] [(.int 3)]) _
    refine XS.iconst X0.here hx rfl (hb hby d3_77) ?_
    refine XS.iloadN X0.here hx rfl (hb hby d3_78) rfl ?_
    refine XS.iconst X0.here hx rfl (hb hby d3_79) ?_
    refine XS.isub X0.here hx rfl (hb hby d3_80) rfl ?_
    show oP p e below s₁ (mkF m 81 #[oR r0, oI 7, oI 3, oI 0, oU, oU, oU, oU, oU] [(.int 2), (.int 0), (.int 3)]) _
    refine st139 _ ?_
    show oP p e below T139 (mkF m 84 #[oR r0, oI 7, oI 3, oI 0, oU, oU, oU, oU, oU] [(.int 2), (.int 3)]) _
    refine XS.iadd X139.here hx rfl (hb hby d3_84) rfl ?_
    show oP p e below T139 (mkF m 85 #[oR r0, oI 7, oI 3, oI 0, oU, oU, oU, oU, oU] [(.int 5)]) _
    refine st140 _ ?_
    show oP p e below T140 (mkF m 87 #[oR r0, oI 7, oI 3, oI 0, oU, oU, oU, oU, oU] [(.ref b140)]) _
    refine XS.astore X140.here hx rfl (hb hby d3_87) rfl rfl (l' := #[oR r0, oI 7, oI 3, oI 0, oR b140, oU, oU, oU, oU]) rfl ?_
    show oP p e below T140 (mkF m 89 #[oR r0, oI 7, oI 3, oI 0, oR b140, oU, oU, oU, oU] []) _
    refine XS.iconst X140.here hx rfl (hb hby d3_89) ?_
    refine XS.istore X140.here hx rfl (hb hby d3_90) rfl (l' := #[oR r0, oI 7, oI 3, oI 0, oR b140, oI 0, oU, oU, oU]) rfl ?_
    show oP p e below T140 (mkF m 92 #[oR r0, oI 7, oI 3, oI 0, oR b140, oI 0, oU, oU, oU] []) _
    refine XS.iloadN X140.here hx rfl (hb hby d3_92) rfl ?_
    refine XS.iloadN X140.here hx rfl (hb hby d3_93) rfl ?_
    refine XS.isub X140.here hx rfl (hb hby d3_94) rfl ?_
    show oP p e below T140 (mkF m 95 #[oR r0, oI 7, oI 3, oI 0, oR b140, oI 0, oU, oU, oU] [(.int 4)]) _
    refine XS.istore X140.here hx rfl (hb hby d3_95) rfl (l' := #[oR r0, oI 7, oI 3, oI 0, oR b140, oI 0, oI 4, oU, oU]) rfl ?_
    show oP p e below T140 (mkF m 97 #[oR r0, oI 7, oI 3, oI 0, oR b140, oI 0, oI 4, oU, oU] []) _
    refine XS.iconst X140.here hx rfl (hb hby d3_97) ?_
    refine XS.istore X140.here hx rfl (hb hby d3_98) rfl (l' := #[oR r0, oI 7, oI 3, oI 0, oR b140, oI 0, oI 4, oI 0, oU]) rfl ?_
    show oP p e below T140 (mkF m 100 #[oR r0, oI 7, oI 3, oI 0, oR b140, oI 0, oI 4, oI 0, oU] []) _
    refine st142 _ ?_
    show oP p e below T142 (mkF m 100 #[oR r0, oI 7, oI 3, oI 0, oR b140, oI 3, oI 4, oI 4, oI (grp d0 d1 d2 d3)] []) _
    refine XS.iload X142.here hx rfl (hb hby d3_100) rfl ?_
    show oP p e below T142 (mkF m 102 #[oR r0, oI 7, oI 3, oI 0, oR b140, oI 3, oI 4, oI 4, oI (grp d0 d1 d2 d3)] [(.int 4)]) _
    refine XS.iload X142.here hx rfl (hb hby d3_102) rfl ?_
    show oP p e below T142 (mkF m 104 #[oR r0, oI 7, oI 3, oI 0, oR b140, oI 3, oI 4, oI 4, oI (grp d0 d1 d2 d3)] [(.int 4), (.int 4)]) _
    refine XS.icmpYes X142.here hx rfl (pc0 := 104) (pc' := 233) rfl (hb hby d3_104) rfl (flt (by decide : ¬ ((4 : Int32) < (4 : Int32)))).2.1 (by decide) (by decide) ?_
    show oP p e below T142 (mkF m 233 #[oR r0, oI 7, oI 3, oI 0, oR b140, oI 3, oI 4, oI 4, oI (grp d0 d1 d2 d3)] []) _
    refine XS.iloadN X142.here hx rfl (hb hby d3_233) rfl ?_
    refine XS.iconst X142.here hx rfl (hb hby d3_234) ?_
    refine XS.icmpYes X142.here hx rfl (pc0 := 235) (pc' := 256) rfl (hb hby d3_235) rfl (feq (by decide : ¬ ((3 : Int32) = (2 : Int32)))).2 (by decide) (by decide) ?_
    show oP p e below T142 (mkF m 256 #[oR r0, oI 7, oI 3, oI 0, oR b140, oI 3, oI 4, oI 4, oI (grp d0 d1 d2 d3)] []) _
    refine XS.iloadN X142.here hx rfl (hb hby d3_256) rfl ?_
    refine XS.iconst X142.here hx rfl (hb hby d3_257) ?_
    refine XS.icmpNo X142.here hx rfl (hb hby d3_258) rfl (teq (by decide : (3 : Int32) = (3 : Int32))).2 ?_
    show oP p e below T142 (mkF m 261 #[oR r0, oI 7, oI 3, oI 0, oR b140, oI 3, oI 4, oI 4, oI (grp d0 d1 d2 d3)] []) _
    refine XS.aloadN X142.here hx rfl (hb hby d3_261) rfl rfl ?_
    refine XS.iload X142.here hx rfl (hb hby d3_262) rfl ?_
    show oP p e below T142 (mkF m 264 #[oR r0, oI 7, oI 3, oI 0, oR b140, oI 3, oI 4, oI 4, oI (grp d0 d1 d2 d3)] [(.int 4), (.ref r0)]) _
    refine XS.iconst X142.here hx rfl (hb hby d3_264) ?_
    show oP p e below T142 (mkF m 265 #[oR r0, oI 7, oI 3, oI 0, oR b140, oI 3, oI 4, oI 4, oI (grp d0 d1 d2 d3)] [(.int 3), (.int 4), (.ref r0)]) _
    refine st143 _ ?_
    show oP p e below T143 (mkF m 268 #[oR r0, oI 7, oI 3, oI 0, oR b140, oI 3, oI 4, oI 4, oI (grp d0 d1 d2 d3)] [(.int (((((((0 : Int32) <<< ((6 : Int32) &&& 31)) ||| d4) <<< ((6 : Int32) &&& 31)) ||| d5) <<< ((6 : Int32) &&& 31)) ||| d6))]) _
    refine XS.istore X143.here hx rfl (hb hby d3_268) rfl (l' := #[oR r0, oI 7, oI 3, oI 0, oR b140, oI 3, oI 4, oI (((((((0 : Int32) <<< ((6 : Int32) &&& 31)) ||| d4) <<< ((6 : Int32) &&& 31)) ||| d5) <<< ((6 : Int32) &&& 31)) ||| d6), oI (grp d0 d1 d2 d3)]) rfl ?_
    show oP p e below T143 (mkF m 270 #[oR r0, oI 7, oI 3, oI 0, oR b140, oI 3, oI 4, oI (((((((0 : Int32) <<< ((6 : Int32) &&& 31)) ||| d4) <<< ((6 : Int32) &&& 31)) ||| d5) <<< ((6 : Int32) &&& 31)) ||| d6), oI (grp d0 d1 d2 d3)] []) _
    refine XS.aload X143.here hx rfl (hb hby d3_270) rfl rfl ?_
    show oP p e below T143 (mkF m 272 #[oR r0, oI 7, oI 3, oI 0, oR b140, oI 3, oI 4, oI (((((((0 : Int32) <<< ((6 : Int32) &&& 31)) ||| d4) <<< ((6 : Int32) &&& 31)) ||| d5) <<< ((6 : Int32) &&& 31)) ||| d6), oI (grp d0 d1 d2 d3)] [(.ref b140)]) _
    refine XS.iload X143.here hx rfl (hb hby d3_272) rfl ?_
    show oP p e below T143 (mkF m 274 #[oR r0, oI 7, oI 3, oI 0, oR b140, oI 3, oI 4, oI (((((((0 : Int32) <<< ((6 : Int32) &&& 31)) ||| d4) <<< ((6 : Int32) &&& 31)) ||| d5) <<< ((6 : Int32) &&& 31)) ||| d6), oI (grp d0 d1 d2 d3)] [(.int 3), (.ref b140)]) _
    refine XS.iinc X143.here hx rfl (hb hby d3_274) rfl (l' := #[oR r0, oI 7, oI 3, oI 0, oR b140, oI 4, oI 4, oI (((((((0 : Int32) <<< ((6 : Int32) &&& 31)) ||| d4) <<< ((6 : Int32) &&& 31)) ||| d5) <<< ((6 : Int32) &&& 31)) ||| d6), oI (grp d0 d1 d2 d3)]) rfl ?_
    show oP p e below T143 (mkF m 277 #[oR r0, oI 7, oI 3, oI 0, oR b140, oI 4, oI 4, oI (((((((0 : Int32) <<< ((6 : Int32) &&& 31)) ||| d4) <<< ((6 : Int32) &&& 31)) ||| d5) <<< ((6 : Int32) &&& 31)) ||| d6), oI (grp d0 d1 d2 d3)] [(.int 3), (.ref b140)]) _
    refine XS.iload X143.here hx rfl (hb hby d3_277) rfl ?_
    show oP p e below T143 (mkF m 279 #[oR r0, oI 7, oI 3, oI 0, oR b140, oI 4, oI 4, oI (((((((0 : Int32) <<< ((6 : Int32) &&& 31)) ||| d4) <<< ((6 : Int32) &&& 31)) ||| d5) <<< ((6 : Int32) &&& 31)) ||| d6), oI (grp d0 d1 d2 d3)] [(.int (((((((0 : Int32) <<< ((6 : Int32) &&& 31)) ||| d4) <<< ((6 : Int32) &&& 31)) ||| d5) <<< ((6 : Int32) &&& 31)) ||| d6)), (.int 3), (.ref b140)]) _
    refine XS.bipush X143.here hx rfl (hb hby d3_279) ?_
    refine XS.ishr X143.here hx rfl (hb hby d3_281) rfl ?_
    show oP p e below T143 (mkF m 282 #[oR r0, oI 7, oI 3, oI 0, oR b140, oI 4, oI 4, oI (((((((0 : Int32) <<< ((6 : Int32) &&& 31)) ||| d4) <<< ((6 : Int32) &&& 31)) ||| d5) <<< ((6 : Int32) &&& 31)) ||| d6), oI (grp d0 d1 d2 d3)] [(.int ((((((((0 : Int32) <<< ((6 : Int32) &&& 31)) ||| d4) <<< ((6 : Int32) &&& 31)) ||| d5) <<< ((6 : Int32) &&& 31)) ||| d6) >>> ((10 : Int32) &&& 31))), (.int 3), (.ref b140)]) _
    refine XS.i2b X143.here hx rfl (hb hby d3_282) rfl ?_
    show oP p e below T143 (mkF m 283 #[oR r0, oI 7, oI 3, oI 0, oR b140, oI 4, oI 4, oI (((((((0 : Int32) <<< ((6 : Int32) &&& 31)) ||| d4) <<< ((6 : Int32) &&& 31)) ||| d5) <<< ((6 : Int32) &&& 31)) ||| d6), oI (grp d0 d1 d2 d3)] [(.int (((((((((0 : Int32) <<< ((6 : Int32) &&& 31)) ||| d4) <<< ((6 : Int32) &&& 31)) ||| d5) <<< ((6 : Int32) &&& 31)) ||| d6) >>> ((10 : Int32) &&& 31)).toInt8.toInt32)), (.int 3), (.ref b140)]) _
    refine st145 _ ?_
    show oP p e below T145 (mkF m 284 #[oR r0, oI 7, oI 3, oI 0, oR b140, oI 4, oI 4, oI (((((((0 : Int32) <<< ((6 : Int32) &&& 31)) ||| d4) <<< ((6 : Int32) &&& 31)) ||| d5) <<< ((6 : Int32) &&& 31)) ||| d6), oI (grp d0 d1 d2 d3)] []) _
    refine XS.aload X145.here hx rfl (hb hby d3_284) rfl rfl ?_
    show oP p e below T145 (mkF m 286 #[oR r0, oI 7, oI 3, oI 0, oR b140, oI 4, oI 4, oI (((((((0 : Int32) <<< ((6 : Int32) &&& 31)) ||| d4) <<< ((6 : Int32) &&& 31)) ||| d5) <<< ((6 : Int32) &&& 31)) ||| d6), oI (grp d0 d1 d2 d3)] [(.ref b140)]) _
    refine XS.iload X145.here hx rfl (hb hby d3_286) rfl ?_
    show oP p e below T145 (mkF m 288 #[oR r0, oI 7, oI 3, oI 0, oR b140, oI 4, oI 4, oI (((((((0 : Int32) <<< ((6 : Int32) &&& 31)) ||| d4) <<< ((6 : Int32) &&& 31)) ||| d5) <<< ((6 : Int32) &&& 31)) ||| d6), oI (grp d0 d1 d2 d3)] [(.int 4), (.ref b140)]) _
    refine XS.iload X145.here hx rfl (hb hby d3_288) rfl ?_
    show oP p e below T145 (mkF m 290 #[oR r0, oI 7, oI 3, oI 0, oR b140, oI 4, oI 4, oI (((((((0 : Int32) <<< ((6 : Int32) &&& 31)) ||| d4) <<< ((6 : Int32) &&& 31)) ||| d5) <<< ((6 : Int32) &&& 31)) ||| d6), oI (grp d0 d1 d2 d3)] [(.int (((((((0 : Int32) <<< ((6 : Int32) &&& 31)) ||| d4) <<< ((6 : Int32) &&& 31)) ||| d5) <<< ((6 : Int32) &&& 31)) ||| d6)), (.int 4), (.ref b140)]) _
    refine XS.iconst X145.here hx rfl (hb hby d3_290) ?_
    refine XS.ishr X145.here hx rfl (hb hby d3_291) rfl ?_
    show oP p e below T145 (mkF m 292 #[oR r0, oI 7, oI 3, oI 0, oR b140, oI 4, oI 4, oI (((((((0 : Int32) <<< ((6 : Int32) &&& 31)) ||| d4) <<< ((6 : Int32) &&& 31)) ||| d5) <<< ((6 : Int32) &&& 31)) ||| d6), oI (grp d0 d1 d2 d3)] [(.int ((((((((0 : Int32) <<< ((6 : Int32) &&& 31)) ||| d4) <<< ((6 : Int32) &&& 31)) ||| d5) <<< ((6 : Int32) &&& 31)) ||| d6) >>> ((2 : Int32) &&& 31))), (.int 4), (.ref b140)]) _
    refine XS.i2b X145.here hx rfl (hb hby d3_292) rfl ?_
    show oP p e below T145 (mkF m 293 #[oR r0, oI 7, oI 3, oI 0, oR b140, oI 4, oI 4, oI (((((((0 : Int32) <<< ((6 : Int32) &&& 31)) ||| d4) <<< ((6 : Int32) &&& 31)) ||| d5) <<< ((6 : Int32) &&& 31)) ||| d6), oI (grp d0 d1 d2 d3)] [(.int (((((((((0 : Int32) <<< ((6 : Int32) &&& 31)) ||| d4) <<< ((6 : Int32) &&& 31)) ||| d5) <<< ((6 : Int32) &&& 31)) ||| d6) >>> ((2 : Int32) &&& 31)).toInt8.toInt32)), (.int 4), (.ref b140)]) _
    refine st147 _ ?_
    show oP p e below T147 (mkF m 294 #[oR r0, oI 7, oI 3, oI 0, oR b140, oI 4, oI 4, oI (((((((0 : Int32) <<< ((6 : Int32) &&& 31)) ||| d4) <<< ((6 : Int32) &&& 31)) ||| d5) <<< ((6 : Int32) &&& 31)) ||| d6), oI (grp d0 d1 d2 d3)] []) _
    refine XS.aload X147.here hx rfl (hb hby d3_294) rfl rfl ?_
    show oP p e below T147 (mkF m 296 #[oR r0, oI 7, oI 3, oI 0, oR b140, oI 4, oI 4, oI (((((((0 : Int32) <<< ((6 : Int32) &&& 31)) ||| d4) <<< ((6 : Int32) &&& 31)) ||| d5) <<< ((6 : Int32) &&& 31)) ||| d6), oI (grp d0 d1 d2 d3)] [(.ref b140)]) _
    exact own_retA X147 hx Bd.returns rfl rfl (hb hby d3_296) hr
  · show ∃ (b : Addr), ∃ (kb : ClassId), (some (.ref b140) : Option Value) = some (.ref b) ∧ Fr n0 _ ∧ Keep h0 T147.heap [] ∧ h0.size ≤ b ∧ Arv Z T147.heap b kb .byte (5 : Int32) [(.int ((((grp d0 d1 d2 d3) >>> ((16 : Int32) &&& 31)).toInt8.toInt32).toInt8.toInt32)), (.int ((((grp d0 d1 d2 d3) >>> ((8 : Int32) &&& 31)).toInt8.toInt32).toInt8.toInt32)), (.int (((grp d0 d1 d2 d3).toInt8.toInt32).toInt8.toInt32)), (.int ((((((((((0 : Int32) <<< ((6 : Int32) &&& 31)) ||| d4) <<< ((6 : Int32) &&& 31)) ||| d5) <<< ((6 : Int32) &&& 31)) ||| d6) >>> ((10 : Int32) &&& 31)).toInt8.toInt32).toInt8.toInt32)), (.int ((((((((((0 : Int32) <<< ((6 : Int32) &&& 31)) ||| d4) <<< ((6 : Int32) &&& 31)) ||| d5) <<< ((6 : Int32) &&& 31)) ||| d6) >>> ((2 : Int32) &&& 31)).toInt8.toInt32).toInt8.toInt32))] (.int 0)
    rw [e147]
    exact ⟨b140, k140, rfl, N147, Kc147, sz_b140, V147⟩
theorem ef_3x131 (m : MethodId) (x0 : Addr) : entryFrame m #[(.ref x0)] 9 = mkF m 0 #[.val (.ref x0), .unset, .unset, .unset, .unset, .unset, .unset, .unset, .unset] [] := by first | (simp [entryFrame, mkF, argsToLocals, Value.category]; done) | rfl
set_option maxRecDepth 65536 in
set_option maxHeartbeats 40000000 in
theorem rm3x131 (l : Launch) (Z : State) (a0 : Array Value) (hw : ∀ d ∈ tables_1, d.before a0 Z = true) (hS : St Z) (ws : List Jvm.Cond) (r0 : Addr) (k : ClassId) (d0 : Int32) (d1 : Int32) (d2 : Int32) (d3 : Int32) (d4 : Int32) (d5 : Int32) (d6 : Int32) (r8_ : Value) (r9_ : Value) (r10_ : Value) (r11_ : Value) (h0 : Heap) (n0 : Nat) (O0 : Old Z n0 h0) (V_r0 : Arv Z h0 r0 k .byte (8 : Int32) [(.int (chv d0)), (.int (chv d1)), (.int (chv d2)), (.int (chv d3)), (.int (chv d4)), (.int (chv d5)), (.int (chv d6)), (.int 61), r8_, r9_, r10_, r11_] (.int 0)) (hd0 : Dg d0) (hd1 : Dg d1) (hd2 : Dg d2) (hd3 : Dg d3) (hd4 : Dg d4) (hd5 : Dg d5) (hd6 : Dg d6) :
    MetFree l (⟨"com/example/meerkat/meerkat/Base64Codec", "decode", "([B)[B"⟩ : MethodName) (head1 (Jvm.Cond.code (⟨"com/example/meerkat/meerkat/Base64Codec", "decode", "([B)[B"⟩ : MethodName) prog_8_method_3_code 9 (some (.array .byte)) :: ws) ({ frames := 2, cells := 1, slots := 8, locals := 60 } : Room)) (fun a U => a = #[(.ref r0)] ∧ Z.Warmed39 U.vm ∧ U.heap = h0) (fun _ _ _ _ _ => True) (fun _ U o U' => ∃ v L, o = .returned v ∧ own_Q (fun v hE L => ∃ (b : Addr), ∃ (kb : ClassId), v = some (.ref b) ∧ Fr n0 L ∧ Keep h0 hE [] ∧ h0.size ≤ b ∧ Arv Z hE b kb .byte (5 : Int32) [(.int ((((grp d0 d1 d2 d3) >>> ((16 : Int32) &&& 31)).toInt8.toInt32).toInt8.toInt32)), (.int ((((grp d0 d1 d2 d3) >>> ((8 : Int32) &&& 31)).toInt8.toInt32).toInt8.toInt32)), (.int (((grp d0 d1 d2 d3).toInt8.toInt32).toInt8.toInt32)), (.int ((((((((((0 : Int32) <<< ((6 : Int32) &&& 31)) ||| d4) <<< ((6 : Int32) &&& 31)) ||| d5) <<< ((6 : Int32) &&& 31)) ||| d6) >>> ((10 : Int32) &&& 31)).toInt8.toInt32).toInt8.toInt32)), (.int ((((((((((0 : Int32) <<< ((6 : Int32) &&& 31)) ||| d4) <<< ((6 : Int32) &&& 31)) ||| d5) <<< ((6 : Int32) &&& 31)) ||| d6) >>> ((2 : Int32) &&& 31)).toInt8.toInt32).toInt8.toInt32))] (.int 0)) v U'.heap L ∧ FrameEnd U o U' L ({ frames := 2, cells := 1, slots := 8, locals := 60 } : Room).cells ({ frames := 2, cells := 1, slots := 8, locals := 60 } : Room).slots) := by
  refine MetFree.of_bodySF (plainFor_of_name pn_1) hisR ?_
  intro p e s m args below meth c s₁ Bd hml0 hP hK
  obtain ⟨rfl, hZ, hh⟩ := hP
  have hx := Bd.exec
  have hby := Bd.bytes
  have hml : c.maxLocals = 9 := hml0
  have hown : s.vm.findClass "com/example/meerkat/meerkat/Base64Codec" = some m.cls := findClass_of_methodNamed Bd.named
  have hnm := (name_of_methodNamed Bd.named Bd.method).1
  have X0 : Stand p l e ({ frames := 2, cells := 1, slots := 8, locals := 60 } : Room) s m #[(.ref r0)] below meth c s₁ [] 0 0 := Stand.of_body Bd
  have e0 : s₁.heap = h0 := by rw [← hh, Bd.state]; rfl
  have N0 := Fr.nil n0
  have pre0 : ∀ t, Steps p.tables e below (s₁.setTop (mkF m 0 #[oR r0, oU, oU, oU, oU, oU, oU, oU, oU] [])) t → Steps p.tables e below (s₁.setTop (entryFrame m #[(.ref r0)] 9)) t := fun t k => castTop (ef_3x131 m r0) k
  obtain ⟨_, _, ⟨T148, L148, k148, n148⟩, -, X148, ⟨Lc148, hQ148, l148, y148, z148⟩, st148⟩ := Jvm.LawKit.callS X0 hx (y := (⟨"java/lang/Math", "max", "(II)I"⟩ : MethodName)) hown (mvT hZ (wi hw 12 rfl)) (mvT hZ (wi hw 13 rfl)) (mvT hZ (wi hw 14 rfl)) (mvT hZ (wi hw 15 rfl)) (by decide) (backOf (W := 1) (rm4 l Z a0 hw hS [] (0 : Int32) (2 : Int32) h0 n0 O0) hZ (wi hw 15 rfl) (wi hw 14 rfl) (by decide) (by decide)) (g := (mkF m 81 #[oR r0, oI 7, oI 3, oI 1, oU, oU, oU, oU, oU] [(.int 2), (.int 0), (.int 3)])) rfl (by rw [hml]; rfl) (argsL := [(.int 0), (.int 2)]) (rest := [(.int 3)]) (lenOf pd_3 rfl) rfl (by show 2 * 0 + _ ≤ _; exact Nat.le_of_eq rfl) (hb hby d3_81) (fun _ _ => ⟨rfl, e0, (by decide : 0 + 0 ≤ _), (by decide : 0 + 0 ≤ _)⟩)
  dsimp only [Pt.U, Pt.locs, Pt.cells, Pt.slots] at X148 l148 y148 z148 st148 hQ148
  subst l148 y148 z148
  obtain ⟨v148, N148q, h148q⟩ := hQ148
  have w148 : (fn4 Z (0 : Int32) (2 : Int32)) = (2 : Int32) := by unfold fn4; rw [if_pos (by decide : (0 : Int32) < (2 : Int32))]; all_goals first | rfl | decide
  rw [w148] at v148
  subst v148
  have N148 := Fr.app N0 N148q
  obtain ⟨T149, h149, k149, X149, e149, E149, A149, st149⟩ := newP X148 hx hZ (wi hw 0 rfl) h148q (g := (mkF m 85 #[oR r0, oI 7, oI 3, oI 1, oU, oU, oU, oU, oU] [(.int 5)])) rfl (hb hby d3_85) rfl (by decide) (cap := 5) (by decide) (by decide) (by decide) (by decide)
  obtain ⟨b149, g149⟩ : ∃ z, z = h0.size := ⟨_, rfl⟩
  have g_b149 : n0 ≤ b149 := Nat.le_trans (own_old_le O0) (Nat.le_of_eq g149.symm)
  have sz_b149 : h0.size ≤ b149 := Nat.le_trans (Keep.refl h0 []).1 (Nat.le_of_eq g149.symm)
  have ne_r0_b149 : r0 ≠ b149 := Nat.ne_of_lt (Nat.lt_of_lt_of_le V_r0.lt (Nat.le_of_eq g149.symm))
  rw [← g149] at A149 st149
  have O149 := O0.ext E149
  have Kc149 := (Keep.refl h0 []).ext E149
  have V149 : Arv Z h149 b149 k149 .byte (5 : Int32) [(.int 0), (.int 0), (.int 0), (.int 0), (.int 0)] (.int 0) := (Arv.new A149 (by decide)).pad (pad_rep [] (.int 0) 5)
  have fx150 := (V_r0.ext E149)
  obtain ⟨T151, h151, lc151, X151, e151, N151, K151q, V151', st151⟩ := tn3_0 Z a0 hw hS r0 b149 (7 : Int32) (3 : Int32) (1 : Int32) (4 : Int32) k (8 : Int32) [(.int (chv d0)), (.int (chv d1)), (.int (chv d2)), (.int (chv d3)), (.int (chv d4)), (.int (chv d5)), (.int (chv d6)), (.int 61), r8_, r9_, r10_, r11_] k149 (5 : Int32) [(.int 0), (.int 0), (.int 0), (.int 0), (.int 0)] d0 d1 d2 d3 h149 n0 O149 fx150 V149 g_b149 ne_r0_b149 hd0 hd1 hd2 hd3 rfl rfl rfl rfl ⟨by decide, by decide⟩ ⟨by decide, by decide⟩ ⟨by decide, by decide⟩ ⟨by decide, by decide⟩ ⟨by decide, by decide⟩ ⟨by decide, by decide⟩ ⟨by decide, by decide⟩ (Nat.le_of_ble_eq_true rfl) (Nat.le_of_ble_eq_true rfl) (Nat.le_of_ble_eq_true rfl) (by decide) X149 hx hZ hby hml hown e149 N148
  have O151 := O149.keep K151q (allS g_b149 all0)
  have Kc151 := Kc149.trans K151q (allS (Or.inr sz_b149) all0)
  have V151 : Arv Z h151 b149 k149 .byte (5 : Int32) [(.int ((((grp d0 d1 d2 d3) >>> ((16 : Int32) &&& 31)).toInt8.toInt32).toInt8.toInt32)), (.int ((((grp d0 d1 d2 d3) >>> ((8 : Int32) &&& 31)).toInt8.toInt32).toInt8.toInt32)), (.int (((grp d0 d1 d2 d3).toInt8.toInt32).toInt8.toInt32)), (.int 0), (.int 0)] (.int 0) := V151'
  have fx153 := (fx150.keep K151q (ninS ne_r0_b149 nin0))
  obtain ⟨_, _, ⟨T152, L152, k152, n152⟩, -, X152, ⟨Lc152, hQ152, l152, y152, z152⟩, st152⟩ := Jvm.LawKit.callS X151 hx (y := (⟨"com/example/meerkat/meerkat/Base64Codec", "bitsOf", "([BII)I"⟩ : MethodName)) hown (mvT hZ (wi hw 28 rfl)) (mvT hZ (wi hw 29 rfl)) (mvT hZ (wi hw 10 rfl)) (mvT hZ (wi hw 30 rfl)) (by decide) (backOf (W := 0) (rm8b1_3 l Z a0 hw hS [] r0 k (8 : Int32) [(.int (chv d0)), (.int (chv d1)), (.int (chv d2)), (.int (chv d3)), (.int (chv d4)), (.int (chv d5)), (.int (chv d6)), (.int 61), r8_, r9_, r10_, r11_] d4 d5 d6 h151 n0 O151 fx153 hd4 hd5 hd6 rfl rfl rfl ⟨by decide, by decide⟩ ⟨by decide, by decide⟩ ⟨by decide, by decide⟩) hZ (wi hw 30 rfl) (wi hw 10 rfl) (by decide) (by decide)) (g := (mkF m 265 #[oR r0, oI 7, oI 3, oI 1, oR b149, oI 3, oI 4, oI 4, oI (grp d0 d1 d2 d3)] [(.int 3), (.int 4), (.ref r0)])) rfl (by rw [hml]; rfl) (argsL := [(.ref r0), (.int 4), (.int 3)]) (rest := []) (lenOf pd_4 rfl) rfl (by show 2 * 0 + _ ≤ _; exact Nat.le_of_eq rfl) (hb hby d3_265) (fun _ _ => ⟨rfl, e151, (by decide : 1 + 0 ≤ _), (by decide : 5 + 0 ≤ _)⟩)
  dsimp only [Pt.U, Pt.locs, Pt.cells, Pt.slots] at X152 l152 y152 z152 st152 hQ152
  subst l152 y152 z152
  obtain ⟨v152, N152q, K152q⟩ := hQ152
  have w152 : (fn8b1_3 Z r0 k (8 : Int32) [(.int (chv d0)), (.int (chv d1)), (.int (chv d2)), (.int (chv d3)), (.int (chv d4)), (.int (chv d5)), (.int (chv d6)), (.int 61), r8_, r9_, r10_, r11_] d4 d5 d6) = (((((((0 : Int32) <<< ((6 : Int32) &&& 31)) ||| d4) <<< ((6 : Int32) &&& 31)) ||| d5) <<< ((6 : Int32) &&& 31)) ||| d6) := rfl
  rw [w152] at v152
  subst v152
  have N152 := Fr.app N151 N152q
  have O152 := O151.keep K152q all0
  have Kc152 := Kc151.trans K152q all0
  have fx155 := (V151.keep K152q nin0)
  obtain ⟨T154, h154, X154, e154, W154, V154', st154⟩ := own_stB X152 hx hZ rfl fx155 (j := (3 : Int32)) ⟨by decide, by decide⟩ rfl (by decide : ((3 : Int32) : Int32).toNatClampNeg < 5) (g := (mkF m 283 #[oR r0, oI 7, oI 3, oI 1, oR b149, oI 4, oI 4, oI (((((((0 : Int32) <<< ((6 : Int32) &&& 31)) ||| d4) <<< ((6 : Int32) &&& 31)) ||| d5) <<< ((6 : Int32) &&& 31)) ||| d6), oI (grp d0 d1 d2 d3)] [(.int (((((((((0 : Int32) <<< ((6 : Int32) &&& 31)) ||| d4) <<< ((6 : Int32) &&& 31)) ||| d5) <<< ((6 : Int32) &&& 31)) ||| d6) >>> ((10 : Int32) &&& 31)).toInt8.toInt32)), (.int 3), (.ref b149)])) rfl rfl (hb hby d3_283)
  have N154 := Fr.snoc X154 N152 g_b149
  have O154 := O152.wr W154 g_b149
  have Kc154 := Kc152.wr W154 (Or.inr sz_b149)
  have V154 : Arv Z h154 b149 k149 .byte (5 : Int32) [(.int ((((grp d0 d1 d2 d3) >>> ((16 : Int32) &&& 31)).toInt8.toInt32).toInt8.toInt32)), (.int ((((grp d0 d1 d2 d3) >>> ((8 : Int32) &&& 31)).toInt8.toInt32).toInt8.toInt32)), (.int (((grp d0 d1 d2 d3).toInt8.toInt32).toInt8.toInt32)), (.int ((((((((((0 : Int32) <<< ((6 : Int32) &&& 31)) ||| d4) <<< ((6 : Int32) &&& 31)) ||| d5) <<< ((6 : Int32) &&& 31)) ||| d6) >>> ((10 : Int32) &&& 31)).toInt8.toInt32).toInt8.toInt32)), (.int 0)] (.int 0) := V154'
  obtain ⟨T156, h156, X156, e156, W156, V156', st156⟩ := own_stB X154 hx hZ e154 V154 (j := (4 : Int32)) ⟨by decide, by decide⟩ rfl (by decide : ((4 : Int32) : Int32).toNatClampNeg < 5) (g := (mkF m 293 #[oR r0, oI 7, oI 3, oI 1, oR b149, oI 4, oI 4, oI (((((((0 : Int32) <<< ((6 : Int32) &&& 31)) ||| d4) <<< ((6 : Int32) &&& 31)) ||| d5) <<< ((6 : Int32) &&& 31)) ||| d6), oI (grp d0 d1 d2 d3)] [(.int (((((((((0 : Int32) <<< ((6 : Int32) &&& 31)) ||| d4) <<< ((6 : Int32) &&& 31)) ||| d5) <<< ((6 : Int32) &&& 31)) ||| d6) >>> ((2 : Int32) &&& 31)).toInt8.toInt32)), (.int 4), (.ref b149)])) rfl rfl (hb hby d3_293)
  have N156 := Fr.snoc X156 N154 g_b149
  have O156 := O154.wr W156 g_b149
  have Kc156 := Kc154.wr W156 (Or.inr sz_b149)
  have V156 : Arv Z h156 b149 k149 .byte (5 : Int32) [(.int ((((grp d0 d1 d2 d3) >>> ((16 : Int32) &&& 31)).toInt8.toInt32).toInt8.toInt32)), (.int ((((grp d0 d1 d2 d3) >>> ((8 : Int32) &&& 31)).toInt8.toInt32).toInt8.toInt32)), (.int (((grp d0 d1 d2 d3).toInt8.toInt32).toInt8.toInt32)), (.int ((((((((((0 : Int32) <<< ((6 : Int32) &&& 31)) ||| d4) <<< ((6 : Int32) &&& 31)) ||| d5) <<< ((6 : Int32) &&& 31)) ||| d6) >>> ((10 : Int32) &&& 31)).toInt8.toInt32).toInt8.toInt32)), (.int ((((((((((0 : Int32) <<< ((6 : Int32) &&& 31)) ||| d4) <<< ((6 : Int32) &&& 31)) ||| d5) <<< ((6 : Int32) &&& 31)) ||| d6) >>> ((2 : Int32) &&& 31)).toInt8.toInt32).toInt8.toInt32))] (.int 0) := V156'
  obtain ⟨fs, hr, hrun, hended, hW, hsame⟩ := X156.leave (v := some (.ref b149)) (fun h => by rw [Bd.returns] at h; cases h)
  refine ⟨_, _, pre0 _ ?_, hrun, hended, _, _, rfl, ?_, ⟨_, rfl⟩, hW, hsame.mono (by decide) (by decide)⟩
  · show oP p e below s₁ (mkF m 0 #[oR r0, oU, oU, oU, oU, oU, oU, oU, oU] []) _
    refine XS.aloadN X0.here hx rfl (hb hby d3_0) rfl rfl ?_
    show oP p e below s₁ (mkF m 1 #[oR r0, oU, oU, oU, oU, oU, oU, oU, oU] [(.ref r0)]) _
    refine own_len X0 hx hZ e0 V_r0 (g := (mkF m 1 #[oR r0, oU, oU, oU, oU, oU, oU, oU, oU] [(.ref r0)])) rfl rfl (hb hby d3_1) _ ?_
    show oP p e below s₁ (mkF m 2 #[oR r0, oU, oU, oU, oU, oU, oU, oU, oU] [(.int 8)]) _
    refine XS.istoreN X0.here hx rfl (hb hby d3_2) rfl (l' := #[oR r0, oI 8, oU, oU, oU, oU, oU, oU, oU]) rfl ?_
    show oP p e below s₁ (mkF m 3 #[oR r0, oI 8, oU, oU, oU, oU, oU, oU, oU] []) _
    refine XS.iloadN X0.here hx rfl (hb hby d3_3) rfl ?_
    refine XS.ifNo X0.here hx rfl (hb hby d3_4) rfl ((if0 _ _).trans (tlt (by decide : (0 : Int32) < (8 : Int32))).2.2.2) ?_
    show oP p e below s₁ (mkF m 7 #[oR r0, oI 8, oU, oU, oU, oU, oU, oU, oU] []) _
    refine XS.aloadN X0.here hx rfl (hb hby d3_7) rfl rfl ?_
    refine XS.iloadN X0.here hx rfl (hb hby d3_8) rfl ?_
    refine XS.iconst X0.here hx rfl (hb hby d3_9) ?_
    refine XS.isub X0.here hx rfl (hb hby d3_10) rfl ?_
    show oP p e below s₁ (mkF m 11 #[oR r0, oI 8, oU, oU, oU, oU, oU, oU, oU] [(.int 7), (.ref r0)]) _
    refine own_baload X0 hx hZ e0 V_r0 (j := (7 : Int32)) ⟨by decide, by decide⟩ (v := (.int 61)) rfl (g := (mkF m 11 #[oR r0, oI 8, oU, oU, oU, oU, oU, oU, oU] [(.int 7), (.ref r0)])) rfl rfl (hb hby d3_11) _ ?_
    show oP p e below s₁ (mkF m 12 #[oR r0, oI 8, oU, oU, oU, oU, oU, oU, oU] [(.int 61)]) _
    refine XS.bipush X0.here hx rfl (hb hby d3_12) ?_
    refine XS.icmpNo X0.here hx rfl (hb hby d3_14) rfl (teq (by decide : (61 : Int32) = (61 : Int32))).2 ?_
    show oP p e below s₁ (mkF m 17 #[oR r0, oI 8, oU, oU, oU, oU, oU, oU, oU] []) _
    refine XS.iinc X0.here hx rfl (hb hby d3_17) rfl (l' := #[oR r0, oI 7, oU, oU, oU, oU, oU, oU, oU]) rfl ?_
    show oP p e below s₁ (mkF m 20 #[oR r0, oI 7, oU, oU, oU, oU, oU, oU, oU] []) _
    refine XS.goto X0.here hx rfl (pc0 := 20) (pc' := 3) rfl (hb hby d3_20) (by decide) (by decide) ?_
    show oP p e below s₁ (mkF m 3 #[oR r0, oI 7, oU, oU, oU, oU, oU, oU, oU] []) _
    refine XS.iloadN X0.here hx rfl (hb hby d3_3) rfl ?_
    refine XS.ifNo X0.here hx rfl (hb hby d3_4) rfl ((if0 _ _).trans (tlt (by decide : (0 : Int32) < (7 : Int32))).2.2.2) ?_
    show oP p e below s₁ (mkF m 7 #[oR r0, oI 7, oU, oU, oU, oU, oU, oU, oU] []) _
    refine XS.aloadN X0.here hx rfl (hb hby d3_7) rfl rfl ?_
    refine XS.iloadN X0.here hx rfl (hb hby d3_8) rfl ?_
    refine XS.iconst X0.here hx rfl (hb hby d3_9) ?_
    refine XS.isub X0.here hx rfl (hb hby d3_10) rfl ?_
    show oP p e below s₁ (mkF m 11 #[oR r0, oI 7, oU, oU, oU, oU, oU, oU, oU] [(.int 6), (.ref r0)]) _
    refine own_baload X0 hx hZ e0 V_r0 (j := (6 : Int32)) ⟨by decide, by decide⟩ (v := (.int (chv d6))) rfl (g := (mkF m 11 #[oR r0, oI 7, oU, oU, oU, oU, oU, oU, oU] [(.int 6), (.ref r0)])) rfl rfl (hb hby d3_11) _ ?_
    show oP p e below s₁ (mkF m 12 #[oR r0, oI 7, oU, oU, oU, oU, oU, oU, oU] [(.int (chv d6))]) _
    refine XS.bipush X0.here hx rfl (hb hby d3_12) ?_
    refine XS.icmpYes X0.here hx rfl (pc0 := 14) (pc' := 23) rfl (hb hby d3_14) rfl (feq (chv_ne hd6)).2 (by decide) (by decide) ?_
    show oP p e below s₁ (mkF m 23 #[oR r0, oI 7, oU, oU, oU, oU, oU, oU, oU] []) _
    refine XS.iloadN X0.here hx rfl (hb hby d3_23) rfl ?_
    refine XS.iconst X0.here hx rfl (hb hby d3_24) ?_
    refine XS.irem X0.here hx rfl (hb hby d3_25) rfl (by decide) ?_
    show oP p e below s₁ (mkF m 26 #[oR r0, oI 7, oU, oU, oU, oU, oU, oU, oU] [(.int 3)]) _
    refine XS.istoreN X0.here hx rfl (hb hby d3_26) rfl (l' := #[oR r0, oI 7, oI 3, oU, oU, oU, oU, oU, oU]) rfl ?_
    show oP p e below s₁ (mkF m 27 #[oR r0, oI 7, oI 3, oU, oU, oU, oU, oU, oU] []) _
    refine XS.aloadN X0.here hx rfl (hb hby d3_27) rfl rfl ?_
    show oP p e below s₁ (mkF m 28 #[oR r0, oI 7, oI 3, oU, oU, oU, oU, oU, oU] [(.ref r0)]) _
    refine own_len X0 hx hZ e0 V_r0 (g := (mkF m 28 #[oR r0, oI 7, oI 3, oU, oU, oU, oU, oU, oU] [(.ref r0)])) rfl rfl (hb hby d3_28) _ ?_
    show oP p e below s₁ (mkF m 29 #[oR r0, oI 7, oI 3, oU, oU, oU, oU, oU, oU] [(.int 8)]) _
    refine XS.iloadN X0.here hx rfl (hb hby d3_29) rfl ?_
    refine XS.isub X0.here hx rfl (hb hby d3_30) rfl ?_
    show oP p e below s₁ (mkF m 31 #[oR r0, oI 7, oI 3, oU, oU, oU, oU, oU, oU] [(.int 1)]) _
    refine XS.istoreN X0.here hx rfl (hb hby d3_31) rfl (l' := #[oR r0, oI 7, oI 3, oI 1, oU, oU, oU, oU, oU]) rfl ?_
    show oP p e below s₁ (mkF m 32 #[oR r0, oI 7, oI 3, oI 1, oU, oU, oU, oU, oU] []) _
    refine XS.iloadN X0.here hx rfl (hb hby d3_32) rfl ?_
    refine XS.iconst X0.here hx rfl (hb hby d3_33) ?_
    refine XS.icmpYes X0.here hx rfl (pc0 := 34) (pc' := 47) rfl (hb hby d3_34) rfl (feq (by decide : ¬ ((3 : Int32) = (1 : Int32)))).2 (by decide) (by decide) ?_
    show oP p e below s₁ (mkF m 47 #[oR r0, oI 7, oI 3, oI 1, oU, oU, oU, oU, oU] []) _
    refine XS.iloadN X0.here hx rfl (hb hby d3_47) rfl ?_
    refine XS.ifNo X0.here hx rfl (hb hby d3_48) rfl ((if0 _ _).trans (tlt (by decide : (0 : Int32) < (1 : Int32))).2.2.2) ?_
    show oP p e below s₁ (mkF m 51 #[oR r0, oI 7, oI 3, oI 1, oU, oU, oU, oU, oU] []) _
    refine XS.iloadN X0.here hx rfl (hb hby d3_51) rfl ?_
    refine XS.ifNo X0.here hx rfl (hb hby d3_52) rfl ((if0 _ _).trans (feq (by decide : ¬ ((3 : Int32) = (0 : Int32)))).1) ?_
    show oP p e below s₁ (mkF m 55 #[oR r0, oI 7, oI 3, oI 1, oU, oU, oU, oU, oU] []) _
    refine XS.iloadN X0.here hx rfl (hb hby d3_55) rfl ?_
    refine XS.iconst X0.here hx rfl (hb hby d3_56) ?_
    refine XS.iloadN X0.here hx rfl (hb hby d3_57) rfl ?_
    refine XS.isub X0.here hx rfl (hb hby d3_58) rfl ?_
    show oP p e below s₁ (mkF m 59 #[oR r0, oI 7, oI 3, oI 1, oU, oU, oU, oU, oU] [(.int 1), (.int 1)]) _
    refine XS.icmpYes X0.here hx rfl (pc0 := 59) (pc' := 72) rfl (hb hby d3_59) rfl (teq (by decide : (1 : Int32) = (1 : Int32))).1 (by decide) (by decide) ?_
    show oP p e below s₁ (mkF m 72 #[oR r0, oI 7, oI 3, oI 1, oU, oU, oU, oU, oU] []) _
    refine XS.iloadN X0.here hx rfl (hb hby d3_72) rfl ?_
    refine XS.iconst X0.here hx rfl (hb hby d3_73) ?_
    refine XS.idiv X0.here hx rfl (hb hby d3_74) rfl (by decide) ?_
    show oP p e below s₁ (mkF m 75 #[oR r0, oI 7, oI 3, oI 1, oU, oU, oU, oU, oU] [(.int 1)]) _
    refine XS.iconst X0.here hx rfl (hb hby d3_75) ?_
    refine XS.imul X0.here hx rfl (hb hby d3_76) rfl ?_
    show oP p e below s₁ (mkF m 77 #[oR r0, oI 7, oI 3, oI 1, oU, oU, oU, oU, oU] [(.int 3)]) _
    refine XS.iconst X0.here hx rfl (hb hby d3_77) ?_
    refine XS.iloadN X0.here hx rfl (hb hby d3_78) rfl ?_
    refine XS.iconst X0.here hx rfl (hb hby d3_79) ?_
    refine XS.isub X0.here hx rfl (hb hby d3_80) rfl ?_
    show oP p e below s₁ (mkF m 81 #[oR r0, oI 7, oI 3, oI 1, oU, oU, oU, oU, oU] [(.int 2), (.int 0), (.int 3)]) _
    refine st148 _ ?_
    show oP p e below T148 (mkF m 84 #[oR r0, oI 7, oI 3, oI 1, oU, oU, oU, oU, oU] [(.int 2), (.int 3)]) _
    refine XS.iadd X148.here hx rfl (hb hby d3_84) rfl ?_
    show oP p e below T148 (mkF m 85 #[oR r0, oI 7, oI 3, oI 1, oU, oU, oU, oU, oU] [(.int 5)]) _
    refine st149 _ ?_
    show oP p e below T149 (mkF m 87 #[oR r0, oI 7, oI 3, oI 1, oU, oU, oU, oU, oU] [(.ref b149)]) _
    refine XS.astore X149.here hx rfl (hb hby d3_87) rfl rfl (l' := #[oR r0, oI 7, oI 3, oI 1, oR b149, oU, oU, oU, oU]) rfl ?_
    show oP p e below T149 (mkF m 89 #[oR r0, oI 7, oI 3, oI 1, oR b149, oU, oU, oU, oU] []) _
    refine XS.iconst X149.here hx rfl (hb hby d3_89) ?_
    refine XS.istore X149.here hx rfl (hb hby d3_90) rfl (l' := #[oR r0, oI 7, oI 3, oI 1, oR b149, oI 0, oU, oU, oU]) rfl ?_
    show oP p e below T149 (mkF m 92 #[oR r0, oI 7, oI 3, oI 1, oR b149, oI 0, oU, oU, oU] []) _
    refine XS.iloadN X149.here hx rfl (hb hby d3_92) rfl ?_
    refine XS.iloadN X149.here hx rfl (hb hby d3_93) rfl ?_
    refine XS.isub X149.here hx rfl (hb hby d3_94) rfl ?_
    show oP p e below T149 (mkF m 95 #[oR r0, oI 7, oI 3, oI 1, oR b149, oI 0, oU, oU, oU] [(.int 4)]) _
    refine XS.istore X149.here hx rfl (hb hby d3_95) rfl (l' := #[oR r0, oI 7, oI 3, oI 1, oR b149, oI 0, oI 4, oU, oU]) rfl ?_
    show oP p e below T149 (mkF m 97 #[oR r0, oI 7, oI 3, oI 1, oR b149, oI 0, oI 4, oU, oU] []) _
    refine XS.iconst X149.here hx rfl (hb hby d3_97) ?_
    refine XS.istore X149.here hx rfl (hb hby d3_98) rfl (l' := #[oR r0, oI 7, oI 3, oI 1, oR b149, oI 0, oI 4, oI 0, oU]) rfl ?_
    show oP p e below T149 (mkF m 100 #[oR r0, oI 7, oI 3, oI 1, oR b149, oI 0, oI 4, oI 0, oU] []) _
    refine st151 _ ?_
    show oP p e below T151 (mkF m 100 #[oR r0, oI 7, oI 3, oI 1, oR b149, oI 3, oI 4, oI 4, oI (grp d0 d1 d2 d3)] []) _
    refine XS.iload X151.here hx rfl (hb hby d3_100) rfl ?_
    show oP p e below T151 (mkF m 102 #[oR r0, oI 7, oI 3, oI 1, oR b149, oI 3, oI 4, oI 4, oI (grp d0 d1 d2 d3)] [(.int 4)]) _
    refine XS.iload X151.here hx rfl (hb hby d3_102) rfl ?_
    show oP p e below T151 (mkF m 104 #[oR r0, oI 7, oI 3, oI 1, oR b149, oI 3, oI 4, oI 4, oI (grp d0 d1 d2 d3)] [(.int 4), (.int 4)]) _
    refine XS.icmpYes X151.here hx rfl (pc0 := 104) (pc' := 233) rfl (hb hby d3_104) rfl (flt (by decide : ¬ ((4 : Int32) < (4 : Int32)))).2.1 (by decide) (by decide) ?_
    show oP p e below T151 (mkF m 233 #[oR r0, oI 7, oI 3, oI 1, oR b149, oI 3, oI 4, oI 4, oI (grp d0 d1 d2 d3)] []) _
    refine XS.iloadN X151.here hx rfl (hb hby d3_233) rfl ?_
    refine XS.iconst X151.here hx rfl (hb hby d3_234) ?_
    refine XS.icmpYes X151.here hx rfl (pc0 := 235) (pc' := 256) rfl (hb hby d3_235) rfl (feq (by decide : ¬ ((3 : Int32) = (2 : Int32)))).2 (by decide) (by decide) ?_
    show oP p e below T151 (mkF m 256 #[oR r0, oI 7, oI 3, oI 1, oR b149, oI 3, oI 4, oI 4, oI (grp d0 d1 d2 d3)] []) _
    refine XS.iloadN X151.here hx rfl (hb hby d3_256) rfl ?_
    refine XS.iconst X151.here hx rfl (hb hby d3_257) ?_
    refine XS.icmpNo X151.here hx rfl (hb hby d3_258) rfl (teq (by decide : (3 : Int32) = (3 : Int32))).2 ?_
    show oP p e below T151 (mkF m 261 #[oR r0, oI 7, oI 3, oI 1, oR b149, oI 3, oI 4, oI 4, oI (grp d0 d1 d2 d3)] []) _
    refine XS.aloadN X151.here hx rfl (hb hby d3_261) rfl rfl ?_
    refine XS.iload X151.here hx rfl (hb hby d3_262) rfl ?_
    show oP p e below T151 (mkF m 264 #[oR r0, oI 7, oI 3, oI 1, oR b149, oI 3, oI 4, oI 4, oI (grp d0 d1 d2 d3)] [(.int 4), (.ref r0)]) _
    refine XS.iconst X151.here hx rfl (hb hby d3_264) ?_
    show oP p e below T151 (mkF m 265 #[oR r0, oI 7, oI 3, oI 1, oR b149, oI 3, oI 4, oI 4, oI (grp d0 d1 d2 d3)] [(.int 3), (.int 4), (.ref r0)]) _
    refine st152 _ ?_
    show oP p e below T152 (mkF m 268 #[oR r0, oI 7, oI 3, oI 1, oR b149, oI 3, oI 4, oI 4, oI (grp d0 d1 d2 d3)] [(.int (((((((0 : Int32) <<< ((6 : Int32) &&& 31)) ||| d4) <<< ((6 : Int32) &&& 31)) ||| d5) <<< ((6 : Int32) &&& 31)) ||| d6))]) _
    refine XS.istore X152.here hx rfl (hb hby d3_268) rfl (l' := #[oR r0, oI 7, oI 3, oI 1, oR b149, oI 3, oI 4, oI (((((((0 : Int32) <<< ((6 : Int32) &&& 31)) ||| d4) <<< ((6 : Int32) &&& 31)) ||| d5) <<< ((6 : Int32) &&& 31)) ||| d6), oI (grp d0 d1 d2 d3)]) rfl ?_
    show oP p e below T152 (mkF m 270 #[oR r0, oI 7, oI 3, oI 1, oR b149, oI 3, oI 4, oI (((((((0 : Int32) <<< ((6 : Int32) &&& 31)) ||| d4) <<< ((6 : Int32) &&& 31)) ||| d5) <<< ((6 : Int32) &&& 31)) ||| d6), oI (grp d0 d1 d2 d3)] []) _
    refine XS.aload X152.here hx rfl (hb hby d3_270) rfl rfl ?_
    show oP p e below T152 (mkF m 272 #[oR r0, oI 7, oI 3, oI 1, oR b149, oI 3, oI 4, oI (((((((0 : Int32) <<< ((6 : Int32) &&& 31)) ||| d4) <<< ((6 : Int32) &&& 31)) ||| d5) <<< ((6 : Int32) &&& 31)) ||| d6), oI (grp d0 d1 d2 d3)] [(.ref b149)]) _
    refine XS.iload X152.here hx rfl (hb hby d3_272) rfl ?_
    show oP p e below T152 (mkF m 274 #[oR r0, oI 7, oI 3, oI 1, oR b149, oI 3, oI 4, oI (((((((0 : Int32) <<< ((6 : Int32) &&& 31)) ||| d4) <<< ((6 : Int32) &&& 31)) ||| d5) <<< ((6 : Int32) &&& 31)) ||| d6), oI (grp d0 d1 d2 d3)] [(.int 3), (.ref b149)]) _
    refine XS.iinc X152.here hx rfl (hb hby d3_274) rfl (l' := #[oR r0, oI 7, oI 3, oI 1, oR b149, oI 4, oI 4, oI (((((((0 : Int32) <<< ((6 : Int32) &&& 31)) ||| d4) <<< ((6 : Int32) &&& 31)) ||| d5) <<< ((6 : Int32) &&& 31)) ||| d6), oI (grp d0 d1 d2 d3)]) rfl ?_
    show oP p e below T152 (mkF m 277 #[oR r0, oI 7, oI 3, oI 1, oR b149, oI 4, oI 4, oI (((((((0 : Int32) <<< ((6 : Int32) &&& 31)) ||| d4) <<< ((6 : Int32) &&& 31)) ||| d5) <<< ((6 : Int32) &&& 31)) ||| d6), oI (grp d0 d1 d2 d3)] [(.int 3), (.ref b149)]) _
    refine XS.iload X152.here hx rfl (hb hby d3_277) rfl ?_
    show oP p e below T152 (mkF m 279 #[oR r0, oI 7, oI 3, oI 1, oR b149, oI 4, oI 4, oI (((((((0 : Int32) <<< ((6 : Int32) &&& 31)) ||| d4) <<< ((6 : Int32) &&& 31)) ||| d5) <<< ((6 : Int32) &&& 31)) ||| d6), oI (grp d0 d1 d2 d3)] [(.int (((((((0 : Int32) <<< ((6 : Int32) &&& 31)) ||| d4) <<< ((6 : Int32) &&& 31)) ||| d5) <<< ((6 : Int32) &&& 31)) ||| d6)), (.int 3), (.ref b149)]) _
    refine XS.bipush X152.here hx rfl (hb hby d3_279) ?_
    refine XS.ishr X152.here hx rfl (hb hby d3_281) rfl ?_
    show oP p e below T152 (mkF m 282 #[oR r0, oI 7, oI 3, oI 1, oR b149, oI 4, oI 4, oI (((((((0 : Int32) <<< ((6 : Int32) &&& 31)) ||| d4) <<< ((6 : Int32) &&& 31)) ||| d5) <<< ((6 : Int32) &&& 31)) ||| d6), oI (grp d0 d1 d2 d3)] [(.int ((((((((0 : Int32) <<< ((6 : Int32) &&& 31)) ||| d4) <<< ((6 : Int32) &&& 31)) ||| d5) <<< ((6 : Int32) &&& 31)) ||| d6) >>> ((10 : Int32) &&& 31))), (.int 3), (.ref b149)]) _
    refine XS.i2b X152.here hx rfl (hb hby d3_282) rfl ?_
    show oP p e below T152 (mkF m 283 #[oR r0, oI 7, oI 3, oI 1, oR b149, oI 4, oI 4, oI (((((((0 : Int32) <<< ((6 : Int32) &&& 31)) ||| d4) <<< ((6 : Int32) &&& 31)) ||| d5) <<< ((6 : Int32) &&& 31)) ||| d6), oI (grp d0 d1 d2 d3)] [(.int (((((((((0 : Int32) <<< ((6 : Int32) &&& 31)) ||| d4) <<< ((6 : Int32) &&& 31)) ||| d5) <<< ((6 : Int32) &&& 31)) ||| d6) >>> ((10 : Int32) &&& 31)).toInt8.toInt32)), (.int 3), (.ref b149)]) _
    refine st154 _ ?_
    show oP p e below T154 (mkF m 284 #[oR r0, oI 7, oI 3, oI 1, oR b149, oI 4, oI 4, oI (((((((0 : Int32) <<< ((6 : Int32) &&& 31)) ||| d4) <<< ((6 : Int32) &&& 31)) ||| d5) <<< ((6 : Int32) &&& 31)) ||| d6), oI (grp d0 d1 d2 d3)] []) _
    refine XS.aload X154.here hx rfl (hb hby d3_284) rfl rfl ?_
    show oP p e below T154 (mkF m 286 #[oR r0, oI 7, oI 3, oI 1, oR b149, oI 4, oI 4, oI (((((((0 : Int32) <<< ((6 : Int32) &&& 31)) ||| d4) <<< ((6 : Int32) &&& 31)) ||| d5) <<< ((6 : Int32) &&& 31)) ||| d6), oI (grp d0 d1 d2 d3)] [(.ref b149)]) _
    refine XS.iload X154.here hx rfl (hb hby d3_286) rfl ?_
    show oP p e below T154 (mkF m 288 #[oR r0, oI 7, oI 3, oI 1, oR b149, oI 4, oI 4, oI (((((((0 : Int32) <<< ((6 : Int32) &&& 31)) ||| d4) <<< ((6 : Int32) &&& 31)) ||| d5) <<< ((6 : Int32) &&& 31)) ||| d6), oI (grp d0 d1 d2 d3)] [(.int 4), (.ref b149)]) _
    refine XS.iload X154.here hx rfl (hb hby d3_288) rfl ?_
    show oP p e below T154 (mkF m 290 #[oR r0, oI 7, oI 3, oI 1, oR b149, oI 4, oI 4, oI (((((((0 : Int32) <<< ((6 : Int32) &&& 31)) ||| d4) <<< ((6 : Int32) &&& 31)) ||| d5) <<< ((6 : Int32) &&& 31)) ||| d6), oI (grp d0 d1 d2 d3)] [(.int (((((((0 : Int32) <<< ((6 : Int32) &&& 31)) ||| d4) <<< ((6 : Int32) &&& 31)) ||| d5) <<< ((6 : Int32) &&& 31)) ||| d6)), (.int 4), (.ref b149)]) _
    refine XS.iconst X154.here hx rfl (hb hby d3_290) ?_
    refine XS.ishr X154.here hx rfl (hb hby d3_291) rfl ?_
    show oP p e below T154 (mkF m 292 #[oR r0, oI 7, oI 3, oI 1, oR b149, oI 4, oI 4, oI (((((((0 : Int32) <<< ((6 : Int32) &&& 31)) ||| d4) <<< ((6 : Int32) &&& 31)) ||| d5) <<< ((6 : Int32) &&& 31)) ||| d6), oI (grp d0 d1 d2 d3)] [(.int ((((((((0 : Int32) <<< ((6 : Int32) &&& 31)) ||| d4) <<< ((6 : Int32) &&& 31)) ||| d5) <<< ((6 : Int32) &&& 31)) ||| d6) >>> ((2 : Int32) &&& 31))), (.int 4), (.ref b149)]) _
    refine XS.i2b X154.here hx rfl (hb hby d3_292) rfl ?_
    show oP p e below T154 (mkF m 293 #[oR r0, oI 7, oI 3, oI 1, oR b149, oI 4, oI 4, oI (((((((0 : Int32) <<< ((6 : Int32) &&& 31)) ||| d4) <<< ((6 : Int32) &&& 31)) ||| d5) <<< ((6 : Int32) &&& 31)) ||| d6), oI (grp d0 d1 d2 d3)] [(.int (((((((((0 : Int32) <<< ((6 : Int32) &&& 31)) ||| d4) <<< ((6 : Int32) &&& 31)) ||| d5) <<< ((6 : Int32) &&& 31)) ||| d6) >>> ((2 : Int32) &&& 31)).toInt8.toInt32)), (.int 4), (.ref b149)]) _
    refine st156 _ ?_
    show oP p e below T156 (mkF m 294 #[oR r0, oI 7, oI 3, oI 1, oR b149, oI 4, oI 4, oI (((((((0 : Int32) <<< ((6 : Int32) &&& 31)) ||| d4) <<< ((6 : Int32) &&& 31)) ||| d5) <<< ((6 : Int32) &&& 31)) ||| d6), oI (grp d0 d1 d2 d3)] []) _
    refine XS.aload X156.here hx rfl (hb hby d3_294) rfl rfl ?_
    show oP p e below T156 (mkF m 296 #[oR r0, oI 7, oI 3, oI 1, oR b149, oI 4, oI 4, oI (((((((0 : Int32) <<< ((6 : Int32) &&& 31)) ||| d4) <<< ((6 : Int32) &&& 31)) ||| d5) <<< ((6 : Int32) &&& 31)) ||| d6), oI (grp d0 d1 d2 d3)] [(.ref b149)]) _
    exact own_retA X156 hx Bd.returns rfl rfl (hb hby d3_296) hr
  · show ∃ (b : Addr), ∃ (kb : ClassId), (some (.ref b149) : Option Value) = some (.ref b) ∧ Fr n0 _ ∧ Keep h0 T156.heap [] ∧ h0.size ≤ b ∧ Arv Z T156.heap b kb .byte (5 : Int32) [(.int ((((grp d0 d1 d2 d3) >>> ((16 : Int32) &&& 31)).toInt8.toInt32).toInt8.toInt32)), (.int ((((grp d0 d1 d2 d3) >>> ((8 : Int32) &&& 31)).toInt8.toInt32).toInt8.toInt32)), (.int (((grp d0 d1 d2 d3).toInt8.toInt32).toInt8.toInt32)), (.int ((((((((((0 : Int32) <<< ((6 : Int32) &&& 31)) ||| d4) <<< ((6 : Int32) &&& 31)) ||| d5) <<< ((6 : Int32) &&& 31)) ||| d6) >>> ((10 : Int32) &&& 31)).toInt8.toInt32).toInt8.toInt32)), (.int ((((((((((0 : Int32) <<< ((6 : Int32) &&& 31)) ||| d4) <<< ((6 : Int32) &&& 31)) ||| d5) <<< ((6 : Int32) &&& 31)) ||| d6) >>> ((2 : Int32) &&& 31)).toInt8.toInt32).toInt8.toInt32))] (.int 0)
    rw [e156]
    exact ⟨b149, k149, rfl, N156, Kc156, sz_b149, V156⟩
theorem ef_3x200 (m : MethodId) (x0 : Addr) : entryFrame m #[(.ref x0)] 9 = mkF m 0 #[.val (.ref x0), .unset, .unset, .unset, .unset, .unset, .unset, .unset, .unset] [] := by first | (simp [entryFrame, mkF, argsToLocals, Value.category]; done) | rfl
set_option maxRecDepth 65536 in
set_option maxHeartbeats 40000000 in
theorem rm3x200 (l : Launch) (Z : State) (a0 : Array Value) (hw : ∀ d ∈ tables_1, d.before a0 Z = true) (hS : St Z) (ws : List Jvm.Cond) (r0 : Addr) (k : ClassId) (d0 : Int32) (d1 : Int32) (d2 : Int32) (d3 : Int32) (d4 : Int32) (d5 : Int32) (d6 : Int32) (d7 : Int32) (r8_ : Value) (r9_ : Value) (r10_ : Value) (r11_ : Value) (h0 : Heap) (n0 : Nat) (O0 : Old Z n0 h0) (V_r0 : Arv Z h0 r0 k .byte (8 : Int32) [(.int (chv d0)), (.int (chv d1)), (.int (chv d2)), (.int (chv d3)), (.int (chv d4)), (.int (chv d5)), (.int (chv d6)), (.int (chv d7)), r8_, r9_, r10_, r11_] (.int 0)) (hd0 : Dg d0) (hd1 : Dg d1) (hd2 : Dg d2) (hd3 : Dg d3) (hd4 : Dg d4) (hd5 : Dg d5) (hd6 : Dg d6) (hd7 : Dg d7) :
    MetFree l (⟨"com/example/meerkat/meerkat/Base64Codec", "decode", "([B)[B"⟩ : MethodName) (head1 (Jvm.Cond.code (⟨"com/example/meerkat/meerkat/Base64Codec", "decode", "([B)[B"⟩ : MethodName) prog_8_method_3_code 9 (some (.array .byte)) :: ws) ({ frames := 2, cells := 1, slots := 8, locals := 60 } : Room)) (fun a U => a = #[(.ref r0)] ∧ Z.Warmed39 U.vm ∧ U.heap = h0) (fun _ _ _ _ _ => True) (fun _ U o U' => ∃ v L, o = .returned v ∧ own_Q (fun v hE L => ∃ (b : Addr), ∃ (kb : ClassId), v = some (.ref b) ∧ Fr n0 L ∧ Keep h0 hE [] ∧ h0.size ≤ b ∧ Arv Z hE b kb .byte (6 : Int32) [(.int ((((grp d0 d1 d2 d3) >>> ((16 : Int32) &&& 31)).toInt8.toInt32).toInt8.toInt32)), (.int ((((grp d0 d1 d2 d3) >>> ((8 : Int32) &&& 31)).toInt8.toInt32).toInt8.toInt32)), (.int (((grp d0 d1 d2 d3).toInt8.toInt32).toInt8.toInt32)), (.int ((((grp d4 d5 d6 d7) >>> ((16 : Int32) &&& 31)).toInt8.toInt32).toInt8.toInt32)), (.int ((((grp d4 d5 d6 d7) >>> ((8 : Int32) &&& 31)).toInt8.toInt32).toInt8.toInt32)), (.int (((grp d4 d5 d6 d7).toInt8.toInt32).toInt8.toInt32))] (.int 0)) v U'.heap L ∧ FrameEnd U o U' L ({ frames := 2, cells := 1, slots := 8, locals := 60 } : Room).cells ({ frames := 2, cells := 1, slots := 8, locals := 60 } : Room).slots) := by
  refine MetFree.of_bodySF (plainFor_of_name pn_1) hisR ?_
  intro p e s m args below meth c s₁ Bd hml0 hP hK
  obtain ⟨rfl, hZ, hh⟩ := hP
  have hx := Bd.exec
  have hby := Bd.bytes
  have hml : c.maxLocals = 9 := hml0
  have hown : s.vm.findClass "com/example/meerkat/meerkat/Base64Codec" = some m.cls := findClass_of_methodNamed Bd.named
  have hnm := (name_of_methodNamed Bd.named Bd.method).1
  have X0 : Stand p l e ({ frames := 2, cells := 1, slots := 8, locals := 60 } : Room) s m #[(.ref r0)] below meth c s₁ [] 0 0 := Stand.of_body Bd
  have e0 : s₁.heap = h0 := by rw [← hh, Bd.state]; rfl
  have N0 := Fr.nil n0
  have pre0 : ∀ t, Steps p.tables e below (s₁.setTop (mkF m 0 #[oR r0, oU, oU, oU, oU, oU, oU, oU, oU] [])) t → Steps p.tables e below (s₁.setTop (entryFrame m #[(.ref r0)] 9)) t := fun t k => castTop (ef_3x200 m r0) k
  obtain ⟨_, _, ⟨T157, L157, k157, n157⟩, -, X157, ⟨Lc157, hQ157, l157, y157, z157⟩, st157⟩ := Jvm.LawKit.callS X0 hx (y := (⟨"java/lang/Math", "max", "(II)I"⟩ : MethodName)) hown (mvT hZ (wi hw 12 rfl)) (mvT hZ (wi hw 13 rfl)) (mvT hZ (wi hw 14 rfl)) (mvT hZ (wi hw 15 rfl)) (by decide) (backOf (W := 1) (rm4 l Z a0 hw hS [] (0 : Int32) (-1 : Int32) h0 n0 O0) hZ (wi hw 15 rfl) (wi hw 14 rfl) (by decide) (by decide)) (g := (mkF m 81 #[oR r0, oI 8, oI 0, oI 0, oU, oU, oU, oU, oU] [(.int (-1)), (.int 0), (.int 6)])) rfl (by rw [hml]; rfl) (argsL := [(.int 0), (.int (-1))]) (rest := [(.int 6)]) (lenOf pd_3 rfl) rfl (by show 2 * 0 + _ ≤ _; exact Nat.le_of_eq rfl) (hb hby d3_81) (fun _ _ => ⟨rfl, e0, (by decide : 0 + 0 ≤ _), (by decide : 0 + 0 ≤ _)⟩)
  dsimp only [Pt.U, Pt.locs, Pt.cells, Pt.slots] at X157 l157 y157 z157 st157 hQ157
  subst l157 y157 z157
  obtain ⟨v157, N157q, h157q⟩ := hQ157
  have w157 : (fn4 Z (0 : Int32) (-1 : Int32)) = (0 : Int32) := by unfold fn4; rw [if_neg (by decide : ¬ ((0 : Int32) < (-1 : Int32)))]; all_goals first | rfl | decide
  rw [w157] at v157
  subst v157
  have N157 := Fr.app N0 N157q
  obtain ⟨T158, h158, k158, X158, e158, E158, A158, st158⟩ := newP X157 hx hZ (wi hw 0 rfl) h157q (g := (mkF m 85 #[oR r0, oI 8, oI 0, oI 0, oU, oU, oU, oU, oU] [(.int 6)])) rfl (hb hby d3_85) rfl (by decide) (cap := 6) (by decide) (by decide) (by decide) (by decide)
  obtain ⟨b158, g158⟩ : ∃ z, z = h0.size := ⟨_, rfl⟩
  have g_b158 : n0 ≤ b158 := Nat.le_trans (own_old_le O0) (Nat.le_of_eq g158.symm)
  have sz_b158 : h0.size ≤ b158 := Nat.le_trans (Keep.refl h0 []).1 (Nat.le_of_eq g158.symm)
  have ne_r0_b158 : r0 ≠ b158 := Nat.ne_of_lt (Nat.lt_of_lt_of_le V_r0.lt (Nat.le_of_eq g158.symm))
  rw [← g158] at A158 st158
  have O158 := O0.ext E158
  have Kc158 := (Keep.refl h0 []).ext E158
  have V158 : Arv Z h158 b158 k158 .byte (6 : Int32) [(.int 0), (.int 0), (.int 0), (.int 0), (.int 0), (.int 0)] (.int 0) := (Arv.new A158 (by decide)).pad (pad_rep [] (.int 0) 6)
  have fx159 := (V_r0.ext E158)
  obtain ⟨T160, h160, lc160, X160, e160, N160, K160q, V160', st160⟩ := tn3_0 Z a0 hw hS r0 b158 (8 : Int32) (0 : Int32) (0 : Int32) (8 : Int32) k (8 : Int32) [(.int (chv d0)), (.int (chv d1)), (.int (chv d2)), (.int (chv d3)), (.int (chv d4)), (.int (chv d5)), (.int (chv d6)), (.int (chv d7)), r8_, r9_, r10_, r11_] k158 (6 : Int32) [(.int 0), (.int 0), (.int 0), (.int 0), (.int 0), (.int 0)] d0 d1 d2 d3 h158 n0 O158 fx159 V158 g_b158 ne_r0_b158 hd0 hd1 hd2 hd3 rfl rfl rfl rfl ⟨by decide, by decide⟩ ⟨by decide, by decide⟩ ⟨by decide, by decide⟩ ⟨by decide, by decide⟩ ⟨by decide, by decide⟩ ⟨by decide, by decide⟩ ⟨by decide, by decide⟩ (Nat.le_of_ble_eq_true rfl) (Nat.le_of_ble_eq_true rfl) (Nat.le_of_ble_eq_true rfl) (by decide) X158 hx hZ hby hml hown e158 N157
  have O160 := O158.keep K160q (allS g_b158 all0)
  have Kc160 := Kc158.trans K160q (allS (Or.inr sz_b158) all0)
  have V160 : Arv Z h160 b158 k158 .byte (6 : Int32) [(.int ((((grp d0 d1 d2 d3) >>> ((16 : Int32) &&& 31)).toInt8.toInt32).toInt8.toInt32)), (.int ((((grp d0 d1 d2 d3) >>> ((8 : Int32) &&& 31)).toInt8.toInt32).toInt8.toInt32)), (.int (((grp d0 d1 d2 d3).toInt8.toInt32).toInt8.toInt32)), (.int 0), (.int 0), (.int 0)] (.int 0) := V160'
  have fx161 := (fx159.keep K160q (ninS ne_r0_b158 nin0))
  obtain ⟨T162, h162, lc162, X162, e162, N162, K162q, V162', st162⟩ := tn3_4 Z a0 hw hS r0 b158 (8 : Int32) (0 : Int32) (0 : Int32) (8 : Int32) (grp d0 d1 d2 d3) k (8 : Int32) [(.int (chv d0)), (.int (chv d1)), (.int (chv d2)), (.int (chv d3)), (.int (chv d4)), (.int (chv d5)), (.int (chv d6)), (.int (chv d7)), r8_, r9_, r10_, r11_] k158 (6 : Int32) [(.int ((((grp d0 d1 d2 d3) >>> ((16 : Int32) &&& 31)).toInt8.toInt32).toInt8.toInt32)), (.int ((((grp d0 d1 d2 d3) >>> ((8 : Int32) &&& 31)).toInt8.toInt32).toInt8.toInt32)), (.int (((grp d0 d1 d2 d3).toInt8.toInt32).toInt8.toInt32)), (.int 0), (.int 0), (.int 0)] d4 d5 d6 d7 h160 n0 O160 fx161 V160 g_b158 ne_r0_b158 hd4 hd5 hd6 hd7 rfl rfl rfl rfl ⟨by decide, by decide⟩ ⟨by decide, by decide⟩ ⟨by decide, by decide⟩ ⟨by decide, by decide⟩ ⟨by decide, by decide⟩ ⟨by decide, by decide⟩ ⟨by decide, by decide⟩ (Nat.le_of_ble_eq_true rfl) (Nat.le_of_ble_eq_true rfl) (Nat.le_of_ble_eq_true rfl) (by decide) X160 hx hZ hby hml hown e160 N160
  have O162 := O160.keep K162q (allS g_b158 all0)
  have Kc162 := Kc160.trans K162q (allS (Or.inr sz_b158) all0)
  have V162 : Arv Z h162 b158 k158 .byte (6 : Int32) [(.int ((((grp d0 d1 d2 d3) >>> ((16 : Int32) &&& 31)).toInt8.toInt32).toInt8.toInt32)), (.int ((((grp d0 d1 d2 d3) >>> ((8 : Int32) &&& 31)).toInt8.toInt32).toInt8.toInt32)), (.int (((grp d0 d1 d2 d3).toInt8.toInt32).toInt8.toInt32)), (.int ((((grp d4 d5 d6 d7) >>> ((16 : Int32) &&& 31)).toInt8.toInt32).toInt8.toInt32)), (.int ((((grp d4 d5 d6 d7) >>> ((8 : Int32) &&& 31)).toInt8.toInt32).toInt8.toInt32)), (.int (((grp d4 d5 d6 d7).toInt8.toInt32).toInt8.toInt32))] (.int 0) := V162'
  obtain ⟨fs, hr, hrun, hended, hW, hsame⟩ := X162.leave (v := some (.ref b158)) (fun h => by rw [Bd.returns] at h; cases h)
  refine ⟨_, _, pre0 _ ?_, hrun, hended, _, _, rfl, ?_, ⟨_, rfl⟩, hW, hsame.mono (by decide) (by decide)⟩
  · show oP p e below s₁ (mkF m 0 #[oR r0, oU, oU, oU, oU, oU, oU, oU, oU] []) _
    refine XS.aloadN X0.here hx rfl (hb hby d3_0) rfl rfl ?_
    show oP p e below s₁ (mkF m 1 #[oR r0, oU, oU, oU, oU, oU, oU, oU, oU] [(.ref r0)]) _
    refine own_len X0 hx hZ e0 V_r0 (g := (mkF m 1 #[oR r0, oU, oU, oU, oU, oU, oU, oU, oU] [(.ref r0)])) rfl rfl (hb hby d3_1) _ ?_
    show oP p e below s₁ (mkF m 2 #[oR r0, oU, oU, oU, oU, oU, oU, oU, oU] [(.int 8)]) _
    refine XS.istoreN X0.here hx rfl (hb hby d3_2) rfl (l' := #[oR r0, oI 8, oU, oU, oU, oU, oU, oU, oU]) rfl ?_
    show oP p e below s₁ (mkF m 3 #[oR r0, oI 8, oU, oU, oU, oU, oU, oU, oU] []) _
    refine XS.iloadN X0.here hx rfl (hb hby d3_3) rfl ?_
    refine XS.ifNo X0.here hx rfl (hb hby d3_4) rfl ((if0 _ _).trans (tlt (by decide : (0 : Int32) < (8 : Int32))).2.2.2) ?_
    show oP p e below s₁ (mkF m 7 #[oR r0, oI 8, oU, oU, oU, oU, oU, oU, oU] []) _
    refine XS.aloadN X0.here hx rfl (hb hby d3_7) rfl rfl ?_
    refine XS.iloadN X0.here hx rfl (hb hby d3_8) rfl ?_
    refine XS.iconst X0.here hx rfl (hb hby d3_9) ?_
    refine XS.isub X0.here hx rfl (hb hby d3_10) rfl ?_
    show oP p e below s₁ (mkF m 11 #[oR r0, oI 8, oU, oU, oU, oU, oU, oU, oU] [(.int 7), (.ref r0)]) _
    refine own_baload X0 hx hZ e0 V_r0 (j := (7 : Int32)) ⟨by decide, by decide⟩ (v := (.int (chv d7))) rfl (g := (mkF m 11 #[oR r0, oI 8, oU, oU, oU, oU, oU, oU, oU] [(.int 7), (.ref r0)])) rfl rfl (hb hby d3_11) _ ?_
    show oP p e below s₁ (mkF m 12 #[oR r0, oI 8, oU, oU, oU, oU, oU, oU, oU] [(.int (chv d7))]) _
    refine XS.bipush X0.here hx rfl (hb hby d3_12) ?_
    refine XS.icmpYes X0.here hx rfl (pc0 := 14) (pc' := 23) rfl (hb hby d3_14) rfl (feq (chv_ne hd7)).2 (by decide) (by decide) ?_
    show oP p e below s₁ (mkF m 23 #[oR r0, oI 8, oU, oU, oU, oU, oU, oU, oU] []) _
    refine XS.iloadN X0.here hx rfl (hb hby d3_23) rfl ?_
    refine XS.iconst X0.here hx rfl (hb hby d3_24) ?_
    refine XS.irem X0.here hx rfl (hb hby d3_25) rfl (by decide) ?_
    show oP p e below s₁ (mkF m 26 #[oR r0, oI 8, oU, oU, oU, oU, oU, oU, oU] [(.int 0)]) _
    refine XS.istoreN X0.here hx rfl (hb hby d3_26) rfl (l' := #[oR r0, oI 8, oI 0, oU, oU, oU, oU, oU, oU]) rfl ?_
    show oP p e below s₁ (mkF m 27 #[oR r0, oI 8, oI 0, oU, oU, oU, oU, oU, oU] []) _
    refine XS.aloadN X0.here hx rfl (hb hby d3_27) rfl rfl ?_
    show oP p e below s₁ (mkF m 28 #[oR r0, oI 8, oI 0, oU, oU, oU, oU, oU, oU] [(.ref r0)]) _
    refine own_len X0 hx hZ e0 V_r0 (g := (mkF m 28 #[oR r0, oI 8, oI 0, oU, oU, oU, oU, oU, oU] [(.ref r0)])) rfl rfl (hb hby d3_28) _ ?_
    show oP p e below s₁ (mkF m 29 #[oR r0, oI 8, oI 0, oU, oU, oU, oU, oU, oU] [(.int 8)]) _
    refine XS.iloadN X0.here hx rfl (hb hby d3_29) rfl ?_
    refine XS.isub X0.here hx rfl (hb hby d3_30) rfl ?_
    show oP p e below s₁ (mkF m 31 #[oR r0, oI 8, oI 0, oU, oU, oU, oU, oU, oU] [(.int 0)]) _
    refine XS.istoreN X0.here hx rfl (hb hby d3_31) rfl (l' := #[oR r0, oI 8, oI 0, oI 0, oU, oU, oU, oU, oU]) rfl ?_
    show oP p e below s₁ (mkF m 32 #[oR r0, oI 8, oI 0, oI 0, oU, oU, oU, oU, oU] []) _
    refine XS.iloadN X0.here hx rfl (hb hby d3_32) rfl ?_
    refine XS.iconst X0.here hx rfl (hb hby d3_33) ?_
    refine XS.icmpYes X0.here hx rfl (pc0 := 34) (pc' := 47) rfl (hb hby d3_34) rfl (feq (by decide : ¬ ((0 : Int32) = (1 : Int32)))).2 (by decide) (by decide) ?_
    show oP p e below s₁ (mkF m 47 #[oR r0, oI 8, oI 0, oI 0, oU, oU, oU, oU, oU] []) _
    refine XS.iloadN X0.here hx rfl (hb hby d3_47) rfl ?_
    refine XS.ifYes X0.here hx rfl (pc0 := 48) (pc' := 72) rfl (hb hby d3_48) rfl ((if0 _ _).trans (flt (by decide : ¬ ((0 : Int32) < (0 : Int32)))).2.2.2) (by decide) (by decide) ?_
    show oP p e below s₁ (mkF m 72 #[oR r0, oI 8, oI 0, oI 0, oU, oU, oU, oU, oU] []) _
    refine XS.iloadN X0.here hx rfl (hb hby d3_72) rfl ?_
    refine XS.iconst X0.here hx rfl (hb hby d3_73) ?_
    refine XS.idiv X0.here hx rfl (hb hby d3_74) rfl (by decide) ?_
    show oP p e below s₁ (mkF m 75 #[oR r0, oI 8, oI 0, oI 0, oU, oU, oU, oU, oU] [(.int 2)]) _
    refine XS.iconst X0.here hx rfl (hb hby d3_75) ?_
    refine XS.imul X0.here hx rfl (hb hby d3_76) rfl ?_
    show oP p e below s₁ (mkF m 77 #[oR r0, oI 8, oI 0, oI 0, oU, oU, oU, oU, oU] [(.int 6)]) _
    refine XS.iconst X0.here hx rfl (hb hby d3_77) ?_
    refine XS.iloadN X0.here hx rfl (hb hby d3_78) rfl ?_
    refine XS.iconst X0.here hx rfl (hb hby d3_79) ?_
    refine XS.isub X0.here hx rfl (hb hby d3_80) rfl ?_
    show oP p e below s₁ (mkF m 81 #[oR r0, oI 8, oI 0, oI 0, oU, oU, oU, oU, oU] [(.int (-1)), (.int 0), (.int 6)]) _
    refine st157 _ ?_
    show oP p e below T157 (mkF m 84 #[oR r0, oI 8, oI 0, oI 0, oU, oU, oU, oU, oU] [(.int 0), (.int 6)]) _
    refine XS.iadd X157.here hx rfl (hb hby d3_84) rfl ?_
    show oP p e below T157 (mkF m 85 #[oR r0, oI 8, oI 0, oI 0, oU, oU, oU, oU, oU] [(.int 6)]) _
    refine st158 _ ?_
    show oP p e below T158 (mkF m 87 #[oR r0, oI 8, oI 0, oI 0, oU, oU, oU, oU, oU] [(.ref b158)]) _
    refine XS.astore X158.here hx rfl (hb hby d3_87) rfl rfl (l' := #[oR r0, oI 8, oI 0, oI 0, oR b158, oU, oU, oU, oU]) rfl ?_
    show oP p e below T158 (mkF m 89 #[oR r0, oI 8, oI 0, oI 0, oR b158, oU, oU, oU, oU] []) _
    refine XS.iconst X158.here hx rfl (hb hby d3_89) ?_
    refine XS.istore X158.here hx rfl (hb hby d3_90) rfl (l' := #[oR r0, oI 8, oI 0, oI 0, oR b158, oI 0, oU, oU, oU]) rfl ?_
    show oP p e below T158 (mkF m 92 #[oR r0, oI 8, oI 0, oI 0, oR b158, oI 0, oU, oU, oU] []) _
    refine XS.iloadN X158.here hx rfl (hb hby d3_92) rfl ?_
    refine XS.iloadN X158.here hx rfl (hb hby d3_93) rfl ?_
    refine XS.isub X158.here hx rfl (hb hby d3_94) rfl ?_
    show oP p e below T158 (mkF m 95 #[oR r0, oI 8, oI 0, oI 0, oR b158, oI 0, oU, oU, oU] [(.int 8)]) _
    refine XS.istore X158.here hx rfl (hb hby d3_95) rfl (l' := #[oR r0, oI 8, oI 0, oI 0, oR b158, oI 0, oI 8, oU, oU]) rfl ?_
    show oP p e below T158 (mkF m 97 #[oR r0, oI 8, oI 0, oI 0, oR b158, oI 0, oI 8, oU, oU] []) _
    refine XS.iconst X158.here hx rfl (hb hby d3_97) ?_
    refine XS.istore X158.here hx rfl (hb hby d3_98) rfl (l' := #[oR r0, oI 8, oI 0, oI 0, oR b158, oI 0, oI 8, oI 0, oU]) rfl ?_
    show oP p e below T158 (mkF m 100 #[oR r0, oI 8, oI 0, oI 0, oR b158, oI 0, oI 8, oI 0, oU] []) _
    refine st160 _ ?_
    show oP p e below T160 (mkF m 100 #[oR r0, oI 8, oI 0, oI 0, oR b158, oI 3, oI 8, oI 4, oI (grp d0 d1 d2 d3)] []) _
    refine st162 _ ?_
    show oP p e below T162 (mkF m 100 #[oR r0, oI 8, oI 0, oI 0, oR b158, oI 6, oI 8, oI 8, oI (grp d4 d5 d6 d7)] []) _
    refine XS.iload X162.here hx rfl (hb hby d3_100) rfl ?_
    show oP p e below T162 (mkF m 102 #[oR r0, oI 8, oI 0, oI 0, oR b158, oI 6, oI 8, oI 8, oI (grp d4 d5 d6 d7)] [(.int 8)]) _
    refine XS.iload X162.here hx rfl (hb hby d3_102) rfl ?_
    show oP p e below T162 (mkF m 104 #[oR r0, oI 8, oI 0, oI 0, oR b158, oI 6, oI 8, oI 8, oI (grp d4 d5 d6 d7)] [(.int 8), (.int 8)]) _
    refine XS.icmpYes X162.here hx rfl (pc0 := 104) (pc' := 233) rfl (hb hby d3_104) rfl (flt (by decide : ¬ ((8 : Int32) < (8 : Int32)))).2.1 (by decide) (by decide) ?_
    show oP p e below T162 (mkF m 233 #[oR r0, oI 8, oI 0, oI 0, oR b158, oI 6, oI 8, oI 8, oI (grp d4 d5 d6 d7)] []) _
    refine XS.iloadN X162.here hx rfl (hb hby d3_233) rfl ?_
    refine XS.iconst X162.here hx rfl (hb hby d3_234) ?_
    refine XS.icmpYes X162.here hx rfl (pc0 := 235) (pc' := 256) rfl (hb hby d3_235) rfl (feq (by decide : ¬ ((0 : Int32) = (2 : Int32)))).2 (by decide) (by decide) ?_
    show oP p e below T162 (mkF m 256 #[oR r0, oI 8, oI 0, oI 0, oR b158, oI 6, oI 8, oI 8, oI (grp d4 d5 d6 d7)] []) _
    refine XS.iloadN X162.here hx rfl (hb hby d3_256) rfl ?_
    refine XS.iconst X162.here hx rfl (hb hby d3_257) ?_
    refine XS.icmpYes X162.here hx rfl (pc0 := 258) (pc' := 294) rfl (hb hby d3_258) rfl (feq (by decide : ¬ ((0 : Int32) = (3 : Int32)))).2 (by decide) (by decide) ?_
    show oP p e below T162 (mkF m 294 #[oR r0, oI 8, oI 0, oI 0, oR b158, oI 6, oI 8, oI 8, oI (grp d4 d5 d6 d7)] []) _
    refine XS.aload X162.here hx rfl (hb hby d3_294) rfl rfl ?_
    show oP p e below T162 (mkF m 296 #[oR r0, oI 8, oI 0, oI 0, oR b158, oI 6, oI 8, oI 8, oI (grp d4 d5 d6 d7)] [(.ref b158)]) _
    exact own_retA X162 hx Bd.returns rfl rfl (hb hby d3_296) hr
  · show ∃ (b : Addr), ∃ (kb : ClassId), (some (.ref b158) : Option Value) = some (.ref b) ∧ Fr n0 _ ∧ Keep h0 T162.heap [] ∧ h0.size ≤ b ∧ Arv Z T162.heap b kb .byte (6 : Int32) [(.int ((((grp d0 d1 d2 d3) >>> ((16 : Int32) &&& 31)).toInt8.toInt32).toInt8.toInt32)), (.int ((((grp d0 d1 d2 d3) >>> ((8 : Int32) &&& 31)).toInt8.toInt32).toInt8.toInt32)), (.int (((grp d0 d1 d2 d3).toInt8.toInt32).toInt8.toInt32)), (.int ((((grp d4 d5 d6 d7) >>> ((16 : Int32) &&& 31)).toInt8.toInt32).toInt8.toInt32)), (.int ((((grp d4 d5 d6 d7) >>> ((8 : Int32) &&& 31)).toInt8.toInt32).toInt8.toInt32)), (.int (((grp d4 d5 d6 d7).toInt8.toInt32).toInt8.toInt32))] (.int 0)
    rw [e162]
    exact ⟨b158, k158, rfl, N162, Kc162, sz_b158, V162⟩
theorem ef_3x220 (m : MethodId) (x0 : Addr) : entryFrame m #[(.ref x0)] 9 = mkF m 0 #[.val (.ref x0), .unset, .unset, .unset, .unset, .unset, .unset, .unset, .unset] [] := by first | (simp [entryFrame, mkF, argsToLocals, Value.category]; done) | rfl
set_option maxRecDepth 65536 in
set_option maxHeartbeats 40000000 in
theorem rm3x220 (l : Launch) (Z : State) (a0 : Array Value) (hw : ∀ d ∈ tables_1, d.before a0 Z = true) (hS : St Z) (ws : List Jvm.Cond) (r0 : Addr) (k : ClassId) (d0 : Int32) (d1 : Int32) (d2 : Int32) (d3 : Int32) (d4 : Int32) (d5 : Int32) (d6 : Int32) (d7 : Int32) (d8 : Int32) (d9 : Int32) (r10_ : Value) (r11_ : Value) (h0 : Heap) (n0 : Nat) (O0 : Old Z n0 h0) (V_r0 : Arv Z h0 r0 k .byte (10 : Int32) [(.int (chv d0)), (.int (chv d1)), (.int (chv d2)), (.int (chv d3)), (.int (chv d4)), (.int (chv d5)), (.int (chv d6)), (.int (chv d7)), (.int (chv d8)), (.int (chv d9)), r10_, r11_] (.int 0)) (hd0 : Dg d0) (hd1 : Dg d1) (hd2 : Dg d2) (hd3 : Dg d3) (hd4 : Dg d4) (hd5 : Dg d5) (hd6 : Dg d6) (hd7 : Dg d7) (hd8 : Dg d8) (hd9 : Dg d9) :
    MetFree l (⟨"com/example/meerkat/meerkat/Base64Codec", "decode", "([B)[B"⟩ : MethodName) (head1 (Jvm.Cond.code (⟨"com/example/meerkat/meerkat/Base64Codec", "decode", "([B)[B"⟩ : MethodName) prog_8_method_3_code 9 (some (.array .byte)) :: ws) ({ frames := 2, cells := 1, slots := 8, locals := 60 } : Room)) (fun a U => a = #[(.ref r0)] ∧ Z.Warmed39 U.vm ∧ U.heap = h0) (fun _ _ _ _ _ => True) (fun _ U o U' => ∃ v L, o = .returned v ∧ own_Q (fun v hE L => ∃ (b : Addr), ∃ (kb : ClassId), v = some (.ref b) ∧ Fr n0 L ∧ Keep h0 hE [] ∧ h0.size ≤ b ∧ Arv Z hE b kb .byte (7 : Int32) [(.int ((((grp d0 d1 d2 d3) >>> ((16 : Int32) &&& 31)).toInt8.toInt32).toInt8.toInt32)), (.int ((((grp d0 d1 d2 d3) >>> ((8 : Int32) &&& 31)).toInt8.toInt32).toInt8.toInt32)), (.int (((grp d0 d1 d2 d3).toInt8.toInt32).toInt8.toInt32)), (.int ((((grp d4 d5 d6 d7) >>> ((16 : Int32) &&& 31)).toInt8.toInt32).toInt8.toInt32)), (.int ((((grp d4 d5 d6 d7) >>> ((8 : Int32) &&& 31)).toInt8.toInt32).toInt8.toInt32)), (.int (((grp d4 d5 d6 d7).toInt8.toInt32).toInt8.toInt32)), (.int ((((((((0 : Int32) <<< ((6 : Int32) &&& 31)) ||| d8) <<< ((6 : Int32) &&& 31)) ||| d9) >>> ((4 : Int32) &&& 31)).toInt8.toInt32).toInt8.toInt32))] (.int 0)) v U'.heap L ∧ FrameEnd U o U' L ({ frames := 2, cells := 1, slots := 8, locals := 60 } : Room).cells ({ frames := 2, cells := 1, slots := 8, locals := 60 } : Room).slots) := by
  refine MetFree.of_bodySF (plainFor_of_name pn_1) hisR ?_
  intro p e s m args below meth c s₁ Bd hml0 hP hK
  obtain ⟨rfl, hZ, hh⟩ := hP
  have hx := Bd.exec
  have hby := Bd.bytes
  have hml : c.maxLocals = 9 := hml0
  have hown : s.vm.findClass "com/example/meerkat/meerkat/Base64Codec" = some m.cls := findClass_of_methodNamed Bd.named
  have hnm := (name_of_methodNamed Bd.named Bd.method).1
  have X0 : Stand p l e ({ frames := 2, cells := 1, slots := 8, locals := 60 } : Room) s m #[(.ref r0)] below meth c s₁ [] 0 0 := Stand.of_body Bd
  have e0 : s₁.heap = h0 := by rw [← hh, Bd.state]; rfl
  have N0 := Fr.nil n0
  have pre0 : ∀ t, Steps p.tables e below (s₁.setTop (mkF m 0 #[oR r0, oU, oU, oU, oU, oU, oU, oU, oU] [])) t → Steps p.tables e below (s₁.setTop (entryFrame m #[(.ref r0)] 9)) t := fun t k => castTop (ef_3x220 m r0) k
  obtain ⟨_, _, ⟨T163, L163, k163, n163⟩, -, X163, ⟨Lc163, hQ163, l163, y163, z163⟩, st163⟩ := Jvm.LawKit.callS X0 hx (y := (⟨"java/lang/Math", "max", "(II)I"⟩ : MethodName)) hown (mvT hZ (wi hw 12 rfl)) (mvT hZ (wi hw 13 rfl)) (mvT hZ (wi hw 14 rfl)) (mvT hZ (wi hw 15 rfl)) (by decide) (backOf (W := 1) (rm4 l Z a0 hw hS [] (0 : Int32) (1 : Int32) h0 n0 O0) hZ (wi hw 15 rfl) (wi hw 14 rfl) (by decide) (by decide)) (g := (mkF m 81 #[oR r0, oI 10, oI 2, oI 0, oU, oU, oU, oU, oU] [(.int 1), (.int 0), (.int 6)])) rfl (by rw [hml]; rfl) (argsL := [(.int 0), (.int 1)]) (rest := [(.int 6)]) (lenOf pd_3 rfl) rfl (by show 2 * 0 + _ ≤ _; exact Nat.le_of_eq rfl) (hb hby d3_81) (fun _ _ => ⟨rfl, e0, (by decide : 0 + 0 ≤ _), (by decide : 0 + 0 ≤ _)⟩)
  dsimp only [Pt.U, Pt.locs, Pt.cells, Pt.slots] at X163 l163 y163 z163 st163 hQ163
  subst l163 y163 z163
  obtain ⟨v163, N163q, h163q⟩ := hQ163
  have w163 : (fn4 Z (0 : Int32) (1 : Int32)) = (1 : Int32) := by unfold fn4; rw [if_pos (by decide : (0 : Int32) < (1 : Int32))]; all_goals first | rfl | decide
  rw [w163] at v163
  subst v163
  have N163 := Fr.app N0 N163q
  obtain ⟨T164, h164, k164, X164, e164, E164, A164, st164⟩ := newP X163 hx hZ (wi hw 0 rfl) h163q (g := (mkF m 85 #[oR r0, oI 10, oI 2, oI 0, oU, oU, oU, oU, oU] [(.int 7)])) rfl (hb hby d3_85) rfl (by decide) (cap := 7) (by decide) (by decide) (by decide) (by decide)
  obtain ⟨b164, g164⟩ : ∃ z, z = h0.size := ⟨_, rfl⟩
  have g_b164 : n0 ≤ b164 := Nat.le_trans (own_old_le O0) (Nat.le_of_eq g164.symm)
  have sz_b164 : h0.size ≤ b164 := Nat.le_trans (Keep.refl h0 []).1 (Nat.le_of_eq g164.symm)
  have ne_r0_b164 : r0 ≠ b164 := Nat.ne_of_lt (Nat.lt_of_lt_of_le V_r0.lt (Nat.le_of_eq g164.symm))
  rw [← g164] at A164 st164
  have O164 := O0.ext E164
  have Kc164 := (Keep.refl h0 []).ext E164
  have V164 : Arv Z h164 b164 k164 .byte (7 : Int32) [(.int 0), (.int 0), (.int 0), (.int 0), (.int 0), (.int 0), (.int 0)] (.int 0) := (Arv.new A164 (by decide)).pad (pad_rep [] (.int 0) 7)
  have fx165 := (V_r0.ext E164)
  obtain ⟨T166, h166, lc166, X166, e166, N166, K166q, V166', st166⟩ := tn3_0 Z a0 hw hS r0 b164 (10 : Int32) (2 : Int32) (0 : Int32) (8 : Int32) k (10 : Int32) [(.int (chv d0)), (.int (chv d1)), (.int (chv d2)), (.int (chv d3)), (.int (chv d4)), (.int (chv d5)), (.int (chv d6)), (.int (chv d7)), (.int (chv d8)), (.int (chv d9)), r10_, r11_] k164 (7 : Int32) [(.int 0), (.int 0), (.int 0), (.int 0), (.int 0), (.int 0), (.int 0)] d0 d1 d2 d3 h164 n0 O164 fx165 V164 g_b164 ne_r0_b164 hd0 hd1 hd2 hd3 rfl rfl rfl rfl ⟨by decide, by decide⟩ ⟨by decide, by decide⟩ ⟨by decide, by decide⟩ ⟨by decide, by decide⟩ ⟨by decide, by decide⟩ ⟨by decide, by decide⟩ ⟨by decide, by decide⟩ (Nat.le_of_ble_eq_true rfl) (Nat.le_of_ble_eq_true rfl) (Nat.le_of_ble_eq_true rfl) (by decide) X164 hx hZ hby hml hown e164 N163
  have O166 := O164.keep K166q (allS g_b164 all0)
  have Kc166 := Kc164.trans K166q (allS (Or.inr sz_b164) all0)
  have V166 : Arv Z h166 b164 k164 .byte (7 : Int32) [(.int ((((grp d0 d1 d2 d3) >>> ((16 : Int32) &&& 31)).toInt8.toInt32).toInt8.toInt32)), (.int ((((grp d0 d1 d2 d3) >>> ((8 : Int32) &&& 31)).toInt8.toInt32).toInt8.toInt32)), (.int (((grp d0 d1 d2 d3).toInt8.toInt32).toInt8.toInt32)), (.int 0), (.int 0), (.int 0), (.int 0)] (.int 0) := V166'
  have fx167 := (fx165.keep K166q (ninS ne_r0_b164 nin0))
  obtain ⟨T168, h168, lc168, X168, e168, N168, K168q, V168', st168⟩ := tn3_4 Z a0 hw hS r0 b164 (10 : Int32) (2 : Int32) (0 : Int32) (8 : Int32) (grp d0 d1 d2 d3) k (10 : Int32) [(.int (chv d0)), (.int (chv d1)), (.int (chv d2)), (.int (chv d3)), (.int (chv d4)), (.int (chv d5)), (.int (chv d6)), (.int (chv d7)), (.int (chv d8)), (.int (chv d9)), r10_, r11_] k164 (7 : Int32) [(.int ((((grp d0 d1 d2 d3) >>> ((16 : Int32) &&& 31)).toInt8.toInt32).toInt8.toInt32)), (.int ((((grp d0 d1 d2 d3) >>> ((8 : Int32) &&& 31)).toInt8.toInt32).toInt8.toInt32)), (.int (((grp d0 d1 d2 d3).toInt8.toInt32).toInt8.toInt32)), (.int 0), (.int 0), (.int 0), (.int 0)] d4 d5 d6 d7 h166 n0 O166 fx167 V166 g_b164 ne_r0_b164 hd4 hd5 hd6 hd7 rfl rfl rfl rfl ⟨by decide, by decide⟩ ⟨by decide, by decide⟩ ⟨by decide, by decide⟩ ⟨by decide, by decide⟩ ⟨by decide, by decide⟩ ⟨by decide, by decide⟩ ⟨by decide, by decide⟩ (Nat.le_of_ble_eq_true rfl) (Nat.le_of_ble_eq_true rfl) (Nat.le_of_ble_eq_true rfl) (by decide) X166 hx hZ hby hml hown e166 N166
  have O168 := O166.keep K168q (allS g_b164 all0)
  have Kc168 := Kc166.trans K168q (allS (Or.inr sz_b164) all0)
  have V168 : Arv Z h168 b164 k164 .byte (7 : Int32) [(.int ((((grp d0 d1 d2 d3) >>> ((16 : Int32) &&& 31)).toInt8.toInt32).toInt8.toInt32)), (.int ((((grp d0 d1 d2 d3) >>> ((8 : Int32) &&& 31)).toInt8.toInt32).toInt8.toInt32)), (.int (((grp d0 d1 d2 d3).toInt8.toInt32).toInt8.toInt32)), (.int ((((grp d4 d5 d6 d7) >>> ((16 : Int32) &&& 31)).toInt8.toInt32).toInt8.toInt32)), (.int ((((grp d4 d5 d6 d7) >>> ((8 : Int32) &&& 31)).toInt8.toInt32).toInt8.toInt32)), (.int (((grp d4 d5 d6 d7).toInt8.toInt32).toInt8.toInt32)), (.int 0)] (.int 0) := V168'
  have fx170 := (fx167.keep K168q (ninS ne_r0_b164 nin0))
  obtain ⟨_, _, ⟨T169, L169, k169, n169⟩, -, X169, ⟨Lc169, hQ169, l169, y169, z169⟩, st169⟩ := Jvm.LawKit.callS X168 hx (y := (⟨"com/example/meerkat/meerkat/Base64Codec", "bitsOf", "([BII)I"⟩ : MethodName)) hown (mvT hZ (wi hw 28 rfl)) (mvT hZ (wi hw 29 rfl)) (mvT hZ (wi hw 10 rfl)) (mvT hZ (wi hw 30 rfl)) (by decide) (backOf (W := 2) (rm8b2_2 l Z a0 hw hS [] r0 k (10 : Int32) [(.int (chv d0)), (.int (chv d1)), (.int (chv d2)), (.int (chv d3)), (.int (chv d4)), (.int (chv d5)), (.int (chv d6)), (.int (chv d7)), (.int (chv d8)), (.int (chv d9)), r10_, r11_] d8 d9 h168 n0 O168 fx170 hd8 hd9 rfl rfl ⟨by decide, by decide⟩ ⟨by decide, by decide⟩) hZ (wi hw 30 rfl) (wi hw 10 rfl) (by decide) (by decide)) (g := (mkF m 246 #[oR r0, oI 10, oI 2, oI 0, oR b164, oI 6, oI 8, oI 8, oI (grp d4 d5 d6 d7)] [(.int 2), (.int 8), (.ref r0), (.int 6), (.ref b164)])) rfl (by rw [hml]; rfl) (argsL := [(.ref r0), (.int 8), (.int 2)]) (rest := [(.int 6), (.ref b164)]) (lenOf pd_4 rfl) rfl (by show 2 * 0 + _ ≤ _; exact Nat.le_of_eq rfl) (hb hby d3_246) (fun _ _ => ⟨rfl, e168, (by decide : 1 + 0 ≤ _), (by decide : 7 + 0 ≤ _)⟩)
  dsimp only [Pt.U, Pt.locs, Pt.cells, Pt.slots] at X169 l169 y169 z169 st169 hQ169
  subst l169 y169 z169
  obtain ⟨v169, N169q, K169q⟩ := hQ169
  have w169 : (fn8b2_2 Z r0 k (10 : Int32) [(.int (chv d0)), (.int (chv d1)), (.int (chv d2)), (.int (chv d3)), (.int (chv d4)), (.int (chv d5)), (.int (chv d6)), (.int (chv d7)), (.int (chv d8)), (.int (chv d9)), r10_, r11_] d8 d9) = (((((0 : Int32) <<< ((6 : Int32) &&& 31)) ||| d8) <<< ((6 : Int32) &&& 31)) ||| d9) := rfl
  rw [w169] at v169
  subst v169
  have N169 := Fr.app N168 N169q
  have O169 := O168.keep K169q all0
  have Kc169 := Kc168.trans K169q all0
  have fx172 := (V168.keep K169q nin0)
  obtain ⟨T171, h171, X171, e171, W171, V171', st171⟩ := own_stB X169 hx hZ rfl fx172 (j := (6 : Int32)) ⟨by decide, by decide⟩ rfl (by decide : ((6 : Int32) : Int32).toNatClampNeg < 7) (g := (mkF m 252 #[oR r0, oI 10, oI 2, oI 0, oR b164, oI 6, oI 8, oI 8, oI (grp d4 d5 d6 d7)] [(.int (((((((0 : Int32) <<< ((6 : Int32) &&& 31)) ||| d8) <<< ((6 : Int32) &&& 31)) ||| d9) >>> ((4 : Int32) &&& 31)).toInt8.toInt32)), (.int 6), (.ref b164)])) rfl rfl (hb hby d3_252)
  have N171 := Fr.snoc X171 N169 g_b164
  have O171 := O169.wr W171 g_b164
  have Kc171 := Kc169.wr W171 (Or.inr sz_b164)
  have V171 : Arv Z h171 b164 k164 .byte (7 : Int32) [(.int ((((grp d0 d1 d2 d3) >>> ((16 : Int32) &&& 31)).toInt8.toInt32).toInt8.toInt32)), (.int ((((grp d0 d1 d2 d3) >>> ((8 : Int32) &&& 31)).toInt8.toInt32).toInt8.toInt32)), (.int (((grp d0 d1 d2 d3).toInt8.toInt32).toInt8.toInt32)), (.int ((((grp d4 d5 d6 d7) >>> ((16 : Int32) &&& 31)).toInt8.toInt32).toInt8.toInt32)), (.int ((((grp d4 d5 d6 d7) >>> ((8 : Int32) &&& 31)).toInt8.toInt32).toInt8.toInt32)), (.int (((grp d4 d5 d6 d7).toInt8.toInt32).toInt8.toInt32)), (.int ((((((((0 : Int32) <<< ((6 : Int32) &&& 31)) ||| d8) <<< ((6 : Int32) &&& 31)) ||| d9) >>> ((4 : Int32) &&& 31)).toInt8.toInt32).toInt8.toInt32))] (.int 0) := V171'
  obtain ⟨fs, hr, hrun, hended, hW, hsame⟩ := X171.leave (v := some (.ref b164)) (fun h => by rw [Bd.returns] at h; cases h)
  refine ⟨_, _, pre0 _ ?_, hrun, hended, _, _, rfl, ?_, ⟨_, rfl⟩, hW, hsame.mono (by decide) (by decide)⟩
  · show oP p e below s₁ (mkF m 0 #[oR r0, oU, oU, oU, oU, oU, oU, oU, oU] []) _
    refine XS.aloadN X0.here hx rfl (hb hby d3_0) rfl rfl ?_
    show oP p e below s₁ (mkF m 1 #[oR r0, oU, oU, oU, oU, oU, oU, oU, oU] [(.ref r0)]) _
    refine own_len X0 hx hZ e0 V_r0 (g := (mkF m 1 #[oR r0, oU, oU, oU, oU, oU, oU, oU, oU] [(.ref r0)])) rfl rfl (hb hby d3_1) _ ?_
    show oP p e below s₁ (mkF m 2 #[oR r0, oU, oU, oU, oU, oU, oU, oU, oU] [(.int 10)]) _
    refine XS.istoreN X0.here hx rfl (hb hby d3_2) rfl (l' := #[oR r0, oI 10, oU, oU, oU, oU, oU, oU, oU]) rfl ?_
    show oP p e below s₁ (mkF m 3 #[oR r0, oI 10, oU, oU, oU, oU, oU, oU, oU] []) _
    refine XS.iloadN X0.here hx rfl (hb hby d3_3) rfl ?_
    refine XS.ifNo X0.here hx rfl (hb hby d3_4) rfl ((if0 _ _).trans (tlt (by decide : (0 : Int32) < (10 : Int32))).2.2.2) ?_
    show oP p e below s₁ (mkF m 7 #[oR r0, oI 10, oU, oU, oU, oU, oU, oU, oU] []) _
    refine XS.aloadN X0.here hx rfl (hb hby d3_7) rfl rfl ?_
    refine XS.iloadN X0.here hx rfl (hb hby d3_8) rfl ?_
    refine XS.iconst X0.here hx rfl (hb hby d3_9) ?_
    refine XS.isub X0.here hx rfl (hb hby d3_10) rfl ?_
    show oP p e below s₁ (mkF m 11 #[oR r0, oI 10, oU, oU, oU, oU, oU, oU, oU] [(.int 9), (.ref r0)]) _
    refine own_baload X0 hx hZ e0 V_r0 (j := (9 : Int32)) ⟨by decide, by decide⟩ (v := (.int (chv d9))) rfl (g := (mkF m 11 #[oR r0, oI 10, oU, oU, oU, oU, oU, oU, oU] [(.int 9), (.ref r0)])) rfl rfl (hb hby d3_11) _ ?_
    show oP p e below s₁ (mkF m 12 #[oR r0, oI 10, oU, oU, oU, oU, oU, oU, oU] [(.int (chv d9))]) _
    refine XS.bipush X0.here hx rfl (hb hby d3_12) ?_
    refine XS.icmpYes X0.here hx rfl (pc0 := 14) (pc' := 23) rfl (hb hby d3_14) rfl (feq (chv_ne hd9)).2 (by decide) (by decide) ?_
    show oP p e below s₁ (mkF m 23 #[oR r0, oI 10, oU, oU, oU, oU, oU, oU, oU] []) _
    refine XS.iloadN X0.here hx rfl (hb hby d3_23) rfl ?_
    refine XS.iconst X0.here hx rfl (hb hby d3_24) ?_
    refine XS.irem X0.here hx rfl (hb hby d3_25) rfl (by decide) ?_
    show oP p e below s₁ (mkF m 26 #[oR r0, oI 10, oU, oU, oU, oU, oU, oU, oU] [(.int 2)]) _
    refine XS.istoreN X0.here hx rfl (hb hby d3_26) rfl (l' := #[oR r0, oI 10, oI 2, oU, oU, oU, oU, oU, oU]) rfl ?_
    show oP p e below s₁ (mkF m 27 #[oR r0, oI 10, oI 2, oU, oU, oU, oU, oU, oU] []) _
    refine XS.aloadN X0.here hx rfl (hb hby d3_27) rfl rfl ?_
    show oP p e below s₁ (mkF m 28 #[oR r0, oI 10, oI 2, oU, oU, oU, oU, oU, oU] [(.ref r0)]) _
    refine own_len X0 hx hZ e0 V_r0 (g := (mkF m 28 #[oR r0, oI 10, oI 2, oU, oU, oU, oU, oU, oU] [(.ref r0)])) rfl rfl (hb hby d3_28) _ ?_
    show oP p e below s₁ (mkF m 29 #[oR r0, oI 10, oI 2, oU, oU, oU, oU, oU, oU] [(.int 10)]) _
    refine XS.iloadN X0.here hx rfl (hb hby d3_29) rfl ?_
    refine XS.isub X0.here hx rfl (hb hby d3_30) rfl ?_
    show oP p e below s₁ (mkF m 31 #[oR r0, oI 10, oI 2, oU, oU, oU, oU, oU, oU] [(.int 0)]) _
    refine XS.istoreN X0.here hx rfl (hb hby d3_31) rfl (l' := #[oR r0, oI 10, oI 2, oI 0, oU, oU, oU, oU, oU]) rfl ?_
    show oP p e below s₁ (mkF m 32 #[oR r0, oI 10, oI 2, oI 0, oU, oU, oU, oU, oU] []) _
    refine XS.iloadN X0.here hx rfl (hb hby d3_32) rfl ?_
    refine XS.iconst X0.here hx rfl (hb hby d3_33) ?_
    refine XS.icmpYes X0.here hx rfl (pc0 := 34) (pc' := 47) rfl (hb hby d3_34) rfl (feq (by decide : ¬ ((2 : Int32) = (1 : Int32)))).2 (by decide) (by decide) ?_
    show oP p e below s₁ (mkF m 47 #[oR r0, oI 10, oI 2, oI 0, oU, oU, oU, oU, oU] []) _
    refine XS.iloadN X0.here hx rfl (hb hby d3_47) rfl ?_
    refine XS.ifYes X0.here hx rfl (pc0 := 48) (pc' := 72) rfl (hb hby d3_48) rfl ((if0 _ _).trans (flt (by decide : ¬ ((0 : Int32) < (0 : Int32)))).2.2.2) (by decide) (by decide) ?_
    show oP p e below s₁ (mkF m 72 #[oR r0, oI 10, oI 2, oI 0, oU, oU, oU, oU, oU] []) _
    refine XS.iloadN X0.here hx rfl (hb hby d3_72) rfl ?_
    refine XS.iconst X0.here hx rfl (hb hby d3_73) ?_
    refine XS.idiv X0.here hx rfl (hb hby d3_74) rfl (by decide) ?_
    show oP p e below s₁ (mkF m 75 #[oR r0, oI 10, oI 2, oI 0, oU, oU, oU, oU, oU] [(.int 2)]) _
    refine XS.iconst X0.here hx rfl (hb hby d3_75) ?_
    refine XS.imul X0.here hx rfl (hb hby d3_76) rfl ?_
    show oP p e below s₁ (mkF m 77 #[oR r0, oI 10, oI 2, oI 0, oU, oU, oU, oU, oU] [(.int 6)]) _
    refine XS.iconst X0.here hx rfl (hb hby d3_77) ?_
    refine XS.iloadN X0.here hx rfl (hb hby d3_78) rfl ?_
    refine XS.iconst X0.here hx rfl (hb hby d3_79) ?_
    refine XS.isub X0.here hx rfl (hb hby d3_80) rfl ?_
    show oP p e below s₁ (mkF m 81 #[oR r0, oI 10, oI 2, oI 0, oU, oU, oU, oU, oU] [(.int 1), (.int 0), (.int 6)]) _
    refine st163 _ ?_
    show oP p e below T163 (mkF m 84 #[oR r0, oI 10, oI 2, oI 0, oU, oU, oU, oU, oU] [(.int 1), (.int 6)]) _
    refine XS.iadd X163.here hx rfl (hb hby d3_84) rfl ?_
    show oP p e below T163 (mkF m 85 #[oR r0, oI 10, oI 2, oI 0, oU, oU, oU, oU, oU] [(.int 7)]) _
    refine st164 _ ?_
    show oP p e below T164 (mkF m 87 #[oR r0, oI 10, oI 2, oI 0, oU, oU, oU, oU, oU] [(.ref b164)]) _
    refine XS.astore X164.here hx rfl (hb hby d3_87) rfl rfl (l' := #[oR r0, oI 10, oI 2, oI 0, oR b164, oU, oU, oU, oU]) rfl ?_
    show oP p e below T164 (mkF m 89 #[oR r0, oI 10, oI 2, oI 0, oR b164, oU, oU, oU, oU] []) _
    refine XS.iconst X164.here hx rfl (hb hby d3_89) ?_
    refine XS.istore X164.here hx rfl (hb hby d3_90) rfl (l' := #[oR r0, oI 10, oI 2, oI 0, oR b164, oI 0, oU, oU, oU]) rfl ?_
    show oP p e below T164 (mkF m 92 #[oR r0, oI 10, oI 2, oI 0, oR b164, oI 0, oU, oU, oU] []) _
    refine XS.iloadN X164.here hx rfl (hb hby d3_92) rfl ?_
    refine XS.iloadN X164.here hx rfl (hb hby d3_93) rfl ?_
    refine XS.isub X164.here hx rfl (hb hby d3_94) rfl ?_
    show oP p e below T164 (mkF m 95 #[oR r0, oI 10, oI 2, oI 0, oR b164, oI 0, oU, oU, oU] [(.int 8)]) _
    refine XS.istore X164.here hx rfl (hb hby d3_95) rfl (l' := #[oR r0, oI 10, oI 2, oI 0, oR b164, oI 0, oI 8, oU, oU]) rfl ?_
    show oP p e below T164 (mkF m 97 #[oR r0, oI 10, oI 2, oI 0, oR b164, oI 0, oI 8, oU, oU] []) _
    refine XS.iconst X164.here hx rfl (hb hby d3_97) ?_
    refine XS.istore X164.here hx rfl (hb hby d3_98) rfl (l' := #[oR r0, oI 10, oI 2, oI 0, oR b164, oI 0, oI 8, oI 0, oU]) rfl ?_
    show oP p e below T164 (mkF m 100 #[oR r0, oI 10, oI 2, oI 0, oR b164, oI 0, oI 8, oI 0, oU] []) _
    refine st166 _ ?_
    show oP p e below T166 (mkF m 100 #[oR r0, oI 10, oI 2, oI 0, oR b164, oI 3, oI 8, oI 4, oI (grp d0 d1 d2 d3)] []) _
    refine st168 _ ?_
    show oP p e below T168 (mkF m 100 #[oR r0, oI 10, oI 2, oI 0, oR b164, oI 6, oI 8, oI 8, oI (grp d4 d5 d6 d7)] []) _
    refine XS.iload X168.here hx rfl (hb hby d3_100) rfl ?_
    show oP p e below T168 (mkF m 102 #[oR r0, oI 10, oI 2, oI 0, oR b164, oI 6, oI 8, oI 8, oI (grp d4 d5 d6 d7)] [(.int 8)]) _
    refine XS.iload X168.here hx rfl (hb hby d3_102) rfl ?_
    show oP p e below T168 (mkF m 104 #[oR r0, oI 10, oI 2, oI 0, oR b164, oI 6, oI 8, oI 8, oI (grp d4 d5 d6 d7)] [(.int 8), (.int 8)]) _
    refine XS.icmpYes X168.here hx rfl (pc0 := 104) (pc' := 233) rfl (hb hby d3_104) rfl (flt (by decide : ¬ ((8 : Int32) < (8 : Int32)))).2.1 (by decide) (by decide) ?_
    show oP p e below T168 (mkF m 233 #[oR r0, oI 10, oI 2, oI 0, oR b164, oI 6, oI 8, oI 8, oI (grp d4 d5 d6 d7)] []) _
    refine XS.iloadN X168.here hx rfl (hb hby d3_233) rfl ?_
    refine XS.iconst X168.here hx rfl (hb hby d3_234) ?_
    refine XS.icmpNo X168.here hx rfl (hb hby d3_235) rfl (teq (by decide : (2 : Int32) = (2 : Int32))).2 ?_
    show oP p e below T168 (mkF m 238 #[oR r0, oI 10, oI 2, oI 0, oR b164, oI 6, oI 8, oI 8, oI (grp d4 d5 d6 d7)] []) _
    refine XS.aload X168.here hx rfl (hb hby d3_238) rfl rfl ?_
    show oP p e below T168 (mkF m 240 #[oR r0, oI 10, oI 2, oI 0, oR b164, oI 6, oI 8, oI 8, oI (grp d4 d5 d6 d7)] [(.ref b164)]) _
    refine XS.iload X168.here hx rfl (hb hby d3_240) rfl ?_
    show oP p e below T168 (mkF m 242 #[oR r0, oI 10, oI 2, oI 0, oR b164, oI 6, oI 8, oI 8, oI (grp d4 d5 d6 d7)] [(.int 6), (.ref b164)]) _
    refine XS.aloadN X168.here hx rfl (hb hby d3_242) rfl rfl ?_
    refine XS.iload X168.here hx rfl (hb hby d3_243) rfl ?_
    show oP p e below T168 (mkF m 245 #[oR r0, oI 10, oI 2, oI 0, oR b164, oI 6, oI 8, oI 8, oI (grp d4 d5 d6 d7)] [(.int 8), (.ref r0), (.int 6), (.ref b164)]) _
    refine XS.iconst X168.here hx rfl (hb hby d3_245) ?_
    show oP p e below T168 (mkF m 246 #[oR r0, oI 10, oI 2, oI 0, oR b164, oI 6, oI 8, oI 8, oI (grp d4 d5 d6 d7)] [(.int 2), (.int 8), (.ref r0), (.int 6), (.ref b164)]) _
    refine st169 _ ?_
    show oP p e below T169 (mkF m 249 #[oR r0, oI 10, oI 2, oI 0, oR b164, oI 6, oI 8, oI 8, oI (grp d4 d5 d6 d7)] [(.int (((((0 : Int32) <<< ((6 : Int32) &&& 31)) ||| d8) <<< ((6 : Int32) &&& 31)) ||| d9)), (.int 6), (.ref b164)]) _
    refine XS.iconst X169.here hx rfl (hb hby d3_249) ?_
    refine XS.ishr X169.here hx rfl (hb hby d3_250) rfl ?_
    show oP p e below T169 (mkF m 251 #[oR r0, oI 10, oI 2, oI 0, oR b164, oI 6, oI 8, oI 8, oI (grp d4 d5 d6 d7)] [(.int ((((((0 : Int32) <<< ((6 : Int32) &&& 31)) ||| d8) <<< ((6 : Int32) &&& 31)) ||| d9) >>> ((4 : Int32) &&& 31))), (.int 6), (.ref b164)]) _
    refine XS.i2b X169.here hx rfl (hb hby d3_251) rfl ?_
    show oP p e below T169 (mkF m 252 #[oR r0, oI 10, oI 2, oI 0, oR b164, oI 6, oI 8, oI 8, oI (grp d4 d5 d6 d7)] [(.int (((((((0 : Int32) <<< ((6 : Int32) &&& 31)) ||| d8) <<< ((6 : Int32) &&& 31)) ||| d9) >>> ((4 : Int32) &&& 31)).toInt8.toInt32)), (.int 6), (.ref b164)]) _
    refine st171 _ ?_
    show oP p e below T171 (mkF m 253 #[oR r0, oI 10, oI 2, oI 0, oR b164, oI 6, oI 8, oI 8, oI (grp d4 d5 d6 d7)] []) _
    refine XS.goto X171.here hx rfl (pc0 := 253) (pc' := 294) rfl (hb hby d3_253) (by decide) (by decide) ?_
    show oP p e below T171 (mkF m 294 #[oR r0, oI 10, oI 2, oI 0, oR b164, oI 6, oI 8, oI 8, oI (grp d4 d5 d6 d7)] []) _
    refine XS.aload X171.here hx rfl (hb hby d3_294) rfl rfl ?_
    show oP p e below T171 (mkF m 296 #[oR r0, oI 10, oI 2, oI 0, oR b164, oI 6, oI 8, oI 8, oI (grp d4 d5 d6 d7)] [(.ref b164)]) _
    exact own_retA X171 hx Bd.returns rfl rfl (hb hby d3_296) hr
  · show ∃ (b : Addr), ∃ (kb : ClassId), (some (.ref b164) : Option Value) = some (.ref b) ∧ Fr n0 _ ∧ Keep h0 T171.heap [] ∧ h0.size ≤ b ∧ Arv Z T171.heap b kb .byte (7 : Int32) [(.int ((((grp d0 d1 d2 d3) >>> ((16 : Int32) &&& 31)).toInt8.toInt32).toInt8.toInt32)), (.int ((((grp d0 d1 d2 d3) >>> ((8 : Int32) &&& 31)).toInt8.toInt32).toInt8.toInt32)), (.int (((grp d0 d1 d2 d3).toInt8.toInt32).toInt8.toInt32)), (.int ((((grp d4 d5 d6 d7) >>> ((16 : Int32) &&& 31)).toInt8.toInt32).toInt8.toInt32)), (.int ((((grp d4 d5 d6 d7) >>> ((8 : Int32) &&& 31)).toInt8.toInt32).toInt8.toInt32)), (.int (((grp d4 d5 d6 d7).toInt8.toInt32).toInt8.toInt32)), (.int ((((((((0 : Int32) <<< ((6 : Int32) &&& 31)) ||| d8) <<< ((6 : Int32) &&& 31)) ||| d9) >>> ((4 : Int32) &&& 31)).toInt8.toInt32).toInt8.toInt32))] (.int 0)
    rw [e171]
    exact ⟨b164, k164, rfl, N171, Kc171, sz_b164, V171⟩
theorem ef_3x222 (m : MethodId) (x0 : Addr) : entryFrame m #[(.ref x0)] 9 = mkF m 0 #[.val (.ref x0), .unset, .unset, .unset, .unset, .unset, .unset, .unset, .unset] [] := by first | (simp [entryFrame, mkF, argsToLocals, Value.category]; done) | rfl
set_option maxRecDepth 65536 in
set_option maxHeartbeats 40000000 in
theorem rm3x222 (l : Launch) (Z : State) (a0 : Array Value) (hw : ∀ d ∈ tables_1, d.before a0 Z = true) (hS : St Z) (ws : List Jvm.Cond) (r0 : Addr) (k : ClassId) (d0 : Int32) (d1 : Int32) (d2 : Int32) (d3 : Int32) (d4 : Int32) (d5 : Int32) (d6 : Int32) (d7 : Int32) (d8 : Int32) (d9 : Int32) (h0 : Heap) (n0 : Nat) (O0 : Old Z n0 h0) (V_r0 : Arv Z h0 r0 k .byte (12 : Int32) [(.int (chv d0)), (.int (chv d1)), (.int (chv d2)), (.int (chv d3)), (.int (chv d4)), (.int (chv d5)), (.int (chv d6)), (.int (chv d7)), (.int (chv d8)), (.int (chv d9)), (.int 61), (.int 61)] (.int 0)) (hd0 : Dg d0) (hd1 : Dg d1) (hd2 : Dg d2) (hd3 : Dg d3) (hd4 : Dg d4) (hd5 : Dg d5) (hd6 : Dg d6) (hd7 : Dg d7) (hd8 : Dg d8) (hd9 : Dg d9) :
    MetFree l (⟨"com/example/meerkat/meerkat/Base64Codec", "decode", "([B)[B"⟩ : MethodName) (head1 (Jvm.Cond.code (⟨"com/example/meerkat/meerkat/Base64Codec", "decode", "([B)[B"⟩ : MethodName) prog_8_method_3_code 9 (some (.array .byte)) :: ws) ({ frames := 2, cells := 1, slots := 8, locals := 60 } : Room)) (fun a U => a = #[(.ref r0)] ∧ Z.Warmed39 U.vm ∧ U.heap = h0) (fun _ _ _ _ _ => True) (fun _ U o U' => ∃ v L, o = .returned v ∧ own_Q (fun v hE L => ∃ (b : Addr), ∃ (kb : ClassId), v = some (.ref b) ∧ Fr n0 L ∧ Keep h0 hE [] ∧ h0.size ≤ b ∧ Arv Z hE b kb .byte (7 : Int32) [(.int ((((grp d0 d1 d2 d3) >>> ((16 : Int32) &&& 31)).toInt8.toInt32).toInt8.toInt32)), (.int ((((grp d0 d1 d2 d3) >>> ((8 : Int32) &&& 31)).toInt8.toInt32).toInt8.toInt32)), (.int (((grp d0 d1 d2 d3).toInt8.toInt32).toInt8.toInt32)), (.int ((((grp d4 d5 d6 d7) >>> ((16 : Int32) &&& 31)).toInt8.toInt32).toInt8.toInt32)), (.int ((((grp d4 d5 d6 d7) >>> ((8 : Int32) &&& 31)).toInt8.toInt32).toInt8.toInt32)), (.int (((grp d4 d5 d6 d7).toInt8.toInt32).toInt8.toInt32)), (.int ((((((((0 : Int32) <<< ((6 : Int32) &&& 31)) ||| d8) <<< ((6 : Int32) &&& 31)) ||| d9) >>> ((4 : Int32) &&& 31)).toInt8.toInt32).toInt8.toInt32))] (.int 0)) v U'.heap L ∧ FrameEnd U o U' L ({ frames := 2, cells := 1, slots := 8, locals := 60 } : Room).cells ({ frames := 2, cells := 1, slots := 8, locals := 60 } : Room).slots) := by
  refine MetFree.of_bodySF (plainFor_of_name pn_1) hisR ?_
  intro p e s m args below meth c s₁ Bd hml0 hP hK
  obtain ⟨rfl, hZ, hh⟩ := hP
  have hx := Bd.exec
  have hby := Bd.bytes
  have hml : c.maxLocals = 9 := hml0
  have hown : s.vm.findClass "com/example/meerkat/meerkat/Base64Codec" = some m.cls := findClass_of_methodNamed Bd.named
  have hnm := (name_of_methodNamed Bd.named Bd.method).1
  have X0 : Stand p l e ({ frames := 2, cells := 1, slots := 8, locals := 60 } : Room) s m #[(.ref r0)] below meth c s₁ [] 0 0 := Stand.of_body Bd
  have e0 : s₁.heap = h0 := by rw [← hh, Bd.state]; rfl
  have N0 := Fr.nil n0
  have pre0 : ∀ t, Steps p.tables e below (s₁.setTop (mkF m 0 #[oR r0, oU, oU, oU, oU, oU, oU, oU, oU] [])) t → Steps p.tables e below (s₁.setTop (entryFrame m #[(.ref r0)] 9)) t := fun t k => castTop (ef_3x222 m r0) k
  obtain ⟨_, _, ⟨T173, L173, k173, n173⟩, -, X173, ⟨Lc173, hQ173, l173, y173, z173⟩, st173⟩ := Jvm.LawKit.callS X0 hx (y := (⟨"java/lang/Math", "max", "(II)I"⟩ : MethodName)) hown (mvT hZ (wi hw 12 rfl)) (mvT hZ (wi hw 13 rfl)) (mvT hZ (wi hw 14 rfl)) (mvT hZ (wi hw 15 rfl)) (by decide) (backOf (W := 1) (rm4 l Z a0 hw hS [] (0 : Int32) (1 : Int32) h0 n0 O0) hZ (wi hw 15 rfl) (wi hw 14 rfl) (by decide) (by decide)) (g := (mkF m 81 #[oR r0, oI 10, oI 2, oI 2, oU, oU, oU, oU, oU] [(.int 1), (.int 0), (.int 6)])) rfl (by rw [hml]; rfl) (argsL := [(.int 0), (.int 1)]) (rest := [(.int 6)]) (lenOf pd_3 rfl) rfl (by show 2 * 0 + _ ≤ _; exact Nat.le_of_eq rfl) (hb hby d3_81) (fun _ _ => ⟨rfl, e0, (by decide : 0 + 0 ≤ _), (by decide : 0 + 0 ≤ _)⟩)
  dsimp only [Pt.U, Pt.locs, Pt.cells, Pt.slots] at X173 l173 y173 z173 st173 hQ173
  subst l173 y173 z173
  obtain ⟨v173, N173q, h173q⟩ := hQ173
  have w173 : (fn4 Z (0 : Int32) (1 : Int32)) = (1 : Int32) := by unfold fn4; rw [if_pos (by decide : (0 : Int32) < (1 : Int32))]; all_goals first | rfl | decide
  rw [w173] at v173
  subst v173
  have N173 := Fr.app N0 N173q
  obtain ⟨T174, h174, k174, X174, e174, E174, A174, st174⟩ := newP X173 hx hZ (wi hw 0 rfl) h173q (g := (mkF m 85 #[oR r0, oI 10, oI 2, oI 2, oU, oU, oU, oU, oU] [(.int 7)])) rfl (hb hby d3_85) rfl (by decide) (cap := 7) (by decide) (by decide) (by decide) (by decide)
  obtain ⟨b174, g174⟩ : ∃ z, z = h0.size := ⟨_, rfl⟩
  have g_b174 : n0 ≤ b174 := Nat.le_trans (own_old_le O0) (Nat.le_of_eq g174.symm)
  have sz_b174 : h0.size ≤ b174 := Nat.le_trans (Keep.refl h0 []).1 (Nat.le_of_eq g174.symm)
  have ne_r0_b174 : r0 ≠ b174 := Nat.ne_of_lt (Nat.lt_of_lt_of_le V_r0.lt (Nat.le_of_eq g174.symm))
  rw [← g174] at A174 st174
  have O174 := O0.ext E174
  have Kc174 := (Keep.refl h0 []).ext E174
  have V174 : Arv Z h174 b174 k174 .byte (7 : Int32) [(.int 0), (.int 0), (.int 0), (.int 0), (.int 0), (.int 0), (.int 0)] (.int 0) := (Arv.new A174 (by decide)).pad (pad_rep [] (.int 0) 7)
  have fx175 := (V_r0.ext E174)
  obtain ⟨T176, h176, lc176, X176, e176, N176, K176q, V176', st176⟩ := tn3_0 Z a0 hw hS r0 b174 (10 : Int32) (2 : Int32) (2 : Int32) (8 : Int32) k (12 : Int32) [(.int (chv d0)), (.int (chv d1)), (.int (chv d2)), (.int (chv d3)), (.int (chv d4)), (.int (chv d5)), (.int (chv d6)), (.int (chv d7)), (.int (chv d8)), (.int (chv d9)), (.int 61), (.int 61)] k174 (7 : Int32) [(.int 0), (.int 0), (.int 0), (.int 0), (.int 0), (.int 0), (.int 0)] d0 d1 d2 d3 h174 n0 O174 fx175 V174 g_b174 ne_r0_b174 hd0 hd1 hd2 hd3 rfl rfl rfl rfl ⟨by decide, by decide⟩ ⟨by decide, by decide⟩ ⟨by decide, by decide⟩ ⟨by decide, by decide⟩ ⟨by decide, by decide⟩ ⟨by decide, by decide⟩ ⟨by decide, by decide⟩ (Nat.le_of_ble_eq_true rfl) (Nat.le_of_ble_eq_true rfl) (Nat.le_of_ble_eq_true rfl) (by decide) X174 hx hZ hby hml hown e174 N173
  have O176 := O174.keep K176q (allS g_b174 all0)
  have Kc176 := Kc174.trans K176q (allS (Or.inr sz_b174) all0)
  have V176 : Arv Z h176 b174 k174 .byte (7 : Int32) [(.int ((((grp d0 d1 d2 d3) >>> ((16 : Int32) &&& 31)).toInt8.toInt32).toInt8.toInt32)), (.int ((((grp d0 d1 d2 d3) >>> ((8 : Int32) &&& 31)).toInt8.toInt32).toInt8.toInt32)), (.int (((grp d0 d1 d2 d3).toInt8.toInt32).toInt8.toInt32)), (.int 0), (.int 0), (.int 0), (.int 0)] (.int 0) := V176'
  have fx177 := (fx175.keep K176q (ninS ne_r0_b174 nin0))
  obtain ⟨T178, h178, lc178, X178, e178, N178, K178q, V178', st178⟩ := tn3_4 Z a0 hw hS r0 b174 (10 : Int32) (2 : Int32) (2 : Int32) (8 : Int32) (grp d0 d1 d2 d3) k (12 : Int32) [(.int (chv d0)), (.int (chv d1)), (.int (chv d2)), (.int (chv d3)), (.int (chv d4)), (.int (chv d5)), (.int (chv d6)), (.int (chv d7)), (.int (chv d8)), (.int (chv d9)), (.int 61), (.int 61)] k174 (7 : Int32) [(.int ((((grp d0 d1 d2 d3) >>> ((16 : Int32) &&& 31)).toInt8.toInt32).toInt8.toInt32)), (.int ((((grp d0 d1 d2 d3) >>> ((8 : Int32) &&& 31)).toInt8.toInt32).toInt8.toInt32)), (.int (((grp d0 d1 d2 d3).toInt8.toInt32).toInt8.toInt32)), (.int 0), (.int 0), (.int 0), (.int 0)] d4 d5 d6 d7 h176 n0 O176 fx177 V176 g_b174 ne_r0_b174 hd4 hd5 hd6 hd7 rfl rfl rfl rfl ⟨by decide, by decide⟩ ⟨by decide, by decide⟩ ⟨by decide, by decide⟩ ⟨by decide, by decide⟩ ⟨by decide, by decide⟩ ⟨by decide, by decide⟩ ⟨by decide, by decide⟩ (Nat.le_of_ble_eq_true rfl) (Nat.le_of_ble_eq_true rfl) (Nat.le_of_ble_eq_true rfl) (by decide) X176 hx hZ hby hml hown e176 N176
  have O178 := O176.keep K178q (allS g_b174 all0)
  have Kc178 := Kc176.trans K178q (allS (Or.inr sz_b174) all0)
  have V178 : Arv Z h178 b174 k174 .byte (7 : Int32) [(.int ((((grp d0 d1 d2 d3) >>> ((16 : Int32) &&& 31)).toInt8.toInt32).toInt8.toInt32)), (.int ((((grp d0 d1 d2 d3) >>> ((8 : Int32) &&& 31)).toInt8.toInt32).toInt8.toInt32)), (.int (((grp d0 d1 d2 d3).toInt8.toInt32).toInt8.toInt32)), (.int ((((grp d4 d5 d6 d7) >>> ((16 : Int32) &&& 31)).toInt8.toInt32).toInt8.toInt32)), (.int ((((grp d4 d5 d6 d7) >>> ((8 : Int32) &&& 31)).toInt8.toInt32).toInt8.toInt32)), (.int (((grp d4 d5 d6 d7).toInt8.toInt32).toInt8.toInt32)), (.int 0)] (.int 0) := V178'
  have fx180 := (fx177.keep K178q (ninS ne_r0_b174 nin0))
  obtain ⟨_, _, ⟨T179, L179, k179, n179⟩, -, X179, ⟨Lc179, hQ179, l179, y179, z179⟩, st179⟩ := Jvm.LawKit.callS X178 hx (y := (⟨"com/example/meerkat/meerkat/Base64Codec", "bitsOf", "([BII)I"⟩ : MethodName)) hown (mvT hZ (wi hw 28 rfl)) (mvT hZ (wi hw 29 rfl)) (mvT hZ (wi hw 10 rfl)) (mvT hZ (wi hw 30 rfl)) (by decide) (backOf (W := 2) (rm8b2_2 l Z a0 hw hS [] r0 k (12 : Int32) [(.int (chv d0)), (.int (chv d1)), (.int (chv d2)), (.int (chv d3)), (.int (chv d4)), (.int (chv d5)), (.int (chv d6)), (.int (chv d7)), (.int (chv d8)), (.int (chv d9)), (.int 61), (.int 61)] d8 d9 h178 n0 O178 fx180 hd8 hd9 rfl rfl ⟨by decide, by decide⟩ ⟨by decide, by decide⟩) hZ (wi hw 30 rfl) (wi hw 10 rfl) (by decide) (by decide)) (g := (mkF m 246 #[oR r0, oI 10, oI 2, oI 2, oR b174, oI 6, oI 8, oI 8, oI (grp d4 d5 d6 d7)] [(.int 2), (.int 8), (.ref r0), (.int 6), (.ref b174)])) rfl (by rw [hml]; rfl) (argsL := [(.ref r0), (.int 8), (.int 2)]) (rest := [(.int 6), (.ref b174)]) (lenOf pd_4 rfl) rfl (by show 2 * 0 + _ ≤ _; exact Nat.le_of_eq rfl) (hb hby d3_246) (fun _ _ => ⟨rfl, e178, (by decide : 1 + 0 ≤ _), (by decide : 7 + 0 ≤ _)⟩)
  dsimp only [Pt.U, Pt.locs, Pt.cells, Pt.slots] at X179 l179 y179 z179 st179 hQ179
  subst l179 y179 z179
  obtain ⟨v179, N179q, K179q⟩ := hQ179
  have w179 : (fn8b2_2 Z r0 k (12 : Int32) [(.int (chv d0)), (.int (chv d1)), (.int (chv d2)), (.int (chv d3)), (.int (chv d4)), (.int (chv d5)), (.int (chv d6)), (.int (chv d7)), (.int (chv d8)), (.int (chv d9)), (.int 61), (.int 61)] d8 d9) = (((((0 : Int32) <<< ((6 : Int32) &&& 31)) ||| d8) <<< ((6 : Int32) &&& 31)) ||| d9) := rfl
  rw [w179] at v179
  subst v179
  have N179 := Fr.app N178 N179q
  have O179 := O178.keep K179q all0
  have Kc179 := Kc178.trans K179q all0
  have fx182 := (V178.keep K179q nin0)
  obtain ⟨T181, h181, X181, e181, W181, V181', st181⟩ := own_stB X179 hx hZ rfl fx182 (j := (6 : Int32)) ⟨by decide, by decide⟩ rfl (by decide : ((6 : Int32) : Int32).toNatClampNeg < 7) (g := (mkF m 252 #[oR r0, oI 10, oI 2, oI 2, oR b174, oI 6, oI 8, oI 8, oI (grp d4 d5 d6 d7)] [(.int (((((((0 : Int32) <<< ((6 : Int32) &&& 31)) ||| d8) <<< ((6 : Int32) &&& 31)) ||| d9) >>> ((4 : Int32) &&& 31)).toInt8.toInt32)), (.int 6), (.ref b174)])) rfl rfl (hb hby d3_252)
  have N181 := Fr.snoc X181 N179 g_b174
  have O181 := O179.wr W181 g_b174
  have Kc181 := Kc179.wr W181 (Or.inr sz_b174)
  have V181 : Arv Z h181 b174 k174 .byte (7 : Int32) [(.int ((((grp d0 d1 d2 d3) >>> ((16 : Int32) &&& 31)).toInt8.toInt32).toInt8.toInt32)), (.int ((((grp d0 d1 d2 d3) >>> ((8 : Int32) &&& 31)).toInt8.toInt32).toInt8.toInt32)), (.int (((grp d0 d1 d2 d3).toInt8.toInt32).toInt8.toInt32)), (.int ((((grp d4 d5 d6 d7) >>> ((16 : Int32) &&& 31)).toInt8.toInt32).toInt8.toInt32)), (.int ((((grp d4 d5 d6 d7) >>> ((8 : Int32) &&& 31)).toInt8.toInt32).toInt8.toInt32)), (.int (((grp d4 d5 d6 d7).toInt8.toInt32).toInt8.toInt32)), (.int ((((((((0 : Int32) <<< ((6 : Int32) &&& 31)) ||| d8) <<< ((6 : Int32) &&& 31)) ||| d9) >>> ((4 : Int32) &&& 31)).toInt8.toInt32).toInt8.toInt32))] (.int 0) := V181'
  obtain ⟨fs, hr, hrun, hended, hW, hsame⟩ := X181.leave (v := some (.ref b174)) (fun h => by rw [Bd.returns] at h; cases h)
  refine ⟨_, _, pre0 _ ?_, hrun, hended, _, _, rfl, ?_, ⟨_, rfl⟩, hW, hsame.mono (by decide) (by decide)⟩
  · show oP p e below s₁ (mkF m 0 #[oR r0, oU, oU, oU, oU, oU, oU, oU, oU] []) _
    refine XS.aloadN X0.here hx rfl (hb hby d3_0) rfl rfl ?_
    show oP p e below s₁ (mkF m 1 #[oR r0, oU, oU, oU, oU, oU, oU, oU, oU] [(.ref r0)]) _
    refine own_len X0 hx hZ e0 V_r0 (g := (mkF m 1 #[oR r0, oU, oU, oU, oU, oU, oU, oU, oU] [(.ref r0)])) rfl rfl (hb hby d3_1) _ ?_
    show oP p e below s₁ (mkF m 2 #[oR r0, oU, oU, oU, oU, oU, oU, oU, oU] [(.int 12)]) _
    refine XS.istoreN X0.here hx rfl (hb hby d3_2) rfl (l' := #[oR r0, oI 12, oU, oU, oU, oU, oU, oU, oU]) rfl ?_
    show oP p e below s₁ (mkF m 3 #[oR r0, oI 12, oU, oU, oU, oU, oU, oU, oU] []) _
    refine XS.iloadN X0.here hx rfl (hb hby d3_3) rfl ?_
    refine XS.ifNo X0.here hx rfl (hb hby d3_4) rfl ((if0 _ _).trans (tlt (by decide : (0 : Int32) < (12 : Int32))).2.2.2) ?_
    show oP p e below s₁ (mkF m 7 #[oR r0, oI 12, oU, oU, oU, oU, oU, oU, oU] []) _
    refine XS.aloadN X0.here hx rfl (hb hby d3_7) rfl rfl ?_
    refine XS.iloadN X0.here hx rfl (hb hby d3_8) rfl ?_
    refine XS.iconst X0.here hx rfl (hb hby d3_9) ?_
    refine XS.isub X0.here hx rfl (hb hby d3_10) rfl ?_
    show oP p e below s₁ (mkF m 11 #[oR r0, oI 12, oU, oU, oU, oU, oU, oU, oU] [(.int 11), (.ref r0)]) _
    refine own_baload X0 hx hZ e0 V_r0 (j := (11 : Int32)) ⟨by decide, by decide⟩ (v := (.int 61)) rfl (g := (mkF m 11 #[oR r0, oI 12, oU, oU, oU, oU, oU, oU, oU] [(.int 11), (.ref r0)])) rfl rfl (hb hby d3_11) _ ?_
    show oP p e below s₁ (mkF m 12 #[oR r0, oI 12, oU, oU, oU, oU, oU, oU, oU] [(.int 61)]) _
    refine XS.bipush X0.here hx rfl (hb hby d3_12) ?_
    refine XS.icmpNo X0.here hx rfl (hb hby d3_14) rfl (teq (by decide : (61 : Int32) = (61 : Int32))).2 ?_
    show oP p e below s₁ (mkF m 17 #[oR r0, oI 12, oU, oU, oU, oU, oU, oU, oU] []) _
    refine XS.iinc X0.here hx rfl (hb hby d3_17) rfl (l' := #[oR r0, oI 11, oU, oU, oU, oU, oU, oU, oU]) rfl ?_
    show oP p e below s₁ (mkF m 20 #[oR r0, oI 11, oU, oU, oU, oU, oU, oU, oU] []) _
    refine XS.goto X0.here hx rfl (pc0 := 20) (pc' := 3) rfl (hb hby d3_20) (by decide) (by decide) ?_
    show oP p e below s₁ (mkF m 3 #[oR r0, oI 11, oU, oU, oU, oU, oU, oU, oU] []) _
    refine XS.iloadN X0.here hx rfl (hb hby d3_3) rfl ?_
    refine XS.ifNo X0.here hx rfl (hb hby d3_4) rfl ((if0 _ _).trans (tlt (by decide : (0 : Int32) < (11 : Int32))).2.2.2) ?_
    show oP p e below s₁ (mkF m 7 #[oR r0, oI 11, oU, oU, oU, oU, oU, oU, oU] []) _
    refine XS.aloadN X0.here hx rfl (hb hby d3_7) rfl rfl ?_
    refine XS.iloadN X0.here hx rfl (hb hby d3_8) rfl ?_
    refine XS.iconst X0.here hx rfl (hb hby d3_9) ?_
    refine XS.isub X0.here hx rfl (hb hby d3_10) rfl ?_
    show oP p e below s₁ (mkF m 11 #[oR r0, oI 11, oU, oU, oU, oU, oU, oU, oU] [(.int 10), (.ref r0)]) _
    refine own_baload X0 hx hZ e0 V_r0 (j := (10 : Int32)) ⟨by decide, by decide⟩ (v := (.int 61)) rfl (g := (mkF m 11 #[oR r0, oI 11, oU, oU, oU, oU, oU, oU, oU] [(.int 10), (.ref r0)])) rfl rfl (hb hby d3_11) _ ?_
    show oP p e below s₁ (mkF m 12 #[oR r0, oI 11, oU, oU, oU, oU, oU, oU, oU] [(.int 61)]) _
    refine XS.bipush X0.here hx rfl (hb hby d3_12) ?_
    refine XS.icmpNo X0.here hx rfl (hb hby d3_14) rfl (teq (by decide : (61 : Int32) = (61 : Int32))).2 ?_
    show oP p e below s₁ (mkF m 17 #[oR r0, oI 11, oU, oU, oU, oU, oU, oU, oU] []) _
    refine XS.iinc X0.here hx rfl (hb hby d3_17) rfl (l' := #[oR r0, oI 10, oU, oU, oU, oU, oU, oU, oU]) rfl ?_
    show oP p e below s₁ (mkF m 20 #[oR r0, oI 10, oU, oU, oU, oU, oU, oU, oU] []) _
    refine XS.goto X0.here hx rfl (pc0 := 20) (pc' := 3) rfl (hb hby d3_20) (by decide) (by decide) ?_
    show oP p e below s₁ (mkF m 3 #[oR r0, oI 10, oU, oU, oU, oU, oU, oU, oU] []) _
    refine XS.iloadN X0.here hx rfl (hb hby d3_3) rfl ?_
    refine XS.ifNo X0.here hx rfl (hb hby d3_4) rfl ((if0 _ _).trans (tlt (by decide : (0 : Int32) < (10 : Int32))).2.2.2) ?_
    show oP p e below s₁ (mkF m 7 #[oR r0, oI 10, oU, oU, oU, oU, oU, oU, oU] []) _
    refine XS.aloadN X0.here hx rfl (hb hby d3_7) rfl rfl ?_
    refine XS.iloadN X0.here hx rfl (hb hby d3_8) rfl ?_
    refine XS.iconst X0.here hx rfl (hb hby d3_9) ?_
    refine XS.isub X0.here hx rfl (hb hby d3_10) rfl ?_
    show oP p e below s₁ (mkF m 11 #[oR r0, oI 10, oU, oU, oU, oU, oU, oU, oU] [(.int 9), (.ref r0)]) _
    refine own_baload X0 hx hZ e0 V_r0 (j := (9 : Int32)) ⟨by decide, by decide⟩ (v := (.int (chv d9))) rfl (g := (mkF m 11 #[oR r0, oI 10, oU, oU, oU, oU, oU, oU, oU] [(.int 9), (.ref r0)])) rfl rfl (hb hby d3_11) _ ?_
    show oP p e below s₁ (mkF m 12 #[oR r0, oI 10, oU, oU, oU, oU, oU, oU, oU] [(.int (chv d9))]) _
    refine XS.bipush X0.here hx rfl (hb hby d3_12) ?_
    refine XS.icmpYes X0.here hx rfl (pc0 := 14) (pc' := 23) rfl (hb hby d3_14) rfl (feq (chv_ne hd9)).2 (by decide) (by decide) ?_
    show oP p e below s₁ (mkF m 23 #[oR r0, oI 10, oU, oU, oU, oU, oU, oU, oU] []) _
    refine XS.iloadN X0.here hx rfl (hb hby d3_23) rfl ?_
    refine XS.iconst X0.here hx rfl (hb hby d3_24) ?_
    refine XS.irem X0.here hx rfl (hb hby d3_25) rfl (by decide) ?_
    show oP p e below s₁ (mkF m 26 #[oR r0, oI 10, oU, oU, oU, oU, oU, oU, oU] [(.int 2)]) _
    refine XS.istoreN X0.here hx rfl (hb hby d3_26) rfl (l' := #[oR r0, oI 10, oI 2, oU, oU, oU, oU, oU, oU]) rfl ?_
    show oP p e below s₁ (mkF m 27 #[oR r0, oI 10, oI 2, oU, oU, oU, oU, oU, oU] []) _
    refine XS.aloadN X0.here hx rfl (hb hby d3_27) rfl rfl ?_
    show oP p e below s₁ (mkF m 28 #[oR r0, oI 10, oI 2, oU, oU, oU, oU, oU, oU] [(.ref r0)]) _
    refine own_len X0 hx hZ e0 V_r0 (g := (mkF m 28 #[oR r0, oI 10, oI 2, oU, oU, oU, oU, oU, oU] [(.ref r0)])) rfl rfl (hb hby d3_28) _ ?_
    show oP p e below s₁ (mkF m 29 #[oR r0, oI 10, oI 2, oU, oU, oU, oU, oU, oU] [(.int 12)]) _
    refine XS.iloadN X0.here hx rfl (hb hby d3_29) rfl ?_
    refine XS.isub X0.here hx rfl (hb hby d3_30) rfl ?_
    show oP p e below s₁ (mkF m 31 #[oR r0, oI 10, oI 2, oU, oU, oU, oU, oU, oU] [(.int 2)]) _
    refine XS.istoreN X0.here hx rfl (hb hby d3_31) rfl (l' := #[oR r0, oI 10, oI 2, oI 2, oU, oU, oU, oU, oU]) rfl ?_
    show oP p e below s₁ (mkF m 32 #[oR r0, oI 10, oI 2, oI 2, oU, oU, oU, oU, oU] []) _
    refine XS.iloadN X0.here hx rfl (hb hby d3_32) rfl ?_
    refine XS.iconst X0.here hx rfl (hb hby d3_33) ?_
    refine XS.icmpYes X0.here hx rfl (pc0 := 34) (pc' := 47) rfl (hb hby d3_34) rfl (feq (by decide : ¬ ((2 : Int32) = (1 : Int32)))).2 (by decide) (by decide) ?_
    show oP p e below s₁ (mkF m 47 #[oR r0, oI 10, oI 2, oI 2, oU, oU, oU, oU, oU] []) _
    refine XS.iloadN X0.here hx rfl (hb hby d3_47) rfl ?_
    refine XS.ifNo X0.here hx rfl (hb hby d3_48) rfl ((if0 _ _).trans (tlt (by decide : (0 : Int32) < (2 : Int32))).2.2.2) ?_
    show oP p e below s₁ (mkF m 51 #[oR r0, oI 10, oI 2, oI 2, oU, oU, oU, oU, oU] []) _
    refine XS.iloadN X0.here hx rfl (hb hby d3_51) rfl ?_
    refine XS.ifNo X0.here hx rfl (hb hby d3_52) rfl ((if0 _ _).trans (feq (by decide : ¬ ((2 : Int32) = (0 : Int32)))).1) ?_
    show oP p e below s₁ (mkF m 55 #[oR r0, oI 10, oI 2, oI 2, oU, oU, oU, oU, oU] []) _
    refine XS.iloadN X0.here hx rfl (hb hby d3_55) rfl ?_
    refine XS.iconst X0.here hx rfl (hb hby d3_56) ?_
    refine XS.iloadN X0.here hx rfl (hb hby d3_57) rfl ?_
    refine XS.isub X0.here hx rfl (hb hby d3_58) rfl ?_
    show oP p e below s₁ (mkF m 59 #[oR r0, oI 10, oI 2, oI 2, oU, oU, oU, oU, oU] [(.int 2), (.int 2)]) _
    refine XS.icmpYes X0.here hx rfl (pc0 := 59) (pc' := 72) rfl (hb hby d3_59) rfl (teq (by decide : (2 : Int32) = (2 : Int32))).1 (by decide) (by decide) ?_
    show oP p e below s₁ (mkF m 72 #[oR r0, oI 10, oI 2, oI 2, oU, oU, oU, oU, oU] []) _
    refine XS.iloadN X0.here hx rfl (hb hby d3_72) rfl ?_
    refine XS.iconst X0.here hx rfl (hb hby d3_73) ?_
    refine XS.idiv X0.here hx rfl (hb hby d3_74) rfl (by decide) ?_
    show oP p e below s₁ (mkF m 75 #[oR r0, oI 10, oI 2, oI 2, oU, oU, oU, oU, oU] [(.int 2)]) _
    refine XS.iconst X0.here hx rfl (hb hby d3_75) ?_
    refine XS.imul X0.here hx rfl (hb hby d3_76) rfl ?_
    show oP p e below s₁ (mkF m 77 #[oR r0, oI 10, oI 2, oI 2, oU, oU, oU, oU, oU] [(.int 6)]) _
    refine XS.iconst X0.here hx rfl (hb hby d3_77) ?_
    refine XS.iloadN X0.here hx rfl (hb hby d3_78) rfl ?_
    refine XS.iconst X0.here hx rfl (hb hby d3_79) ?_
    refine XS.isub X0.here hx rfl (hb hby d3_80) rfl ?_
    show oP p e below s₁ (mkF m 81 #[oR r0, oI 10, oI 2, oI 2, oU, oU, oU, oU, oU] [(.int 1), (.int 0), (.int 6)]) _
    refine st173 _ ?_
    show oP p e below T173 (mkF m 84 #[oR r0, oI 10, oI 2, oI 2, oU, oU, oU, oU, oU] [(.int 1), (.int 6)]) _
    refine XS.iadd X173.here hx rfl (hb hby d3_84) rfl ?_
    show oP p e below T173 (mkF m 85 #[oR r0, oI 10, oI 2, oI 2, oU, oU, oU, oU, oU] [(.int 7)]) _
    refine st174 _ ?_
    show oP p e below T174 (mkF m 87 #[oR r0, oI 10, oI 2, oI 2, oU, oU, oU, oU, oU] [(.ref b174)]) _
    refine XS.astore X174.here hx rfl (hb hby d3_87) rfl rfl (l' := #[oR r0, oI 10, oI 2, oI 2, oR b174, oU, oU, oU, oU]) rfl ?_
    show oP p e below T174 (mkF m 89 #[oR r0, oI 10, oI 2, oI 2, oR b174, oU, oU, oU, oU] []) _
    refine XS.iconst X174.here hx rfl (hb hby d3_89) ?_
    refine XS.istore X174.here hx rfl (hb hby d3_90) rfl (l' := #[oR r0, oI 10, oI 2, oI 2, oR b174, oI 0, oU, oU, oU]) rfl ?_
    show oP p e below T174 (mkF m 92 #[oR r0, oI 10, oI 2, oI 2, oR b174, oI 0, oU, oU, oU] []) _
    refine XS.iloadN X174.here hx rfl (hb hby d3_92) rfl ?_
    refine XS.iloadN X174.here hx rfl (hb hby d3_93) rfl ?_
    refine XS.isub X174.here hx rfl (hb hby d3_94) rfl ?_
    show oP p e below T174 (mkF m 95 #[oR r0, oI 10, oI 2, oI 2, oR b174, oI 0, oU, oU, oU] [(.int 8)]) _
    refine XS.istore X174.here hx rfl (hb hby d3_95) rfl (l' := #[oR r0, oI 10, oI 2, oI 2, oR b174, oI 0, oI 8, oU, oU]) rfl ?_
    show oP p e below T174 (mkF m 97 #[oR r0, oI 10, oI 2, oI 2, oR b174, oI 0, oI 8, oU, oU] []) _
    refine XS.iconst X174.here hx rfl (hb hby d3_97) ?_
    refine XS.istore X174.here hx rfl (hb hby d3_98) rfl (l' := #[oR r0, oI 10, oI 2, oI 2, oR b174, oI 0, oI 8, oI 0, oU]) rfl ?_
    show oP p e below T174 (mkF m 100 #[oR r0, oI 10, oI 2, oI 2, oR b174, oI 0, oI 8, oI 0, oU] []) _
    refine st176 _ ?_
    show oP p e below T176 (mkF m 100 #[oR r0, oI 10, oI 2, oI 2, oR b174, oI 3, oI 8, oI 4, oI (grp d0 d1 d2 d3)] []) _
    refine st178 _ ?_
    show oP p e below T178 (mkF m 100 #[oR r0, oI 10, oI 2, oI 2, oR b174, oI 6, oI 8, oI 8, oI (grp d4 d5 d6 d7)] []) _
    refine XS.iload X178.here hx rfl (hb hby d3_100) rfl ?_
    show oP p e below T178 (mkF m 102 #[oR r0, oI 10, oI 2, oI 2, oR b174, oI 6, oI 8, oI 8, oI (grp d4 d5 d6 d7)] [(.int 8)]) _
    refine XS.iload X178.here hx rfl (hb hby d3_102) rfl ?_
    show oP p e below T178 (mkF m 104 #[oR r0, oI 10, oI 2, oI 2, oR b174, oI 6, oI 8, oI 8, oI (grp d4 d5 d6 d7)] [(.int 8), (.int 8)]) _
    refine XS.icmpYes X178.here hx rfl (pc0 := 104) (pc' := 233) rfl (hb hby d3_104) rfl (flt (by decide : ¬ ((8 : Int32) < (8 : Int32)))).2.1 (by decide) (by decide) ?_
    show oP p e below T178 (mkF m 233 #[oR r0, oI 10, oI 2, oI 2, oR b174, oI 6, oI 8, oI 8, oI (grp d4 d5 d6 d7)] []) _
    refine XS.iloadN X178.here hx rfl (hb hby d3_233) rfl ?_
    refine XS.iconst X178.here hx rfl (hb hby d3_234) ?_
    refine XS.icmpNo X178.here hx rfl (hb hby d3_235) rfl (teq (by decide : (2 : Int32) = (2 : Int32))).2 ?_
    show oP p e below T178 (mkF m 238 #[oR r0, oI 10, oI 2, oI 2, oR b174, oI 6, oI 8, oI 8, oI (grp d4 d5 d6 d7)] []) _
    refine XS.aload X178.here hx rfl (hb hby d3_238) rfl rfl ?_
    show oP p e below T178 (mkF m 240 #[oR r0, oI 10, oI 2, oI 2, oR b174, oI 6, oI 8, oI 8, oI (grp d4 d5 d6 d7)] [(.ref b174)]) _
    refine XS.iload X178.here hx rfl (hb hby d3_240) rfl ?_
    show oP p e below T178 (mkF m 242 #[oR r0, oI 10, oI 2, oI 2, oR b174, oI 6, oI 8, oI 8, oI (grp d4 d5 d6 d7)] [(.int 6), (.ref b174)]) _
    refine XS.aloadN X178.here hx rfl (hb hby d3_242) rfl rfl ?_
    refine XS.iload X178.here hx rfl (hb hby d3_243) rfl ?_
    show oP p e below T178 (mkF m 245 #[oR r0, oI 10, oI 2, oI 2, oR b174, oI 6, oI 8, oI 8, oI (grp d4 d5 d6 d7)] [(.int 8), (.ref r0), (.int 6), (.ref b174)]) _
    refine XS.iconst X178.here hx rfl (hb hby d3_245) ?_
    show oP p e below T178 (mkF m 246 #[oR r0, oI 10, oI 2, oI 2, oR b174, oI 6, oI 8, oI 8, oI (grp d4 d5 d6 d7)] [(.int 2), (.int 8), (.ref r0), (.int 6), (.ref b174)]) _
    refine st179 _ ?_
    show oP p e below T179 (mkF m 249 #[oR r0, oI 10, oI 2, oI 2, oR b174, oI 6, oI 8, oI 8, oI (grp d4 d5 d6 d7)] [(.int (((((0 : Int32) <<< ((6 : Int32) &&& 31)) ||| d8) <<< ((6 : Int32) &&& 31)) ||| d9)), (.int 6), (.ref b174)]) _
    refine XS.iconst X179.here hx rfl (hb hby d3_249) ?_
    refine XS.ishr X179.here hx rfl (hb hby d3_250) rfl ?_
    show oP p e below T179 (mkF m 251 #[oR r0, oI 10, oI 2, oI 2, oR b174, oI 6, oI 8, oI 8, oI (grp d4 d5 d6 d7)] [(.int ((((((0 : Int32) <<< ((6 : Int32) &&& 31)) ||| d8) <<< ((6 : Int32) &&& 31)) ||| d9) >>> ((4 : Int32) &&& 31))), (.int 6), (.ref b174)]) _
    refine XS.i2b X179.here hx rfl (hb hby d3_251) rfl ?_
    show oP p e below T179 (mkF m 252 #[oR r0, oI 10, oI 2, oI 2, oR b174, oI 6, oI 8, oI 8, oI (grp d4 d5 d6 d7)] [(.int (((((((0 : Int32) <<< ((6 : Int32) &&& 31)) ||| d8) <<< ((6 : Int32) &&& 31)) ||| d9) >>> ((4 : Int32) &&& 31)).toInt8.toInt32)), (.int 6), (.ref b174)]) _
    refine st181 _ ?_
    show oP p e below T181 (mkF m 253 #[oR r0, oI 10, oI 2, oI 2, oR b174, oI 6, oI 8, oI 8, oI (grp d4 d5 d6 d7)] []) _
    refine XS.goto X181.here hx rfl (pc0 := 253) (pc' := 294) rfl (hb hby d3_253) (by decide) (by decide) ?_
    show oP p e below T181 (mkF m 294 #[oR r0, oI 10, oI 2, oI 2, oR b174, oI 6, oI 8, oI 8, oI (grp d4 d5 d6 d7)] []) _
    refine XS.aload X181.here hx rfl (hb hby d3_294) rfl rfl ?_
    show oP p e below T181 (mkF m 296 #[oR r0, oI 10, oI 2, oI 2, oR b174, oI 6, oI 8, oI 8, oI (grp d4 d5 d6 d7)] [(.ref b174)]) _
    exact own_retA X181 hx Bd.returns rfl rfl (hb hby d3_296) hr
  · show ∃ (b : Addr), ∃ (kb : ClassId), (some (.ref b174) : Option Value) = some (.ref b) ∧ Fr n0 _ ∧ Keep h0 T181.heap [] ∧ h0.size ≤ b ∧ Arv Z T181.heap b kb .byte (7 : Int32) [(.int ((((grp d0 d1 d2 d3) >>> ((16 : Int32) &&& 31)).toInt8.toInt32).toInt8.toInt32)), (.int ((((grp d0 d1 d2 d3) >>> ((8 : Int32) &&& 31)).toInt8.toInt32).toInt8.toInt32)), (.int (((grp d0 d1 d2 d3).toInt8.toInt32).toInt8.toInt32)), (.int ((((grp d4 d5 d6 d7) >>> ((16 : Int32) &&& 31)).toInt8.toInt32).toInt8.toInt32)), (.int ((((grp d4 d5 d6 d7) >>> ((8 : Int32) &&& 31)).toInt8.toInt32).toInt8.toInt32)), (.int (((grp d4 d5 d6 d7).toInt8.toInt32).toInt8.toInt32)), (.int ((((((((0 : Int32) <<< ((6 : Int32) &&& 31)) ||| d8) <<< ((6 : Int32) &&& 31)) ||| d9) >>> ((4 : Int32) &&& 31)).toInt8.toInt32).toInt8.toInt32))] (.int 0)
    rw [e181]
    exact ⟨b174, k174, rfl, N181, Kc181, sz_b174, V181⟩
theorem ef_3x230 (m : MethodId) (x0 : Addr) : entryFrame m #[(.ref x0)] 9 = mkF m 0 #[.val (.ref x0), .unset, .unset, .unset, .unset, .unset, .unset, .unset, .unset] [] := by first | (simp [entryFrame, mkF, argsToLocals, Value.category]; done) | rfl
set_option maxRecDepth 65536 in
set_option maxHeartbeats 40000000 in
theorem rm3x230 (l : Launch) (Z : State) (a0 : Array Value) (hw : ∀ d ∈ tables_1, d.before a0 Z = true) (hS : St Z) (ws : List Jvm.Cond) (r0 : Addr) (k : ClassId) (d0 : Int32) (d1 : Int32) (d2 : Int32) (d3 : Int32) (d4 : Int32) (d5 : Int32) (d6 : Int32) (d7 : Int32) (d8 : Int32) (d9 : Int32) (d10 : Int32) (r11_ : Value) (h0 : Heap) (n0 : Nat) (O0 : Old Z n0 h0) (V_r0 : Arv Z h0 r0 k .byte (11 : Int32) [(.int (chv d0)), (.int (chv d1)), (.int (chv d2)), (.int (chv d3)), (.int (chv d4)), (.int (chv d5)), (.int (chv d6)), (.int (chv d7)), (.int (chv d8)), (.int (chv d9)), (.int (chv d10)), r11_] (.int 0)) (hd0 : Dg d0) (hd1 : Dg d1) (hd2 : Dg d2) (hd3 : Dg d3) (hd4 : Dg d4) (hd5 : Dg d5) (hd6 : Dg d6) (hd7 : Dg d7) (hd8 : Dg d8) (hd9 : Dg d9) (hd10 : Dg d10) :
    MetFree l (⟨"com/example/meerkat/meerkat/Base64Codec", "decode", "([B)[B"⟩ : MethodName) (head1 (Jvm.Cond.code (⟨"com/example/meerkat/meerkat/Base64Codec", "decode", "([B)[B"⟩ : MethodName) prog_8_method_3_code 9 (some (.array .byte)) :: ws) ({ frames := 2, cells := 1, slots := 8, locals := 60 } : Room)) (fun a U => a = #[(.ref r0)] ∧ Z.Warmed39 U.vm ∧ U.heap = h0) (fun _ _ _ _ _ => True) (fun _ U o U' => ∃ v L, o = .returned v ∧ own_Q (fun v hE L => ∃ (b : Addr), ∃ (kb : ClassId), v = some (.ref b) ∧ Fr n0 L ∧ Keep h0 hE [] ∧ h0.size ≤ b ∧ Arv Z hE b kb .byte (8 : Int32) [(.int ((((grp d0 d1 d2 d3) >>> ((16 : Int32) &&& 31)).toInt8.toInt32).toInt8.toInt32)), (.int ((((grp d0 d1 d2 d3) >>> ((8 : Int32) &&& 31)).toInt8.toInt32).toInt8.toInt32)), (.int (((grp d0 d1 d2 d3).toInt8.toInt32).toInt8.toInt32)), (.int ((((grp d4 d5 d6 d7) >>> ((16 : Int32) &&& 31)).toInt8.toInt32).toInt8.toInt32)), (.int ((((grp d4 d5 d6 d7) >>> ((8 : Int32) &&& 31)).toInt8.toInt32).toInt8.toInt32)), (.int (((grp d4 d5 d6 d7).toInt8.toInt32).toInt8.toInt32)), (.int ((((((((((0 : Int32) <<< ((6 : Int32) &&& 31)) ||| d8) <<< ((6 : Int32) &&& 31)) ||| d9) <<< ((6 : Int32) &&& 31)) ||| d10) >>> ((10 : Int32) &&& 31)).toInt8.toInt32).toInt8.toInt32)), (.int ((((((((((0 : Int32) <<< ((6 : Int32) &&& 31)) ||| d8) <<< ((6 : Int32) &&& 31)) ||| d9) <<< ((6 : Int32) &&& 31)) ||| d10) >>> ((2 : Int32) &&& 31)).toInt8.toInt32).toInt8.toInt32))] (.int 0)) v U'.heap L ∧ FrameEnd U o U' L ({ frames := 2, cells := 1, slots := 8, locals := 60 } : Room).cells ({ frames := 2, cells := 1, slots := 8, locals := 60 } : Room).slots) := by
  refine MetFree.of_bodySF (plainFor_of_name pn_1) hisR ?_
  intro p e s m args below meth c s₁ Bd hml0 hP hK
  obtain ⟨rfl, hZ, hh⟩ := hP
  have hx := Bd.exec
  have hby := Bd.bytes
  have hml : c.maxLocals = 9 := hml0
  have hown : s.vm.findClass "com/example/meerkat/meerkat/Base64Codec" = some m.cls := findClass_of_methodNamed Bd.named
  have hnm := (name_of_methodNamed Bd.named Bd.method).1
  have X0 : Stand p l e ({ frames := 2, cells := 1, slots := 8, locals := 60 } : Room) s m #[(.ref r0)] below meth c s₁ [] 0 0 := Stand.of_body Bd
  have e0 : s₁.heap = h0 := by rw [← hh, Bd.state]; rfl
  have N0 := Fr.nil n0
  have pre0 : ∀ t, Steps p.tables e below (s₁.setTop (mkF m 0 #[oR r0, oU, oU, oU, oU, oU, oU, oU, oU] [])) t → Steps p.tables e below (s₁.setTop (entryFrame m #[(.ref r0)] 9)) t := fun t k => castTop (ef_3x230 m r0) k
  obtain ⟨_, _, ⟨T183, L183, k183, n183⟩, -, X183, ⟨Lc183, hQ183, l183, y183, z183⟩, st183⟩ := Jvm.LawKit.callS X0 hx (y := (⟨"java/lang/Math", "max", "(II)I"⟩ : MethodName)) hown (mvT hZ (wi hw 12 rfl)) (mvT hZ (wi hw 13 rfl)) (mvT hZ (wi hw 14 rfl)) (mvT hZ (wi hw 15 rfl)) (by decide) (backOf (W := 1) (rm4 l Z a0 hw hS [] (0 : Int32) (2 : Int32) h0 n0 O0) hZ (wi hw 15 rfl) (wi hw 14 rfl) (by decide) (by decide)) (g := (mkF m 81 #[oR r0, oI 11, oI 3, oI 0, oU, oU, oU, oU, oU] [(.int 2), (.int 0), (.int 6)])) rfl (by rw [hml]; rfl) (argsL := [(.int 0), (.int 2)]) (rest := [(.int 6)]) (lenOf pd_3 rfl) rfl (by show 2 * 0 + _ ≤ _; exact Nat.le_of_eq rfl) (hb hby d3_81) (fun _ _ => ⟨rfl, e0, (by decide : 0 + 0 ≤ _), (by decide : 0 + 0 ≤ _)⟩)
  dsimp only [Pt.U, Pt.locs, Pt.cells, Pt.slots] at X183 l183 y183 z183 st183 hQ183
  subst l183 y183 z183
  obtain ⟨v183, N183q, h183q⟩ := hQ183
  have w183 : (fn4 Z (0 : Int32) (2 : Int32)) = (2 : Int32) := by unfold fn4; rw [if_pos (by decide : (0 : Int32) < (2 : Int32))]; all_goals first | rfl | decide
  rw [w183] at v183
  subst v183
  have N183 := Fr.app N0 N183q
  obtain ⟨T184, h184, k184, X184, e184, E184, A184, st184⟩ := newP X183 hx hZ (wi hw 0 rfl) h183q (g := (mkF m 85 #[oR r0, oI 11, oI 3, oI 0, oU, oU, oU, oU, oU] [(.int 8)])) rfl (hb hby d3_85) rfl (by decide) (cap := 8) (by decide) (by decide) (by decide) (by decide)
  obtain ⟨b184, g184⟩ : ∃ z, z = h0.size := ⟨_, rfl⟩
  have g_b184 : n0 ≤ b184 := Nat.le_trans (own_old_le O0) (Nat.le_of_eq g184.symm)
  have sz_b184 : h0.size ≤ b184 := Nat.le_trans (Keep.refl h0 []).1 (Nat.le_of_eq g184.symm)
  have ne_r0_b184 : r0 ≠ b184 := Nat.ne_of_lt (Nat.lt_of_lt_of_le V_r0.lt (Nat.le_of_eq g184.symm))
  rw [← g184] at A184 st184
  have O184 := O0.ext E184
  have Kc184 := (Keep.refl h0 []).ext E184
  have V184 : Arv Z h184 b184 k184 .byte (8 : Int32) [(.int 0), (.int 0), (.int 0), (.int 0), (.int 0), (.int 0), (.int 0), (.int 0)] (.int 0) := (Arv.new A184 (by decide)).pad (pad_rep [] (.int 0) 8)
  have fx185 := (V_r0.ext E184)
  obtain ⟨T186, h186, lc186, X186, e186, N186, K186q, V186', st186⟩ := tn3_0 Z a0 hw hS r0 b184 (11 : Int32) (3 : Int32) (0 : Int32) (8 : Int32) k (11 : Int32) [(.int (chv d0)), (.int (chv d1)), (.int (chv d2)), (.int (chv d3)), (.int (chv d4)), (.int (chv d5)), (.int (chv d6)), (.int (chv d7)), (.int (chv d8)), (.int (chv d9)), (.int (chv d10)), r11_] k184 (8 : Int32) [(.int 0), (.int 0), (.int 0), (.int 0), (.int 0), (.int 0), (.int 0), (.int 0)] d0 d1 d2 d3 h184 n0 O184 fx185 V184 g_b184 ne_r0_b184 hd0 hd1 hd2 hd3 rfl rfl rfl rfl ⟨by decide, by decide⟩ ⟨by decide, by decide⟩ ⟨by decide, by decide⟩ ⟨by decide, by decide⟩ ⟨by decide, by decide⟩ ⟨by decide, by decide⟩ ⟨by decide, by decide⟩ (Nat.le_of_ble_eq_true rfl) (Nat.le_of_ble_eq_true rfl) (Nat.le_of_ble_eq_true rfl) (by decide) X184 hx hZ hby hml hown e184 N183
  have O186 := O184.keep K186q (allS g_b184 all0)
  have Kc186 := Kc184.trans K186q (allS (Or.inr sz_b184) all0)
  have V186 : Arv Z h186 b184 k184 .byte (8 : Int32) [(.int ((((grp d0 d1 d2 d3) >>> ((16 : Int32) &&& 31)).toInt8.toInt32).toInt8.toInt32)), (.int ((((grp d0 d1 d2 d3) >>> ((8 : Int32) &&& 31)).toInt8.toInt32).toInt8.toInt32)), (.int (((grp d0 d1 d2 d3).toInt8.toInt32).toInt8.toInt32)), (.int 0), (.int 0), (.int 0), (.int 0), (.int 0)] (.int 0) := V186'
  have fx187 := (fx185.keep K186q (ninS ne_r0_b184 nin0))
  obtain ⟨T188, h188, lc188, X188, e188, N188, K188q, V188', st188⟩ := tn3_4 Z a0 hw hS r0 b184 (11 : Int32) (3 : Int32) (0 : Int32) (8 : Int32) (grp d0 d1 d2 d3) k (11 : Int32) [(.int (chv d0)), (.int (chv d1)), (.int (chv d2)), (.int (chv d3)), (.int (chv d4)), (.int (chv d5)), (.int (chv d6)), (.int (chv d7)), (.int (chv d8)), (.int (chv d9)), (.int (chv d10)), r11_] k184 (8 : Int32) [(.int ((((grp d0 d1 d2 d3) >>> ((16 : Int32) &&& 31)).toInt8.toInt32).toInt8.toInt32)), (.int ((((grp d0 d1 d2 d3) >>> ((8 : Int32) &&& 31)).toInt8.toInt32).toInt8.toInt32)), (.int (((grp d0 d1 d2 d3).toInt8.toInt32).toInt8.toInt32)), (.int 0), (.int 0), (.int 0), (.int 0), (.int 0)] d4 d5 d6 d7 h186 n0 O186 fx187 V186 g_b184 ne_r0_b184 hd4 hd5 hd6 hd7 rfl rfl rfl rfl ⟨by decide, by decide⟩ ⟨by decide, by decide⟩ ⟨by decide, by decide⟩ ⟨by decide, by decide⟩ ⟨by decide, by decide⟩ ⟨by decide, by decide⟩ ⟨by decide, by decide⟩ (Nat.le_of_ble_eq_true rfl) (Nat.le_of_ble_eq_true rfl) (Nat.le_of_ble_eq_true rfl) (by decide) X186 hx hZ hby hml hown e186 N186
  have O188 := O186.keep K188q (allS g_b184 all0)
  have Kc188 := Kc186.trans K188q (allS (Or.inr sz_b184) all0)
  have V188 : Arv Z h188 b184 k184 .byte (8 : Int32) [(.int ((((grp d0 d1 d2 d3) >>> ((16 : Int32) &&& 31)).toInt8.toInt32).toInt8.toInt32)), (.int ((((grp d0 d1 d2 d3) >>> ((8 : Int32) &&& 31)).toInt8.toInt32).toInt8.toInt32)), (.int (((grp d0 d1 d2 d3).toInt8.toInt32).toInt8.toInt32)), (.int ((((grp d4 d5 d6 d7) >>> ((16 : Int32) &&& 31)).toInt8.toInt32).toInt8.toInt32)), (.int ((((grp d4 d5 d6 d7) >>> ((8 : Int32) &&& 31)).toInt8.toInt32).toInt8.toInt32)), (.int (((grp d4 d5 d6 d7).toInt8.toInt32).toInt8.toInt32)), (.int 0), (.int 0)] (.int 0) := V188'
  have fx190 := (fx187.keep K188q (ninS ne_r0_b184 nin0))
  obtain ⟨_, _, ⟨T189, L189, k189, n189⟩, -, X189, ⟨Lc189, hQ189, l189, y189, z189⟩, st189⟩ := Jvm.LawKit.callS X188 hx (y := (⟨"com/example/meerkat/meerkat/Base64Codec", "bitsOf", "([BII)I"⟩ : MethodName)) hown (mvT hZ (wi hw 28 rfl)) (mvT hZ (wi hw 29 rfl)) (mvT hZ (wi hw 10 rfl)) (mvT hZ (wi hw 30 rfl)) (by decide) (backOf (W := 0) (rm8b2_3 l Z a0 hw hS [] r0 k (11 : Int32) [(.int (chv d0)), (.int (chv d1)), (.int (chv d2)), (.int (chv d3)), (.int (chv d4)), (.int (chv d5)), (.int (chv d6)), (.int (chv d7)), (.int (chv d8)), (.int (chv d9)), (.int (chv d10)), r11_] d8 d9 d10 h188 n0 O188 fx190 hd8 hd9 hd10 rfl rfl rfl ⟨by decide, by decide⟩ ⟨by decide, by decide⟩ ⟨by decide, by decide⟩) hZ (wi hw 30 rfl) (wi hw 10 rfl) (by decide) (by decide)) (g := (mkF m 265 #[oR r0, oI 11, oI 3, oI 0, oR b184, oI 6, oI 8, oI 8, oI (grp d4 d5 d6 d7)] [(.int 3), (.int 8), (.ref r0)])) rfl (by rw [hml]; rfl) (argsL := [(.ref r0), (.int 8), (.int 3)]) (rest := []) (lenOf pd_4 rfl) rfl (by show 2 * 0 + _ ≤ _; exact Nat.le_of_eq rfl) (hb hby d3_265) (fun _ _ => ⟨rfl, e188, (by decide : 1 + 0 ≤ _), (by decide : 8 + 0 ≤ _)⟩)
  dsimp only [Pt.U, Pt.locs, Pt.cells, Pt.slots] at X189 l189 y189 z189 st189 hQ189
  subst l189 y189 z189
  obtain ⟨v189, N189q, K189q⟩ := hQ189
  have w189 : (fn8b2_3 Z r0 k (11 : Int32) [(.int (chv d0)), (.int (chv d1)), (.int (chv d2)), (.int (chv d3)), (.int (chv d4)), (.int (chv d5)), (.int (chv d6)), (.int (chv d7)), (.int (chv d8)), (.int (chv d9)), (.int (chv d10)), r11_] d8 d9 d10) = (((((((0 : Int32) <<< ((6 : Int32) &&& 31)) ||| d8) <<< ((6 : Int32) &&& 31)) ||| d9) <<< ((6 : Int32) &&& 31)) ||| d10) := rfl
  rw [w189] at v189
  subst v189
  have N189 := Fr.app N188 N189q
  have O189 := O188.keep K189q all0
  have Kc189 := Kc188.trans K189q all0
  have fx192 := (V188.keep K189q nin0)
  obtain ⟨T191, h191, X191, e191, W191, V191', st191⟩ := own_stB X189 hx hZ rfl fx192 (j := (6 : Int32)) ⟨by decide, by decide⟩ rfl (by decide : ((6 : Int32) : Int32).toNatClampNeg < 8) (g := (mkF m 283 #[oR r0, oI 11, oI 3, oI 0, oR b184, oI 7, oI 8, oI (((((((0 : Int32) <<< ((6 : Int32) &&& 31)) ||| d8) <<< ((6 : Int32) &&& 31)) ||| d9) <<< ((6 : Int32) &&& 31)) ||| d10), oI (grp d4 d5 d6 d7)] [(.int (((((((((0 : Int32) <<< ((6 : Int32) &&& 31)) ||| d8) <<< ((6 : Int32) &&& 31)) ||| d9) <<< ((6 : Int32) &&& 31)) ||| d10) >>> ((10 : Int32) &&& 31)).toInt8.toInt32)), (.int 6), (.ref b184)])) rfl rfl (hb hby d3_283)
  have N191 := Fr.snoc X191 N189 g_b184
  have O191 := O189.wr W191 g_b184
  have Kc191 := Kc189.wr W191 (Or.inr sz_b184)
  have V191 : Arv Z h191 b184 k184 .byte (8 : Int32) [(.int ((((grp d0 d1 d2 d3) >>> ((16 : Int32) &&& 31)).toInt8.toInt32).toInt8.toInt32)), (.int ((((grp d0 d1 d2 d3) >>> ((8 : Int32) &&& 31)).toInt8.toInt32).toInt8.toInt32)), (.int (((grp d0 d1 d2 d3).toInt8.toInt32).toInt8.toInt32)), (.int ((((grp d4 d5 d6 d7) >>> ((16 : Int32) &&& 31)).toInt8.toInt32).toInt8.toInt32)), (.int ((((grp d4 d5 d6 d7) >>> ((8 : Int32) &&& 31)).toInt8.toInt32).toInt8.toInt32)), (.int (((grp d4 d5 d6 d7).toInt8.toInt32).toInt8.toInt32)), (.int ((((((((((0 : Int32) <<< ((6 : Int32) &&& 31)) ||| d8) <<< ((6 : Int32) &&& 31)) ||| d9) <<< ((6 : Int32) &&& 31)) ||| d10) >>> ((10 : Int32) &&& 31)).toInt8.toInt32).toInt8.toInt32)), (.int 0)] (.int 0) := V191'
  obtain ⟨T193, h193, X193, e193, W193, V193', st193⟩ := own_stB X191 hx hZ e191 V191 (j := (7 : Int32)) ⟨by decide, by decide⟩ rfl (by decide : ((7 : Int32) : Int32).toNatClampNeg < 8) (g := (mkF m 293 #[oR r0, oI 11, oI 3, oI 0, oR b184, oI 7, oI 8, oI (((((((0 : Int32) <<< ((6 : Int32) &&& 31)) ||| d8) <<< ((6 : Int32) &&& 31)) ||| d9) <<< ((6 : Int32) &&& 31)) ||| d10), oI (grp d4 d5 d6 d7)] [(.int (((((((((0 : Int32) <<< ((6 : Int32) &&& 31)) ||| d8) <<< ((6 : Int32) &&& 31)) ||| d9) <<< ((6 : Int32) &&& 31)) ||| d10) >>> ((2 : Int32) &&& 31)).toInt8.toInt32)), (.int 7), (.ref b184)])) rfl rfl (hb hby d3_293)
  have N193 := Fr.snoc X193 N191 g_b184
  have O193 := O191.wr W193 g_b184
  have Kc193 := Kc191.wr W193 (Or.inr sz_b184)
  have V193 : Arv Z h193 b184 k184 .byte (8 : Int32) [(.int ((((grp d0 d1 d2 d3) >>> ((16 : Int32) &&& 31)).toInt8.toInt32).toInt8.toInt32)), (.int ((((grp d0 d1 d2 d3) >>> ((8 : Int32) &&& 31)).toInt8.toInt32).toInt8.toInt32)), (.int (((grp d0 d1 d2 d3).toInt8.toInt32).toInt8.toInt32)), (.int ((((grp d4 d5 d6 d7) >>> ((16 : Int32) &&& 31)).toInt8.toInt32).toInt8.toInt32)), (.int ((((grp d4 d5 d6 d7) >>> ((8 : Int32) &&& 31)).toInt8.toInt32).toInt8.toInt32)), (.int (((grp d4 d5 d6 d7).toInt8.toInt32).toInt8.toInt32)), (.int ((((((((((0 : Int32) <<< ((6 : Int32) &&& 31)) ||| d8) <<< ((6 : Int32) &&& 31)) ||| d9) <<< ((6 : Int32) &&& 31)) ||| d10) >>> ((10 : Int32) &&& 31)).toInt8.toInt32).toInt8.toInt32)), (.int ((((((((((0 : Int32) <<< ((6 : Int32) &&& 31)) ||| d8) <<< ((6 : Int32) &&& 31)) ||| d9) <<< ((6 : Int32) &&& 31)) ||| d10) >>> ((2 : Int32) &&& 31)).toInt8.toInt32).toInt8.toInt32))] (.int 0) := V193'
  obtain ⟨fs, hr, hrun, hended, hW, hsame⟩ := X193.leave (v := some (.ref b184)) (fun h => by rw [Bd.returns] at h; cases h)
  refine ⟨_, _, pre0 _ ?_, hrun, hended, _, _, rfl, ?_, ⟨_, rfl⟩, hW, hsame.mono (by decide) (by decide)⟩
  · show oP p e below s₁ (mkF m 0 #[oR r0, oU, oU, oU, oU, oU, oU, oU, oU] []) _
    refine XS.aloadN X0.here hx rfl (hb hby d3_0) rfl rfl ?_
    show oP p e below s₁ (mkF m 1 #[oR r0, oU, oU, oU, oU, oU, oU, oU, oU] [(.ref r0)]) _
    refine own_len X0 hx hZ e0 V_r0 (g := (mkF m 1 #[oR r0, oU, oU, oU, oU, oU, oU, oU, oU] [(.ref r0)])) rfl rfl (hb hby d3_1) _ ?_
    show oP p e below s₁ (mkF m 2 #[oR r0, oU, oU, oU, oU, oU, oU, oU, oU] [(.int 11)]) _
    refine XS.istoreN X0.here hx rfl (hb hby d3_2) rfl (l' := #[oR r0, oI 11, oU, oU, oU, oU, oU, oU, oU]) rfl ?_
    show oP p e below s₁ (mkF m 3 #[oR r0, oI 11, oU, oU, oU, oU, oU, oU, oU] []) _
    refine XS.iloadN X0.here hx rfl (hb hby d3_3) rfl ?_
    refine XS.ifNo X0.here hx rfl (hb hby d3_4) rfl ((if0 _ _).trans (tlt (by decide : (0 : Int32) < (11 : Int32))).2.2.2) ?_
    show oP p e below s₁ (mkF m 7 #[oR r0, oI 11, oU, oU, oU, oU, oU, oU, oU] []) _
    refine XS.aloadN X0.here hx rfl (hb hby d3_7) rfl rfl ?_
    refine XS.iloadN X0.here hx rfl (hb hby d3_8) rfl ?_
    refine XS.iconst X0.here hx rfl (hb hby d3_9) ?_
    refine XS.isub X0.here hx rfl (hb hby d3_10) rfl ?_
    show oP p e below s₁ (mkF m 11 #[oR r0, oI 11, oU, oU, oU, oU, oU, oU, oU] [(.int 10), (.ref r0)]) _
    refine own_baload X0 hx hZ e0 V_r0 (j := (10 : Int32)) ⟨by decide, by decide⟩ (v := (.int (chv d10))) rfl (g := (mkF m 11 #[oR r0, oI 11, oU, oU, oU, oU, oU, oU, oU] [(.int 10), (.ref r0)])) rfl rfl (hb hby d3_11) _ ?_
    show oP p e below s₁ (mkF m 12 #[oR r0, oI 11, oU, oU, oU, oU, oU, oU, oU] [(.int (chv d10))]) _
    refine XS.bipush X0.here hx rfl (hb hby d3_12) ?_
    refine XS.icmpYes X0.here hx rfl (pc0 := 14) (pc' := 23) rfl (hb hby d3_14) rfl (feq (chv_ne hd10)).2 (by decide) (by decide) ?_
    show oP p e below s₁ (mkF m 23 #[oR r0, oI 11, oU, oU, oU, oU, oU, oU, oU] []) _
    refine XS.iloadN X0.here hx rfl (hb hby d3_23) rfl ?_
    refine XS.iconst X0.here hx rfl (hb hby d3_24) ?_
    refine XS.irem X0.here hx rfl (hb hby d3_25) rfl (by decide) ?_
    show oP p e below s₁ (mkF m 26 #[oR r0, oI 11, oU, oU, oU, oU, oU, oU, oU] [(.int 3)]) _
    refine XS.istoreN X0.here hx rfl (hb hby d3_26) rfl (l' := #[oR r0, oI 11, oI 3, oU, oU, oU, oU, oU, oU]) rfl ?_
    show oP p e below s₁ (mkF m 27 #[oR r0, oI 11, oI 3, oU, oU, oU, oU, oU, oU] []) _
    refine XS.aloadN X0.here hx rfl (hb hby d3_27) rfl rfl ?_
    show oP p e below s₁ (mkF m 28 #[oR r0, oI 11, oI 3, oU, oU, oU, oU, oU, oU] [(.ref r0)]) _
    refine own_len X0 hx hZ e0 V_r0 (g := (mkF m 28 #[oR r0, oI 11, oI 3, oU, oU, oU, oU, oU, oU] [(.ref r0)])) rfl rfl (hb hby d3_28) _ ?_
    show oP p e below s₁ (mkF m 29 #[oR r0, oI 11, oI 3, oU, oU, oU, oU, oU, oU] [(.int 11)]) _
    refine XS.iloadN X0.here hx rfl (hb hby d3_29) rfl ?_
    refine XS.isub X0.here hx rfl (hb hby d3_30) rfl ?_
    show oP p e below s₁ (mkF m 31 #[oR r0, oI 11, oI 3, oU, oU, oU, oU, oU, oU] [(.int 0)]) _
    refine XS.istoreN X0.here hx rfl (hb hby d3_31) rfl (l' := #[oR r0, oI 11, oI 3, oI 0, oU, oU, oU, oU, oU]) rfl ?_
    show oP p e below s₁ (mkF m 32 #[oR r0, oI 11, oI 3, oI 0, oU, oU, oU, oU, oU] []) _
    refine XS.iloadN X0.here hx rfl (hb hby d3_32) rfl ?_
    refine XS.iconst X0.here hx rfl (hb hby d3_33) ?_
    refine XS.icmpYes X0.here hx rfl (pc0 := 34) (pc' := 47) rfl (hb hby d3_34) rfl (feq (by decide : ¬ ((3 : Int32) = (1 : Int32)))).2 (by decide) (by decide) ?_
    show oP p e below s₁ (mkF m 47 #[oR r0, oI 11, oI 3, oI 0, oU, oU, oU, oU, oU] []) _
    refine XS.iloadN X0.here hx rfl (hb hby d3_47) rfl ?_
    refine XS.ifYes X0.here hx rfl (pc0 := 48) (pc' := 72) rfl (hb hby d3_48) rfl ((if0 _ _).trans (flt (by decide : ¬ ((0 : Int32) < (0 : Int32)))).2.2.2) (by decide) (by decide) ?_
    show oP p e below s₁ (mkF m 72 #[oR r0, oI 11, oI 3, oI 0, oU, oU, oU, oU, oU] []) _
    refine XS.iloadN X0.here hx rfl (hb hby d3_72) rfl ?_
    refine XS.iconst X0.here hx rfl (hb hby d3_73) ?_
    refine XS.idiv X0.here hx rfl (hb hby d3_74) rfl (by decide) ?_
    show oP p e below s₁ (mkF m 75 #[oR r0, oI 11, oI 3, oI 0, oU, oU, oU, oU, oU] [(.int 2)]) _
    refine XS.iconst X0.here hx rfl (hb hby d3_75) ?_
    refine XS.imul X0.here hx rfl (hb hby d3_76) rfl ?_
    show oP p e below s₁ (mkF m 77 #[oR r0, oI 11, oI 3, oI 0, oU, oU, oU, oU, oU] [(.int 6)]) _
    refine XS.iconst X0.here hx rfl (hb hby d3_77) ?_
    refine XS.iloadN X0.here hx rfl (hb hby d3_78) rfl ?_
    refine XS.iconst X0.here hx rfl (hb hby d3_79) ?_
    refine XS.isub X0.here hx rfl (hb hby d3_80) rfl ?_
    show oP p e below s₁ (mkF m 81 #[oR r0, oI 11, oI 3, oI 0, oU, oU, oU, oU, oU] [(.int 2), (.int 0), (.int 6)]) _
    refine st183 _ ?_
    show oP p e below T183 (mkF m 84 #[oR r0, oI 11, oI 3, oI 0, oU, oU, oU, oU, oU] [(.int 2), (.int 6)]) _
    refine XS.iadd X183.here hx rfl (hb hby d3_84) rfl ?_
    show oP p e below T183 (mkF m 85 #[oR r0, oI 11, oI 3, oI 0, oU, oU, oU, oU, oU] [(.int 8)]) _
    refine st184 _ ?_
    show oP p e below T184 (mkF m 87 #[oR r0, oI 11, oI 3, oI 0, oU, oU, oU, oU, oU] [(.ref b184)]) _
    refine XS.astore X184.here hx rfl (hb hby d3_87) rfl rfl (l' := #[oR r0, oI 11, oI 3, oI 0, oR b184, oU, oU, oU, oU]) rfl ?_
    show oP p e below T184 (mkF m 89 #[oR r0, oI 11, oI 3, oI 0, oR b184, oU, oU, oU, oU] []) _
    refine XS.iconst X184.here hx rfl (hb hby d3_89) ?_
    refine XS.istore X184.here hx rfl (hb hby d3_90) rfl (l' := #[oR r0, oI 11, oI 3, oI 0, oR b184, oI 0, oU, oU, oU]) rfl ?_
    show oP p e below T184 (mkF m 92 #[oR r0, oI 11, oI 3, oI 0, oR b184, oI 0, oU, oU, oU] []) _
    refine XS.iloadN X184.here hx rfl (hb hby d3_92) rfl ?_
    refine XS.iloadN X184.here hx rfl (hb hby d3_93) rfl ?_
    refine XS.isub X184.here hx rfl (hb hby d3_94) rfl ?_
    show oP p e below T184 (mkF m 95 #[oR r0, oI 11, oI 3, oI 0, oR b184, oI 0, oU, oU, oU] [(.int 8)]) _
    refine XS.istore X184.here hx rfl (hb hby d3_95) rfl (l' := #[oR r0, oI 11, oI 3, oI 0, oR b184, oI 0, oI 8, oU, oU]) rfl ?_
    show oP p e below T184 (mkF m 97 #[oR r0, oI 11, oI 3, oI 0, oR b184, oI 0, oI 8, oU, oU] []) _
    refine XS.iconst X184.here hx rfl (hb hby d3_97) ?_
    refine XS.istore X184.here hx rfl (hb hby d3_98) rfl (l' := #[oR r0, oI 11, oI 3, oI 0, oR b184, oI 0, oI 8, oI 0, oU]) rfl ?_
    show oP p e below T184 (mkF m 100 #[oR r0, oI 11, oI 3, oI 0, oR b184, oI 0, oI 8, oI 0, oU] []) _
    refine st186 _ ?_
    show oP p e below T186 (mkF m 100 #[oR r0, oI 11, oI 3, oI 0, oR b184, oI 3, oI 8, oI 4, oI (grp d0 d1 d2 d3)] []) _
    refine st188 _ ?_
    show oP p e below T188 (mkF m 100 #[oR r0, oI 11, oI 3, oI 0, oR b184, oI 6, oI 8, oI 8, oI (grp d4 d5 d6 d7)] []) _
    refine XS.iload X188.here hx rfl (hb hby d3_100) rfl ?_
    show oP p e below T188 (mkF m 102 #[oR r0, oI 11, oI 3, oI 0, oR b184, oI 6, oI 8, oI 8, oI (grp d4 d5 d6 d7)] [(.int 8)]) _
    refine XS.iload X188.here hx rfl (hb hby d3_102) rfl ?_
    show oP p e below T188 (mkF m 104 #[oR r0, oI 11, oI 3, oI 0, oR b184, oI 6, oI 8, oI 8, oI (grp d4 d5 d6 d7)] [(.int 8), (.int 8)]) _
    refine XS.icmpYes X188.here hx rfl (pc0 := 104) (pc' := 233) rfl (hb hby d3_104) rfl (flt (by decide : ¬ ((8 : Int32) < (8 : Int32)))).2.1 (by decide) (by decide) ?_
    show oP p e below T188 (mkF m 233 #[oR r0, oI 11, oI 3, oI 0, oR b184, oI 6, oI 8, oI 8, oI (grp d4 d5 d6 d7)] []) _
    refine XS.iloadN X188.here hx rfl (hb hby d3_233) rfl ?_
    refine XS.iconst X188.here hx rfl (hb hby d3_234) ?_
    refine XS.icmpYes X188.here hx rfl (pc0 := 235) (pc' := 256) rfl (hb hby d3_235) rfl (feq (by decide : ¬ ((3 : Int32) = (2 : Int32)))).2 (by decide) (by decide) ?_
    show oP p e below T188 (mkF m 256 #[oR r0, oI 11, oI 3, oI 0, oR b184, oI 6, oI 8, oI 8, oI (grp d4 d5 d6 d7)] []) _
    refine XS.iloadN X188.here hx rfl (hb hby d3_256) rfl ?_
    refine XS.iconst X188.here hx rfl (hb hby d3_257) ?_
    refine XS.icmpNo X188.here hx rfl (hb hby d3_258) rfl (teq (by decide : (3 : Int32) = (3 : Int32))).2 ?_
    show oP p e below T188 (mkF m 261 #[oR r0, oI 11, oI 3, oI 0, oR b184, oI 6, oI 8, oI 8, oI (grp d4 d5 d6 d7)] []) _
    refine XS.aloadN X188.here hx rfl (hb hby d3_261) rfl rfl ?_
    refine XS.iload X188.here hx rfl (hb hby d3_262) rfl ?_
    show oP p e below T188 (mkF m 264 #[oR r0, oI 11, oI 3, oI 0, oR b184, oI 6, oI 8, oI 8, oI (grp d4 d5 d6 d7)] [(.int 8), (.ref r0)]) _
    refine XS.iconst X188.here hx rfl (hb hby d3_264) ?_
    show oP p e below T188 (mkF m 265 #[oR r0, oI 11, oI 3, oI 0, oR b184, oI 6, oI 8, oI 8, oI (grp d4 d5 d6 d7)] [(.int 3), (.int 8), (.ref r0)]) _
    refine st189 _ ?_
    show oP p e below T189 (mkF m 268 #[oR r0, oI 11, oI 3, oI 0, oR b184, oI 6, oI 8, oI 8, oI (grp d4 d5 d6 d7)] [(.int (((((((0 : Int32) <<< ((6 : Int32) &&& 31)) ||| d8) <<< ((6 : Int32) &&& 31)) ||| d9) <<< ((6 : Int32) &&& 31)) ||| d10))]) _
    refine XS.istore X189.here hx rfl (hb hby d3_268) rfl (l' := #[oR r0, oI 11, oI 3, oI 0, oR b184, oI 6, oI 8, oI (((((((0 : Int32) <<< ((6 : Int32) &&& 31)) ||| d8) <<< ((6 : Int32) &&& 31)) ||| d9) <<< ((6 : Int32) &&& 31)) ||| d10), oI (grp d4 d5 d6 d7)]) rfl ?_
    show oP p e below T189 (mkF m 270 #[oR r0, oI 11, oI 3, oI 0, oR b184, oI 6, oI 8, oI (((((((0 : Int32) <<< ((6 : Int32) &&& 31)) ||| d8) <<< ((6 : Int32) &&& 31)) ||| d9) <<< ((6 : Int32) &&& 31)) ||| d10), oI (grp d4 d5 d6 d7)] []) _
    refine XS.aload X189.here hx rfl (hb hby d3_270) rfl rfl ?_
    show oP p e below T189 (mkF m 272 #[oR r0, oI 11, oI 3, oI 0, oR b184, oI 6, oI 8, oI (((((((0 : Int32) <<< ((6 : Int32) &&& 31)) ||| d8) <<< ((6 : Int32) &&& 31)) ||| d9) <<< ((6 : Int32) &&& 31)) ||| d10), oI (grp d4 d5 d6 d7)] [(.ref b184)]) _
    refine XS.iload X189.here hx rfl (hb hby d3_272) rfl ?_
    show oP p e below T189 (mkF m 274 #[oR r0, oI 11, oI 3, oI 0, oR b184, oI 6, oI 8, oI (((((((0 : Int32) <<< ((6 : Int32) &&& 31)) ||| d8) <<< ((6 : Int32) &&& 31)) ||| d9) <<< ((6 : Int32) &&& 31)) ||| d10), oI (grp d4 d5 d6 d7)] [(.int 6), (.ref b184)]) _
    refine XS.iinc X189.here hx rfl (hb hby d3_274) rfl (l' := #[oR r0, oI 11, oI 3, oI 0, oR b184, oI 7, oI 8, oI (((((((0 : Int32) <<< ((6 : Int32) &&& 31)) ||| d8) <<< ((6 : Int32) &&& 31)) ||| d9) <<< ((6 : Int32) &&& 31)) ||| d10), oI (grp d4 d5 d6 d7)]) rfl ?_
    show oP p e below T189 (mkF m 277 #[oR r0, oI 11, oI 3, oI 0, oR b184, oI 7, oI 8, oI (((((((0 : Int32) <<< ((6 : Int32) &&& 31)) ||| d8) <<< ((6 : Int32) &&& 31)) ||| d9) <<< ((6 : Int32) &&& 31)) ||| d10), oI (grp d4 d5 d6 d7)] [(.int 6), (.ref b184)]) _
    refine XS.iload X189.here hx rfl (hb hby d3_277) rfl ?_
    show oP p e below T189 (mkF m 279 #[oR r0, oI 11, oI 3, oI 0, oR b184, oI 7, oI 8, oI (((((((0 : Int32) <<< ((6 : Int32) &&& 31)) ||| d8) <<< ((6 : Int32) &&& 31)) ||| d9) <<< ((6 : Int32) &&& 31)) ||| d10), oI (grp d4 d5 d6 d7)] [(.int (((((((0 : Int32) <<< ((6 : Int32) &&& 31)) ||| d8) <<< ((6 : Int32) &&& 31)) ||| d9) <<< ((6 : Int32) &&& 31)) ||| d10)), (.int 6), (.ref b184)]) _
    refine XS.bipush X189.here hx rfl (hb hby d3_279) ?_
    refine XS.ishr X189.here hx rfl (hb hby d3_281) rfl ?_
    show oP p e below T189 (mkF m 282 #[oR r0, oI 11, oI 3, oI 0, oR b184, oI 7, oI 8, oI (((((((0 : Int32) <<< ((6 : Int32) &&& 31)) ||| d8) <<< ((6 : Int32) &&& 31)) ||| d9) <<< ((6 : Int32) &&& 31)) ||| d10), oI (grp d4 d5 d6 d7)] [(.int ((((((((0 : Int32) <<< ((6 : Int32) &&& 31)) ||| d8) <<< ((6 : Int32) &&& 31)) ||| d9) <<< ((6 : Int32) &&& 31)) ||| d10) >>> ((10 : Int32) &&& 31))), (.int 6), (.ref b184)]) _
    refine XS.i2b X189.here hx rfl (hb hby d3_282) rfl ?_
    show oP p e below T189 (mkF m 283 #[oR r0, oI 11, oI 3, oI 0, oR b184, oI 7, oI 8, oI (((((((0 : Int32) <<< ((6 : Int32) &&& 31)) ||| d8) <<< ((6 : Int32) &&& 31)) ||| d9) <<< ((6 : Int32) &&& 31)) ||| d10), oI (grp d4 d5 d6 d7)] [(.int (((((((((0 : Int32) <<< ((6 : Int32) &&& 31)) ||| d8) <<< ((6 : Int32) &&& 31)) ||| d9) <<< ((6 : Int32) &&& 31)) ||| d10) >>> ((10 : Int32) &&& 31)).toInt8.toInt32)), (.int 6), (.ref b184)]) _
    refine st191 _ ?_
    show oP p e below T191 (mkF m 284 #[oR r0, oI 11, oI 3, oI 0, oR b184, oI 7, oI 8, oI (((((((0 : Int32) <<< ((6 : Int32) &&& 31)) ||| d8) <<< ((6 : Int32) &&& 31)) ||| d9) <<< ((6 : Int32) &&& 31)) ||| d10), oI (grp d4 d5 d6 d7)] []) _
    refine XS.aload X191.here hx rfl (hb hby d3_284) rfl rfl ?_
    show oP p e below T191 (mkF m 286 #[oR r0, oI 11, oI 3, oI 0, oR b184, oI 7, oI 8, oI (((((((0 : Int32) <<< ((6 : Int32) &&& 31)) ||| d8) <<< ((6 : Int32) &&& 31)) ||| d9) <<< ((6 : Int32) &&& 31)) ||| d10), oI (grp d4 d5 d6 d7)] [(.ref b184)]) _
    refine XS.iload X191.here hx rfl (hb hby d3_286) rfl ?_
    show oP p e below T191 (mkF m 288 #[oR r0, oI 11, oI 3, oI 0, oR b184, oI 7, oI 8, oI (((((((0 : Int32) <<< ((6 : Int32) &&& 31)) ||| d8) <<< ((6 : Int32) &&& 31)) ||| d9) <<< ((6 : Int32) &&& 31)) ||| d10), oI (grp d4 d5 d6 d7)] [(.int 7), (.ref b184)]) _
    refine XS.iload X191.here hx rfl (hb hby d3_288) rfl ?_
    show oP p e below T191 (mkF m 290 #[oR r0, oI 11, oI 3, oI 0, oR b184, oI 7, oI 8, oI (((((((0 : Int32) <<< ((6 : Int32) &&& 31)) ||| d8) <<< ((6 : Int32) &&& 31)) ||| d9) <<< ((6 : Int32) &&& 31)) ||| d10), oI (grp d4 d5 d6 d7)] [(.int (((((((0 : Int32) <<< ((6 : Int32) &&& 31)) ||| d8) <<< ((6 : Int32) &&& 31)) ||| d9) <<< ((6 : Int32) &&& 31)) ||| d10)), (.int 7), (.ref b184)]) _
    refine XS.iconst X191.here hx rfl (hb hby d3_290) ?_
    refine XS.ishr X191.here hx rfl (hb hby d3_291) rfl ?_
    show oP p e below T191 (mkF m 292 #[oR r0, oI 11, oI 3, oI 0, oR b184, oI 7, oI 8, oI (((((((0 : Int32) <<< ((6 : Int32) &&& 31)) ||| d8) <<< ((6 : Int32) &&& 31)) ||| d9) <<< ((6 : Int32) &&& 31)) ||| d10), oI (grp d4 d5 d6 d7)] [(.int ((((((((0 : Int32) <<< ((6 : Int32) &&& 31)) ||| d8) <<< ((6 : Int32) &&& 31)) ||| d9) <<< ((6 : Int32) &&& 31)) ||| d10) >>> ((2 : Int32) &&& 31))), (.int 7), (.ref b184)]) _
    refine XS.i2b X191.here hx rfl (hb hby d3_292) rfl ?_
    show oP p e below T191 (mkF m 293 #[oR r0, oI 11, oI 3, oI 0, oR b184, oI 7, oI 8, oI (((((((0 : Int32) <<< ((6 : Int32) &&& 31)) ||| d8) <<< ((6 : Int32) &&& 31)) ||| d9) <<< ((6 : Int32) &&& 31)) ||| d10), oI (grp d4 d5 d6 d7)] [(.int (((((((((0 : Int32) <<< ((6 : Int32) &&& 31)) ||| d8) <<< ((6 : Int32) &&& 31)) ||| d9) <<< ((6 : Int32) &&& 31)) ||| d10) >>> ((2 : Int32) &&& 31)).toInt8.toInt32)), (.int 7), (.ref b184)]) _
    refine st193 _ ?_
    show oP p e below T193 (mkF m 294 #[oR r0, oI 11, oI 3, oI 0, oR b184, oI 7, oI 8, oI (((((((0 : Int32) <<< ((6 : Int32) &&& 31)) ||| d8) <<< ((6 : Int32) &&& 31)) ||| d9) <<< ((6 : Int32) &&& 31)) ||| d10), oI (grp d4 d5 d6 d7)] []) _
    refine XS.aload X193.here hx rfl (hb hby d3_294) rfl rfl ?_
    show oP p e below T193 (mkF m 296 #[oR r0, oI 11, oI 3, oI 0, oR b184, oI 7, oI 8, oI (((((((0 : Int32) <<< ((6 : Int32) &&& 31)) ||| d8) <<< ((6 : Int32) &&& 31)) ||| d9) <<< ((6 : Int32) &&& 31)) ||| d10), oI (grp d4 d5 d6 d7)] [(.ref b184)]) _
    exact own_retA X193 hx Bd.returns rfl rfl (hb hby d3_296) hr
  · show ∃ (b : Addr), ∃ (kb : ClassId), (some (.ref b184) : Option Value) = some (.ref b) ∧ Fr n0 _ ∧ Keep h0 T193.heap [] ∧ h0.size ≤ b ∧ Arv Z T193.heap b kb .byte (8 : Int32) [(.int ((((grp d0 d1 d2 d3) >>> ((16 : Int32) &&& 31)).toInt8.toInt32).toInt8.toInt32)), (.int ((((grp d0 d1 d2 d3) >>> ((8 : Int32) &&& 31)).toInt8.toInt32).toInt8.toInt32)), (.int (((grp d0 d1 d2 d3).toInt8.toInt32).toInt8.toInt32)), (.int ((((grp d4 d5 d6 d7) >>> ((16 : Int32) &&& 31)).toInt8.toInt32).toInt8.toInt32)), (.int ((((grp d4 d5 d6 d7) >>> ((8 : Int32) &&& 31)).toInt8.toInt32).toInt8.toInt32)), (.int (((grp d4 d5 d6 d7).toInt8.toInt32).toInt8.toInt32)), (.int ((((((((((0 : Int32) <<< ((6 : Int32) &&& 31)) ||| d8) <<< ((6 : Int32) &&& 31)) ||| d9) <<< ((6 : Int32) &&& 31)) ||| d10) >>> ((10 : Int32) &&& 31)).toInt8.toInt32).toInt8.toInt32)), (.int ((((((((((0 : Int32) <<< ((6 : Int32) &&& 31)) ||| d8) <<< ((6 : Int32) &&& 31)) ||| d9) <<< ((6 : Int32) &&& 31)) ||| d10) >>> ((2 : Int32) &&& 31)).toInt8.toInt32).toInt8.toInt32))] (.int 0)
    rw [e193]
    exact ⟨b184, k184, rfl, N193, Kc193, sz_b184, V193⟩
theorem ef_3x231 (m : MethodId) (x0 : Addr) : entryFrame m #[(.ref x0)] 9 = mkF m 0 #[.val (.ref x0), .unset, .unset, .unset, .unset, .unset, .unset, .unset, .unset] [] := by first | (simp [entryFrame, mkF, argsToLocals, Value.category]; done) | rfl
set_option maxRecDepth 65536 in
set_option maxHeartbeats 40000000 in
theorem rm3x231 (l : Launch) (Z : State) (a0 : Array Value) (hw : ∀ d ∈ tables_1, d.before a0 Z = true) (hS : St Z) (ws : List Jvm.Cond) (r0 : Addr) (k : ClassId) (d0 : Int32) (d1 : Int32) (d2 : Int32) (d3 : Int32) (d4 : Int32) (d5 : Int32) (d6 : Int32) (d7 : Int32) (d8 : Int32) (d9 : Int32) (d10 : Int32) (h0 : Heap) (n0 : Nat) (O0 : Old Z n0 h0) (V_r0 : Arv Z h0 r0 k .byte (12 : Int32) [(.int (chv d0)), (.int (chv d1)), (.int (chv d2)), (.int (chv d3)), (.int (chv d4)), (.int (chv d5)), (.int (chv d6)), (.int (chv d7)), (.int (chv d8)), (.int (chv d9)), (.int (chv d10)), (.int 61)] (.int 0)) (hd0 : Dg d0) (hd1 : Dg d1) (hd2 : Dg d2) (hd3 : Dg d3) (hd4 : Dg d4) (hd5 : Dg d5) (hd6 : Dg d6) (hd7 : Dg d7) (hd8 : Dg d8) (hd9 : Dg d9) (hd10 : Dg d10) :
    MetFree l (⟨"com/example/meerkat/meerkat/Base64Codec", "decode", "([B)[B"⟩ : MethodName) (head1 (Jvm.Cond.code (⟨"com/example/meerkat/meerkat/Base64Codec", "decode", "([B)[B"⟩ : MethodName) prog_8_method_3_code 9 (some (.array .byte)) :: ws) ({ frames := 2, cells := 1, slots := 8, locals := 60 } : Room)) (fun a U => a = #[(.ref r0)] ∧ Z.Warmed39 U.vm ∧ U.heap = h0) (fun _ _ _ _ _ => True) (fun _ U o U' => ∃ v L, o = .returned v ∧ own_Q (fun v hE L => ∃ (b : Addr), ∃ (kb : ClassId), v = some (.ref b) ∧ Fr n0 L ∧ Keep h0 hE [] ∧ h0.size ≤ b ∧ Arv Z hE b kb .byte (8 : Int32) [(.int ((((grp d0 d1 d2 d3) >>> ((16 : Int32) &&& 31)).toInt8.toInt32).toInt8.toInt32)), (.int ((((grp d0 d1 d2 d3) >>> ((8 : Int32) &&& 31)).toInt8.toInt32).toInt8.toInt32)), (.int (((grp d0 d1 d2 d3).toInt8.toInt32).toInt8.toInt32)), (.int ((((grp d4 d5 d6 d7) >>> ((16 : Int32) &&& 31)).toInt8.toInt32).toInt8.toInt32)), (.int ((((grp d4 d5 d6 d7) >>> ((8 : Int32) &&& 31)).toInt8.toInt32).toInt8.toInt32)), (.int (((grp d4 d5 d6 d7).toInt8.toInt32).toInt8.toInt32)), (.int ((((((((((0 : Int32) <<< ((6 : Int32) &&& 31)) ||| d8) <<< ((6 : Int32) &&& 31)) ||| d9) <<< ((6 : Int32) &&& 31)) ||| d10) >>> ((10 : Int32) &&& 31)).toInt8.toInt32).toInt8.toInt32)), (.int ((((((((((0 : Int32) <<< ((6 : Int32) &&& 31)) ||| d8) <<< ((6 : Int32) &&& 31)) ||| d9) <<< ((6 : Int32) &&& 31)) ||| d10) >>> ((2 : Int32) &&& 31)).toInt8.toInt32).toInt8.toInt32))] (.int 0)) v U'.heap L ∧ FrameEnd U o U' L ({ frames := 2, cells := 1, slots := 8, locals := 60 } : Room).cells ({ frames := 2, cells := 1, slots := 8, locals := 60 } : Room).slots) := by
  refine MetFree.of_bodySF (plainFor_of_name pn_1) hisR ?_
  intro p e s m args below meth c s₁ Bd hml0 hP hK
  obtain ⟨rfl, hZ, hh⟩ := hP
  have hx := Bd.exec
  have hby := Bd.bytes
  have hml : c.maxLocals = 9 := hml0
  have hown : s.vm.findClass "com/example/meerkat/meerkat/Base64Codec" = some m.cls := findClass_of_methodNamed Bd.named
  have hnm := (name_of_methodNamed Bd.named Bd.method).1
  have X0 : Stand p l e ({ frames := 2, cells := 1, slots := 8, locals := 60 } : Room) s m #[(.ref r0)] below meth c s₁ [] 0 0 := Stand.of_body Bd
  have e0 : s₁.heap = h0 := by rw [← hh, Bd.state]; rfl
  have N0 := Fr.nil n0
  have pre0 : ∀ t, Steps p.tables e below (s₁.setTop (mkF m 0 #[oR r0, oU, oU, oU, oU, oU, oU, oU, oU] [])) t → Steps p.tables e below (s₁.setTop (entryFrame m #[(.ref r0)] 9)) t := fun t k => castTop (ef_3x231 m r0) k
  obtain ⟨_, _, ⟨T194, L194, k194, n194⟩, -, X194, ⟨Lc194, hQ194, l194, y194, z194⟩, st194⟩ := Jvm.LawKit.callS X0 hx (y := (⟨"java/lang/Math", "max", "(II)I"⟩ : MethodName)) hown (mvT hZ (wi hw 12 rfl)) (mvT hZ (wi hw 13 rfl)) (mvT hZ (wi hw 14 rfl)) (mvT hZ (wi hw 15 rfl)) (by decide) (backOf (W := 1) (rm4 l Z a0 hw hS [] (0 : Int32) (2 : Int32) h0 n0 O0) hZ (wi hw 15 rfl) (wi hw 14 rfl) (by decide) (by decide)) (g := (mkF m 81 #[oR r0, oI 11, oI 3, oI 1, oU, oU, oU, oU, oU] [(.int 2), (.int 0), (.int 6)])) rfl (by rw [hml]; rfl) (argsL := [(.int 0), (.int 2)]) (rest := [(.int 6)]) (lenOf pd_3 rfl) rfl (by show 2 * 0 + _ ≤ _; exact Nat.le_of_eq rfl) (hb hby d3_81) (fun _ _ => ⟨rfl, e0, (by decide : 0 + 0 ≤ _), (by decide : 0 + 0 ≤ _)⟩)
  dsimp only [Pt.U, Pt.locs, Pt.cells, Pt.slots] at X194 l194 y194 z194 st194 hQ194
  subst l194 y194 z194
  obtain ⟨v194, N194q, h194q⟩ := hQ194
  have w194 : (fn4 Z (0 : Int32) (2 : Int32)) = (2 : Int32) := by unfold fn4; rw [if_pos (by decide : (0 : Int32) < (2 : Int32))]; all_goals first | rfl | decide
  rw [w194] at v194
  subst v194
  have N194 := Fr.app N0 N194q
  obtain ⟨T195, h195, k195, X195, e195, E195, A195, st195⟩ := newP X194 hx hZ (wi hw 0 rfl) h194q (g := (mkF m 85 #[oR r0, oI 11, oI 3, oI 1, oU, oU, oU, oU, oU] [(.int 8)])) rfl (hb hby d3_85) rfl (by decide) (cap := 8) (by decide) (by decide) (by decide) (by decide)
  obtain ⟨b195, g195⟩ : ∃ z, z = h0.size := ⟨_, rfl⟩
  have g_b195 : n0 ≤ b195 := Nat.le_trans (own_old_le O0) (Nat.le_of_eq g195.symm)
  have sz_b195 : h0.size ≤ b195 := Nat.le_trans (Keep.refl h0 []).1 (Nat.le_of_eq g195.symm)
  have ne_r0_b195 : r0 ≠ b195 := Nat.ne_of_lt (Nat.lt_of_lt_of_le V_r0.lt (Nat.le_of_eq g195.symm))
  rw [← g195] at A195 st195
  have O195 := O0.ext E195
  have Kc195 := (Keep.refl h0 []).ext E195
  have V195 : Arv Z h195 b195 k195 .byte (8 : Int32) [(.int 0), (.int 0), (.int 0), (.int 0), (.int 0), (.int 0), (.int 0), (.int 0)] (.int 0) := (Arv.new A195 (by decide)).pad (pad_rep [] (.int 0) 8)
  have fx196 := (V_r0.ext E195)
  obtain ⟨T197, h197, lc197, X197, e197, N197, K197q, V197', st197⟩ := tn3_0 Z a0 hw hS r0 b195 (11 : Int32) (3 : Int32) (1 : Int32) (8 : Int32) k (12 : Int32) [(.int (chv d0)), (.int (chv d1)), (.int (chv d2)), (.int (chv d3)), (.int (chv d4)), (.int (chv d5)), (.int (chv d6)), (.int (chv d7)), (.int (chv d8)), (.int (chv d9)), (.int (chv d10)), (.int 61)] k195 (8 : Int32) [(.int 0), (.int 0), (.int 0), (.int 0), (.int 0), (.int 0), (.int 0), (.int 0)] d0 d1 d2 d3 h195 n0 O195 fx196 V195 g_b195 ne_r0_b195 hd0 hd1 hd2 hd3 rfl rfl rfl rfl ⟨by decide, by decide⟩ ⟨by decide, by decide⟩ ⟨by decide, by decide⟩ ⟨by decide, by decide⟩ ⟨by decide, by decide⟩ ⟨by decide, by decide⟩ ⟨by decide, by decide⟩ (Nat.le_of_ble_eq_true rfl) (Nat.le_of_ble_eq_true rfl) (Nat.le_of_ble_eq_true rfl) (by decide) X195 hx hZ hby hml hown e195 N194
  have O197 := O195.keep K197q (allS g_b195 all0)
  have Kc197 := Kc195.trans K197q (allS (Or.inr sz_b195) all0)
  have V197 : Arv Z h197 b195 k195 .byte (8 : Int32) [(.int ((((grp d0 d1 d2 d3) >>> ((16 : Int32) &&& 31)).toInt8.toInt32).toInt8.toInt32)), (.int ((((grp d0 d1 d2 d3) >>> ((8 : Int32) &&& 31)).toInt8.toInt32).toInt8.toInt32)), (.int (((grp d0 d1 d2 d3).toInt8.toInt32).toInt8.toInt32)), (.int 0), (.int 0), (.int 0), (.int 0), (.int 0)] (.int 0) := V197'
  have fx198 := (fx196.keep K197q (ninS ne_r0_b195 nin0))
  obtain ⟨T199, h199, lc199, X199, e199, N199, K199q, V199', st199⟩ := tn3_4 Z a0 hw hS r0 b195 (11 : Int32) (3 : Int32) (1 : Int32) (8 : Int32) (grp d0 d1 d2 d3) k (12 : Int32) [(.int (chv d0)), (.int (chv d1)), (.int (chv d2)), (.int (chv d3)), (.int (chv d4)), (.int (chv d5)), (.int (chv d6)), (.int (chv d7)), (.int (chv d8)), (.int (chv d9)), (.int (chv d10)), (.int 61)] k195 (8 : Int32) [(.int ((((grp d0 d1 d2 d3) >>> ((16 : Int32) &&& 31)).toInt8.toInt32).toInt8.toInt32)), (.int ((((grp d0 d1 d2 d3) >>> ((8 : Int32) &&& 31)).toInt8.toInt32).toInt8.toInt32)), (.int (((grp d0 d1 d2 d3).toInt8.toInt32).toInt8.toInt32)), (.int 0), (.int 0), (.int 0), (.int 0), (.int 0)] d4 d5 d6 d7 h197 n0 O197 fx198 V197 g_b195 ne_r0_b195 hd4 hd5 hd6 hd7 rfl rfl rfl rfl ⟨by decide, by decide⟩ ⟨by decide, by decide⟩ ⟨by decide, by decide⟩ ⟨by decide, by decide⟩ ⟨by decide, by decide⟩ ⟨by decide, by decide⟩ ⟨by decide, by decide⟩ (Nat.le_of_ble_eq_true rfl) (Nat.le_of_ble_eq_true rfl) (Nat.le_of_ble_eq_true rfl) (by decide) X197 hx hZ hby hml hown e197 N197
  have O199 := O197.keep K199q (allS g_b195 all0)
  have Kc199 := Kc197.trans K199q (allS (Or.inr sz_b195) all0)
  have V199 : Arv Z h199 b195 k195 .byte (8 : Int32) [(.int ((((grp d0 d1 d2 d3) >>> ((16 : Int32) &&& 31)).toInt8.toInt32).toInt8.toInt32)), (.int ((((grp d0 d1 d2 d3) >>> ((8 : Int32) &&& 31)).toInt8.toInt32).toInt8.toInt32)), (.int (((grp d0 d1 d2 d3).toInt8.toInt32).toInt8.toInt32)), (.int ((((grp d4 d5 d6 d7) >>> ((16 : Int32) &&& 31)).toInt8.toInt32).toInt8.toInt32)), (.int ((((grp d4 d5 d6 d7) >>> ((8 : Int32) &&& 31)).toInt8.toInt32).toInt8.toInt32)), (.int (((grp d4 d5 d6 d7).toInt8.toInt32).toInt8.toInt32)), (.int 0), (.int 0)] (.int 0) := V199'
  have fx201 := (fx198.keep K199q (ninS ne_r0_b195 nin0))
  obtain ⟨_, _, ⟨T200, L200, k200, n200⟩, -, X200, ⟨Lc200, hQ200, l200, y200, z200⟩, st200⟩ := Jvm.LawKit.callS X199 hx (y := (⟨"com/example/meerkat/meerkat/Base64Codec", "bitsOf", "([BII)I"⟩ : MethodName)) hown (mvT hZ (wi hw 28 rfl)) (mvT hZ (wi hw 29 rfl)) (mvT hZ (wi hw 10 rfl)) (mvT hZ (wi hw 30 rfl)) (by decide) (backOf (W := 0) (rm8b2_3 l Z a0 hw hS [] r0 k (12 : Int32) [(.int (chv d0)), (.int (chv d1)), (.int (chv d2)), (.int (chv d3)), (.int (chv d4)), (.int (chv d5)), (.int (chv d6)), (.int (chv d7)), (.int (chv d8)), (.int (chv d9)), (.int (chv d10)), (.int 61)] d8 d9 d10 h199 n0 O199 fx201 hd8 hd9 hd10 rfl rfl rfl ⟨by decide, by decide⟩ ⟨by decide, by decide⟩ ⟨by decide, by decide⟩) hZ (wi hw 30 rfl) (wi hw 10 rfl) (by decide) (by decide)) (g := (mkF m 265 #[oR r0, oI 11, oI 3, oI 1, oR b195, oI 6, oI 8, oI 8, oI (grp d4 d5 d6 d7)] [(.int 3), (.int 8), (.ref r0)])) rfl (by rw [hml]; rfl) (argsL := [(.ref r0), (.int 8), (.int 3)]) (rest := []) (lenOf pd_4 rfl) rfl (by show 2 * 0 + _ ≤ _; exact Nat.le_of_eq rfl) (hb hby d3_265) (fun _ _ => ⟨rfl, e199, (by decide : 1 + 0 ≤ _), (by decide : 8 + 0 ≤ _)⟩)
  dsimp only [Pt.U, Pt.locs, Pt.cells, Pt.slots] at X200 l200 y200 z200 st200 hQ200
  subst l200 y200 z200
  obtain ⟨v200, N200q, K200q⟩ := hQ200
  have w200 : (fn8b2_3 Z r0 k (12 : Int32) [(.int (chv d0)), (.int (chv d1)), (.int (chv d2)), (.int (chv d3)), (.int (chv d4)), (.int (chv d5)), (.int (chv d6)), (.int (chv d7)), (.int (chv d8)), (.int (chv d9)), (.int (chv d10)), (.int 61)] d8 d9 d10) = (((((((0 : Int32) <<< ((6 : Int32) &&& 31)) ||| d8) <<< ((6 : Int32) &&& 31)) ||| d9) <<< ((6 : Int32) &&& 31)) ||| d10) := rfl
  rw [w200] at v200
  subst v200
  have N200 := Fr.app N199 N200q
  have O200 := O199.keep K200q all0
  have Kc200 := Kc199.trans K200q all0
  have fx203 := (V199.keep K200q nin0)
  obtain ⟨T202, h202, X202, e202, W202, V202', st202⟩ := own_stB X200 hx hZ rfl fx203 (j := (6 : Int32)) ⟨by decide, by decide⟩ rfl (by decide : ((6 : Int32) : Int32).toNatClampNeg < 8) (g := (mkF m 283 #[oR r0, oI 11, oI 3, oI 1, oR b195, oI 7, oI 8, oI (((((((0 : Int32) <<< ((6 : Int32) &&& 31)) ||| d8) <<< ((6 : Int32) &&& 31)) ||| d9) <<< ((6 : Int32) &&& 31)) ||| d10), oI (grp d4 d5 d6 d7)] [(.int (((((((((0 : Int32) <<< ((6 : Int32) &&& 31)) ||| d8) <<< ((6 : Int32) &&& 31)) ||| d9) <<< ((6 : Int32) &&& 31)) ||| d10) >>> ((10 : Int32) &&& 31)).toInt8.toInt32)), (.int 6), (.ref b195)])) rfl rfl (hb hby d3_283)
  have N202 := Fr.snoc X202 N200 g_b195
  have O202 := O200.wr W202 g_b195
  have Kc202 := Kc200.wr W202 (Or.inr sz_b195)
  have V202 : Arv Z h202 b195 k195 .byte (8 : Int32) [(.int ((((grp d0 d1 d2 d3) >>> ((16 : Int32) &&& 31)).toInt8.toInt32).toInt8.toInt32)), (.int ((((grp d0 d1 d2 d3) >>> ((8 : Int32) &&& 31)).toInt8.toInt32).toInt8.toInt32)), (.int (((grp d0 d1 d2 d3).toInt8.toInt32).toInt8.toInt32)), (.int ((((grp d4 d5 d6 d7) >>> ((16 : Int32) &&& 31)).toInt8.toInt32).toInt8.toInt32)), (.int ((((grp d4 d5 d6 d7) >>> ((8 : Int32) &&& 31)).toInt8.toInt32).toInt8.toInt32)), (.int (((grp d4 d5 d6 d7).toInt8.toInt32).toInt8.toInt32)), (.int ((((((((((0 : Int32) <<< ((6 : Int32) &&& 31)) ||| d8) <<< ((6 : Int32) &&& 31)) ||| d9) <<< ((6 : Int32) &&& 31)) ||| d10) >>> ((10 : Int32) &&& 31)).toInt8.toInt32).toInt8.toInt32)), (.int 0)] (.int 0) := V202'
  obtain ⟨T204, h204, X204, e204, W204, V204', st204⟩ := own_stB X202 hx hZ e202 V202 (j := (7 : Int32)) ⟨by decide, by decide⟩ rfl (by decide : ((7 : Int32) : Int32).toNatClampNeg < 8) (g := (mkF m 293 #[oR r0, oI 11, oI 3, oI 1, oR b195, oI 7, oI 8, oI (((((((0 : Int32) <<< ((6 : Int32) &&& 31)) ||| d8) <<< ((6 : Int32) &&& 31)) ||| d9) <<< ((6 : Int32) &&& 31)) ||| d10), oI (grp d4 d5 d6 d7)] [(.int (((((((((0 : Int32) <<< ((6 : Int32) &&& 31)) ||| d8) <<< ((6 : Int32) &&& 31)) ||| d9) <<< ((6 : Int32) &&& 31)) ||| d10) >>> ((2 : Int32) &&& 31)).toInt8.toInt32)), (.int 7), (.ref b195)])) rfl rfl (hb hby d3_293)
  have N204 := Fr.snoc X204 N202 g_b195
  have O204 := O202.wr W204 g_b195
  have Kc204 := Kc202.wr W204 (Or.inr sz_b195)
  have V204 : Arv Z h204 b195 k195 .byte (8 : Int32) [(.int ((((grp d0 d1 d2 d3) >>> ((16 : Int32) &&& 31)).toInt8.toInt32).toInt8.toInt32)), (.int ((((grp d0 d1 d2 d3) >>> ((8 : Int32) &&& 31)).toInt8.toInt32).toInt8.toInt32)), (.int (((grp d0 d1 d2 d3).toInt8.toInt32).toInt8.toInt32)), (.int ((((grp d4 d5 d6 d7) >>> ((16 : Int32) &&& 31)).toInt8.toInt32).toInt8.toInt32)), (.int ((((grp d4 d5 d6 d7) >>> ((8 : Int32) &&& 31)).toInt8.toInt32).toInt8.toInt32)), (.int (((grp d4 d5 d6 d7).toInt8.toInt32).toInt8.toInt32)), (.int ((((((((((0 : Int32) <<< ((6 : Int32) &&& 31)) ||| d8) <<< ((6 : Int32) &&& 31)) ||| d9) <<< ((6 : Int32) &&& 31)) ||| d10) >>> ((10 : Int32) &&& 31)).toInt8.toInt32).toInt8.toInt32)), (.int ((((((((((0 : Int32) <<< ((6 : Int32) &&& 31)) ||| d8) <<< ((6 : Int32) &&& 31)) ||| d9) <<< ((6 : Int32) &&& 31)) ||| d10) >>> ((2 : Int32) &&& 31)).toInt8.toInt32).toInt8.toInt32))] (.int 0) := V204'
  obtain ⟨fs, hr, hrun, hended, hW, hsame⟩ := X204.leave (v := some (.ref b195)) (fun h => by rw [Bd.returns] at h; cases h)
  refine ⟨_, _, pre0 _ ?_, hrun, hended, _, _, rfl, ?_, ⟨_, rfl⟩, hW, hsame.mono (by decide) (by decide)⟩
  · show oP p e below s₁ (mkF m 0 #[oR r0, oU, oU, oU, oU, oU, oU, oU, oU] []) _
    refine XS.aloadN X0.here hx rfl (hb hby d3_0) rfl rfl ?_
    show oP p e below s₁ (mkF m 1 #[oR r0, oU, oU, oU, oU, oU, oU, oU, oU] [(.ref r0)]) _
    refine own_len X0 hx hZ e0 V_r0 (g := (mkF m 1 #[oR r0, oU, oU, oU, oU, oU, oU, oU, oU] [(.ref r0)])) rfl rfl (hb hby d3_1) _ ?_
    show oP p e below s₁ (mkF m 2 #[oR r0, oU, oU, oU, oU, oU, oU, oU, oU] [(.int 12)]) _
    refine XS.istoreN X0.here hx rfl (hb hby d3_2) rfl (l' := #[oR r0, oI 12, oU, oU, oU, oU, oU, oU, oU]) rfl ?_
    show oP p e below s₁ (mkF m 3 #[oR r0, oI 12, oU, oU, oU, oU, oU, oU, oU] []) _
    refine XS.iloadN X0.here hx rfl (hb hby d3_3) rfl ?_
    refine XS.ifNo X0.here hx rfl (hb hby d3_4) rfl ((if0 _ _).trans (tlt (by decide : (0 : Int32) < (12 : Int32))).2.2.2) ?_
    show oP p e below s₁ (mkF m 7 #[oR r0, oI 12, oU, oU, oU, oU, oU, oU, oU] []) _
    refine XS.aloadN X0.here hx rfl (hb hby d3_7) rfl rfl ?_
    refine XS.iloadN X0.here hx rfl (hb hby d3_8) rfl ?_
    refine XS.iconst X0.here hx rfl (hb hby d3_9) ?_
    refine XS.isub X0.here hx rfl (hb hby d3_10) rfl ?_
    show oP p e below s₁ (mkF m 11 #[oR r0, oI 12, oU, oU, oU, oU, oU, oU, oU] [(.int 11), (.ref r0)]) _
    refine own_baload X0 hx hZ e0 V_r0 (j := (11 : Int32)) ⟨by decide, by decide⟩ (v := (.int 61)) rfl (g := (mkF m 11 #[oR r0, oI 12, oU, oU, oU, oU, oU, oU, oU] [(.int 11), (.ref r0)])) rfl rfl (hb hby d3_11) _ ?_
    show oP p e below s₁ (mkF m 12 #[oR r0, oI 12, oU, oU, oU, oU, oU, oU, oU] [(.int 61)]) _
    refine XS.bipush X0.here hx rfl (hb hby d3_12) ?_
    refine XS.icmpNo X0.here hx rfl (hb hby d3_14) rfl (teq (by decide : (61 : Int32) = (61 : Int32))).2 ?_
    show oP p e below s₁ (mkF m 17 #[oR r0, oI 12, oU, oU, oU, oU, oU, oU, oU] []) _
    refine XS.iinc X0.here hx rfl (hb hby d3_17) rfl (l' := #[oR r0, oI 11, oU, oU, oU, oU, oU, oU, oU]) rfl ?_
    show oP p e below s₁ (mkF m 20 #[oR r0, oI 11, oU, oU, oU, oU, oU, oU, oU] []) _
    refine XS.goto X0.here hx rfl (pc0 := 20) (pc' := 3) rfl (hb hby d3_20) (by decide) (by decide) ?_
    show oP p e below s₁ (mkF m 3 #[oR r0, oI 11, oU, oU, oU, oU, oU, oU, oU] []) _
    refine XS.iloadN X0.here hx rfl (hb hby d3_3) rfl ?_
    refine XS.ifNo X0.here hx rfl (hb hby d3_4) rfl ((if0 _ _).trans (tlt (by decide : (0 : Int32) < (11 : Int32))).2.2.2) ?_
    show oP p e below s₁ (mkF m 7 #[oR r0, oI 11, oU, oU, oU, oU, oU, oU, oU] []) _
    refine XS.aloadN X0.here hx rfl (hb hby d3_7) rfl rfl ?_
    refine XS.iloadN X0.here hx rfl (hb hby d3_8) rfl ?_
    refine XS.iconst X0.here hx rfl (hb hby d3_9) ?_
    refine XS.isub X0.here hx rfl (hb hby d3_10) rfl ?_
    show oP p e below s₁ (mkF m 11 #[oR r0, oI 11, oU, oU, oU, oU, oU, oU, oU] [(.int 10), (.ref r0)]) _
    refine own_baload X0 hx hZ e0 V_r0 (j := (10 : Int32)) ⟨by decide, by decide⟩ (v := (.int (chv d10))) rfl (g := (mkF m 11 #[oR r0, oI 11, oU, oU, oU, oU, oU, oU, oU] [(.int 10), (.ref r0)])) rfl rfl (hb hby d3_11) _ ?_
    show oP p e below s₁ (mkF m 12 #[oR r0, oI 11, oU, oU, oU, oU, oU, oU, oU] [(.int (chv d10))]) _
    refine XS.bipush X0.here hx rfl (hb hby d3_12) ?_
    refine XS.icmpYes X0.here hx rfl (pc0 := 14) (pc' := 23) rfl (hb hby d3_14) rfl (feq (chv_ne hd10)).2 (by decide) (by decide) ?_
    show oP p e below s₁ (mkF m 23 #[oR r0, oI 11, oU, oU, oU, oU, oU, oU, oU] []) _
    refine XS.iloadN X0.here hx rfl (hb hby d3_23) rfl ?_
    refine XS.iconst X0.here hx rfl (hb hby d3_24) ?_
    refine XS.irem X0.here hx rfl (hb hby d3_25) rfl (by decide) ?_
    show oP p e below s₁ (mkF m 26 #[oR r0, oI 11, oU, oU, oU, oU, oU, oU, oU] [(.int 3)]) _
    refine XS.istoreN X0.here hx rfl (hb hby d3_26) rfl (l' := #[oR r0, oI 11, oI 3, oU, oU, oU, oU, oU, oU]) rfl ?_
    show oP p e below s₁ (mkF m 27 #[oR r0, oI 11, oI 3, oU, oU, oU, oU, oU, oU] []) _
    refine XS.aloadN X0.here hx rfl (hb hby d3_27) rfl rfl ?_
    show oP p e below s₁ (mkF m 28 #[oR r0, oI 11, oI 3, oU, oU, oU, oU, oU, oU] [(.ref r0)]) _
    refine own_len X0 hx hZ e0 V_r0 (g := (mkF m 28 #[oR r0, oI 11, oI 3, oU, oU, oU, oU, oU, oU] [(.ref r0)])) rfl rfl (hb hby d3_28) _ ?_
    show oP p e below s₁ (mkF m 29 #[oR r0, oI 11, oI 3, oU, oU, oU, oU, oU, oU] [(.int 12)]) _
    refine XS.iloadN X0.here hx rfl (hb hby d3_29) rfl ?_
    refine XS.isub X0.here hx rfl (hb hby d3_30) rfl ?_
    show oP p e below s₁ (mkF m 31 #[oR r0, oI 11, oI 3, oU, oU, oU, oU, oU, oU] [(.int 1)]) _
    refine XS.istoreN X0.here hx rfl (hb hby d3_31) rfl (l' := #[oR r0, oI 11, oI 3, oI 1, oU, oU, oU, oU, oU]) rfl ?_
    show oP p e below s₁ (mkF m 32 #[oR r0, oI 11, oI 3, oI 1, oU, oU, oU, oU, oU] []) _
    refine XS.iloadN X0.here hx rfl (hb hby d3_32) rfl ?_
    refine XS.iconst X0.here hx rfl (hb hby d3_33) ?_
    refine XS.icmpYes X0.here hx rfl (pc0 := 34) (pc' := 47) rfl (hb hby d3_34) rfl (feq (by decide : ¬ ((3 : Int32) = (1 : Int32)))).2 (by decide) (by decide) ?_
    show oP p e below s₁ (mkF m 47 #[oR r0, oI 11, oI 3, oI 1, oU, oU, oU, oU, oU] []) _
    refine XS.iloadN X0.here hx rfl (hb hby d3_47) rfl ?_
    refine XS.ifNo X0.here hx rfl (hb hby d3_48) rfl ((if0 _ _).trans (tlt (by decide : (0 : Int32) < (1 : Int32))).2.2.2) ?_
    show oP p e below s₁ (mkF m 51 #[oR r0, oI 11, oI 3, oI 1, oU, oU, oU, oU, oU] []) _
    refine XS.iloadN X0.here hx rfl (hb hby d3_51) rfl ?_
    refine XS.ifNo X0.here hx rfl (hb hby d3_52) rfl ((if0 _ _).trans (feq (by decide : ¬ ((3 : Int32) = (0 : Int32)))).1) ?_
    show oP p e below s₁ (mkF m 55 #[oR r0, oI 11, oI 3, oI 1, oU, oU, oU, oU, oU] []) _
    refine XS.iloadN X0.here hx rfl (hb hby d3_55) rfl ?_
    refine XS.iconst X0.here hx rfl (hb hby d3_56) ?_
    refine XS.iloadN X0.here hx rfl (hb hby d3_57) rfl ?_
    refine XS.isub X0.here hx rfl (hb hby d3_58) rfl ?_
    show oP p e below s₁ (mkF m 59 #[oR r0, oI 11, oI 3, oI 1, oU, oU, oU, oU, oU] [(.int 1), (.int 1)]) _
    refine XS.icmpYes X0.here hx rfl (pc0 := 59) (pc' := 72) rfl (hb hby d3_59) rfl (teq (by decide : (1 : Int32) = (1 : Int32))).1 (by decide) (by decide) ?_
    show oP p e below s₁ (mkF m 72 #[oR r0, oI 11, oI 3, oI 1, oU, oU, oU, oU, oU] []) _
    refine XS.iloadN X0.here hx rfl (hb hby d3_72) rfl ?_
    refine XS.iconst X0.here hx rfl (hb hby d3_73) ?_
    refine XS.idiv X0.here hx rfl (hb hby d3_74) rfl (by decide) ?_
    show oP p e below s₁ (mkF m 75 #[oR r0, oI 11, oI 3, oI 1, oU, oU, oU, oU, oU] [(.int 2)]) _
    refine XS.iconst X0.here hx rfl (hb hby d3_75) ?_
    refine XS.imul X0.here hx rfl (hb hby d3_76) rfl ?_
    show oP p e below s₁ (mkF m 77 #[oR r0, oI 11, oI 3, oI 1, oU, oU, oU, oU, oU] [(.int 6)]) _
    refine XS.iconst X0.here hx rfl (hb hby d3_77) ?_
    refine XS.iloadN X0.here hx rfl (hb hby d3_78) rfl ?_
    refine XS.iconst X0.here hx rfl (hb hby d3_79) ?_
    refine XS.isub X0.here hx rfl (hb hby d3_80) rfl ?_
    show oP p e below s₁ (mkF m 81 #[oR r0, oI 11, oI 3, oI 1, oU, oU, oU, oU, oU] [(.int 2), (.int 0), (.int 6)]) _
    refine st194 _ ?_
    show oP p e below T194 (mkF m 84 #[oR r0, oI 11, oI 3, oI 1, oU, oU, oU, oU, oU] [(.int 2), (.int 6)]) _
    refine XS.iadd X194.here hx rfl (hb hby d3_84) rfl ?_
    show oP p e below T194 (mkF m 85 #[oR r0, oI 11, oI 3, oI 1, oU, oU, oU, oU, oU] [(.int 8)]) _
    refine st195 _ ?_
    show oP p e below T195 (mkF m 87 #[oR r0, oI 11, oI 3, oI 1, oU, oU, oU, oU, oU] [(.ref b195)]) _
    refine XS.astore X195.here hx rfl (hb hby d3_87) rfl rfl (l' := #[oR r0, oI 11, oI 3, oI 1, oR b195, oU, oU, oU, oU]) rfl ?_
    show oP p e below T195 (mkF m 89 #[oR r0, oI 11, oI 3, oI 1, oR b195, oU, oU, oU, oU] []) _
    refine XS.iconst X195.here hx rfl (hb hby d3_89) ?_
    refine XS.istore X195.here hx rfl (hb hby d3_90) rfl (l' := #[oR r0, oI 11, oI 3, oI 1, oR b195, oI 0, oU, oU, oU]) rfl ?_
    show oP p e below T195 (mkF m 92 #[oR r0, oI 11, oI 3, oI 1, oR b195, oI 0, oU, oU, oU] []) _
    refine XS.iloadN X195.here hx rfl (hb hby d3_92) rfl ?_
    refine XS.iloadN X195.here hx rfl (hb hby d3_93) rfl ?_
    refine XS.isub X195.here hx rfl (hb hby d3_94) rfl ?_
    show oP p e below T195 (mkF m 95 #[oR r0, oI 11, oI 3, oI 1, oR b195, oI 0, oU, oU, oU] [(.int 8)]) _
    refine XS.istore X195.here hx rfl (hb hby d3_95) rfl (l' := #[oR r0, oI 11, oI 3, oI 1, oR b195, oI 0, oI 8, oU, oU]) rfl ?_
    show oP p e below T195 (mkF m 97 #[oR r0, oI 11, oI 3, oI 1, oR b195, oI 0, oI 8, oU, oU] []) _
    refine XS.iconst X195.here hx rfl (hb hby d3_97) ?_
    refine XS.istore X195.here hx rfl (hb hby d3_98) rfl (l' := #[oR r0, oI 11, oI 3, oI 1, oR b195, oI 0, oI 8, oI 0, oU]) rfl ?_
    show oP p e below T195 (mkF m 100 #[oR r0, oI 11, oI 3, oI 1, oR b195, oI 0, oI 8, oI 0, oU] []) _
    refine st197 _ ?_
    show oP p e below T197 (mkF m 100 #[oR r0, oI 11, oI 3, oI 1, oR b195, oI 3, oI 8, oI 4, oI (grp d0 d1 d2 d3)] []) _
    refine st199 _ ?_
    show oP p e below T199 (mkF m 100 #[oR r0, oI 11, oI 3, oI 1, oR b195, oI 6, oI 8, oI 8, oI (grp d4 d5 d6 d7)] []) _
    refine XS.iload X199.here hx rfl (hb hby d3_100) rfl ?_
    show oP p e below T199 (mkF m 102 #[oR r0, oI 11, oI 3, oI 1, oR b195, oI 6, oI 8, oI 8, oI (grp d4 d5 d6 d7)] [(.int 8)]) _
    refine XS.iload X199.here hx rfl (hb hby d3_102) rfl ?_
    show oP p e below T199 (mkF m 104 #[oR r0, oI 11, oI 3, oI 1, oR b195, oI 6, oI 8, oI 8, oI (grp d4 d5 d6 d7)] [(.int 8), (.int 8)]) _
    refine XS.icmpYes X199.here hx rfl (pc0 := 104) (pc' := 233) rfl (hb hby d3_104) rfl (flt (by decide : ¬ ((8 : Int32) < (8 : Int32)))).2.1 (by decide) (by decide) ?_
    show oP p e below T199 (mkF m 233 #[oR r0, oI 11, oI 3, oI 1, oR b195, oI 6, oI 8, oI 8, oI (grp d4 d5 d6 d7)] []) _
    refine XS.iloadN X199.here hx rfl (hb hby d3_233) rfl ?_
    refine XS.iconst X199.here hx rfl (hb hby d3_234) ?_
    refine XS.icmpYes X199.here hx rfl (pc0 := 235) (pc' := 256) rfl (hb hby d3_235) rfl (feq (by decide : ¬ ((3 : Int32) = (2 : Int32)))).2 (by decide) (by decide) ?_
    show oP p e below T199 (mkF m 256 #[oR r0, oI 11, oI 3, oI 1, oR b195, oI 6, oI 8, oI 8, oI (grp d4 d5 d6 d7)] []) _
    refine XS.iloadN X199.here hx rfl (hb hby d3_256) rfl ?_
    refine XS.iconst X199.here hx rfl (hb hby d3_257) ?_
    refine XS.icmpNo X199.here hx rfl (hb hby d3_258) rfl (teq (by decide : (3 : Int32) = (3 : Int32))).2 ?_
    show oP p e below T199 (mkF m 261 #[oR r0, oI 11, oI 3, oI 1, oR b195, oI 6, oI 8, oI 8, oI (grp d4 d5 d6 d7)] []) _
    refine XS.aloadN X199.here hx rfl (hb hby d3_261) rfl rfl ?_
    refine XS.iload X199.here hx rfl (hb hby d3_262) rfl ?_
    show oP p e below T199 (mkF m 264 #[oR r0, oI 11, oI 3, oI 1, oR b195, oI 6, oI 8, oI 8, oI (grp d4 d5 d6 d7)] [(.int 8), (.ref r0)]) _
    refine XS.iconst X199.here hx rfl (hb hby d3_264) ?_
    show oP p e below T199 (mkF m 265 #[oR r0, oI 11, oI 3, oI 1, oR b195, oI 6, oI 8, oI 8, oI (grp d4 d5 d6 d7)] [(.int 3), (.int 8), (.ref r0)]) _
    refine st200 _ ?_
    show oP p e below T200 (mkF m 268 #[oR r0, oI 11, oI 3, oI 1, oR b195, oI 6, oI 8, oI 8, oI (grp d4 d5 d6 d7)] [(.int (((((((0 : Int32) <<< ((6 : Int32) &&& 31)) ||| d8) <<< ((6 : Int32) &&& 31)) ||| d9) <<< ((6 : Int32) &&& 31)) ||| d10))]) _
    refine XS.istore X200.here hx rfl (hb hby d3_268) rfl (l' := #[oR r0, oI 11, oI 3, oI 1, oR b195, oI 6, oI 8, oI (((((((0 : Int32) <<< ((6 : Int32) &&& 31)) ||| d8) <<< ((6 : Int32) &&& 31)) ||| d9) <<< ((6 : Int32) &&& 31)) ||| d10), oI (grp d4 d5 d6 d7)]) rfl ?_
    show oP p e below T200 (mkF m 270 #[oR r0, oI 11, oI 3, oI 1, oR b195, oI 6, oI 8, oI (((((((0 : Int32) <<< ((6 : Int32) &&& 31)) ||| d8) <<< ((6 : Int32) &&& 31)) ||| d9) <<< ((6 : Int32) &&& 31)) ||| d10), oI (grp d4 d5 d6 d7)] []) _
    refine XS.aload X200.here hx rfl (hb hby d3_270) rfl rfl ?_
    show oP p e below T200 (mkF m 272 #[oR r0, oI 11, oI 3, oI 1, oR b195, oI 6, oI 8, oI (((((((0 : Int32) <<< ((6 : Int32) &&& 31)) ||| d8) <<< ((6 : Int32) &&& 31)) ||| d9) <<< ((6 : Int32) &&& 31)) ||| d10), oI (grp d4 d5 d6 d7)] [(.ref b195)]) _
    refine XS.iload X200.here hx rfl (hb hby d3_272) rfl ?_
    show oP p e below T200 (mkF m 274 #[oR r0, oI 11, oI 3, oI 1, oR b195, oI 6, oI 8, oI (((((((0 : Int32) <<< ((6 : Int32) &&& 31)) ||| d8) <<< ((6 : Int32) &&& 31)) ||| d9) <<< ((6 : Int32) &&& 31)) ||| d10), oI (grp d4 d5 d6 d7)] [(.int 6), (.ref b195)]) _
    refine XS.iinc X200.here hx rfl (hb hby d3_274) rfl (l' := #[oR r0, oI 11, oI 3, oI 1, oR b195, oI 7, oI 8, oI (((((((0 : Int32) <<< ((6 : Int32) &&& 31)) ||| d8) <<< ((6 : Int32) &&& 31)) ||| d9) <<< ((6 : Int32) &&& 31)) ||| d10), oI (grp d4 d5 d6 d7)]) rfl ?_
    show oP p e below T200 (mkF m 277 #[oR r0, oI 11, oI 3, oI 1, oR b195, oI 7, oI 8, oI (((((((0 : Int32) <<< ((6 : Int32) &&& 31)) ||| d8) <<< ((6 : Int32) &&& 31)) ||| d9) <<< ((6 : Int32) &&& 31)) ||| d10), oI (grp d4 d5 d6 d7)] [(.int 6), (.ref b195)]) _
    refine XS.iload X200.here hx rfl (hb hby d3_277) rfl ?_
    show oP p e below T200 (mkF m 279 #[oR r0, oI 11, oI 3, oI 1, oR b195, oI 7, oI 8, oI (((((((0 : Int32) <<< ((6 : Int32) &&& 31)) ||| d8) <<< ((6 : Int32) &&& 31)) ||| d9) <<< ((6 : Int32) &&& 31)) ||| d10), oI (grp d4 d5 d6 d7)] [(.int (((((((0 : Int32) <<< ((6 : Int32) &&& 31)) ||| d8) <<< ((6 : Int32) &&& 31)) ||| d9) <<< ((6 : Int32) &&& 31)) ||| d10)), (.int 6), (.ref b195)]) _
    refine XS.bipush X200.here hx rfl (hb hby d3_279) ?_
    refine XS.ishr X200.here hx rfl (hb hby d3_281) rfl ?_
    show oP p e below T200 (mkF m 282 #[oR r0, oI 11, oI 3, oI 1, oR b195, oI 7, oI 8, oI (((((((0 : Int32) <<< ((6 : Int32) &&& 31)) ||| d8) <<< ((6 : Int32) &&& 31)) ||| d9) <<< ((6 : Int32) &&& 31)) ||| d10), oI (grp d4 d5 d6 d7)] [(.int ((((((((0 : Int32) <<< ((6 : Int32) &&& 31)) ||| d8) <<< ((6 : Int32) &&& 31)) ||| d9) <<< ((6 : Int32) &&& 31)) ||| d10) >>> ((10 : Int32) &&& 31))), (.int 6), (.ref b195)]) _
    refine XS.i2b X200.here hx rfl (hb hby d3_282) rfl ?_
    show oP p e below T200 (mkF m 283 #[oR r0, oI 11, oI 3, oI 1, oR b195, oI 7, oI 8, oI (((((((0 : Int32) <<< ((6 : Int32) &&& 31)) ||| d8) <<< ((6 : Int32) &&& 31)) ||| d9) <<< ((6 : Int32) &&& 31)) ||| d10), oI (grp d4 d5 d6 d7)] [(.int (((((((((0 : Int32) <<< ((6 : Int32) &&& 31)) ||| d8) <<< ((6 : Int32) &&& 31)) ||| d9) <<< ((6 : Int32) &&& 31)) ||| d10) >>> ((10 : Int32) &&& 31)).toInt8.toInt32)), (.int 6), (.ref b195)]) _
    refine st202 _ ?_
    show oP p e below T202 (mkF m 284 #[oR r0, oI 11, oI 3, oI 1, oR b195, oI 7, oI 8, oI (((((((0 : Int32) <<< ((6 : Int32) &&& 31)) ||| d8) <<< ((6 : Int32) &&& 31)) ||| d9) <<< ((6 : Int32) &&& 31)) ||| d10), oI (grp d4 d5 d6 d7)] []) _
    refine XS.aload X202.here hx rfl (hb hby d3_284) rfl rfl ?_
    show oP p e below T202 (mkF m 286 #[oR r0, oI 11, oI 3, oI 1, oR b195, oI 7, oI 8, oI (((((((0 : Int32) <<< ((6 : Int32) &&& 31)) ||| d8) <<< ((6 : Int32) &&& 31)) ||| d9) <<< ((6 : Int32) &&& 31)) ||| d10), oI (grp d4 d5 d6 d7)] [(.ref b195)]) _
    refine XS.iload X202.here hx rfl (hb hby d3_286) rfl ?_
    show oP p e below T202 (mkF m 288 #[oR r0, oI 11, oI 3, oI 1, oR b195, oI 7, oI 8, oI (((((((0 : Int32) <<< ((6 : Int32) &&& 31)) ||| d8) <<< ((6 : Int32) &&& 31)) ||| d9) <<< ((6 : Int32) &&& 31)) ||| d10), oI (grp d4 d5 d6 d7)] [(.int 7), (.ref b195)]) _
    refine XS.iload X202.here hx rfl (hb hby d3_288) rfl ?_
    show oP p e below T202 (mkF m 290 #[oR r0, oI 11, oI 3, oI 1, oR b195, oI 7, oI 8, oI (((((((0 : Int32) <<< ((6 : Int32) &&& 31)) ||| d8) <<< ((6 : Int32) &&& 31)) ||| d9) <<< ((6 : Int32) &&& 31)) ||| d10), oI (grp d4 d5 d6 d7)] [(.int (((((((0 : Int32) <<< ((6 : Int32) &&& 31)) ||| d8) <<< ((6 : Int32) &&& 31)) ||| d9) <<< ((6 : Int32) &&& 31)) ||| d10)), (.int 7), (.ref b195)]) _
    refine XS.iconst X202.here hx rfl (hb hby d3_290) ?_
    refine XS.ishr X202.here hx rfl (hb hby d3_291) rfl ?_
    show oP p e below T202 (mkF m 292 #[oR r0, oI 11, oI 3, oI 1, oR b195, oI 7, oI 8, oI (((((((0 : Int32) <<< ((6 : Int32) &&& 31)) ||| d8) <<< ((6 : Int32) &&& 31)) ||| d9) <<< ((6 : Int32) &&& 31)) ||| d10), oI (grp d4 d5 d6 d7)] [(.int ((((((((0 : Int32) <<< ((6 : Int32) &&& 31)) ||| d8) <<< ((6 : Int32) &&& 31)) ||| d9) <<< ((6 : Int32) &&& 31)) ||| d10) >>> ((2 : Int32) &&& 31))), (.int 7), (.ref b195)]) _
    refine XS.i2b X202.here hx rfl (hb hby d3_292) rfl ?_
    show oP p e below T202 (mkF m 293 #[oR r0, oI 11, oI 3, oI 1, oR b195, oI 7, oI 8, oI (((((((0 : Int32) <<< ((6 : Int32) &&& 31)) ||| d8) <<< ((6 : Int32) &&& 31)) ||| d9) <<< ((6 : Int32) &&& 31)) ||| d10), oI (grp d4 d5 d6 d7)] [(.int (((((((((0 : Int32) <<< ((6 : Int32) &&& 31)) ||| d8) <<< ((6 : Int32) &&& 31)) ||| d9) <<< ((6 : Int32) &&& 31)) ||| d10) >>> ((2 : Int32) &&& 31)).toInt8.toInt32)), (.int 7), (.ref b195)]) _
    refine st204 _ ?_
    show oP p e below T204 (mkF m 294 #[oR r0, oI 11, oI 3, oI 1, oR b195, oI 7, oI 8, oI (((((((0 : Int32) <<< ((6 : Int32) &&& 31)) ||| d8) <<< ((6 : Int32) &&& 31)) ||| d9) <<< ((6 : Int32) &&& 31)) ||| d10), oI (grp d4 d5 d6 d7)] []) _
    refine XS.aload X204.here hx rfl (hb hby d3_294) rfl rfl ?_
    show oP p e below T204 (mkF m 296 #[oR r0, oI 11, oI 3, oI 1, oR b195, oI 7, oI 8, oI (((((((0 : Int32) <<< ((6 : Int32) &&& 31)) ||| d8) <<< ((6 : Int32) &&& 31)) ||| d9) <<< ((6 : Int32) &&& 31)) ||| d10), oI (grp d4 d5 d6 d7)] [(.ref b195)]) _
    exact own_retA X204 hx Bd.returns rfl rfl (hb hby d3_296) hr
  · show ∃ (b : Addr), ∃ (kb : ClassId), (some (.ref b195) : Option Value) = some (.ref b) ∧ Fr n0 _ ∧ Keep h0 T204.heap [] ∧ h0.size ≤ b ∧ Arv Z T204.heap b kb .byte (8 : Int32) [(.int ((((grp d0 d1 d2 d3) >>> ((16 : Int32) &&& 31)).toInt8.toInt32).toInt8.toInt32)), (.int ((((grp d0 d1 d2 d3) >>> ((8 : Int32) &&& 31)).toInt8.toInt32).toInt8.toInt32)), (.int (((grp d0 d1 d2 d3).toInt8.toInt32).toInt8.toInt32)), (.int ((((grp d4 d5 d6 d7) >>> ((16 : Int32) &&& 31)).toInt8.toInt32).toInt8.toInt32)), (.int ((((grp d4 d5 d6 d7) >>> ((8 : Int32) &&& 31)).toInt8.toInt32).toInt8.toInt32)), (.int (((grp d4 d5 d6 d7).toInt8.toInt32).toInt8.toInt32)), (.int ((((((((((0 : Int32) <<< ((6 : Int32) &&& 31)) ||| d8) <<< ((6 : Int32) &&& 31)) ||| d9) <<< ((6 : Int32) &&& 31)) ||| d10) >>> ((10 : Int32) &&& 31)).toInt8.toInt32).toInt8.toInt32)), (.int ((((((((((0 : Int32) <<< ((6 : Int32) &&& 31)) ||| d8) <<< ((6 : Int32) &&& 31)) ||| d9) <<< ((6 : Int32) &&& 31)) ||| d10) >>> ((2 : Int32) &&& 31)).toInt8.toInt32).toInt8.toInt32))] (.int 0)
    rw [e204]
    exact ⟨b195, k195, rfl, N204, Kc204, sz_b195, V204⟩
theorem d5_0 : decode method_9_code 0 = .ok (.iload_n 1, 1) := by decide +kernel
theorem d5_1 : decode method_9_code 1 = .ok (.aload_n 0, 1) := by decide +kernel
theorem d5_2 : decode method_9_code 2 = .ok (.arraylength, 1) := by decide +kernel
theorem d5_3 : decode method_9_code 3 = .ok (.if_icmp .lt 5, 3) := by decide +kernel
theorem d5_8 : decode method_9_code 8 = .ok (.aload_n 0, 1) := by decide +kernel
theorem d5_9 : decode method_9_code 9 = .ok (.iload_n 1, 1) := by decide +kernel
theorem d5_10 : decode method_9_code 10 = .ok (.baload, 1) := by decide +kernel
theorem d5_11 : decode method_9_code 11 = .ok (.iload_n 1, 1) := by decide +kernel
theorem d5_12 : decode method_9_code 12 = .ok (.iload_n 2, 1) := by decide +kernel
theorem d5_13 : decode method_9_code 13 = .ok (.lload_n 3, 1) := by decide +kernel
theorem d5_14 : decode method_9_code 14 = .ok (.lload 5, 2) := by decide +kernel
theorem d5_16 : decode method_9_code 16 = .ok (.invokestatic 41, 3) := by decide +kernel
theorem pd_5 : parseMethodDescriptor "(IIJJ)I" = some ⟨[.int, .int, .long, .long], some .int⟩ := by decide +kernel
theorem d5_19 : decode method_9_code 19 = .ok (.i2b, 1) := by decide +kernel
theorem d5_20 : decode method_9_code 20 = .ok (.if_icmp .ne 7, 3) := by decide +kernel
theorem d5_23 : decode method_9_code 23 = .ok (.iconst 1, 1) := by decide +kernel
theorem d5_24 : decode method_9_code 24 = .ok (.goto 4, 3) := by decide +kernel
theorem d5_28 : decode method_9_code 28 = .ok (.ireturn, 1) := by decide +kernel
theorem d5_6 : decode method_9_code 6 = .ok (.iconst 1, 1) := by decide +kernel
theorem d5_7 : decode method_9_code 7 = .ok (.ireturn, 1) := by decide +kernel
theorem ef_5 (m : MethodId) (x0 : Addr) (x1 : Int32) (x2 : Int32) (x3 : Int64) (x4 : Int64) : entryFrame m #[(.ref x0), (.int x1), (.int x2), (.long x3), (.long x4)] 7 = mkF m 0 #[.val (.ref x0), .val (.int x1), .val (.int x2), .val (.long x3), .second, .val (.long x4), .second] [] := by first | (simp [entryFrame, mkF, argsToLocals, Value.category]; done) | rfl
set_option maxRecDepth 65536 in
set_option maxHeartbeats 40000000 in
theorem rm5 (l : Launch) (Z : State) (a0 : Array Value) (hw : ∀ d ∈ tables_1, d.before a0 Z = true) (hS : St Z) (ws : List Jvm.Cond) (r0 : Addr) (p1 : Int32) (p2 : Int32) (q3 : Int64) (q4 : Int64) (k : ClassId) (z : Int32) (vs : List Value) (h0 : Heap) (n0 : Nat) (O0 : Old Z n0 h0) (V_r0 : Arv Z h0 r0 k .byte z vs (.int 0)) (hs0 : ¬ p1 < 0) (hsv : p1 < z → vs.getD p1.toNatClampNeg (.int 0) = .int ((fn9 Z p1 p2 q3 q4).toInt8.toInt32)) :
    MetFree l (⟨"com/example/meerkat/meerkat/Base64CodecDecodePinLaw", "same", "([BIIJJ)Z"⟩ : MethodName) (head1 (Jvm.Cond.code (⟨"com/example/meerkat/meerkat/Base64CodecDecodePinLaw", "same", "([BIIJJ)Z"⟩ : MethodName) method_9_code 7 (some .boolean) :: ws) ({ frames := 3, cells := 0, slots := 0, locals := 54 } : Room)) (fun a U => a = #[(.ref r0), (.int p1), (.int p2), (.long q3), (.long q4)] ∧ Z.Warmed39 U.vm ∧ U.heap = h0) (fun _ _ _ _ _ => True) (fun _ U o U' => ∃ v L, o = .returned v ∧ own_Q (fun v hE L => v = some (.int 1) ∧ Fr n0 L ∧ Keep h0 hE []) v U'.heap L ∧ FrameEnd U o U' L ({ frames := 3, cells := 0, slots := 0, locals := 54 } : Room).cells ({ frames := 3, cells := 0, slots := 0, locals := 54 } : Room).slots) := by
  refine MetFree.of_bodySF (plainFor_of_name pn_0) hisR ?_
  intro p e s m args below meth c s₁ Bd hml0 hP hK
  obtain ⟨rfl, hZ, hh⟩ := hP
  have hx := Bd.exec
  have hby := Bd.bytes
  have hml : c.maxLocals = 7 := hml0
  have hown : s.vm.findClass "com/example/meerkat/meerkat/Base64CodecDecodePinLaw" = some m.cls := findClass_of_methodNamed Bd.named
  have hnm := (name_of_methodNamed Bd.named Bd.method).1
  have X0 : Stand p l e ({ frames := 3, cells := 0, slots := 0, locals := 54 } : Room) s m #[(.ref r0), (.int p1), (.int p2), (.long q3), (.long q4)] below meth c s₁ [] 0 0 := Stand.of_body Bd
  have e0 : s₁.heap = h0 := by rw [← hh, Bd.state]; rfl
  have N0 := Fr.nil n0
  have pre0 : ∀ t, Steps p.tables e below (s₁.setTop (mkF m 0 #[oR r0, oI p1, oI p2, oJ q3, oS, oJ q4, oS] [])) t → Steps p.tables e below (s₁.setTop (entryFrame m #[(.ref r0), (.int p1), (.int p2), (.long q3), (.long q4)] 7)) t := fun t k => castTop (ef_5 m r0 p1 p2 q3 q4) k
  have pre205 : ∀ t, oP p e below s₁ (mkF m 3 #[oR r0, oI p1, oI p2, oJ q3, oS, oJ q4, oS] [(.int z), (.int p1)]) t → oP p e below s₁ (entryFrame m #[(.ref r0), (.int p1), (.int p2), (.long q3), (.long q4)] 7) t := fun t k => pre0 t (by
    show oP p e below s₁ (mkF m 0 #[oR r0, oI p1, oI p2, oJ q3, oS, oJ q4, oS] []) _
    refine XS.iloadN X0.here hx rfl (hb hby d5_0) rfl ?_
    refine XS.aloadN X0.here hx rfl (hb hby d5_1) rfl rfl ?_
    show oP p e below s₁ (mkF m 2 #[oR r0, oI p1, oI p2, oJ q3, oS, oJ q4, oS] [(.ref r0), (.int p1)]) _
    refine own_len X0 hx hZ e0 V_r0 (g := (mkF m 2 #[oR r0, oI p1, oI p2, oJ q3, oS, oJ q4, oS] [(.ref r0), (.int p1)])) rfl rfl (hb hby d5_2) _ ?_
    exact k)
  by_cases hc206 : p1 < z
  · obtain ⟨_, _, ⟨T207, L207, k207, n207⟩, -, X207, ⟨Lc207, hQ207, l207, y207, z207⟩, st207⟩ := Jvm.LawKit.callS X0 hx (y := (⟨"com/example/meerkat/meerkat/Base64CodecDecodePinLaw", "expAt", "(IIJJ)I"⟩ : MethodName)) hown (mvT hZ (wi hw 31 rfl)) (mvT hZ (wi hw 32 rfl)) (mvT hZ (wi hw 3 rfl)) (mvT hZ (wi hw 33 rfl)) (by decide) (backOf (W := 1) (rm9 l Z a0 hw hS [] p1 p2 q3 q4 h0 n0 O0) hZ (wi hw 33 rfl) (wi hw 3 rfl) (by decide) (by decide)) (g := (mkF m 16 #[oR r0, oI p1, oI p2, oJ q3, oS, oJ q4, oS] [(.long q4), (.long q3), (.int p2), (.int p1), (.int ((fn9 Z p1 p2 q3 q4).toInt8.toInt32))])) rfl (by rw [hml]; rfl) (argsL := [(.int p1), (.int p2), (.long q3), (.long q4)]) (rest := [(.int ((fn9 Z p1 p2 q3 q4).toInt8.toInt32))]) (lenOf pd_5 rfl) rfl (by show 2 * 0 + _ ≤ _; exact Nat.le_of_eq rfl) (hb hby d5_16) (fun _ _ => ⟨rfl, e0, (by decide : 0 + 0 ≤ _), (by decide : 0 + 0 ≤ _)⟩)
    dsimp only [Pt.U, Pt.locs, Pt.cells, Pt.slots] at X207 l207 y207 z207 st207 hQ207
    subst l207 y207 z207
    obtain ⟨v207, N207q, h207q⟩ := hQ207
    subst v207
    have N207 := Fr.app N0 N207q
    obtain ⟨fs, hr, hrun, hended, hW, hsame⟩ := X207.leave (v := some (.int 1)) (fun h => by rw [Bd.returns] at h; cases h)
    refine ⟨_, _, pre205 _ ?_, hrun, hended, _, _, rfl, ?_, ⟨_, rfl⟩, hW, hsame.mono (by decide) (by decide)⟩
    · show oP p e below s₁ (mkF m 3 #[oR r0, oI p1, oI p2, oJ q3, oS, oJ q4, oS] [(.int z), (.int p1)]) _
      refine XS.icmpYes X0.here hx rfl (pc0 := 3) (pc' := 8) rfl (hb hby d5_3) rfl (tlt hc206).1 (by decide) (by decide) ?_
      show oP p e below s₁ (mkF m 8 #[oR r0, oI p1, oI p2, oJ q3, oS, oJ q4, oS] []) _
      refine XS.aloadN X0.here hx rfl (hb hby d5_8) rfl rfl ?_
      refine XS.iloadN X0.here hx rfl (hb hby d5_9) rfl ?_
      show oP p e below s₁ (mkF m 10 #[oR r0, oI p1, oI p2, oJ q3, oS, oJ q4, oS] [(.int p1), (.ref r0)]) _
      refine own_baload X0 hx hZ e0 V_r0 (j := p1) ⟨hs0, hc206⟩ (v := (.int ((fn9 Z p1 p2 q3 q4).toInt8.toInt32))) (hsv hc206) (g := (mkF m 10 #[oR r0, oI p1, oI p2, oJ q3, oS, oJ q4, oS] [(.int p1), (.ref r0)])) rfl rfl (hb hby d5_10) _ ?_
      show oP p e below s₁ (mkF m 11 #[oR r0, oI p1, oI p2, oJ q3, oS, oJ q4, oS] [(.int ((fn9 Z p1 p2 q3 q4).toInt8.toInt32))]) _
      refine XS.iloadN X0.here hx rfl (hb hby d5_11) rfl ?_
      refine XS.iloadN X0.here hx rfl (hb hby d5_12) rfl ?_
      refine XS.lloadN X0.here hx rfl (hb hby d5_13) rfl ?_
      show oP p e below s₁ (mkF m 14 #[oR r0, oI p1, oI p2, oJ q3, oS, oJ q4, oS] [(.long q3), (.int p2), (.int p1), (.int ((fn9 Z p1 p2 q3 q4).toInt8.toInt32))]) _
      refine XS.lload X0.here hx rfl (hb hby d5_14) rfl ?_
      show oP p e below s₁ (mkF m 16 #[oR r0, oI p1, oI p2, oJ q3, oS, oJ q4, oS] [(.long q4), (.long q3), (.int p2), (.int p1), (.int ((fn9 Z p1 p2 q3 q4).toInt8.toInt32))]) _
      refine st207 _ ?_
      show oP p e below T207 (mkF m 19 #[oR r0, oI p1, oI p2, oJ q3, oS, oJ q4, oS] [(.int (fn9 Z p1 p2 q3 q4)), (.int ((fn9 Z p1 p2 q3 q4).toInt8.toInt32))]) _
      refine XS.i2b X207.here hx rfl (hb hby d5_19) rfl ?_
      show oP p e below T207 (mkF m 20 #[oR r0, oI p1, oI p2, oJ q3, oS, oJ q4, oS] [(.int ((fn9 Z p1 p2 q3 q4).toInt8.toInt32)), (.int ((fn9 Z p1 p2 q3 q4).toInt8.toInt32))]) _
      refine XS.icmpNo X207.here hx rfl (hb hby d5_20) rfl (teq (rfl : ((fn9 Z p1 p2 q3 q4).toInt8.toInt32) = ((fn9 Z p1 p2 q3 q4).toInt8.toInt32))).2 ?_
      show oP p e below T207 (mkF m 23 #[oR r0, oI p1, oI p2, oJ q3, oS, oJ q4, oS] []) _
      refine XS.iconst X207.here hx rfl (hb hby d5_23) ?_
      refine XS.goto X207.here hx rfl (pc0 := 24) (pc' := 28) rfl (hb hby d5_24) (by decide) (by decide) ?_
      show oP p e below T207 (mkF m 28 #[oR r0, oI p1, oI p2, oJ q3, oS, oJ q4, oS] [(.int 1)]) _
      exact retN X207 hx (t := .boolean) Bd.returns (by simp) (hb hby d5_28) hr
    · show (some (.int 1) : Option Value) = some (.int 1) ∧ Fr n0 _ ∧ Keep h0 T207.heap []
      rw [h207q]
      exact ⟨rfl, N207, (Keep.refl h0 [])⟩
  · obtain ⟨fs, hr, hrun, hended, hW, hsame⟩ := X0.leave (v := some (.int 1)) (fun h => by rw [Bd.returns] at h; cases h)
    refine ⟨_, _, pre205 _ ?_, hrun, hended, _, _, rfl, ?_, ⟨_, rfl⟩, hW, hsame.mono (by decide) (by decide)⟩
    · show oP p e below s₁ (mkF m 3 #[oR r0, oI p1, oI p2, oJ q3, oS, oJ q4, oS] [(.int z), (.int p1)]) _
      refine XS.icmpNo X0.here hx rfl (hb hby d5_3) rfl (flt hc206).1 ?_
      show oP p e below s₁ (mkF m 6 #[oR r0, oI p1, oI p2, oJ q3, oS, oJ q4, oS] []) _
      refine XS.iconst X0.here hx rfl (hb hby d5_6) ?_
      show oP p e below s₁ (mkF m 7 #[oR r0, oI p1, oI p2, oJ q3, oS, oJ q4, oS] [(.int 1)]) _
      exact retN X0 hx (t := .boolean) Bd.returns (by simp) (hb hby d5_7) hr
    · show (some (.int 1) : Option Value) = some (.int 1) ∧ Fr n0 _ ∧ Keep h0 s₁.heap []
      rw [e0]
      exact ⟨rfl, N0, (Keep.refl h0 [])⟩
set_option maxRecDepth 65536 in
set_option maxHeartbeats 40000000 in
theorem rm3 (l : Launch) (Z : State) (a0 : Array Value) (hw : ∀ d ∈ tables_1, d.before a0 Z = true) (hS : St Z) (r0 : Addr) (gg pa pd : Int32) (q0 q1 : Int64) (k : ClassId) (h0 : Heap) (n0 : Nat) (O0 : Old Z n0 h0) (hcmb : (gg = (0 : Int32) ∧ pa = (0 : Int32) ∧ pd = (0 : Int32)) ∨ (gg = (0 : Int32) ∧ pa = (2 : Int32) ∧ pd = (0 : Int32)) ∨ (gg = (0 : Int32) ∧ pa = (2 : Int32) ∧ pd = (2 : Int32)) ∨ (gg = (0 : Int32) ∧ pa = (3 : Int32) ∧ pd = (0 : Int32)) ∨ (gg = (0 : Int32) ∧ pa = (3 : Int32) ∧ pd = (1 : Int32)) ∨ (gg = (1 : Int32) ∧ pa = (0 : Int32) ∧ pd = (0 : Int32)) ∨ (gg = (1 : Int32) ∧ pa = (2 : Int32) ∧ pd = (0 : Int32)) ∨ (gg = (1 : Int32) ∧ pa = (2 : Int32) ∧ pd = (2 : Int32)) ∨ (gg = (1 : Int32) ∧ pa = (3 : Int32) ∧ pd = (0 : Int32)) ∨ (gg = (1 : Int32) ∧ pa = (3 : Int32) ∧ pd = (1 : Int32)) ∨ (gg = (2 : Int32) ∧ pa = (0 : Int32) ∧ pd = (0 : Int32)) ∨ (gg = (2 : Int32) ∧ pa = (2 : Int32) ∧ pd = (0 : Int32)) ∨ (gg = (2 : Int32) ∧ pa = (2 : Int32) ∧ pd = (2 : Int32)) ∨ (gg = (2 : Int32) ∧ pa = (3 : Int32) ∧ pd = (0 : Int32)) ∨ (gg = (2 : Int32) ∧ pa = (3 : Int32) ∧ pd = (1 : Int32))) (V : Arv Z h0 r0 k .byte (((4 : Int32) * gg + pa) + pd) [(.int ((fn1 Z (0 : Int32) gg pa q0 q1).toInt8.toInt32)), (.int ((fn1 Z (1 : Int32) gg pa q0 q1).toInt8.toInt32)), (.int ((fn1 Z (2 : Int32) gg pa q0 q1).toInt8.toInt32)), (.int ((fn1 Z (3 : Int32) gg pa q0 q1).toInt8.toInt32)), (.int ((fn1 Z (4 : Int32) gg pa q0 q1).toInt8.toInt32)), (.int ((fn1 Z (5 : Int32) gg pa q0 q1).toInt8.toInt32)), (.int ((fn1 Z (6 : Int32) gg pa q0 q1).toInt8.toInt32)), (.int ((fn1 Z (7 : Int32) gg pa q0 q1).toInt8.toInt32)), (.int ((fn1 Z (8 : Int32) gg pa q0 q1).toInt8.toInt32)), (.int ((fn1 Z (9 : Int32) gg pa q0 q1).toInt8.toInt32)), (.int ((fn1 Z (10 : Int32) gg pa q0 q1).toInt8.toInt32)), (.int ((fn1 Z (11 : Int32) gg pa q0 q1).toInt8.toInt32))] (.int 0)) :
    MetFree l (⟨"com/example/meerkat/meerkat/Base64Codec", "decode", "([B)[B"⟩ : MethodName) (head1 [Jvm.Cond.code (⟨"com/example/meerkat/meerkat/Base64Codec", "decode", "([B)[B"⟩ : MethodName) prog_8_method_3_code 9 (some (.array .byte))] ({ frames := 2, cells := 1, slots := 8, locals := 60 } : Room)) (fun a U => a = #[(.ref r0)] ∧ Z.Warmed39 U.vm ∧ U.heap = h0) (fun _ _ _ _ _ => True) (fun _ U o U' => ∃ v L, o = .returned v ∧ own_Q (fun v hE L => ∃ (b : Addr) (kb : ClassId) (vs : List Value), v = some (.ref b) ∧ Fr n0 L ∧ Keep h0 hE [] ∧ h0.size ≤ b ∧ Arv Z hE b kb .byte (((3 : Int32) * gg) + (if pa = (0 : Int32) then (0 : Int32) else (pa - (1 : Int32)))) vs (.int 0) ∧ ∀ i : Nat, i < 8 → Int32.ofNat i < (((3 : Int32) * gg) + (if pa = (0 : Int32) then (0 : Int32) else (pa - (1 : Int32)))) → vs.getD i (.int 0) = .int ((fn9 Z (Int32.ofNat i) gg q0 q1).toInt8.toInt32)) v U'.heap L ∧ FrameEnd U o U' L ({ frames := 2, cells := 1, slots := 8, locals := 60 } : Room).cells ({ frames := 2, cells := 1, slots := 8, locals := 60 } : Room).slots) := by
  rcases hcmb with ⟨rfl, rfl, rfl⟩ | ⟨rfl, rfl, rfl⟩ | ⟨rfl, rfl, rfl⟩ | ⟨rfl, rfl, rfl⟩ | ⟨rfl, rfl, rfl⟩ | ⟨rfl, rfl, rfl⟩ | ⟨rfl, rfl, rfl⟩ | ⟨rfl, rfl, rfl⟩ | ⟨rfl, rfl, rfl⟩ | ⟨rfl, rfl, rfl⟩ | ⟨rfl, rfl, rfl⟩ | ⟨rfl, rfl, rfl⟩ | ⟨rfl, rfl, rfl⟩ | ⟨rfl, rfl, rfl⟩ | ⟨rfl, rfl, rfl⟩
  · have V1 : Arv Z h0 r0 k .byte (0 : Int32) [(.int ((fn1 Z (0 : Int32) (0 : Int32) (0 : Int32) q0 q1).toInt8.toInt32)), (.int ((fn1 Z (1 : Int32) (0 : Int32) (0 : Int32) q0 q1).toInt8.toInt32)), (.int ((fn1 Z (2 : Int32) (0 : Int32) (0 : Int32) q0 q1).toInt8.toInt32)), (.int ((fn1 Z (3 : Int32) (0 : Int32) (0 : Int32) q0 q1).toInt8.toInt32)), (.int ((fn1 Z (4 : Int32) (0 : Int32) (0 : Int32) q0 q1).toInt8.toInt32)), (.int ((fn1 Z (5 : Int32) (0 : Int32) (0 : Int32) q0 q1).toInt8.toInt32)), (.int ((fn1 Z (6 : Int32) (0 : Int32) (0 : Int32) q0 q1).toInt8.toInt32)), (.int ((fn1 Z (7 : Int32) (0 : Int32) (0 : Int32) q0 q1).toInt8.toInt32)), (.int ((fn1 Z (8 : Int32) (0 : Int32) (0 : Int32) q0 q1).toInt8.toInt32)), (.int ((fn1 Z (9 : Int32) (0 : Int32) (0 : Int32) q0 q1).toInt8.toInt32)), (.int ((fn1 Z (10 : Int32) (0 : Int32) (0 : Int32) q0 q1).toInt8.toInt32)), (.int ((fn1 Z (11 : Int32) (0 : Int32) (0 : Int32) q0 q1).toInt8.toInt32))] (.int 0) := V
    intro p e ha hc hk s m args below hf happ hP hK
    obtain ⟨n, o, z1, z2, z3, v, L, rfl, ⟨b, kb, rfl, N, K, nb, A⟩, hq⟩ := rm3x000 l Z a0 hw hS [] r0 k (.int ((fn1 Z (0 : Int32) (0 : Int32) (0 : Int32) q0 q1).toInt8.toInt32)) (.int ((fn1 Z (1 : Int32) (0 : Int32) (0 : Int32) q0 q1).toInt8.toInt32)) (.int ((fn1 Z (2 : Int32) (0 : Int32) (0 : Int32) q0 q1).toInt8.toInt32)) (.int ((fn1 Z (3 : Int32) (0 : Int32) (0 : Int32) q0 q1).toInt8.toInt32)) (.int ((fn1 Z (4 : Int32) (0 : Int32) (0 : Int32) q0 q1).toInt8.toInt32)) (.int ((fn1 Z (5 : Int32) (0 : Int32) (0 : Int32) q0 q1).toInt8.toInt32)) (.int ((fn1 Z (6 : Int32) (0 : Int32) (0 : Int32) q0 q1).toInt8.toInt32)) (.int ((fn1 Z (7 : Int32) (0 : Int32) (0 : Int32) q0 q1).toInt8.toInt32)) (.int ((fn1 Z (8 : Int32) (0 : Int32) (0 : Int32) q0 q1).toInt8.toInt32)) (.int ((fn1 Z (9 : Int32) (0 : Int32) (0 : Int32) q0 q1).toInt8.toInt32)) (.int ((fn1 Z (10 : Int32) (0 : Int32) (0 : Int32) q0 q1).toInt8.toInt32)) (.int ((fn1 Z (11 : Int32) (0 : Int32) (0 : Int32) q0 q1).toInt8.toInt32)) h0 n0 O0 V1  p e ha hc hk s m args below hf happ hP hK
    refine ⟨n, _, z1, z2, z3, _, L, rfl, ⟨b, kb, _, rfl, N, K, nb, A, fun i hi hz => ?_⟩, hq⟩
    match i, hi with
    | 0, _ => exact absurd hz (by decide)
    | 1, _ => exact absurd hz (by decide)
    | 2, _ => exact absurd hz (by decide)
    | 3, _ => exact absurd hz (by decide)
    | 4, _ => exact absurd hz (by decide)
    | 5, _ => exact absurd hz (by decide)
    | 6, _ => exact absurd hz (by decide)
    | 7, _ => exact absurd hz (by decide)
  · have V1 : Arv Z h0 r0 k .byte (2 : Int32) [(.int ((fn1 Z (0 : Int32) (0 : Int32) (2 : Int32) q0 q1).toInt8.toInt32)), (.int ((fn1 Z (1 : Int32) (0 : Int32) (2 : Int32) q0 q1).toInt8.toInt32)), (.int ((fn1 Z (2 : Int32) (0 : Int32) (2 : Int32) q0 q1).toInt8.toInt32)), (.int ((fn1 Z (3 : Int32) (0 : Int32) (2 : Int32) q0 q1).toInt8.toInt32)), (.int ((fn1 Z (4 : Int32) (0 : Int32) (2 : Int32) q0 q1).toInt8.toInt32)), (.int ((fn1 Z (5 : Int32) (0 : Int32) (2 : Int32) q0 q1).toInt8.toInt32)), (.int ((fn1 Z (6 : Int32) (0 : Int32) (2 : Int32) q0 q1).toInt8.toInt32)), (.int ((fn1 Z (7 : Int32) (0 : Int32) (2 : Int32) q0 q1).toInt8.toInt32)), (.int ((fn1 Z (8 : Int32) (0 : Int32) (2 : Int32) q0 q1).toInt8.toInt32)), (.int ((fn1 Z (9 : Int32) (0 : Int32) (2 : Int32) q0 q1).toInt8.toInt32)), (.int ((fn1 Z (10 : Int32) (0 : Int32) (2 : Int32) q0 q1).toInt8.toInt32)), (.int ((fn1 Z (11 : Int32) (0 : Int32) (2 : Int32) q0 q1).toInt8.toInt32))] (.int 0) := V
    have eq0 : ((fn1 Z (0 : Int32) (0 : Int32) (2 : Int32) q0 q1).toInt8.toInt32) = (chv (fn6 Z q1 (0 : Int32))) := by unfold fn1; rw [if_neg (by decide : ¬ ((0 : Int32) < ((4 : Int32) * (0 : Int32)))), if_pos (by decide : (0 : Int32) < (((4 : Int32) * (0 : Int32)) + (2 : Int32)))]; exact chv_bb (dg_of Z q1 (0 : Int32))
    have eq1 : ((fn1 Z (1 : Int32) (0 : Int32) (2 : Int32) q0 q1).toInt8.toInt32) = (chv (fn6 Z q1 (1 : Int32))) := by unfold fn1; rw [if_neg (by decide : ¬ ((1 : Int32) < ((4 : Int32) * (0 : Int32)))), if_pos (by decide : (1 : Int32) < (((4 : Int32) * (0 : Int32)) + (2 : Int32)))]; exact chv_bb (dg_of Z q1 (1 : Int32))
    rw [eq0, eq1] at V1
    intro p e ha hc hk s m args below hf happ hP hK
    obtain ⟨n, o, z1, z2, z3, v, L, rfl, ⟨b, kb, rfl, N, K, nb, A⟩, hq⟩ := rm3x020 l Z a0 hw hS [] r0 k (fn6 Z q1 (0 : Int32)) (fn6 Z q1 (1 : Int32)) (.int ((fn1 Z (2 : Int32) (0 : Int32) (2 : Int32) q0 q1).toInt8.toInt32)) (.int ((fn1 Z (3 : Int32) (0 : Int32) (2 : Int32) q0 q1).toInt8.toInt32)) (.int ((fn1 Z (4 : Int32) (0 : Int32) (2 : Int32) q0 q1).toInt8.toInt32)) (.int ((fn1 Z (5 : Int32) (0 : Int32) (2 : Int32) q0 q1).toInt8.toInt32)) (.int ((fn1 Z (6 : Int32) (0 : Int32) (2 : Int32) q0 q1).toInt8.toInt32)) (.int ((fn1 Z (7 : Int32) (0 : Int32) (2 : Int32) q0 q1).toInt8.toInt32)) (.int ((fn1 Z (8 : Int32) (0 : Int32) (2 : Int32) q0 q1).toInt8.toInt32)) (.int ((fn1 Z (9 : Int32) (0 : Int32) (2 : Int32) q0 q1).toInt8.toInt32)) (.int ((fn1 Z (10 : Int32) (0 : Int32) (2 : Int32) q0 q1).toInt8.toInt32)) (.int ((fn1 Z (11 : Int32) (0 : Int32) (2 : Int32) q0 q1).toInt8.toInt32)) h0 n0 O0 V1 (dg_of Z q1 (0 : Int32)) (dg_of Z q1 (1 : Int32)) p e ha hc hk s m args below hf happ hP hK
    refine ⟨n, _, z1, z2, z3, _, L, rfl, ⟨b, kb, _, rfl, N, K, nb, A, fun i hi hz => ?_⟩, hq⟩
    match i, hi with
    | 0, _ => exact congrArg Value.int ((part2 (dg_of Z q1 (0 : Int32)) (dg_of Z q1 (1 : Int32))).trans (congrArg (fun q => q.toInt8.toInt32) (show (fn6 Z q1 (0 : Int32)) * 4 + (fn6 Z q1 (1 : Int32)) / 16 = fn9 Z (0 : Int32) (0 : Int32) q0 q1 from (Eq.symm (by unfold fn9; rw [if_neg (by decide : ¬ ((0 : Int32) < ((3 : Int32) * (0 : Int32)))), if_pos (by decide : ((0 : Int32) - ((3 : Int32) * (0 : Int32))) = (0 : Int32))]; try rfl)))))
    | 1, _ => exact absurd hz (by decide)
    | 2, _ => exact absurd hz (by decide)
    | 3, _ => exact absurd hz (by decide)
    | 4, _ => exact absurd hz (by decide)
    | 5, _ => exact absurd hz (by decide)
    | 6, _ => exact absurd hz (by decide)
    | 7, _ => exact absurd hz (by decide)
  · have V1 : Arv Z h0 r0 k .byte (4 : Int32) [(.int ((fn1 Z (0 : Int32) (0 : Int32) (2 : Int32) q0 q1).toInt8.toInt32)), (.int ((fn1 Z (1 : Int32) (0 : Int32) (2 : Int32) q0 q1).toInt8.toInt32)), (.int ((fn1 Z (2 : Int32) (0 : Int32) (2 : Int32) q0 q1).toInt8.toInt32)), (.int ((fn1 Z (3 : Int32) (0 : Int32) (2 : Int32) q0 q1).toInt8.toInt32)), (.int ((fn1 Z (4 : Int32) (0 : Int32) (2 : Int32) q0 q1).toInt8.toInt32)), (.int ((fn1 Z (5 : Int32) (0 : Int32) (2 : Int32) q0 q1).toInt8.toInt32)), (.int ((fn1 Z (6 : Int32) (0 : Int32) (2 : Int32) q0 q1).toInt8.toInt32)), (.int ((fn1 Z (7 : Int32) (0 : Int32) (2 : Int32) q0 q1).toInt8.toInt32)), (.int ((fn1 Z (8 : Int32) (0 : Int32) (2 : Int32) q0 q1).toInt8.toInt32)), (.int ((fn1 Z (9 : Int32) (0 : Int32) (2 : Int32) q0 q1).toInt8.toInt32)), (.int ((fn1 Z (10 : Int32) (0 : Int32) (2 : Int32) q0 q1).toInt8.toInt32)), (.int ((fn1 Z (11 : Int32) (0 : Int32) (2 : Int32) q0 q1).toInt8.toInt32))] (.int 0) := V
    have eq0 : ((fn1 Z (0 : Int32) (0 : Int32) (2 : Int32) q0 q1).toInt8.toInt32) = (chv (fn6 Z q1 (0 : Int32))) := by unfold fn1; rw [if_neg (by decide : ¬ ((0 : Int32) < ((4 : Int32) * (0 : Int32)))), if_pos (by decide : (0 : Int32) < (((4 : Int32) * (0 : Int32)) + (2 : Int32)))]; exact chv_bb (dg_of Z q1 (0 : Int32))
    have eq1 : ((fn1 Z (1 : Int32) (0 : Int32) (2 : Int32) q0 q1).toInt8.toInt32) = (chv (fn6 Z q1 (1 : Int32))) := by unfold fn1; rw [if_neg (by decide : ¬ ((1 : Int32) < ((4 : Int32) * (0 : Int32)))), if_pos (by decide : (1 : Int32) < (((4 : Int32) * (0 : Int32)) + (2 : Int32)))]; exact chv_bb (dg_of Z q1 (1 : Int32))
    have eq2 : ((fn1 Z (2 : Int32) (0 : Int32) (2 : Int32) q0 q1).toInt8.toInt32) = (61 : Int32) := by unfold fn1; rw [if_neg (by decide : ¬ ((2 : Int32) < ((4 : Int32) * (0 : Int32)))), if_neg (by decide : ¬ ((2 : Int32) < (((4 : Int32) * (0 : Int32)) + (2 : Int32))))]; first | rfl | decide
    have eq3 : ((fn1 Z (3 : Int32) (0 : Int32) (2 : Int32) q0 q1).toInt8.toInt32) = (61 : Int32) := by unfold fn1; rw [if_neg (by decide : ¬ ((3 : Int32) < ((4 : Int32) * (0 : Int32)))), if_neg (by decide : ¬ ((3 : Int32) < (((4 : Int32) * (0 : Int32)) + (2 : Int32))))]; first | rfl | decide
    rw [eq0, eq1, eq2, eq3] at V1
    intro p e ha hc hk s m args below hf happ hP hK
    obtain ⟨n, o, z1, z2, z3, v, L, rfl, ⟨b, kb, rfl, N, K, nb, A⟩, hq⟩ := rm3x022 l Z a0 hw hS [] r0 k (fn6 Z q1 (0 : Int32)) (fn6 Z q1 (1 : Int32)) (.int ((fn1 Z (4 : Int32) (0 : Int32) (2 : Int32) q0 q1).toInt8.toInt32)) (.int ((fn1 Z (5 : Int32) (0 : Int32) (2 : Int32) q0 q1).toInt8.toInt32)) (.int ((fn1 Z (6 : Int32) (0 : Int32) (2 : Int32) q0 q1).toInt8.toInt32)) (.int ((fn1 Z (7 : Int32) (0 : Int32) (2 : Int32) q0 q1).toInt8.toInt32)) (.int ((fn1 Z (8 : Int32) (0 : Int32) (2 : Int32) q0 q1).toInt8.toInt32)) (.int ((fn1 Z (9 : Int32) (0 : Int32) (2 : Int32) q0 q1).toInt8.toInt32)) (.int ((fn1 Z (10 : Int32) (0 : Int32) (2 : Int32) q0 q1).toInt8.toInt32)) (.int ((fn1 Z (11 : Int32) (0 : Int32) (2 : Int32) q0 q1).toInt8.toInt32)) h0 n0 O0 V1 (dg_of Z q1 (0 : Int32)) (dg_of Z q1 (1 : Int32)) p e ha hc hk s m args below hf happ hP hK
    refine ⟨n, _, z1, z2, z3, _, L, rfl, ⟨b, kb, _, rfl, N, K, nb, A, fun i hi hz => ?_⟩, hq⟩
    match i, hi with
    | 0, _ => exact congrArg Value.int ((part2 (dg_of Z q1 (0 : Int32)) (dg_of Z q1 (1 : Int32))).trans (congrArg (fun q => q.toInt8.toInt32) (show (fn6 Z q1 (0 : Int32)) * 4 + (fn6 Z q1 (1 : Int32)) / 16 = fn9 Z (0 : Int32) (0 : Int32) q0 q1 from (Eq.symm (by unfold fn9; rw [if_neg (by decide : ¬ ((0 : Int32) < ((3 : Int32) * (0 : Int32)))), if_pos (by decide : ((0 : Int32) - ((3 : Int32) * (0 : Int32))) = (0 : Int32))]; try rfl)))))
    | 1, _ => exact absurd hz (by decide)
    | 2, _ => exact absurd hz (by decide)
    | 3, _ => exact absurd hz (by decide)
    | 4, _ => exact absurd hz (by decide)
    | 5, _ => exact absurd hz (by decide)
    | 6, _ => exact absurd hz (by decide)
    | 7, _ => exact absurd hz (by decide)
  · have V1 : Arv Z h0 r0 k .byte (3 : Int32) [(.int ((fn1 Z (0 : Int32) (0 : Int32) (3 : Int32) q0 q1).toInt8.toInt32)), (.int ((fn1 Z (1 : Int32) (0 : Int32) (3 : Int32) q0 q1).toInt8.toInt32)), (.int ((fn1 Z (2 : Int32) (0 : Int32) (3 : Int32) q0 q1).toInt8.toInt32)), (.int ((fn1 Z (3 : Int32) (0 : Int32) (3 : Int32) q0 q1).toInt8.toInt32)), (.int ((fn1 Z (4 : Int32) (0 : Int32) (3 : Int32) q0 q1).toInt8.toInt32)), (.int ((fn1 Z (5 : Int32) (0 : Int32) (3 : Int32) q0 q1).toInt8.toInt32)), (.int ((fn1 Z (6 : Int32) (0 : Int32) (3 : Int32) q0 q1).toInt8.toInt32)), (.int ((fn1 Z (7 : Int32) (0 : Int32) (3 : Int32) q0 q1).toInt8.toInt32)), (.int ((fn1 Z (8 : Int32) (0 : Int32) (3 : Int32) q0 q1).toInt8.toInt32)), (.int ((fn1 Z (9 : Int32) (0 : Int32) (3 : Int32) q0 q1).toInt8.toInt32)), (.int ((fn1 Z (10 : Int32) (0 : Int32) (3 : Int32) q0 q1).toInt8.toInt32)), (.int ((fn1 Z (11 : Int32) (0 : Int32) (3 : Int32) q0 q1).toInt8.toInt32))] (.int 0) := V
    have eq0 : ((fn1 Z (0 : Int32) (0 : Int32) (3 : Int32) q0 q1).toInt8.toInt32) = (chv (fn6 Z q1 (0 : Int32))) := by unfold fn1; rw [if_neg (by decide : ¬ ((0 : Int32) < ((4 : Int32) * (0 : Int32)))), if_pos (by decide : (0 : Int32) < (((4 : Int32) * (0 : Int32)) + (3 : Int32)))]; exact chv_bb (dg_of Z q1 (0 : Int32))
    have eq1 : ((fn1 Z (1 : Int32) (0 : Int32) (3 : Int32) q0 q1).toInt8.toInt32) = (chv (fn6 Z q1 (1 : Int32))) := by unfold fn1; rw [if_neg (by decide : ¬ ((1 : Int32) < ((4 : Int32) * (0 : Int32)))), if_pos (by decide : (1 : Int32) < (((4 : Int32) * (0 : Int32)) + (3 : Int32)))]; exact chv_bb (dg_of Z q1 (1 : Int32))
    have eq2 : ((fn1 Z (2 : Int32) (0 : Int32) (3 : Int32) q0 q1).toInt8.toInt32) = (chv (fn6 Z q1 (2 : Int32))) := by unfold fn1; rw [if_neg (by decide : ¬ ((2 : Int32) < ((4 : Int32) * (0 : Int32)))), if_pos (by decide : (2 : Int32) < (((4 : Int32) * (0 : Int32)) + (3 : Int32)))]; exact chv_bb (dg_of Z q1 (2 : Int32))
    rw [eq0, eq1, eq2] at V1
    intro p e ha hc hk s m args below hf happ hP hK
    obtain ⟨n, o, z1, z2, z3, v, L, rfl, ⟨b, kb, rfl, N, K, nb, A⟩, hq⟩ := rm3x030 l Z a0 hw hS [] r0 k (fn6 Z q1 (0 : Int32)) (fn6 Z q1 (1 : Int32)) (fn6 Z q1 (2 : Int32)) (.int ((fn1 Z (3 : Int32) (0 : Int32) (3 : Int32) q0 q1).toInt8.toInt32)) (.int ((fn1 Z (4 : Int32) (0 : Int32) (3 : Int32) q0 q1).toInt8.toInt32)) (.int ((fn1 Z (5 : Int32) (0 : Int32) (3 : Int32) q0 q1).toInt8.toInt32)) (.int ((fn1 Z (6 : Int32) (0 : Int32) (3 : Int32) q0 q1).toInt8.toInt32)) (.int ((fn1 Z (7 : Int32) (0 : Int32) (3 : Int32) q0 q1).toInt8.toInt32)) (.int ((fn1 Z (8 : Int32) (0 : Int32) (3 : Int32) q0 q1).toInt8.toInt32)) (.int ((fn1 Z (9 : Int32) (0 : Int32) (3 : Int32) q0 q1).toInt8.toInt32)) (.int ((fn1 Z (10 : Int32) (0 : Int32) (3 : Int32) q0 q1).toInt8.toInt32)) (.int ((fn1 Z (11 : Int32) (0 : Int32) (3 : Int32) q0 q1).toInt8.toInt32)) h0 n0 O0 V1 (dg_of Z q1 (0 : Int32)) (dg_of Z q1 (1 : Int32)) (dg_of Z q1 (2 : Int32)) p e ha hc hk s m args below hf happ hP hK
    refine ⟨n, _, z1, z2, z3, _, L, rfl, ⟨b, kb, _, rfl, N, K, nb, A, fun i hi hz => ?_⟩, hq⟩
    match i, hi with
    | 0, _ => exact congrArg Value.int ((part30 (dg_of Z q1 (0 : Int32)) (dg_of Z q1 (1 : Int32)) (dg_of Z q1 (2 : Int32))).trans (congrArg (fun q => q.toInt8.toInt32) (show (fn6 Z q1 (0 : Int32)) * 4 + (fn6 Z q1 (1 : Int32)) / 16 = fn9 Z (0 : Int32) (0 : Int32) q0 q1 from (Eq.symm (by unfold fn9; rw [if_neg (by decide : ¬ ((0 : Int32) < ((3 : Int32) * (0 : Int32)))), if_pos (by decide : ((0 : Int32) - ((3 : Int32) * (0 : Int32))) = (0 : Int32))]; try rfl)))))
    | 1, _ => exact congrArg Value.int ((part31 (dg_of Z q1 (0 : Int32)) (dg_of Z q1 (1 : Int32)) (dg_of Z q1 (2 : Int32))).trans (congrArg (fun q => q.toInt8.toInt32) (show ((fn6 Z q1 (1 : Int32)) - ((fn6 Z q1 (1 : Int32)) / 16) * 16) * 16 + (fn6 Z q1 (2 : Int32)) / 4 = fn9 Z (1 : Int32) (0 : Int32) q0 q1 from (Eq.symm (by unfold fn9; rw [if_neg (by decide : ¬ ((1 : Int32) < ((3 : Int32) * (0 : Int32)))), if_neg (by decide : ¬ (((1 : Int32) - ((3 : Int32) * (0 : Int32))) = (0 : Int32)))]; try rfl)))))
    | 2, _ => exact absurd hz (by decide)
    | 3, _ => exact absurd hz (by decide)
    | 4, _ => exact absurd hz (by decide)
    | 5, _ => exact absurd hz (by decide)
    | 6, _ => exact absurd hz (by decide)
    | 7, _ => exact absurd hz (by decide)
  · have V1 : Arv Z h0 r0 k .byte (4 : Int32) [(.int ((fn1 Z (0 : Int32) (0 : Int32) (3 : Int32) q0 q1).toInt8.toInt32)), (.int ((fn1 Z (1 : Int32) (0 : Int32) (3 : Int32) q0 q1).toInt8.toInt32)), (.int ((fn1 Z (2 : Int32) (0 : Int32) (3 : Int32) q0 q1).toInt8.toInt32)), (.int ((fn1 Z (3 : Int32) (0 : Int32) (3 : Int32) q0 q1).toInt8.toInt32)), (.int ((fn1 Z (4 : Int32) (0 : Int32) (3 : Int32) q0 q1).toInt8.toInt32)), (.int ((fn1 Z (5 : Int32) (0 : Int32) (3 : Int32) q0 q1).toInt8.toInt32)), (.int ((fn1 Z (6 : Int32) (0 : Int32) (3 : Int32) q0 q1).toInt8.toInt32)), (.int ((fn1 Z (7 : Int32) (0 : Int32) (3 : Int32) q0 q1).toInt8.toInt32)), (.int ((fn1 Z (8 : Int32) (0 : Int32) (3 : Int32) q0 q1).toInt8.toInt32)), (.int ((fn1 Z (9 : Int32) (0 : Int32) (3 : Int32) q0 q1).toInt8.toInt32)), (.int ((fn1 Z (10 : Int32) (0 : Int32) (3 : Int32) q0 q1).toInt8.toInt32)), (.int ((fn1 Z (11 : Int32) (0 : Int32) (3 : Int32) q0 q1).toInt8.toInt32))] (.int 0) := V
    have eq0 : ((fn1 Z (0 : Int32) (0 : Int32) (3 : Int32) q0 q1).toInt8.toInt32) = (chv (fn6 Z q1 (0 : Int32))) := by unfold fn1; rw [if_neg (by decide : ¬ ((0 : Int32) < ((4 : Int32) * (0 : Int32)))), if_pos (by decide : (0 : Int32) < (((4 : Int32) * (0 : Int32)) + (3 : Int32)))]; exact chv_bb (dg_of Z q1 (0 : Int32))
    have eq1 : ((fn1 Z (1 : Int32) (0 : Int32) (3 : Int32) q0 q1).toInt8.toInt32) = (chv (fn6 Z q1 (1 : Int32))) := by unfold fn1; rw [if_neg (by decide : ¬ ((1 : Int32) < ((4 : Int32) * (0 : Int32)))), if_pos (by decide : (1 : Int32) < (((4 : Int32) * (0 : Int32)) + (3 : Int32)))]; exact chv_bb (dg_of Z q1 (1 : Int32))
    have eq2 : ((fn1 Z (2 : Int32) (0 : Int32) (3 : Int32) q0 q1).toInt8.toInt32) = (chv (fn6 Z q1 (2 : Int32))) := by unfold fn1; rw [if_neg (by decide : ¬ ((2 : Int32) < ((4 : Int32) * (0 : Int32)))), if_pos (by decide : (2 : Int32) < (((4 : Int32) * (0 : Int32)) + (3 : Int32)))]; exact chv_bb (dg_of Z q1 (2 : Int32))
    have eq3 : ((fn1 Z (3 : Int32) (0 : Int32) (3 : Int32) q0 q1).toInt8.toInt32) = (61 : Int32) := by unfold fn1; rw [if_neg (by decide : ¬ ((3 : Int32) < ((4 : Int32) * (0 : Int32)))), if_neg (by decide : ¬ ((3 : Int32) < (((4 : Int32) * (0 : Int32)) + (3 : Int32))))]; first | rfl | decide
    rw [eq0, eq1, eq2, eq3] at V1
    intro p e ha hc hk s m args below hf happ hP hK
    obtain ⟨n, o, z1, z2, z3, v, L, rfl, ⟨b, kb, rfl, N, K, nb, A⟩, hq⟩ := rm3x031 l Z a0 hw hS [] r0 k (fn6 Z q1 (0 : Int32)) (fn6 Z q1 (1 : Int32)) (fn6 Z q1 (2 : Int32)) (.int ((fn1 Z (4 : Int32) (0 : Int32) (3 : Int32) q0 q1).toInt8.toInt32)) (.int ((fn1 Z (5 : Int32) (0 : Int32) (3 : Int32) q0 q1).toInt8.toInt32)) (.int ((fn1 Z (6 : Int32) (0 : Int32) (3 : Int32) q0 q1).toInt8.toInt32)) (.int ((fn1 Z (7 : Int32) (0 : Int32) (3 : Int32) q0 q1).toInt8.toInt32)) (.int ((fn1 Z (8 : Int32) (0 : Int32) (3 : Int32) q0 q1).toInt8.toInt32)) (.int ((fn1 Z (9 : Int32) (0 : Int32) (3 : Int32) q0 q1).toInt8.toInt32)) (.int ((fn1 Z (10 : Int32) (0 : Int32) (3 : Int32) q0 q1).toInt8.toInt32)) (.int ((fn1 Z (11 : Int32) (0 : Int32) (3 : Int32) q0 q1).toInt8.toInt32)) h0 n0 O0 V1 (dg_of Z q1 (0 : Int32)) (dg_of Z q1 (1 : Int32)) (dg_of Z q1 (2 : Int32)) p e ha hc hk s m args below hf happ hP hK
    refine ⟨n, _, z1, z2, z3, _, L, rfl, ⟨b, kb, _, rfl, N, K, nb, A, fun i hi hz => ?_⟩, hq⟩
    match i, hi with
    | 0, _ => exact congrArg Value.int ((part30 (dg_of Z q1 (0 : Int32)) (dg_of Z q1 (1 : Int32)) (dg_of Z q1 (2 : Int32))).trans (congrArg (fun q => q.toInt8.toInt32) (show (fn6 Z q1 (0 : Int32)) * 4 + (fn6 Z q1 (1 : Int32)) / 16 = fn9 Z (0 : Int32) (0 : Int32) q0 q1 from (Eq.symm (by unfold fn9; rw [if_neg (by decide : ¬ ((0 : Int32) < ((3 : Int32) * (0 : Int32)))), if_pos (by decide : ((0 : Int32) - ((3 : Int32) * (0 : Int32))) = (0 : Int32))]; try rfl)))))
    | 1, _ => exact congrArg Value.int ((part31 (dg_of Z q1 (0 : Int32)) (dg_of Z q1 (1 : Int32)) (dg_of Z q1 (2 : Int32))).trans (congrArg (fun q => q.toInt8.toInt32) (show ((fn6 Z q1 (1 : Int32)) - ((fn6 Z q1 (1 : Int32)) / 16) * 16) * 16 + (fn6 Z q1 (2 : Int32)) / 4 = fn9 Z (1 : Int32) (0 : Int32) q0 q1 from (Eq.symm (by unfold fn9; rw [if_neg (by decide : ¬ ((1 : Int32) < ((3 : Int32) * (0 : Int32)))), if_neg (by decide : ¬ (((1 : Int32) - ((3 : Int32) * (0 : Int32))) = (0 : Int32)))]; try rfl)))))
    | 2, _ => exact absurd hz (by decide)
    | 3, _ => exact absurd hz (by decide)
    | 4, _ => exact absurd hz (by decide)
    | 5, _ => exact absurd hz (by decide)
    | 6, _ => exact absurd hz (by decide)
    | 7, _ => exact absurd hz (by decide)
  · have V1 : Arv Z h0 r0 k .byte (4 : Int32) [(.int ((fn1 Z (0 : Int32) (1 : Int32) (0 : Int32) q0 q1).toInt8.toInt32)), (.int ((fn1 Z (1 : Int32) (1 : Int32) (0 : Int32) q0 q1).toInt8.toInt32)), (.int ((fn1 Z (2 : Int32) (1 : Int32) (0 : Int32) q0 q1).toInt8.toInt32)), (.int ((fn1 Z (3 : Int32) (1 : Int32) (0 : Int32) q0 q1).toInt8.toInt32)), (.int ((fn1 Z (4 : Int32) (1 : Int32) (0 : Int32) q0 q1).toInt8.toInt32)), (.int ((fn1 Z (5 : Int32) (1 : Int32) (0 : Int32) q0 q1).toInt8.toInt32)), (.int ((fn1 Z (6 : Int32) (1 : Int32) (0 : Int32) q0 q1).toInt8.toInt32)), (.int ((fn1 Z (7 : Int32) (1 : Int32) (0 : Int32) q0 q1).toInt8.toInt32)), (.int ((fn1 Z (8 : Int32) (1 : Int32) (0 : Int32) q0 q1).toInt8.toInt32)), (.int ((fn1 Z (9 : Int32) (1 : Int32) (0 : Int32) q0 q1).toInt8.toInt32)), (.int ((fn1 Z (10 : Int32) (1 : Int32) (0 : Int32) q0 q1).toInt8.toInt32)), (.int ((fn1 Z (11 : Int32) (1 : Int32) (0 : Int32) q0 q1).toInt8.toInt32))] (.int 0) := V
    have eq0 : ((fn1 Z (0 : Int32) (1 : Int32) (0 : Int32) q0 q1).toInt8.toInt32) = (chv (fn6 Z q0 (0 : Int32))) := by unfold fn1; rw [if_pos (by decide : (0 : Int32) < ((4 : Int32) * (1 : Int32)))]; exact chv_bb (dg_of Z q0 (0 : Int32))
    have eq1 : ((fn1 Z (1 : Int32) (1 : Int32) (0 : Int32) q0 q1).toInt8.toInt32) = (chv (fn6 Z q0 (1 : Int32))) := by unfold fn1; rw [if_pos (by decide : (1 : Int32) < ((4 : Int32) * (1 : Int32)))]; exact chv_bb (dg_of Z q0 (1 : Int32))
    have eq2 : ((fn1 Z (2 : Int32) (1 : Int32) (0 : Int32) q0 q1).toInt8.toInt32) = (chv (fn6 Z q0 (2 : Int32))) := by unfold fn1; rw [if_pos (by decide : (2 : Int32) < ((4 : Int32) * (1 : Int32)))]; exact chv_bb (dg_of Z q0 (2 : Int32))
    have eq3 : ((fn1 Z (3 : Int32) (1 : Int32) (0 : Int32) q0 q1).toInt8.toInt32) = (chv (fn6 Z q0 (3 : Int32))) := by unfold fn1; rw [if_pos (by decide : (3 : Int32) < ((4 : Int32) * (1 : Int32)))]; exact chv_bb (dg_of Z q0 (3 : Int32))
    rw [eq0, eq1, eq2, eq3] at V1
    intro p e ha hc hk s m args below hf happ hP hK
    obtain ⟨n, o, z1, z2, z3, v, L, rfl, ⟨b, kb, rfl, N, K, nb, A⟩, hq⟩ := rm3x100 l Z a0 hw hS [] r0 k (fn6 Z q0 (0 : Int32)) (fn6 Z q0 (1 : Int32)) (fn6 Z q0 (2 : Int32)) (fn6 Z q0 (3 : Int32)) (.int ((fn1 Z (4 : Int32) (1 : Int32) (0 : Int32) q0 q1).toInt8.toInt32)) (.int ((fn1 Z (5 : Int32) (1 : Int32) (0 : Int32) q0 q1).toInt8.toInt32)) (.int ((fn1 Z (6 : Int32) (1 : Int32) (0 : Int32) q0 q1).toInt8.toInt32)) (.int ((fn1 Z (7 : Int32) (1 : Int32) (0 : Int32) q0 q1).toInt8.toInt32)) (.int ((fn1 Z (8 : Int32) (1 : Int32) (0 : Int32) q0 q1).toInt8.toInt32)) (.int ((fn1 Z (9 : Int32) (1 : Int32) (0 : Int32) q0 q1).toInt8.toInt32)) (.int ((fn1 Z (10 : Int32) (1 : Int32) (0 : Int32) q0 q1).toInt8.toInt32)) (.int ((fn1 Z (11 : Int32) (1 : Int32) (0 : Int32) q0 q1).toInt8.toInt32)) h0 n0 O0 V1 (dg_of Z q0 (0 : Int32)) (dg_of Z q0 (1 : Int32)) (dg_of Z q0 (2 : Int32)) (dg_of Z q0 (3 : Int32)) p e ha hc hk s m args below hf happ hP hK
    refine ⟨n, _, z1, z2, z3, _, L, rfl, ⟨b, kb, _, rfl, N, K, nb, A, fun i hi hz => ?_⟩, hq⟩
    match i, hi with
    | 0, _ => exact congrArg Value.int ((whole0 (dg_of Z q0 (0 : Int32)) (dg_of Z q0 (1 : Int32)) (dg_of Z q0 (2 : Int32)) (dg_of Z q0 (3 : Int32))).trans (congrArg (fun q => q.toInt8.toInt32) (show (fn6 Z q0 (0 : Int32)) * 4 + (fn6 Z q0 (1 : Int32)) / 16 = fn9 Z (0 : Int32) (1 : Int32) q0 q1 from (Eq.symm (by unfold fn9; rw [if_pos (by decide : (0 : Int32) < ((3 : Int32) * (1 : Int32)))]; unfold fn10; rw [if_pos (by decide)]; rfl)))))
    | 1, _ => exact congrArg Value.int ((whole1 (dg_of Z q0 (0 : Int32)) (dg_of Z q0 (1 : Int32)) (dg_of Z q0 (2 : Int32)) (dg_of Z q0 (3 : Int32))).trans (congrArg (fun q => q.toInt8.toInt32) (show ((fn6 Z q0 (1 : Int32)) - ((fn6 Z q0 (1 : Int32)) / 16) * 16) * 16 + (fn6 Z q0 (2 : Int32)) / 4 = fn9 Z (1 : Int32) (1 : Int32) q0 q1 from (Eq.symm (by unfold fn9; rw [if_pos (by decide : (1 : Int32) < ((3 : Int32) * (1 : Int32)))]; unfold fn10; rw [if_neg (by decide), if_pos (by decide)]; rfl)))))
    | 2, _ => exact congrArg Value.int ((whole2 (dg_of Z q0 (0 : Int32)) (dg_of Z q0 (1 : Int32)) (dg_of Z q0 (2 : Int32)) (dg_of Z q0 (3 : Int32))).trans (congrArg (fun q => q.toInt8.toInt32) (show ((fn6 Z q0 (2 : Int32)) - ((fn6 Z q0 (2 : Int32)) / 4) * 4) * 64 + (fn6 Z q0 (3 : Int32)) = fn9 Z (2 : Int32) (1 : Int32) q0 q1 from (Eq.symm (by unfold fn9; rw [if_pos (by decide : (2 : Int32) < ((3 : Int32) * (1 : Int32)))]; unfold fn10; rw [if_neg (by decide), if_neg (by decide)]; rfl)))))
    | 3, _ => exact absurd hz (by decide)
    | 4, _ => exact absurd hz (by decide)
    | 5, _ => exact absurd hz (by decide)
    | 6, _ => exact absurd hz (by decide)
    | 7, _ => exact absurd hz (by decide)
  · have V1 : Arv Z h0 r0 k .byte (6 : Int32) [(.int ((fn1 Z (0 : Int32) (1 : Int32) (2 : Int32) q0 q1).toInt8.toInt32)), (.int ((fn1 Z (1 : Int32) (1 : Int32) (2 : Int32) q0 q1).toInt8.toInt32)), (.int ((fn1 Z (2 : Int32) (1 : Int32) (2 : Int32) q0 q1).toInt8.toInt32)), (.int ((fn1 Z (3 : Int32) (1 : Int32) (2 : Int32) q0 q1).toInt8.toInt32)), (.int ((fn1 Z (4 : Int32) (1 : Int32) (2 : Int32) q0 q1).toInt8.toInt32)), (.int ((fn1 Z (5 : Int32) (1 : Int32) (2 : Int32) q0 q1).toInt8.toInt32)), (.int ((fn1 Z (6 : Int32) (1 : Int32) (2 : Int32) q0 q1).toInt8.toInt32)), (.int ((fn1 Z (7 : Int32) (1 : Int32) (2 : Int32) q0 q1).toInt8.toInt32)), (.int ((fn1 Z (8 : Int32) (1 : Int32) (2 : Int32) q0 q1).toInt8.toInt32)), (.int ((fn1 Z (9 : Int32) (1 : Int32) (2 : Int32) q0 q1).toInt8.toInt32)), (.int ((fn1 Z (10 : Int32) (1 : Int32) (2 : Int32) q0 q1).toInt8.toInt32)), (.int ((fn1 Z (11 : Int32) (1 : Int32) (2 : Int32) q0 q1).toInt8.toInt32))] (.int 0) := V
    have eq0 : ((fn1 Z (0 : Int32) (1 : Int32) (2 : Int32) q0 q1).toInt8.toInt32) = (chv (fn6 Z q0 (0 : Int32))) := by unfold fn1; rw [if_pos (by decide : (0 : Int32) < ((4 : Int32) * (1 : Int32)))]; exact chv_bb (dg_of Z q0 (0 : Int32))
    have eq1 : ((fn1 Z (1 : Int32) (1 : Int32) (2 : Int32) q0 q1).toInt8.toInt32) = (chv (fn6 Z q0 (1 : Int32))) := by unfold fn1; rw [if_pos (by decide : (1 : Int32) < ((4 : Int32) * (1 : Int32)))]; exact chv_bb (dg_of Z q0 (1 : Int32))
    have eq2 : ((fn1 Z (2 : Int32) (1 : Int32) (2 : Int32) q0 q1).toInt8.toInt32) = (chv (fn6 Z q0 (2 : Int32))) := by unfold fn1; rw [if_pos (by decide : (2 : Int32) < ((4 : Int32) * (1 : Int32)))]; exact chv_bb (dg_of Z q0 (2 : Int32))
    have eq3 : ((fn1 Z (3 : Int32) (1 : Int32) (2 : Int32) q0 q1).toInt8.toInt32) = (chv (fn6 Z q0 (3 : Int32))) := by unfold fn1; rw [if_pos (by decide : (3 : Int32) < ((4 : Int32) * (1 : Int32)))]; exact chv_bb (dg_of Z q0 (3 : Int32))
    have eq4 : ((fn1 Z (4 : Int32) (1 : Int32) (2 : Int32) q0 q1).toInt8.toInt32) = (chv (fn6 Z q1 (0 : Int32))) := by unfold fn1; rw [if_neg (by decide : ¬ ((4 : Int32) < ((4 : Int32) * (1 : Int32)))), if_pos (by decide : (4 : Int32) < (((4 : Int32) * (1 : Int32)) + (2 : Int32)))]; exact chv_bb (dg_of Z q1 (0 : Int32))
    have eq5 : ((fn1 Z (5 : Int32) (1 : Int32) (2 : Int32) q0 q1).toInt8.toInt32) = (chv (fn6 Z q1 (1 : Int32))) := by unfold fn1; rw [if_neg (by decide : ¬ ((5 : Int32) < ((4 : Int32) * (1 : Int32)))), if_pos (by decide : (5 : Int32) < (((4 : Int32) * (1 : Int32)) + (2 : Int32)))]; exact chv_bb (dg_of Z q1 (1 : Int32))
    rw [eq0, eq1, eq2, eq3, eq4, eq5] at V1
    intro p e ha hc hk s m args below hf happ hP hK
    obtain ⟨n, o, z1, z2, z3, v, L, rfl, ⟨b, kb, rfl, N, K, nb, A⟩, hq⟩ := rm3x120 l Z a0 hw hS [] r0 k (fn6 Z q0 (0 : Int32)) (fn6 Z q0 (1 : Int32)) (fn6 Z q0 (2 : Int32)) (fn6 Z q0 (3 : Int32)) (fn6 Z q1 (0 : Int32)) (fn6 Z q1 (1 : Int32)) (.int ((fn1 Z (6 : Int32) (1 : Int32) (2 : Int32) q0 q1).toInt8.toInt32)) (.int ((fn1 Z (7 : Int32) (1 : Int32) (2 : Int32) q0 q1).toInt8.toInt32)) (.int ((fn1 Z (8 : Int32) (1 : Int32) (2 : Int32) q0 q1).toInt8.toInt32)) (.int ((fn1 Z (9 : Int32) (1 : Int32) (2 : Int32) q0 q1).toInt8.toInt32)) (.int ((fn1 Z (10 : Int32) (1 : Int32) (2 : Int32) q0 q1).toInt8.toInt32)) (.int ((fn1 Z (11 : Int32) (1 : Int32) (2 : Int32) q0 q1).toInt8.toInt32)) h0 n0 O0 V1 (dg_of Z q0 (0 : Int32)) (dg_of Z q0 (1 : Int32)) (dg_of Z q0 (2 : Int32)) (dg_of Z q0 (3 : Int32)) (dg_of Z q1 (0 : Int32)) (dg_of Z q1 (1 : Int32)) p e ha hc hk s m args below hf happ hP hK
    refine ⟨n, _, z1, z2, z3, _, L, rfl, ⟨b, kb, _, rfl, N, K, nb, A, fun i hi hz => ?_⟩, hq⟩
    match i, hi with
    | 0, _ => exact congrArg Value.int ((whole0 (dg_of Z q0 (0 : Int32)) (dg_of Z q0 (1 : Int32)) (dg_of Z q0 (2 : Int32)) (dg_of Z q0 (3 : Int32))).trans (congrArg (fun q => q.toInt8.toInt32) (show (fn6 Z q0 (0 : Int32)) * 4 + (fn6 Z q0 (1 : Int32)) / 16 = fn9 Z (0 : Int32) (1 : Int32) q0 q1 from (Eq.symm (by unfold fn9; rw [if_pos (by decide : (0 : Int32) < ((3 : Int32) * (1 : Int32)))]; unfold fn10; rw [if_pos (by decide)]; rfl)))))
    | 1, _ => exact congrArg Value.int ((whole1 (dg_of Z q0 (0 : Int32)) (dg_of Z q0 (1 : Int32)) (dg_of Z q0 (2 : Int32)) (dg_of Z q0 (3 : Int32))).trans (congrArg (fun q => q.toInt8.toInt32) (show ((fn6 Z q0 (1 : Int32)) - ((fn6 Z q0 (1 : Int32)) / 16) * 16) * 16 + (fn6 Z q0 (2 : Int32)) / 4 = fn9 Z (1 : Int32) (1 : Int32) q0 q1 from (Eq.symm (by unfold fn9; rw [if_pos (by decide : (1 : Int32) < ((3 : Int32) * (1 : Int32)))]; unfold fn10; rw [if_neg (by decide), if_pos (by decide)]; rfl)))))
    | 2, _ => exact congrArg Value.int ((whole2 (dg_of Z q0 (0 : Int32)) (dg_of Z q0 (1 : Int32)) (dg_of Z q0 (2 : Int32)) (dg_of Z q0 (3 : Int32))).trans (congrArg (fun q => q.toInt8.toInt32) (show ((fn6 Z q0 (2 : Int32)) - ((fn6 Z q0 (2 : Int32)) / 4) * 4) * 64 + (fn6 Z q0 (3 : Int32)) = fn9 Z (2 : Int32) (1 : Int32) q0 q1 from (Eq.symm (by unfold fn9; rw [if_pos (by decide : (2 : Int32) < ((3 : Int32) * (1 : Int32)))]; unfold fn10; rw [if_neg (by decide), if_neg (by decide)]; rfl)))))
    | 3, _ => exact congrArg Value.int ((part2 (dg_of Z q1 (0 : Int32)) (dg_of Z q1 (1 : Int32))).trans (congrArg (fun q => q.toInt8.toInt32) (show (fn6 Z q1 (0 : Int32)) * 4 + (fn6 Z q1 (1 : Int32)) / 16 = fn9 Z (3 : Int32) (1 : Int32) q0 q1 from (Eq.symm (by unfold fn9; rw [if_neg (by decide : ¬ ((3 : Int32) < ((3 : Int32) * (1 : Int32)))), if_pos (by decide : ((3 : Int32) - ((3 : Int32) * (1 : Int32))) = (0 : Int32))]; try rfl)))))
    | 4, _ => exact absurd hz (by decide)
    | 5, _ => exact absurd hz (by decide)
    | 6, _ => exact absurd hz (by decide)
    | 7, _ => exact absurd hz (by decide)
  · have V1 : Arv Z h0 r0 k .byte (8 : Int32) [(.int ((fn1 Z (0 : Int32) (1 : Int32) (2 : Int32) q0 q1).toInt8.toInt32)), (.int ((fn1 Z (1 : Int32) (1 : Int32) (2 : Int32) q0 q1).toInt8.toInt32)), (.int ((fn1 Z (2 : Int32) (1 : Int32) (2 : Int32) q0 q1).toInt8.toInt32)), (.int ((fn1 Z (3 : Int32) (1 : Int32) (2 : Int32) q0 q1).toInt8.toInt32)), (.int ((fn1 Z (4 : Int32) (1 : Int32) (2 : Int32) q0 q1).toInt8.toInt32)), (.int ((fn1 Z (5 : Int32) (1 : Int32) (2 : Int32) q0 q1).toInt8.toInt32)), (.int ((fn1 Z (6 : Int32) (1 : Int32) (2 : Int32) q0 q1).toInt8.toInt32)), (.int ((fn1 Z (7 : Int32) (1 : Int32) (2 : Int32) q0 q1).toInt8.toInt32)), (.int ((fn1 Z (8 : Int32) (1 : Int32) (2 : Int32) q0 q1).toInt8.toInt32)), (.int ((fn1 Z (9 : Int32) (1 : Int32) (2 : Int32) q0 q1).toInt8.toInt32)), (.int ((fn1 Z (10 : Int32) (1 : Int32) (2 : Int32) q0 q1).toInt8.toInt32)), (.int ((fn1 Z (11 : Int32) (1 : Int32) (2 : Int32) q0 q1).toInt8.toInt32))] (.int 0) := V
    have eq0 : ((fn1 Z (0 : Int32) (1 : Int32) (2 : Int32) q0 q1).toInt8.toInt32) = (chv (fn6 Z q0 (0 : Int32))) := by unfold fn1; rw [if_pos (by decide : (0 : Int32) < ((4 : Int32) * (1 : Int32)))]; exact chv_bb (dg_of Z q0 (0 : Int32))
    have eq1 : ((fn1 Z (1 : Int32) (1 : Int32) (2 : Int32) q0 q1).toInt8.toInt32) = (chv (fn6 Z q0 (1 : Int32))) := by unfold fn1; rw [if_pos (by decide : (1 : Int32) < ((4 : Int32) * (1 : Int32)))]; exact chv_bb (dg_of Z q0 (1 : Int32))
    have eq2 : ((fn1 Z (2 : Int32) (1 : Int32) (2 : Int32) q0 q1).toInt8.toInt32) = (chv (fn6 Z q0 (2 : Int32))) := by unfold fn1; rw [if_pos (by decide : (2 : Int32) < ((4 : Int32) * (1 : Int32)))]; exact chv_bb (dg_of Z q0 (2 : Int32))
    have eq3 : ((fn1 Z (3 : Int32) (1 : Int32) (2 : Int32) q0 q1).toInt8.toInt32) = (chv (fn6 Z q0 (3 : Int32))) := by unfold fn1; rw [if_pos (by decide : (3 : Int32) < ((4 : Int32) * (1 : Int32)))]; exact chv_bb (dg_of Z q0 (3 : Int32))
    have eq4 : ((fn1 Z (4 : Int32) (1 : Int32) (2 : Int32) q0 q1).toInt8.toInt32) = (chv (fn6 Z q1 (0 : Int32))) := by unfold fn1; rw [if_neg (by decide : ¬ ((4 : Int32) < ((4 : Int32) * (1 : Int32)))), if_pos (by decide : (4 : Int32) < (((4 : Int32) * (1 : Int32)) + (2 : Int32)))]; exact chv_bb (dg_of Z q1 (0 : Int32))
    have eq5 : ((fn1 Z (5 : Int32) (1 : Int32) (2 : Int32) q0 q1).toInt8.toInt32) = (chv (fn6 Z q1 (1 : Int32))) := by unfold fn1; rw [if_neg (by decide : ¬ ((5 : Int32) < ((4 : Int32) * (1 : Int32)))), if_pos (by decide : (5 : Int32) < (((4 : Int32) * (1 : Int32)) + (2 : Int32)))]; exact chv_bb (dg_of Z q1 (1 : Int32))
    have eq6 : ((fn1 Z (6 : Int32) (1 : Int32) (2 : Int32) q0 q1).toInt8.toInt32) = (61 : Int32) := by unfold fn1; rw [if_neg (by decide : ¬ ((6 : Int32) < ((4 : Int32) * (1 : Int32)))), if_neg (by decide : ¬ ((6 : Int32) < (((4 : Int32) * (1 : Int32)) + (2 : Int32))))]; first | rfl | decide
    have eq7 : ((fn1 Z (7 : Int32) (1 : Int32) (2 : Int32) q0 q1).toInt8.toInt32) = (61 : Int32) := by unfold fn1; rw [if_neg (by decide : ¬ ((7 : Int32) < ((4 : Int32) * (1 : Int32)))), if_neg (by decide : ¬ ((7 : Int32) < (((4 : Int32) * (1 : Int32)) + (2 : Int32))))]; first | rfl | decide
    rw [eq0, eq1, eq2, eq3, eq4, eq5, eq6, eq7] at V1
    intro p e ha hc hk s m args below hf happ hP hK
    obtain ⟨n, o, z1, z2, z3, v, L, rfl, ⟨b, kb, rfl, N, K, nb, A⟩, hq⟩ := rm3x122 l Z a0 hw hS [] r0 k (fn6 Z q0 (0 : Int32)) (fn6 Z q0 (1 : Int32)) (fn6 Z q0 (2 : Int32)) (fn6 Z q0 (3 : Int32)) (fn6 Z q1 (0 : Int32)) (fn6 Z q1 (1 : Int32)) (.int ((fn1 Z (8 : Int32) (1 : Int32) (2 : Int32) q0 q1).toInt8.toInt32)) (.int ((fn1 Z (9 : Int32) (1 : Int32) (2 : Int32) q0 q1).toInt8.toInt32)) (.int ((fn1 Z (10 : Int32) (1 : Int32) (2 : Int32) q0 q1).toInt8.toInt32)) (.int ((fn1 Z (11 : Int32) (1 : Int32) (2 : Int32) q0 q1).toInt8.toInt32)) h0 n0 O0 V1 (dg_of Z q0 (0 : Int32)) (dg_of Z q0 (1 : Int32)) (dg_of Z q0 (2 : Int32)) (dg_of Z q0 (3 : Int32)) (dg_of Z q1 (0 : Int32)) (dg_of Z q1 (1 : Int32)) p e ha hc hk s m args below hf happ hP hK
    refine ⟨n, _, z1, z2, z3, _, L, rfl, ⟨b, kb, _, rfl, N, K, nb, A, fun i hi hz => ?_⟩, hq⟩
    match i, hi with
    | 0, _ => exact congrArg Value.int ((whole0 (dg_of Z q0 (0 : Int32)) (dg_of Z q0 (1 : Int32)) (dg_of Z q0 (2 : Int32)) (dg_of Z q0 (3 : Int32))).trans (congrArg (fun q => q.toInt8.toInt32) (show (fn6 Z q0 (0 : Int32)) * 4 + (fn6 Z q0 (1 : Int32)) / 16 = fn9 Z (0 : Int32) (1 : Int32) q0 q1 from (Eq.symm (by unfold fn9; rw [if_pos (by decide : (0 : Int32) < ((3 : Int32) * (1 : Int32)))]; unfold fn10; rw [if_pos (by decide)]; rfl)))))
    | 1, _ => exact congrArg Value.int ((whole1 (dg_of Z q0 (0 : Int32)) (dg_of Z q0 (1 : Int32)) (dg_of Z q0 (2 : Int32)) (dg_of Z q0 (3 : Int32))).trans (congrArg (fun q => q.toInt8.toInt32) (show ((fn6 Z q0 (1 : Int32)) - ((fn6 Z q0 (1 : Int32)) / 16) * 16) * 16 + (fn6 Z q0 (2 : Int32)) / 4 = fn9 Z (1 : Int32) (1 : Int32) q0 q1 from (Eq.symm (by unfold fn9; rw [if_pos (by decide : (1 : Int32) < ((3 : Int32) * (1 : Int32)))]; unfold fn10; rw [if_neg (by decide), if_pos (by decide)]; rfl)))))
    | 2, _ => exact congrArg Value.int ((whole2 (dg_of Z q0 (0 : Int32)) (dg_of Z q0 (1 : Int32)) (dg_of Z q0 (2 : Int32)) (dg_of Z q0 (3 : Int32))).trans (congrArg (fun q => q.toInt8.toInt32) (show ((fn6 Z q0 (2 : Int32)) - ((fn6 Z q0 (2 : Int32)) / 4) * 4) * 64 + (fn6 Z q0 (3 : Int32)) = fn9 Z (2 : Int32) (1 : Int32) q0 q1 from (Eq.symm (by unfold fn9; rw [if_pos (by decide : (2 : Int32) < ((3 : Int32) * (1 : Int32)))]; unfold fn10; rw [if_neg (by decide), if_neg (by decide)]; rfl)))))
    | 3, _ => exact congrArg Value.int ((part2 (dg_of Z q1 (0 : Int32)) (dg_of Z q1 (1 : Int32))).trans (congrArg (fun q => q.toInt8.toInt32) (show (fn6 Z q1 (0 : Int32)) * 4 + (fn6 Z q1 (1 : Int32)) / 16 = fn9 Z (3 : Int32) (1 : Int32) q0 q1 from (Eq.symm (by unfold fn9; rw [if_neg (by decide : ¬ ((3 : Int32) < ((3 : Int32) * (1 : Int32)))), if_pos (by decide : ((3 : Int32) - ((3 : Int32) * (1 : Int32))) = (0 : Int32))]; try rfl)))))
    | 4, _ => exact absurd hz (by decide)
    | 5, _ => exact absurd hz (by decide)
    | 6, _ => exact absurd hz (by decide)
    | 7, _ => exact absurd hz (by decide)
  · have V1 : Arv Z h0 r0 k .byte (7 : Int32) [(.int ((fn1 Z (0 : Int32) (1 : Int32) (3 : Int32) q0 q1).toInt8.toInt32)), (.int ((fn1 Z (1 : Int32) (1 : Int32) (3 : Int32) q0 q1).toInt8.toInt32)), (.int ((fn1 Z (2 : Int32) (1 : Int32) (3 : Int32) q0 q1).toInt8.toInt32)), (.int ((fn1 Z (3 : Int32) (1 : Int32) (3 : Int32) q0 q1).toInt8.toInt32)), (.int ((fn1 Z (4 : Int32) (1 : Int32) (3 : Int32) q0 q1).toInt8.toInt32)), (.int ((fn1 Z (5 : Int32) (1 : Int32) (3 : Int32) q0 q1).toInt8.toInt32)), (.int ((fn1 Z (6 : Int32) (1 : Int32) (3 : Int32) q0 q1).toInt8.toInt32)), (.int ((fn1 Z (7 : Int32) (1 : Int32) (3 : Int32) q0 q1).toInt8.toInt32)), (.int ((fn1 Z (8 : Int32) (1 : Int32) (3 : Int32) q0 q1).toInt8.toInt32)), (.int ((fn1 Z (9 : Int32) (1 : Int32) (3 : Int32) q0 q1).toInt8.toInt32)), (.int ((fn1 Z (10 : Int32) (1 : Int32) (3 : Int32) q0 q1).toInt8.toInt32)), (.int ((fn1 Z (11 : Int32) (1 : Int32) (3 : Int32) q0 q1).toInt8.toInt32))] (.int 0) := V
    have eq0 : ((fn1 Z (0 : Int32) (1 : Int32) (3 : Int32) q0 q1).toInt8.toInt32) = (chv (fn6 Z q0 (0 : Int32))) := by unfold fn1; rw [if_pos (by decide : (0 : Int32) < ((4 : Int32) * (1 : Int32)))]; exact chv_bb (dg_of Z q0 (0 : Int32))
    have eq1 : ((fn1 Z (1 : Int32) (1 : Int32) (3 : Int32) q0 q1).toInt8.toInt32) = (chv (fn6 Z q0 (1 : Int32))) := by unfold fn1; rw [if_pos (by decide : (1 : Int32) < ((4 : Int32) * (1 : Int32)))]; exact chv_bb (dg_of Z q0 (1 : Int32))
    have eq2 : ((fn1 Z (2 : Int32) (1 : Int32) (3 : Int32) q0 q1).toInt8.toInt32) = (chv (fn6 Z q0 (2 : Int32))) := by unfold fn1; rw [if_pos (by decide : (2 : Int32) < ((4 : Int32) * (1 : Int32)))]; exact chv_bb (dg_of Z q0 (2 : Int32))
    have eq3 : ((fn1 Z (3 : Int32) (1 : Int32) (3 : Int32) q0 q1).toInt8.toInt32) = (chv (fn6 Z q0 (3 : Int32))) := by unfold fn1; rw [if_pos (by decide : (3 : Int32) < ((4 : Int32) * (1 : Int32)))]; exact chv_bb (dg_of Z q0 (3 : Int32))
    have eq4 : ((fn1 Z (4 : Int32) (1 : Int32) (3 : Int32) q0 q1).toInt8.toInt32) = (chv (fn6 Z q1 (0 : Int32))) := by unfold fn1; rw [if_neg (by decide : ¬ ((4 : Int32) < ((4 : Int32) * (1 : Int32)))), if_pos (by decide : (4 : Int32) < (((4 : Int32) * (1 : Int32)) + (3 : Int32)))]; exact chv_bb (dg_of Z q1 (0 : Int32))
    have eq5 : ((fn1 Z (5 : Int32) (1 : Int32) (3 : Int32) q0 q1).toInt8.toInt32) = (chv (fn6 Z q1 (1 : Int32))) := by unfold fn1; rw [if_neg (by decide : ¬ ((5 : Int32) < ((4 : Int32) * (1 : Int32)))), if_pos (by decide : (5 : Int32) < (((4 : Int32) * (1 : Int32)) + (3 : Int32)))]; exact chv_bb (dg_of Z q1 (1 : Int32))
    have eq6 : ((fn1 Z (6 : Int32) (1 : Int32) (3 : Int32) q0 q1).toInt8.toInt32) = (chv (fn6 Z q1 (2 : Int32))) := by unfold fn1; rw [if_neg (by decide : ¬ ((6 : Int32) < ((4 : Int32) * (1 : Int32)))), if_pos (by decide : (6 : Int32) < (((4 : Int32) * (1 : Int32)) + (3 : Int32)))]; exact chv_bb (dg_of Z q1 (2 : Int32))
    rw [eq0, eq1, eq2, eq3, eq4, eq5, eq6] at V1
    intro p e ha hc hk s m args below hf happ hP hK
    obtain ⟨n, o, z1, z2, z3, v, L, rfl, ⟨b, kb, rfl, N, K, nb, A⟩, hq⟩ := rm3x130 l Z a0 hw hS [] r0 k (fn6 Z q0 (0 : Int32)) (fn6 Z q0 (1 : Int32)) (fn6 Z q0 (2 : Int32)) (fn6 Z q0 (3 : Int32)) (fn6 Z q1 (0 : Int32)) (fn6 Z q1 (1 : Int32)) (fn6 Z q1 (2 : Int32)) (.int ((fn1 Z (7 : Int32) (1 : Int32) (3 : Int32) q0 q1).toInt8.toInt32)) (.int ((fn1 Z (8 : Int32) (1 : Int32) (3 : Int32) q0 q1).toInt8.toInt32)) (.int ((fn1 Z (9 : Int32) (1 : Int32) (3 : Int32) q0 q1).toInt8.toInt32)) (.int ((fn1 Z (10 : Int32) (1 : Int32) (3 : Int32) q0 q1).toInt8.toInt32)) (.int ((fn1 Z (11 : Int32) (1 : Int32) (3 : Int32) q0 q1).toInt8.toInt32)) h0 n0 O0 V1 (dg_of Z q0 (0 : Int32)) (dg_of Z q0 (1 : Int32)) (dg_of Z q0 (2 : Int32)) (dg_of Z q0 (3 : Int32)) (dg_of Z q1 (0 : Int32)) (dg_of Z q1 (1 : Int32)) (dg_of Z q1 (2 : Int32)) p e ha hc hk s m args below hf happ hP hK
    refine ⟨n, _, z1, z2, z3, _, L, rfl, ⟨b, kb, _, rfl, N, K, nb, A, fun i hi hz => ?_⟩, hq⟩
    match i, hi with
    | 0, _ => exact congrArg Value.int ((whole0 (dg_of Z q0 (0 : Int32)) (dg_of Z q0 (1 : Int32)) (dg_of Z q0 (2 : Int32)) (dg_of Z q0 (3 : Int32))).trans (congrArg (fun q => q.toInt8.toInt32) (show (fn6 Z q0 (0 : Int32)) * 4 + (fn6 Z q0 (1 : Int32)) / 16 = fn9 Z (0 : Int32) (1 : Int32) q0 q1 from (Eq.symm (by unfold fn9; rw [if_pos (by decide : (0 : Int32) < ((3 : Int32) * (1 : Int32)))]; unfold fn10; rw [if_pos (by decide)]; rfl)))))
    | 1, _ => exact congrArg Value.int ((whole1 (dg_of Z q0 (0 : Int32)) (dg_of Z q0 (1 : Int32)) (dg_of Z q0 (2 : Int32)) (dg_of Z q0 (3 : Int32))).trans (congrArg (fun q => q.toInt8.toInt32) (show ((fn6 Z q0 (1 : Int32)) - ((fn6 Z q0 (1 : Int32)) / 16) * 16) * 16 + (fn6 Z q0 (2 : Int32)) / 4 = fn9 Z (1 : Int32) (1 : Int32) q0 q1 from (Eq.symm (by unfold fn9; rw [if_pos (by decide : (1 : Int32) < ((3 : Int32) * (1 : Int32)))]; unfold fn10; rw [if_neg (by decide), if_pos (by decide)]; rfl)))))
    | 2, _ => exact congrArg Value.int ((whole2 (dg_of Z q0 (0 : Int32)) (dg_of Z q0 (1 : Int32)) (dg_of Z q0 (2 : Int32)) (dg_of Z q0 (3 : Int32))).trans (congrArg (fun q => q.toInt8.toInt32) (show ((fn6 Z q0 (2 : Int32)) - ((fn6 Z q0 (2 : Int32)) / 4) * 4) * 64 + (fn6 Z q0 (3 : Int32)) = fn9 Z (2 : Int32) (1 : Int32) q0 q1 from (Eq.symm (by unfold fn9; rw [if_pos (by decide : (2 : Int32) < ((3 : Int32) * (1 : Int32)))]; unfold fn10; rw [if_neg (by decide), if_neg (by decide)]; rfl)))))
    | 3, _ => exact congrArg Value.int ((part30 (dg_of Z q1 (0 : Int32)) (dg_of Z q1 (1 : Int32)) (dg_of Z q1 (2 : Int32))).trans (congrArg (fun q => q.toInt8.toInt32) (show (fn6 Z q1 (0 : Int32)) * 4 + (fn6 Z q1 (1 : Int32)) / 16 = fn9 Z (3 : Int32) (1 : Int32) q0 q1 from (Eq.symm (by unfold fn9; rw [if_neg (by decide : ¬ ((3 : Int32) < ((3 : Int32) * (1 : Int32)))), if_pos (by decide : ((3 : Int32) - ((3 : Int32) * (1 : Int32))) = (0 : Int32))]; try rfl)))))
    | 4, _ => exact congrArg Value.int ((part31 (dg_of Z q1 (0 : Int32)) (dg_of Z q1 (1 : Int32)) (dg_of Z q1 (2 : Int32))).trans (congrArg (fun q => q.toInt8.toInt32) (show ((fn6 Z q1 (1 : Int32)) - ((fn6 Z q1 (1 : Int32)) / 16) * 16) * 16 + (fn6 Z q1 (2 : Int32)) / 4 = fn9 Z (4 : Int32) (1 : Int32) q0 q1 from (Eq.symm (by unfold fn9; rw [if_neg (by decide : ¬ ((4 : Int32) < ((3 : Int32) * (1 : Int32)))), if_neg (by decide : ¬ (((4 : Int32) - ((3 : Int32) * (1 : Int32))) = (0 : Int32)))]; try rfl)))))
    | 5, _ => exact absurd hz (by decide)
    | 6, _ => exact absurd hz (by decide)
    | 7, _ => exact absurd hz (by decide)
  · have V1 : Arv Z h0 r0 k .byte (8 : Int32) [(.int ((fn1 Z (0 : Int32) (1 : Int32) (3 : Int32) q0 q1).toInt8.toInt32)), (.int ((fn1 Z (1 : Int32) (1 : Int32) (3 : Int32) q0 q1).toInt8.toInt32)), (.int ((fn1 Z (2 : Int32) (1 : Int32) (3 : Int32) q0 q1).toInt8.toInt32)), (.int ((fn1 Z (3 : Int32) (1 : Int32) (3 : Int32) q0 q1).toInt8.toInt32)), (.int ((fn1 Z (4 : Int32) (1 : Int32) (3 : Int32) q0 q1).toInt8.toInt32)), (.int ((fn1 Z (5 : Int32) (1 : Int32) (3 : Int32) q0 q1).toInt8.toInt32)), (.int ((fn1 Z (6 : Int32) (1 : Int32) (3 : Int32) q0 q1).toInt8.toInt32)), (.int ((fn1 Z (7 : Int32) (1 : Int32) (3 : Int32) q0 q1).toInt8.toInt32)), (.int ((fn1 Z (8 : Int32) (1 : Int32) (3 : Int32) q0 q1).toInt8.toInt32)), (.int ((fn1 Z (9 : Int32) (1 : Int32) (3 : Int32) q0 q1).toInt8.toInt32)), (.int ((fn1 Z (10 : Int32) (1 : Int32) (3 : Int32) q0 q1).toInt8.toInt32)), (.int ((fn1 Z (11 : Int32) (1 : Int32) (3 : Int32) q0 q1).toInt8.toInt32))] (.int 0) := V
    have eq0 : ((fn1 Z (0 : Int32) (1 : Int32) (3 : Int32) q0 q1).toInt8.toInt32) = (chv (fn6 Z q0 (0 : Int32))) := by unfold fn1; rw [if_pos (by decide : (0 : Int32) < ((4 : Int32) * (1 : Int32)))]; exact chv_bb (dg_of Z q0 (0 : Int32))
    have eq1 : ((fn1 Z (1 : Int32) (1 : Int32) (3 : Int32) q0 q1).toInt8.toInt32) = (chv (fn6 Z q0 (1 : Int32))) := by unfold fn1; rw [if_pos (by decide : (1 : Int32) < ((4 : Int32) * (1 : Int32)))]; exact chv_bb (dg_of Z q0 (1 : Int32))
    have eq2 : ((fn1 Z (2 : Int32) (1 : Int32) (3 : Int32) q0 q1).toInt8.toInt32) = (chv (fn6 Z q0 (2 : Int32))) := by unfold fn1; rw [if_pos (by decide : (2 : Int32) < ((4 : Int32) * (1 : Int32)))]; exact chv_bb (dg_of Z q0 (2 : Int32))
    have eq3 : ((fn1 Z (3 : Int32) (1 : Int32) (3 : Int32) q0 q1).toInt8.toInt32) = (chv (fn6 Z q0 (3 : Int32))) := by unfold fn1; rw [if_pos (by decide : (3 : Int32) < ((4 : Int32) * (1 : Int32)))]; exact chv_bb (dg_of Z q0 (3 : Int32))
    have eq4 : ((fn1 Z (4 : Int32) (1 : Int32) (3 : Int32) q0 q1).toInt8.toInt32) = (chv (fn6 Z q1 (0 : Int32))) := by unfold fn1; rw [if_neg (by decide : ¬ ((4 : Int32) < ((4 : Int32) * (1 : Int32)))), if_pos (by decide : (4 : Int32) < (((4 : Int32) * (1 : Int32)) + (3 : Int32)))]; exact chv_bb (dg_of Z q1 (0 : Int32))
    have eq5 : ((fn1 Z (5 : Int32) (1 : Int32) (3 : Int32) q0 q1).toInt8.toInt32) = (chv (fn6 Z q1 (1 : Int32))) := by unfold fn1; rw [if_neg (by decide : ¬ ((5 : Int32) < ((4 : Int32) * (1 : Int32)))), if_pos (by decide : (5 : Int32) < (((4 : Int32) * (1 : Int32)) + (3 : Int32)))]; exact chv_bb (dg_of Z q1 (1 : Int32))
    have eq6 : ((fn1 Z (6 : Int32) (1 : Int32) (3 : Int32) q0 q1).toInt8.toInt32) = (chv (fn6 Z q1 (2 : Int32))) := by unfold fn1; rw [if_neg (by decide : ¬ ((6 : Int32) < ((4 : Int32) * (1 : Int32)))), if_pos (by decide : (6 : Int32) < (((4 : Int32) * (1 : Int32)) + (3 : Int32)))]; exact chv_bb (dg_of Z q1 (2 : Int32))
    have eq7 : ((fn1 Z (7 : Int32) (1 : Int32) (3 : Int32) q0 q1).toInt8.toInt32) = (61 : Int32) := by unfold fn1; rw [if_neg (by decide : ¬ ((7 : Int32) < ((4 : Int32) * (1 : Int32)))), if_neg (by decide : ¬ ((7 : Int32) < (((4 : Int32) * (1 : Int32)) + (3 : Int32))))]; first | rfl | decide
    rw [eq0, eq1, eq2, eq3, eq4, eq5, eq6, eq7] at V1
    intro p e ha hc hk s m args below hf happ hP hK
    obtain ⟨n, o, z1, z2, z3, v, L, rfl, ⟨b, kb, rfl, N, K, nb, A⟩, hq⟩ := rm3x131 l Z a0 hw hS [] r0 k (fn6 Z q0 (0 : Int32)) (fn6 Z q0 (1 : Int32)) (fn6 Z q0 (2 : Int32)) (fn6 Z q0 (3 : Int32)) (fn6 Z q1 (0 : Int32)) (fn6 Z q1 (1 : Int32)) (fn6 Z q1 (2 : Int32)) (.int ((fn1 Z (8 : Int32) (1 : Int32) (3 : Int32) q0 q1).toInt8.toInt32)) (.int ((fn1 Z (9 : Int32) (1 : Int32) (3 : Int32) q0 q1).toInt8.toInt32)) (.int ((fn1 Z (10 : Int32) (1 : Int32) (3 : Int32) q0 q1).toInt8.toInt32)) (.int ((fn1 Z (11 : Int32) (1 : Int32) (3 : Int32) q0 q1).toInt8.toInt32)) h0 n0 O0 V1 (dg_of Z q0 (0 : Int32)) (dg_of Z q0 (1 : Int32)) (dg_of Z q0 (2 : Int32)) (dg_of Z q0 (3 : Int32)) (dg_of Z q1 (0 : Int32)) (dg_of Z q1 (1 : Int32)) (dg_of Z q1 (2 : Int32)) p e ha hc hk s m args below hf happ hP hK
    refine ⟨n, _, z1, z2, z3, _, L, rfl, ⟨b, kb, _, rfl, N, K, nb, A, fun i hi hz => ?_⟩, hq⟩
    match i, hi with
    | 0, _ => exact congrArg Value.int ((whole0 (dg_of Z q0 (0 : Int32)) (dg_of Z q0 (1 : Int32)) (dg_of Z q0 (2 : Int32)) (dg_of Z q0 (3 : Int32))).trans (congrArg (fun q => q.toInt8.toInt32) (show (fn6 Z q0 (0 : Int32)) * 4 + (fn6 Z q0 (1 : Int32)) / 16 = fn9 Z (0 : Int32) (1 : Int32) q0 q1 from (Eq.symm (by unfold fn9; rw [if_pos (by decide : (0 : Int32) < ((3 : Int32) * (1 : Int32)))]; unfold fn10; rw [if_pos (by decide)]; rfl)))))
    | 1, _ => exact congrArg Value.int ((whole1 (dg_of Z q0 (0 : Int32)) (dg_of Z q0 (1 : Int32)) (dg_of Z q0 (2 : Int32)) (dg_of Z q0 (3 : Int32))).trans (congrArg (fun q => q.toInt8.toInt32) (show ((fn6 Z q0 (1 : Int32)) - ((fn6 Z q0 (1 : Int32)) / 16) * 16) * 16 + (fn6 Z q0 (2 : Int32)) / 4 = fn9 Z (1 : Int32) (1 : Int32) q0 q1 from (Eq.symm (by unfold fn9; rw [if_pos (by decide : (1 : Int32) < ((3 : Int32) * (1 : Int32)))]; unfold fn10; rw [if_neg (by decide), if_pos (by decide)]; rfl)))))
    | 2, _ => exact congrArg Value.int ((whole2 (dg_of Z q0 (0 : Int32)) (dg_of Z q0 (1 : Int32)) (dg_of Z q0 (2 : Int32)) (dg_of Z q0 (3 : Int32))).trans (congrArg (fun q => q.toInt8.toInt32) (show ((fn6 Z q0 (2 : Int32)) - ((fn6 Z q0 (2 : Int32)) / 4) * 4) * 64 + (fn6 Z q0 (3 : Int32)) = fn9 Z (2 : Int32) (1 : Int32) q0 q1 from (Eq.symm (by unfold fn9; rw [if_pos (by decide : (2 : Int32) < ((3 : Int32) * (1 : Int32)))]; unfold fn10; rw [if_neg (by decide), if_neg (by decide)]; rfl)))))
    | 3, _ => exact congrArg Value.int ((part30 (dg_of Z q1 (0 : Int32)) (dg_of Z q1 (1 : Int32)) (dg_of Z q1 (2 : Int32))).trans (congrArg (fun q => q.toInt8.toInt32) (show (fn6 Z q1 (0 : Int32)) * 4 + (fn6 Z q1 (1 : Int32)) / 16 = fn9 Z (3 : Int32) (1 : Int32) q0 q1 from (Eq.symm (by unfold fn9; rw [if_neg (by decide : ¬ ((3 : Int32) < ((3 : Int32) * (1 : Int32)))), if_pos (by decide : ((3 : Int32) - ((3 : Int32) * (1 : Int32))) = (0 : Int32))]; try rfl)))))
    | 4, _ => exact congrArg Value.int ((part31 (dg_of Z q1 (0 : Int32)) (dg_of Z q1 (1 : Int32)) (dg_of Z q1 (2 : Int32))).trans (congrArg (fun q => q.toInt8.toInt32) (show ((fn6 Z q1 (1 : Int32)) - ((fn6 Z q1 (1 : Int32)) / 16) * 16) * 16 + (fn6 Z q1 (2 : Int32)) / 4 = fn9 Z (4 : Int32) (1 : Int32) q0 q1 from (Eq.symm (by unfold fn9; rw [if_neg (by decide : ¬ ((4 : Int32) < ((3 : Int32) * (1 : Int32)))), if_neg (by decide : ¬ (((4 : Int32) - ((3 : Int32) * (1 : Int32))) = (0 : Int32)))]; try rfl)))))
    | 5, _ => exact absurd hz (by decide)
    | 6, _ => exact absurd hz (by decide)
    | 7, _ => exact absurd hz (by decide)
  · have V1 : Arv Z h0 r0 k .byte (8 : Int32) [(.int ((fn1 Z (0 : Int32) (2 : Int32) (0 : Int32) q0 q1).toInt8.toInt32)), (.int ((fn1 Z (1 : Int32) (2 : Int32) (0 : Int32) q0 q1).toInt8.toInt32)), (.int ((fn1 Z (2 : Int32) (2 : Int32) (0 : Int32) q0 q1).toInt8.toInt32)), (.int ((fn1 Z (3 : Int32) (2 : Int32) (0 : Int32) q0 q1).toInt8.toInt32)), (.int ((fn1 Z (4 : Int32) (2 : Int32) (0 : Int32) q0 q1).toInt8.toInt32)), (.int ((fn1 Z (5 : Int32) (2 : Int32) (0 : Int32) q0 q1).toInt8.toInt32)), (.int ((fn1 Z (6 : Int32) (2 : Int32) (0 : Int32) q0 q1).toInt8.toInt32)), (.int ((fn1 Z (7 : Int32) (2 : Int32) (0 : Int32) q0 q1).toInt8.toInt32)), (.int ((fn1 Z (8 : Int32) (2 : Int32) (0 : Int32) q0 q1).toInt8.toInt32)), (.int ((fn1 Z (9 : Int32) (2 : Int32) (0 : Int32) q0 q1).toInt8.toInt32)), (.int ((fn1 Z (10 : Int32) (2 : Int32) (0 : Int32) q0 q1).toInt8.toInt32)), (.int ((fn1 Z (11 : Int32) (2 : Int32) (0 : Int32) q0 q1).toInt8.toInt32))] (.int 0) := V
    have eq0 : ((fn1 Z (0 : Int32) (2 : Int32) (0 : Int32) q0 q1).toInt8.toInt32) = (chv (fn6 Z q0 (0 : Int32))) := by unfold fn1; rw [if_pos (by decide : (0 : Int32) < ((4 : Int32) * (2 : Int32)))]; exact chv_bb (dg_of Z q0 (0 : Int32))
    have eq1 : ((fn1 Z (1 : Int32) (2 : Int32) (0 : Int32) q0 q1).toInt8.toInt32) = (chv (fn6 Z q0 (1 : Int32))) := by unfold fn1; rw [if_pos (by decide : (1 : Int32) < ((4 : Int32) * (2 : Int32)))]; exact chv_bb (dg_of Z q0 (1 : Int32))
    have eq2 : ((fn1 Z (2 : Int32) (2 : Int32) (0 : Int32) q0 q1).toInt8.toInt32) = (chv (fn6 Z q0 (2 : Int32))) := by unfold fn1; rw [if_pos (by decide : (2 : Int32) < ((4 : Int32) * (2 : Int32)))]; exact chv_bb (dg_of Z q0 (2 : Int32))
    have eq3 : ((fn1 Z (3 : Int32) (2 : Int32) (0 : Int32) q0 q1).toInt8.toInt32) = (chv (fn6 Z q0 (3 : Int32))) := by unfold fn1; rw [if_pos (by decide : (3 : Int32) < ((4 : Int32) * (2 : Int32)))]; exact chv_bb (dg_of Z q0 (3 : Int32))
    have eq4 : ((fn1 Z (4 : Int32) (2 : Int32) (0 : Int32) q0 q1).toInt8.toInt32) = (chv (fn6 Z q0 (4 : Int32))) := by unfold fn1; rw [if_pos (by decide : (4 : Int32) < ((4 : Int32) * (2 : Int32)))]; exact chv_bb (dg_of Z q0 (4 : Int32))
    have eq5 : ((fn1 Z (5 : Int32) (2 : Int32) (0 : Int32) q0 q1).toInt8.toInt32) = (chv (fn6 Z q0 (5 : Int32))) := by unfold fn1; rw [if_pos (by decide : (5 : Int32) < ((4 : Int32) * (2 : Int32)))]; exact chv_bb (dg_of Z q0 (5 : Int32))
    have eq6 : ((fn1 Z (6 : Int32) (2 : Int32) (0 : Int32) q0 q1).toInt8.toInt32) = (chv (fn6 Z q0 (6 : Int32))) := by unfold fn1; rw [if_pos (by decide : (6 : Int32) < ((4 : Int32) * (2 : Int32)))]; exact chv_bb (dg_of Z q0 (6 : Int32))
    have eq7 : ((fn1 Z (7 : Int32) (2 : Int32) (0 : Int32) q0 q1).toInt8.toInt32) = (chv (fn6 Z q0 (7 : Int32))) := by unfold fn1; rw [if_pos (by decide : (7 : Int32) < ((4 : Int32) * (2 : Int32)))]; exact chv_bb (dg_of Z q0 (7 : Int32))
    rw [eq0, eq1, eq2, eq3, eq4, eq5, eq6, eq7] at V1
    intro p e ha hc hk s m args below hf happ hP hK
    obtain ⟨n, o, z1, z2, z3, v, L, rfl, ⟨b, kb, rfl, N, K, nb, A⟩, hq⟩ := rm3x200 l Z a0 hw hS [] r0 k (fn6 Z q0 (0 : Int32)) (fn6 Z q0 (1 : Int32)) (fn6 Z q0 (2 : Int32)) (fn6 Z q0 (3 : Int32)) (fn6 Z q0 (4 : Int32)) (fn6 Z q0 (5 : Int32)) (fn6 Z q0 (6 : Int32)) (fn6 Z q0 (7 : Int32)) (.int ((fn1 Z (8 : Int32) (2 : Int32) (0 : Int32) q0 q1).toInt8.toInt32)) (.int ((fn1 Z (9 : Int32) (2 : Int32) (0 : Int32) q0 q1).toInt8.toInt32)) (.int ((fn1 Z (10 : Int32) (2 : Int32) (0 : Int32) q0 q1).toInt8.toInt32)) (.int ((fn1 Z (11 : Int32) (2 : Int32) (0 : Int32) q0 q1).toInt8.toInt32)) h0 n0 O0 V1 (dg_of Z q0 (0 : Int32)) (dg_of Z q0 (1 : Int32)) (dg_of Z q0 (2 : Int32)) (dg_of Z q0 (3 : Int32)) (dg_of Z q0 (4 : Int32)) (dg_of Z q0 (5 : Int32)) (dg_of Z q0 (6 : Int32)) (dg_of Z q0 (7 : Int32)) p e ha hc hk s m args below hf happ hP hK
    refine ⟨n, _, z1, z2, z3, _, L, rfl, ⟨b, kb, _, rfl, N, K, nb, A, fun i hi hz => ?_⟩, hq⟩
    match i, hi with
    | 0, _ => exact congrArg Value.int ((whole0 (dg_of Z q0 (0 : Int32)) (dg_of Z q0 (1 : Int32)) (dg_of Z q0 (2 : Int32)) (dg_of Z q0 (3 : Int32))).trans (congrArg (fun q => q.toInt8.toInt32) (show (fn6 Z q0 (0 : Int32)) * 4 + (fn6 Z q0 (1 : Int32)) / 16 = fn9 Z (0 : Int32) (2 : Int32) q0 q1 from (Eq.symm (by unfold fn9; rw [if_pos (by decide : (0 : Int32) < ((3 : Int32) * (2 : Int32)))]; unfold fn10; rw [if_pos (by decide)]; rfl)))))
    | 1, _ => exact congrArg Value.int ((whole1 (dg_of Z q0 (0 : Int32)) (dg_of Z q0 (1 : Int32)) (dg_of Z q0 (2 : Int32)) (dg_of Z q0 (3 : Int32))).trans (congrArg (fun q => q.toInt8.toInt32) (show ((fn6 Z q0 (1 : Int32)) - ((fn6 Z q0 (1 : Int32)) / 16) * 16) * 16 + (fn6 Z q0 (2 : Int32)) / 4 = fn9 Z (1 : Int32) (2 : Int32) q0 q1 from (Eq.symm (by unfold fn9; rw [if_pos (by decide : (1 : Int32) < ((3 : Int32) * (2 : Int32)))]; unfold fn10; rw [if_neg (by decide), if_pos (by decide)]; rfl)))))
    | 2, _ => exact congrArg Value.int ((whole2 (dg_of Z q0 (0 : Int32)) (dg_of Z q0 (1 : Int32)) (dg_of Z q0 (2 : Int32)) (dg_of Z q0 (3 : Int32))).trans (congrArg (fun q => q.toInt8.toInt32) (show ((fn6 Z q0 (2 : Int32)) - ((fn6 Z q0 (2 : Int32)) / 4) * 4) * 64 + (fn6 Z q0 (3 : Int32)) = fn9 Z (2 : Int32) (2 : Int32) q0 q1 from (Eq.symm (by unfold fn9; rw [if_pos (by decide : (2 : Int32) < ((3 : Int32) * (2 : Int32)))]; unfold fn10; rw [if_neg (by decide), if_neg (by decide)]; rfl)))))
    | 3, _ => exact congrArg Value.int ((whole0 (dg_of Z q0 (4 : Int32)) (dg_of Z q0 (5 : Int32)) (dg_of Z q0 (6 : Int32)) (dg_of Z q0 (7 : Int32))).trans (congrArg (fun q => q.toInt8.toInt32) (show (fn6 Z q0 (4 : Int32)) * 4 + (fn6 Z q0 (5 : Int32)) / 16 = fn9 Z (3 : Int32) (2 : Int32) q0 q1 from (Eq.symm (by unfold fn9; rw [if_pos (by decide : (3 : Int32) < ((3 : Int32) * (2 : Int32)))]; unfold fn10; rw [if_pos (by decide)]; rfl)))))
    | 4, _ => exact congrArg Value.int ((whole1 (dg_of Z q0 (4 : Int32)) (dg_of Z q0 (5 : Int32)) (dg_of Z q0 (6 : Int32)) (dg_of Z q0 (7 : Int32))).trans (congrArg (fun q => q.toInt8.toInt32) (show ((fn6 Z q0 (5 : Int32)) - ((fn6 Z q0 (5 : Int32)) / 16) * 16) * 16 + (fn6 Z q0 (6 : Int32)) / 4 = fn9 Z (4 : Int32) (2 : Int32) q0 q1 from (Eq.symm (by unfold fn9; rw [if_pos (by decide : (4 : Int32) < ((3 : Int32) * (2 : Int32)))]; unfold fn10; rw [if_neg (by decide), if_pos (by decide)]; rfl)))))
    | 5, _ => exact congrArg Value.int ((whole2 (dg_of Z q0 (4 : Int32)) (dg_of Z q0 (5 : Int32)) (dg_of Z q0 (6 : Int32)) (dg_of Z q0 (7 : Int32))).trans (congrArg (fun q => q.toInt8.toInt32) (show ((fn6 Z q0 (6 : Int32)) - ((fn6 Z q0 (6 : Int32)) / 4) * 4) * 64 + (fn6 Z q0 (7 : Int32)) = fn9 Z (5 : Int32) (2 : Int32) q0 q1 from (Eq.symm (by unfold fn9; rw [if_pos (by decide : (5 : Int32) < ((3 : Int32) * (2 : Int32)))]; unfold fn10; rw [if_neg (by decide), if_neg (by decide)]; rfl)))))
    | 6, _ => exact absurd hz (by decide)
    | 7, _ => exact absurd hz (by decide)
  · have V1 : Arv Z h0 r0 k .byte (10 : Int32) [(.int ((fn1 Z (0 : Int32) (2 : Int32) (2 : Int32) q0 q1).toInt8.toInt32)), (.int ((fn1 Z (1 : Int32) (2 : Int32) (2 : Int32) q0 q1).toInt8.toInt32)), (.int ((fn1 Z (2 : Int32) (2 : Int32) (2 : Int32) q0 q1).toInt8.toInt32)), (.int ((fn1 Z (3 : Int32) (2 : Int32) (2 : Int32) q0 q1).toInt8.toInt32)), (.int ((fn1 Z (4 : Int32) (2 : Int32) (2 : Int32) q0 q1).toInt8.toInt32)), (.int ((fn1 Z (5 : Int32) (2 : Int32) (2 : Int32) q0 q1).toInt8.toInt32)), (.int ((fn1 Z (6 : Int32) (2 : Int32) (2 : Int32) q0 q1).toInt8.toInt32)), (.int ((fn1 Z (7 : Int32) (2 : Int32) (2 : Int32) q0 q1).toInt8.toInt32)), (.int ((fn1 Z (8 : Int32) (2 : Int32) (2 : Int32) q0 q1).toInt8.toInt32)), (.int ((fn1 Z (9 : Int32) (2 : Int32) (2 : Int32) q0 q1).toInt8.toInt32)), (.int ((fn1 Z (10 : Int32) (2 : Int32) (2 : Int32) q0 q1).toInt8.toInt32)), (.int ((fn1 Z (11 : Int32) (2 : Int32) (2 : Int32) q0 q1).toInt8.toInt32))] (.int 0) := V
    have eq0 : ((fn1 Z (0 : Int32) (2 : Int32) (2 : Int32) q0 q1).toInt8.toInt32) = (chv (fn6 Z q0 (0 : Int32))) := by unfold fn1; rw [if_pos (by decide : (0 : Int32) < ((4 : Int32) * (2 : Int32)))]; exact chv_bb (dg_of Z q0 (0 : Int32))
    have eq1 : ((fn1 Z (1 : Int32) (2 : Int32) (2 : Int32) q0 q1).toInt8.toInt32) = (chv (fn6 Z q0 (1 : Int32))) := by unfold fn1; rw [if_pos (by decide : (1 : Int32) < ((4 : Int32) * (2 : Int32)))]; exact chv_bb (dg_of Z q0 (1 : Int32))
    have eq2 : ((fn1 Z (2 : Int32) (2 : Int32) (2 : Int32) q0 q1).toInt8.toInt32) = (chv (fn6 Z q0 (2 : Int32))) := by unfold fn1; rw [if_pos (by decide : (2 : Int32) < ((4 : Int32) * (2 : Int32)))]; exact chv_bb (dg_of Z q0 (2 : Int32))
    have eq3 : ((fn1 Z (3 : Int32) (2 : Int32) (2 : Int32) q0 q1).toInt8.toInt32) = (chv (fn6 Z q0 (3 : Int32))) := by unfold fn1; rw [if_pos (by decide : (3 : Int32) < ((4 : Int32) * (2 : Int32)))]; exact chv_bb (dg_of Z q0 (3 : Int32))
    have eq4 : ((fn1 Z (4 : Int32) (2 : Int32) (2 : Int32) q0 q1).toInt8.toInt32) = (chv (fn6 Z q0 (4 : Int32))) := by unfold fn1; rw [if_pos (by decide : (4 : Int32) < ((4 : Int32) * (2 : Int32)))]; exact chv_bb (dg_of Z q0 (4 : Int32))
    have eq5 : ((fn1 Z (5 : Int32) (2 : Int32) (2 : Int32) q0 q1).toInt8.toInt32) = (chv (fn6 Z q0 (5 : Int32))) := by unfold fn1; rw [if_pos (by decide : (5 : Int32) < ((4 : Int32) * (2 : Int32)))]; exact chv_bb (dg_of Z q0 (5 : Int32))
    have eq6 : ((fn1 Z (6 : Int32) (2 : Int32) (2 : Int32) q0 q1).toInt8.toInt32) = (chv (fn6 Z q0 (6 : Int32))) := by unfold fn1; rw [if_pos (by decide : (6 : Int32) < ((4 : Int32) * (2 : Int32)))]; exact chv_bb (dg_of Z q0 (6 : Int32))
    have eq7 : ((fn1 Z (7 : Int32) (2 : Int32) (2 : Int32) q0 q1).toInt8.toInt32) = (chv (fn6 Z q0 (7 : Int32))) := by unfold fn1; rw [if_pos (by decide : (7 : Int32) < ((4 : Int32) * (2 : Int32)))]; exact chv_bb (dg_of Z q0 (7 : Int32))
    have eq8 : ((fn1 Z (8 : Int32) (2 : Int32) (2 : Int32) q0 q1).toInt8.toInt32) = (chv (fn6 Z q1 (0 : Int32))) := by unfold fn1; rw [if_neg (by decide : ¬ ((8 : Int32) < ((4 : Int32) * (2 : Int32)))), if_pos (by decide : (8 : Int32) < (((4 : Int32) * (2 : Int32)) + (2 : Int32)))]; exact chv_bb (dg_of Z q1 (0 : Int32))
    have eq9 : ((fn1 Z (9 : Int32) (2 : Int32) (2 : Int32) q0 q1).toInt8.toInt32) = (chv (fn6 Z q1 (1 : Int32))) := by unfold fn1; rw [if_neg (by decide : ¬ ((9 : Int32) < ((4 : Int32) * (2 : Int32)))), if_pos (by decide : (9 : Int32) < (((4 : Int32) * (2 : Int32)) + (2 : Int32)))]; exact chv_bb (dg_of Z q1 (1 : Int32))
    rw [eq0, eq1, eq2, eq3, eq4, eq5, eq6, eq7, eq8, eq9] at V1
    intro p e ha hc hk s m args below hf happ hP hK
    obtain ⟨n, o, z1, z2, z3, v, L, rfl, ⟨b, kb, rfl, N, K, nb, A⟩, hq⟩ := rm3x220 l Z a0 hw hS [] r0 k (fn6 Z q0 (0 : Int32)) (fn6 Z q0 (1 : Int32)) (fn6 Z q0 (2 : Int32)) (fn6 Z q0 (3 : Int32)) (fn6 Z q0 (4 : Int32)) (fn6 Z q0 (5 : Int32)) (fn6 Z q0 (6 : Int32)) (fn6 Z q0 (7 : Int32)) (fn6 Z q1 (0 : Int32)) (fn6 Z q1 (1 : Int32)) (.int ((fn1 Z (10 : Int32) (2 : Int32) (2 : Int32) q0 q1).toInt8.toInt32)) (.int ((fn1 Z (11 : Int32) (2 : Int32) (2 : Int32) q0 q1).toInt8.toInt32)) h0 n0 O0 V1 (dg_of Z q0 (0 : Int32)) (dg_of Z q0 (1 : Int32)) (dg_of Z q0 (2 : Int32)) (dg_of Z q0 (3 : Int32)) (dg_of Z q0 (4 : Int32)) (dg_of Z q0 (5 : Int32)) (dg_of Z q0 (6 : Int32)) (dg_of Z q0 (7 : Int32)) (dg_of Z q1 (0 : Int32)) (dg_of Z q1 (1 : Int32)) p e ha hc hk s m args below hf happ hP hK
    refine ⟨n, _, z1, z2, z3, _, L, rfl, ⟨b, kb, _, rfl, N, K, nb, A, fun i hi hz => ?_⟩, hq⟩
    match i, hi with
    | 0, _ => exact congrArg Value.int ((whole0 (dg_of Z q0 (0 : Int32)) (dg_of Z q0 (1 : Int32)) (dg_of Z q0 (2 : Int32)) (dg_of Z q0 (3 : Int32))).trans (congrArg (fun q => q.toInt8.toInt32) (show (fn6 Z q0 (0 : Int32)) * 4 + (fn6 Z q0 (1 : Int32)) / 16 = fn9 Z (0 : Int32) (2 : Int32) q0 q1 from (Eq.symm (by unfold fn9; rw [if_pos (by decide : (0 : Int32) < ((3 : Int32) * (2 : Int32)))]; unfold fn10; rw [if_pos (by decide)]; rfl)))))
    | 1, _ => exact congrArg Value.int ((whole1 (dg_of Z q0 (0 : Int32)) (dg_of Z q0 (1 : Int32)) (dg_of Z q0 (2 : Int32)) (dg_of Z q0 (3 : Int32))).trans (congrArg (fun q => q.toInt8.toInt32) (show ((fn6 Z q0 (1 : Int32)) - ((fn6 Z q0 (1 : Int32)) / 16) * 16) * 16 + (fn6 Z q0 (2 : Int32)) / 4 = fn9 Z (1 : Int32) (2 : Int32) q0 q1 from (Eq.symm (by unfold fn9; rw [if_pos (by decide : (1 : Int32) < ((3 : Int32) * (2 : Int32)))]; unfold fn10; rw [if_neg (by decide), if_pos (by decide)]; rfl)))))
    | 2, _ => exact congrArg Value.int ((whole2 (dg_of Z q0 (0 : Int32)) (dg_of Z q0 (1 : Int32)) (dg_of Z q0 (2 : Int32)) (dg_of Z q0 (3 : Int32))).trans (congrArg (fun q => q.toInt8.toInt32) (show ((fn6 Z q0 (2 : Int32)) - ((fn6 Z q0 (2 : Int32)) / 4) * 4) * 64 + (fn6 Z q0 (3 : Int32)) = fn9 Z (2 : Int32) (2 : Int32) q0 q1 from (Eq.symm (by unfold fn9; rw [if_pos (by decide : (2 : Int32) < ((3 : Int32) * (2 : Int32)))]; unfold fn10; rw [if_neg (by decide), if_neg (by decide)]; rfl)))))
    | 3, _ => exact congrArg Value.int ((whole0 (dg_of Z q0 (4 : Int32)) (dg_of Z q0 (5 : Int32)) (dg_of Z q0 (6 : Int32)) (dg_of Z q0 (7 : Int32))).trans (congrArg (fun q => q.toInt8.toInt32) (show (fn6 Z q0 (4 : Int32)) * 4 + (fn6 Z q0 (5 : Int32)) / 16 = fn9 Z (3 : Int32) (2 : Int32) q0 q1 from (Eq.symm (by unfold fn9; rw [if_pos (by decide : (3 : Int32) < ((3 : Int32) * (2 : Int32)))]; unfold fn10; rw [if_pos (by decide)]; rfl)))))
    | 4, _ => exact congrArg Value.int ((whole1 (dg_of Z q0 (4 : Int32)) (dg_of Z q0 (5 : Int32)) (dg_of Z q0 (6 : Int32)) (dg_of Z q0 (7 : Int32))).trans (congrArg (fun q => q.toInt8.toInt32) (show ((fn6 Z q0 (5 : Int32)) - ((fn6 Z q0 (5 : Int32)) / 16) * 16) * 16 + (fn6 Z q0 (6 : Int32)) / 4 = fn9 Z (4 : Int32) (2 : Int32) q0 q1 from (Eq.symm (by unfold fn9; rw [if_pos (by decide : (4 : Int32) < ((3 : Int32) * (2 : Int32)))]; unfold fn10; rw [if_neg (by decide), if_pos (by decide)]; rfl)))))
    | 5, _ => exact congrArg Value.int ((whole2 (dg_of Z q0 (4 : Int32)) (dg_of Z q0 (5 : Int32)) (dg_of Z q0 (6 : Int32)) (dg_of Z q0 (7 : Int32))).trans (congrArg (fun q => q.toInt8.toInt32) (show ((fn6 Z q0 (6 : Int32)) - ((fn6 Z q0 (6 : Int32)) / 4) * 4) * 64 + (fn6 Z q0 (7 : Int32)) = fn9 Z (5 : Int32) (2 : Int32) q0 q1 from (Eq.symm (by unfold fn9; rw [if_pos (by decide : (5 : Int32) < ((3 : Int32) * (2 : Int32)))]; unfold fn10; rw [if_neg (by decide), if_neg (by decide)]; rfl)))))
    | 6, _ => exact congrArg Value.int ((part2 (dg_of Z q1 (0 : Int32)) (dg_of Z q1 (1 : Int32))).trans (congrArg (fun q => q.toInt8.toInt32) (show (fn6 Z q1 (0 : Int32)) * 4 + (fn6 Z q1 (1 : Int32)) / 16 = fn9 Z (6 : Int32) (2 : Int32) q0 q1 from (Eq.symm (by unfold fn9; rw [if_neg (by decide : ¬ ((6 : Int32) < ((3 : Int32) * (2 : Int32)))), if_pos (by decide : ((6 : Int32) - ((3 : Int32) * (2 : Int32))) = (0 : Int32))]; try rfl)))))
    | 7, _ => exact absurd hz (by decide)
  · have V1 : Arv Z h0 r0 k .byte (12 : Int32) [(.int ((fn1 Z (0 : Int32) (2 : Int32) (2 : Int32) q0 q1).toInt8.toInt32)), (.int ((fn1 Z (1 : Int32) (2 : Int32) (2 : Int32) q0 q1).toInt8.toInt32)), (.int ((fn1 Z (2 : Int32) (2 : Int32) (2 : Int32) q0 q1).toInt8.toInt32)), (.int ((fn1 Z (3 : Int32) (2 : Int32) (2 : Int32) q0 q1).toInt8.toInt32)), (.int ((fn1 Z (4 : Int32) (2 : Int32) (2 : Int32) q0 q1).toInt8.toInt32)), (.int ((fn1 Z (5 : Int32) (2 : Int32) (2 : Int32) q0 q1).toInt8.toInt32)), (.int ((fn1 Z (6 : Int32) (2 : Int32) (2 : Int32) q0 q1).toInt8.toInt32)), (.int ((fn1 Z (7 : Int32) (2 : Int32) (2 : Int32) q0 q1).toInt8.toInt32)), (.int ((fn1 Z (8 : Int32) (2 : Int32) (2 : Int32) q0 q1).toInt8.toInt32)), (.int ((fn1 Z (9 : Int32) (2 : Int32) (2 : Int32) q0 q1).toInt8.toInt32)), (.int ((fn1 Z (10 : Int32) (2 : Int32) (2 : Int32) q0 q1).toInt8.toInt32)), (.int ((fn1 Z (11 : Int32) (2 : Int32) (2 : Int32) q0 q1).toInt8.toInt32))] (.int 0) := V
    have eq0 : ((fn1 Z (0 : Int32) (2 : Int32) (2 : Int32) q0 q1).toInt8.toInt32) = (chv (fn6 Z q0 (0 : Int32))) := by unfold fn1; rw [if_pos (by decide : (0 : Int32) < ((4 : Int32) * (2 : Int32)))]; exact chv_bb (dg_of Z q0 (0 : Int32))
    have eq1 : ((fn1 Z (1 : Int32) (2 : Int32) (2 : Int32) q0 q1).toInt8.toInt32) = (chv (fn6 Z q0 (1 : Int32))) := by unfold fn1; rw [if_pos (by decide : (1 : Int32) < ((4 : Int32) * (2 : Int32)))]; exact chv_bb (dg_of Z q0 (1 : Int32))
    have eq2 : ((fn1 Z (2 : Int32) (2 : Int32) (2 : Int32) q0 q1).toInt8.toInt32) = (chv (fn6 Z q0 (2 : Int32))) := by unfold fn1; rw [if_pos (by decide : (2 : Int32) < ((4 : Int32) * (2 : Int32)))]; exact chv_bb (dg_of Z q0 (2 : Int32))
    have eq3 : ((fn1 Z (3 : Int32) (2 : Int32) (2 : Int32) q0 q1).toInt8.toInt32) = (chv (fn6 Z q0 (3 : Int32))) := by unfold fn1; rw [if_pos (by decide : (3 : Int32) < ((4 : Int32) * (2 : Int32)))]; exact chv_bb (dg_of Z q0 (3 : Int32))
    have eq4 : ((fn1 Z (4 : Int32) (2 : Int32) (2 : Int32) q0 q1).toInt8.toInt32) = (chv (fn6 Z q0 (4 : Int32))) := by unfold fn1; rw [if_pos (by decide : (4 : Int32) < ((4 : Int32) * (2 : Int32)))]; exact chv_bb (dg_of Z q0 (4 : Int32))
    have eq5 : ((fn1 Z (5 : Int32) (2 : Int32) (2 : Int32) q0 q1).toInt8.toInt32) = (chv (fn6 Z q0 (5 : Int32))) := by unfold fn1; rw [if_pos (by decide : (5 : Int32) < ((4 : Int32) * (2 : Int32)))]; exact chv_bb (dg_of Z q0 (5 : Int32))
    have eq6 : ((fn1 Z (6 : Int32) (2 : Int32) (2 : Int32) q0 q1).toInt8.toInt32) = (chv (fn6 Z q0 (6 : Int32))) := by unfold fn1; rw [if_pos (by decide : (6 : Int32) < ((4 : Int32) * (2 : Int32)))]; exact chv_bb (dg_of Z q0 (6 : Int32))
    have eq7 : ((fn1 Z (7 : Int32) (2 : Int32) (2 : Int32) q0 q1).toInt8.toInt32) = (chv (fn6 Z q0 (7 : Int32))) := by unfold fn1; rw [if_pos (by decide : (7 : Int32) < ((4 : Int32) * (2 : Int32)))]; exact chv_bb (dg_of Z q0 (7 : Int32))
    have eq8 : ((fn1 Z (8 : Int32) (2 : Int32) (2 : Int32) q0 q1).toInt8.toInt32) = (chv (fn6 Z q1 (0 : Int32))) := by unfold fn1; rw [if_neg (by decide : ¬ ((8 : Int32) < ((4 : Int32) * (2 : Int32)))), if_pos (by decide : (8 : Int32) < (((4 : Int32) * (2 : Int32)) + (2 : Int32)))]; exact chv_bb (dg_of Z q1 (0 : Int32))
    have eq9 : ((fn1 Z (9 : Int32) (2 : Int32) (2 : Int32) q0 q1).toInt8.toInt32) = (chv (fn6 Z q1 (1 : Int32))) := by unfold fn1; rw [if_neg (by decide : ¬ ((9 : Int32) < ((4 : Int32) * (2 : Int32)))), if_pos (by decide : (9 : Int32) < (((4 : Int32) * (2 : Int32)) + (2 : Int32)))]; exact chv_bb (dg_of Z q1 (1 : Int32))
    have eq10 : ((fn1 Z (10 : Int32) (2 : Int32) (2 : Int32) q0 q1).toInt8.toInt32) = (61 : Int32) := by unfold fn1; rw [if_neg (by decide : ¬ ((10 : Int32) < ((4 : Int32) * (2 : Int32)))), if_neg (by decide : ¬ ((10 : Int32) < (((4 : Int32) * (2 : Int32)) + (2 : Int32))))]; first | rfl | decide
    have eq11 : ((fn1 Z (11 : Int32) (2 : Int32) (2 : Int32) q0 q1).toInt8.toInt32) = (61 : Int32) := by unfold fn1; rw [if_neg (by decide : ¬ ((11 : Int32) < ((4 : Int32) * (2 : Int32)))), if_neg (by decide : ¬ ((11 : Int32) < (((4 : Int32) * (2 : Int32)) + (2 : Int32))))]; first | rfl | decide
    rw [eq0, eq1, eq2, eq3, eq4, eq5, eq6, eq7, eq8, eq9, eq10, eq11] at V1
    intro p e ha hc hk s m args below hf happ hP hK
    obtain ⟨n, o, z1, z2, z3, v, L, rfl, ⟨b, kb, rfl, N, K, nb, A⟩, hq⟩ := rm3x222 l Z a0 hw hS [] r0 k (fn6 Z q0 (0 : Int32)) (fn6 Z q0 (1 : Int32)) (fn6 Z q0 (2 : Int32)) (fn6 Z q0 (3 : Int32)) (fn6 Z q0 (4 : Int32)) (fn6 Z q0 (5 : Int32)) (fn6 Z q0 (6 : Int32)) (fn6 Z q0 (7 : Int32)) (fn6 Z q1 (0 : Int32)) (fn6 Z q1 (1 : Int32)) h0 n0 O0 V1 (dg_of Z q0 (0 : Int32)) (dg_of Z q0 (1 : Int32)) (dg_of Z q0 (2 : Int32)) (dg_of Z q0 (3 : Int32)) (dg_of Z q0 (4 : Int32)) (dg_of Z q0 (5 : Int32)) (dg_of Z q0 (6 : Int32)) (dg_of Z q0 (7 : Int32)) (dg_of Z q1 (0 : Int32)) (dg_of Z q1 (1 : Int32)) p e ha hc hk s m args below hf happ hP hK
    refine ⟨n, _, z1, z2, z3, _, L, rfl, ⟨b, kb, _, rfl, N, K, nb, A, fun i hi hz => ?_⟩, hq⟩
    match i, hi with
    | 0, _ => exact congrArg Value.int ((whole0 (dg_of Z q0 (0 : Int32)) (dg_of Z q0 (1 : Int32)) (dg_of Z q0 (2 : Int32)) (dg_of Z q0 (3 : Int32))).trans (congrArg (fun q => q.toInt8.toInt32) (show (fn6 Z q0 (0 : Int32)) * 4 + (fn6 Z q0 (1 : Int32)) / 16 = fn9 Z (0 : Int32) (2 : Int32) q0 q1 from (Eq.symm (by unfold fn9; rw [if_pos (by decide : (0 : Int32) < ((3 : Int32) * (2 : Int32)))]; unfold fn10; rw [if_pos (by decide)]; rfl)))))
    | 1, _ => exact congrArg Value.int ((whole1 (dg_of Z q0 (0 : Int32)) (dg_of Z q0 (1 : Int32)) (dg_of Z q0 (2 : Int32)) (dg_of Z q0 (3 : Int32))).trans (congrArg (fun q => q.toInt8.toInt32) (show ((fn6 Z q0 (1 : Int32)) - ((fn6 Z q0 (1 : Int32)) / 16) * 16) * 16 + (fn6 Z q0 (2 : Int32)) / 4 = fn9 Z (1 : Int32) (2 : Int32) q0 q1 from (Eq.symm (by unfold fn9; rw [if_pos (by decide : (1 : Int32) < ((3 : Int32) * (2 : Int32)))]; unfold fn10; rw [if_neg (by decide), if_pos (by decide)]; rfl)))))
    | 2, _ => exact congrArg Value.int ((whole2 (dg_of Z q0 (0 : Int32)) (dg_of Z q0 (1 : Int32)) (dg_of Z q0 (2 : Int32)) (dg_of Z q0 (3 : Int32))).trans (congrArg (fun q => q.toInt8.toInt32) (show ((fn6 Z q0 (2 : Int32)) - ((fn6 Z q0 (2 : Int32)) / 4) * 4) * 64 + (fn6 Z q0 (3 : Int32)) = fn9 Z (2 : Int32) (2 : Int32) q0 q1 from (Eq.symm (by unfold fn9; rw [if_pos (by decide : (2 : Int32) < ((3 : Int32) * (2 : Int32)))]; unfold fn10; rw [if_neg (by decide), if_neg (by decide)]; rfl)))))
    | 3, _ => exact congrArg Value.int ((whole0 (dg_of Z q0 (4 : Int32)) (dg_of Z q0 (5 : Int32)) (dg_of Z q0 (6 : Int32)) (dg_of Z q0 (7 : Int32))).trans (congrArg (fun q => q.toInt8.toInt32) (show (fn6 Z q0 (4 : Int32)) * 4 + (fn6 Z q0 (5 : Int32)) / 16 = fn9 Z (3 : Int32) (2 : Int32) q0 q1 from (Eq.symm (by unfold fn9; rw [if_pos (by decide : (3 : Int32) < ((3 : Int32) * (2 : Int32)))]; unfold fn10; rw [if_pos (by decide)]; rfl)))))
    | 4, _ => exact congrArg Value.int ((whole1 (dg_of Z q0 (4 : Int32)) (dg_of Z q0 (5 : Int32)) (dg_of Z q0 (6 : Int32)) (dg_of Z q0 (7 : Int32))).trans (congrArg (fun q => q.toInt8.toInt32) (show ((fn6 Z q0 (5 : Int32)) - ((fn6 Z q0 (5 : Int32)) / 16) * 16) * 16 + (fn6 Z q0 (6 : Int32)) / 4 = fn9 Z (4 : Int32) (2 : Int32) q0 q1 from (Eq.symm (by unfold fn9; rw [if_pos (by decide : (4 : Int32) < ((3 : Int32) * (2 : Int32)))]; unfold fn10; rw [if_neg (by decide), if_pos (by decide)]; rfl)))))
    | 5, _ => exact congrArg Value.int ((whole2 (dg_of Z q0 (4 : Int32)) (dg_of Z q0 (5 : Int32)) (dg_of Z q0 (6 : Int32)) (dg_of Z q0 (7 : Int32))).trans (congrArg (fun q => q.toInt8.toInt32) (show ((fn6 Z q0 (6 : Int32)) - ((fn6 Z q0 (6 : Int32)) / 4) * 4) * 64 + (fn6 Z q0 (7 : Int32)) = fn9 Z (5 : Int32) (2 : Int32) q0 q1 from (Eq.symm (by unfold fn9; rw [if_pos (by decide : (5 : Int32) < ((3 : Int32) * (2 : Int32)))]; unfold fn10; rw [if_neg (by decide), if_neg (by decide)]; rfl)))))
    | 6, _ => exact congrArg Value.int ((part2 (dg_of Z q1 (0 : Int32)) (dg_of Z q1 (1 : Int32))).trans (congrArg (fun q => q.toInt8.toInt32) (show (fn6 Z q1 (0 : Int32)) * 4 + (fn6 Z q1 (1 : Int32)) / 16 = fn9 Z (6 : Int32) (2 : Int32) q0 q1 from (Eq.symm (by unfold fn9; rw [if_neg (by decide : ¬ ((6 : Int32) < ((3 : Int32) * (2 : Int32)))), if_pos (by decide : ((6 : Int32) - ((3 : Int32) * (2 : Int32))) = (0 : Int32))]; try rfl)))))
    | 7, _ => exact absurd hz (by decide)
  · have V1 : Arv Z h0 r0 k .byte (11 : Int32) [(.int ((fn1 Z (0 : Int32) (2 : Int32) (3 : Int32) q0 q1).toInt8.toInt32)), (.int ((fn1 Z (1 : Int32) (2 : Int32) (3 : Int32) q0 q1).toInt8.toInt32)), (.int ((fn1 Z (2 : Int32) (2 : Int32) (3 : Int32) q0 q1).toInt8.toInt32)), (.int ((fn1 Z (3 : Int32) (2 : Int32) (3 : Int32) q0 q1).toInt8.toInt32)), (.int ((fn1 Z (4 : Int32) (2 : Int32) (3 : Int32) q0 q1).toInt8.toInt32)), (.int ((fn1 Z (5 : Int32) (2 : Int32) (3 : Int32) q0 q1).toInt8.toInt32)), (.int ((fn1 Z (6 : Int32) (2 : Int32) (3 : Int32) q0 q1).toInt8.toInt32)), (.int ((fn1 Z (7 : Int32) (2 : Int32) (3 : Int32) q0 q1).toInt8.toInt32)), (.int ((fn1 Z (8 : Int32) (2 : Int32) (3 : Int32) q0 q1).toInt8.toInt32)), (.int ((fn1 Z (9 : Int32) (2 : Int32) (3 : Int32) q0 q1).toInt8.toInt32)), (.int ((fn1 Z (10 : Int32) (2 : Int32) (3 : Int32) q0 q1).toInt8.toInt32)), (.int ((fn1 Z (11 : Int32) (2 : Int32) (3 : Int32) q0 q1).toInt8.toInt32))] (.int 0) := V
    have eq0 : ((fn1 Z (0 : Int32) (2 : Int32) (3 : Int32) q0 q1).toInt8.toInt32) = (chv (fn6 Z q0 (0 : Int32))) := by unfold fn1; rw [if_pos (by decide : (0 : Int32) < ((4 : Int32) * (2 : Int32)))]; exact chv_bb (dg_of Z q0 (0 : Int32))
    have eq1 : ((fn1 Z (1 : Int32) (2 : Int32) (3 : Int32) q0 q1).toInt8.toInt32) = (chv (fn6 Z q0 (1 : Int32))) := by unfold fn1; rw [if_pos (by decide : (1 : Int32) < ((4 : Int32) * (2 : Int32)))]; exact chv_bb (dg_of Z q0 (1 : Int32))
    have eq2 : ((fn1 Z (2 : Int32) (2 : Int32) (3 : Int32) q0 q1).toInt8.toInt32) = (chv (fn6 Z q0 (2 : Int32))) := by unfold fn1; rw [if_pos (by decide : (2 : Int32) < ((4 : Int32) * (2 : Int32)))]; exact chv_bb (dg_of Z q0 (2 : Int32))
    have eq3 : ((fn1 Z (3 : Int32) (2 : Int32) (3 : Int32) q0 q1).toInt8.toInt32) = (chv (fn6 Z q0 (3 : Int32))) := by unfold fn1; rw [if_pos (by decide : (3 : Int32) < ((4 : Int32) * (2 : Int32)))]; exact chv_bb (dg_of Z q0 (3 : Int32))
    have eq4 : ((fn1 Z (4 : Int32) (2 : Int32) (3 : Int32) q0 q1).toInt8.toInt32) = (chv (fn6 Z q0 (4 : Int32))) := by unfold fn1; rw [if_pos (by decide : (4 : Int32) < ((4 : Int32) * (2 : Int32)))]; exact chv_bb (dg_of Z q0 (4 : Int32))
    have eq5 : ((fn1 Z (5 : Int32) (2 : Int32) (3 : Int32) q0 q1).toInt8.toInt32) = (chv (fn6 Z q0 (5 : Int32))) := by unfold fn1; rw [if_pos (by decide : (5 : Int32) < ((4 : Int32) * (2 : Int32)))]; exact chv_bb (dg_of Z q0 (5 : Int32))
    have eq6 : ((fn1 Z (6 : Int32) (2 : Int32) (3 : Int32) q0 q1).toInt8.toInt32) = (chv (fn6 Z q0 (6 : Int32))) := by unfold fn1; rw [if_pos (by decide : (6 : Int32) < ((4 : Int32) * (2 : Int32)))]; exact chv_bb (dg_of Z q0 (6 : Int32))
    have eq7 : ((fn1 Z (7 : Int32) (2 : Int32) (3 : Int32) q0 q1).toInt8.toInt32) = (chv (fn6 Z q0 (7 : Int32))) := by unfold fn1; rw [if_pos (by decide : (7 : Int32) < ((4 : Int32) * (2 : Int32)))]; exact chv_bb (dg_of Z q0 (7 : Int32))
    have eq8 : ((fn1 Z (8 : Int32) (2 : Int32) (3 : Int32) q0 q1).toInt8.toInt32) = (chv (fn6 Z q1 (0 : Int32))) := by unfold fn1; rw [if_neg (by decide : ¬ ((8 : Int32) < ((4 : Int32) * (2 : Int32)))), if_pos (by decide : (8 : Int32) < (((4 : Int32) * (2 : Int32)) + (3 : Int32)))]; exact chv_bb (dg_of Z q1 (0 : Int32))
    have eq9 : ((fn1 Z (9 : Int32) (2 : Int32) (3 : Int32) q0 q1).toInt8.toInt32) = (chv (fn6 Z q1 (1 : Int32))) := by unfold fn1; rw [if_neg (by decide : ¬ ((9 : Int32) < ((4 : Int32) * (2 : Int32)))), if_pos (by decide : (9 : Int32) < (((4 : Int32) * (2 : Int32)) + (3 : Int32)))]; exact chv_bb (dg_of Z q1 (1 : Int32))
    have eq10 : ((fn1 Z (10 : Int32) (2 : Int32) (3 : Int32) q0 q1).toInt8.toInt32) = (chv (fn6 Z q1 (2 : Int32))) := by unfold fn1; rw [if_neg (by decide : ¬ ((10 : Int32) < ((4 : Int32) * (2 : Int32)))), if_pos (by decide : (10 : Int32) < (((4 : Int32) * (2 : Int32)) + (3 : Int32)))]; exact chv_bb (dg_of Z q1 (2 : Int32))
    rw [eq0, eq1, eq2, eq3, eq4, eq5, eq6, eq7, eq8, eq9, eq10] at V1
    intro p e ha hc hk s m args below hf happ hP hK
    obtain ⟨n, o, z1, z2, z3, v, L, rfl, ⟨b, kb, rfl, N, K, nb, A⟩, hq⟩ := rm3x230 l Z a0 hw hS [] r0 k (fn6 Z q0 (0 : Int32)) (fn6 Z q0 (1 : Int32)) (fn6 Z q0 (2 : Int32)) (fn6 Z q0 (3 : Int32)) (fn6 Z q0 (4 : Int32)) (fn6 Z q0 (5 : Int32)) (fn6 Z q0 (6 : Int32)) (fn6 Z q0 (7 : Int32)) (fn6 Z q1 (0 : Int32)) (fn6 Z q1 (1 : Int32)) (fn6 Z q1 (2 : Int32)) (.int ((fn1 Z (11 : Int32) (2 : Int32) (3 : Int32) q0 q1).toInt8.toInt32)) h0 n0 O0 V1 (dg_of Z q0 (0 : Int32)) (dg_of Z q0 (1 : Int32)) (dg_of Z q0 (2 : Int32)) (dg_of Z q0 (3 : Int32)) (dg_of Z q0 (4 : Int32)) (dg_of Z q0 (5 : Int32)) (dg_of Z q0 (6 : Int32)) (dg_of Z q0 (7 : Int32)) (dg_of Z q1 (0 : Int32)) (dg_of Z q1 (1 : Int32)) (dg_of Z q1 (2 : Int32)) p e ha hc hk s m args below hf happ hP hK
    refine ⟨n, _, z1, z2, z3, _, L, rfl, ⟨b, kb, _, rfl, N, K, nb, A, fun i hi hz => ?_⟩, hq⟩
    match i, hi with
    | 0, _ => exact congrArg Value.int ((whole0 (dg_of Z q0 (0 : Int32)) (dg_of Z q0 (1 : Int32)) (dg_of Z q0 (2 : Int32)) (dg_of Z q0 (3 : Int32))).trans (congrArg (fun q => q.toInt8.toInt32) (show (fn6 Z q0 (0 : Int32)) * 4 + (fn6 Z q0 (1 : Int32)) / 16 = fn9 Z (0 : Int32) (2 : Int32) q0 q1 from (Eq.symm (by unfold fn9; rw [if_pos (by decide : (0 : Int32) < ((3 : Int32) * (2 : Int32)))]; unfold fn10; rw [if_pos (by decide)]; rfl)))))
    | 1, _ => exact congrArg Value.int ((whole1 (dg_of Z q0 (0 : Int32)) (dg_of Z q0 (1 : Int32)) (dg_of Z q0 (2 : Int32)) (dg_of Z q0 (3 : Int32))).trans (congrArg (fun q => q.toInt8.toInt32) (show ((fn6 Z q0 (1 : Int32)) - ((fn6 Z q0 (1 : Int32)) / 16) * 16) * 16 + (fn6 Z q0 (2 : Int32)) / 4 = fn9 Z (1 : Int32) (2 : Int32) q0 q1 from (Eq.symm (by unfold fn9; rw [if_pos (by decide : (1 : Int32) < ((3 : Int32) * (2 : Int32)))]; unfold fn10; rw [if_neg (by decide), if_pos (by decide)]; rfl)))))
    | 2, _ => exact congrArg Value.int ((whole2 (dg_of Z q0 (0 : Int32)) (dg_of Z q0 (1 : Int32)) (dg_of Z q0 (2 : Int32)) (dg_of Z q0 (3 : Int32))).trans (congrArg (fun q => q.toInt8.toInt32) (show ((fn6 Z q0 (2 : Int32)) - ((fn6 Z q0 (2 : Int32)) / 4) * 4) * 64 + (fn6 Z q0 (3 : Int32)) = fn9 Z (2 : Int32) (2 : Int32) q0 q1 from (Eq.symm (by unfold fn9; rw [if_pos (by decide : (2 : Int32) < ((3 : Int32) * (2 : Int32)))]; unfold fn10; rw [if_neg (by decide), if_neg (by decide)]; rfl)))))
    | 3, _ => exact congrArg Value.int ((whole0 (dg_of Z q0 (4 : Int32)) (dg_of Z q0 (5 : Int32)) (dg_of Z q0 (6 : Int32)) (dg_of Z q0 (7 : Int32))).trans (congrArg (fun q => q.toInt8.toInt32) (show (fn6 Z q0 (4 : Int32)) * 4 + (fn6 Z q0 (5 : Int32)) / 16 = fn9 Z (3 : Int32) (2 : Int32) q0 q1 from (Eq.symm (by unfold fn9; rw [if_pos (by decide : (3 : Int32) < ((3 : Int32) * (2 : Int32)))]; unfold fn10; rw [if_pos (by decide)]; rfl)))))
    | 4, _ => exact congrArg Value.int ((whole1 (dg_of Z q0 (4 : Int32)) (dg_of Z q0 (5 : Int32)) (dg_of Z q0 (6 : Int32)) (dg_of Z q0 (7 : Int32))).trans (congrArg (fun q => q.toInt8.toInt32) (show ((fn6 Z q0 (5 : Int32)) - ((fn6 Z q0 (5 : Int32)) / 16) * 16) * 16 + (fn6 Z q0 (6 : Int32)) / 4 = fn9 Z (4 : Int32) (2 : Int32) q0 q1 from (Eq.symm (by unfold fn9; rw [if_pos (by decide : (4 : Int32) < ((3 : Int32) * (2 : Int32)))]; unfold fn10; rw [if_neg (by decide), if_pos (by decide)]; rfl)))))
    | 5, _ => exact congrArg Value.int ((whole2 (dg_of Z q0 (4 : Int32)) (dg_of Z q0 (5 : Int32)) (dg_of Z q0 (6 : Int32)) (dg_of Z q0 (7 : Int32))).trans (congrArg (fun q => q.toInt8.toInt32) (show ((fn6 Z q0 (6 : Int32)) - ((fn6 Z q0 (6 : Int32)) / 4) * 4) * 64 + (fn6 Z q0 (7 : Int32)) = fn9 Z (5 : Int32) (2 : Int32) q0 q1 from (Eq.symm (by unfold fn9; rw [if_pos (by decide : (5 : Int32) < ((3 : Int32) * (2 : Int32)))]; unfold fn10; rw [if_neg (by decide), if_neg (by decide)]; rfl)))))
    | 6, _ => exact congrArg Value.int ((part30 (dg_of Z q1 (0 : Int32)) (dg_of Z q1 (1 : Int32)) (dg_of Z q1 (2 : Int32))).trans (congrArg (fun q => q.toInt8.toInt32) (show (fn6 Z q1 (0 : Int32)) * 4 + (fn6 Z q1 (1 : Int32)) / 16 = fn9 Z (6 : Int32) (2 : Int32) q0 q1 from (Eq.symm (by unfold fn9; rw [if_neg (by decide : ¬ ((6 : Int32) < ((3 : Int32) * (2 : Int32)))), if_pos (by decide : ((6 : Int32) - ((3 : Int32) * (2 : Int32))) = (0 : Int32))]; try rfl)))))
    | 7, _ => exact congrArg Value.int ((part31 (dg_of Z q1 (0 : Int32)) (dg_of Z q1 (1 : Int32)) (dg_of Z q1 (2 : Int32))).trans (congrArg (fun q => q.toInt8.toInt32) (show ((fn6 Z q1 (1 : Int32)) - ((fn6 Z q1 (1 : Int32)) / 16) * 16) * 16 + (fn6 Z q1 (2 : Int32)) / 4 = fn9 Z (7 : Int32) (2 : Int32) q0 q1 from (Eq.symm (by unfold fn9; rw [if_neg (by decide : ¬ ((7 : Int32) < ((3 : Int32) * (2 : Int32)))), if_neg (by decide : ¬ (((7 : Int32) - ((3 : Int32) * (2 : Int32))) = (0 : Int32)))]; try rfl)))))
  · have V1 : Arv Z h0 r0 k .byte (12 : Int32) [(.int ((fn1 Z (0 : Int32) (2 : Int32) (3 : Int32) q0 q1).toInt8.toInt32)), (.int ((fn1 Z (1 : Int32) (2 : Int32) (3 : Int32) q0 q1).toInt8.toInt32)), (.int ((fn1 Z (2 : Int32) (2 : Int32) (3 : Int32) q0 q1).toInt8.toInt32)), (.int ((fn1 Z (3 : Int32) (2 : Int32) (3 : Int32) q0 q1).toInt8.toInt32)), (.int ((fn1 Z (4 : Int32) (2 : Int32) (3 : Int32) q0 q1).toInt8.toInt32)), (.int ((fn1 Z (5 : Int32) (2 : Int32) (3 : Int32) q0 q1).toInt8.toInt32)), (.int ((fn1 Z (6 : Int32) (2 : Int32) (3 : Int32) q0 q1).toInt8.toInt32)), (.int ((fn1 Z (7 : Int32) (2 : Int32) (3 : Int32) q0 q1).toInt8.toInt32)), (.int ((fn1 Z (8 : Int32) (2 : Int32) (3 : Int32) q0 q1).toInt8.toInt32)), (.int ((fn1 Z (9 : Int32) (2 : Int32) (3 : Int32) q0 q1).toInt8.toInt32)), (.int ((fn1 Z (10 : Int32) (2 : Int32) (3 : Int32) q0 q1).toInt8.toInt32)), (.int ((fn1 Z (11 : Int32) (2 : Int32) (3 : Int32) q0 q1).toInt8.toInt32))] (.int 0) := V
    have eq0 : ((fn1 Z (0 : Int32) (2 : Int32) (3 : Int32) q0 q1).toInt8.toInt32) = (chv (fn6 Z q0 (0 : Int32))) := by unfold fn1; rw [if_pos (by decide : (0 : Int32) < ((4 : Int32) * (2 : Int32)))]; exact chv_bb (dg_of Z q0 (0 : Int32))
    have eq1 : ((fn1 Z (1 : Int32) (2 : Int32) (3 : Int32) q0 q1).toInt8.toInt32) = (chv (fn6 Z q0 (1 : Int32))) := by unfold fn1; rw [if_pos (by decide : (1 : Int32) < ((4 : Int32) * (2 : Int32)))]; exact chv_bb (dg_of Z q0 (1 : Int32))
    have eq2 : ((fn1 Z (2 : Int32) (2 : Int32) (3 : Int32) q0 q1).toInt8.toInt32) = (chv (fn6 Z q0 (2 : Int32))) := by unfold fn1; rw [if_pos (by decide : (2 : Int32) < ((4 : Int32) * (2 : Int32)))]; exact chv_bb (dg_of Z q0 (2 : Int32))
    have eq3 : ((fn1 Z (3 : Int32) (2 : Int32) (3 : Int32) q0 q1).toInt8.toInt32) = (chv (fn6 Z q0 (3 : Int32))) := by unfold fn1; rw [if_pos (by decide : (3 : Int32) < ((4 : Int32) * (2 : Int32)))]; exact chv_bb (dg_of Z q0 (3 : Int32))
    have eq4 : ((fn1 Z (4 : Int32) (2 : Int32) (3 : Int32) q0 q1).toInt8.toInt32) = (chv (fn6 Z q0 (4 : Int32))) := by unfold fn1; rw [if_pos (by decide : (4 : Int32) < ((4 : Int32) * (2 : Int32)))]; exact chv_bb (dg_of Z q0 (4 : Int32))
    have eq5 : ((fn1 Z (5 : Int32) (2 : Int32) (3 : Int32) q0 q1).toInt8.toInt32) = (chv (fn6 Z q0 (5 : Int32))) := by unfold fn1; rw [if_pos (by decide : (5 : Int32) < ((4 : Int32) * (2 : Int32)))]; exact chv_bb (dg_of Z q0 (5 : Int32))
    have eq6 : ((fn1 Z (6 : Int32) (2 : Int32) (3 : Int32) q0 q1).toInt8.toInt32) = (chv (fn6 Z q0 (6 : Int32))) := by unfold fn1; rw [if_pos (by decide : (6 : Int32) < ((4 : Int32) * (2 : Int32)))]; exact chv_bb (dg_of Z q0 (6 : Int32))
    have eq7 : ((fn1 Z (7 : Int32) (2 : Int32) (3 : Int32) q0 q1).toInt8.toInt32) = (chv (fn6 Z q0 (7 : Int32))) := by unfold fn1; rw [if_pos (by decide : (7 : Int32) < ((4 : Int32) * (2 : Int32)))]; exact chv_bb (dg_of Z q0 (7 : Int32))
    have eq8 : ((fn1 Z (8 : Int32) (2 : Int32) (3 : Int32) q0 q1).toInt8.toInt32) = (chv (fn6 Z q1 (0 : Int32))) := by unfold fn1; rw [if_neg (by decide : ¬ ((8 : Int32) < ((4 : Int32) * (2 : Int32)))), if_pos (by decide : (8 : Int32) < (((4 : Int32) * (2 : Int32)) + (3 : Int32)))]; exact chv_bb (dg_of Z q1 (0 : Int32))
    have eq9 : ((fn1 Z (9 : Int32) (2 : Int32) (3 : Int32) q0 q1).toInt8.toInt32) = (chv (fn6 Z q1 (1 : Int32))) := by unfold fn1; rw [if_neg (by decide : ¬ ((9 : Int32) < ((4 : Int32) * (2 : Int32)))), if_pos (by decide : (9 : Int32) < (((4 : Int32) * (2 : Int32)) + (3 : Int32)))]; exact chv_bb (dg_of Z q1 (1 : Int32))
    have eq10 : ((fn1 Z (10 : Int32) (2 : Int32) (3 : Int32) q0 q1).toInt8.toInt32) = (chv (fn6 Z q1 (2 : Int32))) := by unfold fn1; rw [if_neg (by decide : ¬ ((10 : Int32) < ((4 : Int32) * (2 : Int32)))), if_pos (by decide : (10 : Int32) < (((4 : Int32) * (2 : Int32)) + (3 : Int32)))]; exact chv_bb (dg_of Z q1 (2 : Int32))
    have eq11 : ((fn1 Z (11 : Int32) (2 : Int32) (3 : Int32) q0 q1).toInt8.toInt32) = (61 : Int32) := by unfold fn1; rw [if_neg (by decide : ¬ ((11 : Int32) < ((4 : Int32) * (2 : Int32)))), if_neg (by decide : ¬ ((11 : Int32) < (((4 : Int32) * (2 : Int32)) + (3 : Int32))))]; first | rfl | decide
    rw [eq0, eq1, eq2, eq3, eq4, eq5, eq6, eq7, eq8, eq9, eq10, eq11] at V1
    intro p e ha hc hk s m args below hf happ hP hK
    obtain ⟨n, o, z1, z2, z3, v, L, rfl, ⟨b, kb, rfl, N, K, nb, A⟩, hq⟩ := rm3x231 l Z a0 hw hS [] r0 k (fn6 Z q0 (0 : Int32)) (fn6 Z q0 (1 : Int32)) (fn6 Z q0 (2 : Int32)) (fn6 Z q0 (3 : Int32)) (fn6 Z q0 (4 : Int32)) (fn6 Z q0 (5 : Int32)) (fn6 Z q0 (6 : Int32)) (fn6 Z q0 (7 : Int32)) (fn6 Z q1 (0 : Int32)) (fn6 Z q1 (1 : Int32)) (fn6 Z q1 (2 : Int32)) h0 n0 O0 V1 (dg_of Z q0 (0 : Int32)) (dg_of Z q0 (1 : Int32)) (dg_of Z q0 (2 : Int32)) (dg_of Z q0 (3 : Int32)) (dg_of Z q0 (4 : Int32)) (dg_of Z q0 (5 : Int32)) (dg_of Z q0 (6 : Int32)) (dg_of Z q0 (7 : Int32)) (dg_of Z q1 (0 : Int32)) (dg_of Z q1 (1 : Int32)) (dg_of Z q1 (2 : Int32)) p e ha hc hk s m args below hf happ hP hK
    refine ⟨n, _, z1, z2, z3, _, L, rfl, ⟨b, kb, _, rfl, N, K, nb, A, fun i hi hz => ?_⟩, hq⟩
    match i, hi with
    | 0, _ => exact congrArg Value.int ((whole0 (dg_of Z q0 (0 : Int32)) (dg_of Z q0 (1 : Int32)) (dg_of Z q0 (2 : Int32)) (dg_of Z q0 (3 : Int32))).trans (congrArg (fun q => q.toInt8.toInt32) (show (fn6 Z q0 (0 : Int32)) * 4 + (fn6 Z q0 (1 : Int32)) / 16 = fn9 Z (0 : Int32) (2 : Int32) q0 q1 from (Eq.symm (by unfold fn9; rw [if_pos (by decide : (0 : Int32) < ((3 : Int32) * (2 : Int32)))]; unfold fn10; rw [if_pos (by decide)]; rfl)))))
    | 1, _ => exact congrArg Value.int ((whole1 (dg_of Z q0 (0 : Int32)) (dg_of Z q0 (1 : Int32)) (dg_of Z q0 (2 : Int32)) (dg_of Z q0 (3 : Int32))).trans (congrArg (fun q => q.toInt8.toInt32) (show ((fn6 Z q0 (1 : Int32)) - ((fn6 Z q0 (1 : Int32)) / 16) * 16) * 16 + (fn6 Z q0 (2 : Int32)) / 4 = fn9 Z (1 : Int32) (2 : Int32) q0 q1 from (Eq.symm (by unfold fn9; rw [if_pos (by decide : (1 : Int32) < ((3 : Int32) * (2 : Int32)))]; unfold fn10; rw [if_neg (by decide), if_pos (by decide)]; rfl)))))
    | 2, _ => exact congrArg Value.int ((whole2 (dg_of Z q0 (0 : Int32)) (dg_of Z q0 (1 : Int32)) (dg_of Z q0 (2 : Int32)) (dg_of Z q0 (3 : Int32))).trans (congrArg (fun q => q.toInt8.toInt32) (show ((fn6 Z q0 (2 : Int32)) - ((fn6 Z q0 (2 : Int32)) / 4) * 4) * 64 + (fn6 Z q0 (3 : Int32)) = fn9 Z (2 : Int32) (2 : Int32) q0 q1 from (Eq.symm (by unfold fn9; rw [if_pos (by decide : (2 : Int32) < ((3 : Int32) * (2 : Int32)))]; unfold fn10; rw [if_neg (by decide), if_neg (by decide)]; rfl)))))
    | 3, _ => exact congrArg Value.int ((whole0 (dg_of Z q0 (4 : Int32)) (dg_of Z q0 (5 : Int32)) (dg_of Z q0 (6 : Int32)) (dg_of Z q0 (7 : Int32))).trans (congrArg (fun q => q.toInt8.toInt32) (show (fn6 Z q0 (4 : Int32)) * 4 + (fn6 Z q0 (5 : Int32)) / 16 = fn9 Z (3 : Int32) (2 : Int32) q0 q1 from (Eq.symm (by unfold fn9; rw [if_pos (by decide : (3 : Int32) < ((3 : Int32) * (2 : Int32)))]; unfold fn10; rw [if_pos (by decide)]; rfl)))))
    | 4, _ => exact congrArg Value.int ((whole1 (dg_of Z q0 (4 : Int32)) (dg_of Z q0 (5 : Int32)) (dg_of Z q0 (6 : Int32)) (dg_of Z q0 (7 : Int32))).trans (congrArg (fun q => q.toInt8.toInt32) (show ((fn6 Z q0 (5 : Int32)) - ((fn6 Z q0 (5 : Int32)) / 16) * 16) * 16 + (fn6 Z q0 (6 : Int32)) / 4 = fn9 Z (4 : Int32) (2 : Int32) q0 q1 from (Eq.symm (by unfold fn9; rw [if_pos (by decide : (4 : Int32) < ((3 : Int32) * (2 : Int32)))]; unfold fn10; rw [if_neg (by decide), if_pos (by decide)]; rfl)))))
    | 5, _ => exact congrArg Value.int ((whole2 (dg_of Z q0 (4 : Int32)) (dg_of Z q0 (5 : Int32)) (dg_of Z q0 (6 : Int32)) (dg_of Z q0 (7 : Int32))).trans (congrArg (fun q => q.toInt8.toInt32) (show ((fn6 Z q0 (6 : Int32)) - ((fn6 Z q0 (6 : Int32)) / 4) * 4) * 64 + (fn6 Z q0 (7 : Int32)) = fn9 Z (5 : Int32) (2 : Int32) q0 q1 from (Eq.symm (by unfold fn9; rw [if_pos (by decide : (5 : Int32) < ((3 : Int32) * (2 : Int32)))]; unfold fn10; rw [if_neg (by decide), if_neg (by decide)]; rfl)))))
    | 6, _ => exact congrArg Value.int ((part30 (dg_of Z q1 (0 : Int32)) (dg_of Z q1 (1 : Int32)) (dg_of Z q1 (2 : Int32))).trans (congrArg (fun q => q.toInt8.toInt32) (show (fn6 Z q1 (0 : Int32)) * 4 + (fn6 Z q1 (1 : Int32)) / 16 = fn9 Z (6 : Int32) (2 : Int32) q0 q1 from (Eq.symm (by unfold fn9; rw [if_neg (by decide : ¬ ((6 : Int32) < ((3 : Int32) * (2 : Int32)))), if_pos (by decide : ((6 : Int32) - ((3 : Int32) * (2 : Int32))) = (0 : Int32))]; try rfl)))))
    | 7, _ => exact congrArg Value.int ((part31 (dg_of Z q1 (0 : Int32)) (dg_of Z q1 (1 : Int32)) (dg_of Z q1 (2 : Int32))).trans (congrArg (fun q => q.toInt8.toInt32) (show ((fn6 Z q1 (1 : Int32)) - ((fn6 Z q1 (1 : Int32)) / 16) * 16) * 16 + (fn6 Z q1 (2 : Int32)) / 4 = fn9 Z (7 : Int32) (2 : Int32) q0 q1 from (Eq.symm (by unfold fn9; rw [if_neg (by decide : ¬ ((7 : Int32) < ((3 : Int32) * (2 : Int32)))), if_neg (by decide : ¬ (((7 : Int32) - ((3 : Int32) * (2 : Int32))) = (0 : Int32)))]; try rfl)))))
theorem rng_mask1 (k : Int32) : (k &&& (1 : Int32)) = (0 : Int32) ∨ (k &&& (1 : Int32)) = (1 : Int32) := by
  have h := own_and_le k 1 (by decide)
  obtain ⟨j, hj, e⟩ := own_mem (n := 2) h.1 (Int.lt_of_le_of_lt h.2 (by decide))
  rw [e]
  match j, hj with
  | 0, _ => decide
  | 1, _ => decide
theorem rng_mask3 (k : Int32) : (k &&& (3 : Int32)) = (0 : Int32) ∨ (k &&& (3 : Int32)) = (1 : Int32) ∨ (k &&& (3 : Int32)) = (2 : Int32) ∨ (k &&& (3 : Int32)) = (3 : Int32) := by
  have h := own_and_le k 3 (by decide)
  obtain ⟨j, hj, e⟩ := own_mem (n := 4) h.1 (Int.lt_of_le_of_lt h.2 (by decide))
  rw [e]
  match j, hj with
  | 0, _ => decide
  | 1, _ => decide
  | 2, _ => decide
  | 3, _ => decide
theorem rng_g (k j : Int32) : ((k &&& (1 : Int32)) + (j &&& (1 : Int32))) = (0 : Int32) ∨ ((k &&& (1 : Int32)) + (j &&& (1 : Int32))) = (1 : Int32) ∨ ((k &&& (1 : Int32)) + (j &&& (1 : Int32))) = (2 : Int32) := by
  rcases rng_mask1 k with h | h <;> rcases rng_mask1 j with h2 | h2 <;> rw [h, h2] <;> decide
theorem own_combo {gg pa pd : Int32} (rg : gg = 0 ∨ gg = 1 ∨ gg = 2) (rp : pa = 2 ∨ pa = 3 ∨ pa = 0) (rd : pd = 0 ∨ (0 < pa ∧ pd = 4 - pa)) : (gg = (0 : Int32) ∧ pa = (0 : Int32) ∧ pd = (0 : Int32)) ∨ (gg = (0 : Int32) ∧ pa = (2 : Int32) ∧ pd = (0 : Int32)) ∨ (gg = (0 : Int32) ∧ pa = (2 : Int32) ∧ pd = (2 : Int32)) ∨ (gg = (0 : Int32) ∧ pa = (3 : Int32) ∧ pd = (0 : Int32)) ∨ (gg = (0 : Int32) ∧ pa = (3 : Int32) ∧ pd = (1 : Int32)) ∨ (gg = (1 : Int32) ∧ pa = (0 : Int32) ∧ pd = (0 : Int32)) ∨ (gg = (1 : Int32) ∧ pa = (2 : Int32) ∧ pd = (0 : Int32)) ∨ (gg = (1 : Int32) ∧ pa = (2 : Int32) ∧ pd = (2 : Int32)) ∨ (gg = (1 : Int32) ∧ pa = (3 : Int32) ∧ pd = (0 : Int32)) ∨ (gg = (1 : Int32) ∧ pa = (3 : Int32) ∧ pd = (1 : Int32)) ∨ (gg = (2 : Int32) ∧ pa = (0 : Int32) ∧ pd = (0 : Int32)) ∨ (gg = (2 : Int32) ∧ pa = (2 : Int32) ∧ pd = (0 : Int32)) ∨ (gg = (2 : Int32) ∧ pa = (2 : Int32) ∧ pd = (2 : Int32)) ∨ (gg = (2 : Int32) ∧ pa = (3 : Int32) ∧ pd = (0 : Int32)) ∨ (gg = (2 : Int32) ∧ pa = (3 : Int32) ∧ pd = (1 : Int32)) := by
  rcases rg with rfl | rfl | rfl <;> rcases rp with rfl | rfl | rfl <;> rcases rd with rfl | ⟨h, rfl⟩ <;> first | decide | exact absurd h (by decide)
theorem own_clen {gg pa pd : Int32} (h : (gg = (0 : Int32) ∧ pa = (0 : Int32) ∧ pd = (0 : Int32)) ∨ (gg = (0 : Int32) ∧ pa = (2 : Int32) ∧ pd = (0 : Int32)) ∨ (gg = (0 : Int32) ∧ pa = (2 : Int32) ∧ pd = (2 : Int32)) ∨ (gg = (0 : Int32) ∧ pa = (3 : Int32) ∧ pd = (0 : Int32)) ∨ (gg = (0 : Int32) ∧ pa = (3 : Int32) ∧ pd = (1 : Int32)) ∨ (gg = (1 : Int32) ∧ pa = (0 : Int32) ∧ pd = (0 : Int32)) ∨ (gg = (1 : Int32) ∧ pa = (2 : Int32) ∧ pd = (0 : Int32)) ∨ (gg = (1 : Int32) ∧ pa = (2 : Int32) ∧ pd = (2 : Int32)) ∨ (gg = (1 : Int32) ∧ pa = (3 : Int32) ∧ pd = (0 : Int32)) ∨ (gg = (1 : Int32) ∧ pa = (3 : Int32) ∧ pd = (1 : Int32)) ∨ (gg = (2 : Int32) ∧ pa = (0 : Int32) ∧ pd = (0 : Int32)) ∨ (gg = (2 : Int32) ∧ pa = (2 : Int32) ∧ pd = (0 : Int32)) ∨ (gg = (2 : Int32) ∧ pa = (2 : Int32) ∧ pd = (2 : Int32)) ∨ (gg = (2 : Int32) ∧ pa = (3 : Int32) ∧ pd = (0 : Int32)) ∨ (gg = (2 : Int32) ∧ pa = (3 : Int32) ∧ pd = (1 : Int32))) : ¬ (((4 : Int32) * gg + pa) + pd) < 0 ∧ (((4 : Int32) * gg + pa) + pd).toNatClampNeg ≤ 12 := by
  rcases h with ⟨rfl, rfl, rfl⟩ | ⟨rfl, rfl, rfl⟩ | ⟨rfl, rfl, rfl⟩ | ⟨rfl, rfl, rfl⟩ | ⟨rfl, rfl, rfl⟩ | ⟨rfl, rfl, rfl⟩ | ⟨rfl, rfl, rfl⟩ | ⟨rfl, rfl, rfl⟩ | ⟨rfl, rfl, rfl⟩ | ⟨rfl, rfl, rfl⟩ | ⟨rfl, rfl, rfl⟩ | ⟨rfl, rfl, rfl⟩ | ⟨rfl, rfl, rfl⟩ | ⟨rfl, rfl, rfl⟩ | ⟨rfl, rfl, rfl⟩ <;> decide
theorem pd_6 : parseMethodDescriptor "(IIIJJ)B" = some ⟨[.int, .int, .int, .long, .long], some .byte⟩ := by decide +kernel
theorem pd_7 : parseMethodDescriptor "([BIB)V" = some ⟨[(.array .byte), .int, .byte], none⟩ := by decide +kernel
theorem pd_8 : parseMethodDescriptor "([B)[B" = some ⟨[(.array .byte)], some (.array .byte)⟩ := by decide +kernel
theorem pd_9 : parseMethodDescriptor "([BIIJJ)Z" = some ⟨[(.array .byte), .int, .int, .long, .long], some .boolean⟩ := by decide +kernel
theorem ef_0 (m : MethodId) (x0 : Int64) (x1 : Int64) (x2 : Int32) : entryFrame m #[(.long x0), (.long x1), (.int x2)] maxLocals = mkF m 0 #[.val (.long x0), .second, .val (.long x1), .second, .val (.int x2), .unset, .unset, .unset, .unset, .unset, .unset, .unset, .unset] [] := by first | (simp [entryFrame, mkF, argsToLocals, Value.category, maxLocals]; done) | rfl
set_option maxRecDepth 65536 in
set_option maxHeartbeats 40000000 in
theorem rm0 (l : Launch) (Z : State) (a0 : Array Value) (hw : ∀ d ∈ tables_1, d.before a0 Z = true) (hS : St Z) (ws : List Jvm.Cond) (q0 : Int64) (q1 : Int64) (p2 : Int32) (h0 : Heap) (n0 : Nat) (O0 : Old Z n0 h0) :
    MetFree l x (head1 (Jvm.Cond.code x code maxLocals ret :: ws) room_1) (fun a U => a = #[(.long q0), (.long q1), (.int p2)] ∧ Z.Warmed39 U.vm ∧ U.heap = h0) (fun _ _ _ _ _ => True) (fun _ U o U' => ∃ v L, o = .returned v ∧ own_Q (fun v hE L => v = some (.int 1) ∧ Fr n0 L ∧ Keep h0 hE []) v U'.heap L ∧ FrameEnd U o U' L room_1.cells room_1.slots) := by
  refine MetFree.of_bodySF (plainFor_of_name pn_0) hisR ?_
  intro p e s m args below meth c s₁ Bd hml0 hP hK
  obtain ⟨rfl, hZ, hh⟩ := hP
  have hx := Bd.exec
  have hby := Bd.bytes
  have hml : c.maxLocals = 13 := hml0
  have hown : s.vm.findClass "com/example/meerkat/meerkat/Base64CodecDecodePinLaw" = some m.cls := findClass_of_methodNamed Bd.named
  have hnm := (name_of_methodNamed Bd.named Bd.method).1
  have X0 : Stand p l e room_1 s m #[(.long q0), (.long q1), (.int p2)] below meth c s₁ [] 0 0 := Stand.of_body Bd
  have e0 : s₁.heap = h0 := by rw [← hh, Bd.state]; rfl
  have N0 := Fr.nil n0
  have pre0 : ∀ t, Steps p.tables e below (s₁.setTop (mkF m 0 #[oJ q0, oS, oJ q1, oS, oI p2, oU, oU, oU, oU, oU, oU, oU, oU] [])) t → Steps p.tables e below (s₁.setTop (entryFrame m #[(.long q0), (.long q1), (.int p2)] maxLocals)) t := fun t k => castTop (ef_0 m q0 q1 p2) k
  obtain ⟨gg, hgg⟩ : ∃ z, z = ((p2 &&& (1 : Int32)) + ((p2 >>> ((1 : Int32) &&& 31)) &&& (1 : Int32))) := ⟨_, rfl⟩
  have rgg : gg = (0 : Int32) ∨ gg = (1 : Int32) ∨ gg = (2 : Int32) := by rw [hgg]; exact rng_g _ _
  obtain ⟨cd, hcd⟩ : ∃ z, z = ((p2 >>> ((2 : Int32) &&& 31)) &&& (3 : Int32)) := ⟨_, rfl⟩
  have rcd : cd = (0 : Int32) ∨ cd = (1 : Int32) ∨ cd = (2 : Int32) ∨ cd = (3 : Int32) := by rw [hcd]; exact rng_mask3 _
  have pre208 : ∀ t, oP p e below s₁ (mkF m 24 #[oJ q0, oS, oJ q1, oS, oI p2, oI gg, oI cd, oU, oU, oU, oU, oU, oU] [(.int 1), (.int cd)]) t → oP p e below s₁ (entryFrame m #[(.long q0), (.long q1), (.int p2)] maxLocals) t := fun t k => pre0 t (by
    show oP p e below s₁ (mkF m 0 #[oJ q0, oS, oJ q1, oS, oI p2, oU, oU, oU, oU, oU, oU, oU, oU] []) _
    refine XS.iload X0.here hx rfl (hb hby at_0) rfl ?_
    show oP p e below s₁ (mkF m 2 #[oJ q0, oS, oJ q1, oS, oI p2, oU, oU, oU, oU, oU, oU, oU, oU] [(.int p2)]) _
    refine XS.iconst X0.here hx rfl (hb hby at_2) ?_
    refine XS.iand X0.here hx rfl (hb hby at_3) rfl ?_
    show oP p e below s₁ (mkF m 4 #[oJ q0, oS, oJ q1, oS, oI p2, oU, oU, oU, oU, oU, oU, oU, oU] [(.int (p2 &&& (1 : Int32)))]) _
    refine XS.iload X0.here hx rfl (hb hby at_4) rfl ?_
    show oP p e below s₁ (mkF m 6 #[oJ q0, oS, oJ q1, oS, oI p2, oU, oU, oU, oU, oU, oU, oU, oU] [(.int p2), (.int (p2 &&& (1 : Int32)))]) _
    refine XS.iconst X0.here hx rfl (hb hby at_6) ?_
    refine XS.ishr X0.here hx rfl (hb hby at_7) rfl ?_
    show oP p e below s₁ (mkF m 8 #[oJ q0, oS, oJ q1, oS, oI p2, oU, oU, oU, oU, oU, oU, oU, oU] [(.int (p2 >>> ((1 : Int32) &&& 31))), (.int (p2 &&& (1 : Int32)))]) _
    refine XS.iconst X0.here hx rfl (hb hby at_8) ?_
    refine XS.iand X0.here hx rfl (hb hby at_9) rfl ?_
    show oP p e below s₁ (mkF m 10 #[oJ q0, oS, oJ q1, oS, oI p2, oU, oU, oU, oU, oU, oU, oU, oU] [(.int ((p2 >>> ((1 : Int32) &&& 31)) &&& (1 : Int32))), (.int (p2 &&& (1 : Int32)))]) _
    refine XS.iadd X0.here hx rfl (hb hby at_10) rfl ?_
    show oP p e below s₁ (mkF m 11 #[oJ q0, oS, oJ q1, oS, oI p2, oU, oU, oU, oU, oU, oU, oU, oU] [(.int ((p2 &&& (1 : Int32)) + ((p2 >>> ((1 : Int32) &&& 31)) &&& (1 : Int32))))]) _
    rw [← hgg]
    show oP p e below s₁ (mkF m 11 #[oJ q0, oS, oJ q1, oS, oI p2, oU, oU, oU, oU, oU, oU, oU, oU] [(.int gg)]) _
    refine XS.istore X0.here hx rfl (hb hby at_11) rfl (l' := #[oJ q0, oS, oJ q1, oS, oI p2, oI gg, oU, oU, oU, oU, oU, oU, oU]) rfl ?_
    show oP p e below s₁ (mkF m 13 #[oJ q0, oS, oJ q1, oS, oI p2, oI gg, oU, oU, oU, oU, oU, oU, oU] []) _
    refine XS.iload X0.here hx rfl (hb hby at_13) rfl ?_
    show oP p e below s₁ (mkF m 15 #[oJ q0, oS, oJ q1, oS, oI p2, oI gg, oU, oU, oU, oU, oU, oU, oU] [(.int p2)]) _
    refine XS.iconst X0.here hx rfl (hb hby at_15) ?_
    refine XS.ishr X0.here hx rfl (hb hby at_16) rfl ?_
    show oP p e below s₁ (mkF m 17 #[oJ q0, oS, oJ q1, oS, oI p2, oI gg, oU, oU, oU, oU, oU, oU, oU] [(.int (p2 >>> ((2 : Int32) &&& 31)))]) _
    refine XS.iconst X0.here hx rfl (hb hby at_17) ?_
    refine XS.iand X0.here hx rfl (hb hby at_18) rfl ?_
    show oP p e below s₁ (mkF m 19 #[oJ q0, oS, oJ q1, oS, oI p2, oI gg, oU, oU, oU, oU, oU, oU, oU] [(.int ((p2 >>> ((2 : Int32) &&& 31)) &&& (3 : Int32)))]) _
    rw [← hcd]
    show oP p e below s₁ (mkF m 19 #[oJ q0, oS, oJ q1, oS, oI p2, oI gg, oU, oU, oU, oU, oU, oU, oU] [(.int cd)]) _
    refine XS.istore X0.here hx rfl (hb hby at_19) rfl (l' := #[oJ q0, oS, oJ q1, oS, oI p2, oI gg, oI cd, oU, oU, oU, oU, oU, oU]) rfl ?_
    show oP p e below s₁ (mkF m 21 #[oJ q0, oS, oJ q1, oS, oI p2, oI gg, oI cd, oU, oU, oU, oU, oU, oU] []) _
    refine XS.iload X0.here hx rfl (hb hby at_21) rfl ?_
    show oP p e below s₁ (mkF m 23 #[oJ q0, oS, oJ q1, oS, oI p2, oI gg, oI cd, oU, oU, oU, oU, oU, oU] [(.int cd)]) _
    refine XS.iconst X0.here hx rfl (hb hby at_23) ?_
    exact k)
  obtain ⟨pa, hpa, pre212⟩ : ∃ pa : Int32, (((cd = (1 : Int32)) ∧ pa = (2 : Int32)) ∨ (¬ (cd = (1 : Int32)) ∧ (cd = (2 : Int32)) ∧ pa = (3 : Int32)) ∨ (¬ (cd = (1 : Int32)) ∧ ¬ (cd = (2 : Int32)) ∧ pa = (0 : Int32))) ∧ ∀ t, oP p e below s₁ (mkF m 42 #[oJ q0, oS, oJ q1, oS, oI p2, oI gg, oI cd, oU, oU, oU, oU, oU, oU] [(.int pa)]) t → oP p e below s₁ (entryFrame m #[(.long q0), (.long q1), (.int p2)] maxLocals) t := by
    by_cases hc209 : cd = (1 : Int32)
    · refine ⟨(2 : Int32), Or.inl ⟨hc209, rfl⟩, fun t k => pre208 t (by
        show oP p e below s₁ (mkF m 24 #[oJ q0, oS, oJ q1, oS, oI p2, oI gg, oI cd, oU, oU, oU, oU, oU, oU] [(.int 1), (.int cd)]) _
        refine XS.icmpNo X0.here hx rfl (hb hby at_24) rfl (teq hc209).2 ?_
        show oP p e below s₁ (mkF m 27 #[oJ q0, oS, oJ q1, oS, oI p2, oI gg, oI cd, oU, oU, oU, oU, oU, oU] []) _
        refine XS.iconst X0.here hx rfl (hb hby at_27) ?_
        refine XS.goto X0.here hx rfl (pc0 := 28) (pc' := 42) rfl (hb hby at_28) (by decide) (by decide) ?_
        exact k)⟩
    · have pre210 : ∀ t, oP p e below s₁ (mkF m 34 #[oJ q0, oS, oJ q1, oS, oI p2, oI gg, oI cd, oU, oU, oU, oU, oU, oU] [(.int 2), (.int cd)]) t → oP p e below s₁ (entryFrame m #[(.long q0), (.long q1), (.int p2)] maxLocals) t := fun t k => pre208 t (by
        show oP p e below s₁ (mkF m 24 #[oJ q0, oS, oJ q1, oS, oI p2, oI gg, oI cd, oU, oU, oU, oU, oU, oU] [(.int 1), (.int cd)]) _
        refine XS.icmpYes X0.here hx rfl (pc0 := 24) (pc' := 31) rfl (hb hby at_24) rfl (feq hc209).2 (by decide) (by decide) ?_
        show oP p e below s₁ (mkF m 31 #[oJ q0, oS, oJ q1, oS, oI p2, oI gg, oI cd, oU, oU, oU, oU, oU, oU] []) _
        refine XS.iload X0.here hx rfl (hb hby at_31) rfl ?_
        show oP p e below s₁ (mkF m 33 #[oJ q0, oS, oJ q1, oS, oI p2, oI gg, oI cd, oU, oU, oU, oU, oU, oU] [(.int cd)]) _
        refine XS.iconst X0.here hx rfl (hb hby at_33) ?_
        exact k)
      by_cases hc211 : cd = (2 : Int32)
      · refine ⟨(3 : Int32), Or.inr (Or.inl ⟨hc209, hc211, rfl⟩), fun t k => pre210 t (by
          show oP p e below s₁ (mkF m 34 #[oJ q0, oS, oJ q1, oS, oI p2, oI gg, oI cd, oU, oU, oU, oU, oU, oU] [(.int 2), (.int cd)]) _
          refine XS.icmpNo X0.here hx rfl (hb hby at_34) rfl (teq hc211).2 ?_
          show oP p e below s₁ (mkF m 37 #[oJ q0, oS, oJ q1, oS, oI p2, oI gg, oI cd, oU, oU, oU, oU, oU, oU] []) _
          refine XS.iconst X0.here hx rfl (hb hby at_37) ?_
          refine XS.goto X0.here hx rfl (pc0 := 38) (pc' := 42) rfl (hb hby at_38) (by decide) (by decide) ?_
          exact k)⟩
      · refine ⟨(0 : Int32), Or.inr (Or.inr (⟨hc209, hc211, rfl⟩)), fun t k => pre210 t (by
          show oP p e below s₁ (mkF m 34 #[oJ q0, oS, oJ q1, oS, oI p2, oI gg, oI cd, oU, oU, oU, oU, oU, oU] [(.int 2), (.int cd)]) _
          refine XS.icmpYes X0.here hx rfl (pc0 := 34) (pc' := 41) rfl (hb hby at_34) rfl (feq hc211).2 (by decide) (by decide) ?_
          show oP p e below s₁ (mkF m 41 #[oJ q0, oS, oJ q1, oS, oI p2, oI gg, oI cd, oU, oU, oU, oU, oU, oU] []) _
          refine XS.iconst X0.here hx rfl (hb hby at_41) ?_
          exact k)⟩
  have pre213 : ∀ t, oP p e below s₁ (mkF m 50 #[oJ q0, oS, oJ q1, oS, oI p2, oI gg, oI cd, oI pa, oU, oU, oU, oU, oU] [(.int ((p2 >>> ((4 : Int32) &&& 31)) &&& (1 : Int32)))]) t → oP p e below s₁ (entryFrame m #[(.long q0), (.long q1), (.int p2)] maxLocals) t := fun t k => pre212 t (by
    show oP p e below s₁ (mkF m 42 #[oJ q0, oS, oJ q1, oS, oI p2, oI gg, oI cd, oU, oU, oU, oU, oU, oU] [(.int pa)]) _
    refine XS.istore X0.here hx rfl (hb hby at_42) rfl (l' := #[oJ q0, oS, oJ q1, oS, oI p2, oI gg, oI cd, oI pa, oU, oU, oU, oU, oU]) rfl ?_
    show oP p e below s₁ (mkF m 44 #[oJ q0, oS, oJ q1, oS, oI p2, oI gg, oI cd, oI pa, oU, oU, oU, oU, oU] []) _
    refine XS.iload X0.here hx rfl (hb hby at_44) rfl ?_
    show oP p e below s₁ (mkF m 46 #[oJ q0, oS, oJ q1, oS, oI p2, oI gg, oI cd, oI pa, oU, oU, oU, oU, oU] [(.int p2)]) _
    refine XS.iconst X0.here hx rfl (hb hby at_46) ?_
    refine XS.ishr X0.here hx rfl (hb hby at_47) rfl ?_
    show oP p e below s₁ (mkF m 48 #[oJ q0, oS, oJ q1, oS, oI p2, oI gg, oI cd, oI pa, oU, oU, oU, oU, oU] [(.int (p2 >>> ((4 : Int32) &&& 31)))]) _
    refine XS.iconst X0.here hx rfl (hb hby at_48) ?_
    refine XS.iand X0.here hx rfl (hb hby at_49) rfl ?_
    exact k)
  obtain ⟨pd, hpd, pre217⟩ : ∃ pd : Int32, (((((p2 >>> ((4 : Int32) &&& 31)) &&& (1 : Int32)) = (0 : Int32)) ∧ pd = (0 : Int32)) ∨ (¬ (((p2 >>> ((4 : Int32) &&& 31)) &&& (1 : Int32)) = (0 : Int32)) ∧ ((0 : Int32) < pa) ∧ pd = ((4 : Int32) - pa)) ∨ (¬ (((p2 >>> ((4 : Int32) &&& 31)) &&& (1 : Int32)) = (0 : Int32)) ∧ ¬ ((0 : Int32) < pa) ∧ pd = (0 : Int32))) ∧ ∀ t, oP p e below s₁ (mkF m 66 #[oJ q0, oS, oJ q1, oS, oI p2, oI gg, oI cd, oI pa, oU, oU, oU, oU, oU] [(.int pd)]) t → oP p e below s₁ (entryFrame m #[(.long q0), (.long q1), (.int p2)] maxLocals) t := by
    by_cases hc214 : ((p2 >>> ((4 : Int32) &&& 31)) &&& (1 : Int32)) = (0 : Int32)
    · refine ⟨(0 : Int32), Or.inl ⟨hc214, rfl⟩, fun t k => pre213 t (by
        show oP p e below s₁ (mkF m 50 #[oJ q0, oS, oJ q1, oS, oI p2, oI gg, oI cd, oI pa, oU, oU, oU, oU, oU] [(.int ((p2 >>> ((4 : Int32) &&& 31)) &&& (1 : Int32)))]) _
        refine XS.ifYes X0.here hx rfl (pc0 := 50) (pc' := 65) rfl (hb hby at_50) rfl ((if0 _ _).trans (teq hc214).1) (by decide) (by decide) ?_
        show oP p e below s₁ (mkF m 65 #[oJ q0, oS, oJ q1, oS, oI p2, oI gg, oI cd, oI pa, oU, oU, oU, oU, oU] []) _
        refine XS.iconst X0.here hx rfl (hb hby at_65) ?_
        exact k)⟩
    · have pre215 : ∀ t, oP p e below s₁ (mkF m 55 #[oJ q0, oS, oJ q1, oS, oI p2, oI gg, oI cd, oI pa, oU, oU, oU, oU, oU] [(.int pa)]) t → oP p e below s₁ (entryFrame m #[(.long q0), (.long q1), (.int p2)] maxLocals) t := fun t k => pre213 t (by
        show oP p e below s₁ (mkF m 50 #[oJ q0, oS, oJ q1, oS, oI p2, oI gg, oI cd, oI pa, oU, oU, oU, oU, oU] [(.int ((p2 >>> ((4 : Int32) &&& 31)) &&& (1 : Int32)))]) _
        refine XS.ifNo X0.here hx rfl (hb hby at_50) rfl ((if0 _ _).trans (feq hc214).1) ?_
        show oP p e below s₁ (mkF m 53 #[oJ q0, oS, oJ q1, oS, oI p2, oI gg, oI cd, oI pa, oU, oU, oU, oU, oU] []) _
        refine XS.iload X0.here hx rfl (hb hby at_53) rfl ?_
        exact k)
      by_cases hc216 : (0 : Int32) < pa
      · refine ⟨((4 : Int32) - pa), Or.inr (Or.inl ⟨hc214, hc216, rfl⟩), fun t k => pre215 t (by
          show oP p e below s₁ (mkF m 55 #[oJ q0, oS, oJ q1, oS, oI p2, oI gg, oI cd, oI pa, oU, oU, oU, oU, oU] [(.int pa)]) _
          refine XS.ifNo X0.here hx rfl (hb hby at_55) rfl ((if0 _ _).trans (tlt hc216).2.2.2) ?_
          show oP p e below s₁ (mkF m 58 #[oJ q0, oS, oJ q1, oS, oI p2, oI gg, oI cd, oI pa, oU, oU, oU, oU, oU] []) _
          refine XS.iconst X0.here hx rfl (hb hby at_58) ?_
          refine XS.iload X0.here hx rfl (hb hby at_59) rfl ?_
          show oP p e below s₁ (mkF m 61 #[oJ q0, oS, oJ q1, oS, oI p2, oI gg, oI cd, oI pa, oU, oU, oU, oU, oU] [(.int pa), (.int 4)]) _
          refine XS.isub X0.here hx rfl (hb hby at_61) rfl ?_
          show oP p e below s₁ (mkF m 62 #[oJ q0, oS, oJ q1, oS, oI p2, oI gg, oI cd, oI pa, oU, oU, oU, oU, oU] [(.int ((4 : Int32) - pa))]) _
          refine XS.goto X0.here hx rfl (pc0 := 62) (pc' := 66) rfl (hb hby at_62) (by decide) (by decide) ?_
          exact k)⟩
      · refine ⟨(0 : Int32), Or.inr (Or.inr (⟨hc214, hc216, rfl⟩)), fun t k => pre215 t (by
          show oP p e below s₁ (mkF m 55 #[oJ q0, oS, oJ q1, oS, oI p2, oI gg, oI cd, oI pa, oU, oU, oU, oU, oU] [(.int pa)]) _
          refine XS.ifYes X0.here hx rfl (pc0 := 55) (pc' := 65) rfl (hb hby at_55) rfl ((if0 _ _).trans (flt hc216).2.2.2) (by decide) (by decide) ?_
          show oP p e below s₁ (mkF m 65 #[oJ q0, oS, oJ q1, oS, oI p2, oI gg, oI cd, oI pa, oU, oU, oU, oU, oU] []) _
          refine XS.iconst X0.here hx rfl (hb hby at_65) ?_
          exact k)⟩
  have rp : pa = 2 ∨ pa = 3 ∨ pa = 0 := by rcases hpa with ⟨-, h⟩ | ⟨-, -, h⟩ | ⟨-, -, h⟩ <;> simp [h]
  have rd : pd = 0 ∨ (0 < pa ∧ pd = 4 - pa) := by rcases hpd with ⟨-, h⟩ | ⟨-, h1, h2⟩ | ⟨-, -, h⟩ <;> first | exact Or.inl h | exact Or.inr ⟨h1, h2⟩
  have hcmb := own_combo rgg rp rd
  obtain ⟨hln, hlc⟩ := own_clen hcmb
  obtain ⟨T218, h218, k218, X218, e218, E218, A218, st218⟩ := newP X0 hx hZ (wi hw 0 rfl) e0 (g := (mkF m 82 #[oJ q0, oS, oJ q1, oS, oI p2, oI gg, oI cd, oI pa, oI pd, oI ((((4 : Int32) * gg) + pa) + pd), oU, oU, oU] [(.int ((((4 : Int32) * gg) + pa) + pd))])) rfl (hb hby at_82) rfl hln (cap := 12) hlc (by decide) (by decide) (by decide)
  obtain ⟨b218, g218⟩ : ∃ z, z = h0.size := ⟨_, rfl⟩
  have g_b218 : n0 ≤ b218 := Nat.le_trans (own_old_le O0) (Nat.le_of_eq g218.symm)
  have sz_b218 : h0.size ≤ b218 := Nat.le_trans (Keep.refl h0 []).1 (Nat.le_of_eq g218.symm)
  rw [← g218] at A218 st218
  have O218 := O0.ext E218
  have Kc218 := (Keep.refl h0 []).ext E218
  have V218 : Arv Z h218 b218 k218 .byte ((((4 : Int32) * gg) + pa) + pd) [(.int 0), (.int 0), (.int 0), (.int 0), (.int 0), (.int 0), (.int 0), (.int 0), (.int 0), (.int 0), (.int 0), (.int 0)] (.int 0) := (Arv.new A218 hln).pad (pad_rep [] (.int 0) 12)
  obtain ⟨_, _, ⟨T219, L219, k219, n219⟩, -, X219, ⟨Lc219, hQ219, l219, y219, z219⟩, st219⟩ := Jvm.LawKit.callS X218 hx (y := (⟨"com/example/meerkat/meerkat/Base64CodecDecodePinLaw", "at", "(IIIJJ)B"⟩ : MethodName)) hown (mvT hZ (wi hw 1 rfl)) (mvT hZ (wi hw 2 rfl)) (mvT hZ (wi hw 3 rfl)) (mvT hZ (wi hw 4 rfl)) (by decide) (backOf (W := 2) (rm1 l Z a0 hw hS [] (0 : Int32) gg pa q0 q1 h218 n0 O218) hZ (wi hw 4 rfl) (wi hw 3 rfl) (by decide) (by decide)) (g := (mkF m 96 #[oJ q0, oS, oJ q1, oS, oI p2, oI gg, oI cd, oI pa, oI pd, oI ((((4 : Int32) * gg) + pa) + pd), oR b218, oU, oU] [(.long q1), (.long q0), (.int pa), (.int gg), (.int 0), (.int 0), (.ref b218)])) rfl (by rw [hml]; rfl) (argsL := [(.int 0), (.int gg), (.int pa), (.long q0), (.long q1)]) (rest := [(.int 0), (.ref b218)]) (lenOf pd_6 rfl) rfl (by show 2 * 0 + _ ≤ _; exact Nat.le_of_eq rfl) (hb hby at_96) (fun _ _ => ⟨rfl, e218, (by decide : 1 + 0 ≤ _), (by decide : 12 + 0 ≤ _)⟩)
  dsimp only [Pt.U, Pt.locs, Pt.cells, Pt.slots] at X219 l219 y219 z219 st219 hQ219
  subst l219 y219 z219
  obtain ⟨v219, N219q, h219q⟩ := hQ219
  subst v219
  have N219 := Fr.app N0 N219q
  obtain ⟨_, _, ⟨T220, L220, k220, n220⟩, -, X220, ⟨Lc220, hQ220, l220, y220, z220⟩, st220⟩ := Jvm.LawKit.callS X219 hx (y := (⟨"com/example/meerkat/meerkat/Base64CodecDecodePinLaw", "put", "([BIB)V"⟩ : MethodName)) hown (mvT hZ (wi hw 5 rfl)) (mvT hZ (wi hw 6 rfl)) (mvT hZ (wi hw 3 rfl)) (mvT hZ (wi hw 7 rfl)) (by decide) (backOf (W := 0) (rm2 l Z a0 hw hS [] b218 (0 : Int32) (fn1 Z (0 : Int32) gg pa q0 q1) k218 ((((4 : Int32) * gg) + pa) + pd) [(.int 0), (.int 0), (.int 0), (.int 0), (.int 0), (.int 0), (.int 0), (.int 0), (.int 0), (.int 0), (.int 0), (.int 0)] h218 n0 O218 V218 g_b218 (by decide) (Nat.lt_of_lt_of_le (by decide : _ < 12) (Nat.le_of_eq rfl))) hZ (wi hw 7 rfl) (wi hw 3 rfl) (by decide) (by decide)) (g := (mkF m 99 #[oJ q0, oS, oJ q1, oS, oI p2, oI gg, oI cd, oI pa, oI pd, oI ((((4 : Int32) * gg) + pa) + pd), oR b218, oU, oU] [(.int (fn1 Z (0 : Int32) gg pa q0 q1)), (.int 0), (.ref b218)])) rfl (by rw [hml]; rfl) (argsL := [(.ref b218), (.int 0), (.int (fn1 Z (0 : Int32) gg pa q0 q1))]) (rest := []) (lenOf pd_7 rfl) rfl (by show 2 * 0 + _ ≤ _; exact Nat.le_of_eq rfl) (hb hby at_99) (fun _ _ => ⟨rfl, h219q, (by decide : 1 + 0 ≤ _), (by decide : 12 + 0 ≤ _)⟩)
  dsimp only [Pt.U, Pt.locs, Pt.cells, Pt.slots] at X220 l220 y220 z220 st220 hQ220
  subst l220 y220 z220
  obtain ⟨v220, N220q, K220q, po220_0⟩ := hQ220
  subst v220
  have N220 := Fr.app N219 N220q
  have O220 := O218.keep K220q (allS g_b218 all0)
  have Kc220 := Kc218.trans K220q (allS (Or.inr sz_b218) all0)
  have Vp220 : Arv Z T220.heap b218 k218 .byte ((((4 : Int32) * gg) + pa) + pd) [(.int ((fn1 Z (0 : Int32) gg pa q0 q1).toInt8.toInt32)), (.int 0), (.int 0), (.int 0), (.int 0), (.int 0), (.int 0), (.int 0), (.int 0), (.int 0), (.int 0), (.int 0)] (.int 0) := po220_0
  obtain ⟨_, _, ⟨T221, L221, k221, n221⟩, -, X221, ⟨Lc221, hQ221, l221, y221, z221⟩, st221⟩ := Jvm.LawKit.callS X220 hx (y := (⟨"com/example/meerkat/meerkat/Base64CodecDecodePinLaw", "at", "(IIIJJ)B"⟩ : MethodName)) hown (mvT hZ (wi hw 1 rfl)) (mvT hZ (wi hw 2 rfl)) (mvT hZ (wi hw 3 rfl)) (mvT hZ (wi hw 4 rfl)) (by decide) (backOf (W := 2) (rm1 l Z a0 hw hS [] (1 : Int32) gg pa q0 q1 T220.heap n0 O220) hZ (wi hw 4 rfl) (wi hw 3 rfl) (by decide) (by decide)) (g := (mkF m 112 #[oJ q0, oS, oJ q1, oS, oI p2, oI gg, oI cd, oI pa, oI pd, oI ((((4 : Int32) * gg) + pa) + pd), oR b218, oU, oU] [(.long q1), (.long q0), (.int pa), (.int gg), (.int 1), (.int 1), (.ref b218)])) rfl (by rw [hml]; rfl) (argsL := [(.int 1), (.int gg), (.int pa), (.long q0), (.long q1)]) (rest := [(.int 1), (.ref b218)]) (lenOf pd_6 rfl) rfl (by show 2 * 0 + _ ≤ _; exact Nat.le_of_eq rfl) (hb hby at_112) (fun _ _ => ⟨rfl, rfl, (by decide : 1 + 0 ≤ _), (by decide : 12 + 0 ≤ _)⟩)
  dsimp only [Pt.U, Pt.locs, Pt.cells, Pt.slots] at X221 l221 y221 z221 st221 hQ221
  subst l221 y221 z221
  obtain ⟨v221, N221q, h221q⟩ := hQ221
  subst v221
  have N221 := Fr.app N220 N221q
  obtain ⟨_, _, ⟨T222, L222, k222, n222⟩, -, X222, ⟨Lc222, hQ222, l222, y222, z222⟩, st222⟩ := Jvm.LawKit.callS X221 hx (y := (⟨"com/example/meerkat/meerkat/Base64CodecDecodePinLaw", "put", "([BIB)V"⟩ : MethodName)) hown (mvT hZ (wi hw 5 rfl)) (mvT hZ (wi hw 6 rfl)) (mvT hZ (wi hw 3 rfl)) (mvT hZ (wi hw 7 rfl)) (by decide) (backOf (W := 0) (rm2 l Z a0 hw hS [] b218 (1 : Int32) (fn1 Z (1 : Int32) gg pa q0 q1) k218 ((((4 : Int32) * gg) + pa) + pd) [(.int ((fn1 Z (0 : Int32) gg pa q0 q1).toInt8.toInt32)), (.int 0), (.int 0), (.int 0), (.int 0), (.int 0), (.int 0), (.int 0), (.int 0), (.int 0), (.int 0), (.int 0)] T220.heap n0 O220 Vp220 g_b218 (by decide) (Nat.lt_of_lt_of_le (by decide : _ < 12) (Nat.le_of_eq rfl))) hZ (wi hw 7 rfl) (wi hw 3 rfl) (by decide) (by decide)) (g := (mkF m 115 #[oJ q0, oS, oJ q1, oS, oI p2, oI gg, oI cd, oI pa, oI pd, oI ((((4 : Int32) * gg) + pa) + pd), oR b218, oU, oU] [(.int (fn1 Z (1 : Int32) gg pa q0 q1)), (.int 1), (.ref b218)])) rfl (by rw [hml]; rfl) (argsL := [(.ref b218), (.int 1), (.int (fn1 Z (1 : Int32) gg pa q0 q1))]) (rest := []) (lenOf pd_7 rfl) rfl (by show 2 * 0 + _ ≤ _; exact Nat.le_of_eq rfl) (hb hby at_115) (fun _ _ => ⟨rfl, h221q, (by decide : 1 + 0 ≤ _), (by decide : 12 + 0 ≤ _)⟩)
  dsimp only [Pt.U, Pt.locs, Pt.cells, Pt.slots] at X222 l222 y222 z222 st222 hQ222
  subst l222 y222 z222
  obtain ⟨v222, N222q, K222q, po222_0⟩ := hQ222
  subst v222
  have N222 := Fr.app N221 N222q
  have O222 := O220.keep K222q (allS g_b218 all0)
  have Kc222 := Kc220.trans K222q (allS (Or.inr sz_b218) all0)
  have Vp222 : Arv Z T222.heap b218 k218 .byte ((((4 : Int32) * gg) + pa) + pd) [(.int ((fn1 Z (0 : Int32) gg pa q0 q1).toInt8.toInt32)), (.int ((fn1 Z (1 : Int32) gg pa q0 q1).toInt8.toInt32)), (.int 0), (.int 0), (.int 0), (.int 0), (.int 0), (.int 0), (.int 0), (.int 0), (.int 0), (.int 0)] (.int 0) := po222_0
  obtain ⟨_, _, ⟨T223, L223, k223, n223⟩, -, X223, ⟨Lc223, hQ223, l223, y223, z223⟩, st223⟩ := Jvm.LawKit.callS X222 hx (y := (⟨"com/example/meerkat/meerkat/Base64CodecDecodePinLaw", "at", "(IIIJJ)B"⟩ : MethodName)) hown (mvT hZ (wi hw 1 rfl)) (mvT hZ (wi hw 2 rfl)) (mvT hZ (wi hw 3 rfl)) (mvT hZ (wi hw 4 rfl)) (by decide) (backOf (W := 2) (rm1 l Z a0 hw hS [] (2 : Int32) gg pa q0 q1 T222.heap n0 O222) hZ (wi hw 4 rfl) (wi hw 3 rfl) (by decide) (by decide)) (g := (mkF m 128 #[oJ q0, oS, oJ q1, oS, oI p2, oI gg, oI cd, oI pa, oI pd, oI ((((4 : Int32) * gg) + pa) + pd), oR b218, oU, oU] [(.long q1), (.long q0), (.int pa), (.int gg), (.int 2), (.int 2), (.ref b218)])) rfl (by rw [hml]; rfl) (argsL := [(.int 2), (.int gg), (.int pa), (.long q0), (.long q1)]) (rest := [(.int 2), (.ref b218)]) (lenOf pd_6 rfl) rfl (by show 2 * 0 + _ ≤ _; exact Nat.le_of_eq rfl) (hb hby at_128) (fun _ _ => ⟨rfl, rfl, (by decide : 1 + 0 ≤ _), (by decide : 12 + 0 ≤ _)⟩)
  dsimp only [Pt.U, Pt.locs, Pt.cells, Pt.slots] at X223 l223 y223 z223 st223 hQ223
  subst l223 y223 z223
  obtain ⟨v223, N223q, h223q⟩ := hQ223
  subst v223
  have N223 := Fr.app N222 N223q
  obtain ⟨lo224, X224, N224⟩ := own_hide X223 N223
  obtain ⟨_, _, ⟨T225, L225, k225, n225⟩, -, X225, ⟨Lc225, hQ225, l225, y225, z225⟩, st225⟩ := Jvm.LawKit.callS X224 hx (y := (⟨"com/example/meerkat/meerkat/Base64CodecDecodePinLaw", "put", "([BIB)V"⟩ : MethodName)) hown (mvT hZ (wi hw 5 rfl)) (mvT hZ (wi hw 6 rfl)) (mvT hZ (wi hw 3 rfl)) (mvT hZ (wi hw 7 rfl)) (by decide) (backOf (W := 0) (rm2 l Z a0 hw hS [] b218 (2 : Int32) (fn1 Z (2 : Int32) gg pa q0 q1) k218 ((((4 : Int32) * gg) + pa) + pd) [(.int ((fn1 Z (0 : Int32) gg pa q0 q1).toInt8.toInt32)), (.int ((fn1 Z (1 : Int32) gg pa q0 q1).toInt8.toInt32)), (.int 0), (.int 0), (.int 0), (.int 0), (.int 0), (.int 0), (.int 0), (.int 0), (.int 0), (.int 0)] T222.heap n0 O222 Vp222 g_b218 (by decide) (Nat.lt_of_lt_of_le (by decide : _ < 12) (Nat.le_of_eq rfl))) hZ (wi hw 7 rfl) (wi hw 3 rfl) (by decide) (by decide)) (g := (mkF m 131 #[oJ q0, oS, oJ q1, oS, oI p2, oI gg, oI cd, oI pa, oI pd, oI ((((4 : Int32) * gg) + pa) + pd), oR b218, oU, oU] [(.int (fn1 Z (2 : Int32) gg pa q0 q1)), (.int 2), (.ref b218)])) rfl (by rw [hml]; rfl) (argsL := [(.ref b218), (.int 2), (.int (fn1 Z (2 : Int32) gg pa q0 q1))]) (rest := []) (lenOf pd_7 rfl) rfl (by show 2 * 0 + _ ≤ _; exact Nat.le_of_eq rfl) (hb hby at_131) (fun _ _ => ⟨rfl, h223q, (by decide : 1 + 0 ≤ _), (by decide : 12 + 0 ≤ _)⟩)
  dsimp only [Pt.U, Pt.locs, Pt.cells, Pt.slots] at X225 l225 y225 z225 st225 hQ225
  subst l225 y225 z225
  obtain ⟨v225, N225q, K225q, po225_0⟩ := hQ225
  subst v225
  have N225 := Fr.app N224 N225q
  have O225 := O222.keep K225q (allS g_b218 all0)
  have Kc225 := Kc222.trans K225q (allS (Or.inr sz_b218) all0)
  have Vp225 : Arv Z T225.heap b218 k218 .byte ((((4 : Int32) * gg) + pa) + pd) [(.int ((fn1 Z (0 : Int32) gg pa q0 q1).toInt8.toInt32)), (.int ((fn1 Z (1 : Int32) gg pa q0 q1).toInt8.toInt32)), (.int ((fn1 Z (2 : Int32) gg pa q0 q1).toInt8.toInt32)), (.int 0), (.int 0), (.int 0), (.int 0), (.int 0), (.int 0), (.int 0), (.int 0), (.int 0)] (.int 0) := po225_0
  obtain ⟨_, _, ⟨T226, L226, k226, n226⟩, -, X226, ⟨Lc226, hQ226, l226, y226, z226⟩, st226⟩ := Jvm.LawKit.callS X225 hx (y := (⟨"com/example/meerkat/meerkat/Base64CodecDecodePinLaw", "at", "(IIIJJ)B"⟩ : MethodName)) hown (mvT hZ (wi hw 1 rfl)) (mvT hZ (wi hw 2 rfl)) (mvT hZ (wi hw 3 rfl)) (mvT hZ (wi hw 4 rfl)) (by decide) (backOf (W := 2) (rm1 l Z a0 hw hS [] (3 : Int32) gg pa q0 q1 T225.heap n0 O225) hZ (wi hw 4 rfl) (wi hw 3 rfl) (by decide) (by decide)) (g := (mkF m 144 #[oJ q0, oS, oJ q1, oS, oI p2, oI gg, oI cd, oI pa, oI pd, oI ((((4 : Int32) * gg) + pa) + pd), oR b218, oU, oU] [(.long q1), (.long q0), (.int pa), (.int gg), (.int 3), (.int 3), (.ref b218)])) rfl (by rw [hml]; rfl) (argsL := [(.int 3), (.int gg), (.int pa), (.long q0), (.long q1)]) (rest := [(.int 3), (.ref b218)]) (lenOf pd_6 rfl) rfl (by show 2 * 0 + _ ≤ _; exact Nat.le_of_eq rfl) (hb hby at_144) (fun _ _ => ⟨rfl, rfl, (by decide : 1 + 0 ≤ _), (by decide : 12 + 0 ≤ _)⟩)
  dsimp only [Pt.U, Pt.locs, Pt.cells, Pt.slots] at X226 l226 y226 z226 st226 hQ226
  subst l226 y226 z226
  obtain ⟨v226, N226q, h226q⟩ := hQ226
  subst v226
  have N226 := Fr.app N225 N226q
  obtain ⟨_, _, ⟨T227, L227, k227, n227⟩, -, X227, ⟨Lc227, hQ227, l227, y227, z227⟩, st227⟩ := Jvm.LawKit.callS X226 hx (y := (⟨"com/example/meerkat/meerkat/Base64CodecDecodePinLaw", "put", "([BIB)V"⟩ : MethodName)) hown (mvT hZ (wi hw 5 rfl)) (mvT hZ (wi hw 6 rfl)) (mvT hZ (wi hw 3 rfl)) (mvT hZ (wi hw 7 rfl)) (by decide) (backOf (W := 0) (rm2 l Z a0 hw hS [] b218 (3 : Int32) (fn1 Z (3 : Int32) gg pa q0 q1) k218 ((((4 : Int32) * gg) + pa) + pd) [(.int ((fn1 Z (0 : Int32) gg pa q0 q1).toInt8.toInt32)), (.int ((fn1 Z (1 : Int32) gg pa q0 q1).toInt8.toInt32)), (.int ((fn1 Z (2 : Int32) gg pa q0 q1).toInt8.toInt32)), (.int 0), (.int 0), (.int 0), (.int 0), (.int 0), (.int 0), (.int 0), (.int 0), (.int 0)] T225.heap n0 O225 Vp225 g_b218 (by decide) (Nat.lt_of_lt_of_le (by decide : _ < 12) (Nat.le_of_eq rfl))) hZ (wi hw 7 rfl) (wi hw 3 rfl) (by decide) (by decide)) (g := (mkF m 147 #[oJ q0, oS, oJ q1, oS, oI p2, oI gg, oI cd, oI pa, oI pd, oI ((((4 : Int32) * gg) + pa) + pd), oR b218, oU, oU] [(.int (fn1 Z (3 : Int32) gg pa q0 q1)), (.int 3), (.ref b218)])) rfl (by rw [hml]; rfl) (argsL := [(.ref b218), (.int 3), (.int (fn1 Z (3 : Int32) gg pa q0 q1))]) (rest := []) (lenOf pd_7 rfl) rfl (by show 2 * 0 + _ ≤ _; exact Nat.le_of_eq rfl) (hb hby at_147) (fun _ _ => ⟨rfl, h226q, (by decide : 1 + 0 ≤ _), (by decide : 12 + 0 ≤ _)⟩)
  dsimp only [Pt.U, Pt.locs, Pt.cells, Pt.slots] at X227 l227 y227 z227 st227 hQ227
  subst l227 y227 z227
  obtain ⟨v227, N227q, K227q, po227_0⟩ := hQ227
  subst v227
  have N227 := Fr.app N226 N227q
  have O227 := O225.keep K227q (allS g_b218 all0)
  have Kc227 := Kc225.trans K227q (allS (Or.inr sz_b218) all0)
  have Vp227 : Arv Z T227.heap b218 k218 .byte ((((4 : Int32) * gg) + pa) + pd) [(.int ((fn1 Z (0 : Int32) gg pa q0 q1).toInt8.toInt32)), (.int ((fn1 Z (1 : Int32) gg pa q0 q1).toInt8.toInt32)), (.int ((fn1 Z (2 : Int32) gg pa q0 q1).toInt8.toInt32)), (.int ((fn1 Z (3 : Int32) gg pa q0 q1).toInt8.toInt32)), (.int 0), (.int 0), (.int 0), (.int 0), (.int 0), (.int 0), (.int 0), (.int 0)] (.int 0) := po227_0
  obtain ⟨_, _, ⟨T228, L228, k228, n228⟩, -, X228, ⟨Lc228, hQ228, l228, y228, z228⟩, st228⟩ := Jvm.LawKit.callS X227 hx (y := (⟨"com/example/meerkat/meerkat/Base64CodecDecodePinLaw", "at", "(IIIJJ)B"⟩ : MethodName)) hown (mvT hZ (wi hw 1 rfl)) (mvT hZ (wi hw 2 rfl)) (mvT hZ (wi hw 3 rfl)) (mvT hZ (wi hw 4 rfl)) (by decide) (backOf (W := 2) (rm1 l Z a0 hw hS [] (4 : Int32) gg pa q0 q1 T227.heap n0 O227) hZ (wi hw 4 rfl) (wi hw 3 rfl) (by decide) (by decide)) (g := (mkF m 160 #[oJ q0, oS, oJ q1, oS, oI p2, oI gg, oI cd, oI pa, oI pd, oI ((((4 : Int32) * gg) + pa) + pd), oR b218, oU, oU] [(.long q1), (.long q0), (.int pa), (.int gg), (.int 4), (.int 4), (.ref b218)])) rfl (by rw [hml]; rfl) (argsL := [(.int 4), (.int gg), (.int pa), (.long q0), (.long q1)]) (rest := [(.int 4), (.ref b218)]) (lenOf pd_6 rfl) rfl (by show 2 * 0 + _ ≤ _; exact Nat.le_of_eq rfl) (hb hby at_160) (fun _ _ => ⟨rfl, rfl, (by decide : 1 + 0 ≤ _), (by decide : 12 + 0 ≤ _)⟩)
  dsimp only [Pt.U, Pt.locs, Pt.cells, Pt.slots] at X228 l228 y228 z228 st228 hQ228
  subst l228 y228 z228
  obtain ⟨v228, N228q, h228q⟩ := hQ228
  subst v228
  have N228 := Fr.app N227 N228q
  obtain ⟨_, _, ⟨T229, L229, k229, n229⟩, -, X229, ⟨Lc229, hQ229, l229, y229, z229⟩, st229⟩ := Jvm.LawKit.callS X228 hx (y := (⟨"com/example/meerkat/meerkat/Base64CodecDecodePinLaw", "put", "([BIB)V"⟩ : MethodName)) hown (mvT hZ (wi hw 5 rfl)) (mvT hZ (wi hw 6 rfl)) (mvT hZ (wi hw 3 rfl)) (mvT hZ (wi hw 7 rfl)) (by decide) (backOf (W := 0) (rm2 l Z a0 hw hS [] b218 (4 : Int32) (fn1 Z (4 : Int32) gg pa q0 q1) k218 ((((4 : Int32) * gg) + pa) + pd) [(.int ((fn1 Z (0 : Int32) gg pa q0 q1).toInt8.toInt32)), (.int ((fn1 Z (1 : Int32) gg pa q0 q1).toInt8.toInt32)), (.int ((fn1 Z (2 : Int32) gg pa q0 q1).toInt8.toInt32)), (.int ((fn1 Z (3 : Int32) gg pa q0 q1).toInt8.toInt32)), (.int 0), (.int 0), (.int 0), (.int 0), (.int 0), (.int 0), (.int 0), (.int 0)] T227.heap n0 O227 Vp227 g_b218 (by decide) (Nat.lt_of_lt_of_le (by decide : _ < 12) (Nat.le_of_eq rfl))) hZ (wi hw 7 rfl) (wi hw 3 rfl) (by decide) (by decide)) (g := (mkF m 163 #[oJ q0, oS, oJ q1, oS, oI p2, oI gg, oI cd, oI pa, oI pd, oI ((((4 : Int32) * gg) + pa) + pd), oR b218, oU, oU] [(.int (fn1 Z (4 : Int32) gg pa q0 q1)), (.int 4), (.ref b218)])) rfl (by rw [hml]; rfl) (argsL := [(.ref b218), (.int 4), (.int (fn1 Z (4 : Int32) gg pa q0 q1))]) (rest := []) (lenOf pd_7 rfl) rfl (by show 2 * 0 + _ ≤ _; exact Nat.le_of_eq rfl) (hb hby at_163) (fun _ _ => ⟨rfl, h228q, (by decide : 1 + 0 ≤ _), (by decide : 12 + 0 ≤ _)⟩)
  dsimp only [Pt.U, Pt.locs, Pt.cells, Pt.slots] at X229 l229 y229 z229 st229 hQ229
  subst l229 y229 z229
  obtain ⟨v229, N229q, K229q, po229_0⟩ := hQ229
  subst v229
  have N229 := Fr.app N228 N229q
  have O229 := O227.keep K229q (allS g_b218 all0)
  have Kc229 := Kc227.trans K229q (allS (Or.inr sz_b218) all0)
  have Vp229 : Arv Z T229.heap b218 k218 .byte ((((4 : Int32) * gg) + pa) + pd) [(.int ((fn1 Z (0 : Int32) gg pa q0 q1).toInt8.toInt32)), (.int ((fn1 Z (1 : Int32) gg pa q0 q1).toInt8.toInt32)), (.int ((fn1 Z (2 : Int32) gg pa q0 q1).toInt8.toInt32)), (.int ((fn1 Z (3 : Int32) gg pa q0 q1).toInt8.toInt32)), (.int ((fn1 Z (4 : Int32) gg pa q0 q1).toInt8.toInt32)), (.int 0), (.int 0), (.int 0), (.int 0), (.int 0), (.int 0), (.int 0)] (.int 0) := po229_0
  obtain ⟨lo230, X230, N230⟩ := own_hide X229 N229
  obtain ⟨_, _, ⟨T231, L231, k231, n231⟩, -, X231, ⟨Lc231, hQ231, l231, y231, z231⟩, st231⟩ := Jvm.LawKit.callS X230 hx (y := (⟨"com/example/meerkat/meerkat/Base64CodecDecodePinLaw", "at", "(IIIJJ)B"⟩ : MethodName)) hown (mvT hZ (wi hw 1 rfl)) (mvT hZ (wi hw 2 rfl)) (mvT hZ (wi hw 3 rfl)) (mvT hZ (wi hw 4 rfl)) (by decide) (backOf (W := 2) (rm1 l Z a0 hw hS [] (5 : Int32) gg pa q0 q1 T229.heap n0 O229) hZ (wi hw 4 rfl) (wi hw 3 rfl) (by decide) (by decide)) (g := (mkF m 176 #[oJ q0, oS, oJ q1, oS, oI p2, oI gg, oI cd, oI pa, oI pd, oI ((((4 : Int32) * gg) + pa) + pd), oR b218, oU, oU] [(.long q1), (.long q0), (.int pa), (.int gg), (.int 5), (.int 5), (.ref b218)])) rfl (by rw [hml]; rfl) (argsL := [(.int 5), (.int gg), (.int pa), (.long q0), (.long q1)]) (rest := [(.int 5), (.ref b218)]) (lenOf pd_6 rfl) rfl (by show 2 * 0 + _ ≤ _; exact Nat.le_of_eq rfl) (hb hby at_176) (fun _ _ => ⟨rfl, rfl, (by decide : 1 + 0 ≤ _), (by decide : 12 + 0 ≤ _)⟩)
  dsimp only [Pt.U, Pt.locs, Pt.cells, Pt.slots] at X231 l231 y231 z231 st231 hQ231
  subst l231 y231 z231
  obtain ⟨v231, N231q, h231q⟩ := hQ231
  subst v231
  have N231 := Fr.app N230 N231q
  obtain ⟨_, _, ⟨T232, L232, k232, n232⟩, -, X232, ⟨Lc232, hQ232, l232, y232, z232⟩, st232⟩ := Jvm.LawKit.callS X231 hx (y := (⟨"com/example/meerkat/meerkat/Base64CodecDecodePinLaw", "put", "([BIB)V"⟩ : MethodName)) hown (mvT hZ (wi hw 5 rfl)) (mvT hZ (wi hw 6 rfl)) (mvT hZ (wi hw 3 rfl)) (mvT hZ (wi hw 7 rfl)) (by decide) (backOf (W := 0) (rm2 l Z a0 hw hS [] b218 (5 : Int32) (fn1 Z (5 : Int32) gg pa q0 q1) k218 ((((4 : Int32) * gg) + pa) + pd) [(.int ((fn1 Z (0 : Int32) gg pa q0 q1).toInt8.toInt32)), (.int ((fn1 Z (1 : Int32) gg pa q0 q1).toInt8.toInt32)), (.int ((fn1 Z (2 : Int32) gg pa q0 q1).toInt8.toInt32)), (.int ((fn1 Z (3 : Int32) gg pa q0 q1).toInt8.toInt32)), (.int ((fn1 Z (4 : Int32) gg pa q0 q1).toInt8.toInt32)), (.int 0), (.int 0), (.int 0), (.int 0), (.int 0), (.int 0), (.int 0)] T229.heap n0 O229 Vp229 g_b218 (by decide) (Nat.lt_of_lt_of_le (by decide : _ < 12) (Nat.le_of_eq rfl))) hZ (wi hw 7 rfl) (wi hw 3 rfl) (by decide) (by decide)) (g := (mkF m 179 #[oJ q0, oS, oJ q1, oS, oI p2, oI gg, oI cd, oI pa, oI pd, oI ((((4 : Int32) * gg) + pa) + pd), oR b218, oU, oU] [(.int (fn1 Z (5 : Int32) gg pa q0 q1)), (.int 5), (.ref b218)])) rfl (by rw [hml]; rfl) (argsL := [(.ref b218), (.int 5), (.int (fn1 Z (5 : Int32) gg pa q0 q1))]) (rest := []) (lenOf pd_7 rfl) rfl (by show 2 * 0 + _ ≤ _; exact Nat.le_of_eq rfl) (hb hby at_179) (fun _ _ => ⟨rfl, h231q, (by decide : 1 + 0 ≤ _), (by decide : 12 + 0 ≤ _)⟩)
  dsimp only [Pt.U, Pt.locs, Pt.cells, Pt.slots] at X232 l232 y232 z232 st232 hQ232
  subst l232 y232 z232
  obtain ⟨v232, N232q, K232q, po232_0⟩ := hQ232
  subst v232
  have N232 := Fr.app N231 N232q
  have O232 := O229.keep K232q (allS g_b218 all0)
  have Kc232 := Kc229.trans K232q (allS (Or.inr sz_b218) all0)
  have Vp232 : Arv Z T232.heap b218 k218 .byte ((((4 : Int32) * gg) + pa) + pd) [(.int ((fn1 Z (0 : Int32) gg pa q0 q1).toInt8.toInt32)), (.int ((fn1 Z (1 : Int32) gg pa q0 q1).toInt8.toInt32)), (.int ((fn1 Z (2 : Int32) gg pa q0 q1).toInt8.toInt32)), (.int ((fn1 Z (3 : Int32) gg pa q0 q1).toInt8.toInt32)), (.int ((fn1 Z (4 : Int32) gg pa q0 q1).toInt8.toInt32)), (.int ((fn1 Z (5 : Int32) gg pa q0 q1).toInt8.toInt32)), (.int 0), (.int 0), (.int 0), (.int 0), (.int 0), (.int 0)] (.int 0) := po232_0
  obtain ⟨_, _, ⟨T233, L233, k233, n233⟩, -, X233, ⟨Lc233, hQ233, l233, y233, z233⟩, st233⟩ := Jvm.LawKit.callS X232 hx (y := (⟨"com/example/meerkat/meerkat/Base64CodecDecodePinLaw", "at", "(IIIJJ)B"⟩ : MethodName)) hown (mvT hZ (wi hw 1 rfl)) (mvT hZ (wi hw 2 rfl)) (mvT hZ (wi hw 3 rfl)) (mvT hZ (wi hw 4 rfl)) (by decide) (backOf (W := 2) (rm1 l Z a0 hw hS [] (6 : Int32) gg pa q0 q1 T232.heap n0 O232) hZ (wi hw 4 rfl) (wi hw 3 rfl) (by decide) (by decide)) (g := (mkF m 194 #[oJ q0, oS, oJ q1, oS, oI p2, oI gg, oI cd, oI pa, oI pd, oI ((((4 : Int32) * gg) + pa) + pd), oR b218, oU, oU] [(.long q1), (.long q0), (.int pa), (.int gg), (.int 6), (.int 6), (.ref b218)])) rfl (by rw [hml]; rfl) (argsL := [(.int 6), (.int gg), (.int pa), (.long q0), (.long q1)]) (rest := [(.int 6), (.ref b218)]) (lenOf pd_6 rfl) rfl (by show 2 * 0 + _ ≤ _; exact Nat.le_of_eq rfl) (hb hby at_194) (fun _ _ => ⟨rfl, rfl, (by decide : 1 + 0 ≤ _), (by decide : 12 + 0 ≤ _)⟩)
  dsimp only [Pt.U, Pt.locs, Pt.cells, Pt.slots] at X233 l233 y233 z233 st233 hQ233
  subst l233 y233 z233
  obtain ⟨v233, N233q, h233q⟩ := hQ233
  subst v233
  have N233 := Fr.app N232 N233q
  obtain ⟨_, _, ⟨T234, L234, k234, n234⟩, -, X234, ⟨Lc234, hQ234, l234, y234, z234⟩, st234⟩ := Jvm.LawKit.callS X233 hx (y := (⟨"com/example/meerkat/meerkat/Base64CodecDecodePinLaw", "put", "([BIB)V"⟩ : MethodName)) hown (mvT hZ (wi hw 5 rfl)) (mvT hZ (wi hw 6 rfl)) (mvT hZ (wi hw 3 rfl)) (mvT hZ (wi hw 7 rfl)) (by decide) (backOf (W := 0) (rm2 l Z a0 hw hS [] b218 (6 : Int32) (fn1 Z (6 : Int32) gg pa q0 q1) k218 ((((4 : Int32) * gg) + pa) + pd) [(.int ((fn1 Z (0 : Int32) gg pa q0 q1).toInt8.toInt32)), (.int ((fn1 Z (1 : Int32) gg pa q0 q1).toInt8.toInt32)), (.int ((fn1 Z (2 : Int32) gg pa q0 q1).toInt8.toInt32)), (.int ((fn1 Z (3 : Int32) gg pa q0 q1).toInt8.toInt32)), (.int ((fn1 Z (4 : Int32) gg pa q0 q1).toInt8.toInt32)), (.int ((fn1 Z (5 : Int32) gg pa q0 q1).toInt8.toInt32)), (.int 0), (.int 0), (.int 0), (.int 0), (.int 0), (.int 0)] T232.heap n0 O232 Vp232 g_b218 (by decide) (Nat.lt_of_lt_of_le (by decide : _ < 12) (Nat.le_of_eq rfl))) hZ (wi hw 7 rfl) (wi hw 3 rfl) (by decide) (by decide)) (g := (mkF m 197 #[oJ q0, oS, oJ q1, oS, oI p2, oI gg, oI cd, oI pa, oI pd, oI ((((4 : Int32) * gg) + pa) + pd), oR b218, oU, oU] [(.int (fn1 Z (6 : Int32) gg pa q0 q1)), (.int 6), (.ref b218)])) rfl (by rw [hml]; rfl) (argsL := [(.ref b218), (.int 6), (.int (fn1 Z (6 : Int32) gg pa q0 q1))]) (rest := []) (lenOf pd_7 rfl) rfl (by show 2 * 0 + _ ≤ _; exact Nat.le_of_eq rfl) (hb hby at_197) (fun _ _ => ⟨rfl, h233q, (by decide : 1 + 0 ≤ _), (by decide : 12 + 0 ≤ _)⟩)
  dsimp only [Pt.U, Pt.locs, Pt.cells, Pt.slots] at X234 l234 y234 z234 st234 hQ234
  subst l234 y234 z234
  obtain ⟨v234, N234q, K234q, po234_0⟩ := hQ234
  subst v234
  have N234 := Fr.app N233 N234q
  have O234 := O232.keep K234q (allS g_b218 all0)
  have Kc234 := Kc232.trans K234q (allS (Or.inr sz_b218) all0)
  have Vp234 : Arv Z T234.heap b218 k218 .byte ((((4 : Int32) * gg) + pa) + pd) [(.int ((fn1 Z (0 : Int32) gg pa q0 q1).toInt8.toInt32)), (.int ((fn1 Z (1 : Int32) gg pa q0 q1).toInt8.toInt32)), (.int ((fn1 Z (2 : Int32) gg pa q0 q1).toInt8.toInt32)), (.int ((fn1 Z (3 : Int32) gg pa q0 q1).toInt8.toInt32)), (.int ((fn1 Z (4 : Int32) gg pa q0 q1).toInt8.toInt32)), (.int ((fn1 Z (5 : Int32) gg pa q0 q1).toInt8.toInt32)), (.int ((fn1 Z (6 : Int32) gg pa q0 q1).toInt8.toInt32)), (.int 0), (.int 0), (.int 0), (.int 0), (.int 0)] (.int 0) := po234_0
  obtain ⟨_, _, ⟨T235, L235, k235, n235⟩, -, X235, ⟨Lc235, hQ235, l235, y235, z235⟩, st235⟩ := Jvm.LawKit.callS X234 hx (y := (⟨"com/example/meerkat/meerkat/Base64CodecDecodePinLaw", "at", "(IIIJJ)B"⟩ : MethodName)) hown (mvT hZ (wi hw 1 rfl)) (mvT hZ (wi hw 2 rfl)) (mvT hZ (wi hw 3 rfl)) (mvT hZ (wi hw 4 rfl)) (by decide) (backOf (W := 2) (rm1 l Z a0 hw hS [] (7 : Int32) gg pa q0 q1 T234.heap n0 O234) hZ (wi hw 4 rfl) (wi hw 3 rfl) (by decide) (by decide)) (g := (mkF m 212 #[oJ q0, oS, oJ q1, oS, oI p2, oI gg, oI cd, oI pa, oI pd, oI ((((4 : Int32) * gg) + pa) + pd), oR b218, oU, oU] [(.long q1), (.long q0), (.int pa), (.int gg), (.int 7), (.int 7), (.ref b218)])) rfl (by rw [hml]; rfl) (argsL := [(.int 7), (.int gg), (.int pa), (.long q0), (.long q1)]) (rest := [(.int 7), (.ref b218)]) (lenOf pd_6 rfl) rfl (by show 2 * 0 + _ ≤ _; exact Nat.le_of_eq rfl) (hb hby at_212) (fun _ _ => ⟨rfl, rfl, (by decide : 1 + 0 ≤ _), (by decide : 12 + 0 ≤ _)⟩)
  dsimp only [Pt.U, Pt.locs, Pt.cells, Pt.slots] at X235 l235 y235 z235 st235 hQ235
  subst l235 y235 z235
  obtain ⟨v235, N235q, h235q⟩ := hQ235
  subst v235
  have N235 := Fr.app N234 N235q
  obtain ⟨lo236, X236, N236⟩ := own_hide X235 N235
  obtain ⟨_, _, ⟨T237, L237, k237, n237⟩, -, X237, ⟨Lc237, hQ237, l237, y237, z237⟩, st237⟩ := Jvm.LawKit.callS X236 hx (y := (⟨"com/example/meerkat/meerkat/Base64CodecDecodePinLaw", "put", "([BIB)V"⟩ : MethodName)) hown (mvT hZ (wi hw 5 rfl)) (mvT hZ (wi hw 6 rfl)) (mvT hZ (wi hw 3 rfl)) (mvT hZ (wi hw 7 rfl)) (by decide) (backOf (W := 0) (rm2 l Z a0 hw hS [] b218 (7 : Int32) (fn1 Z (7 : Int32) gg pa q0 q1) k218 ((((4 : Int32) * gg) + pa) + pd) [(.int ((fn1 Z (0 : Int32) gg pa q0 q1).toInt8.toInt32)), (.int ((fn1 Z (1 : Int32) gg pa q0 q1).toInt8.toInt32)), (.int ((fn1 Z (2 : Int32) gg pa q0 q1).toInt8.toInt32)), (.int ((fn1 Z (3 : Int32) gg pa q0 q1).toInt8.toInt32)), (.int ((fn1 Z (4 : Int32) gg pa q0 q1).toInt8.toInt32)), (.int ((fn1 Z (5 : Int32) gg pa q0 q1).toInt8.toInt32)), (.int ((fn1 Z (6 : Int32) gg pa q0 q1).toInt8.toInt32)), (.int 0), (.int 0), (.int 0), (.int 0), (.int 0)] T234.heap n0 O234 Vp234 g_b218 (by decide) (Nat.lt_of_lt_of_le (by decide : _ < 12) (Nat.le_of_eq rfl))) hZ (wi hw 7 rfl) (wi hw 3 rfl) (by decide) (by decide)) (g := (mkF m 215 #[oJ q0, oS, oJ q1, oS, oI p2, oI gg, oI cd, oI pa, oI pd, oI ((((4 : Int32) * gg) + pa) + pd), oR b218, oU, oU] [(.int (fn1 Z (7 : Int32) gg pa q0 q1)), (.int 7), (.ref b218)])) rfl (by rw [hml]; rfl) (argsL := [(.ref b218), (.int 7), (.int (fn1 Z (7 : Int32) gg pa q0 q1))]) (rest := []) (lenOf pd_7 rfl) rfl (by show 2 * 0 + _ ≤ _; exact Nat.le_of_eq rfl) (hb hby at_215) (fun _ _ => ⟨rfl, h235q, (by decide : 1 + 0 ≤ _), (by decide : 12 + 0 ≤ _)⟩)
  dsimp only [Pt.U, Pt.locs, Pt.cells, Pt.slots] at X237 l237 y237 z237 st237 hQ237
  subst l237 y237 z237
  obtain ⟨v237, N237q, K237q, po237_0⟩ := hQ237
  subst v237
  have N237 := Fr.app N236 N237q
  have O237 := O234.keep K237q (allS g_b218 all0)
  have Kc237 := Kc234.trans K237q (allS (Or.inr sz_b218) all0)
  have Vp237 : Arv Z T237.heap b218 k218 .byte ((((4 : Int32) * gg) + pa) + pd) [(.int ((fn1 Z (0 : Int32) gg pa q0 q1).toInt8.toInt32)), (.int ((fn1 Z (1 : Int32) gg pa q0 q1).toInt8.toInt32)), (.int ((fn1 Z (2 : Int32) gg pa q0 q1).toInt8.toInt32)), (.int ((fn1 Z (3 : Int32) gg pa q0 q1).toInt8.toInt32)), (.int ((fn1 Z (4 : Int32) gg pa q0 q1).toInt8.toInt32)), (.int ((fn1 Z (5 : Int32) gg pa q0 q1).toInt8.toInt32)), (.int ((fn1 Z (6 : Int32) gg pa q0 q1).toInt8.toInt32)), (.int ((fn1 Z (7 : Int32) gg pa q0 q1).toInt8.toInt32)), (.int 0), (.int 0), (.int 0), (.int 0)] (.int 0) := po237_0
  obtain ⟨_, _, ⟨T238, L238, k238, n238⟩, -, X238, ⟨Lc238, hQ238, l238, y238, z238⟩, st238⟩ := Jvm.LawKit.callS X237 hx (y := (⟨"com/example/meerkat/meerkat/Base64CodecDecodePinLaw", "at", "(IIIJJ)B"⟩ : MethodName)) hown (mvT hZ (wi hw 1 rfl)) (mvT hZ (wi hw 2 rfl)) (mvT hZ (wi hw 3 rfl)) (mvT hZ (wi hw 4 rfl)) (by decide) (backOf (W := 2) (rm1 l Z a0 hw hS [] (8 : Int32) gg pa q0 q1 T237.heap n0 O237) hZ (wi hw 4 rfl) (wi hw 3 rfl) (by decide) (by decide)) (g := (mkF m 230 #[oJ q0, oS, oJ q1, oS, oI p2, oI gg, oI cd, oI pa, oI pd, oI ((((4 : Int32) * gg) + pa) + pd), oR b218, oU, oU] [(.long q1), (.long q0), (.int pa), (.int gg), (.int 8), (.int 8), (.ref b218)])) rfl (by rw [hml]; rfl) (argsL := [(.int 8), (.int gg), (.int pa), (.long q0), (.long q1)]) (rest := [(.int 8), (.ref b218)]) (lenOf pd_6 rfl) rfl (by show 2 * 0 + _ ≤ _; exact Nat.le_of_eq rfl) (hb hby at_230) (fun _ _ => ⟨rfl, rfl, (by decide : 1 + 0 ≤ _), (by decide : 12 + 0 ≤ _)⟩)
  dsimp only [Pt.U, Pt.locs, Pt.cells, Pt.slots] at X238 l238 y238 z238 st238 hQ238
  subst l238 y238 z238
  obtain ⟨v238, N238q, h238q⟩ := hQ238
  subst v238
  have N238 := Fr.app N237 N238q
  obtain ⟨_, _, ⟨T239, L239, k239, n239⟩, -, X239, ⟨Lc239, hQ239, l239, y239, z239⟩, st239⟩ := Jvm.LawKit.callS X238 hx (y := (⟨"com/example/meerkat/meerkat/Base64CodecDecodePinLaw", "put", "([BIB)V"⟩ : MethodName)) hown (mvT hZ (wi hw 5 rfl)) (mvT hZ (wi hw 6 rfl)) (mvT hZ (wi hw 3 rfl)) (mvT hZ (wi hw 7 rfl)) (by decide) (backOf (W := 0) (rm2 l Z a0 hw hS [] b218 (8 : Int32) (fn1 Z (8 : Int32) gg pa q0 q1) k218 ((((4 : Int32) * gg) + pa) + pd) [(.int ((fn1 Z (0 : Int32) gg pa q0 q1).toInt8.toInt32)), (.int ((fn1 Z (1 : Int32) gg pa q0 q1).toInt8.toInt32)), (.int ((fn1 Z (2 : Int32) gg pa q0 q1).toInt8.toInt32)), (.int ((fn1 Z (3 : Int32) gg pa q0 q1).toInt8.toInt32)), (.int ((fn1 Z (4 : Int32) gg pa q0 q1).toInt8.toInt32)), (.int ((fn1 Z (5 : Int32) gg pa q0 q1).toInt8.toInt32)), (.int ((fn1 Z (6 : Int32) gg pa q0 q1).toInt8.toInt32)), (.int ((fn1 Z (7 : Int32) gg pa q0 q1).toInt8.toInt32)), (.int 0), (.int 0), (.int 0), (.int 0)] T237.heap n0 O237 Vp237 g_b218 (by decide) (Nat.lt_of_lt_of_le (by decide : _ < 12) (Nat.le_of_eq rfl))) hZ (wi hw 7 rfl) (wi hw 3 rfl) (by decide) (by decide)) (g := (mkF m 233 #[oJ q0, oS, oJ q1, oS, oI p2, oI gg, oI cd, oI pa, oI pd, oI ((((4 : Int32) * gg) + pa) + pd), oR b218, oU, oU] [(.int (fn1 Z (8 : Int32) gg pa q0 q1)), (.int 8), (.ref b218)])) rfl (by rw [hml]; rfl) (argsL := [(.ref b218), (.int 8), (.int (fn1 Z (8 : Int32) gg pa q0 q1))]) (rest := []) (lenOf pd_7 rfl) rfl (by show 2 * 0 + _ ≤ _; exact Nat.le_of_eq rfl) (hb hby at_233) (fun _ _ => ⟨rfl, h238q, (by decide : 1 + 0 ≤ _), (by decide : 12 + 0 ≤ _)⟩)
  dsimp only [Pt.U, Pt.locs, Pt.cells, Pt.slots] at X239 l239 y239 z239 st239 hQ239
  subst l239 y239 z239
  obtain ⟨v239, N239q, K239q, po239_0⟩ := hQ239
  subst v239
  have N239 := Fr.app N238 N239q
  have O239 := O237.keep K239q (allS g_b218 all0)
  have Kc239 := Kc237.trans K239q (allS (Or.inr sz_b218) all0)
  have Vp239 : Arv Z T239.heap b218 k218 .byte ((((4 : Int32) * gg) + pa) + pd) [(.int ((fn1 Z (0 : Int32) gg pa q0 q1).toInt8.toInt32)), (.int ((fn1 Z (1 : Int32) gg pa q0 q1).toInt8.toInt32)), (.int ((fn1 Z (2 : Int32) gg pa q0 q1).toInt8.toInt32)), (.int ((fn1 Z (3 : Int32) gg pa q0 q1).toInt8.toInt32)), (.int ((fn1 Z (4 : Int32) gg pa q0 q1).toInt8.toInt32)), (.int ((fn1 Z (5 : Int32) gg pa q0 q1).toInt8.toInt32)), (.int ((fn1 Z (6 : Int32) gg pa q0 q1).toInt8.toInt32)), (.int ((fn1 Z (7 : Int32) gg pa q0 q1).toInt8.toInt32)), (.int ((fn1 Z (8 : Int32) gg pa q0 q1).toInt8.toInt32)), (.int 0), (.int 0), (.int 0)] (.int 0) := po239_0
  obtain ⟨_, _, ⟨T240, L240, k240, n240⟩, -, X240, ⟨Lc240, hQ240, l240, y240, z240⟩, st240⟩ := Jvm.LawKit.callS X239 hx (y := (⟨"com/example/meerkat/meerkat/Base64CodecDecodePinLaw", "at", "(IIIJJ)B"⟩ : MethodName)) hown (mvT hZ (wi hw 1 rfl)) (mvT hZ (wi hw 2 rfl)) (mvT hZ (wi hw 3 rfl)) (mvT hZ (wi hw 4 rfl)) (by decide) (backOf (W := 2) (rm1 l Z a0 hw hS [] (9 : Int32) gg pa q0 q1 T239.heap n0 O239) hZ (wi hw 4 rfl) (wi hw 3 rfl) (by decide) (by decide)) (g := (mkF m 248 #[oJ q0, oS, oJ q1, oS, oI p2, oI gg, oI cd, oI pa, oI pd, oI ((((4 : Int32) * gg) + pa) + pd), oR b218, oU, oU] [(.long q1), (.long q0), (.int pa), (.int gg), (.int 9), (.int 9), (.ref b218)])) rfl (by rw [hml]; rfl) (argsL := [(.int 9), (.int gg), (.int pa), (.long q0), (.long q1)]) (rest := [(.int 9), (.ref b218)]) (lenOf pd_6 rfl) rfl (by show 2 * 0 + _ ≤ _; exact Nat.le_of_eq rfl) (hb hby at_248) (fun _ _ => ⟨rfl, rfl, (by decide : 1 + 0 ≤ _), (by decide : 12 + 0 ≤ _)⟩)
  dsimp only [Pt.U, Pt.locs, Pt.cells, Pt.slots] at X240 l240 y240 z240 st240 hQ240
  subst l240 y240 z240
  obtain ⟨v240, N240q, h240q⟩ := hQ240
  subst v240
  have N240 := Fr.app N239 N240q
  obtain ⟨_, _, ⟨T241, L241, k241, n241⟩, -, X241, ⟨Lc241, hQ241, l241, y241, z241⟩, st241⟩ := Jvm.LawKit.callS X240 hx (y := (⟨"com/example/meerkat/meerkat/Base64CodecDecodePinLaw", "put", "([BIB)V"⟩ : MethodName)) hown (mvT hZ (wi hw 5 rfl)) (mvT hZ (wi hw 6 rfl)) (mvT hZ (wi hw 3 rfl)) (mvT hZ (wi hw 7 rfl)) (by decide) (backOf (W := 0) (rm2 l Z a0 hw hS [] b218 (9 : Int32) (fn1 Z (9 : Int32) gg pa q0 q1) k218 ((((4 : Int32) * gg) + pa) + pd) [(.int ((fn1 Z (0 : Int32) gg pa q0 q1).toInt8.toInt32)), (.int ((fn1 Z (1 : Int32) gg pa q0 q1).toInt8.toInt32)), (.int ((fn1 Z (2 : Int32) gg pa q0 q1).toInt8.toInt32)), (.int ((fn1 Z (3 : Int32) gg pa q0 q1).toInt8.toInt32)), (.int ((fn1 Z (4 : Int32) gg pa q0 q1).toInt8.toInt32)), (.int ((fn1 Z (5 : Int32) gg pa q0 q1).toInt8.toInt32)), (.int ((fn1 Z (6 : Int32) gg pa q0 q1).toInt8.toInt32)), (.int ((fn1 Z (7 : Int32) gg pa q0 q1).toInt8.toInt32)), (.int ((fn1 Z (8 : Int32) gg pa q0 q1).toInt8.toInt32)), (.int 0), (.int 0), (.int 0)] T239.heap n0 O239 Vp239 g_b218 (by decide) (Nat.lt_of_lt_of_le (by decide : _ < 12) (Nat.le_of_eq rfl))) hZ (wi hw 7 rfl) (wi hw 3 rfl) (by decide) (by decide)) (g := (mkF m 251 #[oJ q0, oS, oJ q1, oS, oI p2, oI gg, oI cd, oI pa, oI pd, oI ((((4 : Int32) * gg) + pa) + pd), oR b218, oU, oU] [(.int (fn1 Z (9 : Int32) gg pa q0 q1)), (.int 9), (.ref b218)])) rfl (by rw [hml]; rfl) (argsL := [(.ref b218), (.int 9), (.int (fn1 Z (9 : Int32) gg pa q0 q1))]) (rest := []) (lenOf pd_7 rfl) rfl (by show 2 * 0 + _ ≤ _; exact Nat.le_of_eq rfl) (hb hby at_251) (fun _ _ => ⟨rfl, h240q, (by decide : 1 + 0 ≤ _), (by decide : 12 + 0 ≤ _)⟩)
  dsimp only [Pt.U, Pt.locs, Pt.cells, Pt.slots] at X241 l241 y241 z241 st241 hQ241
  subst l241 y241 z241
  obtain ⟨v241, N241q, K241q, po241_0⟩ := hQ241
  subst v241
  have N241 := Fr.app N240 N241q
  have O241 := O239.keep K241q (allS g_b218 all0)
  have Kc241 := Kc239.trans K241q (allS (Or.inr sz_b218) all0)
  have Vp241 : Arv Z T241.heap b218 k218 .byte ((((4 : Int32) * gg) + pa) + pd) [(.int ((fn1 Z (0 : Int32) gg pa q0 q1).toInt8.toInt32)), (.int ((fn1 Z (1 : Int32) gg pa q0 q1).toInt8.toInt32)), (.int ((fn1 Z (2 : Int32) gg pa q0 q1).toInt8.toInt32)), (.int ((fn1 Z (3 : Int32) gg pa q0 q1).toInt8.toInt32)), (.int ((fn1 Z (4 : Int32) gg pa q0 q1).toInt8.toInt32)), (.int ((fn1 Z (5 : Int32) gg pa q0 q1).toInt8.toInt32)), (.int ((fn1 Z (6 : Int32) gg pa q0 q1).toInt8.toInt32)), (.int ((fn1 Z (7 : Int32) gg pa q0 q1).toInt8.toInt32)), (.int ((fn1 Z (8 : Int32) gg pa q0 q1).toInt8.toInt32)), (.int ((fn1 Z (9 : Int32) gg pa q0 q1).toInt8.toInt32)), (.int 0), (.int 0)] (.int 0) := po241_0
  obtain ⟨lo242, X242, N242⟩ := own_hide X241 N241
  obtain ⟨_, _, ⟨T243, L243, k243, n243⟩, -, X243, ⟨Lc243, hQ243, l243, y243, z243⟩, st243⟩ := Jvm.LawKit.callS X242 hx (y := (⟨"com/example/meerkat/meerkat/Base64CodecDecodePinLaw", "at", "(IIIJJ)B"⟩ : MethodName)) hown (mvT hZ (wi hw 1 rfl)) (mvT hZ (wi hw 2 rfl)) (mvT hZ (wi hw 3 rfl)) (mvT hZ (wi hw 4 rfl)) (by decide) (backOf (W := 2) (rm1 l Z a0 hw hS [] (10 : Int32) gg pa q0 q1 T241.heap n0 O241) hZ (wi hw 4 rfl) (wi hw 3 rfl) (by decide) (by decide)) (g := (mkF m 266 #[oJ q0, oS, oJ q1, oS, oI p2, oI gg, oI cd, oI pa, oI pd, oI ((((4 : Int32) * gg) + pa) + pd), oR b218, oU, oU] [(.long q1), (.long q0), (.int pa), (.int gg), (.int 10), (.int 10), (.ref b218)])) rfl (by rw [hml]; rfl) (argsL := [(.int 10), (.int gg), (.int pa), (.long q0), (.long q1)]) (rest := [(.int 10), (.ref b218)]) (lenOf pd_6 rfl) rfl (by show 2 * 0 + _ ≤ _; exact Nat.le_of_eq rfl) (hb hby at_266) (fun _ _ => ⟨rfl, rfl, (by decide : 1 + 0 ≤ _), (by decide : 12 + 0 ≤ _)⟩)
  dsimp only [Pt.U, Pt.locs, Pt.cells, Pt.slots] at X243 l243 y243 z243 st243 hQ243
  subst l243 y243 z243
  obtain ⟨v243, N243q, h243q⟩ := hQ243
  subst v243
  have N243 := Fr.app N242 N243q
  obtain ⟨_, _, ⟨T244, L244, k244, n244⟩, -, X244, ⟨Lc244, hQ244, l244, y244, z244⟩, st244⟩ := Jvm.LawKit.callS X243 hx (y := (⟨"com/example/meerkat/meerkat/Base64CodecDecodePinLaw", "put", "([BIB)V"⟩ : MethodName)) hown (mvT hZ (wi hw 5 rfl)) (mvT hZ (wi hw 6 rfl)) (mvT hZ (wi hw 3 rfl)) (mvT hZ (wi hw 7 rfl)) (by decide) (backOf (W := 0) (rm2 l Z a0 hw hS [] b218 (10 : Int32) (fn1 Z (10 : Int32) gg pa q0 q1) k218 ((((4 : Int32) * gg) + pa) + pd) [(.int ((fn1 Z (0 : Int32) gg pa q0 q1).toInt8.toInt32)), (.int ((fn1 Z (1 : Int32) gg pa q0 q1).toInt8.toInt32)), (.int ((fn1 Z (2 : Int32) gg pa q0 q1).toInt8.toInt32)), (.int ((fn1 Z (3 : Int32) gg pa q0 q1).toInt8.toInt32)), (.int ((fn1 Z (4 : Int32) gg pa q0 q1).toInt8.toInt32)), (.int ((fn1 Z (5 : Int32) gg pa q0 q1).toInt8.toInt32)), (.int ((fn1 Z (6 : Int32) gg pa q0 q1).toInt8.toInt32)), (.int ((fn1 Z (7 : Int32) gg pa q0 q1).toInt8.toInt32)), (.int ((fn1 Z (8 : Int32) gg pa q0 q1).toInt8.toInt32)), (.int ((fn1 Z (9 : Int32) gg pa q0 q1).toInt8.toInt32)), (.int 0), (.int 0)] T241.heap n0 O241 Vp241 g_b218 (by decide) (Nat.lt_of_lt_of_le (by decide : _ < 12) (Nat.le_of_eq rfl))) hZ (wi hw 7 rfl) (wi hw 3 rfl) (by decide) (by decide)) (g := (mkF m 269 #[oJ q0, oS, oJ q1, oS, oI p2, oI gg, oI cd, oI pa, oI pd, oI ((((4 : Int32) * gg) + pa) + pd), oR b218, oU, oU] [(.int (fn1 Z (10 : Int32) gg pa q0 q1)), (.int 10), (.ref b218)])) rfl (by rw [hml]; rfl) (argsL := [(.ref b218), (.int 10), (.int (fn1 Z (10 : Int32) gg pa q0 q1))]) (rest := []) (lenOf pd_7 rfl) rfl (by show 2 * 0 + _ ≤ _; exact Nat.le_of_eq rfl) (hb hby at_269) (fun _ _ => ⟨rfl, h243q, (by decide : 1 + 0 ≤ _), (by decide : 12 + 0 ≤ _)⟩)
  dsimp only [Pt.U, Pt.locs, Pt.cells, Pt.slots] at X244 l244 y244 z244 st244 hQ244
  subst l244 y244 z244
  obtain ⟨v244, N244q, K244q, po244_0⟩ := hQ244
  subst v244
  have N244 := Fr.app N243 N244q
  have O244 := O241.keep K244q (allS g_b218 all0)
  have Kc244 := Kc241.trans K244q (allS (Or.inr sz_b218) all0)
  have Vp244 : Arv Z T244.heap b218 k218 .byte ((((4 : Int32) * gg) + pa) + pd) [(.int ((fn1 Z (0 : Int32) gg pa q0 q1).toInt8.toInt32)), (.int ((fn1 Z (1 : Int32) gg pa q0 q1).toInt8.toInt32)), (.int ((fn1 Z (2 : Int32) gg pa q0 q1).toInt8.toInt32)), (.int ((fn1 Z (3 : Int32) gg pa q0 q1).toInt8.toInt32)), (.int ((fn1 Z (4 : Int32) gg pa q0 q1).toInt8.toInt32)), (.int ((fn1 Z (5 : Int32) gg pa q0 q1).toInt8.toInt32)), (.int ((fn1 Z (6 : Int32) gg pa q0 q1).toInt8.toInt32)), (.int ((fn1 Z (7 : Int32) gg pa q0 q1).toInt8.toInt32)), (.int ((fn1 Z (8 : Int32) gg pa q0 q1).toInt8.toInt32)), (.int ((fn1 Z (9 : Int32) gg pa q0 q1).toInt8.toInt32)), (.int ((fn1 Z (10 : Int32) gg pa q0 q1).toInt8.toInt32)), (.int 0)] (.int 0) := po244_0
  obtain ⟨_, _, ⟨T245, L245, k245, n245⟩, -, X245, ⟨Lc245, hQ245, l245, y245, z245⟩, st245⟩ := Jvm.LawKit.callS X244 hx (y := (⟨"com/example/meerkat/meerkat/Base64CodecDecodePinLaw", "at", "(IIIJJ)B"⟩ : MethodName)) hown (mvT hZ (wi hw 1 rfl)) (mvT hZ (wi hw 2 rfl)) (mvT hZ (wi hw 3 rfl)) (mvT hZ (wi hw 4 rfl)) (by decide) (backOf (W := 2) (rm1 l Z a0 hw hS [] (11 : Int32) gg pa q0 q1 T244.heap n0 O244) hZ (wi hw 4 rfl) (wi hw 3 rfl) (by decide) (by decide)) (g := (mkF m 284 #[oJ q0, oS, oJ q1, oS, oI p2, oI gg, oI cd, oI pa, oI pd, oI ((((4 : Int32) * gg) + pa) + pd), oR b218, oU, oU] [(.long q1), (.long q0), (.int pa), (.int gg), (.int 11), (.int 11), (.ref b218)])) rfl (by rw [hml]; rfl) (argsL := [(.int 11), (.int gg), (.int pa), (.long q0), (.long q1)]) (rest := [(.int 11), (.ref b218)]) (lenOf pd_6 rfl) rfl (by show 2 * 0 + _ ≤ _; exact Nat.le_of_eq rfl) (hb hby at_284) (fun _ _ => ⟨rfl, rfl, (by decide : 1 + 0 ≤ _), (by decide : 12 + 0 ≤ _)⟩)
  dsimp only [Pt.U, Pt.locs, Pt.cells, Pt.slots] at X245 l245 y245 z245 st245 hQ245
  subst l245 y245 z245
  obtain ⟨v245, N245q, h245q⟩ := hQ245
  subst v245
  have N245 := Fr.app N244 N245q
  obtain ⟨_, _, ⟨T246, L246, k246, n246⟩, -, X246, ⟨Lc246, hQ246, l246, y246, z246⟩, st246⟩ := Jvm.LawKit.callS X245 hx (y := (⟨"com/example/meerkat/meerkat/Base64CodecDecodePinLaw", "put", "([BIB)V"⟩ : MethodName)) hown (mvT hZ (wi hw 5 rfl)) (mvT hZ (wi hw 6 rfl)) (mvT hZ (wi hw 3 rfl)) (mvT hZ (wi hw 7 rfl)) (by decide) (backOf (W := 0) (rm2 l Z a0 hw hS [] b218 (11 : Int32) (fn1 Z (11 : Int32) gg pa q0 q1) k218 ((((4 : Int32) * gg) + pa) + pd) [(.int ((fn1 Z (0 : Int32) gg pa q0 q1).toInt8.toInt32)), (.int ((fn1 Z (1 : Int32) gg pa q0 q1).toInt8.toInt32)), (.int ((fn1 Z (2 : Int32) gg pa q0 q1).toInt8.toInt32)), (.int ((fn1 Z (3 : Int32) gg pa q0 q1).toInt8.toInt32)), (.int ((fn1 Z (4 : Int32) gg pa q0 q1).toInt8.toInt32)), (.int ((fn1 Z (5 : Int32) gg pa q0 q1).toInt8.toInt32)), (.int ((fn1 Z (6 : Int32) gg pa q0 q1).toInt8.toInt32)), (.int ((fn1 Z (7 : Int32) gg pa q0 q1).toInt8.toInt32)), (.int ((fn1 Z (8 : Int32) gg pa q0 q1).toInt8.toInt32)), (.int ((fn1 Z (9 : Int32) gg pa q0 q1).toInt8.toInt32)), (.int ((fn1 Z (10 : Int32) gg pa q0 q1).toInt8.toInt32)), (.int 0)] T244.heap n0 O244 Vp244 g_b218 (by decide) (Nat.lt_of_lt_of_le (by decide : _ < 12) (Nat.le_of_eq rfl))) hZ (wi hw 7 rfl) (wi hw 3 rfl) (by decide) (by decide)) (g := (mkF m 287 #[oJ q0, oS, oJ q1, oS, oI p2, oI gg, oI cd, oI pa, oI pd, oI ((((4 : Int32) * gg) + pa) + pd), oR b218, oU, oU] [(.int (fn1 Z (11 : Int32) gg pa q0 q1)), (.int 11), (.ref b218)])) rfl (by rw [hml]; rfl) (argsL := [(.ref b218), (.int 11), (.int (fn1 Z (11 : Int32) gg pa q0 q1))]) (rest := []) (lenOf pd_7 rfl) rfl (by show 2 * 0 + _ ≤ _; exact Nat.le_of_eq rfl) (hb hby at_287) (fun _ _ => ⟨rfl, h245q, (by decide : 1 + 0 ≤ _), (by decide : 12 + 0 ≤ _)⟩)
  dsimp only [Pt.U, Pt.locs, Pt.cells, Pt.slots] at X246 l246 y246 z246 st246 hQ246
  subst l246 y246 z246
  obtain ⟨v246, N246q, K246q, po246_0⟩ := hQ246
  subst v246
  have N246 := Fr.app N245 N246q
  have O246 := O244.keep K246q (allS g_b218 all0)
  have Kc246 := Kc244.trans K246q (allS (Or.inr sz_b218) all0)
  have Vp246 : Arv Z T246.heap b218 k218 .byte ((((4 : Int32) * gg) + pa) + pd) [(.int ((fn1 Z (0 : Int32) gg pa q0 q1).toInt8.toInt32)), (.int ((fn1 Z (1 : Int32) gg pa q0 q1).toInt8.toInt32)), (.int ((fn1 Z (2 : Int32) gg pa q0 q1).toInt8.toInt32)), (.int ((fn1 Z (3 : Int32) gg pa q0 q1).toInt8.toInt32)), (.int ((fn1 Z (4 : Int32) gg pa q0 q1).toInt8.toInt32)), (.int ((fn1 Z (5 : Int32) gg pa q0 q1).toInt8.toInt32)), (.int ((fn1 Z (6 : Int32) gg pa q0 q1).toInt8.toInt32)), (.int ((fn1 Z (7 : Int32) gg pa q0 q1).toInt8.toInt32)), (.int ((fn1 Z (8 : Int32) gg pa q0 q1).toInt8.toInt32)), (.int ((fn1 Z (9 : Int32) gg pa q0 q1).toInt8.toInt32)), (.int ((fn1 Z (10 : Int32) gg pa q0 q1).toInt8.toInt32)), (.int ((fn1 Z (11 : Int32) gg pa q0 q1).toInt8.toInt32))] (.int 0) := po246_0
  obtain ⟨_, _, ⟨T247, L247, k247, n247⟩, -, X247, ⟨Lc247, hQ247, l247, y247, z247⟩, st247⟩ := Jvm.LawKit.callS X246 hx (y := (⟨"com/example/meerkat/meerkat/Base64Codec", "decode", "([B)[B"⟩ : MethodName)) hown (mvT hZ (wi hw 8 rfl)) (mvT hZ (wi hw 9 rfl)) (mvT hZ (wi hw 10 rfl)) (mvT hZ (wi hw 11 rfl)) (by decide) (backOf (W := 0) (rm3 l Z a0 hw hS b218 gg pa pd q0 q1 k218 T246.heap n0 O246 hcmb Vp246) hZ (wi hw 11 rfl) (wi hw 10 rfl) (by decide) (by decide)) (g := (mkF m 292 #[oJ q0, oS, oJ q1, oS, oI p2, oI gg, oI cd, oI pa, oI pd, oI ((((4 : Int32) * gg) + pa) + pd), oR b218, oU, oU] [(.ref b218)])) rfl (by rw [hml]; rfl) (argsL := [(.ref b218)]) (rest := []) (lenOf pd_8 rfl) rfl (by show 2 * 0 + _ ≤ _; exact Nat.le_of_eq rfl) (hb hby at_292) (fun _ _ => ⟨rfl, rfl, (by decide : 1 + 1 ≤ _), (by decide : 12 + 8 ≤ _)⟩)
  dsimp only [Pt.U, Pt.locs, Pt.cells, Pt.slots] at X247 l247 y247 z247 st247 hQ247
  subst l247 y247 z247
  obtain ⟨b247, kb247, vs247, v247, N247q, K247q, nb247, A247, hbytes⟩ := hQ247
  subst v247
  have N247 := Fr.app N246 N247q
  have O247 := O246.keep K247q all0
  have Kc247 := Kc246.trans K247q all0
  have pre248 : ∀ t, oP p e below T247 (mkF m 303 #[oJ q0, oS, oJ q1, oS, oI p2, oI gg, oI cd, oI pa, oI pd, oI ((((4 : Int32) * gg) + pa) + pd), oR b218, oR b247, oU] [(.int pa), (.int ((3 : Int32) * gg))]) t → oP p e below s₁ (entryFrame m #[(.long q0), (.long q1), (.int p2)] maxLocals) t := fun t k => pre217 t (by
    show oP p e below s₁ (mkF m 66 #[oJ q0, oS, oJ q1, oS, oI p2, oI gg, oI cd, oI pa, oU, oU, oU, oU, oU] [(.int pd)]) _
    refine XS.istore X0.here hx rfl (hb hby at_66) rfl (l' := #[oJ q0, oS, oJ q1, oS, oI p2, oI gg, oI cd, oI pa, oI pd, oU, oU, oU, oU]) rfl ?_
    show oP p e below s₁ (mkF m 68 #[oJ q0, oS, oJ q1, oS, oI p2, oI gg, oI cd, oI pa, oI pd, oU, oU, oU, oU] []) _
    refine XS.iconst X0.here hx rfl (hb hby at_68) ?_
    refine XS.iload X0.here hx rfl (hb hby at_69) rfl ?_
    show oP p e below s₁ (mkF m 71 #[oJ q0, oS, oJ q1, oS, oI p2, oI gg, oI cd, oI pa, oI pd, oU, oU, oU, oU] [(.int gg), (.int 4)]) _
    refine XS.imul X0.here hx rfl (hb hby at_71) rfl ?_
    show oP p e below s₁ (mkF m 72 #[oJ q0, oS, oJ q1, oS, oI p2, oI gg, oI cd, oI pa, oI pd, oU, oU, oU, oU] [(.int ((4 : Int32) * gg))]) _
    refine XS.iload X0.here hx rfl (hb hby at_72) rfl ?_
    show oP p e below s₁ (mkF m 74 #[oJ q0, oS, oJ q1, oS, oI p2, oI gg, oI cd, oI pa, oI pd, oU, oU, oU, oU] [(.int pa), (.int ((4 : Int32) * gg))]) _
    refine XS.iadd X0.here hx rfl (hb hby at_74) rfl ?_
    show oP p e below s₁ (mkF m 75 #[oJ q0, oS, oJ q1, oS, oI p2, oI gg, oI cd, oI pa, oI pd, oU, oU, oU, oU] [(.int (((4 : Int32) * gg) + pa))]) _
    refine XS.iload X0.here hx rfl (hb hby at_75) rfl ?_
    show oP p e below s₁ (mkF m 77 #[oJ q0, oS, oJ q1, oS, oI p2, oI gg, oI cd, oI pa, oI pd, oU, oU, oU, oU] [(.int pd), (.int (((4 : Int32) * gg) + pa))]) _
    refine XS.iadd X0.here hx rfl (hb hby at_77) rfl ?_
    show oP p e below s₁ (mkF m 78 #[oJ q0, oS, oJ q1, oS, oI p2, oI gg, oI cd, oI pa, oI pd, oU, oU, oU, oU] [(.int ((((4 : Int32) * gg) + pa) + pd))]) _
    refine XS.istore X0.here hx rfl (hb hby at_78) rfl (l' := #[oJ q0, oS, oJ q1, oS, oI p2, oI gg, oI cd, oI pa, oI pd, oI ((((4 : Int32) * gg) + pa) + pd), oU, oU, oU]) rfl ?_
    show oP p e below s₁ (mkF m 80 #[oJ q0, oS, oJ q1, oS, oI p2, oI gg, oI cd, oI pa, oI pd, oI ((((4 : Int32) * gg) + pa) + pd), oU, oU, oU] []) _
    refine XS.iload X0.here hx rfl (hb hby at_80) rfl ?_
    show oP p e below s₁ (mkF m 82 #[oJ q0, oS, oJ q1, oS, oI p2, oI gg, oI cd, oI pa, oI pd, oI ((((4 : Int32) * gg) + pa) + pd), oU, oU, oU] [(.int ((((4 : Int32) * gg) + pa) + pd))]) _
    refine st218 _ ?_
    show oP p e below T218 (mkF m 84 #[oJ q0, oS, oJ q1, oS, oI p2, oI gg, oI cd, oI pa, oI pd, oI ((((4 : Int32) * gg) + pa) + pd), oU, oU, oU] [(.ref b218)]) _
    refine XS.astore X218.here hx rfl (hb hby at_84) rfl rfl (l' := #[oJ q0, oS, oJ q1, oS, oI p2, oI gg, oI cd, oI pa, oI pd, oI ((((4 : Int32) * gg) + pa) + pd), oR b218, oU, oU]) rfl ?_
    show oP p e below T218 (mkF m 86 #[oJ q0, oS, oJ q1, oS, oI p2, oI gg, oI cd, oI pa, oI pd, oI ((((4 : Int32) * gg) + pa) + pd), oR b218, oU, oU] []) _
    refine XS.aload X218.here hx rfl (hb hby at_86) rfl rfl ?_
    show oP p e below T218 (mkF m 88 #[oJ q0, oS, oJ q1, oS, oI p2, oI gg, oI cd, oI pa, oI pd, oI ((((4 : Int32) * gg) + pa) + pd), oR b218, oU, oU] [(.ref b218)]) _
    refine XS.iconst X218.here hx rfl (hb hby at_88) ?_
    refine XS.iconst X218.here hx rfl (hb hby at_89) ?_
    refine XS.iload X218.here hx rfl (hb hby at_90) rfl ?_
    show oP p e below T218 (mkF m 92 #[oJ q0, oS, oJ q1, oS, oI p2, oI gg, oI cd, oI pa, oI pd, oI ((((4 : Int32) * gg) + pa) + pd), oR b218, oU, oU] [(.int gg), (.int 0), (.int 0), (.ref b218)]) _
    refine XS.iload X218.here hx rfl (hb hby at_92) rfl ?_
    show oP p e below T218 (mkF m 94 #[oJ q0, oS, oJ q1, oS, oI p2, oI gg, oI cd, oI pa, oI pd, oI ((((4 : Int32) * gg) + pa) + pd), oR b218, oU, oU] [(.int pa), (.int gg), (.int 0), (.int 0), (.ref b218)]) _
    refine XS.lloadN X218.here hx rfl (hb hby at_94) rfl ?_
    show oP p e below T218 (mkF m 95 #[oJ q0, oS, oJ q1, oS, oI p2, oI gg, oI cd, oI pa, oI pd, oI ((((4 : Int32) * gg) + pa) + pd), oR b218, oU, oU] [(.long q0), (.int pa), (.int gg), (.int 0), (.int 0), (.ref b218)]) _
    refine XS.lloadN X218.here hx rfl (hb hby at_95) rfl ?_
    show oP p e below T218 (mkF m 96 #[oJ q0, oS, oJ q1, oS, oI p2, oI gg, oI cd, oI pa, oI pd, oI ((((4 : Int32) * gg) + pa) + pd), oR b218, oU, oU] [(.long q1), (.long q0), (.int pa), (.int gg), (.int 0), (.int 0), (.ref b218)]) _
    refine st219 _ ?_
    show oP p e below T219 (mkF m 99 #[oJ q0, oS, oJ q1, oS, oI p2, oI gg, oI cd, oI pa, oI pd, oI ((((4 : Int32) * gg) + pa) + pd), oR b218, oU, oU] [(.int (fn1 Z (0 : Int32) gg pa q0 q1)), (.int 0), (.ref b218)]) _
    refine st220 _ ?_
    show oP p e below T220 (mkF m 102 #[oJ q0, oS, oJ q1, oS, oI p2, oI gg, oI cd, oI pa, oI pd, oI ((((4 : Int32) * gg) + pa) + pd), oR b218, oU, oU] []) _
    refine XS.aload X220.here hx rfl (hb hby at_102) rfl rfl ?_
    show oP p e below T220 (mkF m 104 #[oJ q0, oS, oJ q1, oS, oI p2, oI gg, oI cd, oI pa, oI pd, oI ((((4 : Int32) * gg) + pa) + pd), oR b218, oU, oU] [(.ref b218)]) _
    refine XS.iconst X220.here hx rfl (hb hby at_104) ?_
    refine XS.iconst X220.here hx rfl (hb hby at_105) ?_
    refine XS.iload X220.here hx rfl (hb hby at_106) rfl ?_
    show oP p e below T220 (mkF m 108 #[oJ q0, oS, oJ q1, oS, oI p2, oI gg, oI cd, oI pa, oI pd, oI ((((4 : Int32) * gg) + pa) + pd), oR b218, oU, oU] [(.int gg), (.int 1), (.int 1), (.ref b218)]) _
    refine XS.iload X220.here hx rfl (hb hby at_108) rfl ?_
    show oP p e below T220 (mkF m 110 #[oJ q0, oS, oJ q1, oS, oI p2, oI gg, oI cd, oI pa, oI pd, oI ((((4 : Int32) * gg) + pa) + pd), oR b218, oU, oU] [(.int pa), (.int gg), (.int 1), (.int 1), (.ref b218)]) _
    refine XS.lloadN X220.here hx rfl (hb hby at_110) rfl ?_
    show oP p e below T220 (mkF m 111 #[oJ q0, oS, oJ q1, oS, oI p2, oI gg, oI cd, oI pa, oI pd, oI ((((4 : Int32) * gg) + pa) + pd), oR b218, oU, oU] [(.long q0), (.int pa), (.int gg), (.int 1), (.int 1), (.ref b218)]) _
    refine XS.lloadN X220.here hx rfl (hb hby at_111) rfl ?_
    show oP p e below T220 (mkF m 112 #[oJ q0, oS, oJ q1, oS, oI p2, oI gg, oI cd, oI pa, oI pd, oI ((((4 : Int32) * gg) + pa) + pd), oR b218, oU, oU] [(.long q1), (.long q0), (.int pa), (.int gg), (.int 1), (.int 1), (.ref b218)]) _
    refine st221 _ ?_
    show oP p e below T221 (mkF m 115 #[oJ q0, oS, oJ q1, oS, oI p2, oI gg, oI cd, oI pa, oI pd, oI ((((4 : Int32) * gg) + pa) + pd), oR b218, oU, oU] [(.int (fn1 Z (1 : Int32) gg pa q0 q1)), (.int 1), (.ref b218)]) _
    refine st222 _ ?_
    show oP p e below T222 (mkF m 118 #[oJ q0, oS, oJ q1, oS, oI p2, oI gg, oI cd, oI pa, oI pd, oI ((((4 : Int32) * gg) + pa) + pd), oR b218, oU, oU] []) _
    refine XS.aload X222.here hx rfl (hb hby at_118) rfl rfl ?_
    show oP p e below T222 (mkF m 120 #[oJ q0, oS, oJ q1, oS, oI p2, oI gg, oI cd, oI pa, oI pd, oI ((((4 : Int32) * gg) + pa) + pd), oR b218, oU, oU] [(.ref b218)]) _
    refine XS.iconst X222.here hx rfl (hb hby at_120) ?_
    refine XS.iconst X222.here hx rfl (hb hby at_121) ?_
    refine XS.iload X222.here hx rfl (hb hby at_122) rfl ?_
    show oP p e below T222 (mkF m 124 #[oJ q0, oS, oJ q1, oS, oI p2, oI gg, oI cd, oI pa, oI pd, oI ((((4 : Int32) * gg) + pa) + pd), oR b218, oU, oU] [(.int gg), (.int 2), (.int 2), (.ref b218)]) _
    refine XS.iload X222.here hx rfl (hb hby at_124) rfl ?_
    show oP p e below T222 (mkF m 126 #[oJ q0, oS, oJ q1, oS, oI p2, oI gg, oI cd, oI pa, oI pd, oI ((((4 : Int32) * gg) + pa) + pd), oR b218, oU, oU] [(.int pa), (.int gg), (.int 2), (.int 2), (.ref b218)]) _
    refine XS.lloadN X222.here hx rfl (hb hby at_126) rfl ?_
    show oP p e below T222 (mkF m 127 #[oJ q0, oS, oJ q1, oS, oI p2, oI gg, oI cd, oI pa, oI pd, oI ((((4 : Int32) * gg) + pa) + pd), oR b218, oU, oU] [(.long q0), (.int pa), (.int gg), (.int 2), (.int 2), (.ref b218)]) _
    refine XS.lloadN X222.here hx rfl (hb hby at_127) rfl ?_
    show oP p e below T222 (mkF m 128 #[oJ q0, oS, oJ q1, oS, oI p2, oI gg, oI cd, oI pa, oI pd, oI ((((4 : Int32) * gg) + pa) + pd), oR b218, oU, oU] [(.long q1), (.long q0), (.int pa), (.int gg), (.int 2), (.int 2), (.ref b218)]) _
    refine st223 _ ?_
    show oP p e below T223 (mkF m 131 #[oJ q0, oS, oJ q1, oS, oI p2, oI gg, oI cd, oI pa, oI pd, oI ((((4 : Int32) * gg) + pa) + pd), oR b218, oU, oU] [(.int (fn1 Z (2 : Int32) gg pa q0 q1)), (.int 2), (.ref b218)]) _
    refine st225 _ ?_
    show oP p e below T225 (mkF m 134 #[oJ q0, oS, oJ q1, oS, oI p2, oI gg, oI cd, oI pa, oI pd, oI ((((4 : Int32) * gg) + pa) + pd), oR b218, oU, oU] []) _
    refine XS.aload X225.here hx rfl (hb hby at_134) rfl rfl ?_
    show oP p e below T225 (mkF m 136 #[oJ q0, oS, oJ q1, oS, oI p2, oI gg, oI cd, oI pa, oI pd, oI ((((4 : Int32) * gg) + pa) + pd), oR b218, oU, oU] [(.ref b218)]) _
    refine XS.iconst X225.here hx rfl (hb hby at_136) ?_
    refine XS.iconst X225.here hx rfl (hb hby at_137) ?_
    refine XS.iload X225.here hx rfl (hb hby at_138) rfl ?_
    show oP p e below T225 (mkF m 140 #[oJ q0, oS, oJ q1, oS, oI p2, oI gg, oI cd, oI pa, oI pd, oI ((((4 : Int32) * gg) + pa) + pd), oR b218, oU, oU] [(.int gg), (.int 3), (.int 3), (.ref b218)]) _
    refine XS.iload X225.here hx rfl (hb hby at_140) rfl ?_
    show oP p e below T225 (mkF m 142 #[oJ q0, oS, oJ q1, oS, oI p2, oI gg, oI cd, oI pa, oI pd, oI ((((4 : Int32) * gg) + pa) + pd), oR b218, oU, oU] [(.int pa), (.int gg), (.int 3), (.int 3), (.ref b218)]) _
    refine XS.lloadN X225.here hx rfl (hb hby at_142) rfl ?_
    show oP p e below T225 (mkF m 143 #[oJ q0, oS, oJ q1, oS, oI p2, oI gg, oI cd, oI pa, oI pd, oI ((((4 : Int32) * gg) + pa) + pd), oR b218, oU, oU] [(.long q0), (.int pa), (.int gg), (.int 3), (.int 3), (.ref b218)]) _
    refine XS.lloadN X225.here hx rfl (hb hby at_143) rfl ?_
    show oP p e below T225 (mkF m 144 #[oJ q0, oS, oJ q1, oS, oI p2, oI gg, oI cd, oI pa, oI pd, oI ((((4 : Int32) * gg) + pa) + pd), oR b218, oU, oU] [(.long q1), (.long q0), (.int pa), (.int gg), (.int 3), (.int 3), (.ref b218)]) _
    refine st226 _ ?_
    show oP p e below T226 (mkF m 147 #[oJ q0, oS, oJ q1, oS, oI p2, oI gg, oI cd, oI pa, oI pd, oI ((((4 : Int32) * gg) + pa) + pd), oR b218, oU, oU] [(.int (fn1 Z (3 : Int32) gg pa q0 q1)), (.int 3), (.ref b218)]) _
    refine st227 _ ?_
    show oP p e below T227 (mkF m 150 #[oJ q0, oS, oJ q1, oS, oI p2, oI gg, oI cd, oI pa, oI pd, oI ((((4 : Int32) * gg) + pa) + pd), oR b218, oU, oU] []) _
    refine XS.aload X227.here hx rfl (hb hby at_150) rfl rfl ?_
    show oP p e below T227 (mkF m 152 #[oJ q0, oS, oJ q1, oS, oI p2, oI gg, oI cd, oI pa, oI pd, oI ((((4 : Int32) * gg) + pa) + pd), oR b218, oU, oU] [(.ref b218)]) _
    refine XS.iconst X227.here hx rfl (hb hby at_152) ?_
    refine XS.iconst X227.here hx rfl (hb hby at_153) ?_
    refine XS.iload X227.here hx rfl (hb hby at_154) rfl ?_
    show oP p e below T227 (mkF m 156 #[oJ q0, oS, oJ q1, oS, oI p2, oI gg, oI cd, oI pa, oI pd, oI ((((4 : Int32) * gg) + pa) + pd), oR b218, oU, oU] [(.int gg), (.int 4), (.int 4), (.ref b218)]) _
    refine XS.iload X227.here hx rfl (hb hby at_156) rfl ?_
    show oP p e below T227 (mkF m 158 #[oJ q0, oS, oJ q1, oS, oI p2, oI gg, oI cd, oI pa, oI pd, oI ((((4 : Int32) * gg) + pa) + pd), oR b218, oU, oU] [(.int pa), (.int gg), (.int 4), (.int 4), (.ref b218)]) _
    refine XS.lloadN X227.here hx rfl (hb hby at_158) rfl ?_
    show oP p e below T227 (mkF m 159 #[oJ q0, oS, oJ q1, oS, oI p2, oI gg, oI cd, oI pa, oI pd, oI ((((4 : Int32) * gg) + pa) + pd), oR b218, oU, oU] [(.long q0), (.int pa), (.int gg), (.int 4), (.int 4), (.ref b218)]) _
    refine XS.lloadN X227.here hx rfl (hb hby at_159) rfl ?_
    show oP p e below T227 (mkF m 160 #[oJ q0, oS, oJ q1, oS, oI p2, oI gg, oI cd, oI pa, oI pd, oI ((((4 : Int32) * gg) + pa) + pd), oR b218, oU, oU] [(.long q1), (.long q0), (.int pa), (.int gg), (.int 4), (.int 4), (.ref b218)]) _
    refine st228 _ ?_
    show oP p e below T228 (mkF m 163 #[oJ q0, oS, oJ q1, oS, oI p2, oI gg, oI cd, oI pa, oI pd, oI ((((4 : Int32) * gg) + pa) + pd), oR b218, oU, oU] [(.int (fn1 Z (4 : Int32) gg pa q0 q1)), (.int 4), (.ref b218)]) _
    refine st229 _ ?_
    show oP p e below T229 (mkF m 166 #[oJ q0, oS, oJ q1, oS, oI p2, oI gg, oI cd, oI pa, oI pd, oI ((((4 : Int32) * gg) + pa) + pd), oR b218, oU, oU] []) _
    refine XS.aload X229.here hx rfl (hb hby at_166) rfl rfl ?_
    show oP p e below T229 (mkF m 168 #[oJ q0, oS, oJ q1, oS, oI p2, oI gg, oI cd, oI pa, oI pd, oI ((((4 : Int32) * gg) + pa) + pd), oR b218, oU, oU] [(.ref b218)]) _
    refine XS.iconst X229.here hx rfl (hb hby at_168) ?_
    refine XS.iconst X229.here hx rfl (hb hby at_169) ?_
    refine XS.iload X229.here hx rfl (hb hby at_170) rfl ?_
    show oP p e below T229 (mkF m 172 #[oJ q0, oS, oJ q1, oS, oI p2, oI gg, oI cd, oI pa, oI pd, oI ((((4 : Int32) * gg) + pa) + pd), oR b218, oU, oU] [(.int gg), (.int 5), (.int 5), (.ref b218)]) _
    refine XS.iload X229.here hx rfl (hb hby at_172) rfl ?_
    show oP p e below T229 (mkF m 174 #[oJ q0, oS, oJ q1, oS, oI p2, oI gg, oI cd, oI pa, oI pd, oI ((((4 : Int32) * gg) + pa) + pd), oR b218, oU, oU] [(.int pa), (.int gg), (.int 5), (.int 5), (.ref b218)]) _
    refine XS.lloadN X229.here hx rfl (hb hby at_174) rfl ?_
    show oP p e below T229 (mkF m 175 #[oJ q0, oS, oJ q1, oS, oI p2, oI gg, oI cd, oI pa, oI pd, oI ((((4 : Int32) * gg) + pa) + pd), oR b218, oU, oU] [(.long q0), (.int pa), (.int gg), (.int 5), (.int 5), (.ref b218)]) _
    refine XS.lloadN X229.here hx rfl (hb hby at_175) rfl ?_
    show oP p e below T229 (mkF m 176 #[oJ q0, oS, oJ q1, oS, oI p2, oI gg, oI cd, oI pa, oI pd, oI ((((4 : Int32) * gg) + pa) + pd), oR b218, oU, oU] [(.long q1), (.long q0), (.int pa), (.int gg), (.int 5), (.int 5), (.ref b218)]) _
    refine st231 _ ?_
    show oP p e below T231 (mkF m 179 #[oJ q0, oS, oJ q1, oS, oI p2, oI gg, oI cd, oI pa, oI pd, oI ((((4 : Int32) * gg) + pa) + pd), oR b218, oU, oU] [(.int (fn1 Z (5 : Int32) gg pa q0 q1)), (.int 5), (.ref b218)]) _
    refine st232 _ ?_
    show oP p e below T232 (mkF m 182 #[oJ q0, oS, oJ q1, oS, oI p2, oI gg, oI cd, oI pa, oI pd, oI ((((4 : Int32) * gg) + pa) + pd), oR b218, oU, oU] []) _
    refine XS.aload X232.here hx rfl (hb hby at_182) rfl rfl ?_
    show oP p e below T232 (mkF m 184 #[oJ q0, oS, oJ q1, oS, oI p2, oI gg, oI cd, oI pa, oI pd, oI ((((4 : Int32) * gg) + pa) + pd), oR b218, oU, oU] [(.ref b218)]) _
    refine XS.bipush X232.here hx rfl (hb hby at_184) ?_
    refine XS.bipush X232.here hx rfl (hb hby at_186) ?_
    refine XS.iload X232.here hx rfl (hb hby at_188) rfl ?_
    show oP p e below T232 (mkF m 190 #[oJ q0, oS, oJ q1, oS, oI p2, oI gg, oI cd, oI pa, oI pd, oI ((((4 : Int32) * gg) + pa) + pd), oR b218, oU, oU] [(.int gg), (.int 6), (.int 6), (.ref b218)]) _
    refine XS.iload X232.here hx rfl (hb hby at_190) rfl ?_
    show oP p e below T232 (mkF m 192 #[oJ q0, oS, oJ q1, oS, oI p2, oI gg, oI cd, oI pa, oI pd, oI ((((4 : Int32) * gg) + pa) + pd), oR b218, oU, oU] [(.int pa), (.int gg), (.int 6), (.int 6), (.ref b218)]) _
    refine XS.lloadN X232.here hx rfl (hb hby at_192) rfl ?_
    show oP p e below T232 (mkF m 193 #[oJ q0, oS, oJ q1, oS, oI p2, oI gg, oI cd, oI pa, oI pd, oI ((((4 : Int32) * gg) + pa) + pd), oR b218, oU, oU] [(.long q0), (.int pa), (.int gg), (.int 6), (.int 6), (.ref b218)]) _
    refine XS.lloadN X232.here hx rfl (hb hby at_193) rfl ?_
    show oP p e below T232 (mkF m 194 #[oJ q0, oS, oJ q1, oS, oI p2, oI gg, oI cd, oI pa, oI pd, oI ((((4 : Int32) * gg) + pa) + pd), oR b218, oU, oU] [(.long q1), (.long q0), (.int pa), (.int gg), (.int 6), (.int 6), (.ref b218)]) _
    refine st233 _ ?_
    show oP p e below T233 (mkF m 197 #[oJ q0, oS, oJ q1, oS, oI p2, oI gg, oI cd, oI pa, oI pd, oI ((((4 : Int32) * gg) + pa) + pd), oR b218, oU, oU] [(.int (fn1 Z (6 : Int32) gg pa q0 q1)), (.int 6), (.ref b218)]) _
    refine st234 _ ?_
    show oP p e below T234 (mkF m 200 #[oJ q0, oS, oJ q1, oS, oI p2, oI gg, oI cd, oI pa, oI pd, oI ((((4 : Int32) * gg) + pa) + pd), oR b218, oU, oU] []) _
    refine XS.aload X234.here hx rfl (hb hby at_200) rfl rfl ?_
    show oP p e below T234 (mkF m 202 #[oJ q0, oS, oJ q1, oS, oI p2, oI gg, oI cd, oI pa, oI pd, oI ((((4 : Int32) * gg) + pa) + pd), oR b218, oU, oU] [(.ref b218)]) _
    refine XS.bipush X234.here hx rfl (hb hby at_202) ?_
    refine XS.bipush X234.here hx rfl (hb hby at_204) ?_
    refine XS.iload X234.here hx rfl (hb hby at_206) rfl ?_
    show oP p e below T234 (mkF m 208 #[oJ q0, oS, oJ q1, oS, oI p2, oI gg, oI cd, oI pa, oI pd, oI ((((4 : Int32) * gg) + pa) + pd), oR b218, oU, oU] [(.int gg), (.int 7), (.int 7), (.ref b218)]) _
    refine XS.iload X234.here hx rfl (hb hby at_208) rfl ?_
    show oP p e below T234 (mkF m 210 #[oJ q0, oS, oJ q1, oS, oI p2, oI gg, oI cd, oI pa, oI pd, oI ((((4 : Int32) * gg) + pa) + pd), oR b218, oU, oU] [(.int pa), (.int gg), (.int 7), (.int 7), (.ref b218)]) _
    refine XS.lloadN X234.here hx rfl (hb hby at_210) rfl ?_
    show oP p e below T234 (mkF m 211 #[oJ q0, oS, oJ q1, oS, oI p2, oI gg, oI cd, oI pa, oI pd, oI ((((4 : Int32) * gg) + pa) + pd), oR b218, oU, oU] [(.long q0), (.int pa), (.int gg), (.int 7), (.int 7), (.ref b218)]) _
    refine XS.lloadN X234.here hx rfl (hb hby at_211) rfl ?_
    show oP p e below T234 (mkF m 212 #[oJ q0, oS, oJ q1, oS, oI p2, oI gg, oI cd, oI pa, oI pd, oI ((((4 : Int32) * gg) + pa) + pd), oR b218, oU, oU] [(.long q1), (.long q0), (.int pa), (.int gg), (.int 7), (.int 7), (.ref b218)]) _
    refine st235 _ ?_
    show oP p e below T235 (mkF m 215 #[oJ q0, oS, oJ q1, oS, oI p2, oI gg, oI cd, oI pa, oI pd, oI ((((4 : Int32) * gg) + pa) + pd), oR b218, oU, oU] [(.int (fn1 Z (7 : Int32) gg pa q0 q1)), (.int 7), (.ref b218)]) _
    refine st237 _ ?_
    show oP p e below T237 (mkF m 218 #[oJ q0, oS, oJ q1, oS, oI p2, oI gg, oI cd, oI pa, oI pd, oI ((((4 : Int32) * gg) + pa) + pd), oR b218, oU, oU] []) _
    refine XS.aload X237.here hx rfl (hb hby at_218) rfl rfl ?_
    show oP p e below T237 (mkF m 220 #[oJ q0, oS, oJ q1, oS, oI p2, oI gg, oI cd, oI pa, oI pd, oI ((((4 : Int32) * gg) + pa) + pd), oR b218, oU, oU] [(.ref b218)]) _
    refine XS.bipush X237.here hx rfl (hb hby at_220) ?_
    refine XS.bipush X237.here hx rfl (hb hby at_222) ?_
    refine XS.iload X237.here hx rfl (hb hby at_224) rfl ?_
    show oP p e below T237 (mkF m 226 #[oJ q0, oS, oJ q1, oS, oI p2, oI gg, oI cd, oI pa, oI pd, oI ((((4 : Int32) * gg) + pa) + pd), oR b218, oU, oU] [(.int gg), (.int 8), (.int 8), (.ref b218)]) _
    refine XS.iload X237.here hx rfl (hb hby at_226) rfl ?_
    show oP p e below T237 (mkF m 228 #[oJ q0, oS, oJ q1, oS, oI p2, oI gg, oI cd, oI pa, oI pd, oI ((((4 : Int32) * gg) + pa) + pd), oR b218, oU, oU] [(.int pa), (.int gg), (.int 8), (.int 8), (.ref b218)]) _
    refine XS.lloadN X237.here hx rfl (hb hby at_228) rfl ?_
    show oP p e below T237 (mkF m 229 #[oJ q0, oS, oJ q1, oS, oI p2, oI gg, oI cd, oI pa, oI pd, oI ((((4 : Int32) * gg) + pa) + pd), oR b218, oU, oU] [(.long q0), (.int pa), (.int gg), (.int 8), (.int 8), (.ref b218)]) _
    refine XS.lloadN X237.here hx rfl (hb hby at_229) rfl ?_
    show oP p e below T237 (mkF m 230 #[oJ q0, oS, oJ q1, oS, oI p2, oI gg, oI cd, oI pa, oI pd, oI ((((4 : Int32) * gg) + pa) + pd), oR b218, oU, oU] [(.long q1), (.long q0), (.int pa), (.int gg), (.int 8), (.int 8), (.ref b218)]) _
    refine st238 _ ?_
    show oP p e below T238 (mkF m 233 #[oJ q0, oS, oJ q1, oS, oI p2, oI gg, oI cd, oI pa, oI pd, oI ((((4 : Int32) * gg) + pa) + pd), oR b218, oU, oU] [(.int (fn1 Z (8 : Int32) gg pa q0 q1)), (.int 8), (.ref b218)]) _
    refine st239 _ ?_
    show oP p e below T239 (mkF m 236 #[oJ q0, oS, oJ q1, oS, oI p2, oI gg, oI cd, oI pa, oI pd, oI ((((4 : Int32) * gg) + pa) + pd), oR b218, oU, oU] []) _
    refine XS.aload X239.here hx rfl (hb hby at_236) rfl rfl ?_
    show oP p e below T239 (mkF m 238 #[oJ q0, oS, oJ q1, oS, oI p2, oI gg, oI cd, oI pa, oI pd, oI ((((4 : Int32) * gg) + pa) + pd), oR b218, oU, oU] [(.ref b218)]) _
    refine XS.bipush X239.here hx rfl (hb hby at_238) ?_
    refine XS.bipush X239.here hx rfl (hb hby at_240) ?_
    refine XS.iload X239.here hx rfl (hb hby at_242) rfl ?_
    show oP p e below T239 (mkF m 244 #[oJ q0, oS, oJ q1, oS, oI p2, oI gg, oI cd, oI pa, oI pd, oI ((((4 : Int32) * gg) + pa) + pd), oR b218, oU, oU] [(.int gg), (.int 9), (.int 9), (.ref b218)]) _
    refine XS.iload X239.here hx rfl (hb hby at_244) rfl ?_
    show oP p e below T239 (mkF m 246 #[oJ q0, oS, oJ q1, oS, oI p2, oI gg, oI cd, oI pa, oI pd, oI ((((4 : Int32) * gg) + pa) + pd), oR b218, oU, oU] [(.int pa), (.int gg), (.int 9), (.int 9), (.ref b218)]) _
    refine XS.lloadN X239.here hx rfl (hb hby at_246) rfl ?_
    show oP p e below T239 (mkF m 247 #[oJ q0, oS, oJ q1, oS, oI p2, oI gg, oI cd, oI pa, oI pd, oI ((((4 : Int32) * gg) + pa) + pd), oR b218, oU, oU] [(.long q0), (.int pa), (.int gg), (.int 9), (.int 9), (.ref b218)]) _
    refine XS.lloadN X239.here hx rfl (hb hby at_247) rfl ?_
    show oP p e below T239 (mkF m 248 #[oJ q0, oS, oJ q1, oS, oI p2, oI gg, oI cd, oI pa, oI pd, oI ((((4 : Int32) * gg) + pa) + pd), oR b218, oU, oU] [(.long q1), (.long q0), (.int pa), (.int gg), (.int 9), (.int 9), (.ref b218)]) _
    refine st240 _ ?_
    show oP p e below T240 (mkF m 251 #[oJ q0, oS, oJ q1, oS, oI p2, oI gg, oI cd, oI pa, oI pd, oI ((((4 : Int32) * gg) + pa) + pd), oR b218, oU, oU] [(.int (fn1 Z (9 : Int32) gg pa q0 q1)), (.int 9), (.ref b218)]) _
    refine st241 _ ?_
    show oP p e below T241 (mkF m 254 #[oJ q0, oS, oJ q1, oS, oI p2, oI gg, oI cd, oI pa, oI pd, oI ((((4 : Int32) * gg) + pa) + pd), oR b218, oU, oU] []) _
    refine XS.aload X241.here hx rfl (hb hby at_254) rfl rfl ?_
    show oP p e below T241 (mkF m 256 #[oJ q0, oS, oJ q1, oS, oI p2, oI gg, oI cd, oI pa, oI pd, oI ((((4 : Int32) * gg) + pa) + pd), oR b218, oU, oU] [(.ref b218)]) _
    refine XS.bipush X241.here hx rfl (hb hby at_256) ?_
    refine XS.bipush X241.here hx rfl (hb hby at_258) ?_
    refine XS.iload X241.here hx rfl (hb hby at_260) rfl ?_
    show oP p e below T241 (mkF m 262 #[oJ q0, oS, oJ q1, oS, oI p2, oI gg, oI cd, oI pa, oI pd, oI ((((4 : Int32) * gg) + pa) + pd), oR b218, oU, oU] [(.int gg), (.int 10), (.int 10), (.ref b218)]) _
    refine XS.iload X241.here hx rfl (hb hby at_262) rfl ?_
    show oP p e below T241 (mkF m 264 #[oJ q0, oS, oJ q1, oS, oI p2, oI gg, oI cd, oI pa, oI pd, oI ((((4 : Int32) * gg) + pa) + pd), oR b218, oU, oU] [(.int pa), (.int gg), (.int 10), (.int 10), (.ref b218)]) _
    refine XS.lloadN X241.here hx rfl (hb hby at_264) rfl ?_
    show oP p e below T241 (mkF m 265 #[oJ q0, oS, oJ q1, oS, oI p2, oI gg, oI cd, oI pa, oI pd, oI ((((4 : Int32) * gg) + pa) + pd), oR b218, oU, oU] [(.long q0), (.int pa), (.int gg), (.int 10), (.int 10), (.ref b218)]) _
    refine XS.lloadN X241.here hx rfl (hb hby at_265) rfl ?_
    show oP p e below T241 (mkF m 266 #[oJ q0, oS, oJ q1, oS, oI p2, oI gg, oI cd, oI pa, oI pd, oI ((((4 : Int32) * gg) + pa) + pd), oR b218, oU, oU] [(.long q1), (.long q0), (.int pa), (.int gg), (.int 10), (.int 10), (.ref b218)]) _
    refine st243 _ ?_
    show oP p e below T243 (mkF m 269 #[oJ q0, oS, oJ q1, oS, oI p2, oI gg, oI cd, oI pa, oI pd, oI ((((4 : Int32) * gg) + pa) + pd), oR b218, oU, oU] [(.int (fn1 Z (10 : Int32) gg pa q0 q1)), (.int 10), (.ref b218)]) _
    refine st244 _ ?_
    show oP p e below T244 (mkF m 272 #[oJ q0, oS, oJ q1, oS, oI p2, oI gg, oI cd, oI pa, oI pd, oI ((((4 : Int32) * gg) + pa) + pd), oR b218, oU, oU] []) _
    refine XS.aload X244.here hx rfl (hb hby at_272) rfl rfl ?_
    show oP p e below T244 (mkF m 274 #[oJ q0, oS, oJ q1, oS, oI p2, oI gg, oI cd, oI pa, oI pd, oI ((((4 : Int32) * gg) + pa) + pd), oR b218, oU, oU] [(.ref b218)]) _
    refine XS.bipush X244.here hx rfl (hb hby at_274) ?_
    refine XS.bipush X244.here hx rfl (hb hby at_276) ?_
    refine XS.iload X244.here hx rfl (hb hby at_278) rfl ?_
    show oP p e below T244 (mkF m 280 #[oJ q0, oS, oJ q1, oS, oI p2, oI gg, oI cd, oI pa, oI pd, oI ((((4 : Int32) * gg) + pa) + pd), oR b218, oU, oU] [(.int gg), (.int 11), (.int 11), (.ref b218)]) _
    refine XS.iload X244.here hx rfl (hb hby at_280) rfl ?_
    show oP p e below T244 (mkF m 282 #[oJ q0, oS, oJ q1, oS, oI p2, oI gg, oI cd, oI pa, oI pd, oI ((((4 : Int32) * gg) + pa) + pd), oR b218, oU, oU] [(.int pa), (.int gg), (.int 11), (.int 11), (.ref b218)]) _
    refine XS.lloadN X244.here hx rfl (hb hby at_282) rfl ?_
    show oP p e below T244 (mkF m 283 #[oJ q0, oS, oJ q1, oS, oI p2, oI gg, oI cd, oI pa, oI pd, oI ((((4 : Int32) * gg) + pa) + pd), oR b218, oU, oU] [(.long q0), (.int pa), (.int gg), (.int 11), (.int 11), (.ref b218)]) _
    refine XS.lloadN X244.here hx rfl (hb hby at_283) rfl ?_
    show oP p e below T244 (mkF m 284 #[oJ q0, oS, oJ q1, oS, oI p2, oI gg, oI cd, oI pa, oI pd, oI ((((4 : Int32) * gg) + pa) + pd), oR b218, oU, oU] [(.long q1), (.long q0), (.int pa), (.int gg), (.int 11), (.int 11), (.ref b218)]) _
    refine st245 _ ?_
    show oP p e below T245 (mkF m 287 #[oJ q0, oS, oJ q1, oS, oI p2, oI gg, oI cd, oI pa, oI pd, oI ((((4 : Int32) * gg) + pa) + pd), oR b218, oU, oU] [(.int (fn1 Z (11 : Int32) gg pa q0 q1)), (.int 11), (.ref b218)]) _
    refine st246 _ ?_
    show oP p e below T246 (mkF m 290 #[oJ q0, oS, oJ q1, oS, oI p2, oI gg, oI cd, oI pa, oI pd, oI ((((4 : Int32) * gg) + pa) + pd), oR b218, oU, oU] []) _
    refine XS.aload X246.here hx rfl (hb hby at_290) rfl rfl ?_
    show oP p e below T246 (mkF m 292 #[oJ q0, oS, oJ q1, oS, oI p2, oI gg, oI cd, oI pa, oI pd, oI ((((4 : Int32) * gg) + pa) + pd), oR b218, oU, oU] [(.ref b218)]) _
    refine st247 _ ?_
    show oP p e below T247 (mkF m 295 #[oJ q0, oS, oJ q1, oS, oI p2, oI gg, oI cd, oI pa, oI pd, oI ((((4 : Int32) * gg) + pa) + pd), oR b218, oU, oU] [(.ref b247)]) _
    refine XS.astore X247.here hx rfl (hb hby at_295) rfl rfl (l' := #[oJ q0, oS, oJ q1, oS, oI p2, oI gg, oI cd, oI pa, oI pd, oI ((((4 : Int32) * gg) + pa) + pd), oR b218, oR b247, oU]) rfl ?_
    show oP p e below T247 (mkF m 297 #[oJ q0, oS, oJ q1, oS, oI p2, oI gg, oI cd, oI pa, oI pd, oI ((((4 : Int32) * gg) + pa) + pd), oR b218, oR b247, oU] []) _
    refine XS.iconst X247.here hx rfl (hb hby at_297) ?_
    refine XS.iload X247.here hx rfl (hb hby at_298) rfl ?_
    show oP p e below T247 (mkF m 300 #[oJ q0, oS, oJ q1, oS, oI p2, oI gg, oI cd, oI pa, oI pd, oI ((((4 : Int32) * gg) + pa) + pd), oR b218, oR b247, oU] [(.int gg), (.int 3)]) _
    refine XS.imul X247.here hx rfl (hb hby at_300) rfl ?_
    show oP p e below T247 (mkF m 301 #[oJ q0, oS, oJ q1, oS, oI p2, oI gg, oI cd, oI pa, oI pd, oI ((((4 : Int32) * gg) + pa) + pd), oR b218, oR b247, oU] [(.int ((3 : Int32) * gg))]) _
    refine XS.iload X247.here hx rfl (hb hby at_301) rfl ?_
    exact k)
  obtain ⟨el, hel, pre250⟩ : ∃ el : Int32, (((pa = (0 : Int32)) ∧ el = (0 : Int32)) ∨ (¬ (pa = (0 : Int32)) ∧ el = (pa - (1 : Int32)))) ∧ ∀ t, oP p e below T247 (mkF m 314 #[oJ q0, oS, oJ q1, oS, oI p2, oI gg, oI cd, oI pa, oI pd, oI ((((4 : Int32) * gg) + pa) + pd), oR b218, oR b247, oU] [(.int el), (.int ((3 : Int32) * gg))]) t → oP p e below s₁ (entryFrame m #[(.long q0), (.long q1), (.int p2)] maxLocals) t := by
    by_cases hc249 : pa = (0 : Int32)
    · refine ⟨(0 : Int32), Or.inl ⟨hc249, rfl⟩, fun t k => pre248 t (by
        show oP p e below T247 (mkF m 303 #[oJ q0, oS, oJ q1, oS, oI p2, oI gg, oI cd, oI pa, oI pd, oI ((((4 : Int32) * gg) + pa) + pd), oR b218, oR b247, oU] [(.int pa), (.int ((3 : Int32) * gg))]) _
        refine XS.ifNo X247.here hx rfl (hb hby at_303) rfl ((if0 _ _).trans (teq hc249).2) ?_
        show oP p e below T247 (mkF m 306 #[oJ q0, oS, oJ q1, oS, oI p2, oI gg, oI cd, oI pa, oI pd, oI ((((4 : Int32) * gg) + pa) + pd), oR b218, oR b247, oU] [(.int ((3 : Int32) * gg))]) _
        refine XS.iconst X247.here hx rfl (hb hby at_306) ?_
        refine XS.goto X247.here hx rfl (pc0 := 307) (pc' := 314) rfl (hb hby at_307) (by decide) (by decide) ?_
        exact k)⟩
    · refine ⟨(pa - (1 : Int32)), Or.inr (⟨hc249, rfl⟩), fun t k => pre248 t (by
        show oP p e below T247 (mkF m 303 #[oJ q0, oS, oJ q1, oS, oI p2, oI gg, oI cd, oI pa, oI pd, oI ((((4 : Int32) * gg) + pa) + pd), oR b218, oR b247, oU] [(.int pa), (.int ((3 : Int32) * gg))]) _
        refine XS.ifYes X247.here hx rfl (pc0 := 303) (pc' := 310) rfl (hb hby at_303) rfl ((if0 _ _).trans (feq hc249).2) (by decide) (by decide) ?_
        show oP p e below T247 (mkF m 310 #[oJ q0, oS, oJ q1, oS, oI p2, oI gg, oI cd, oI pa, oI pd, oI ((((4 : Int32) * gg) + pa) + pd), oR b218, oR b247, oU] [(.int ((3 : Int32) * gg))]) _
        refine XS.iload X247.here hx rfl (hb hby at_310) rfl ?_
        show oP p e below T247 (mkF m 312 #[oJ q0, oS, oJ q1, oS, oI p2, oI gg, oI cd, oI pa, oI pd, oI ((((4 : Int32) * gg) + pa) + pd), oR b218, oR b247, oU] [(.int pa), (.int ((3 : Int32) * gg))]) _
        refine XS.iconst X247.here hx rfl (hb hby at_312) ?_
        refine XS.isub X247.here hx rfl (hb hby at_313) rfl ?_
        exact k)⟩
  obtain ⟨lo251, X251, N251⟩ := own_hide X247 N247
  obtain ⟨_, _, ⟨T252, L252, k252, n252⟩, -, X252, ⟨Lc252, hQ252, l252, y252, z252⟩, st252⟩ := Jvm.LawKit.callS X251 hx (y := (⟨"com/example/meerkat/meerkat/Base64CodecDecodePinLaw", "same", "([BIIJJ)Z"⟩ : MethodName)) hown (mvT hZ (wi hw 16 rfl)) (mvT hZ (wi hw 17 rfl)) (mvT hZ (wi hw 3 rfl)) (mvT hZ (wi hw 18 rfl)) (by decide) (backOf (W := 0) (rm5 l Z a0 hw hS [] b247 (0 : Int32) gg q0 q1 kb247 (((3 : Int32) * gg) + (if pa = (0 : Int32) then (0 : Int32) else (pa - (1 : Int32)))) vs247 T247.heap n0 O247 A247 (by decide) (hbytes 0 (by decide))) hZ (wi hw 18 rfl) (wi hw 3 rfl) (by decide) (by decide)) (g := (mkF m 334 #[oJ q0, oS, oJ q1, oS, oI p2, oI gg, oI cd, oI pa, oI pd, oI ((((4 : Int32) * gg) + pa) + pd), oR b218, oR b247, oI (((3 : Int32) * gg) + el)] [(.long q1), (.long q0), (.int gg), (.int 0), (.ref b247)])) rfl (by rw [hml]; rfl) (argsL := [(.ref b247), (.int 0), (.int gg), (.long q0), (.long q1)]) (rest := []) (lenOf pd_9 rfl) rfl (by show 2 * 0 + _ ≤ _; exact Nat.le_of_eq rfl) (hb hby at_334) (fun _ _ => ⟨rfl, rfl, (by decide : 2 + 0 ≤ _), (by decide : 20 + 0 ≤ _)⟩)
  dsimp only [Pt.U, Pt.locs, Pt.cells, Pt.slots] at X252 l252 y252 z252 st252 hQ252
  subst l252 y252 z252
  obtain ⟨v252, N252q, K252q⟩ := hQ252
  subst v252
  have N252 := Fr.app N251 N252q
  have O252 := O247.keep K252q all0
  have Kc252 := Kc247.trans K252q all0
  have fx254 := (A247.keep K252q nin0)
  obtain ⟨_, _, ⟨T253, L253, k253, n253⟩, -, X253, ⟨Lc253, hQ253, l253, y253, z253⟩, st253⟩ := Jvm.LawKit.callS X252 hx (y := (⟨"com/example/meerkat/meerkat/Base64CodecDecodePinLaw", "same", "([BIIJJ)Z"⟩ : MethodName)) hown (mvT hZ (wi hw 16 rfl)) (mvT hZ (wi hw 17 rfl)) (mvT hZ (wi hw 3 rfl)) (mvT hZ (wi hw 18 rfl)) (by decide) (backOf (W := 0) (rm5 l Z a0 hw hS [] b247 (1 : Int32) gg q0 q1 kb247 (((3 : Int32) * gg) + (if pa = (0 : Int32) then (0 : Int32) else (pa - (1 : Int32)))) vs247 T252.heap n0 O252 fx254 (by decide) (hbytes 1 (by decide))) hZ (wi hw 18 rfl) (wi hw 3 rfl) (by decide) (by decide)) (g := (mkF m 347 #[oJ q0, oS, oJ q1, oS, oI p2, oI gg, oI cd, oI pa, oI pd, oI ((((4 : Int32) * gg) + pa) + pd), oR b218, oR b247, oI (((3 : Int32) * gg) + el)] [(.long q1), (.long q0), (.int gg), (.int 1), (.ref b247)])) rfl (by rw [hml]; rfl) (argsL := [(.ref b247), (.int 1), (.int gg), (.long q0), (.long q1)]) (rest := []) (lenOf pd_9 rfl) rfl (by show 2 * 0 + _ ≤ _; exact Nat.le_of_eq rfl) (hb hby at_347) (fun _ _ => ⟨rfl, rfl, (by decide : 2 + 0 ≤ _), (by decide : 20 + 0 ≤ _)⟩)
  dsimp only [Pt.U, Pt.locs, Pt.cells, Pt.slots] at X253 l253 y253 z253 st253 hQ253
  subst l253 y253 z253
  obtain ⟨v253, N253q, K253q⟩ := hQ253
  subst v253
  have N253 := Fr.app N252 N253q
  have O253 := O252.keep K253q all0
  have Kc253 := Kc252.trans K253q all0
  have fx256 := (fx254.keep K253q nin0)
  obtain ⟨_, _, ⟨T255, L255, k255, n255⟩, -, X255, ⟨Lc255, hQ255, l255, y255, z255⟩, st255⟩ := Jvm.LawKit.callS X253 hx (y := (⟨"com/example/meerkat/meerkat/Base64CodecDecodePinLaw", "same", "([BIIJJ)Z"⟩ : MethodName)) hown (mvT hZ (wi hw 16 rfl)) (mvT hZ (wi hw 17 rfl)) (mvT hZ (wi hw 3 rfl)) (mvT hZ (wi hw 18 rfl)) (by decide) (backOf (W := 0) (rm5 l Z a0 hw hS [] b247 (2 : Int32) gg q0 q1 kb247 (((3 : Int32) * gg) + (if pa = (0 : Int32) then (0 : Int32) else (pa - (1 : Int32)))) vs247 T253.heap n0 O253 fx256 (by decide) (hbytes 2 (by decide))) hZ (wi hw 18 rfl) (wi hw 3 rfl) (by decide) (by decide)) (g := (mkF m 360 #[oJ q0, oS, oJ q1, oS, oI p2, oI gg, oI cd, oI pa, oI pd, oI ((((4 : Int32) * gg) + pa) + pd), oR b218, oR b247, oI (((3 : Int32) * gg) + el)] [(.long q1), (.long q0), (.int gg), (.int 2), (.ref b247)])) rfl (by rw [hml]; rfl) (argsL := [(.ref b247), (.int 2), (.int gg), (.long q0), (.long q1)]) (rest := []) (lenOf pd_9 rfl) rfl (by show 2 * 0 + _ ≤ _; exact Nat.le_of_eq rfl) (hb hby at_360) (fun _ _ => ⟨rfl, rfl, (by decide : 2 + 0 ≤ _), (by decide : 20 + 0 ≤ _)⟩)
  dsimp only [Pt.U, Pt.locs, Pt.cells, Pt.slots] at X255 l255 y255 z255 st255 hQ255
  subst l255 y255 z255
  obtain ⟨v255, N255q, K255q⟩ := hQ255
  subst v255
  have N255 := Fr.app N253 N255q
  have O255 := O253.keep K255q all0
  have Kc255 := Kc253.trans K255q all0
  have fx258 := (fx256.keep K255q nin0)
  obtain ⟨_, _, ⟨T257, L257, k257, n257⟩, -, X257, ⟨Lc257, hQ257, l257, y257, z257⟩, st257⟩ := Jvm.LawKit.callS X255 hx (y := (⟨"com/example/meerkat/meerkat/Base64CodecDecodePinLaw", "same", "([BIIJJ)Z"⟩ : MethodName)) hown (mvT hZ (wi hw 16 rfl)) (mvT hZ (wi hw 17 rfl)) (mvT hZ (wi hw 3 rfl)) (mvT hZ (wi hw 18 rfl)) (by decide) (backOf (W := 0) (rm5 l Z a0 hw hS [] b247 (3 : Int32) gg q0 q1 kb247 (((3 : Int32) * gg) + (if pa = (0 : Int32) then (0 : Int32) else (pa - (1 : Int32)))) vs247 T255.heap n0 O255 fx258 (by decide) (hbytes 3 (by decide))) hZ (wi hw 18 rfl) (wi hw 3 rfl) (by decide) (by decide)) (g := (mkF m 373 #[oJ q0, oS, oJ q1, oS, oI p2, oI gg, oI cd, oI pa, oI pd, oI ((((4 : Int32) * gg) + pa) + pd), oR b218, oR b247, oI (((3 : Int32) * gg) + el)] [(.long q1), (.long q0), (.int gg), (.int 3), (.ref b247)])) rfl (by rw [hml]; rfl) (argsL := [(.ref b247), (.int 3), (.int gg), (.long q0), (.long q1)]) (rest := []) (lenOf pd_9 rfl) rfl (by show 2 * 0 + _ ≤ _; exact Nat.le_of_eq rfl) (hb hby at_373) (fun _ _ => ⟨rfl, rfl, (by decide : 2 + 0 ≤ _), (by decide : 20 + 0 ≤ _)⟩)
  dsimp only [Pt.U, Pt.locs, Pt.cells, Pt.slots] at X257 l257 y257 z257 st257 hQ257
  subst l257 y257 z257
  obtain ⟨v257, N257q, K257q⟩ := hQ257
  subst v257
  have N257 := Fr.app N255 N257q
  have O257 := O255.keep K257q all0
  have Kc257 := Kc255.trans K257q all0
  have fx260 := (fx258.keep K257q nin0)
  obtain ⟨_, _, ⟨T259, L259, k259, n259⟩, -, X259, ⟨Lc259, hQ259, l259, y259, z259⟩, st259⟩ := Jvm.LawKit.callS X257 hx (y := (⟨"com/example/meerkat/meerkat/Base64CodecDecodePinLaw", "same", "([BIIJJ)Z"⟩ : MethodName)) hown (mvT hZ (wi hw 16 rfl)) (mvT hZ (wi hw 17 rfl)) (mvT hZ (wi hw 3 rfl)) (mvT hZ (wi hw 18 rfl)) (by decide) (backOf (W := 0) (rm5 l Z a0 hw hS [] b247 (4 : Int32) gg q0 q1 kb247 (((3 : Int32) * gg) + (if pa = (0 : Int32) then (0 : Int32) else (pa - (1 : Int32)))) vs247 T257.heap n0 O257 fx260 (by decide) (hbytes 4 (by decide))) hZ (wi hw 18 rfl) (wi hw 3 rfl) (by decide) (by decide)) (g := (mkF m 386 #[oJ q0, oS, oJ q1, oS, oI p2, oI gg, oI cd, oI pa, oI pd, oI ((((4 : Int32) * gg) + pa) + pd), oR b218, oR b247, oI (((3 : Int32) * gg) + el)] [(.long q1), (.long q0), (.int gg), (.int 4), (.ref b247)])) rfl (by rw [hml]; rfl) (argsL := [(.ref b247), (.int 4), (.int gg), (.long q0), (.long q1)]) (rest := []) (lenOf pd_9 rfl) rfl (by show 2 * 0 + _ ≤ _; exact Nat.le_of_eq rfl) (hb hby at_386) (fun _ _ => ⟨rfl, rfl, (by decide : 2 + 0 ≤ _), (by decide : 20 + 0 ≤ _)⟩)
  dsimp only [Pt.U, Pt.locs, Pt.cells, Pt.slots] at X259 l259 y259 z259 st259 hQ259
  subst l259 y259 z259
  obtain ⟨v259, N259q, K259q⟩ := hQ259
  subst v259
  have N259 := Fr.app N257 N259q
  have O259 := O257.keep K259q all0
  have Kc259 := Kc257.trans K259q all0
  obtain ⟨lo261, X261, N261⟩ := own_hide X259 N259
  have fx263 := (fx260.keep K259q nin0)
  obtain ⟨_, _, ⟨T262, L262, k262, n262⟩, -, X262, ⟨Lc262, hQ262, l262, y262, z262⟩, st262⟩ := Jvm.LawKit.callS X261 hx (y := (⟨"com/example/meerkat/meerkat/Base64CodecDecodePinLaw", "same", "([BIIJJ)Z"⟩ : MethodName)) hown (mvT hZ (wi hw 16 rfl)) (mvT hZ (wi hw 17 rfl)) (mvT hZ (wi hw 3 rfl)) (mvT hZ (wi hw 18 rfl)) (by decide) (backOf (W := 0) (rm5 l Z a0 hw hS [] b247 (5 : Int32) gg q0 q1 kb247 (((3 : Int32) * gg) + (if pa = (0 : Int32) then (0 : Int32) else (pa - (1 : Int32)))) vs247 T259.heap n0 O259 fx263 (by decide) (hbytes 5 (by decide))) hZ (wi hw 18 rfl) (wi hw 3 rfl) (by decide) (by decide)) (g := (mkF m 399 #[oJ q0, oS, oJ q1, oS, oI p2, oI gg, oI cd, oI pa, oI pd, oI ((((4 : Int32) * gg) + pa) + pd), oR b218, oR b247, oI (((3 : Int32) * gg) + el)] [(.long q1), (.long q0), (.int gg), (.int 5), (.ref b247)])) rfl (by rw [hml]; rfl) (argsL := [(.ref b247), (.int 5), (.int gg), (.long q0), (.long q1)]) (rest := []) (lenOf pd_9 rfl) rfl (by show 2 * 0 + _ ≤ _; exact Nat.le_of_eq rfl) (hb hby at_399) (fun _ _ => ⟨rfl, rfl, (by decide : 2 + 0 ≤ _), (by decide : 20 + 0 ≤ _)⟩)
  dsimp only [Pt.U, Pt.locs, Pt.cells, Pt.slots] at X262 l262 y262 z262 st262 hQ262
  subst l262 y262 z262
  obtain ⟨v262, N262q, K262q⟩ := hQ262
  subst v262
  have N262 := Fr.app N261 N262q
  have O262 := O259.keep K262q all0
  have Kc262 := Kc259.trans K262q all0
  have fx265 := (fx263.keep K262q nin0)
  obtain ⟨_, _, ⟨T264, L264, k264, n264⟩, -, X264, ⟨Lc264, hQ264, l264, y264, z264⟩, st264⟩ := Jvm.LawKit.callS X262 hx (y := (⟨"com/example/meerkat/meerkat/Base64CodecDecodePinLaw", "same", "([BIIJJ)Z"⟩ : MethodName)) hown (mvT hZ (wi hw 16 rfl)) (mvT hZ (wi hw 17 rfl)) (mvT hZ (wi hw 3 rfl)) (mvT hZ (wi hw 18 rfl)) (by decide) (backOf (W := 0) (rm5 l Z a0 hw hS [] b247 (6 : Int32) gg q0 q1 kb247 (((3 : Int32) * gg) + (if pa = (0 : Int32) then (0 : Int32) else (pa - (1 : Int32)))) vs247 T262.heap n0 O262 fx265 (by decide) (hbytes 6 (by decide))) hZ (wi hw 18 rfl) (wi hw 3 rfl) (by decide) (by decide)) (g := (mkF m 413 #[oJ q0, oS, oJ q1, oS, oI p2, oI gg, oI cd, oI pa, oI pd, oI ((((4 : Int32) * gg) + pa) + pd), oR b218, oR b247, oI (((3 : Int32) * gg) + el)] [(.long q1), (.long q0), (.int gg), (.int 6), (.ref b247)])) rfl (by rw [hml]; rfl) (argsL := [(.ref b247), (.int 6), (.int gg), (.long q0), (.long q1)]) (rest := []) (lenOf pd_9 rfl) rfl (by show 2 * 0 + _ ≤ _; exact Nat.le_of_eq rfl) (hb hby at_413) (fun _ _ => ⟨rfl, rfl, (by decide : 2 + 0 ≤ _), (by decide : 20 + 0 ≤ _)⟩)
  dsimp only [Pt.U, Pt.locs, Pt.cells, Pt.slots] at X264 l264 y264 z264 st264 hQ264
  subst l264 y264 z264
  obtain ⟨v264, N264q, K264q⟩ := hQ264
  subst v264
  have N264 := Fr.app N262 N264q
  have O264 := O262.keep K264q all0
  have Kc264 := Kc262.trans K264q all0
  have fx267 := (fx265.keep K264q nin0)
  obtain ⟨_, _, ⟨T266, L266, k266, n266⟩, -, X266, ⟨Lc266, hQ266, l266, y266, z266⟩, st266⟩ := Jvm.LawKit.callS X264 hx (y := (⟨"com/example/meerkat/meerkat/Base64CodecDecodePinLaw", "same", "([BIIJJ)Z"⟩ : MethodName)) hown (mvT hZ (wi hw 16 rfl)) (mvT hZ (wi hw 17 rfl)) (mvT hZ (wi hw 3 rfl)) (mvT hZ (wi hw 18 rfl)) (by decide) (backOf (W := 0) (rm5 l Z a0 hw hS [] b247 (7 : Int32) gg q0 q1 kb247 (((3 : Int32) * gg) + (if pa = (0 : Int32) then (0 : Int32) else (pa - (1 : Int32)))) vs247 T264.heap n0 O264 fx267 (by decide) (hbytes 7 (by decide))) hZ (wi hw 18 rfl) (wi hw 3 rfl) (by decide) (by decide)) (g := (mkF m 427 #[oJ q0, oS, oJ q1, oS, oI p2, oI gg, oI cd, oI pa, oI pd, oI ((((4 : Int32) * gg) + pa) + pd), oR b218, oR b247, oI (((3 : Int32) * gg) + el)] [(.long q1), (.long q0), (.int gg), (.int 7), (.ref b247)])) rfl (by rw [hml]; rfl) (argsL := [(.ref b247), (.int 7), (.int gg), (.long q0), (.long q1)]) (rest := []) (lenOf pd_9 rfl) rfl (by show 2 * 0 + _ ≤ _; exact Nat.le_of_eq rfl) (hb hby at_427) (fun _ _ => ⟨rfl, rfl, (by decide : 2 + 0 ≤ _), (by decide : 20 + 0 ≤ _)⟩)
  dsimp only [Pt.U, Pt.locs, Pt.cells, Pt.slots] at X266 l266 y266 z266 st266 hQ266
  subst l266 y266 z266
  obtain ⟨v266, N266q, K266q⟩ := hQ266
  subst v266
  have N266 := Fr.app N264 N266q
  have O266 := O264.keep K266q all0
  have Kc266 := Kc264.trans K266q all0
  obtain ⟨fs, hr, hrun, hended, hW, hsame⟩ := X266.leave (v := some (.int 1)) (fun h => by rw [Bd.returns] at h; cases h)
  refine ⟨_, _, pre250 _ ?_, hrun, hended, _, _, rfl, ?_, ⟨_, rfl⟩, hW, hsame.mono (by decide) (by decide)⟩
  · show oP p e below T247 (mkF m 314 #[oJ q0, oS, oJ q1, oS, oI p2, oI gg, oI cd, oI pa, oI pd, oI ((((4 : Int32) * gg) + pa) + pd), oR b218, oR b247, oU] [(.int el), (.int ((3 : Int32) * gg))]) _
    refine XS.iadd X247.here hx rfl (hb hby at_314) rfl ?_
    show oP p e below T247 (mkF m 315 #[oJ q0, oS, oJ q1, oS, oI p2, oI gg, oI cd, oI pa, oI pd, oI ((((4 : Int32) * gg) + pa) + pd), oR b218, oR b247, oU] [(.int (((3 : Int32) * gg) + el))]) _
    refine XS.istore X247.here hx rfl (hb hby at_315) rfl (l' := #[oJ q0, oS, oJ q1, oS, oI p2, oI gg, oI cd, oI pa, oI pd, oI ((((4 : Int32) * gg) + pa) + pd), oR b218, oR b247, oI (((3 : Int32) * gg) + el)]) rfl ?_
    show oP p e below T247 (mkF m 317 #[oJ q0, oS, oJ q1, oS, oI p2, oI gg, oI cd, oI pa, oI pd, oI ((((4 : Int32) * gg) + pa) + pd), oR b218, oR b247, oI (((3 : Int32) * gg) + el)] []) _
    refine XS.aload X247.here hx rfl (hb hby at_317) rfl rfl ?_
    show oP p e below T247 (mkF m 319 #[oJ q0, oS, oJ q1, oS, oI p2, oI gg, oI cd, oI pa, oI pd, oI ((((4 : Int32) * gg) + pa) + pd), oR b218, oR b247, oI (((3 : Int32) * gg) + el)] [(.ref b247)]) _
    refine own_len X247 hx hZ rfl A247 (g := (mkF m 319 #[oJ q0, oS, oJ q1, oS, oI p2, oI gg, oI cd, oI pa, oI pd, oI ((((4 : Int32) * gg) + pa) + pd), oR b218, oR b247, oI (((3 : Int32) * gg) + el)] [(.ref b247)])) rfl rfl (hb hby at_319) _ ?_
    show oP p e below T247 (mkF m 320 #[oJ q0, oS, oJ q1, oS, oI p2, oI gg, oI cd, oI pa, oI pd, oI ((((4 : Int32) * gg) + pa) + pd), oR b218, oR b247, oI (((3 : Int32) * gg) + el)] [(.int (((3 : Int32) * gg) + (if pa = (0 : Int32) then (0 : Int32) else (pa - (1 : Int32)))))]) _
    refine XS.iload X247.here hx rfl (hb hby at_320) rfl ?_
    show oP p e below T247 (mkF m 322 #[oJ q0, oS, oJ q1, oS, oI p2, oI gg, oI cd, oI pa, oI pd, oI ((((4 : Int32) * gg) + pa) + pd), oR b218, oR b247, oI (((3 : Int32) * gg) + el)] [(.int (((3 : Int32) * gg) + el)), (.int (((3 : Int32) * gg) + (if pa = (0 : Int32) then (0 : Int32) else (pa - (1 : Int32)))))]) _
    refine XS.icmpYes X247.here hx rfl (pc0 := 322) (pc' := 327) rfl (hb hby at_322) rfl (teq (own_el hel)).1 (by decide) (by decide) ?_
    show oP p e below T247 (mkF m 327 #[oJ q0, oS, oJ q1, oS, oI p2, oI gg, oI cd, oI pa, oI pd, oI ((((4 : Int32) * gg) + pa) + pd), oR b218, oR b247, oI (((3 : Int32) * gg) + el)] []) _
    refine XS.aload X247.here hx rfl (hb hby at_327) rfl rfl ?_
    show oP p e below T247 (mkF m 329 #[oJ q0, oS, oJ q1, oS, oI p2, oI gg, oI cd, oI pa, oI pd, oI ((((4 : Int32) * gg) + pa) + pd), oR b218, oR b247, oI (((3 : Int32) * gg) + el)] [(.ref b247)]) _
    refine XS.iconst X247.here hx rfl (hb hby at_329) ?_
    refine XS.iload X247.here hx rfl (hb hby at_330) rfl ?_
    show oP p e below T247 (mkF m 332 #[oJ q0, oS, oJ q1, oS, oI p2, oI gg, oI cd, oI pa, oI pd, oI ((((4 : Int32) * gg) + pa) + pd), oR b218, oR b247, oI (((3 : Int32) * gg) + el)] [(.int gg), (.int 0), (.ref b247)]) _
    refine XS.lloadN X247.here hx rfl (hb hby at_332) rfl ?_
    show oP p e below T247 (mkF m 333 #[oJ q0, oS, oJ q1, oS, oI p2, oI gg, oI cd, oI pa, oI pd, oI ((((4 : Int32) * gg) + pa) + pd), oR b218, oR b247, oI (((3 : Int32) * gg) + el)] [(.long q0), (.int gg), (.int 0), (.ref b247)]) _
    refine XS.lloadN X247.here hx rfl (hb hby at_333) rfl ?_
    show oP p e below T247 (mkF m 334 #[oJ q0, oS, oJ q1, oS, oI p2, oI gg, oI cd, oI pa, oI pd, oI ((((4 : Int32) * gg) + pa) + pd), oR b218, oR b247, oI (((3 : Int32) * gg) + el)] [(.long q1), (.long q0), (.int gg), (.int 0), (.ref b247)]) _
    refine st252 _ ?_
    show oP p e below T252 (mkF m 337 #[oJ q0, oS, oJ q1, oS, oI p2, oI gg, oI cd, oI pa, oI pd, oI ((((4 : Int32) * gg) + pa) + pd), oR b218, oR b247, oI (((3 : Int32) * gg) + el)] [(.int 1)]) _
    refine XS.ifNo X252.here hx rfl (hb hby at_337) rfl ((if0 _ _).trans (feq (by decide : ¬ ((1 : Int32) = (0 : Int32)))).1) ?_
    show oP p e below T252 (mkF m 340 #[oJ q0, oS, oJ q1, oS, oI p2, oI gg, oI cd, oI pa, oI pd, oI ((((4 : Int32) * gg) + pa) + pd), oR b218, oR b247, oI (((3 : Int32) * gg) + el)] []) _
    refine XS.aload X252.here hx rfl (hb hby at_340) rfl rfl ?_
    show oP p e below T252 (mkF m 342 #[oJ q0, oS, oJ q1, oS, oI p2, oI gg, oI cd, oI pa, oI pd, oI ((((4 : Int32) * gg) + pa) + pd), oR b218, oR b247, oI (((3 : Int32) * gg) + el)] [(.ref b247)]) _
    refine XS.iconst X252.here hx rfl (hb hby at_342) ?_
    refine XS.iload X252.here hx rfl (hb hby at_343) rfl ?_
    show oP p e below T252 (mkF m 345 #[oJ q0, oS, oJ q1, oS, oI p2, oI gg, oI cd, oI pa, oI pd, oI ((((4 : Int32) * gg) + pa) + pd), oR b218, oR b247, oI (((3 : Int32) * gg) + el)] [(.int gg), (.int 1), (.ref b247)]) _
    refine XS.lloadN X252.here hx rfl (hb hby at_345) rfl ?_
    show oP p e below T252 (mkF m 346 #[oJ q0, oS, oJ q1, oS, oI p2, oI gg, oI cd, oI pa, oI pd, oI ((((4 : Int32) * gg) + pa) + pd), oR b218, oR b247, oI (((3 : Int32) * gg) + el)] [(.long q0), (.int gg), (.int 1), (.ref b247)]) _
    refine XS.lloadN X252.here hx rfl (hb hby at_346) rfl ?_
    show oP p e below T252 (mkF m 347 #[oJ q0, oS, oJ q1, oS, oI p2, oI gg, oI cd, oI pa, oI pd, oI ((((4 : Int32) * gg) + pa) + pd), oR b218, oR b247, oI (((3 : Int32) * gg) + el)] [(.long q1), (.long q0), (.int gg), (.int 1), (.ref b247)]) _
    refine st253 _ ?_
    show oP p e below T253 (mkF m 350 #[oJ q0, oS, oJ q1, oS, oI p2, oI gg, oI cd, oI pa, oI pd, oI ((((4 : Int32) * gg) + pa) + pd), oR b218, oR b247, oI (((3 : Int32) * gg) + el)] [(.int 1)]) _
    refine XS.ifNo X253.here hx rfl (hb hby at_350) rfl ((if0 _ _).trans (feq (by decide : ¬ ((1 : Int32) = (0 : Int32)))).1) ?_
    show oP p e below T253 (mkF m 353 #[oJ q0, oS, oJ q1, oS, oI p2, oI gg, oI cd, oI pa, oI pd, oI ((((4 : Int32) * gg) + pa) + pd), oR b218, oR b247, oI (((3 : Int32) * gg) + el)] []) _
    refine XS.aload X253.here hx rfl (hb hby at_353) rfl rfl ?_
    show oP p e below T253 (mkF m 355 #[oJ q0, oS, oJ q1, oS, oI p2, oI gg, oI cd, oI pa, oI pd, oI ((((4 : Int32) * gg) + pa) + pd), oR b218, oR b247, oI (((3 : Int32) * gg) + el)] [(.ref b247)]) _
    refine XS.iconst X253.here hx rfl (hb hby at_355) ?_
    refine XS.iload X253.here hx rfl (hb hby at_356) rfl ?_
    show oP p e below T253 (mkF m 358 #[oJ q0, oS, oJ q1, oS, oI p2, oI gg, oI cd, oI pa, oI pd, oI ((((4 : Int32) * gg) + pa) + pd), oR b218, oR b247, oI (((3 : Int32) * gg) + el)] [(.int gg), (.int 2), (.ref b247)]) _
    refine XS.lloadN X253.here hx rfl (hb hby at_358) rfl ?_
    show oP p e below T253 (mkF m 359 #[oJ q0, oS, oJ q1, oS, oI p2, oI gg, oI cd, oI pa, oI pd, oI ((((4 : Int32) * gg) + pa) + pd), oR b218, oR b247, oI (((3 : Int32) * gg) + el)] [(.long q0), (.int gg), (.int 2), (.ref b247)]) _
    refine XS.lloadN X253.here hx rfl (hb hby at_359) rfl ?_
    show oP p e below T253 (mkF m 360 #[oJ q0, oS, oJ q1, oS, oI p2, oI gg, oI cd, oI pa, oI pd, oI ((((4 : Int32) * gg) + pa) + pd), oR b218, oR b247, oI (((3 : Int32) * gg) + el)] [(.long q1), (.long q0), (.int gg), (.int 2), (.ref b247)]) _
    refine st255 _ ?_
    show oP p e below T255 (mkF m 363 #[oJ q0, oS, oJ q1, oS, oI p2, oI gg, oI cd, oI pa, oI pd, oI ((((4 : Int32) * gg) + pa) + pd), oR b218, oR b247, oI (((3 : Int32) * gg) + el)] [(.int 1)]) _
    refine XS.ifNo X255.here hx rfl (hb hby at_363) rfl ((if0 _ _).trans (feq (by decide : ¬ ((1 : Int32) = (0 : Int32)))).1) ?_
    show oP p e below T255 (mkF m 366 #[oJ q0, oS, oJ q1, oS, oI p2, oI gg, oI cd, oI pa, oI pd, oI ((((4 : Int32) * gg) + pa) + pd), oR b218, oR b247, oI (((3 : Int32) * gg) + el)] []) _
    refine XS.aload X255.here hx rfl (hb hby at_366) rfl rfl ?_
    show oP p e below T255 (mkF m 368 #[oJ q0, oS, oJ q1, oS, oI p2, oI gg, oI cd, oI pa, oI pd, oI ((((4 : Int32) * gg) + pa) + pd), oR b218, oR b247, oI (((3 : Int32) * gg) + el)] [(.ref b247)]) _
    refine XS.iconst X255.here hx rfl (hb hby at_368) ?_
    refine XS.iload X255.here hx rfl (hb hby at_369) rfl ?_
    show oP p e below T255 (mkF m 371 #[oJ q0, oS, oJ q1, oS, oI p2, oI gg, oI cd, oI pa, oI pd, oI ((((4 : Int32) * gg) + pa) + pd), oR b218, oR b247, oI (((3 : Int32) * gg) + el)] [(.int gg), (.int 3), (.ref b247)]) _
    refine XS.lloadN X255.here hx rfl (hb hby at_371) rfl ?_
    show oP p e below T255 (mkF m 372 #[oJ q0, oS, oJ q1, oS, oI p2, oI gg, oI cd, oI pa, oI pd, oI ((((4 : Int32) * gg) + pa) + pd), oR b218, oR b247, oI (((3 : Int32) * gg) + el)] [(.long q0), (.int gg), (.int 3), (.ref b247)]) _
    refine XS.lloadN X255.here hx rfl (hb hby at_372) rfl ?_
    show oP p e below T255 (mkF m 373 #[oJ q0, oS, oJ q1, oS, oI p2, oI gg, oI cd, oI pa, oI pd, oI ((((4 : Int32) * gg) + pa) + pd), oR b218, oR b247, oI (((3 : Int32) * gg) + el)] [(.long q1), (.long q0), (.int gg), (.int 3), (.ref b247)]) _
    refine st257 _ ?_
    show oP p e below T257 (mkF m 376 #[oJ q0, oS, oJ q1, oS, oI p2, oI gg, oI cd, oI pa, oI pd, oI ((((4 : Int32) * gg) + pa) + pd), oR b218, oR b247, oI (((3 : Int32) * gg) + el)] [(.int 1)]) _
    refine XS.ifNo X257.here hx rfl (hb hby at_376) rfl ((if0 _ _).trans (feq (by decide : ¬ ((1 : Int32) = (0 : Int32)))).1) ?_
    show oP p e below T257 (mkF m 379 #[oJ q0, oS, oJ q1, oS, oI p2, oI gg, oI cd, oI pa, oI pd, oI ((((4 : Int32) * gg) + pa) + pd), oR b218, oR b247, oI (((3 : Int32) * gg) + el)] []) _
    refine XS.aload X257.here hx rfl (hb hby at_379) rfl rfl ?_
    show oP p e below T257 (mkF m 381 #[oJ q0, oS, oJ q1, oS, oI p2, oI gg, oI cd, oI pa, oI pd, oI ((((4 : Int32) * gg) + pa) + pd), oR b218, oR b247, oI (((3 : Int32) * gg) + el)] [(.ref b247)]) _
    refine XS.iconst X257.here hx rfl (hb hby at_381) ?_
    refine XS.iload X257.here hx rfl (hb hby at_382) rfl ?_
    show oP p e below T257 (mkF m 384 #[oJ q0, oS, oJ q1, oS, oI p2, oI gg, oI cd, oI pa, oI pd, oI ((((4 : Int32) * gg) + pa) + pd), oR b218, oR b247, oI (((3 : Int32) * gg) + el)] [(.int gg), (.int 4), (.ref b247)]) _
    refine XS.lloadN X257.here hx rfl (hb hby at_384) rfl ?_
    show oP p e below T257 (mkF m 385 #[oJ q0, oS, oJ q1, oS, oI p2, oI gg, oI cd, oI pa, oI pd, oI ((((4 : Int32) * gg) + pa) + pd), oR b218, oR b247, oI (((3 : Int32) * gg) + el)] [(.long q0), (.int gg), (.int 4), (.ref b247)]) _
    refine XS.lloadN X257.here hx rfl (hb hby at_385) rfl ?_
    show oP p e below T257 (mkF m 386 #[oJ q0, oS, oJ q1, oS, oI p2, oI gg, oI cd, oI pa, oI pd, oI ((((4 : Int32) * gg) + pa) + pd), oR b218, oR b247, oI (((3 : Int32) * gg) + el)] [(.long q1), (.long q0), (.int gg), (.int 4), (.ref b247)]) _
    refine st259 _ ?_
    show oP p e below T259 (mkF m 389 #[oJ q0, oS, oJ q1, oS, oI p2, oI gg, oI cd, oI pa, oI pd, oI ((((4 : Int32) * gg) + pa) + pd), oR b218, oR b247, oI (((3 : Int32) * gg) + el)] [(.int 1)]) _
    refine XS.ifNo X259.here hx rfl (hb hby at_389) rfl ((if0 _ _).trans (feq (by decide : ¬ ((1 : Int32) = (0 : Int32)))).1) ?_
    show oP p e below T259 (mkF m 392 #[oJ q0, oS, oJ q1, oS, oI p2, oI gg, oI cd, oI pa, oI pd, oI ((((4 : Int32) * gg) + pa) + pd), oR b218, oR b247, oI (((3 : Int32) * gg) + el)] []) _
    refine XS.aload X259.here hx rfl (hb hby at_392) rfl rfl ?_
    show oP p e below T259 (mkF m 394 #[oJ q0, oS, oJ q1, oS, oI p2, oI gg, oI cd, oI pa, oI pd, oI ((((4 : Int32) * gg) + pa) + pd), oR b218, oR b247, oI (((3 : Int32) * gg) + el)] [(.ref b247)]) _
    refine XS.iconst X259.here hx rfl (hb hby at_394) ?_
    refine XS.iload X259.here hx rfl (hb hby at_395) rfl ?_
    show oP p e below T259 (mkF m 397 #[oJ q0, oS, oJ q1, oS, oI p2, oI gg, oI cd, oI pa, oI pd, oI ((((4 : Int32) * gg) + pa) + pd), oR b218, oR b247, oI (((3 : Int32) * gg) + el)] [(.int gg), (.int 5), (.ref b247)]) _
    refine XS.lloadN X259.here hx rfl (hb hby at_397) rfl ?_
    show oP p e below T259 (mkF m 398 #[oJ q0, oS, oJ q1, oS, oI p2, oI gg, oI cd, oI pa, oI pd, oI ((((4 : Int32) * gg) + pa) + pd), oR b218, oR b247, oI (((3 : Int32) * gg) + el)] [(.long q0), (.int gg), (.int 5), (.ref b247)]) _
    refine XS.lloadN X259.here hx rfl (hb hby at_398) rfl ?_
    show oP p e below T259 (mkF m 399 #[oJ q0, oS, oJ q1, oS, oI p2, oI gg, oI cd, oI pa, oI pd, oI ((((4 : Int32) * gg) + pa) + pd), oR b218, oR b247, oI (((3 : Int32) * gg) + el)] [(.long q1), (.long q0), (.int gg), (.int 5), (.ref b247)]) _
    refine st262 _ ?_
    show oP p e below T262 (mkF m 402 #[oJ q0, oS, oJ q1, oS, oI p2, oI gg, oI cd, oI pa, oI pd, oI ((((4 : Int32) * gg) + pa) + pd), oR b218, oR b247, oI (((3 : Int32) * gg) + el)] [(.int 1)]) _
    refine XS.ifNo X262.here hx rfl (hb hby at_402) rfl ((if0 _ _).trans (feq (by decide : ¬ ((1 : Int32) = (0 : Int32)))).1) ?_
    show oP p e below T262 (mkF m 405 #[oJ q0, oS, oJ q1, oS, oI p2, oI gg, oI cd, oI pa, oI pd, oI ((((4 : Int32) * gg) + pa) + pd), oR b218, oR b247, oI (((3 : Int32) * gg) + el)] []) _
    refine XS.aload X262.here hx rfl (hb hby at_405) rfl rfl ?_
    show oP p e below T262 (mkF m 407 #[oJ q0, oS, oJ q1, oS, oI p2, oI gg, oI cd, oI pa, oI pd, oI ((((4 : Int32) * gg) + pa) + pd), oR b218, oR b247, oI (((3 : Int32) * gg) + el)] [(.ref b247)]) _
    refine XS.bipush X262.here hx rfl (hb hby at_407) ?_
    refine XS.iload X262.here hx rfl (hb hby at_409) rfl ?_
    show oP p e below T262 (mkF m 411 #[oJ q0, oS, oJ q1, oS, oI p2, oI gg, oI cd, oI pa, oI pd, oI ((((4 : Int32) * gg) + pa) + pd), oR b218, oR b247, oI (((3 : Int32) * gg) + el)] [(.int gg), (.int 6), (.ref b247)]) _
    refine XS.lloadN X262.here hx rfl (hb hby at_411) rfl ?_
    show oP p e below T262 (mkF m 412 #[oJ q0, oS, oJ q1, oS, oI p2, oI gg, oI cd, oI pa, oI pd, oI ((((4 : Int32) * gg) + pa) + pd), oR b218, oR b247, oI (((3 : Int32) * gg) + el)] [(.long q0), (.int gg), (.int 6), (.ref b247)]) _
    refine XS.lloadN X262.here hx rfl (hb hby at_412) rfl ?_
    show oP p e below T262 (mkF m 413 #[oJ q0, oS, oJ q1, oS, oI p2, oI gg, oI cd, oI pa, oI pd, oI ((((4 : Int32) * gg) + pa) + pd), oR b218, oR b247, oI (((3 : Int32) * gg) + el)] [(.long q1), (.long q0), (.int gg), (.int 6), (.ref b247)]) _
    refine st264 _ ?_
    show oP p e below T264 (mkF m 416 #[oJ q0, oS, oJ q1, oS, oI p2, oI gg, oI cd, oI pa, oI pd, oI ((((4 : Int32) * gg) + pa) + pd), oR b218, oR b247, oI (((3 : Int32) * gg) + el)] [(.int 1)]) _
    refine XS.ifNo X264.here hx rfl (hb hby at_416) rfl ((if0 _ _).trans (feq (by decide : ¬ ((1 : Int32) = (0 : Int32)))).1) ?_
    show oP p e below T264 (mkF m 419 #[oJ q0, oS, oJ q1, oS, oI p2, oI gg, oI cd, oI pa, oI pd, oI ((((4 : Int32) * gg) + pa) + pd), oR b218, oR b247, oI (((3 : Int32) * gg) + el)] []) _
    refine XS.aload X264.here hx rfl (hb hby at_419) rfl rfl ?_
    show oP p e below T264 (mkF m 421 #[oJ q0, oS, oJ q1, oS, oI p2, oI gg, oI cd, oI pa, oI pd, oI ((((4 : Int32) * gg) + pa) + pd), oR b218, oR b247, oI (((3 : Int32) * gg) + el)] [(.ref b247)]) _
    refine XS.bipush X264.here hx rfl (hb hby at_421) ?_
    refine XS.iload X264.here hx rfl (hb hby at_423) rfl ?_
    show oP p e below T264 (mkF m 425 #[oJ q0, oS, oJ q1, oS, oI p2, oI gg, oI cd, oI pa, oI pd, oI ((((4 : Int32) * gg) + pa) + pd), oR b218, oR b247, oI (((3 : Int32) * gg) + el)] [(.int gg), (.int 7), (.ref b247)]) _
    refine XS.lloadN X264.here hx rfl (hb hby at_425) rfl ?_
    show oP p e below T264 (mkF m 426 #[oJ q0, oS, oJ q1, oS, oI p2, oI gg, oI cd, oI pa, oI pd, oI ((((4 : Int32) * gg) + pa) + pd), oR b218, oR b247, oI (((3 : Int32) * gg) + el)] [(.long q0), (.int gg), (.int 7), (.ref b247)]) _
    refine XS.lloadN X264.here hx rfl (hb hby at_426) rfl ?_
    show oP p e below T264 (mkF m 427 #[oJ q0, oS, oJ q1, oS, oI p2, oI gg, oI cd, oI pa, oI pd, oI ((((4 : Int32) * gg) + pa) + pd), oR b218, oR b247, oI (((3 : Int32) * gg) + el)] [(.long q1), (.long q0), (.int gg), (.int 7), (.ref b247)]) _
    refine st266 _ ?_
    show oP p e below T266 (mkF m 430 #[oJ q0, oS, oJ q1, oS, oI p2, oI gg, oI cd, oI pa, oI pd, oI ((((4 : Int32) * gg) + pa) + pd), oR b218, oR b247, oI (((3 : Int32) * gg) + el)] [(.int 1)]) _
    refine XS.ifNo X266.here hx rfl (hb hby at_430) rfl ((if0 _ _).trans (feq (by decide : ¬ ((1 : Int32) = (0 : Int32)))).1) ?_
    show oP p e below T266 (mkF m 433 #[oJ q0, oS, oJ q1, oS, oI p2, oI gg, oI cd, oI pa, oI pd, oI ((((4 : Int32) * gg) + pa) + pd), oR b218, oR b247, oI (((3 : Int32) * gg) + el)] []) _
    refine XS.iconst X266.here hx rfl (hb hby at_433) ?_
    refine XS.goto X266.here hx rfl (pc0 := 434) (pc' := 438) rfl (hb hby at_434) (by decide) (by decide) ?_
    show oP p e below T266 (mkF m 438 #[oJ q0, oS, oJ q1, oS, oI p2, oI gg, oI cd, oI pa, oI pd, oI ((((4 : Int32) * gg) + pa) + pd), oR b218, oR b247, oI (((3 : Int32) * gg) + el)] [(.int 1)]) _
    exact retN X266 hx (t := .boolean) Bd.returns (by simp) (hb hby at_438) hr
  · show (some (.int 1) : Option Value) = some (.int 1) ∧ Fr n0 _ ∧ Keep h0 T266.heap []
    exact ⟨rfl, N266, Kc266⟩
set_option maxRecDepth 65536 in
set_option maxHeartbeats 40000000 in
theorem comes_1 {Post : Tables → Env → Array Value → State → Outcome → State → Prop} (hpost : ∀ tb e args s v u, (limb_1_1.after args s (.returned v) u = true ∧ limb_1_2.after args s (.returned v) u = true ∧ True) → FrameEnd s (.returned v) u (Jvm.fieldLocs frame_1_writes args s ++ Jvm.arrayLocs frame_1_arrays args s ++ Jvm.staticLocs frame_1_statics s) 16 128 → Post tb e args s (.returned v) u) :
    ArmFor flags0 classFile x code maxLocals ret World_1 tables_1 room_1 Calls_1 rest_1 Pre_1 Post := by
  intro l hfl _ _ p e ha hc hk s m args below hf hA hF happ hP
  obtain ⟨hcalls, hrest, hpre⟩ := hP
  obtain ⟨-, -, -, hnamed, -, -, -, hat⟩ := (Spec.applies_iff hf).mp happ
  obtain ⟨hg, hn⟩ := and_e (Cond.before_iff.mp (show (Jvm.Cond.and given_1 narrow_1).before args s = true from hpre))
  obtain ⟨g1, g2⟩ := and_e hg
  obtain ⟨g3, g4⟩ := and_e g2
  obtain ⟨g5, g6⟩ := and_e g4
  obtain ⟨w0, w1, w2, rfl⟩ : ∃ w0 w1 w2 : Value, args = #[w0, w1, w2] := by
    have hs : args.size = 3 := by simpa [Cond.value, given_1] using g1
    obtain ⟨L⟩ := args
    match L, hs with
    | [w0, w1, w2], _ => exact ⟨w0, w1, w2, rfl⟩
  have hw := fun d (hd : d ∈ tables_1) => atoms_spec (ws := Jvm.Cond.code x code maxLocals ret :: tables_1) hat d (List.mem_cons_of_mem _ hd)
  have hfit : Fit s := fun {y c} hc i hi => by
    obtain ⟨ha, rfl⟩ := Array.getElem?_eq_some_iff.mp hc
    have q := List.all_eq_true.mp ((Array.all_eq_true_iff_forall_mem.mp hF) _ (Array.getElem_mem ha)) i (List.mem_range.mpr hi)
    simpa [Array.getElem?_eq_getElem hi] using q
  obtain ⟨i0, ei0⟩ := isL_v g3
  obtain rfl : w0 = (.long i0) := Option.some.inj ei0
  obtain ⟨i1, ei1⟩ := isL_v g5
  obtain rfl : w1 = (.long i1) := Option.some.inj ei1
  obtain ⟨i2, ei2⟩ := is_v g6
  obtain rfl : w2 = (.int i2) := Option.some.inj ei2
  obtain ⟨q0, hn0⟩ := and_e hn
  obtain ⟨q1, hn1⟩ := and_e hn0
  obtain ⟨q2, hn2⟩ := and_e hn1
  obtain ⟨q3, hn3⟩ := and_e hn2
  obtain ⟨q4, hn4⟩ := and_e hn3
  obtain ⟨q5, hn5⟩ := and_e hn4
  obtain ⟨q6, hn6⟩ := and_e hn5
  obtain ⟨q7, hn7⟩ := and_e hn6
  obtain ⟨q8, hn8⟩ := and_e hn7
  obtain ⟨q9, hn9⟩ := and_e hn8
  obtain ⟨q10, hn10⟩ := and_e hn9
  obtain ⟨q11, hn11⟩ := and_e hn10
  obtain ⟨q12, hn12⟩ := and_e hn11
  have q13 := hn12
  have hS : St s := ⟨(own_staA q0 (Or.inr ⟨(wi hw 10 rfl), (wi hw 27 rfl)⟩)), (own_tab q0 q1 q3 q7 q8 q10 q12)⟩
  obtain ⟨n, o, h1, h2, h3, _, L, rfl, ⟨rfl, N, -⟩, hq⟩ := rm0 l s _ hw hS tables_1 i0 i1 i2 s.heap s.heap.size (Old.start s) p e ha hc hk s m _ below hf ((Spec.applies_iff_loose hf).mp happ).1 ⟨rfl, State.Warmed39.refl s, rfl⟩ trivial
  refine ⟨n, _, h1, h2, h3, hpost _ _ _ _ _ _ ⟨Cond.after_iff.mpr rfl, Cond.after_iff.mpr (eq_i res_at (Term.int_eval (1)) rfl), trivial⟩ ⟨hq.1, hq.2.1, (hq.2.2.sift fun y hy => Or.inr (N y hy)).mono (by decide) (by decide)⟩⟩
theorem main_1_1 : Claimed_1_1 := comes_1 fun _ _ _ _ _ _ h hF => ⟨h.1, hF⟩
theorem main_1_2 : Claimed_1_2 := comes_1 fun _ _ _ _ _ _ h hF => ⟨h.2.1, hF⟩
end Jvm.Pilot.@@N@@
namespace Jvm.Pilot.@@N@@
open Jvm Jvm.ClassFile Sem Op Lib Jvm.Free Jvm.Stand Jvm.Pilot.@@N@@.Jvm.D
/-! MADE BY PROGRAM (witnessworld.py) out of the Statement's table words and the real class files: 10 classes; the members and pool entries that the words name. The judged class is class 1, her method 1. -/
namespace start1
open Jvm.ClassFile
def u (s : String) : CpInfo := .utf8 (stringToUtf16 s)
/-- a pool by its gaps: so many unusable entries, then the entry; so many at the end -/
def gap : Nat → List CpInfo → List CpInfo
  | 0, r => r
  | n + 1, r => .unusable :: gap n r
def poolList (es : List (Nat × CpInfo)) (last : Nat) : List CpInfo := es.foldr (fun e r => gap e.1 (e.2 :: r)) (gap last [])
def pool (es : List (Nat × CpInfo)) (last : Nat) : Array CpInfo := ⟨poolList es last⟩
def fileOf (pool : Array CpInfo) (this : Nat) (attrs : Array Attribute := #[]) (ms : Array MethodInfo := #[]) (fl : Nat := 33) (sup : Nat := 0) (ifs : Array Nat := #[]) (fds : Array FieldInfo := #[]) : ClassFile where
  minorVersion := 0
  majorVersion := 65
  constantPool := pool
  accessFlags := fl
  thisClass := this
  superClass := sup
  interfaces := ifs
  fields := fds
  methods := ms
  attributes := attrs
def plain (name : String) (sup : Option ClassId) : Class where
  name := name
  kind := .ordinary
  loader := none
  accessFlags := 33
  super := sup
  interfaces := #[]
  cf := none
  fields := #[]
  methods := #[]
  instanceTypes := #[]
  staticTypes := #[]
  resolved := #[]
  callSites := []
  init := .initialized
  statics := none
  mirror := none

def pool0 : Array CpInfo := pool [(5, u "<init>"), (0, u "()V"), (1, .class_ 10), (1, u "java/lang/Object")] 113

def k0m0 : Method := { name := "<init>", desc := "()V", sig := { parameters := [], returnType := none }, accessFlags := 1, code := none }
/-- java/lang/Object -/
def k0 : Class := { plain "java/lang/Object" none with
  accessFlags := 33
  interfaces := #[]
  cf := some (fileOf pool0 8 #[] #[{ accessFlags := 1, nameIndex := 5, descriptorIndex := 6, attributes := #[] }] 33 0 #[] #[])
  fields := #[]
  methods := #[k0m0]
  instanceTypes := #[]
  staticTypes := #[]
  resolved := Array.replicate 124 none
  statics := none }

def pool1 : Array CpInfo := pool [(2, .class_ 4), (1, u "java/lang/Object"), (0, u "<init>"), (0, u "()V"), (0, .methodref 8 9), (0, .class_ 10), (0, .nameAndType 11 12), (0, u "com/example/meerkat/meerkat/Base64CodecDecodePinLaw"), (0, u "at"), (0, u "(IIIJJ)B"), (0, .methodref 8 14), (0, .nameAndType 15 16), (0, u "put"), (0, u "([BIB)V"), (0, .methodref 18 19), (0, .class_ 20), (0, .nameAndType 21 22), (0, u "com/example/meerkat/meerkat/Base64Codec"), (0, u "decode"), (0, u "([B)[B"), (0, .methodref 8 24), (0, .nameAndType 25 26), (0, u "same"), (0, u "([BIIJJ)Z"), (0, .long 63), (1, .methodref 8 30), (0, .nameAndType 31 32), (0, u "dig"), (0, u "(JI)I"), (0, .methodref 8 34), (0, .nameAndType 35 36), (0, u "ch"), (0, u "(I)B"), (0, .methodref 8 38), (0, .nameAndType 39 40), (0, u "wholeByte"), (0, u "(JII)I"), (0, .methodref 8 42), (0, .nameAndType 43 44), (0, u "expAt"), (0, u "(IIJJ)I"), (2, u "law"), (0, u "(JJI)Z")] 5

def k1m0 : Method := { name := "<init>", desc := "()V", sig := { parameters := [], returnType := none }, accessFlags := 1, code := none }
def k1c1 : Code := { maxStack := 9, maxLocals := 13, code := code, exceptionTable := #[], attributes := #[] }
def k1m1 : Method := { name := "law", desc := "(JJI)Z", sig := { parameters := [.long, .long, .int], returnType := some .boolean }, accessFlags := 9, code := some k1c1 }
def k1c2 : Code := { maxStack := 3, maxLocals := 3, code := method_3_code, exceptionTable := #[], attributes := #[] }
def k1m2 : Method := { name := "put", desc := "([BIB)V", sig := { parameters := [(.array .byte), .int, .byte], returnType := none }, accessFlags := 10, code := some k1c2 }
def k1c3 : Code := { maxStack := 4, maxLocals := 3, code := method_4_code, exceptionTable := #[], attributes := #[] }
def k1m3 : Method := { name := "dig", desc := "(JI)I", sig := { parameters := [.long, .int], returnType := some .int }, accessFlags := 10, code := some k1c3 }
def k1c4 : Code := { maxStack := 3, maxLocals := 1, code := method_5_code, exceptionTable := #[], attributes := #[] }
def k1m4 : Method := { name := "ch", desc := "(I)B", sig := { parameters := [.int], returnType := some .byte }, accessFlags := 10, code := some k1c4 }
def k1c5 : Code := { maxStack := 5, maxLocals := 7, code := method_6_code, exceptionTable := #[], attributes := #[] }
def k1m5 : Method := { name := "at", desc := "(IIIJJ)B", sig := { parameters := [.int, .int, .int, .long, .long], returnType := some .byte }, accessFlags := 10, code := some k1c5 }
def k1c6 : Code := { maxStack := 4, maxLocals := 8, code := method_7_code, exceptionTable := #[], attributes := #[] }
def k1m6 : Method := { name := "wholeByte", desc := "(JII)I", sig := { parameters := [.long, .int, .int], returnType := some .int }, accessFlags := 10, code := some k1c6 }
def k1c7 : Code := { maxStack := 5, maxLocals := 9, code := method_8_code, exceptionTable := #[], attributes := #[] }
def k1m7 : Method := { name := "expAt", desc := "(IIJJ)I", sig := { parameters := [.int, .int, .long, .long], returnType := some .int }, accessFlags := 10, code := some k1c7 }
def k1c8 : Code := { maxStack := 7, maxLocals := 7, code := method_9_code, exceptionTable := #[], attributes := #[] }
def k1m8 : Method := { name := "same", desc := "([BIIJJ)Z", sig := { parameters := [(.array .byte), .int, .int, .long, .long], returnType := some .boolean }, accessFlags := 10, code := some k1c8 }
/-- com/example/meerkat/meerkat/Base64CodecDecodePinLaw -/
def k1 : Class := { plain "com/example/meerkat/meerkat/Base64CodecDecodePinLaw" (some 0) with
  accessFlags := 49
  interfaces := #[]
  cf := some (fileOf pool1 8 #[] #[{ accessFlags := 1, nameIndex := 5, descriptorIndex := 6, attributes := #[] }, { accessFlags := 9, nameIndex := 47, descriptorIndex := 48, attributes := #[] }, { accessFlags := 10, nameIndex := 15, descriptorIndex := 16, attributes := #[] }, { accessFlags := 10, nameIndex := 31, descriptorIndex := 32, attributes := #[] }, { accessFlags := 10, nameIndex := 35, descriptorIndex := 36, attributes := #[] }, { accessFlags := 10, nameIndex := 11, descriptorIndex := 12, attributes := #[] }, { accessFlags := 10, nameIndex := 39, descriptorIndex := 40, attributes := #[] }, { accessFlags := 10, nameIndex := 43, descriptorIndex := 44, attributes := #[] }, { accessFlags := 10, nameIndex := 25, descriptorIndex := 26, attributes := #[] }] 49 2 #[] #[])
  fields := #[]
  methods := #[k1m0, k1m1, k1m2, k1m3, k1m4, k1m5, k1m6, k1m7, k1m8]
  instanceTypes := #[]
  staticTypes := #[]
  resolved := Array.replicate 54 none
  statics := none }

def pool2 : Array CpInfo := pool [(2, .class_ 4), (1, u "java/lang/Object"), (0, u "<init>"), (0, u "()V"), (6, .class_ 15), (1, u "java/lang/Math"), (1, u "(II)I"), (0, .class_ 19), (0, u "com/example/meerkat/meerkat/Base64Codec"), (25, .methodref 13 46), (0, .nameAndType 47 17), (0, u "max"), (0, .fieldref 18 49), (0, .nameAndType 50 51), (0, u "VALUES"), (0, u "[I"), (0, .methodref 18 53), (0, .nameAndType 54 55), (0, u "bitsOf"), (0, u "([BII)I"), (18, u "DIGITS"), (0, u "Ljava/lang/String;"), (1, u "PAD"), (0, u "B"), (6, u "decode"), (0, u "([B)[B")] 21

def k2m0 : Method := { name := "<init>", desc := "()V", sig := { parameters := [], returnType := none }, accessFlags := 2, code := none }
def k2c1 : Code := { maxStack := 5, maxLocals := 9, code := prog_8_method_3_code, exceptionTable := #[], attributes := #[] }
def k2m1 : Method := { name := "decode", desc := "([B)[B", sig := { parameters := [(.array .byte)], returnType := some (.array .byte) }, accessFlags := 8, code := some k2c1 }
def k2c2 : Code := { maxStack := 3, maxLocals := 6, code := prog_8_method_4_code, exceptionTable := #[], attributes := #[] }
def k2m2 : Method := { name := "bitsOf", desc := "([BII)I", sig := { parameters := [(.array .byte), .int, .int], returnType := some .int }, accessFlags := 10, code := some k2c2 }
/-- com/example/meerkat/meerkat/Base64Codec -/
def k2 : Class := { plain "com/example/meerkat/meerkat/Base64Codec" (some 0) with
  accessFlags := 32
  interfaces := #[]
  cf := some (fileOf pool2 18 #[] #[{ accessFlags := 2, nameIndex := 5, descriptorIndex := 6, attributes := #[] }, { accessFlags := 8, nameIndex := 85, descriptorIndex := 86, attributes := #[] }, { accessFlags := 10, nameIndex := 54, descriptorIndex := 55, attributes := #[] }] 32 2 #[] #[{ accessFlags := 26, nameIndex := 74, descriptorIndex := 75, attributes := #[] }, { accessFlags := 26, nameIndex := 77, descriptorIndex := 78, attributes := #[] }, { accessFlags := 26, nameIndex := 50, descriptorIndex := 51, attributes := #[] }])
  fields := #[{ name := "DIGITS", type := (.object "java/lang/String"), accessFlags := 26, slot := 0, constantValue := 0 }, { name := "PAD", type := .byte, accessFlags := 26, slot := 1, constantValue := 0 }, { name := "VALUES", type := (.array .int), accessFlags := 26, slot := 2, constantValue := 0 }]
  methods := #[k2m0, k2m1, k2m2]
  instanceTypes := #[]
  staticTypes := #[(.object "java/lang/String"), .byte, (.array .int)]
  resolved := Array.replicate 108 none
  statics := some 0 }

def pool3 : Array CpInfo := pool [(1, .class_ 2), (0, u "java/lang/Math"), (1, .class_ 6), (1, u "java/lang/Object"), (0, u "<init>"), (0, u "()V"), (89, .class_ 100), (1, u "java/lang/Math$RandomNumberGeneratorHolder"), (71, u "negativeZeroFloatBits"), (0, u "J"), (2, u "negativeZeroDoubleBits"), (21, u "max"), (46, u "$assertionsDisabled"), (0, u "Z"), (88, u "(II)I"), (2, u "twoToTheDoubleScaleDown"), (0, u "D"), (4, u "twoToTheDoubleScaleUp"), (9, u "E"), (3, u "PI"), (2, u "TAU"), (2, u "DEGREES_TO_RADIANS"), (0, u "RADIANS_TO_DEGREES")] 94

def k3m0 : Method := { name := "<init>", desc := "()V", sig := { parameters := [], returnType := none }, accessFlags := 2, code := none }
def k3c1 : Code := { maxStack := 2, maxLocals := 2, code := jdk_29_method_65_code, exceptionTable := #[], attributes := #[] }
def k3m1 : Method := { name := "max", desc := "(II)I", sig := { parameters := [.int, .int], returnType := some .int }, accessFlags := 9, code := some k3c1 }
/-- java/lang/Math -/
def k3 : Class := { plain "java/lang/Math" (some 0) with
  accessFlags := 49
  interfaces := #[]
  cf := some (fileOf pool3 1 #[.nestMembers #[98]] #[{ accessFlags := 2, nameIndex := 7, descriptorIndex := 8, attributes := #[] }, { accessFlags := 9, nameIndex := 198, descriptorIndex := 335, attributes := #[] }] 49 4 #[] #[{ accessFlags := 25, nameIndex := 354, descriptorIndex := 339, attributes := #[] }, { accessFlags := 25, nameIndex := 358, descriptorIndex := 339, attributes := #[] }, { accessFlags := 25, nameIndex := 361, descriptorIndex := 339, attributes := #[] }, { accessFlags := 26, nameIndex := 364, descriptorIndex := 339, attributes := #[] }, { accessFlags := 26, nameIndex := 365, descriptorIndex := 339, attributes := #[] }, { accessFlags := 26, nameIndex := 172, descriptorIndex := 173, attributes := #[] }, { accessFlags := 26, nameIndex := 176, descriptorIndex := 173, attributes := #[] }, { accessFlags := 8, nameIndex := 344, descriptorIndex := 339, attributes := #[] }, { accessFlags := 8, nameIndex := 338, descriptorIndex := 339, attributes := #[] }, { accessFlags := 4120, nameIndex := 245, descriptorIndex := 246, attributes := #[] }])
  fields := #[{ name := "E", type := .double, accessFlags := 25, slot := 0, constantValue := 0 }, { name := "PI", type := .double, accessFlags := 25, slot := 1, constantValue := 0 }, { name := "TAU", type := .double, accessFlags := 25, slot := 2, constantValue := 0 }, { name := "DEGREES_TO_RADIANS", type := .double, accessFlags := 26, slot := 3, constantValue := 0 }, { name := "RADIANS_TO_DEGREES", type := .double, accessFlags := 26, slot := 4, constantValue := 0 }, { name := "negativeZeroFloatBits", type := .long, accessFlags := 26, slot := 5, constantValue := 0 }, { name := "negativeZeroDoubleBits", type := .long, accessFlags := 26, slot := 6, constantValue := 0 }, { name := "twoToTheDoubleScaleUp", type := .double, accessFlags := 8, slot := 7, constantValue := 0 }, { name := "twoToTheDoubleScaleDown", type := .double, accessFlags := 8, slot := 8, constantValue := 0 }, { name := "$assertionsDisabled", type := .boolean, accessFlags := 4120, slot := 9, constantValue := 0 }]
  methods := #[k3m0, k3m1]
  instanceTypes := #[]
  staticTypes := #[.double, .double, .double, .double, .double, .long, .long, .double, .double, .boolean]
  resolved := Array.replicate 460 none
  statics := none }

def pool4 : Array CpInfo := pool [(1, u "java/lang/Cloneable"), (0, .class_ 1), (0, u "java/lang/Object"), (0, .class_ 3)] 3

/-- java/lang/Cloneable -/
def k4 : Class := { plain "java/lang/Cloneable" (some 0) with
  accessFlags := 1537
  interfaces := #[]
  cf := some (fileOf pool4 2 #[] #[] 1537 4 #[] #[])
  fields := #[]
  methods := #[]
  instanceTypes := #[]
  staticTypes := #[]
  resolved := Array.replicate 8 none
  statics := none }

def pool5 : Array CpInfo := pool [(1, u "java/io/Serializable"), (0, .class_ 1), (0, u "java/lang/Object"), (0, .class_ 3)] 3

/-- java/io/Serializable -/
def k5 : Class := { plain "java/io/Serializable" (some 0) with
  accessFlags := 1537
  interfaces := #[]
  cf := some (fileOf pool5 2 #[] #[] 1537 4 #[] #[])
  fields := #[]
  methods := #[]
  instanceTypes := #[]
  staticTypes := #[]
  resolved := Array.replicate 8 none
  statics := none }

/-- the primitive byte -/
def k6 : Class := { plain "byte" none with kind := .primitive 'B', accessFlags := 0x411 }
/-- [B -/
def k7 : Class := { plain "[B" (some 0) with kind := .array 6 .byte, interfaces := #[4, 5], accessFlags := 1041 }

/-- the primitive int -/
def k8 : Class := { plain "int" none with kind := .primitive 'I', accessFlags := 0x411 }
/-- [I -/
def k9 : Class := { plain "[I" (some 0) with kind := .array 8 .int, interfaces := #[4, 5], accessFlags := 1041 }

def heap : Heap := #[{ cls := 2, slots := #[.null, .int 0, .ref 1], vm := .statics 2 },
  { cls := 9, slots := #[.int (-1), .int (-1), .int (-1), .int (-1), .int (-1), .int (-1), .int (-1), .int (-1), .int (-1), .int (-1), .int (-1), .int (-1), .int (-1), .int (-1), .int (-1), .int (-1), .int (-1), .int (-1), .int (-1), .int (-1), .int (-1), .int (-1), .int (-1), .int (-1), .int (-1), .int (-1), .int (-1), .int (-1), .int (-1), .int (-1), .int (-1), .int (-1), .int (-1), .int (-1), .int (-1), .int (-1), .int (-1), .int (-1), .int (-1), .int (-1), .int (-1), .int (-1), .int (-1), .int 62, .int (-1), .int (-1), .int (-1), .int 63, .int 52, .int 53, .int 54, .int 55, .int 56, .int 57, .int 58, .int 59, .int 60, .int 61, .int (-1), .int (-1), .int (-1), .int (-1), .int (-1), .int (-1), .int (-1), .int 0, .int 1, .int 2, .int 3, .int 4, .int 5, .int 6, .int 7, .int 8, .int 9, .int 10, .int 11, .int 12, .int 13, .int 14, .int 15, .int 16, .int 17, .int 18, .int 19, .int 20, .int 21, .int 22, .int 23, .int 24, .int 25, .int (-1), .int (-1), .int (-1), .int (-1), .int (-1), .int (-1), .int 26, .int 27, .int 28, .int 29, .int 30, .int 31, .int 32, .int 33, .int 34, .int 35, .int 36, .int 37, .int 38, .int 39, .int 40, .int 41, .int 42, .int 43, .int 44, .int 45, .int 46, .int 47, .int 48, .int 49, .int 50, .int 51, .int (-1), .int (-1), .int (-1), .int (-1), .int (-1), .int (-1), .int (-1), .int (-1), .int (-1), .int (-1), .int (-1), .int (-1), .int (-1), .int (-1), .int (-1), .int (-1), .int (-1), .int (-1), .int (-1), .int (-1), .int (-1), .int (-1), .int (-1), .int (-1), .int (-1), .int (-1), .int (-1), .int (-1), .int (-1), .int (-1), .int (-1), .int (-1), .int (-1), .int (-1), .int (-1), .int (-1), .int (-1), .int (-1), .int (-1), .int (-1), .int (-1), .int (-1), .int (-1), .int (-1), .int (-1), .int (-1), .int (-1), .int (-1), .int (-1), .int (-1), .int (-1), .int (-1), .int (-1), .int (-1), .int (-1), .int (-1), .int (-1), .int (-1), .int (-1), .int (-1), .int (-1), .int (-1), .int (-1), .int (-1), .int (-1), .int (-1), .int (-1), .int (-1), .int (-1), .int (-1), .int (-1), .int (-1), .int (-1), .int (-1), .int (-1), .int (-1), .int (-1), .int (-1), .int (-1), .int (-1), .int (-1), .int (-1), .int (-1), .int (-1), .int (-1), .int (-1), .int (-1), .int (-1), .int (-1), .int (-1), .int (-1), .int (-1), .int (-1), .int (-1), .int (-1), .int (-1), .int (-1), .int (-1), .int (-1), .int (-1), .int (-1), .int (-1), .int (-1), .int (-1), .int (-1), .int (-1), .int (-1), .int (-1), .int (-1), .int (-1), .int (-1), .int (-1), .int (-1), .int (-1), .int (-1), .int (-1), .int (-1), .int (-1), .int (-1), .int (-1), .int (-1), .int (-1), .int (-1), .int (-1), .int (-1), .int (-1), .int (-1), .int (-1), .int (-1), .int (-1), .int (-1), .int (-1), .int (-1)], vm := .none }]
def classes : Array Class := #[k0, k1, k2, k3, k4, k5, k6, k7, k8, k9]
def interned : List (Array UInt16 × Addr) := []
def slotsUsed : Nat := 259
def theMethod : MethodId := ⟨1, 1⟩
def args0 : Array Value := #[.long 5, .long 6, .int 7]
def aboutOver (below : List Frame) : State where
  vm := { classes := classes, interned := interned.toArray }
  heap := heap
  slotsUsed := slotsUsed
  threads := #[{ frames := .invoking theMethod args0 :: below }]
def below0 : List Frame := [.native { method := ⟨0, 0⟩, args := #[] }]
def about1 : State := aboutOver below0
def p0 : Program := .bare "" "" ""
def e0 : Env := launch0.env 0 0 0
theorem w_frames : about1.frames = Frame.invoking theMethod args0 :: below0 := rfl
set_option maxRecDepth 65536 in
theorem w_args : argsFit about1.vm theMethod args0 = true := by decide +kernel
set_option maxRecDepth 65536 in
theorem w_heap : heapFits about1 = true := by decide +kernel
set_option maxRecDepth 65536 in
theorem w_runnable : about1.curStatus? = some .runnable := by decide +kernel
set_option maxRecDepth 65536 in
theorem w_alone : about1.alone = true := by decide +kernel
set_option maxRecDepth 65536 in
theorem w_named : about1.methodNamed? x = some theMethod := by decide +kernel
set_option maxRecDepth 65536 in
theorem w_hears : about1.hears theMethod below0 = true := by decide +kernel
set_option maxRecDepth 65536 in
theorem w_ripe : about1.ripe theMethod args0 below0 = true := by decide +kernel
theorem w_running : about1.status = .running := rfl
set_option maxRecDepth 65536 in
theorem w_room : about1.hasRoom e0.platform room_1 = true :=
  launch0.hasRoom_least _ room_1 (by decide +kernel) (by decide +kernel) (by decide +kernel) (by decide +kernel) (by decide +kernel) (by decide +kernel)
theorem allAtoms_all (ts : List Jvm.Cond) (a : Array Jvm.Value) (st : Jvm.State) : (allAtoms ts).before a st = ts.all (fun c => c.before a st) := by
  induction ts with
  | nil => rfl
  | cons c t ih =>
    show (Jvm.Cond.and c (allAtoms t)).before a st = _
    rw [Jvm.Cond.before_and, ih, List.all_cons]
def words1 : List Jvm.Cond := Jvm.Cond.code x code maxLocals ret :: tables_1
/-- a 'code' word, met by the world's own term for the bytes: nothing is compared byte by byte -/
theorem code_word {y : MethodName} {bytes : ByteArray} {mx : Nat} {rt : Option FieldType} {a : Array Value} {s : State} {m : MethodId} {meth : Method} {c : Code} (h1 : s.methodNamed? y = some m) (h2 : s.vm.method? m = some meth) (h3 : meth.code = some c) (h4 : c.code = bytes)
    (h5 : (c.maxLocals == mx && c.exceptionTable.isEmpty && decide (c.maxStack ≤ mostOperands) && decide (meth.sig.returnType = rt) && !meth.locks && decide (parseMethodDescriptor y.desc = some meth.sig)) = true) : (Jvm.Cond.code y bytes mx rt).before a s = true := by
  simp only [Bool.and_eq_true, beq_iff_eq, Bool.not_eq_true', decide_eq_true_eq] at h5
  obtain ⟨⟨⟨⟨⟨g1, g2⟩, g3⟩, g4⟩, g5⟩, g6⟩ := h5
  simp [Cond.before, Cond.holds, Cond.value, h1, h2, h3, h4, g1, g2, g3, g4, g5, g6]
def isCode : Jvm.Cond → Bool
  | .code _ _ _ _ => true
  | _ => false
theorem all_split {L : List Jvm.Cond} {P : Jvm.Cond → Bool} (h1 : L.all (fun c => isCode c || P c) = true) (h2 : ∀ c ∈ L.filter isCode, P c = true) : L.all P = true := by
  refine List.all_eq_true.mpr fun c hc => ?_
  have h := List.all_eq_true.mp h1 c hc
  rcases Bool.eq_false_or_eq_true (isCode c) with hi | hi
  · exact h2 c (List.mem_filter.mpr ⟨hc, hi⟩)
  · simpa [hi] using h
set_option maxRecDepth 65536 in
theorem w_c0 : (Jvm.Cond.code x code maxLocals ret).before args0 about1 = true := code_word (m := ⟨1, 1⟩) (meth := k1m1) (c := k1c1) (by decide +kernel) rfl rfl rfl (by decide +kernel)
set_option maxRecDepth 65536 in
theorem w_c1 : (Jvm.Cond.code ({ cls := "com/example/meerkat/meerkat/Base64CodecDecodePinLaw", name := "at", desc := "(IIIJJ)B" } : Jvm.MethodName) method_6_code (7 : Nat) (Option.some Jvm.ClassFile.FieldType.byte)).before args0 about1 = true := code_word (m := ⟨1, 5⟩) (meth := k1m5) (c := k1c5) (by decide +kernel) rfl rfl rfl (by decide +kernel)
set_option maxRecDepth 65536 in
theorem w_c2 : (Jvm.Cond.code ({ cls := "com/example/meerkat/meerkat/Base64CodecDecodePinLaw", name := "put", desc := "([BIB)V" } : Jvm.MethodName) method_3_code (3 : Nat) (Option.none : Option Jvm.ClassFile.FieldType)).before args0 about1 = true := code_word (m := ⟨1, 2⟩) (meth := k1m2) (c := k1c2) (by decide +kernel) rfl rfl rfl (by decide +kernel)
set_option maxRecDepth 65536 in
theorem w_c3 : (Jvm.Cond.code ({ cls := "com/example/meerkat/meerkat/Base64Codec", name := "decode", desc := "([B)[B" } : Jvm.MethodName) prog_8_method_3_code (9 : Nat) (Option.some (Jvm.ClassFile.FieldType.array Jvm.ClassFile.FieldType.byte))).before args0 about1 = true := code_word (m := ⟨2, 1⟩) (meth := k2m1) (c := k2c1) (by decide +kernel) rfl rfl rfl (by decide +kernel)
set_option maxRecDepth 65536 in
theorem w_c4 : (Jvm.Cond.code ({ cls := "java/lang/Math", name := "max", desc := "(II)I" } : Jvm.MethodName) jdk_29_method_65_code (2 : Nat) (Option.some Jvm.ClassFile.FieldType.int)).before args0 about1 = true := code_word (m := ⟨3, 1⟩) (meth := k3m1) (c := k3c1) (by decide +kernel) rfl rfl rfl (by decide +kernel)
set_option maxRecDepth 65536 in
theorem w_c5 : (Jvm.Cond.code ({ cls := "com/example/meerkat/meerkat/Base64CodecDecodePinLaw", name := "same", desc := "([BIIJJ)Z" } : Jvm.MethodName) method_9_code (7 : Nat) (Option.some Jvm.ClassFile.FieldType.boolean)).before args0 about1 = true := code_word (m := ⟨1, 8⟩) (meth := k1m8) (c := k1c8) (by decide +kernel) rfl rfl rfl (by decide +kernel)
set_option maxRecDepth 65536 in
theorem w_c6 : (Jvm.Cond.code ({ cls := "com/example/meerkat/meerkat/Base64CodecDecodePinLaw", name := "dig", desc := "(JI)I" } : Jvm.MethodName) method_4_code (3 : Nat) (Option.some Jvm.ClassFile.FieldType.int)).before args0 about1 = true := code_word (m := ⟨1, 3⟩) (meth := k1m3) (c := k1c3) (by decide +kernel) rfl rfl rfl (by decide +kernel)
set_option maxRecDepth 65536 in
theorem w_c7 : (Jvm.Cond.code ({ cls := "com/example/meerkat/meerkat/Base64CodecDecodePinLaw", name := "ch", desc := "(I)B" } : Jvm.MethodName) method_5_code (1 : Nat) (Option.some Jvm.ClassFile.FieldType.byte)).before args0 about1 = true := code_word (m := ⟨1, 4⟩) (meth := k1m4) (c := k1c4) (by decide +kernel) rfl rfl rfl (by decide +kernel)
set_option maxRecDepth 65536 in
theorem w_c8 : (Jvm.Cond.code ({ cls := "com/example/meerkat/meerkat/Base64Codec", name := "bitsOf", desc := "([BII)I" } : Jvm.MethodName) prog_8_method_4_code (6 : Nat) (Option.some Jvm.ClassFile.FieldType.int)).before args0 about1 = true := code_word (m := ⟨2, 2⟩) (meth := k2m2) (c := k2c2) (by decide +kernel) rfl rfl rfl (by decide +kernel)
set_option maxRecDepth 65536 in
theorem w_c9 : (Jvm.Cond.code ({ cls := "com/example/meerkat/meerkat/Base64CodecDecodePinLaw", name := "expAt", desc := "(IIJJ)I" } : Jvm.MethodName) method_8_code (9 : Nat) (Option.some Jvm.ClassFile.FieldType.int)).before args0 about1 = true := code_word (m := ⟨1, 7⟩) (meth := k1m7) (c := k1c7) (by decide +kernel) rfl rfl rfl (by decide +kernel)
set_option maxRecDepth 65536 in
theorem w_c10 : (Jvm.Cond.code ({ cls := "com/example/meerkat/meerkat/Base64CodecDecodePinLaw", name := "wholeByte", desc := "(JII)I" } : Jvm.MethodName) method_7_code (8 : Nat) (Option.some Jvm.ClassFile.FieldType.int)).before args0 about1 = true := code_word (m := ⟨1, 6⟩) (meth := k1m6) (c := k1c6) (by decide +kernel) rfl rfl rfl (by decide +kernel)
def codes1 : List Jvm.Cond := [Jvm.Cond.code x code maxLocals ret, Jvm.Cond.code ({ cls := "com/example/meerkat/meerkat/Base64CodecDecodePinLaw", name := "at", desc := "(IIIJJ)B" } : Jvm.MethodName) method_6_code (7 : Nat) (Option.some Jvm.ClassFile.FieldType.byte), Jvm.Cond.code ({ cls := "com/example/meerkat/meerkat/Base64CodecDecodePinLaw", name := "put", desc := "([BIB)V" } : Jvm.MethodName) method_3_code (3 : Nat) (Option.none : Option Jvm.ClassFile.FieldType), Jvm.Cond.code ({ cls := "com/example/meerkat/meerkat/Base64Codec", name := "decode", desc := "([B)[B" } : Jvm.MethodName) prog_8_method_3_code (9 : Nat) (Option.some (Jvm.ClassFile.FieldType.array Jvm.ClassFile.FieldType.byte)), Jvm.Cond.code ({ cls := "java/lang/Math", name := "max", desc := "(II)I" } : Jvm.MethodName) jdk_29_method_65_code (2 : Nat) (Option.some Jvm.ClassFile.FieldType.int), Jvm.Cond.code ({ cls := "com/example/meerkat/meerkat/Base64CodecDecodePinLaw", name := "same", desc := "([BIIJJ)Z" } : Jvm.MethodName) method_9_code (7 : Nat) (Option.some Jvm.ClassFile.FieldType.boolean), Jvm.Cond.code ({ cls := "com/example/meerkat/meerkat/Base64CodecDecodePinLaw", name := "dig", desc := "(JI)I" } : Jvm.MethodName) method_4_code (3 : Nat) (Option.some Jvm.ClassFile.FieldType.int), Jvm.Cond.code ({ cls := "com/example/meerkat/meerkat/Base64CodecDecodePinLaw", name := "ch", desc := "(I)B" } : Jvm.MethodName) method_5_code (1 : Nat) (Option.some Jvm.ClassFile.FieldType.byte), Jvm.Cond.code ({ cls := "com/example/meerkat/meerkat/Base64Codec", name := "bitsOf", desc := "([BII)I" } : Jvm.MethodName) prog_8_method_4_code (6 : Nat) (Option.some Jvm.ClassFile.FieldType.int), Jvm.Cond.code ({ cls := "com/example/meerkat/meerkat/Base64CodecDecodePinLaw", name := "expAt", desc := "(IIJJ)I" } : Jvm.MethodName) method_8_code (9 : Nat) (Option.some Jvm.ClassFile.FieldType.int), Jvm.Cond.code ({ cls := "com/example/meerkat/meerkat/Base64CodecDecodePinLaw", name := "wholeByte", desc := "(JII)I" } : Jvm.MethodName) method_7_code (8 : Nat) (Option.some Jvm.ClassFile.FieldType.int)]
set_option maxRecDepth 65536 in
theorem codes_eq : words1.filter isCode = codes1 := rfl
theorem w_codes : ∀ c ∈ words1.filter isCode, c.before args0 about1 = true := by
  rw [codes_eq]
  intro c hc
  simp only [codes1, List.mem_cons, List.not_mem_nil, or_false] at hc
  rcases hc with rfl | rfl | rfl | rfl | rfl | rfl | rfl | rfl | rfl | rfl | rfl
  · exact w_c0
  · exact w_c1
  · exact w_c2
  · exact w_c3
  · exact w_c4
  · exact w_c5
  · exact w_c6
  · exact w_c7
  · exact w_c8
  · exact w_c9
  · exact w_c10
set_option maxRecDepth 65536 in
theorem w_t1 : (words1.take 24).all (fun c => isCode c || c.before args0 about1) = true := by decide +kernel
set_option maxRecDepth 65536 in
theorem w_t2 : (words1.drop 24).all (fun c => isCode c || c.before args0 about1) = true := by decide +kernel
theorem w_tables : (allAtoms (Jvm.Cond.code x code maxLocals ret :: tables_1)).before args0 about1 = true := by
  rw [allAtoms_all]
  show words1.all (fun c => c.before args0 about1) = true
  refine all_split ?_ w_codes
  rw [← List.take_append_drop 24 words1, List.all_append, w_t1, w_t2]
  rfl
set_option maxRecDepth 65536 in
theorem w_case : (Jvm.Cond.and given_1 narrow_1).before args0 about1 = true := by decide +kernel
theorem w_applies : (headSpec (Jvm.Cond.code x code maxLocals ret :: tables_1) room_1).applies x e0.platform about1 = true :=
  (Spec.applies_iff w_frames).mpr ⟨w_running, w_runnable, w_alone, w_named, w_hears, w_ripe, w_room, w_tables⟩
theorem atStart : AtStart classFile x code maxLocals ret World_1 tables_1 room_1 Calls_1 rest_1 Pre_1 launch0 p0 e0 about1 theMethod args0 below0 :=
  ⟨lists_1, trivial, launch0.admits_env _ _ _, launch0.least_env, fairChoices_fair.cas, fairChoices_fair.clock, w_frames, w_args, w_heap, w_applies, trivial, trivial, w_case⟩
end start1
theorem witness_1 : WitnessClaimed_1 := ⟨start1.p0, start1.e0, start1.about1, start1.theMethod, start1.args0, start1.below0, start1.atStart⟩
end Jvm.Pilot.@@N@@
