import JvmDerived
import JvmDerived.Pilot.@@N@@Statement
import JvmDerived.Pilot.@@N@@Code
set_option linter.unusedVariables false
set_option linter.unusedSimpArgs false
namespace Jvm.RoadKit
open Sem ClassFile Op Lib Jvm.Stand Jvm.Free Jvm.LawKit
section New
variable {p : Program} {l : Launch} {e : Env} {R : Room} {s : State} {m : MethodId} {args : Array Value} {below : List Frame} {meth : Method} {c : Code} {T : State} {locs : List Loc} {cells slots : Nat}
theorem retI (X : Stand p l e R s m args below meth c T locs cells slots) (hx : p.tables.exec = Jvm.exec) {pc : Nat} {Ls : Array Slot} {z : Int32} {rest : List Value} (hret : meth.sig.returnType = some .int) (hd : decode c.code pc = .ok (.ireturn, 1)) {fs : List Frame}
    (hl : ∀ (f : JFrame) (acts : List Action), f.method = m → f.locked = none → f.entered = [] → (doReturn e (T.setTop f) acts (some (.int z))).1 = T.setFrames fs) : Steps p.tables e below (T.setTop (mkF m pc Ls (.int z :: rest))) (T.setFrames fs) := by
  have hm' : T.vm.method? m = some meth := X.method'
  have hn : narrow .int (.int z) = .int z := rfl
  show Steps p.tables e below (T.setTop { method := m, pc := pc, locals := Ls, stack := _ :: rest, locked := none }) _
  jvm_step X.here [X.here.top, hx, hd, hm', hret, hn]
  first | (intro acts; rw [hl _ acts rfl rfl rfl]) | rw [hl _ _ rfl rfl rfl]
  exact Steps.refl _
theorem own_retJ (X : Stand p l e R s m args below meth c T locs cells slots) (hx : p.tables.exec = Jvm.exec) {pc : Nat} {Ls : Array Slot} {z : Int64} {rest : List Value} (hret : meth.sig.returnType = some .long) (hd : decode c.code pc = .ok (.lreturn, 1)) {fs : List Frame}
    (hl : ∀ (f : JFrame) (acts : List Action), f.method = m → f.locked = none → f.entered = [] → (doReturn e (T.setTop f) acts (some (.long z))).1 = T.setFrames fs) : Steps p.tables e below (T.setTop (mkF m pc Ls (.long z :: rest))) (T.setFrames fs) := by
  have hm' : T.vm.method? m = some meth := X.method'
  have hn : narrow .long (.long z) = .long z := rfl
  show Steps p.tables e below (T.setTop { method := m, pc := pc, locals := Ls, stack := _ :: rest, locked := none }) _
  jvm_step X.here [X.here.top, hx, hd, hm', hret, hn]
  first | (intro acts; rw [hl _ acts rfl rfl rfl]) | rw [hl _ _ rfl rfl rfl]
  exact Steps.refl _
theorem own_cR (a : Addr) : (Value.ref a).category = 1 := rfl
theorem own_cI (a : Int32) : (Value.int a).category = 1 := rfl
theorem own_cJ (a : Int64) : (Value.long a).category = 2 := rfl
theorem own_cN : Value.null.category = 1 := rfl
theorem own_hide (X : Stand p l e R s m args below meth c T locs cells slots) {n0 : Nat} (N : Fr n0 locs) : ∃ lo, Stand p l e R s m args below meth c T lo cells slots ∧ Fr n0 lo := ⟨locs, X, N⟩
theorem own_catV {v : Value} (h : v.isRef = true) : v.category = 1 := by cases v <;> first | rfl | cases h
theorem own_retA (X : Stand p l e R s m args below meth c T locs cells slots) (hx : p.tables.exec = Jvm.exec) {pc : Nat} {Ls : Array Slot} {w : Value} {t : FieldType} {rest : List Value} (hret : meth.sig.returnType = some t) (ht : t.isReference = true) (hw : w.isRef = true) (hd : decode c.code pc = .ok (.areturn, 1)) {fs : List Frame}
    (hl : ∀ (f : JFrame) (acts : List Action), f.method = m → f.locked = none → f.entered = [] → (doReturn e (T.setTop f) acts (some w)).1 = T.setFrames fs) : Steps p.tables e below (T.setTop (mkF m pc Ls (w :: rest))) (T.setFrames fs) := by
  have hm' : T.vm.method? m = some meth := X.method'
  show Steps p.tables e below (T.setTop { method := m, pc := pc, locals := Ls, stack := w :: rest, locked := none }) _
  jvm_step X.here [X.here.top, hx, hd, hm', hret, ht, hw]
  first | (intro acts; rw [hl _ acts rfl rfl rfl]) | rw [hl _ _ rfl rfl rfl]
  exact Steps.refl _
variable {Z : State} {h : Heap}
theorem own_len (X : Stand p l e R s m args below meth c T locs cells slots) (hx : p.tables.exec = Jvm.exec) (hZ : Z.Warmed39 s.vm) (eT : T.heap = h) {a : Addr} {k : ClassId} {ty : FieldType} {z : Int32} {vs : List Value} {dv : Value} (F : Arv Z h a k ty z vs dv) {g : JFrame} (hg : g.method = m) {rest : List Value} (hs : g.stack = .ref a :: rest) (hd : decode c.code g.pc = .ok (.arraylength, 1)) (target : State)
    (hr : Steps p.tables e below (T.setTop { g with pc := g.pc + 1, stack := .int z :: rest }) target) : Steps p.tables e below (T.setTop g) target := by
  obtain ⟨cl, A, -, S, N, -, -⟩ := F
  refine X.arraylength hx (by rw [eT]; exact A.1) (State.isArrayOf_alike hZ.alike A.2.1) hg hs hd _ ?_
  rw [len_of S N]; exact hr
theorem own_aaload (X : Stand p l e R s m args below meth c T locs cells slots) (hx : p.tables.exec = Jvm.exec) (hZ : Z.Warmed39 s.vm) (eT : T.heap = h) {a : Addr} {k : ClassId} {ty : FieldType} {z : Int32} {vs : List Value} {dv : Value} (F : Arv Z h a k ty z vs dv) (hty : ty.isReference = true) {j : Int32} (hj : ¬ j < 0 ∧ j < z) {v : Value} (hv : vs.getD j.toNatClampNeg dv = v) {g : JFrame} (hg : g.method = m) {rest : List Value} (hs : g.stack = .int j :: .ref a :: rest) (hd : decode c.code g.pc = .ok (.aaload, 1)) (target : State)
    (hr : Steps p.tables e below (T.setTop { g with pc := g.pc + 1, stack := v :: rest }) target) : Steps p.tables e below (T.setTop g) target := by
  obtain ⟨cl, A, -, S, N, H, -⟩ := F
  have hin := inb_of S hj
  exact X.aaload hx (by rw [eT]; exact A.1) (State.isArrayOf_alike hZ.alike A.2.1) hty A.2.2 hin (H.at hin hv) hg hs hd _ hr
theorem own_baload (X : Stand p l e R s m args below meth c T locs cells slots) (hx : p.tables.exec = Jvm.exec) (hZ : Z.Warmed39 s.vm) (eT : T.heap = h) {a : Addr} {k : ClassId} {z : Int32} {vs : List Value} {dv : Value} (F : Arv Z h a k .byte z vs dv) {j : Int32} (hj : ¬ j < 0 ∧ j < z) {v : Value} (hv : vs.getD j.toNatClampNeg dv = v) {g : JFrame} (hg : g.method = m) {rest : List Value} (hs : g.stack = .int j :: .ref a :: rest) (hd : decode c.code g.pc = .ok (.baload, 1)) (target : State)
    (hr : Steps p.tables e below (T.setTop { g with pc := g.pc + 1, stack := v :: rest }) target) : Steps p.tables e below (T.setTop g) target := by
  obtain ⟨cl, A, -, S, N, H, -⟩ := F
  have hin := inb_of S hj
  exact X.baloadBytes hx (by rw [eT]; exact A.1) (State.isArrayOf_alike hZ.alike A.2.1) A.2.2 hin (H.at hin hv) hg hs hd _ hr
theorem own_stR (X : Stand p l e R s m args below meth c T locs cells slots) (hx : p.tables.exec = Jvm.exec) (hZ : Z.Warmed39 s.vm) (eT : T.heap = h) {a y : Addr} {k : ClassId} {C : String} {z : Int32} {vs : List Value} {dv : Value} (F : Arv Z h a k (.object C) z vs dv) (O : Ovr Z k C) (I : Ins Z h y C true) {j : Int32} (hj : ¬ j < 0 ∧ j < z) {i : Nat} (hi : j.toNatClampNeg = i) (hl : i < vs.length) {g : JFrame} (hg : g.method = m) {rest : List Value} (hs : g.stack = .ref y :: .int j :: .ref a :: rest) (hd : decode c.code g.pc = .ok (.aastore, 1)) :
    ∃ T' h', Stand p l e R s m args below meth c T' (locs ++ [⟨a, j.toNatClampNeg⟩]) cells slots ∧ T'.heap = h' ∧ Wr h h' a j.toNatClampNeg (.ref y) ∧ Arv Z h' a k (.object C) z (vs.set i (.ref y)) dv ∧ ∀ target, Steps p.tables e below (T'.setTop { g with pc := g.pc + 1, stack := rest }) target → Steps p.tables e below (T.setTop g) target := by
  obtain ⟨cl, A, q, S, N, H, G⟩ := F
  obtain ⟨T', h', X', e', W, st⟩ := stR X hx hZ eT A (inb_of S hj) rfl (Sto.ofV A q O I) hg hs hd
  exact ⟨T', h', X', e', W, Arv.set A q S N H G rfl W i hi hl, st⟩
theorem own_stC (X : Stand p l e R s m args below meth c T locs cells slots) (hx : p.tables.exec = Jvm.exec) (hZ : Z.Warmed39 s.vm) (eT : T.heap = h) {a : Addr} {k : ClassId} {z x : Int32} {vs : List Value} {dv : Value} (F : Arv Z h a k .char z vs dv) {j : Int32} (hj : ¬ j < 0 ∧ j < z) {i : Nat} (hi : j.toNatClampNeg = i) (hl : i < vs.length) {g : JFrame} (hg : g.method = m) {rest : List Value} (hs : g.stack = .int x :: .int j :: .ref a :: rest) (hd : decode c.code g.pc = .ok (.castore, 1)) :
    ∃ T' h', Stand p l e R s m args below meth c T' (locs ++ [⟨a, j.toNatClampNeg⟩]) cells slots ∧ T'.heap = h' ∧ Wr h h' a j.toNatClampNeg (.int (nar .char x)) ∧ Arv Z h' a k .char z (vs.set i (.int (nar .char x))) dv ∧ ∀ target, Steps p.tables e below (T'.setTop { g with pc := g.pc + 1, stack := rest }) target → Steps p.tables e below (T.setTop g) target := by
  obtain ⟨cl, A, q, S, N, H, G⟩ := F
  obtain ⟨T', h', X', e', W, st⟩ := stC X hx hZ eT A (inb_of S hj) hg hs hd
  exact ⟨T', h', X', e', W, Arv.set A q S N H G (fits_nar_char _) W i hi hl, st⟩
theorem own_stB (X : Stand p l e R s m args below meth c T locs cells slots) (hx : p.tables.exec = Jvm.exec) (hZ : Z.Warmed39 s.vm) (eT : T.heap = h) {a : Addr} {k : ClassId} {z x : Int32} {vs : List Value} {dv : Value} (F : Arv Z h a k .byte z vs dv) {j : Int32} (hj : ¬ j < 0 ∧ j < z) {i : Nat} (hi : j.toNatClampNeg = i) (hl : i < vs.length) {g : JFrame} (hg : g.method = m) {rest : List Value} (hs : g.stack = .int x :: .int j :: .ref a :: rest) (hd : decode c.code g.pc = .ok (.bastore, 1)) :
    ∃ T' h', Stand p l e R s m args below meth c T' (locs ++ [⟨a, j.toNatClampNeg⟩]) cells slots ∧ T'.heap = h' ∧ Wr h h' a j.toNatClampNeg (.int (nar .byte x)) ∧ Arv Z h' a k .byte z (vs.set i (.int (nar .byte x))) dv ∧ ∀ target, Steps p.tables e below (T'.setTop { g with pc := g.pc + 1, stack := rest }) target → Steps p.tables e below (T.setTop g) target := by
  obtain ⟨cl, A, q, S, N, H, G⟩ := F
  obtain ⟨T', h', X', e', W, st⟩ := stB X hx hZ eT A (inb_of S hj) hg hs hd
  exact ⟨T', h', X', e', W, Arv.set A q S N H G (fits_nar_byte _) W i hi hl, st⟩
end New
end Jvm.RoadKit
namespace Jvm.Pilot.@@N@@
open Jvm Jvm.ClassFile Sem Op Lib Jvm.Free Jvm.Stand Jvm.LawKit Jvm.RoadKit Bundle Jvm.Pilot.@@N@@.Jvm.D
abbrev oI (x : Int32) : Slot := .val (.int x)
abbrev oJ (x : Int64) : Slot := .val (.long x)
abbrev oR (a : Addr) : Slot := .val (.ref a)
abbrev oN : Slot := .val .null
abbrev oV (v : Value) : Slot := .val v
abbrev oU : Slot := .unset
abbrev oS : Slot := .second
abbrev oP (p : Program) (e : Env) (below : List Frame) (T : State) (g : JFrame) (t : State) : Prop := Steps p.tables e below (T.setTop g) t
def own_svW (Z : State) (C n d : String) (k : Nat) : Addr :=
  match k with
  | 0 => match (Term.static C n d).eval #[] Z none [] Z with | some (.ref a) => a | _ => 0
  | j + 1 => own_svW Z C n d j
termination_by k
def own_sv (Z : State) (C n d : String) : Addr := own_svW Z C n d 0
theorem own_sv_eq (Z : State) (C n d : String) : own_sv Z C n d = match (Term.static C n d).eval #[] Z none [] Z with | some (.ref a) => a | _ => 0 := by
  unfold own_sv own_svW
  rfl
theorem own_sv_of {Z : State} {args : Array Value} {C n d : String} {a : Addr} (h : (Term.static C n d).eval args Z none [] Z = some (.ref a)) : (Term.static C n d).eval args Z none [] Z = some (.ref (own_sv Z C n d)) := by
  have h' : (Term.static C n d).eval #[] Z none [] Z = some (.ref a) := h
  rw [h, own_sv_eq, h']
theorem own_at {Z : State} {args : Array Value} {C n d K : String} (h : (Cond.exactly (Term.static C n d) K).value args Z none Z [] = some true) : (Term.static C n d).eval args Z none [] Z = some (.ref (own_sv Z C n d)) := by
  obtain ⟨a, ha⟩ := exa_v h
  exact own_sv_of ha
theorem own_sta {Z : State} {args : Array Value} {C n d K : String} (h : (Cond.exactly (Term.static C n d) K).value args Z none Z [] = some true) (hi : (Cond.initializedFor C n d).before args Z = true ∨ ((Cond.initialized C).before args Z = true ∧ (Cond.laysStatic C n d).before args Z = true)) : Sta Z Z.heap C n d (.ref (own_sv Z C n d)) := Sta.start (own_at h) hi
theorem own_exa {Z : State} {args : Array Value} {C n d K : String} (h : (Cond.exactly (Term.static C n d) K).value args Z none Z [] = some true) : Exa Z Z.heap (own_sv Z C n d) K := Exa.start (own_at h) h
theorem own_fldV {Z : State} {args : Array Value} {C n d O f fd : String} {v : Value} (h : (Term.field (Term.static C n d) O f fd).eval args Z none [] Z = some v) : Fld Z Z.heap (own_sv Z C n d) O f fd v := by
  obtain ⟨a, ha⟩ := fld_v h
  rw [fld_at (own_sv_of ha)] at h
  exact Fld.start h
theorem own_fldI {Z : State} {args : Array Value} {C n d O f fd : String} {k : Int32} (h : (Cond.eq (Term.field (Term.static C n d) O f fd) (Term.int k)).value args Z none Z [] = some true) : Fld Z Z.heap (own_sv Z C n d) O f fd (.int k) := by
  refine own_fldV (args := args) ?_
  cases hv : (Term.field (Term.static C n d) O f fd).eval args Z none [] Z with
  | none => simp [Cond.value, hv] at h
  | some v => cases v <;> simp_all [Cond.value, Term.eval]
abbrev own_Q (Q : Option Value → Heap → List Loc → Prop) (v : Option Value) (h : Heap) (L : List Loc) : Prop := Q v h L
theorem own_ite {P : Addr → Prop} {c : Prop} [Decidable c] {a b : Addr} (ha : P a) (hb : P b) : P (if c then a else b) := by split <;> assumption
theorem own_clamp (x : Int32) : x.toNatClampNeg = x.toInt.toNat := rfl
theorem own_and_le (x c : Int32) (hc : 0 ≤ c.toInt) : 0 ≤ (x &&& c).toInt ∧ (x &&& c).toInt ≤ c.toInt := by
  have hm : c.toBitVec.msb = false := by
    cases h : c.toBitVec.msb with
    | false => rfl
    | true =>
      have := BitVec.toInt_neg_of_msb_true h
      rw [Int32.toInt_toBitVec] at this
      omega
  have h : (x &&& c).toBitVec.msb = false := by
    rw [Int32.toBitVec_and, BitVec.msb_and, hm]; simp
  have e1 : (x &&& c).toInt = ((x &&& c).toBitVec.toNat : Int) := by
    rw [← Int32.toInt_toBitVec, BitVec.toInt_eq_toNat_of_msb h]
  have e2 : c.toInt = (c.toBitVec.toNat : Int) := by
    rw [← Int32.toInt_toBitVec, BitVec.toInt_eq_toNat_of_msb hm]
  have h3 : (x &&& c).toBitVec.toNat ≤ c.toBitVec.toNat := by
    rw [Int32.toBitVec_and, BitVec.toNat_and]; exact Nat.and_le_right
  omega
theorem own_rem {x y : Int32} (hx : 0 ≤ x.toInt) (hy : 0 < y.toInt) : (x - (x / y) * y).toInt = x.toInt % y.toInt := by
  have h1 : (x / y).toInt = x.toInt / y.toInt := by
    rw [Int32.toInt_div]
    rw [Int.tdiv_eq_ediv_of_nonneg hx]
    have := Int32.toInt_lt x
    have h2 : 0 ≤ x.toInt / y.toInt := Int.ediv_nonneg hx (by omega)
    have h3 : x.toInt / y.toInt ≤ x.toInt := Int.ediv_le_self _ hx
    apply Int.bmod_eq_of_le <;> omega
  rw [Int32.toInt_sub, Int32.toInt_mul, h1]
  have h2 : 0 ≤ x.toInt / y.toInt * y.toInt := Int.mul_nonneg (Int.ediv_nonneg hx (by omega)) (by omega)
  have h3 : x.toInt / y.toInt * y.toInt ≤ x.toInt := Int.ediv_mul_le _ (by omega)
  have h4 := Int32.toInt_lt x
  rw [Int.bmod_eq_of_le (n := x.toInt / y.toInt * y.toInt) (by omega) (by omega)]
  have h5 : x.toInt - x.toInt / y.toInt * y.toInt = x.toInt % y.toInt := by
    have := Int.emod_add_mul_ediv x.toInt y.toInt
    have h6 : x.toInt / y.toInt * y.toInt = y.toInt * (x.toInt / y.toInt) := Int.mul_comm _ _
    omega
  rw [h5]
  have h6 := Int.emod_nonneg x.toInt (b := y.toInt) (by omega)
  have h7 := Int.emod_lt_of_pos x.toInt hy
  have h8 := Int32.toInt_lt y
  apply Int.bmod_eq_of_le <;> omega
theorem own_mem {i : Int32} {n : Nat} (h0 : 0 ≤ i.toInt) (h1 : i.toInt < n) : ∃ k, k < n ∧ i = Int32.ofNat k := by
  refine ⟨i.toInt.toNat, by omega, ?_⟩
  apply Int32.toInt_inj.mp
  have := Int32.toInt_lt i
  rw [Int32.toInt_ofNat_of_lt (by omega)]
  omega
theorem own_old_le {Z : State} {n0 : Nat} {h : Heap} (O : Old Z n0 h) : n0 ≤ h.size := O.1 ▸ O.2.1
def own_Vals (Z : State) (a : Addr) (ty : FieldType) (z : Int32) (vs : List Value) (dv : Value) : Prop := ∃ cl : Cell, Arr Z Z.heap a cl ty ∧ FitC Z cl ∧ cl.slots.size = z.toNatClampNeg ∧ Has cl vs dv ∧ ∀ i, i < cl.slots.size → fits ty (vs.getD i dv) = true
theorem own_clone {Z : State} {h : Heap} {b : Addr} {cl : Cell} {ty : FieldType} {z : Int32} {vs : List Value} {dv : Value} (A : Arr Z h b (cloneOf cl) ty) (S : cl.slots.size = z.toNatClampNeg) (hz : ¬ z < 0) (H : Has cl vs dv) (G : ∀ i, i < cl.slots.size → fits ty (vs.getD i dv) = true) : Arv Z h b cl.cls ty z vs dv := ⟨_, A, rfl, S, hz, H, G⟩
theorem own_elem {Z : State} {args : Array Value} {C n d C2 n2 d2 : String} {i : Int32} {cl : Cell} {ty : FieldType} {j : Nat} (h : (Cond.eq (Term.elem (Term.static C n d) (Term.int i)) (Term.static C2 n2 d2)).value args Z none Z [] = some true) (ht : (Term.static C2 n2 d2).eval args Z none [] Z = some (.ref (own_sv Z C2 n2 d2))) (A : Arr Z Z.heap (own_sv Z C n d) cl ty) (hj : i.toNatClampNeg = j) : cl.slots[j]? = some (.ref (own_sv Z C2 n2 d2)) := by
  subst hj
  have hi : (Term.int i).eval args Z none [] Z = some (.int i) := Term.int_eval i
  cases hv : (Term.elem (Term.static C n d) (Term.int i)).eval args Z none [] Z with
  | none => simp [Cond.value, hv] at h
  | some w =>
    obtain ⟨⟨x, hx⟩, -⟩ := elem_v hv
    have h2 := (elem_in hv (own_sv_of hx) hi A.1).2
    rw [h2]
    cases w <;> simp_all [Cond.value]
theorem own_getD {P : Value → Prop} {dv : Value} (hd : P dv) : ∀ (vs : List Value) (h : ∀ v ∈ vs, P v) (i : Nat), P (vs.getD i dv)
  | [], _, _ => by simpa using hd
  | v :: vs, h, 0 => h v (List.mem_cons_self ..)
  | v :: vs, h, i + 1 => own_getD hd vs (fun w hw => h w (List.mem_cons_of_mem _ hw)) i
theorem own_vals {Z : State} {args : Array Value} {C n d C2 : String} {k : Int32} {vs : List Value} (hf : Fit Z) (h1 : (Cond.arrayOf (Term.static C n d) (.object C2)).value args Z none Z [] = some true) (h2 : (Cond.eq (Term.length (Term.static C n d)) (Term.int k)).value args Z none Z [] = some true) (hl : k.toNatClampNeg = vs.length) (hk : ¬ k < 0)
    (h3 : ∀ cl, Arr Z Z.heap (own_sv Z C n d) cl (.object C2) → HasL cl 0 vs) (h4 : ∀ v ∈ vs, fits (.object C2) v = true) : own_Vals Z (own_sv Z C n d) (.object C2) k vs .null := by
  obtain ⟨x, hx⟩ := arr_v h1
  have ev := own_sv_of hx
  obtain ⟨cl, A⟩ := Arr.start ev h1
  have hs : cl.slots.size = k.toNatClampNeg := by
    cases hv : (Term.length (Term.static C n d)).eval args Z none [] Z with
    | none => simp [Cond.value, hv] at h2
    | some w =>
      obtain ⟨a, cell, e1, e2, e3⟩ := Term.length_spec hv
      cases ev.symm.trans e1
      have e4 := A.fin (Vm.Alike.refl _)
      cases e4.symm.trans e2
      have hlt : cl.slots.size < 2 ^ 31 := SBG.length_lt ev e4 hv
      subst e3
      have e5 : cl.slots.size.toInt32 = k := by
        have hi : (Term.int k).eval args Z none [] Z = some (.int k) := Term.int_eval k
        simpa [Cond.value, hv, hi] using h2
      rw [← e5]
      have e6 := len_toInt hlt
      simp only [own_clamp]
      omega
  have H := h3 cl A
  refine ⟨cl, A, FitC.start hf A, hs, fun i hi => ?_, fun i _ => own_getD (P := fun v => fits (.object C2) v = true) rfl vs h4 i⟩
  have := HasL.at (dv := .null) vs 0 H i (by omega)
  simpa using this
theorem own_fldN {Z : State} {args : Array Value} {C n d O f fd : String} (h : (Cond.eq (Term.field (Term.static C n d) O f fd) Term.null).value args Z none Z [] = some true) : Fld Z Z.heap (own_sv Z C n d) O f fd .null := own_fldV (args := args) (null_v h)
theorem own_fldS {Z : State} {args : Array Value} {C n d O f fd C2 n2 d2 K2 : String} (h : (Cond.eq (Term.field (Term.static C n d) O f fd) (Term.static C2 n2 d2)).value args Z none Z [] = some true) (h2 : (Cond.exactly (Term.static C2 n2 d2) K2).value args Z none Z [] = some true) : Fld Z Z.heap (own_sv Z C n d) O f fd (.ref (own_sv Z C2 n2 d2)) := by
  refine own_fldV (args := args) ?_
  have e2 := own_at h2
  cases hv : (Term.field (Term.static C n d) O f fd).eval args Z none [] Z with
  | none => simp [Cond.value, hv] at h
  | some v => cases v <;> simp_all [Cond.value]
theorem own_fldL {Z : State} {args : Array Value} {C n d O f fd : String} {k : Int64} (h : (Cond.eq (Term.field (Term.static C n d) O f fd) (Term.long k)).value args Z none Z [] = some true) : Fld Z Z.heap (own_sv Z C n d) O f fd (.long k) := by
  refine own_fldV (args := args) ?_
  cases hv : (Term.field (Term.static C n d) O f fd).eval args Z none [] Z with
  | none => simp [Cond.value, hv] at h
  | some v => cases v <;> simp_all [Cond.value, Term.eval]
theorem own_staI {Z : State} {args : Array Value} {C n d : String} {k : Int32} (h : (Cond.eq (Term.static C n d) (Term.int k)).value args Z none Z [] = some true) (hi : (Cond.initializedFor C n d).before args Z = true ∨ ((Cond.initialized C).before args Z = true ∧ (Cond.laysStatic C n d).before args Z = true)) : Sta Z Z.heap C n d (.int k) := by
  refine Sta.start (args := args) ?_ hi
  cases hv : (Term.static C n d).eval args Z none [] Z with
  | none => simp [Cond.value, hv] at h
  | some v =>
    have hk : (Term.int k).eval args Z none [] Z = some (.int k) := Term.int_eval k
    cases v <;> simp_all [Cond.value]
def own_Cache (Z : State) (a : Addr) (C : String) (n : Nat) : Prop := ∃ cl : Cell, Arr Z Z.heap a cl (.object C) ∧ cl.slots.size = n ∧ ∀ j, j < n → ∃ x, cl.slots[j]? = some (.ref x) ∧ Exa Z Z.heap x C
theorem own_nsroot {Z : State} {a0 : Array Value} {O K : String} {n : Nat} (w : (Cond.noSuperclass O).before a0 Z = true) (wk : (Cond.instantiable K n).before a0 Z = true) (hn : O ≠ K) : NS Z O K := by
  obtain ⟨c, k, h1, h2, h3, -, -⟩ := Cond.noSuperclass_spec w
  obtain ⟨t, kt, g1, -⟩ := Cond.instantiable_spec wk
  have ne := ids_ne h1 g1 hn
  refine ⟨c, t, h1, g1, fun fuel => ?_⟩
  cases fuel with
  | zero => rfl
  | succ f => simp [Vm.isSubclassAux, ne, h2, h3]
theorem own_nsno {Z : State} {a0 : Array Value} {C S K : String} {n : Nat} (w : (Cond.superclass C S).before a0 Z = true) (wk : (Cond.instantiable K n).before a0 Z = true) (m : NS Z C K) (hn : C ≠ K) : ∃ c t, Z.vm.findClass C = some c ∧ Z.vm.findClass K = some t ∧ Z.vm.assignable c t = false := by
  obtain ⟨c, t, h0, g0, n3⟩ := m
  obtain ⟨p, k, kp, h1, h2, h3, h4, h5, -, h7⟩ := Cond.superclass_spec h0 w
  obtain ⟨t', k', g1, g2, g3, g4, -⟩ := Cond.instantiable_spec wk
  cases g0.symm.trans g1
  have g5 : k'.isInterface = false := by
    cases hq : k'.isInterface with
    | false => rfl
    | true => simp [hq] at g4
  have ne := ids_ne h0 g0 hn
  refine ⟨c, t, h0, g0, ?_⟩
  show Z.vm.assignableAux (255 + 1) c t = false
  simp [Vm.assignableAux, ne, h2, g2, h5, g3, g5, Vm.isSubclass, n3]
theorem own_fitsR {v : Value} {C : String} (h : v.isRef = true) : fits (.object C) v = true := by cases v <;> simp_all [Value.isRef, fits]
def own_si (Z : State) (C n d : String) : Int32 := match (Term.static C n d).eval #[] Z none [] Z with | some (.int a) => a | _ => 0
theorem own_si_of {Z : State} {args : Array Value} {C n d : String} (h : (Cond.isInt (Term.static C n d)).value args Z none Z [] = some true) : (Term.static C n d).eval args Z none [] Z = some (.int (own_si Z C n d)) := by
  obtain ⟨x, hx⟩ := is_v h
  have h' : (Term.static C n d).eval #[] Z none [] Z = some (.int x) := hx
  rw [hx]; unfold own_si; rw [h']
theorem own_sti {Z : State} {args : Array Value} {C n d : String} (h : (Cond.isInt (Term.static C n d)).value args Z none Z [] = some true) (hi : (Cond.initializedFor C n d).before args Z = true ∨ ((Cond.initialized C).before args Z = true ∧ (Cond.laysStatic C n d).before args Z = true)) : Sta Z Z.heap C n d (.int (own_si Z C n d)) := Sta.start (own_si_of h) hi
theorem own_stn {Z : State} {args : Array Value} {C n d : String} (h : (Cond.isInt (Term.static C n d)).value args Z none Z [] = some true) (hn : (Cond.not (Cond.eq (Term.static C n d) (Term.int 0))).value args Z none Z [] = some true) : ¬ own_si Z C n d = 0 := by
  have e := own_si_of h
  have h0 : (Term.int 0).eval args Z none [] Z = some (.int 0) := Term.int_eval 0
  have q := not_v hn
  intro z
  rw [z] at e
  simp [Cond.value, e, h0] at q
theorem own_char {c x : Int32} (h : c = (x &&& (255 : Int32))) : ¬ c < 0 ∧ ¬ (255 : Int32) < c := by
  have q := own_and_le x 255 (by decide)
  rw [← h] at q
  have e : (255 : Int32).toInt = 255 := by decide
  have e0 : (0 : Int32).toInt = 0 := by decide
  rw [Int32.lt_iff_toInt_lt, Int32.lt_iff_toInt_lt, e, e0]
  omega
theorem own_narc {c : Int32} (h : ¬ c < 0 ∧ ¬ (255 : Int32) < c) : nar .char c = c := by
  rw [Int32.lt_iff_toInt_lt, Int32.lt_iff_toInt_lt] at h
  have e : (255 : Int32).toInt = 255 := by decide
  have e0 : (0 : Int32).toInt = 0 := by decide
  rw [e, e0] at h
  obtain ⟨k, hk, rfl⟩ := own_mem (i := c) (n := 256) (by omega) (by omega)
  have t : ∀ k : Fin 256, nar .char (Int32.ofNat k.val) = Int32.ofNat k.val := by decide +kernel
  exact t ⟨k, hk⟩
theorem own_hb {cs : List Int32} (h : ∀ c ∈ cs, ¬ c < 0 ∧ ¬ (255 : Int32) < c) : ∀ c ∈ cs, ¬ c < 0 ∧ ¬ (65535 : Int32) < c := fun c hc => by
  have q := h c hc
  refine ⟨q.1, fun z => q.2 ?_⟩
  rw [Int32.lt_iff_toInt_lt] at z ⊢
  have e : (255 : Int32).toInt = 255 := by decide
  have e0 : (65535 : Int32).toInt = 65535 := by decide
  omega
theorem own_eqv {v : Option Value} {cs ds : List Int32} (h : (v = some (.int 1) ∧ cs = ds) ∨ (v = some (.int 0) ∧ ¬ cs = ds)) : v = some (.int (if cs = ds then (1 : Int32) else (0 : Int32))) := by
  rcases h with ⟨h1, h2⟩ | ⟨h1, h2⟩
  · rw [if_pos h2]; exact h1
  · rw [if_neg h2]; exact h1
theorem own_since (s : State) : s.Since s.vm 0 := (State.WarmedH.refl s).since 0
theorem own_rwmono {s t : State} {o : Outcome} {L : List Loc} {k n k' n' : Nat} (h : ReturnedEndW s o t L k n) (hk : k ≤ k') (hn : n ≤ n') : ReturnedEndW s o t L k' n' := ⟨h.1, h.2.1, h.2.2.1, h.2.2.2.mono hk hn⟩
theorem own_cache {Z : State} {args : Array Value} {C n d K : String} {k : Int32} {N : Nat} {rest : Cond} (h1 : (Cond.arrayOf (Term.static C n d) (.object K)).value args Z none Z [] = some true) (h2 : (Cond.eq (Term.length (Term.static C n d)) (Term.int k)).value args Z none Z [] = some true)
    (h3 : (Cond.all (Term.static C n d) (.and (.exactly (.elem (Term.static C n d) (.index 0)) K) rest)).value args Z none Z [] = some true) (hN : k.toNatClampNeg = N) : own_Cache Z (own_sv Z C n d) K N := by
  obtain ⟨x, hx⟩ := arr_v h1
  have ev := own_sv_of hx
  obtain ⟨cl, A⟩ := Arr.start ev h1
  have e4 := A.fin (Vm.Alike.refl _)
  have hs : cl.slots.size = k.toNatClampNeg ∧ cl.slots.size < 2 ^ 31 := by
    cases hv : (Term.length (Term.static C n d)).eval args Z none [] Z with
    | none => simp [Cond.value, hv] at h2
    | some w =>
      obtain ⟨a, cell, e1, e2, e3⟩ := Term.length_spec hv
      cases ev.symm.trans e1
      cases e4.symm.trans e2
      have hlt : cl.slots.size < 2 ^ 31 := SBG.length_lt ev e4 hv
      subst e3
      have e5 : cl.slots.size.toInt32 = k := by
        have hi : (Term.int k).eval args Z none [] Z = some (.int k) := Term.int_eval k
        simpa [Cond.value, hv, hi] using h2
      rw [← e5]
      have e6 := len_toInt hlt
      refine ⟨?_, hlt⟩
      simp only [own_clamp]
      omega
  refine ⟨cl, A, hs.1.trans hN, fun j hj => ?_⟩
  have q := Cond.all_elim ev e4 h3 j (by omega)
  obtain ⟨q1, -⟩ := and_e q
  obtain ⟨y, hy⟩ := exa_v q1
  have ev' : (Term.static C n d).eval args Z none [j] Z = some (.ref (own_sv Z C n d)) := ev
  have hj' : (Term.index 0).eval args Z none [j] Z = some (.int (Int32.ofNat j)) := Term.index_eval _
  have r := (elem_in hy ev' hj' A.1).2
  have e6 : (Int32.ofNat j).toNatClampNeg = j := by
    have := len_toInt (n := j) (by omega)
    simp only [own_clamp]
    have e7 : (Int32.ofNat j).toInt = j := this
    omega
  rw [e6] at r
  exact ⟨y, r, exa_at hy q1⟩
theorem own_cacheix {p : Int32} {cl : Cell} (h1 : ¬ p < (-128 : Int32)) (h2 : ¬ (127 : Int32) < p) (S : cl.slots.size = 256) : ¬ (p + (128 : Int32) < 0 ∨ cl.slots.size ≤ (p + (128 : Int32)).toNatClampNeg) ∧ (p + (128 : Int32)).toNatClampNeg < 256 := by
  rw [Int32.lt_iff_toInt_lt] at h1 h2 ⊢
  have e1 : (-128 : Int32).toInt = -128 := by decide
  have e2 : (127 : Int32).toInt = 127 := by decide
  have e3 : (0 : Int32).toInt = 0 := by decide
  have e4 : (128 : Int32).toInt = 128 := by decide
  have e5 : (p + (128 : Int32)).toInt = p.toInt + 128 := by
    rw [Int32.toInt_add, e4]
    apply Int.bmod_eq_of_le <;> omega
  simp only [own_clamp]
  omega
theorem own_staA {Z : State} {args : Array Value} {C n d : String} {ty : FieldType} (h : (Cond.arrayOf (Term.static C n d) ty).value args Z none Z [] = some true) (hi : (Cond.initializedFor C n d).before args Z = true ∨ ((Cond.initialized C).before args Z = true ∧ (Cond.laysStatic C n d).before args Z = true)) : Sta Z Z.heap C n d (.ref (own_sv Z C n d)) := by
  obtain ⟨a, ha⟩ := arr_v h
  exact Sta.start (own_sv_of ha) hi
end Jvm.Pilot.@@N@@
namespace Jvm.Pilot.@@N@@
open Jvm Jvm.ClassFile Sem Op Lib Jvm.Free Jvm.Stand Jvm.LawKit Jvm.RoadKit Bundle Jvm.Pilot.@@N@@.Jvm.D
def a_STRING_EQUALS (Z : State) : Addr := own_sv Z "com/example/menshen/menshen/policy/ConditionOperator" "STRING_EQUALS" "Lcom/example/menshen/menshen/policy/ConditionOperator;"
def a_STRING_NOT_EQUALS (Z : State) : Addr := own_sv Z "com/example/menshen/menshen/policy/ConditionOperator" "STRING_NOT_EQUALS" "Lcom/example/menshen/menshen/policy/ConditionOperator;"
def a_NOT_STRING_EQUALS (Z : State) : Addr := own_sv Z "com/example/menshen/menshen/policy/ConditionOperator" "NOT_STRING_EQUALS" "Lcom/example/menshen/menshen/policy/ConditionOperator;"
def a_STRING_EQUALS_IGNORE_CASE (Z : State) : Addr := own_sv Z "com/example/menshen/menshen/policy/ConditionOperator" "STRING_EQUALS_IGNORE_CASE" "Lcom/example/menshen/menshen/policy/ConditionOperator;"
def a_STRING_NOT_EQUALS_IGNORE_CASE (Z : State) : Addr := own_sv Z "com/example/menshen/menshen/policy/ConditionOperator" "STRING_NOT_EQUALS_IGNORE_CASE" "Lcom/example/menshen/menshen/policy/ConditionOperator;"
def a_STRING_LIKE (Z : State) : Addr := own_sv Z "com/example/menshen/menshen/policy/ConditionOperator" "STRING_LIKE" "Lcom/example/menshen/menshen/policy/ConditionOperator;"
def a_STRING_NOT_LIKE (Z : State) : Addr := own_sv Z "com/example/menshen/menshen/policy/ConditionOperator" "STRING_NOT_LIKE" "Lcom/example/menshen/menshen/policy/ConditionOperator;"
def a_IP_ADDRESS (Z : State) : Addr := own_sv Z "com/example/menshen/menshen/policy/ConditionOperator" "IP_ADDRESS" "Lcom/example/menshen/menshen/policy/ConditionOperator;"
def a_NOT_IP_ADDRESS (Z : State) : Addr := own_sv Z "com/example/menshen/menshen/policy/ConditionOperator" "NOT_IP_ADDRESS" "Lcom/example/menshen/menshen/policy/ConditionOperator;"
def a_NUMERIC_EQUALS (Z : State) : Addr := own_sv Z "com/example/menshen/menshen/policy/ConditionOperator" "NUMERIC_EQUALS" "Lcom/example/menshen/menshen/policy/ConditionOperator;"
def a_NUMERIC_NOT_EQUALS (Z : State) : Addr := own_sv Z "com/example/menshen/menshen/policy/ConditionOperator" "NUMERIC_NOT_EQUALS" "Lcom/example/menshen/menshen/policy/ConditionOperator;"
def a_NUMERIC_LESS_THAN (Z : State) : Addr := own_sv Z "com/example/menshen/menshen/policy/ConditionOperator" "NUMERIC_LESS_THAN" "Lcom/example/menshen/menshen/policy/ConditionOperator;"
def a_NUMERIC_LESS_THAN_EQUALS (Z : State) : Addr := own_sv Z "com/example/menshen/menshen/policy/ConditionOperator" "NUMERIC_LESS_THAN_EQUALS" "Lcom/example/menshen/menshen/policy/ConditionOperator;"
def a_NUMERIC_GREATER_THAN (Z : State) : Addr := own_sv Z "com/example/menshen/menshen/policy/ConditionOperator" "NUMERIC_GREATER_THAN" "Lcom/example/menshen/menshen/policy/ConditionOperator;"
def a_NUMERIC_GREATER_THAN_EQUALS (Z : State) : Addr := own_sv Z "com/example/menshen/menshen/policy/ConditionOperator" "NUMERIC_GREATER_THAN_EQUALS" "Lcom/example/menshen/menshen/policy/ConditionOperator;"
def a_DATE_EQUALS (Z : State) : Addr := own_sv Z "com/example/menshen/menshen/policy/ConditionOperator" "DATE_EQUALS" "Lcom/example/menshen/menshen/policy/ConditionOperator;"
def a_DATE_NOT_EQUALS (Z : State) : Addr := own_sv Z "com/example/menshen/menshen/policy/ConditionOperator" "DATE_NOT_EQUALS" "Lcom/example/menshen/menshen/policy/ConditionOperator;"
def a_DATE_LESS_THAN (Z : State) : Addr := own_sv Z "com/example/menshen/menshen/policy/ConditionOperator" "DATE_LESS_THAN" "Lcom/example/menshen/menshen/policy/ConditionOperator;"
def a_DATE_LESS_THAN_EQUALS (Z : State) : Addr := own_sv Z "com/example/menshen/menshen/policy/ConditionOperator" "DATE_LESS_THAN_EQUALS" "Lcom/example/menshen/menshen/policy/ConditionOperator;"
def a_DATE_GREATER_THAN (Z : State) : Addr := own_sv Z "com/example/menshen/menshen/policy/ConditionOperator" "DATE_GREATER_THAN" "Lcom/example/menshen/menshen/policy/ConditionOperator;"
def a_DATE_GREATER_THAN_EQUALS (Z : State) : Addr := own_sv Z "com/example/menshen/menshen/policy/ConditionOperator" "DATE_GREATER_THAN_EQUALS" "Lcom/example/menshen/menshen/policy/ConditionOperator;"
def a_BOOL (Z : State) : Addr := own_sv Z "com/example/menshen/menshen/policy/ConditionOperator" "BOOL" "Lcom/example/menshen/menshen/policy/ConditionOperator;"
def a_NULL (Z : State) : Addr := own_sv Z "com/example/menshen/menshen/policy/ConditionOperator" "NULL" "Lcom/example/menshen/menshen/policy/ConditionOperator;"
def a_NONE (Z : State) : Addr := own_sv Z "com/example/menshen/menshen/policy/ConditionOperator$Literals" "NONE" "Lcom/example/menshen/menshen/policy/ConditionOperator$Literals;"
def a_NUMBERS (Z : State) : Addr := own_sv Z "com/example/menshen/menshen/policy/ConditionOperator$Literals" "NUMBERS" "Lcom/example/menshen/menshen/policy/ConditionOperator$Literals;"
def a_BOOLEANS (Z : State) : Addr := own_sv Z "com/example/menshen/menshen/policy/ConditionOperator$Literals" "BOOLEANS" "Lcom/example/menshen/menshen/policy/ConditionOperator$Literals;"
def St (Z : State) : Prop := (Sta Z Z.heap "com/example/menshen/menshen/policy/ConditionOperator" "STRING_EQUALS" "Lcom/example/menshen/menshen/policy/ConditionOperator;" (.ref (a_STRING_EQUALS Z))) ∧ (Exa Z Z.heap (a_STRING_EQUALS Z) "com/example/menshen/menshen/policy/ConditionOperator") ∧ (Sta Z Z.heap "com/example/menshen/menshen/policy/ConditionOperator" "STRING_NOT_EQUALS" "Lcom/example/menshen/menshen/policy/ConditionOperator;" (.ref (a_STRING_NOT_EQUALS Z))) ∧ (Exa Z Z.heap (a_STRING_NOT_EQUALS Z) "com/example/menshen/menshen/policy/ConditionOperator") ∧ (Sta Z Z.heap "com/example/menshen/menshen/policy/ConditionOperator" "NOT_STRING_EQUALS" "Lcom/example/menshen/menshen/policy/ConditionOperator;" (.ref (a_NOT_STRING_EQUALS Z))) ∧ (Exa Z Z.heap (a_NOT_STRING_EQUALS Z) "com/example/menshen/menshen/policy/ConditionOperator") ∧ (Sta Z Z.heap "com/example/menshen/menshen/policy/ConditionOperator" "STRING_EQUALS_IGNORE_CASE" "Lcom/example/menshen/menshen/policy/ConditionOperator;" (.ref (a_STRING_EQUALS_IGNORE_CASE Z))) ∧ (Exa Z Z.heap (a_STRING_EQUALS_IGNORE_CASE Z) "com/example/menshen/menshen/policy/ConditionOperator") ∧ (Sta Z Z.heap "com/example/menshen/menshen/policy/ConditionOperator" "STRING_NOT_EQUALS_IGNORE_CASE" "Lcom/example/menshen/menshen/policy/ConditionOperator;" (.ref (a_STRING_NOT_EQUALS_IGNORE_CASE Z))) ∧ (Exa Z Z.heap (a_STRING_NOT_EQUALS_IGNORE_CASE Z) "com/example/menshen/menshen/policy/ConditionOperator") ∧ (Sta Z Z.heap "com/example/menshen/menshen/policy/ConditionOperator" "STRING_LIKE" "Lcom/example/menshen/menshen/policy/ConditionOperator;" (.ref (a_STRING_LIKE Z))) ∧ (Exa Z Z.heap (a_STRING_LIKE Z) "com/example/menshen/menshen/policy/ConditionOperator") ∧ (Sta Z Z.heap "com/example/menshen/menshen/policy/ConditionOperator" "STRING_NOT_LIKE" "Lcom/example/menshen/menshen/policy/ConditionOperator;" (.ref (a_STRING_NOT_LIKE Z))) ∧ (Exa Z Z.heap (a_STRING_NOT_LIKE Z) "com/example/menshen/menshen/policy/ConditionOperator") ∧ (Sta Z Z.heap "com/example/menshen/menshen/policy/ConditionOperator" "IP_ADDRESS" "Lcom/example/menshen/menshen/policy/ConditionOperator;" (.ref (a_IP_ADDRESS Z))) ∧ (Exa Z Z.heap (a_IP_ADDRESS Z) "com/example/menshen/menshen/policy/ConditionOperator") ∧ (Sta Z Z.heap "com/example/menshen/menshen/policy/ConditionOperator" "NOT_IP_ADDRESS" "Lcom/example/menshen/menshen/policy/ConditionOperator;" (.ref (a_NOT_IP_ADDRESS Z))) ∧ (Exa Z Z.heap (a_NOT_IP_ADDRESS Z) "com/example/menshen/menshen/policy/ConditionOperator") ∧ (Sta Z Z.heap "com/example/menshen/menshen/policy/ConditionOperator" "NUMERIC_EQUALS" "Lcom/example/menshen/menshen/policy/ConditionOperator;" (.ref (a_NUMERIC_EQUALS Z))) ∧ (Exa Z Z.heap (a_NUMERIC_EQUALS Z) "com/example/menshen/menshen/policy/ConditionOperator") ∧ (Sta Z Z.heap "com/example/menshen/menshen/policy/ConditionOperator" "NUMERIC_NOT_EQUALS" "Lcom/example/menshen/menshen/policy/ConditionOperator;" (.ref (a_NUMERIC_NOT_EQUALS Z))) ∧ (Exa Z Z.heap (a_NUMERIC_NOT_EQUALS Z) "com/example/menshen/menshen/policy/ConditionOperator") ∧ (Sta Z Z.heap "com/example/menshen/menshen/policy/ConditionOperator" "NUMERIC_LESS_THAN" "Lcom/example/menshen/menshen/policy/ConditionOperator;" (.ref (a_NUMERIC_LESS_THAN Z))) ∧ (Exa Z Z.heap (a_NUMERIC_LESS_THAN Z) "com/example/menshen/menshen/policy/ConditionOperator") ∧ (Sta Z Z.heap "com/example/menshen/menshen/policy/ConditionOperator" "NUMERIC_LESS_THAN_EQUALS" "Lcom/example/menshen/menshen/policy/ConditionOperator;" (.ref (a_NUMERIC_LESS_THAN_EQUALS Z))) ∧ (Exa Z Z.heap (a_NUMERIC_LESS_THAN_EQUALS Z) "com/example/menshen/menshen/policy/ConditionOperator") ∧ (Sta Z Z.heap "com/example/menshen/menshen/policy/ConditionOperator" "NUMERIC_GREATER_THAN" "Lcom/example/menshen/menshen/policy/ConditionOperator;" (.ref (a_NUMERIC_GREATER_THAN Z))) ∧ (Exa Z Z.heap (a_NUMERIC_GREATER_THAN Z) "com/example/menshen/menshen/policy/ConditionOperator") ∧ (Sta Z Z.heap "com/example/menshen/menshen/policy/ConditionOperator" "NUMERIC_GREATER_THAN_EQUALS" "Lcom/example/menshen/menshen/policy/ConditionOperator;" (.ref (a_NUMERIC_GREATER_THAN_EQUALS Z))) ∧ (Exa Z Z.heap (a_NUMERIC_GREATER_THAN_EQUALS Z) "com/example/menshen/menshen/policy/ConditionOperator") ∧ (Sta Z Z.heap "com/example/menshen/menshen/policy/ConditionOperator" "DATE_EQUALS" "Lcom/example/menshen/menshen/policy/ConditionOperator;" (.ref (a_DATE_EQUALS Z))) ∧ (Exa Z Z.heap (a_DATE_EQUALS Z) "com/example/menshen/menshen/policy/ConditionOperator") ∧ (Sta Z Z.heap "com/example/menshen/menshen/policy/ConditionOperator" "DATE_NOT_EQUALS" "Lcom/example/menshen/menshen/policy/ConditionOperator;" (.ref (a_DATE_NOT_EQUALS Z))) ∧ (Exa Z Z.heap (a_DATE_NOT_EQUALS Z) "com/example/menshen/menshen/policy/ConditionOperator") ∧ (Sta Z Z.heap "com/example/menshen/menshen/policy/ConditionOperator" "DATE_LESS_THAN" "Lcom/example/menshen/menshen/policy/ConditionOperator;" (.ref (a_DATE_LESS_THAN Z))) ∧ (Exa Z Z.heap (a_DATE_LESS_THAN Z) "com/example/menshen/menshen/policy/ConditionOperator") ∧ (Sta Z Z.heap "com/example/menshen/menshen/policy/ConditionOperator" "DATE_LESS_THAN_EQUALS" "Lcom/example/menshen/menshen/policy/ConditionOperator;" (.ref (a_DATE_LESS_THAN_EQUALS Z))) ∧ (Exa Z Z.heap (a_DATE_LESS_THAN_EQUALS Z) "com/example/menshen/menshen/policy/ConditionOperator") ∧ (Sta Z Z.heap "com/example/menshen/menshen/policy/ConditionOperator" "DATE_GREATER_THAN" "Lcom/example/menshen/menshen/policy/ConditionOperator;" (.ref (a_DATE_GREATER_THAN Z))) ∧ (Exa Z Z.heap (a_DATE_GREATER_THAN Z) "com/example/menshen/menshen/policy/ConditionOperator") ∧ (Sta Z Z.heap "com/example/menshen/menshen/policy/ConditionOperator" "DATE_GREATER_THAN_EQUALS" "Lcom/example/menshen/menshen/policy/ConditionOperator;" (.ref (a_DATE_GREATER_THAN_EQUALS Z))) ∧ (Exa Z Z.heap (a_DATE_GREATER_THAN_EQUALS Z) "com/example/menshen/menshen/policy/ConditionOperator") ∧ (Sta Z Z.heap "com/example/menshen/menshen/policy/ConditionOperator" "BOOL" "Lcom/example/menshen/menshen/policy/ConditionOperator;" (.ref (a_BOOL Z))) ∧ (Exa Z Z.heap (a_BOOL Z) "com/example/menshen/menshen/policy/ConditionOperator") ∧ (Sta Z Z.heap "com/example/menshen/menshen/policy/ConditionOperator" "NULL" "Lcom/example/menshen/menshen/policy/ConditionOperator;" (.ref (a_NULL Z))) ∧ (Exa Z Z.heap (a_NULL Z) "com/example/menshen/menshen/policy/ConditionOperator") ∧ (Fld Z Z.heap (a_STRING_EQUALS Z) "com/example/menshen/menshen/policy/ConditionOperator" "negationOf" "Lcom/example/menshen/menshen/policy/ConditionOperator;" .null) ∧ (Sta Z Z.heap "com/example/menshen/menshen/policy/ConditionOperator$Literals" "NONE" "Lcom/example/menshen/menshen/policy/ConditionOperator$Literals;" (.ref (a_NONE Z))) ∧ (Exa Z Z.heap (a_NONE Z) "com/example/menshen/menshen/policy/ConditionOperator$Literals") ∧ (Fld Z Z.heap (a_STRING_EQUALS Z) "com/example/menshen/menshen/policy/ConditionOperator" "literals" "Lcom/example/menshen/menshen/policy/ConditionOperator$Literals;" (.ref (a_NONE Z))) ∧ (Fld Z Z.heap (a_STRING_EQUALS_IGNORE_CASE Z) "com/example/menshen/menshen/policy/ConditionOperator" "negationOf" "Lcom/example/menshen/menshen/policy/ConditionOperator;" .null) ∧ (Fld Z Z.heap (a_STRING_EQUALS_IGNORE_CASE Z) "com/example/menshen/menshen/policy/ConditionOperator" "literals" "Lcom/example/menshen/menshen/policy/ConditionOperator$Literals;" (.ref (a_NONE Z))) ∧ (Fld Z Z.heap (a_DATE_LESS_THAN_EQUALS Z) "com/example/menshen/menshen/policy/ConditionOperator" "negationOf" "Lcom/example/menshen/menshen/policy/ConditionOperator;" .null) ∧ (Sta Z Z.heap "com/example/menshen/menshen/policy/ConditionOperator$Literals" "NUMBERS" "Lcom/example/menshen/menshen/policy/ConditionOperator$Literals;" (.ref (a_NUMBERS Z))) ∧ (Exa Z Z.heap (a_NUMBERS Z) "com/example/menshen/menshen/policy/ConditionOperator$Literals") ∧ (Fld Z Z.heap (a_DATE_LESS_THAN_EQUALS Z) "com/example/menshen/menshen/policy/ConditionOperator" "literals" "Lcom/example/menshen/menshen/policy/ConditionOperator$Literals;" (.ref (a_NUMBERS Z))) ∧ (Fld Z Z.heap (a_NUMERIC_LESS_THAN Z) "com/example/menshen/menshen/policy/ConditionOperator" "negationOf" "Lcom/example/menshen/menshen/policy/ConditionOperator;" .null) ∧ (Fld Z Z.heap (a_NUMERIC_LESS_THAN Z) "com/example/menshen/menshen/policy/ConditionOperator" "literals" "Lcom/example/menshen/menshen/policy/ConditionOperator$Literals;" (.ref (a_NUMBERS Z))) ∧ (Fld Z Z.heap (a_NUMERIC_LESS_THAN_EQUALS Z) "com/example/menshen/menshen/policy/ConditionOperator" "negationOf" "Lcom/example/menshen/menshen/policy/ConditionOperator;" .null) ∧ (Fld Z Z.heap (a_NUMERIC_LESS_THAN_EQUALS Z) "com/example/menshen/menshen/policy/ConditionOperator" "literals" "Lcom/example/menshen/menshen/policy/ConditionOperator$Literals;" (.ref (a_NUMBERS Z))) ∧ (Fld Z Z.heap (a_STRING_LIKE Z) "com/example/menshen/menshen/policy/ConditionOperator" "negationOf" "Lcom/example/menshen/menshen/policy/ConditionOperator;" .null) ∧ (Fld Z Z.heap (a_STRING_LIKE Z) "com/example/menshen/menshen/policy/ConditionOperator" "literals" "Lcom/example/menshen/menshen/policy/ConditionOperator$Literals;" (.ref (a_NONE Z))) ∧ (Fld Z Z.heap (a_IP_ADDRESS Z) "com/example/menshen/menshen/policy/ConditionOperator" "negationOf" "Lcom/example/menshen/menshen/policy/ConditionOperator;" .null) ∧ (Fld Z Z.heap (a_IP_ADDRESS Z) "com/example/menshen/menshen/policy/ConditionOperator" "literals" "Lcom/example/menshen/menshen/policy/ConditionOperator$Literals;" (.ref (a_NONE Z))) ∧ (Fld Z Z.heap (a_NOT_STRING_EQUALS Z) "com/example/menshen/menshen/policy/ConditionOperator" "negationOf" "Lcom/example/menshen/menshen/policy/ConditionOperator;" (.ref (a_STRING_EQUALS Z))) ∧ (Fld Z Z.heap (a_NOT_STRING_EQUALS Z) "com/example/menshen/menshen/policy/ConditionOperator" "literals" "Lcom/example/menshen/menshen/policy/ConditionOperator$Literals;" (.ref (a_NONE Z))) ∧ (Fld Z Z.heap (a_STRING_EQUALS Z) "java/lang/Enum" "ordinal" "I" (.int (0 : Int32))) ∧ (Fld Z Z.heap (a_NOT_STRING_EQUALS Z) "java/lang/Enum" "ordinal" "I" (.int (2 : Int32))) ∧ (Fld Z Z.heap (a_STRING_NOT_EQUALS_IGNORE_CASE Z) "com/example/menshen/menshen/policy/ConditionOperator" "negationOf" "Lcom/example/menshen/menshen/policy/ConditionOperator;" (.ref (a_STRING_EQUALS_IGNORE_CASE Z))) ∧ (Fld Z Z.heap (a_STRING_NOT_EQUALS_IGNORE_CASE Z) "com/example/menshen/menshen/policy/ConditionOperator" "literals" "Lcom/example/menshen/menshen/policy/ConditionOperator$Literals;" (.ref (a_NONE Z))) ∧ (Fld Z Z.heap (a_STRING_EQUALS_IGNORE_CASE Z) "java/lang/Enum" "ordinal" "I" (.int (3 : Int32))) ∧ (Fld Z Z.heap (a_STRING_NOT_EQUALS_IGNORE_CASE Z) "java/lang/Enum" "ordinal" "I" (.int (4 : Int32))) ∧ (Fld Z Z.heap (a_NOT_IP_ADDRESS Z) "com/example/menshen/menshen/policy/ConditionOperator" "negationOf" "Lcom/example/menshen/menshen/policy/ConditionOperator;" (.ref (a_IP_ADDRESS Z))) ∧ (Fld Z Z.heap (a_NOT_IP_ADDRESS Z) "com/example/menshen/menshen/policy/ConditionOperator" "literals" "Lcom/example/menshen/menshen/policy/ConditionOperator$Literals;" (.ref (a_NONE Z))) ∧ (Fld Z Z.heap (a_IP_ADDRESS Z) "java/lang/Enum" "ordinal" "I" (.int (7 : Int32))) ∧ (Fld Z Z.heap (a_NOT_IP_ADDRESS Z) "java/lang/Enum" "ordinal" "I" (.int (8 : Int32))) ∧ (Fld Z Z.heap (a_STRING_NOT_EQUALS Z) "com/example/menshen/menshen/policy/ConditionOperator" "negationOf" "Lcom/example/menshen/menshen/policy/ConditionOperator;" (.ref (a_STRING_EQUALS Z))) ∧ (Fld Z Z.heap (a_STRING_NOT_EQUALS Z) "com/example/menshen/menshen/policy/ConditionOperator" "literals" "Lcom/example/menshen/menshen/policy/ConditionOperator$Literals;" (.ref (a_NONE Z))) ∧ (Fld Z Z.heap (a_STRING_NOT_EQUALS Z) "java/lang/Enum" "ordinal" "I" (.int (1 : Int32))) ∧ (Fld Z Z.heap (a_BOOL Z) "com/example/menshen/menshen/policy/ConditionOperator" "negationOf" "Lcom/example/menshen/menshen/policy/ConditionOperator;" .null) ∧ (Sta Z Z.heap "com/example/menshen/menshen/policy/ConditionOperator$Literals" "BOOLEANS" "Lcom/example/menshen/menshen/policy/ConditionOperator$Literals;" (.ref (a_BOOLEANS Z))) ∧ (Exa Z Z.heap (a_BOOLEANS Z) "com/example/menshen/menshen/policy/ConditionOperator$Literals") ∧ (Fld Z Z.heap (a_BOOL Z) "com/example/menshen/menshen/policy/ConditionOperator" "literals" "Lcom/example/menshen/menshen/policy/ConditionOperator$Literals;" (.ref (a_BOOLEANS Z))) ∧ (Fld Z Z.heap (a_DATE_NOT_EQUALS Z) "com/example/menshen/menshen/policy/ConditionOperator" "negationOf" "Lcom/example/menshen/menshen/policy/ConditionOperator;" (.ref (a_DATE_EQUALS Z))) ∧ (Fld Z Z.heap (a_DATE_EQUALS Z) "com/example/menshen/menshen/policy/ConditionOperator" "negationOf" "Lcom/example/menshen/menshen/policy/ConditionOperator;" .null) ∧ (Fld Z Z.heap (a_DATE_EQUALS Z) "com/example/menshen/menshen/policy/ConditionOperator" "literals" "Lcom/example/menshen/menshen/policy/ConditionOperator$Literals;" (.ref (a_NUMBERS Z))) ∧ (Fld Z Z.heap (a_DATE_NOT_EQUALS Z) "com/example/menshen/menshen/policy/ConditionOperator" "literals" "Lcom/example/menshen/menshen/policy/ConditionOperator$Literals;" (.ref (a_NUMBERS Z))) ∧ (Fld Z Z.heap (a_DATE_EQUALS Z) "java/lang/Enum" "ordinal" "I" (.int (15 : Int32))) ∧ (Fld Z Z.heap (a_DATE_NOT_EQUALS Z) "java/lang/Enum" "ordinal" "I" (.int (16 : Int32))) ∧ (Fld Z Z.heap (a_NUMERIC_NOT_EQUALS Z) "com/example/menshen/menshen/policy/ConditionOperator" "negationOf" "Lcom/example/menshen/menshen/policy/ConditionOperator;" (.ref (a_NUMERIC_EQUALS Z))) ∧ (Fld Z Z.heap (a_NUMERIC_EQUALS Z) "com/example/menshen/menshen/policy/ConditionOperator" "negationOf" "Lcom/example/menshen/menshen/policy/ConditionOperator;" .null) ∧ (Fld Z Z.heap (a_NUMERIC_EQUALS Z) "com/example/menshen/menshen/policy/ConditionOperator" "literals" "Lcom/example/menshen/menshen/policy/ConditionOperator$Literals;" (.ref (a_NUMBERS Z))) ∧ (Fld Z Z.heap (a_NUMERIC_NOT_EQUALS Z) "com/example/menshen/menshen/policy/ConditionOperator" "literals" "Lcom/example/menshen/menshen/policy/ConditionOperator$Literals;" (.ref (a_NUMBERS Z))) ∧ (Fld Z Z.heap (a_NUMERIC_EQUALS Z) "java/lang/Enum" "ordinal" "I" (.int (9 : Int32))) ∧ (Fld Z Z.heap (a_NUMERIC_NOT_EQUALS Z) "java/lang/Enum" "ordinal" "I" (.int (10 : Int32))) ∧ (Fld Z Z.heap (a_NULL Z) "com/example/menshen/menshen/policy/ConditionOperator" "negationOf" "Lcom/example/menshen/menshen/policy/ConditionOperator;" .null) ∧ (Fld Z Z.heap (a_NULL Z) "com/example/menshen/menshen/policy/ConditionOperator" "literals" "Lcom/example/menshen/menshen/policy/ConditionOperator$Literals;" (.ref (a_BOOLEANS Z))) ∧ (Fld Z Z.heap (a_DATE_GREATER_THAN Z) "com/example/menshen/menshen/policy/ConditionOperator" "negationOf" "Lcom/example/menshen/menshen/policy/ConditionOperator;" .null) ∧ (Fld Z Z.heap (a_DATE_GREATER_THAN Z) "com/example/menshen/menshen/policy/ConditionOperator" "literals" "Lcom/example/menshen/menshen/policy/ConditionOperator$Literals;" (.ref (a_NUMBERS Z))) ∧ (Fld Z Z.heap (a_DATE_LESS_THAN Z) "com/example/menshen/menshen/policy/ConditionOperator" "negationOf" "Lcom/example/menshen/menshen/policy/ConditionOperator;" .null) ∧ (Fld Z Z.heap (a_DATE_LESS_THAN Z) "com/example/menshen/menshen/policy/ConditionOperator" "literals" "Lcom/example/menshen/menshen/policy/ConditionOperator$Literals;" (.ref (a_NUMBERS Z))) ∧ (Fld Z Z.heap (a_DATE_GREATER_THAN_EQUALS Z) "com/example/menshen/menshen/policy/ConditionOperator" "negationOf" "Lcom/example/menshen/menshen/policy/ConditionOperator;" .null) ∧ (Fld Z Z.heap (a_DATE_GREATER_THAN_EQUALS Z) "com/example/menshen/menshen/policy/ConditionOperator" "literals" "Lcom/example/menshen/menshen/policy/ConditionOperator$Literals;" (.ref (a_NUMBERS Z))) ∧ (Fld Z Z.heap (a_NUMERIC_GREATER_THAN_EQUALS Z) "com/example/menshen/menshen/policy/ConditionOperator" "negationOf" "Lcom/example/menshen/menshen/policy/ConditionOperator;" .null) ∧ (Fld Z Z.heap (a_NUMERIC_GREATER_THAN_EQUALS Z) "com/example/menshen/menshen/policy/ConditionOperator" "literals" "Lcom/example/menshen/menshen/policy/ConditionOperator$Literals;" (.ref (a_NUMBERS Z))) ∧ (Fld Z Z.heap (a_STRING_NOT_LIKE Z) "com/example/menshen/menshen/policy/ConditionOperator" "negationOf" "Lcom/example/menshen/menshen/policy/ConditionOperator;" (.ref (a_STRING_LIKE Z))) ∧ (Fld Z Z.heap (a_STRING_NOT_LIKE Z) "com/example/menshen/menshen/policy/ConditionOperator" "literals" "Lcom/example/menshen/menshen/policy/ConditionOperator$Literals;" (.ref (a_NONE Z))) ∧ (Fld Z Z.heap (a_STRING_LIKE Z) "java/lang/Enum" "ordinal" "I" (.int (5 : Int32))) ∧ (Fld Z Z.heap (a_STRING_NOT_LIKE Z) "java/lang/Enum" "ordinal" "I" (.int (6 : Int32))) ∧ (Fld Z Z.heap (a_NUMERIC_GREATER_THAN Z) "com/example/menshen/menshen/policy/ConditionOperator" "negationOf" "Lcom/example/menshen/menshen/policy/ConditionOperator;" .null) ∧ (Fld Z Z.heap (a_NUMERIC_GREATER_THAN Z) "com/example/menshen/menshen/policy/ConditionOperator" "literals" "Lcom/example/menshen/menshen/policy/ConditionOperator$Literals;" (.ref (a_NUMBERS Z)))
theorem s_a_STRING_EQUALS {Z : State} (h : St Z) : Sta Z Z.heap "com/example/menshen/menshen/policy/ConditionOperator" "STRING_EQUALS" "Lcom/example/menshen/menshen/policy/ConditionOperator;" (.ref (a_STRING_EQUALS Z)) := h.1
theorem e_a_STRING_EQUALS {Z : State} (h : St Z) : Exa Z Z.heap (a_STRING_EQUALS Z) "com/example/menshen/menshen/policy/ConditionOperator" := h.2.1
theorem s_a_STRING_NOT_EQUALS {Z : State} (h : St Z) : Sta Z Z.heap "com/example/menshen/menshen/policy/ConditionOperator" "STRING_NOT_EQUALS" "Lcom/example/menshen/menshen/policy/ConditionOperator;" (.ref (a_STRING_NOT_EQUALS Z)) := h.2.2.1
theorem e_a_STRING_NOT_EQUALS {Z : State} (h : St Z) : Exa Z Z.heap (a_STRING_NOT_EQUALS Z) "com/example/menshen/menshen/policy/ConditionOperator" := h.2.2.2.1
theorem s_a_NOT_STRING_EQUALS {Z : State} (h : St Z) : Sta Z Z.heap "com/example/menshen/menshen/policy/ConditionOperator" "NOT_STRING_EQUALS" "Lcom/example/menshen/menshen/policy/ConditionOperator;" (.ref (a_NOT_STRING_EQUALS Z)) := h.2.2.2.2.1
theorem e_a_NOT_STRING_EQUALS {Z : State} (h : St Z) : Exa Z Z.heap (a_NOT_STRING_EQUALS Z) "com/example/menshen/menshen/policy/ConditionOperator" := h.2.2.2.2.2.1
theorem s_a_STRING_EQUALS_IGNORE_CASE {Z : State} (h : St Z) : Sta Z Z.heap "com/example/menshen/menshen/policy/ConditionOperator" "STRING_EQUALS_IGNORE_CASE" "Lcom/example/menshen/menshen/policy/ConditionOperator;" (.ref (a_STRING_EQUALS_IGNORE_CASE Z)) := h.2.2.2.2.2.2.1
theorem e_a_STRING_EQUALS_IGNORE_CASE {Z : State} (h : St Z) : Exa Z Z.heap (a_STRING_EQUALS_IGNORE_CASE Z) "com/example/menshen/menshen/policy/ConditionOperator" := h.2.2.2.2.2.2.2.1
theorem s_a_STRING_NOT_EQUALS_IGNORE_CASE {Z : State} (h : St Z) : Sta Z Z.heap "com/example/menshen/menshen/policy/ConditionOperator" "STRING_NOT_EQUALS_IGNORE_CASE" "Lcom/example/menshen/menshen/policy/ConditionOperator;" (.ref (a_STRING_NOT_EQUALS_IGNORE_CASE Z)) := h.2.2.2.2.2.2.2.2.1
theorem e_a_STRING_NOT_EQUALS_IGNORE_CASE {Z : State} (h : St Z) : Exa Z Z.heap (a_STRING_NOT_EQUALS_IGNORE_CASE Z) "com/example/menshen/menshen/policy/ConditionOperator" := h.2.2.2.2.2.2.2.2.2.1
theorem s_a_STRING_LIKE {Z : State} (h : St Z) : Sta Z Z.heap "com/example/menshen/menshen/policy/ConditionOperator" "STRING_LIKE" "Lcom/example/menshen/menshen/policy/ConditionOperator;" (.ref (a_STRING_LIKE Z)) := h.2.2.2.2.2.2.2.2.2.2.1
theorem e_a_STRING_LIKE {Z : State} (h : St Z) : Exa Z Z.heap (a_STRING_LIKE Z) "com/example/menshen/menshen/policy/ConditionOperator" := h.2.2.2.2.2.2.2.2.2.2.2.1
theorem s_a_STRING_NOT_LIKE {Z : State} (h : St Z) : Sta Z Z.heap "com/example/menshen/menshen/policy/ConditionOperator" "STRING_NOT_LIKE" "Lcom/example/menshen/menshen/policy/ConditionOperator;" (.ref (a_STRING_NOT_LIKE Z)) := h.2.2.2.2.2.2.2.2.2.2.2.2.1
theorem e_a_STRING_NOT_LIKE {Z : State} (h : St Z) : Exa Z Z.heap (a_STRING_NOT_LIKE Z) "com/example/menshen/menshen/policy/ConditionOperator" := h.2.2.2.2.2.2.2.2.2.2.2.2.2.1
theorem s_a_IP_ADDRESS {Z : State} (h : St Z) : Sta Z Z.heap "com/example/menshen/menshen/policy/ConditionOperator" "IP_ADDRESS" "Lcom/example/menshen/menshen/policy/ConditionOperator;" (.ref (a_IP_ADDRESS Z)) := h.2.2.2.2.2.2.2.2.2.2.2.2.2.2.1
theorem e_a_IP_ADDRESS {Z : State} (h : St Z) : Exa Z Z.heap (a_IP_ADDRESS Z) "com/example/menshen/menshen/policy/ConditionOperator" := h.2.2.2.2.2.2.2.2.2.2.2.2.2.2.2.1
theorem s_a_NOT_IP_ADDRESS {Z : State} (h : St Z) : Sta Z Z.heap "com/example/menshen/menshen/policy/ConditionOperator" "NOT_IP_ADDRESS" "Lcom/example/menshen/menshen/policy/ConditionOperator;" (.ref (a_NOT_IP_ADDRESS Z)) := h.2.2.2.2.2.2.2.2.2.2.2.2.2.2.2.2.1
theorem e_a_NOT_IP_ADDRESS {Z : State} (h : St Z) : Exa Z Z.heap (a_NOT_IP_ADDRESS Z) "com/example/menshen/menshen/policy/ConditionOperator" := h.2.2.2.2.2.2.2.2.2.2.2.2.2.2.2.2.2.1
theorem s_a_NUMERIC_EQUALS {Z : State} (h : St Z) : Sta Z Z.heap "com/example/menshen/menshen/policy/ConditionOperator" "NUMERIC_EQUALS" "Lcom/example/menshen/menshen/policy/ConditionOperator;" (.ref (a_NUMERIC_EQUALS Z)) := h.2.2.2.2.2.2.2.2.2.2.2.2.2.2.2.2.2.2.1
theorem e_a_NUMERIC_EQUALS {Z : State} (h : St Z) : Exa Z Z.heap (a_NUMERIC_EQUALS Z) "com/example/menshen/menshen/policy/ConditionOperator" := h.2.2.2.2.2.2.2.2.2.2.2.2.2.2.2.2.2.2.2.1
theorem s_a_NUMERIC_NOT_EQUALS {Z : State} (h : St Z) : Sta Z Z.heap "com/example/menshen/menshen/policy/ConditionOperator" "NUMERIC_NOT_EQUALS" "Lcom/example/menshen/menshen/policy/ConditionOperator;" (.ref (a_NUMERIC_NOT_EQUALS Z)) := h.2.2.2.2.2.2.2.2.2.2.2.2.2.2.2.2.2.2.2.2.1
theorem e_a_NUMERIC_NOT_EQUALS {Z : State} (h : St Z) : Exa Z Z.heap (a_NUMERIC_NOT_EQUALS Z) "com/example/menshen/menshen/policy/ConditionOperator" := h.2.2.2.2.2.2.2.2.2.2.2.2.2.2.2.2.2.2.2.2.2.1
theorem s_a_NUMERIC_LESS_THAN {Z : State} (h : St Z) : Sta Z Z.heap "com/example/menshen/menshen/policy/ConditionOperator" "NUMERIC_LESS_THAN" "Lcom/example/menshen/menshen/policy/ConditionOperator;" (.ref (a_NUMERIC_LESS_THAN Z)) := h.2.2.2.2.2.2.2.2.2.2.2.2.2.2.2.2.2.2.2.2.2.2.1
theorem e_a_NUMERIC_LESS_THAN {Z : State} (h : St Z) : Exa Z Z.heap (a_NUMERIC_LESS_THAN Z) "com/example/menshen/menshen/policy/ConditionOperator" := h.2.2.2.2.2.2.2.2.2.2.2.2.2.2.2.2.2.2.2.2.2.2.2.1
theorem s_a_NUMERIC_LESS_THAN_EQUALS {Z : State} (h : St Z) : Sta Z Z.heap "com/example/menshen/menshen/policy/ConditionOperator" "NUMERIC_LESS_THAN_EQUALS" "Lcom/example/menshen/menshen/policy/ConditionOperator;" (.ref (a_NUMERIC_LESS_THAN_EQUALS Z)) := h.2.2.2.2.2.2.2.2.2.2.2.2.2.2.2.2.2.2.2.2.2.2.2.2.1
theorem e_a_NUMERIC_LESS_THAN_EQUALS {Z : State} (h : St Z) : Exa Z Z.heap (a_NUMERIC_LESS_THAN_EQUALS Z) "com/example/menshen/menshen/policy/ConditionOperator" := h.2.2.2.2.2.2.2.2.2.2.2.2.2.2.2.2.2.2.2.2.2.2.2.2.2.1
theorem s_a_NUMERIC_GREATER_THAN {Z : State} (h : St Z) : Sta Z Z.heap "com/example/menshen/menshen/policy/ConditionOperator" "NUMERIC_GREATER_THAN" "Lcom/example/menshen/menshen/policy/ConditionOperator;" (.ref (a_NUMERIC_GREATER_THAN Z)) := h.2.2.2.2.2.2.2.2.2.2.2.2.2.2.2.2.2.2.2.2.2.2.2.2.2.2.1
theorem e_a_NUMERIC_GREATER_THAN {Z : State} (h : St Z) : Exa Z Z.heap (a_NUMERIC_GREATER_THAN Z) "com/example/menshen/menshen/policy/ConditionOperator" := h.2.2.2.2.2.2.2.2.2.2.2.2.2.2.2.2.2.2.2.2.2.2.2.2.2.2.2.1
theorem s_a_NUMERIC_GREATER_THAN_EQUALS {Z : State} (h : St Z) : Sta Z Z.heap "com/example/menshen/menshen/policy/ConditionOperator" "NUMERIC_GREATER_THAN_EQUALS" "Lcom/example/menshen/menshen/policy/ConditionOperator;" (.ref (a_NUMERIC_GREATER_THAN_EQUALS Z)) := h.2.2.2.2.2.2.2.2.2.2.2.2.2.2.2.2.2.2.2.2.2.2.2.2.2.2.2.2.1
theorem e_a_NUMERIC_GREATER_THAN_EQUALS {Z : State} (h : St Z) : Exa Z Z.heap (a_NUMERIC_GREATER_THAN_EQUALS Z) "com/example/menshen/menshen/policy/ConditionOperator" := h.2.2.2.2.2.2.2.2.2.2.2.2.2.2.2.2.2.2.2.2.2.2.2.2.2.2.2.2.2.1
theorem s_a_DATE_EQUALS {Z : State} (h : St Z) : Sta Z Z.heap "com/example/menshen/menshen/policy/ConditionOperator" "DATE_EQUALS" "Lcom/example/menshen/menshen/policy/ConditionOperator;" (.ref (a_DATE_EQUALS Z)) := h.2.2.2.2.2.2.2.2.2.2.2.2.2.2.2.2.2.2.2.2.2.2.2.2.2.2.2.2.2.2.1
theorem e_a_DATE_EQUALS {Z : State} (h : St Z) : Exa Z Z.heap (a_DATE_EQUALS Z) "com/example/menshen/menshen/policy/ConditionOperator" := h.2.2.2.2.2.2.2.2.2.2.2.2.2.2.2.2.2.2.2.2.2.2.2.2.2.2.2.2.2.2.2.1
theorem s_a_DATE_NOT_EQUALS {Z : State} (h : St Z) : Sta Z Z.heap "com/example/menshen/menshen/policy/ConditionOperator" "DATE_NOT_EQUALS" "Lcom/example/menshen/menshen/policy/ConditionOperator;" (.ref (a_DATE_NOT_EQUALS Z)) := h.2.2.2.2.2.2.2.2.2.2.2.2.2.2.2.2.2.2.2.2.2.2.2.2.2.2.2.2.2.2.2.2.1
theorem e_a_DATE_NOT_EQUALS {Z : State} (h : St Z) : Exa Z Z.heap (a_DATE_NOT_EQUALS Z) "com/example/menshen/menshen/policy/ConditionOperator" := h.2.2.2.2.2.2.2.2.2.2.2.2.2.2.2.2.2.2.2.2.2.2.2.2.2.2.2.2.2.2.2.2.2.1
theorem s_a_DATE_LESS_THAN {Z : State} (h : St Z) : Sta Z Z.heap "com/example/menshen/menshen/policy/ConditionOperator" "DATE_LESS_THAN" "Lcom/example/menshen/menshen/policy/ConditionOperator;" (.ref (a_DATE_LESS_THAN Z)) := h.2.2.2.2.2.2.2.2.2.2.2.2.2.2.2.2.2.2.2.2.2.2.2.2.2.2.2.2.2.2.2.2.2.2.1
theorem e_a_DATE_LESS_THAN {Z : State} (h : St Z) : Exa Z Z.heap (a_DATE_LESS_THAN Z) "com/example/menshen/menshen/policy/ConditionOperator" := h.2.2.2.2.2.2.2.2.2.2.2.2.2.2.2.2.2.2.2.2.2.2.2.2.2.2.2.2.2.2.2.2.2.2.2.1
theorem s_a_DATE_LESS_THAN_EQUALS {Z : State} (h : St Z) : Sta Z Z.heap "com/example/menshen/menshen/policy/ConditionOperator" "DATE_LESS_THAN_EQUALS" "Lcom/example/menshen/menshen/policy/ConditionOperator;" (.ref (a_DATE_LESS_THAN_EQUALS Z)) := h.2.2.2.2.2.2.2.2.2.2.2.2.2.2.2.2.2.2.2.2.2.2.2.2.2.2.2.2.2.2.2.2.2.2.2.2.1
theorem e_a_DATE_LESS_THAN_EQUALS {Z : State} (h : St Z) : Exa Z Z.heap (a_DATE_LESS_THAN_EQUALS Z) "com/example/menshen/menshen/policy/ConditionOperator" := h.2.2.2.2.2.2.2.2.2.2.2.2.2.2.2.2.2.2.2.2.2.2.2.2.2.2.2.2.2.2.2.2.2.2.2.2.2.1
theorem s_a_DATE_GREATER_THAN {Z : State} (h : St Z) : Sta Z Z.heap "com/example/menshen/menshen/policy/ConditionOperator" "DATE_GREATER_THAN" "Lcom/example/menshen/menshen/policy/ConditionOperator;" (.ref (a_DATE_GREATER_THAN Z)) := h.2.2.2.2.2.2.2.2.2.2.2.2.2.2.2.2.2.2.2.2.2.2.2.2.2.2.2.2.2.2.2.2.2.2.2.2.2.2.1
theorem e_a_DATE_GREATER_THAN {Z : State} (h : St Z) : Exa Z Z.heap (a_DATE_GREATER_THAN Z) "com/example/menshen/menshen/policy/ConditionOperator" := h.2.2.2.2.2.2.2.2.2.2.2.2.2.2.2.2.2.2.2.2.2.2.2.2.2.2.2.2.2.2.2.2.2.2.2.2.2.2.2.1
theorem s_a_DATE_GREATER_THAN_EQUALS {Z : State} (h : St Z) : Sta Z Z.heap "com/example/menshen/menshen/policy/ConditionOperator" "DATE_GREATER_THAN_EQUALS" "Lcom/example/menshen/menshen/policy/ConditionOperator;" (.ref (a_DATE_GREATER_THAN_EQUALS Z)) := h.2.2.2.2.2.2.2.2.2.2.2.2.2.2.2.2.2.2.2.2.2.2.2.2.2.2.2.2.2.2.2.2.2.2.2.2.2.2.2.2.1
theorem e_a_DATE_GREATER_THAN_EQUALS {Z : State} (h : St Z) : Exa Z Z.heap (a_DATE_GREATER_THAN_EQUALS Z) "com/example/menshen/menshen/policy/ConditionOperator" := h.2.2.2.2.2.2.2.2.2.2.2.2.2.2.2.2.2.2.2.2.2.2.2.2.2.2.2.2.2.2.2.2.2.2.2.2.2.2.2.2.2.1
theorem s_a_BOOL {Z : State} (h : St Z) : Sta Z Z.heap "com/example/menshen/menshen/policy/ConditionOperator" "BOOL" "Lcom/example/menshen/menshen/policy/ConditionOperator;" (.ref (a_BOOL Z)) := h.2.2.2.2.2.2.2.2.2.2.2.2.2.2.2.2.2.2.2.2.2.2.2.2.2.2.2.2.2.2.2.2.2.2.2.2.2.2.2.2.2.2.1
theorem e_a_BOOL {Z : State} (h : St Z) : Exa Z Z.heap (a_BOOL Z) "com/example/menshen/menshen/policy/ConditionOperator" := h.2.2.2.2.2.2.2.2.2.2.2.2.2.2.2.2.2.2.2.2.2.2.2.2.2.2.2.2.2.2.2.2.2.2.2.2.2.2.2.2.2.2.2.1
theorem s_a_NULL {Z : State} (h : St Z) : Sta Z Z.heap "com/example/menshen/menshen/policy/ConditionOperator" "NULL" "Lcom/example/menshen/menshen/policy/ConditionOperator;" (.ref (a_NULL Z)) := h.2.2.2.2.2.2.2.2.2.2.2.2.2.2.2.2.2.2.2.2.2.2.2.2.2.2.2.2.2.2.2.2.2.2.2.2.2.2.2.2.2.2.2.2.1
theorem e_a_NULL {Z : State} (h : St Z) : Exa Z Z.heap (a_NULL Z) "com/example/menshen/menshen/policy/ConditionOperator" := h.2.2.2.2.2.2.2.2.2.2.2.2.2.2.2.2.2.2.2.2.2.2.2.2.2.2.2.2.2.2.2.2.2.2.2.2.2.2.2.2.2.2.2.2.2.1
theorem f_a_STRING_EQUALS_negationOf {Z : State} (h : St Z) : Fld Z Z.heap (a_STRING_EQUALS Z) "com/example/menshen/menshen/policy/ConditionOperator" "negationOf" "Lcom/example/menshen/menshen/policy/ConditionOperator;" .null := h.2.2.2.2.2.2.2.2.2.2.2.2.2.2.2.2.2.2.2.2.2.2.2.2.2.2.2.2.2.2.2.2.2.2.2.2.2.2.2.2.2.2.2.2.2.2.1
theorem s_a_NONE {Z : State} (h : St Z) : Sta Z Z.heap "com/example/menshen/menshen/policy/ConditionOperator$Literals" "NONE" "Lcom/example/menshen/menshen/policy/ConditionOperator$Literals;" (.ref (a_NONE Z)) := h.2.2.2.2.2.2.2.2.2.2.2.2.2.2.2.2.2.2.2.2.2.2.2.2.2.2.2.2.2.2.2.2.2.2.2.2.2.2.2.2.2.2.2.2.2.2.2.1
theorem e_a_NONE {Z : State} (h : St Z) : Exa Z Z.heap (a_NONE Z) "com/example/menshen/menshen/policy/ConditionOperator$Literals" := h.2.2.2.2.2.2.2.2.2.2.2.2.2.2.2.2.2.2.2.2.2.2.2.2.2.2.2.2.2.2.2.2.2.2.2.2.2.2.2.2.2.2.2.2.2.2.2.2.1
theorem f_a_STRING_EQUALS_literals {Z : State} (h : St Z) : Fld Z Z.heap (a_STRING_EQUALS Z) "com/example/menshen/menshen/policy/ConditionOperator" "literals" "Lcom/example/menshen/menshen/policy/ConditionOperator$Literals;" (.ref (a_NONE Z)) := h.2.2.2.2.2.2.2.2.2.2.2.2.2.2.2.2.2.2.2.2.2.2.2.2.2.2.2.2.2.2.2.2.2.2.2.2.2.2.2.2.2.2.2.2.2.2.2.2.2.1
theorem f_a_STRING_EQUALS_IGNORE_CASE_negationOf {Z : State} (h : St Z) : Fld Z Z.heap (a_STRING_EQUALS_IGNORE_CASE Z) "com/example/menshen/menshen/policy/ConditionOperator" "negationOf" "Lcom/example/menshen/menshen/policy/ConditionOperator;" .null := h.2.2.2.2.2.2.2.2.2.2.2.2.2.2.2.2.2.2.2.2.2.2.2.2.2.2.2.2.2.2.2.2.2.2.2.2.2.2.2.2.2.2.2.2.2.2.2.2.2.2.1
theorem f_a_STRING_EQUALS_IGNORE_CASE_literals {Z : State} (h : St Z) : Fld Z Z.heap (a_STRING_EQUALS_IGNORE_CASE Z) "com/example/menshen/menshen/policy/ConditionOperator" "literals" "Lcom/example/menshen/menshen/policy/ConditionOperator$Literals;" (.ref (a_NONE Z)) := h.2.2.2.2.2.2.2.2.2.2.2.2.2.2.2.2.2.2.2.2.2.2.2.2.2.2.2.2.2.2.2.2.2.2.2.2.2.2.2.2.2.2.2.2.2.2.2.2.2.2.2.1
theorem f_a_DATE_LESS_THAN_EQUALS_negationOf {Z : State} (h : St Z) : Fld Z Z.heap (a_DATE_LESS_THAN_EQUALS Z) "com/example/menshen/menshen/policy/ConditionOperator" "negationOf" "Lcom/example/menshen/menshen/policy/ConditionOperator;" .null := h.2.2.2.2.2.2.2.2.2.2.2.2.2.2.2.2.2.2.2.2.2.2.2.2.2.2.2.2.2.2.2.2.2.2.2.2.2.2.2.2.2.2.2.2.2.2.2.2.2.2.2.2.1
theorem s_a_NUMBERS {Z : State} (h : St Z) : Sta Z Z.heap "com/example/menshen/menshen/policy/ConditionOperator$Literals" "NUMBERS" "Lcom/example/menshen/menshen/policy/ConditionOperator$Literals;" (.ref (a_NUMBERS Z)) := h.2.2.2.2.2.2.2.2.2.2.2.2.2.2.2.2.2.2.2.2.2.2.2.2.2.2.2.2.2.2.2.2.2.2.2.2.2.2.2.2.2.2.2.2.2.2.2.2.2.2.2.2.2.1
theorem e_a_NUMBERS {Z : State} (h : St Z) : Exa Z Z.heap (a_NUMBERS Z) "com/example/menshen/menshen/policy/ConditionOperator$Literals" := h.2.2.2.2.2.2.2.2.2.2.2.2.2.2.2.2.2.2.2.2.2.2.2.2.2.2.2.2.2.2.2.2.2.2.2.2.2.2.2.2.2.2.2.2.2.2.2.2.2.2.2.2.2.2.1
theorem f_a_DATE_LESS_THAN_EQUALS_literals {Z : State} (h : St Z) : Fld Z Z.heap (a_DATE_LESS_THAN_EQUALS Z) "com/example/menshen/menshen/policy/ConditionOperator" "literals" "Lcom/example/menshen/menshen/policy/ConditionOperator$Literals;" (.ref (a_NUMBERS Z)) := h.2.2.2.2.2.2.2.2.2.2.2.2.2.2.2.2.2.2.2.2.2.2.2.2.2.2.2.2.2.2.2.2.2.2.2.2.2.2.2.2.2.2.2.2.2.2.2.2.2.2.2.2.2.2.2.1
theorem f_a_NUMERIC_LESS_THAN_negationOf {Z : State} (h : St Z) : Fld Z Z.heap (a_NUMERIC_LESS_THAN Z) "com/example/menshen/menshen/policy/ConditionOperator" "negationOf" "Lcom/example/menshen/menshen/policy/ConditionOperator;" .null := h.2.2.2.2.2.2.2.2.2.2.2.2.2.2.2.2.2.2.2.2.2.2.2.2.2.2.2.2.2.2.2.2.2.2.2.2.2.2.2.2.2.2.2.2.2.2.2.2.2.2.2.2.2.2.2.2.1
theorem f_a_NUMERIC_LESS_THAN_literals {Z : State} (h : St Z) : Fld Z Z.heap (a_NUMERIC_LESS_THAN Z) "com/example/menshen/menshen/policy/ConditionOperator" "literals" "Lcom/example/menshen/menshen/policy/ConditionOperator$Literals;" (.ref (a_NUMBERS Z)) := h.2.2.2.2.2.2.2.2.2.2.2.2.2.2.2.2.2.2.2.2.2.2.2.2.2.2.2.2.2.2.2.2.2.2.2.2.2.2.2.2.2.2.2.2.2.2.2.2.2.2.2.2.2.2.2.2.2.1
theorem f_a_NUMERIC_LESS_THAN_EQUALS_negationOf {Z : State} (h : St Z) : Fld Z Z.heap (a_NUMERIC_LESS_THAN_EQUALS Z) "com/example/menshen/menshen/policy/ConditionOperator" "negationOf" "Lcom/example/menshen/menshen/policy/ConditionOperator;" .null := h.2.2.2.2.2.2.2.2.2.2.2.2.2.2.2.2.2.2.2.2.2.2.2.2.2.2.2.2.2.2.2.2.2.2.2.2.2.2.2.2.2.2.2.2.2.2.2.2.2.2.2.2.2.2.2.2.2.2.1
theorem f_a_NUMERIC_LESS_THAN_EQUALS_literals {Z : State} (h : St Z) : Fld Z Z.heap (a_NUMERIC_LESS_THAN_EQUALS Z) "com/example/menshen/menshen/policy/ConditionOperator" "literals" "Lcom/example/menshen/menshen/policy/ConditionOperator$Literals;" (.ref (a_NUMBERS Z)) := h.2.2.2.2.2.2.2.2.2.2.2.2.2.2.2.2.2.2.2.2.2.2.2.2.2.2.2.2.2.2.2.2.2.2.2.2.2.2.2.2.2.2.2.2.2.2.2.2.2.2.2.2.2.2.2.2.2.2.2.1
theorem f_a_STRING_LIKE_negationOf {Z : State} (h : St Z) : Fld Z Z.heap (a_STRING_LIKE Z) "com/example/menshen/menshen/policy/ConditionOperator" "negationOf" "Lcom/example/menshen/menshen/policy/ConditionOperator;" .null := h.2.2.2.2.2.2.2.2.2.2.2.2.2.2.2.2.2.2.2.2.2.2.2.2.2.2.2.2.2.2.2.2.2.2.2.2.2.2.2.2.2.2.2.2.2.2.2.2.2.2.2.2.2.2.2.2.2.2.2.2.1
theorem f_a_STRING_LIKE_literals {Z : State} (h : St Z) : Fld Z Z.heap (a_STRING_LIKE Z) "com/example/menshen/menshen/policy/ConditionOperator" "literals" "Lcom/example/menshen/menshen/policy/ConditionOperator$Literals;" (.ref (a_NONE Z)) := h.2.2.2.2.2.2.2.2.2.2.2.2.2.2.2.2.2.2.2.2.2.2.2.2.2.2.2.2.2.2.2.2.2.2.2.2.2.2.2.2.2.2.2.2.2.2.2.2.2.2.2.2.2.2.2.2.2.2.2.2.2.1
theorem f_a_IP_ADDRESS_negationOf {Z : State} (h : St Z) : Fld Z Z.heap (a_IP_ADDRESS Z) "com/example/menshen/menshen/policy/ConditionOperator" "negationOf" "Lcom/example/menshen/menshen/policy/ConditionOperator;" .null := h.2.2.2.2.2.2.2.2.2.2.2.2.2.2.2.2.2.2.2.2.2.2.2.2.2.2.2.2.2.2.2.2.2.2.2.2.2.2.2.2.2.2.2.2.2.2.2.2.2.2.2.2.2.2.2.2.2.2.2.2.2.2.1
theorem f_a_IP_ADDRESS_literals {Z : State} (h : St Z) : Fld Z Z.heap (a_IP_ADDRESS Z) "com/example/menshen/menshen/policy/ConditionOperator" "literals" "Lcom/example/menshen/menshen/policy/ConditionOperator$Literals;" (.ref (a_NONE Z)) := h.2.2.2.2.2.2.2.2.2.2.2.2.2.2.2.2.2.2.2.2.2.2.2.2.2.2.2.2.2.2.2.2.2.2.2.2.2.2.2.2.2.2.2.2.2.2.2.2.2.2.2.2.2.2.2.2.2.2.2.2.2.2.2.1
theorem f_a_NOT_STRING_EQUALS_negationOf {Z : State} (h : St Z) : Fld Z Z.heap (a_NOT_STRING_EQUALS Z) "com/example/menshen/menshen/policy/ConditionOperator" "negationOf" "Lcom/example/menshen/menshen/policy/ConditionOperator;" (.ref (a_STRING_EQUALS Z)) := h.2.2.2.2.2.2.2.2.2.2.2.2.2.2.2.2.2.2.2.2.2.2.2.2.2.2.2.2.2.2.2.2.2.2.2.2.2.2.2.2.2.2.2.2.2.2.2.2.2.2.2.2.2.2.2.2.2.2.2.2.2.2.2.2.1
theorem f_a_NOT_STRING_EQUALS_literals {Z : State} (h : St Z) : Fld Z Z.heap (a_NOT_STRING_EQUALS Z) "com/example/menshen/menshen/policy/ConditionOperator" "literals" "Lcom/example/menshen/menshen/policy/ConditionOperator$Literals;" (.ref (a_NONE Z)) := h.2.2.2.2.2.2.2.2.2.2.2.2.2.2.2.2.2.2.2.2.2.2.2.2.2.2.2.2.2.2.2.2.2.2.2.2.2.2.2.2.2.2.2.2.2.2.2.2.2.2.2.2.2.2.2.2.2.2.2.2.2.2.2.2.2.1
theorem f_a_STRING_EQUALS_ordinal {Z : State} (h : St Z) : Fld Z Z.heap (a_STRING_EQUALS Z) "java/lang/Enum" "ordinal" "I" (.int (0 : Int32)) := h.2.2.2.2.2.2.2.2.2.2.2.2.2.2.2.2.2.2.2.2.2.2.2.2.2.2.2.2.2.2.2.2.2.2.2.2.2.2.2.2.2.2.2.2.2.2.2.2.2.2.2.2.2.2.2.2.2.2.2.2.2.2.2.2.2.2.1
theorem f_a_NOT_STRING_EQUALS_ordinal {Z : State} (h : St Z) : Fld Z Z.heap (a_NOT_STRING_EQUALS Z) "java/lang/Enum" "ordinal" "I" (.int (2 : Int32)) := h.2.2.2.2.2.2.2.2.2.2.2.2.2.2.2.2.2.2.2.2.2.2.2.2.2.2.2.2.2.2.2.2.2.2.2.2.2.2.2.2.2.2.2.2.2.2.2.2.2.2.2.2.2.2.2.2.2.2.2.2.2.2.2.2.2.2.2.1
theorem f_a_STRING_NOT_EQUALS_IGNORE_CASE_negationOf {Z : State} (h : St Z) : Fld Z Z.heap (a_STRING_NOT_EQUALS_IGNORE_CASE Z) "com/example/menshen/menshen/policy/ConditionOperator" "negationOf" "Lcom/example/menshen/menshen/policy/ConditionOperator;" (.ref (a_STRING_EQUALS_IGNORE_CASE Z)) := h.2.2.2.2.2.2.2.2.2.2.2.2.2.2.2.2.2.2.2.2.2.2.2.2.2.2.2.2.2.2.2.2.2.2.2.2.2.2.2.2.2.2.2.2.2.2.2.2.2.2.2.2.2.2.2.2.2.2.2.2.2.2.2.2.2.2.2.2.1
theorem f_a_STRING_NOT_EQUALS_IGNORE_CASE_literals {Z : State} (h : St Z) : Fld Z Z.heap (a_STRING_NOT_EQUALS_IGNORE_CASE Z) "com/example/menshen/menshen/policy/ConditionOperator" "literals" "Lcom/example/menshen/menshen/policy/ConditionOperator$Literals;" (.ref (a_NONE Z)) := h.2.2.2.2.2.2.2.2.2.2.2.2.2.2.2.2.2.2.2.2.2.2.2.2.2.2.2.2.2.2.2.2.2.2.2.2.2.2.2.2.2.2.2.2.2.2.2.2.2.2.2.2.2.2.2.2.2.2.2.2.2.2.2.2.2.2.2.2.2.1
theorem f_a_STRING_EQUALS_IGNORE_CASE_ordinal {Z : State} (h : St Z) : Fld Z Z.heap (a_STRING_EQUALS_IGNORE_CASE Z) "java/lang/Enum" "ordinal" "I" (.int (3 : Int32)) := h.2.2.2.2.2.2.2.2.2.2.2.2.2.2.2.2.2.2.2.2.2.2.2.2.2.2.2.2.2.2.2.2.2.2.2.2.2.2.2.2.2.2.2.2.2.2.2.2.2.2.2.2.2.2.2.2.2.2.2.2.2.2.2.2.2.2.2.2.2.2.1
theorem f_a_STRING_NOT_EQUALS_IGNORE_CASE_ordinal {Z : State} (h : St Z) : Fld Z Z.heap (a_STRING_NOT_EQUALS_IGNORE_CASE Z) "java/lang/Enum" "ordinal" "I" (.int (4 : Int32)) := h.2.2.2.2.2.2.2.2.2.2.2.2.2.2.2.2.2.2.2.2.2.2.2.2.2.2.2.2.2.2.2.2.2.2.2.2.2.2.2.2.2.2.2.2.2.2.2.2.2.2.2.2.2.2.2.2.2.2.2.2.2.2.2.2.2.2.2.2.2.2.2.1
theorem f_a_NOT_IP_ADDRESS_negationOf {Z : State} (h : St Z) : Fld Z Z.heap (a_NOT_IP_ADDRESS Z) "com/example/menshen/menshen/policy/ConditionOperator" "negationOf" "Lcom/example/menshen/menshen/policy/ConditionOperator;" (.ref (a_IP_ADDRESS Z)) := h.2.2.2.2.2.2.2.2.2.2.2.2.2.2.2.2.2.2.2.2.2.2.2.2.2.2.2.2.2.2.2.2.2.2.2.2.2.2.2.2.2.2.2.2.2.2.2.2.2.2.2.2.2.2.2.2.2.2.2.2.2.2.2.2.2.2.2.2.2.2.2.2.1
theorem f_a_NOT_IP_ADDRESS_literals {Z : State} (h : St Z) : Fld Z Z.heap (a_NOT_IP_ADDRESS Z) "com/example/menshen/menshen/policy/ConditionOperator" "literals" "Lcom/example/menshen/menshen/policy/ConditionOperator$Literals;" (.ref (a_NONE Z)) := h.2.2.2.2.2.2.2.2.2.2.2.2.2.2.2.2.2.2.2.2.2.2.2.2.2.2.2.2.2.2.2.2.2.2.2.2.2.2.2.2.2.2.2.2.2.2.2.2.2.2.2.2.2.2.2.2.2.2.2.2.2.2.2.2.2.2.2.2.2.2.2.2.2.1
theorem f_a_IP_ADDRESS_ordinal {Z : State} (h : St Z) : Fld Z Z.heap (a_IP_ADDRESS Z) "java/lang/Enum" "ordinal" "I" (.int (7 : Int32)) := h.2.2.2.2.2.2.2.2.2.2.2.2.2.2.2.2.2.2.2.2.2.2.2.2.2.2.2.2.2.2.2.2.2.2.2.2.2.2.2.2.2.2.2.2.2.2.2.2.2.2.2.2.2.2.2.2.2.2.2.2.2.2.2.2.2.2.2.2.2.2.2.2.2.2.1
theorem f_a_NOT_IP_ADDRESS_ordinal {Z : State} (h : St Z) : Fld Z Z.heap (a_NOT_IP_ADDRESS Z) "java/lang/Enum" "ordinal" "I" (.int (8 : Int32)) := h.2.2.2.2.2.2.2.2.2.2.2.2.2.2.2.2.2.2.2.2.2.2.2.2.2.2.2.2.2.2.2.2.2.2.2.2.2.2.2.2.2.2.2.2.2.2.2.2.2.2.2.2.2.2.2.2.2.2.2.2.2.2.2.2.2.2.2.2.2.2.2.2.2.2.2.1
theorem f_a_STRING_NOT_EQUALS_negationOf {Z : State} (h : St Z) : Fld Z Z.heap (a_STRING_NOT_EQUALS Z) "com/example/menshen/menshen/policy/ConditionOperator" "negationOf" "Lcom/example/menshen/menshen/policy/ConditionOperator;" (.ref (a_STRING_EQUALS Z)) := h.2.2.2.2.2.2.2.2.2.2.2.2.2.2.2.2.2.2.2.2.2.2.2.2.2.2.2.2.2.2.2.2.2.2.2.2.2.2.2.2.2.2.2.2.2.2.2.2.2.2.2.2.2.2.2.2.2.2.2.2.2.2.2.2.2.2.2.2.2.2.2.2.2.2.2.2.1
theorem f_a_STRING_NOT_EQUALS_literals {Z : State} (h : St Z) : Fld Z Z.heap (a_STRING_NOT_EQUALS Z) "com/example/menshen/menshen/policy/ConditionOperator" "literals" "Lcom/example/menshen/menshen/policy/ConditionOperator$Literals;" (.ref (a_NONE Z)) := h.2.2.2.2.2.2.2.2.2.2.2.2.2.2.2.2.2.2.2.2.2.2.2.2.2.2.2.2.2.2.2.2.2.2.2.2.2.2.2.2.2.2.2.2.2.2.2.2.2.2.2.2.2.2.2.2.2.2.2.2.2.2.2.2.2.2.2.2.2.2.2.2.2.2.2.2.2.1
theorem f_a_STRING_NOT_EQUALS_ordinal {Z : State} (h : St Z) : Fld Z Z.heap (a_STRING_NOT_EQUALS Z) "java/lang/Enum" "ordinal" "I" (.int (1 : Int32)) := h.2.2.2.2.2.2.2.2.2.2.2.2.2.2.2.2.2.2.2.2.2.2.2.2.2.2.2.2.2.2.2.2.2.2.2.2.2.2.2.2.2.2.2.2.2.2.2.2.2.2.2.2.2.2.2.2.2.2.2.2.2.2.2.2.2.2.2.2.2.2.2.2.2.2.2.2.2.2.1
theorem f_a_BOOL_negationOf {Z : State} (h : St Z) : Fld Z Z.heap (a_BOOL Z) "com/example/menshen/menshen/policy/ConditionOperator" "negationOf" "Lcom/example/menshen/menshen/policy/ConditionOperator;" .null := h.2.2.2.2.2.2.2.2.2.2.2.2.2.2.2.2.2.2.2.2.2.2.2.2.2.2.2.2.2.2.2.2.2.2.2.2.2.2.2.2.2.2.2.2.2.2.2.2.2.2.2.2.2.2.2.2.2.2.2.2.2.2.2.2.2.2.2.2.2.2.2.2.2.2.2.2.2.2.2.1
theorem s_a_BOOLEANS {Z : State} (h : St Z) : Sta Z Z.heap "com/example/menshen/menshen/policy/ConditionOperator$Literals" "BOOLEANS" "Lcom/example/menshen/menshen/policy/ConditionOperator$Literals;" (.ref (a_BOOLEANS Z)) := h.2.2.2.2.2.2.2.2.2.2.2.2.2.2.2.2.2.2.2.2.2.2.2.2.2.2.2.2.2.2.2.2.2.2.2.2.2.2.2.2.2.2.2.2.2.2.2.2.2.2.2.2.2.2.2.2.2.2.2.2.2.2.2.2.2.2.2.2.2.2.2.2.2.2.2.2.2.2.2.2.1
theorem e_a_BOOLEANS {Z : State} (h : St Z) : Exa Z Z.heap (a_BOOLEANS Z) "com/example/menshen/menshen/policy/ConditionOperator$Literals" := h.2.2.2.2.2.2.2.2.2.2.2.2.2.2.2.2.2.2.2.2.2.2.2.2.2.2.2.2.2.2.2.2.2.2.2.2.2.2.2.2.2.2.2.2.2.2.2.2.2.2.2.2.2.2.2.2.2.2.2.2.2.2.2.2.2.2.2.2.2.2.2.2.2.2.2.2.2.2.2.2.2.1
theorem f_a_BOOL_literals {Z : State} (h : St Z) : Fld Z Z.heap (a_BOOL Z) "com/example/menshen/menshen/policy/ConditionOperator" "literals" "Lcom/example/menshen/menshen/policy/ConditionOperator$Literals;" (.ref (a_BOOLEANS Z)) := h.2.2.2.2.2.2.2.2.2.2.2.2.2.2.2.2.2.2.2.2.2.2.2.2.2.2.2.2.2.2.2.2.2.2.2.2.2.2.2.2.2.2.2.2.2.2.2.2.2.2.2.2.2.2.2.2.2.2.2.2.2.2.2.2.2.2.2.2.2.2.2.2.2.2.2.2.2.2.2.2.2.2.1
theorem f_a_DATE_NOT_EQUALS_negationOf {Z : State} (h : St Z) : Fld Z Z.heap (a_DATE_NOT_EQUALS Z) "com/example/menshen/menshen/policy/ConditionOperator" "negationOf" "Lcom/example/menshen/menshen/policy/ConditionOperator;" (.ref (a_DATE_EQUALS Z)) := h.2.2.2.2.2.2.2.2.2.2.2.2.2.2.2.2.2.2.2.2.2.2.2.2.2.2.2.2.2.2.2.2.2.2.2.2.2.2.2.2.2.2.2.2.2.2.2.2.2.2.2.2.2.2.2.2.2.2.2.2.2.2.2.2.2.2.2.2.2.2.2.2.2.2.2.2.2.2.2.2.2.2.2.1
theorem f_a_DATE_EQUALS_negationOf {Z : State} (h : St Z) : Fld Z Z.heap (a_DATE_EQUALS Z) "com/example/menshen/menshen/policy/ConditionOperator" "negationOf" "Lcom/example/menshen/menshen/policy/ConditionOperator;" .null := h.2.2.2.2.2.2.2.2.2.2.2.2.2.2.2.2.2.2.2.2.2.2.2.2.2.2.2.2.2.2.2.2.2.2.2.2.2.2.2.2.2.2.2.2.2.2.2.2.2.2.2.2.2.2.2.2.2.2.2.2.2.2.2.2.2.2.2.2.2.2.2.2.2.2.2.2.2.2.2.2.2.2.2.2.1
theorem f_a_DATE_EQUALS_literals {Z : State} (h : St Z) : Fld Z Z.heap (a_DATE_EQUALS Z) "com/example/menshen/menshen/policy/ConditionOperator" "literals" "Lcom/example/menshen/menshen/policy/ConditionOperator$Literals;" (.ref (a_NUMBERS Z)) := h.2.2.2.2.2.2.2.2.2.2.2.2.2.2.2.2.2.2.2.2.2.2.2.2.2.2.2.2.2.2.2.2.2.2.2.2.2.2.2.2.2.2.2.2.2.2.2.2.2.2.2.2.2.2.2.2.2.2.2.2.2.2.2.2.2.2.2.2.2.2.2.2.2.2.2.2.2.2.2.2.2.2.2.2.2.1
theorem f_a_DATE_NOT_EQUALS_literals {Z : State} (h : St Z) : Fld Z Z.heap (a_DATE_NOT_EQUALS Z) "com/example/menshen/menshen/policy/ConditionOperator" "literals" "Lcom/example/menshen/menshen/policy/ConditionOperator$Literals;" (.ref (a_NUMBERS Z)) := h.2.2.2.2.2.2.2.2.2.2.2.2.2.2.2.2.2.2.2.2.2.2.2.2.2.2.2.2.2.2.2.2.2.2.2.2.2.2.2.2.2.2.2.2.2.2.2.2.2.2.2.2.2.2.2.2.2.2.2.2.2.2.2.2.2.2.2.2.2.2.2.2.2.2.2.2.2.2.2.2.2.2.2.2.2.2.1
theorem f_a_DATE_EQUALS_ordinal {Z : State} (h : St Z) : Fld Z Z.heap (a_DATE_EQUALS Z) "java/lang/Enum" "ordinal" "I" (.int (15 : Int32)) := h.2.2.2.2.2.2.2.2.2.2.2.2.2.2.2.2.2.2.2.2.2.2.2.2.2.2.2.2.2.2.2.2.2.2.2.2.2.2.2.2.2.2.2.2.2.2.2.2.2.2.2.2.2.2.2.2.2.2.2.2.2.2.2.2.2.2.2.2.2.2.2.2.2.2.2.2.2.2.2.2.2.2.2.2.2.2.2.1
theorem f_a_DATE_NOT_EQUALS_ordinal {Z : State} (h : St Z) : Fld Z Z.heap (a_DATE_NOT_EQUALS Z) "java/lang/Enum" "ordinal" "I" (.int (16 : Int32)) := h.2.2.2.2.2.2.2.2.2.2.2.2.2.2.2.2.2.2.2.2.2.2.2.2.2.2.2.2.2.2.2.2.2.2.2.2.2.2.2.2.2.2.2.2.2.2.2.2.2.2.2.2.2.2.2.2.2.2.2.2.2.2.2.2.2.2.2.2.2.2.2.2.2.2.2.2.2.2.2.2.2.2.2.2.2.2.2.2.1
theorem f_a_NUMERIC_NOT_EQUALS_negationOf {Z : State} (h : St Z) : Fld Z Z.heap (a_NUMERIC_NOT_EQUALS Z) "com/example/menshen/menshen/policy/ConditionOperator" "negationOf" "Lcom/example/menshen/menshen/policy/ConditionOperator;" (.ref (a_NUMERIC_EQUALS Z)) := h.2.2.2.2.2.2.2.2.2.2.2.2.2.2.2.2.2.2.2.2.2.2.2.2.2.2.2.2.2.2.2.2.2.2.2.2.2.2.2.2.2.2.2.2.2.2.2.2.2.2.2.2.2.2.2.2.2.2.2.2.2.2.2.2.2.2.2.2.2.2.2.2.2.2.2.2.2.2.2.2.2.2.2.2.2.2.2.2.2.1
theorem f_a_NUMERIC_EQUALS_negationOf {Z : State} (h : St Z) : Fld Z Z.heap (a_NUMERIC_EQUALS Z) "com/example/menshen/menshen/policy/ConditionOperator" "negationOf" "Lcom/example/menshen/menshen/policy/ConditionOperator;" .null := h.2.2.2.2.2.2.2.2.2.2.2.2.2.2.2.2.2.2.2.2.2.2.2.2.2.2.2.2.2.2.2.2.2.2.2.2.2.2.2.2.2.2.2.2.2.2.2.2.2.2.2.2.2.2.2.2.2.2.2.2.2.2.2.2.2.2.2.2.2.2.2.2.2.2.2.2.2.2.2.2.2.2.2.2.2.2.2.2.2.2.1
theorem f_a_NUMERIC_EQUALS_literals {Z : State} (h : St Z) : Fld Z Z.heap (a_NUMERIC_EQUALS Z) "com/example/menshen/menshen/policy/ConditionOperator" "literals" "Lcom/example/menshen/menshen/policy/ConditionOperator$Literals;" (.ref (a_NUMBERS Z)) := h.2.2.2.2.2.2.2.2.2.2.2.2.2.2.2.2.2.2.2.2.2.2.2.2.2.2.2.2.2.2.2.2.2.2.2.2.2.2.2.2.2.2.2.2.2.2.2.2.2.2.2.2.2.2.2.2.2.2.2.2.2.2.2.2.2.2.2.2.2.2.2.2.2.2.2.2.2.2.2.2.2.2.2.2.2.2.2.2.2.2.2.1
theorem f_a_NUMERIC_NOT_EQUALS_literals {Z : State} (h : St Z) : Fld Z Z.heap (a_NUMERIC_NOT_EQUALS Z) "com/example/menshen/menshen/policy/ConditionOperator" "literals" "Lcom/example/menshen/menshen/policy/ConditionOperator$Literals;" (.ref (a_NUMBERS Z)) := h.2.2.2.2.2.2.2.2.2.2.2.2.2.2.2.2.2.2.2.2.2.2.2.2.2.2.2.2.2.2.2.2.2.2.2.2.2.2.2.2.2.2.2.2.2.2.2.2.2.2.2.2.2.2.2.2.2.2.2.2.2.2.2.2.2.2.2.2.2.2.2.2.2.2.2.2.2.2.2.2.2.2.2.2.2.2.2.2.2.2.2.2.1
theorem f_a_NUMERIC_EQUALS_ordinal {Z : State} (h : St Z) : Fld Z Z.heap (a_NUMERIC_EQUALS Z) "java/lang/Enum" "ordinal" "I" (.int (9 : Int32)) := h.2.2.2.2.2.2.2.2.2.2.2.2.2.2.2.2.2.2.2.2.2.2.2.2.2.2.2.2.2.2.2.2.2.2.2.2.2.2.2.2.2.2.2.2.2.2.2.2.2.2.2.2.2.2.2.2.2.2.2.2.2.2.2.2.2.2.2.2.2.2.2.2.2.2.2.2.2.2.2.2.2.2.2.2.2.2.2.2.2.2.2.2.2.1
theorem f_a_NUMERIC_NOT_EQUALS_ordinal {Z : State} (h : St Z) : Fld Z Z.heap (a_NUMERIC_NOT_EQUALS Z) "java/lang/Enum" "ordinal" "I" (.int (10 : Int32)) := h.2.2.2.2.2.2.2.2.2.2.2.2.2.2.2.2.2.2.2.2.2.2.2.2.2.2.2.2.2.2.2.2.2.2.2.2.2.2.2.2.2.2.2.2.2.2.2.2.2.2.2.2.2.2.2.2.2.2.2.2.2.2.2.2.2.2.2.2.2.2.2.2.2.2.2.2.2.2.2.2.2.2.2.2.2.2.2.2.2.2.2.2.2.2.1
theorem f_a_NULL_negationOf {Z : State} (h : St Z) : Fld Z Z.heap (a_NULL Z) "com/example/menshen/menshen/policy/ConditionOperator" "negationOf" "Lcom/example/menshen/menshen/policy/ConditionOperator;" .null := h.2.2.2.2.2.2.2.2.2.2.2.2.2.2.2.2.2.2.2.2.2.2.2.2.2.2.2.2.2.2.2.2.2.2.2.2.2.2.2.2.2.2.2.2.2.2.2.2.2.2.2.2.2.2.2.2.2.2.2.2.2.2.2.2.2.2.2.2.2.2.2.2.2.2.2.2.2.2.2.2.2.2.2.2.2.2.2.2.2.2.2.2.2.2.2.1
theorem f_a_NULL_literals {Z : State} (h : St Z) : Fld Z Z.heap (a_NULL Z) "com/example/menshen/menshen/policy/ConditionOperator" "literals" "Lcom/example/menshen/menshen/policy/ConditionOperator$Literals;" (.ref (a_BOOLEANS Z)) := h.2.2.2.2.2.2.2.2.2.2.2.2.2.2.2.2.2.2.2.2.2.2.2.2.2.2.2.2.2.2.2.2.2.2.2.2.2.2.2.2.2.2.2.2.2.2.2.2.2.2.2.2.2.2.2.2.2.2.2.2.2.2.2.2.2.2.2.2.2.2.2.2.2.2.2.2.2.2.2.2.2.2.2.2.2.2.2.2.2.2.2.2.2.2.2.2.1
theorem f_a_DATE_GREATER_THAN_negationOf {Z : State} (h : St Z) : Fld Z Z.heap (a_DATE_GREATER_THAN Z) "com/example/menshen/menshen/policy/ConditionOperator" "negationOf" "Lcom/example/menshen/menshen/policy/ConditionOperator;" .null := h.2.2.2.2.2.2.2.2.2.2.2.2.2.2.2.2.2.2.2.2.2.2.2.2.2.2.2.2.2.2.2.2.2.2.2.2.2.2.2.2.2.2.2.2.2.2.2.2.2.2.2.2.2.2.2.2.2.2.2.2.2.2.2.2.2.2.2.2.2.2.2.2.2.2.2.2.2.2.2.2.2.2.2.2.2.2.2.2.2.2.2.2.2.2.2.2.2.1
theorem f_a_DATE_GREATER_THAN_literals {Z : State} (h : St Z) : Fld Z Z.heap (a_DATE_GREATER_THAN Z) "com/example/menshen/menshen/policy/ConditionOperator" "literals" "Lcom/example/menshen/menshen/policy/ConditionOperator$Literals;" (.ref (a_NUMBERS Z)) := h.2.2.2.2.2.2.2.2.2.2.2.2.2.2.2.2.2.2.2.2.2.2.2.2.2.2.2.2.2.2.2.2.2.2.2.2.2.2.2.2.2.2.2.2.2.2.2.2.2.2.2.2.2.2.2.2.2.2.2.2.2.2.2.2.2.2.2.2.2.2.2.2.2.2.2.2.2.2.2.2.2.2.2.2.2.2.2.2.2.2.2.2.2.2.2.2.2.2.1
theorem f_a_DATE_LESS_THAN_negationOf {Z : State} (h : St Z) : Fld Z Z.heap (a_DATE_LESS_THAN Z) "com/example/menshen/menshen/policy/ConditionOperator" "negationOf" "Lcom/example/menshen/menshen/policy/ConditionOperator;" .null := h.2.2.2.2.2.2.2.2.2.2.2.2.2.2.2.2.2.2.2.2.2.2.2.2.2.2.2.2.2.2.2.2.2.2.2.2.2.2.2.2.2.2.2.2.2.2.2.2.2.2.2.2.2.2.2.2.2.2.2.2.2.2.2.2.2.2.2.2.2.2.2.2.2.2.2.2.2.2.2.2.2.2.2.2.2.2.2.2.2.2.2.2.2.2.2.2.2.2.2.1
theorem f_a_DATE_LESS_THAN_literals {Z : State} (h : St Z) : Fld Z Z.heap (a_DATE_LESS_THAN Z) "com/example/menshen/menshen/policy/ConditionOperator" "literals" "Lcom/example/menshen/menshen/policy/ConditionOperator$Literals;" (.ref (a_NUMBERS Z)) := h.2.2.2.2.2.2.2.2.2.2.2.2.2.2.2.2.2.2.2.2.2.2.2.2.2.2.2.2.2.2.2.2.2.2.2.2.2.2.2.2.2.2.2.2.2.2.2.2.2.2.2.2.2.2.2.2.2.2.2.2.2.2.2.2.2.2.2.2.2.2.2.2.2.2.2.2.2.2.2.2.2.2.2.2.2.2.2.2.2.2.2.2.2.2.2.2.2.2.2.2.1
theorem f_a_DATE_GREATER_THAN_EQUALS_negationOf {Z : State} (h : St Z) : Fld Z Z.heap (a_DATE_GREATER_THAN_EQUALS Z) "com/example/menshen/menshen/policy/ConditionOperator" "negationOf" "Lcom/example/menshen/menshen/policy/ConditionOperator;" .null := h.2.2.2.2.2.2.2.2.2.2.2.2.2.2.2.2.2.2.2.2.2.2.2.2.2.2.2.2.2.2.2.2.2.2.2.2.2.2.2.2.2.2.2.2.2.2.2.2.2.2.2.2.2.2.2.2.2.2.2.2.2.2.2.2.2.2.2.2.2.2.2.2.2.2.2.2.2.2.2.2.2.2.2.2.2.2.2.2.2.2.2.2.2.2.2.2.2.2.2.2.2.1
theorem f_a_DATE_GREATER_THAN_EQUALS_literals {Z : State} (h : St Z) : Fld Z Z.heap (a_DATE_GREATER_THAN_EQUALS Z) "com/example/menshen/menshen/policy/ConditionOperator" "literals" "Lcom/example/menshen/menshen/policy/ConditionOperator$Literals;" (.ref (a_NUMBERS Z)) := h.2.2.2.2.2.2.2.2.2.2.2.2.2.2.2.2.2.2.2.2.2.2.2.2.2.2.2.2.2.2.2.2.2.2.2.2.2.2.2.2.2.2.2.2.2.2.2.2.2.2.2.2.2.2.2.2.2.2.2.2.2.2.2.2.2.2.2.2.2.2.2.2.2.2.2.2.2.2.2.2.2.2.2.2.2.2.2.2.2.2.2.2.2.2.2.2.2.2.2.2.2.2.1
theorem f_a_NUMERIC_GREATER_THAN_EQUALS_negationOf {Z : State} (h : St Z) : Fld Z Z.heap (a_NUMERIC_GREATER_THAN_EQUALS Z) "com/example/menshen/menshen/policy/ConditionOperator" "negationOf" "Lcom/example/menshen/menshen/policy/ConditionOperator;" .null := h.2.2.2.2.2.2.2.2.2.2.2.2.2.2.2.2.2.2.2.2.2.2.2.2.2.2.2.2.2.2.2.2.2.2.2.2.2.2.2.2.2.2.2.2.2.2.2.2.2.2.2.2.2.2.2.2.2.2.2.2.2.2.2.2.2.2.2.2.2.2.2.2.2.2.2.2.2.2.2.2.2.2.2.2.2.2.2.2.2.2.2.2.2.2.2.2.2.2.2.2.2.2.2.1
theorem f_a_NUMERIC_GREATER_THAN_EQUALS_literals {Z : State} (h : St Z) : Fld Z Z.heap (a_NUMERIC_GREATER_THAN_EQUALS Z) "com/example/menshen/menshen/policy/ConditionOperator" "literals" "Lcom/example/menshen/menshen/policy/ConditionOperator$Literals;" (.ref (a_NUMBERS Z)) := h.2.2.2.2.2.2.2.2.2.2.2.2.2.2.2.2.2.2.2.2.2.2.2.2.2.2.2.2.2.2.2.2.2.2.2.2.2.2.2.2.2.2.2.2.2.2.2.2.2.2.2.2.2.2.2.2.2.2.2.2.2.2.2.2.2.2.2.2.2.2.2.2.2.2.2.2.2.2.2.2.2.2.2.2.2.2.2.2.2.2.2.2.2.2.2.2.2.2.2.2.2.2.2.2.1
theorem f_a_STRING_NOT_LIKE_negationOf {Z : State} (h : St Z) : Fld Z Z.heap (a_STRING_NOT_LIKE Z) "com/example/menshen/menshen/policy/ConditionOperator" "negationOf" "Lcom/example/menshen/menshen/policy/ConditionOperator;" (.ref (a_STRING_LIKE Z)) := h.2.2.2.2.2.2.2.2.2.2.2.2.2.2.2.2.2.2.2.2.2.2.2.2.2.2.2.2.2.2.2.2.2.2.2.2.2.2.2.2.2.2.2.2.2.2.2.2.2.2.2.2.2.2.2.2.2.2.2.2.2.2.2.2.2.2.2.2.2.2.2.2.2.2.2.2.2.2.2.2.2.2.2.2.2.2.2.2.2.2.2.2.2.2.2.2.2.2.2.2.2.2.2.2.2.1
theorem f_a_STRING_NOT_LIKE_literals {Z : State} (h : St Z) : Fld Z Z.heap (a_STRING_NOT_LIKE Z) "com/example/menshen/menshen/policy/ConditionOperator" "literals" "Lcom/example/menshen/menshen/policy/ConditionOperator$Literals;" (.ref (a_NONE Z)) := h.2.2.2.2.2.2.2.2.2.2.2.2.2.2.2.2.2.2.2.2.2.2.2.2.2.2.2.2.2.2.2.2.2.2.2.2.2.2.2.2.2.2.2.2.2.2.2.2.2.2.2.2.2.2.2.2.2.2.2.2.2.2.2.2.2.2.2.2.2.2.2.2.2.2.2.2.2.2.2.2.2.2.2.2.2.2.2.2.2.2.2.2.2.2.2.2.2.2.2.2.2.2.2.2.2.2.1
theorem f_a_STRING_LIKE_ordinal {Z : State} (h : St Z) : Fld Z Z.heap (a_STRING_LIKE Z) "java/lang/Enum" "ordinal" "I" (.int (5 : Int32)) := h.2.2.2.2.2.2.2.2.2.2.2.2.2.2.2.2.2.2.2.2.2.2.2.2.2.2.2.2.2.2.2.2.2.2.2.2.2.2.2.2.2.2.2.2.2.2.2.2.2.2.2.2.2.2.2.2.2.2.2.2.2.2.2.2.2.2.2.2.2.2.2.2.2.2.2.2.2.2.2.2.2.2.2.2.2.2.2.2.2.2.2.2.2.2.2.2.2.2.2.2.2.2.2.2.2.2.2.1
theorem f_a_STRING_NOT_LIKE_ordinal {Z : State} (h : St Z) : Fld Z Z.heap (a_STRING_NOT_LIKE Z) "java/lang/Enum" "ordinal" "I" (.int (6 : Int32)) := h.2.2.2.2.2.2.2.2.2.2.2.2.2.2.2.2.2.2.2.2.2.2.2.2.2.2.2.2.2.2.2.2.2.2.2.2.2.2.2.2.2.2.2.2.2.2.2.2.2.2.2.2.2.2.2.2.2.2.2.2.2.2.2.2.2.2.2.2.2.2.2.2.2.2.2.2.2.2.2.2.2.2.2.2.2.2.2.2.2.2.2.2.2.2.2.2.2.2.2.2.2.2.2.2.2.2.2.2.1
theorem f_a_NUMERIC_GREATER_THAN_negationOf {Z : State} (h : St Z) : Fld Z Z.heap (a_NUMERIC_GREATER_THAN Z) "com/example/menshen/menshen/policy/ConditionOperator" "negationOf" "Lcom/example/menshen/menshen/policy/ConditionOperator;" .null := h.2.2.2.2.2.2.2.2.2.2.2.2.2.2.2.2.2.2.2.2.2.2.2.2.2.2.2.2.2.2.2.2.2.2.2.2.2.2.2.2.2.2.2.2.2.2.2.2.2.2.2.2.2.2.2.2.2.2.2.2.2.2.2.2.2.2.2.2.2.2.2.2.2.2.2.2.2.2.2.2.2.2.2.2.2.2.2.2.2.2.2.2.2.2.2.2.2.2.2.2.2.2.2.2.2.2.2.2.2.1
theorem f_a_NUMERIC_GREATER_THAN_literals {Z : State} (h : St Z) : Fld Z Z.heap (a_NUMERIC_GREATER_THAN Z) "com/example/menshen/menshen/policy/ConditionOperator" "literals" "Lcom/example/menshen/menshen/policy/ConditionOperator$Literals;" (.ref (a_NUMBERS Z)) := h.2.2.2.2.2.2.2.2.2.2.2.2.2.2.2.2.2.2.2.2.2.2.2.2.2.2.2.2.2.2.2.2.2.2.2.2.2.2.2.2.2.2.2.2.2.2.2.2.2.2.2.2.2.2.2.2.2.2.2.2.2.2.2.2.2.2.2.2.2.2.2.2.2.2.2.2.2.2.2.2.2.2.2.2.2.2.2.2.2.2.2.2.2.2.2.2.2.2.2.2.2.2.2.2.2.2.2.2.2.2
theorem d1_0 : decode prog_22_method_9_code 0 = .ok (.aload_n 0, 1) := by decide +kernel
theorem d1_1 : decode prog_22_method_9_code 1 = .ok (.getfield 96, 3) := by decide +kernel
theorem d1_4 : decode prog_22_method_9_code 4 = .ok (.ifnonnull 7, 3) := by decide +kernel
theorem d1_7 : decode prog_22_method_9_code 7 = .ok (.aload_n 0, 1) := by decide +kernel
theorem d1_8 : decode prog_22_method_9_code 8 = .ok (.goto 7, 3) := by decide +kernel
theorem d1_15 : decode prog_22_method_9_code 15 = .ok (.areturn, 1) := by decide +kernel
def fn1n (Z : State) (r0 : Addr) : Addr :=
  r0
theorem ef_1n (m : MethodId) (x0 : Addr) : entryFrame m #[(.ref x0)] 1 = mkF m 0 #[.val (.ref x0)] [] := by first | (simp [entryFrame, mkF, argsToLocals, Value.category]; done) | rfl
theorem pn_0 : plainName "com/example/menshen/menshen/policy/ConditionOperator" = true := by first | (simp [plainName, overriddenIn]; done) | decide +kernel
set_option maxRecDepth 65536 in
set_option maxHeartbeats 40000000 in
theorem rm1n (l : Launch) (Z : State) (a0 : Array Value) (hw : ∀ d ∈ tables_1, d.before a0 Z = true) (hS : St Z) (ws : List Jvm.Cond) (r0 : Addr) (h0 : Heap) (n0 : Nat) (O0 : Old Z n0 h0) (F_negationOf_r0 : Fld Z h0 r0 "com/example/menshen/menshen/policy/ConditionOperator" "negationOf" "Lcom/example/menshen/menshen/policy/ConditionOperator;" .null) :
    MetFree l (⟨"com/example/menshen/menshen/policy/ConditionOperator", "positive", "()Lcom/example/menshen/menshen/policy/ConditionOperator;"⟩ : MethodName) (head1 (Jvm.Cond.code (⟨"com/example/menshen/menshen/policy/ConditionOperator", "positive", "()Lcom/example/menshen/menshen/policy/ConditionOperator;"⟩ : MethodName) prog_22_method_9_code 1 (some (.object "com/example/menshen/menshen/policy/ConditionOperator")) :: ws) ({ frames := 0, cells := 0, slots := 0, locals := 0 } : Room)) (fun a U => a = #[(.ref r0)] ∧ Z.Warmed39 U.vm ∧ U.heap = h0) (fun _ _ _ _ _ => True) (fun _ U o U' => ∃ v L, o = .returned v ∧ own_Q (fun v hE L => v = some (.ref (fn1n Z r0)) ∧ Fr n0 L ∧ Keep h0 hE []) v U'.heap L ∧ FrameEnd U o U' L ({ frames := 0, cells := 0, slots := 0, locals := 0 } : Room).cells ({ frames := 0, cells := 0, slots := 0, locals := 0 } : Room).slots) := by
  refine MetFree.of_bodySF (plainFor_of_name pn_0) hisR ?_
  intro p e s m args below meth c s₁ Bd hml0 hP hK
  obtain ⟨rfl, hZ, hh⟩ := hP
  have hx := Bd.exec
  have hby := Bd.bytes
  have hml : c.maxLocals = 1 := hml0
  have hown : s.vm.findClass "com/example/menshen/menshen/policy/ConditionOperator" = some m.cls := findClass_of_methodNamed Bd.named
  have hnm := (name_of_methodNamed Bd.named Bd.method).1
  have X0 : Stand p l e ({ frames := 0, cells := 0, slots := 0, locals := 0 } : Room) s m #[(.ref r0)] below meth c s₁ [] 0 0 := Stand.of_body Bd
  have e0 : s₁.heap = h0 := by rw [← hh, Bd.state]; rfl
  have N0 := Fr.nil n0
  have pre0 : ∀ t, Steps p.tables e below (s₁.setTop (mkF m 0 #[oR r0] [])) t → Steps p.tables e below (s₁.setTop (entryFrame m #[(.ref r0)] 1)) t := fun t k => castTop (ef_1n m r0) k
  obtain ⟨T1, X1, e1, st1⟩ := getF X0 hx hZ hown (host := "") (Or.inl (hw _ (List.mem_of_getElem? (i := 56) rfl))) Via.refl e0 F_negationOf_r0 (g := (mkF m 1 #[oR r0] [(.ref r0)])) rfl rfl (hb hby d1_1)
  obtain ⟨fs, hr, hrun, hended, hW, hsame⟩ := X1.leave (v := some (.ref r0)) (fun h => by rw [Bd.returns] at h; cases h)
  refine ⟨_, _, pre0 _ ?_, hrun, hended, _, _, rfl, ?_, ⟨_, rfl⟩, hW, hsame.mono (by decide) (by decide)⟩
  · show oP p e below s₁ (mkF m 0 #[oR r0] []) _
    refine XS.aloadN X0.here hx rfl (hb hby d1_0) rfl rfl ?_
    show oP p e below s₁ (mkF m 1 #[oR r0] [(.ref r0)]) _
    refine st1 _ ?_
    show oP p e below T1 (mkF m 4 #[oR r0] [.null]) _
    refine XS.ifnonnullNo X1.here hx rfl (hb hby d1_4) rfl ?_
    show oP p e below T1 (mkF m 7 #[oR r0] []) _
    refine XS.aloadN X1.here hx rfl (hb hby d1_7) rfl rfl ?_
    show oP p e below T1 (mkF m 8 #[oR r0] [(.ref r0)]) _
    refine XS.goto X1.here hx rfl (pc0 := 8) (pc' := 15) rfl (hb hby d1_8) (by decide) (by decide) ?_
    show oP p e below T1 (mkF m 15 #[oR r0] [(.ref r0)]) _
    exact own_retA X1 hx Bd.returns rfl rfl (hb hby d1_15) hr
  · show (some (.ref r0) : Option Value) = some (.ref (fn1n Z r0)) ∧ Fr n0 _ ∧ Keep h0 T1.heap []
    rw [e1]
    refine ⟨?_, N0, (Keep.refl h0 [])⟩
    rfl
theorem d1_11 : decode prog_22_method_9_code 11 = .ok (.aload_n 0, 1) := by decide +kernel
theorem d1_12 : decode prog_22_method_9_code 12 = .ok (.getfield 96, 3) := by decide +kernel
def fn1r (Z : State) (r0 : Addr) (u : Addr) : Addr :=
  u
theorem ef_1r (m : MethodId) (x0 : Addr) : entryFrame m #[(.ref x0)] 1 = mkF m 0 #[.val (.ref x0)] [] := by first | (simp [entryFrame, mkF, argsToLocals, Value.category]; done) | rfl
set_option maxRecDepth 65536 in
set_option maxHeartbeats 40000000 in
theorem rm1r (l : Launch) (Z : State) (a0 : Array Value) (hw : ∀ d ∈ tables_1, d.before a0 Z = true) (hS : St Z) (ws : List Jvm.Cond) (r0 : Addr) (u : Addr) (h0 : Heap) (n0 : Nat) (O0 : Old Z n0 h0) (F_negationOf_r0 : Fld Z h0 r0 "com/example/menshen/menshen/policy/ConditionOperator" "negationOf" "Lcom/example/menshen/menshen/policy/ConditionOperator;" (.ref u)) :
    MetFree l (⟨"com/example/menshen/menshen/policy/ConditionOperator", "positive", "()Lcom/example/menshen/menshen/policy/ConditionOperator;"⟩ : MethodName) (head1 (Jvm.Cond.code (⟨"com/example/menshen/menshen/policy/ConditionOperator", "positive", "()Lcom/example/menshen/menshen/policy/ConditionOperator;"⟩ : MethodName) prog_22_method_9_code 1 (some (.object "com/example/menshen/menshen/policy/ConditionOperator")) :: ws) ({ frames := 0, cells := 0, slots := 0, locals := 0 } : Room)) (fun a U => a = #[(.ref r0)] ∧ Z.Warmed39 U.vm ∧ U.heap = h0) (fun _ _ _ _ _ => True) (fun _ U o U' => ∃ v L, o = .returned v ∧ own_Q (fun v hE L => v = some (.ref (fn1r Z r0 u)) ∧ Fr n0 L ∧ Keep h0 hE []) v U'.heap L ∧ FrameEnd U o U' L ({ frames := 0, cells := 0, slots := 0, locals := 0 } : Room).cells ({ frames := 0, cells := 0, slots := 0, locals := 0 } : Room).slots) := by
  refine MetFree.of_bodySF (plainFor_of_name pn_0) hisR ?_
  intro p e s m args below meth c s₁ Bd hml0 hP hK
  obtain ⟨rfl, hZ, hh⟩ := hP
  have hx := Bd.exec
  have hby := Bd.bytes
  have hml : c.maxLocals = 1 := hml0
  have hown : s.vm.findClass "com/example/menshen/menshen/policy/ConditionOperator" = some m.cls := findClass_of_methodNamed Bd.named
  have hnm := (name_of_methodNamed Bd.named Bd.method).1
  have X0 : Stand p l e ({ frames := 0, cells := 0, slots := 0, locals := 0 } : Room) s m #[(.ref r0)] below meth c s₁ [] 0 0 := Stand.of_body Bd
  have e0 : s₁.heap = h0 := by rw [← hh, Bd.state]; rfl
  have N0 := Fr.nil n0
  have pre0 : ∀ t, Steps p.tables e below (s₁.setTop (mkF m 0 #[oR r0] [])) t → Steps p.tables e below (s₁.setTop (entryFrame m #[(.ref r0)] 1)) t := fun t k => castTop (ef_1r m r0) k
  obtain ⟨T2, X2, e2, st2⟩ := getF X0 hx hZ hown (host := "") (Or.inl (hw _ (List.mem_of_getElem? (i := 56) rfl))) Via.refl e0 F_negationOf_r0 (g := (mkF m 1 #[oR r0] [(.ref r0)])) rfl rfl (hb hby d1_1)
  obtain ⟨T3, X3, e3, st3⟩ := getF X2 hx hZ hown (host := "") (Or.inl (hw _ (List.mem_of_getElem? (i := 56) rfl))) Via.refl e2 F_negationOf_r0 (g := (mkF m 12 #[oR r0] [(.ref r0)])) rfl rfl (hb hby d1_12)
  obtain ⟨fs, hr, hrun, hended, hW, hsame⟩ := X3.leave (v := some (.ref u)) (fun h => by rw [Bd.returns] at h; cases h)
  refine ⟨_, _, pre0 _ ?_, hrun, hended, _, _, rfl, ?_, ⟨_, rfl⟩, hW, hsame.mono (by decide) (by decide)⟩
  · show oP p e below s₁ (mkF m 0 #[oR r0] []) _
    refine XS.aloadN X0.here hx rfl (hb hby d1_0) rfl rfl ?_
    show oP p e below s₁ (mkF m 1 #[oR r0] [(.ref r0)]) _
    refine st2 _ ?_
    show oP p e below T2 (mkF m 4 #[oR r0] [(.ref u)]) _
    refine XS.ifnonnullYes X2.here hx rfl (pc0 := 4) (pc' := 11) rfl (hb hby d1_4) rfl (by decide) (by decide) ?_
    show oP p e below T2 (mkF m 11 #[oR r0] []) _
    refine XS.aloadN X2.here hx rfl (hb hby d1_11) rfl rfl ?_
    show oP p e below T2 (mkF m 12 #[oR r0] [(.ref r0)]) _
    refine st3 _ ?_
    show oP p e below T3 (mkF m 15 #[oR r0] [(.ref u)]) _
    exact own_retA X3 hx Bd.returns rfl rfl (hb hby d1_15) hr
  · show (some (.ref u) : Option Value) = some (.ref (fn1r Z r0 u)) ∧ Fr n0 _ ∧ Keep h0 T3.heap []
    rw [e3]
    refine ⟨?_, N0, (Keep.refl h0 [])⟩
    rfl
theorem d2_0 : decode prog_22_method_7_code 0 = .ok (.aload_n 0, 1) := by decide +kernel
theorem d2_1 : decode prog_22_method_7_code 1 = .ok (.getfield 96, 3) := by decide +kernel
theorem d2_4 : decode prog_22_method_7_code 4 = .ok (.ifnull 7, 3) := by decide +kernel
theorem d2_11 : decode prog_22_method_7_code 11 = .ok (.iconst 0, 1) := by decide +kernel
theorem d2_12 : decode prog_22_method_7_code 12 = .ok (.ireturn, 1) := by decide +kernel
def fn2n (Z : State) (r0 : Addr) : Int32 :=
  (0 : Int32)
theorem ef_2n (m : MethodId) (x0 : Addr) : entryFrame m #[(.ref x0)] 1 = mkF m 0 #[.val (.ref x0)] [] := by first | (simp [entryFrame, mkF, argsToLocals, Value.category]; done) | rfl
set_option maxRecDepth 65536 in
set_option maxHeartbeats 40000000 in
theorem rm2n (l : Launch) (Z : State) (a0 : Array Value) (hw : ∀ d ∈ tables_1, d.before a0 Z = true) (hS : St Z) (ws : List Jvm.Cond) (r0 : Addr) (h0 : Heap) (n0 : Nat) (O0 : Old Z n0 h0) (F_negationOf_r0 : Fld Z h0 r0 "com/example/menshen/menshen/policy/ConditionOperator" "negationOf" "Lcom/example/menshen/menshen/policy/ConditionOperator;" .null) :
    MetFree l (⟨"com/example/menshen/menshen/policy/ConditionOperator", "isNegated", "()Z"⟩ : MethodName) (head1 (Jvm.Cond.code (⟨"com/example/menshen/menshen/policy/ConditionOperator", "isNegated", "()Z"⟩ : MethodName) prog_22_method_7_code 1 (some .boolean) :: ws) ({ frames := 0, cells := 0, slots := 0, locals := 0 } : Room)) (fun a U => a = #[(.ref r0)] ∧ Z.Warmed39 U.vm ∧ U.heap = h0) (fun _ _ _ _ _ => True) (fun _ U o U' => ∃ v L, o = .returned v ∧ own_Q (fun v hE L => v = some (.int (fn2n Z r0)) ∧ Fr n0 L ∧ Keep h0 hE []) v U'.heap L ∧ FrameEnd U o U' L ({ frames := 0, cells := 0, slots := 0, locals := 0 } : Room).cells ({ frames := 0, cells := 0, slots := 0, locals := 0 } : Room).slots) := by
  refine MetFree.of_bodySF (plainFor_of_name pn_0) hisR ?_
  intro p e s m args below meth c s₁ Bd hml0 hP hK
  obtain ⟨rfl, hZ, hh⟩ := hP
  have hx := Bd.exec
  have hby := Bd.bytes
  have hml : c.maxLocals = 1 := hml0
  have hown : s.vm.findClass "com/example/menshen/menshen/policy/ConditionOperator" = some m.cls := findClass_of_methodNamed Bd.named
  have hnm := (name_of_methodNamed Bd.named Bd.method).1
  have X0 : Stand p l e ({ frames := 0, cells := 0, slots := 0, locals := 0 } : Room) s m #[(.ref r0)] below meth c s₁ [] 0 0 := Stand.of_body Bd
  have e0 : s₁.heap = h0 := by rw [← hh, Bd.state]; rfl
  have N0 := Fr.nil n0
  have pre0 : ∀ t, Steps p.tables e below (s₁.setTop (mkF m 0 #[oR r0] [])) t → Steps p.tables e below (s₁.setTop (entryFrame m #[(.ref r0)] 1)) t := fun t k => castTop (ef_2n m r0) k
  obtain ⟨T4, X4, e4, st4⟩ := getF X0 hx hZ hown (host := "") (Or.inl (hw _ (List.mem_of_getElem? (i := 56) rfl))) Via.refl e0 F_negationOf_r0 (g := (mkF m 1 #[oR r0] [(.ref r0)])) rfl rfl (hb hby d2_1)
  obtain ⟨fs, hr, hrun, hended, hW, hsame⟩ := X4.leave (v := some (.int (0 : Int32))) (fun h => by rw [Bd.returns] at h; cases h)
  refine ⟨_, _, pre0 _ ?_, hrun, hended, _, _, rfl, ?_, ⟨_, rfl⟩, hW, hsame.mono (by decide) (by decide)⟩
  · show oP p e below s₁ (mkF m 0 #[oR r0] []) _
    refine XS.aloadN X0.here hx rfl (hb hby d2_0) rfl rfl ?_
    show oP p e below s₁ (mkF m 1 #[oR r0] [(.ref r0)]) _
    refine st4 _ ?_
    show oP p e below T4 (mkF m 4 #[oR r0] [.null]) _
    refine XS.ifnullYes X4.here hx rfl (pc0 := 4) (pc' := 11) rfl (hb hby d2_4) rfl (by decide) (by decide) ?_
    show oP p e below T4 (mkF m 11 #[oR r0] []) _
    refine XS.iconst X4.here hx rfl (hb hby d2_11) ?_
    show oP p e below T4 (mkF m 12 #[oR r0] [(.int (0 : Int32))]) _
    exact retN X4 hx (t := .boolean) Bd.returns (by simp) (hb hby d2_12) hr
  · show (some (.int (0 : Int32)) : Option Value) = some (.int (fn2n Z r0)) ∧ Fr n0 _ ∧ Keep h0 T4.heap []
    rw [e4]
    refine ⟨?_, N0, (Keep.refl h0 [])⟩
    rfl
theorem d2_7 : decode prog_22_method_7_code 7 = .ok (.iconst 1, 1) := by decide +kernel
theorem d2_8 : decode prog_22_method_7_code 8 = .ok (.goto 4, 3) := by decide +kernel
def fn2r (Z : State) (r0 : Addr) (u : Addr) : Int32 :=
  (1 : Int32)
theorem ef_2r (m : MethodId) (x0 : Addr) : entryFrame m #[(.ref x0)] 1 = mkF m 0 #[.val (.ref x0)] [] := by first | (simp [entryFrame, mkF, argsToLocals, Value.category]; done) | rfl
set_option maxRecDepth 65536 in
set_option maxHeartbeats 40000000 in
theorem rm2r (l : Launch) (Z : State) (a0 : Array Value) (hw : ∀ d ∈ tables_1, d.before a0 Z = true) (hS : St Z) (ws : List Jvm.Cond) (r0 : Addr) (u : Addr) (h0 : Heap) (n0 : Nat) (O0 : Old Z n0 h0) (F_negationOf_r0 : Fld Z h0 r0 "com/example/menshen/menshen/policy/ConditionOperator" "negationOf" "Lcom/example/menshen/menshen/policy/ConditionOperator;" (.ref u)) :
    MetFree l (⟨"com/example/menshen/menshen/policy/ConditionOperator", "isNegated", "()Z"⟩ : MethodName) (head1 (Jvm.Cond.code (⟨"com/example/menshen/menshen/policy/ConditionOperator", "isNegated", "()Z"⟩ : MethodName) prog_22_method_7_code 1 (some .boolean) :: ws) ({ frames := 0, cells := 0, slots := 0, locals := 0 } : Room)) (fun a U => a = #[(.ref r0)] ∧ Z.Warmed39 U.vm ∧ U.heap = h0) (fun _ _ _ _ _ => True) (fun _ U o U' => ∃ v L, o = .returned v ∧ own_Q (fun v hE L => v = some (.int (fn2r Z r0 u)) ∧ Fr n0 L ∧ Keep h0 hE []) v U'.heap L ∧ FrameEnd U o U' L ({ frames := 0, cells := 0, slots := 0, locals := 0 } : Room).cells ({ frames := 0, cells := 0, slots := 0, locals := 0 } : Room).slots) := by
  refine MetFree.of_bodySF (plainFor_of_name pn_0) hisR ?_
  intro p e s m args below meth c s₁ Bd hml0 hP hK
  obtain ⟨rfl, hZ, hh⟩ := hP
  have hx := Bd.exec
  have hby := Bd.bytes
  have hml : c.maxLocals = 1 := hml0
  have hown : s.vm.findClass "com/example/menshen/menshen/policy/ConditionOperator" = some m.cls := findClass_of_methodNamed Bd.named
  have hnm := (name_of_methodNamed Bd.named Bd.method).1
  have X0 : Stand p l e ({ frames := 0, cells := 0, slots := 0, locals := 0 } : Room) s m #[(.ref r0)] below meth c s₁ [] 0 0 := Stand.of_body Bd
  have e0 : s₁.heap = h0 := by rw [← hh, Bd.state]; rfl
  have N0 := Fr.nil n0
  have pre0 : ∀ t, Steps p.tables e below (s₁.setTop (mkF m 0 #[oR r0] [])) t → Steps p.tables e below (s₁.setTop (entryFrame m #[(.ref r0)] 1)) t := fun t k => castTop (ef_2r m r0) k
  obtain ⟨T5, X5, e5, st5⟩ := getF X0 hx hZ hown (host := "") (Or.inl (hw _ (List.mem_of_getElem? (i := 56) rfl))) Via.refl e0 F_negationOf_r0 (g := (mkF m 1 #[oR r0] [(.ref r0)])) rfl rfl (hb hby d2_1)
  obtain ⟨fs, hr, hrun, hended, hW, hsame⟩ := X5.leave (v := some (.int (1 : Int32))) (fun h => by rw [Bd.returns] at h; cases h)
  refine ⟨_, _, pre0 _ ?_, hrun, hended, _, _, rfl, ?_, ⟨_, rfl⟩, hW, hsame.mono (by decide) (by decide)⟩
  · show oP p e below s₁ (mkF m 0 #[oR r0] []) _
    refine XS.aloadN X0.here hx rfl (hb hby d2_0) rfl rfl ?_
    show oP p e below s₁ (mkF m 1 #[oR r0] [(.ref r0)]) _
    refine st5 _ ?_
    show oP p e below T5 (mkF m 4 #[oR r0] [(.ref u)]) _
    refine XS.ifnullNo X5.here hx rfl (hb hby d2_4) rfl ?_
    show oP p e below T5 (mkF m 7 #[oR r0] []) _
    refine XS.iconst X5.here hx rfl (hb hby d2_7) ?_
    show oP p e below T5 (mkF m 8 #[oR r0] [(.int (1 : Int32))]) _
    refine XS.goto X5.here hx rfl (pc0 := 8) (pc' := 12) rfl (hb hby d2_8) (by decide) (by decide) ?_
    show oP p e below T5 (mkF m 12 #[oR r0] [(.int (1 : Int32))]) _
    exact retN X5 hx (t := .boolean) Bd.returns (by simp) (hb hby d2_12) hr
  · show (some (.int (1 : Int32)) : Option Value) = some (.int (fn2r Z r0 u)) ∧ Fr n0 _ ∧ Keep h0 T5.heap []
    rw [e5]
    refine ⟨?_, N0, (Keep.refl h0 [])⟩
    rfl
theorem d3_0 : decode prog_22_method_8_code 0 = .ok (.aload_n 0, 1) := by decide +kernel
theorem d3_1 : decode prog_22_method_8_code 1 = .ok (.getfield 99, 3) := by decide +kernel
theorem d3_4 : decode prog_22_method_8_code 4 = .ok (.areturn, 1) := by decide +kernel
def fn3 (Z : State) (r0 : Addr) (u : Addr) : Addr :=
  u
theorem ef_3 (m : MethodId) (x0 : Addr) : entryFrame m #[(.ref x0)] 1 = mkF m 0 #[.val (.ref x0)] [] := by first | (simp [entryFrame, mkF, argsToLocals, Value.category]; done) | rfl
set_option maxRecDepth 65536 in
set_option maxHeartbeats 40000000 in
theorem rm3 (l : Launch) (Z : State) (a0 : Array Value) (hw : ∀ d ∈ tables_1, d.before a0 Z = true) (hS : St Z) (ws : List Jvm.Cond) (r0 : Addr) (u : Addr) (h0 : Heap) (n0 : Nat) (O0 : Old Z n0 h0) (F_literals_r0 : Fld Z h0 r0 "com/example/menshen/menshen/policy/ConditionOperator" "literals" "Lcom/example/menshen/menshen/policy/ConditionOperator$Literals;" (.ref u)) :
    MetFree l (⟨"com/example/menshen/menshen/policy/ConditionOperator", "literals", "()Lcom/example/menshen/menshen/policy/ConditionOperator$Literals;"⟩ : MethodName) (head1 (Jvm.Cond.code (⟨"com/example/menshen/menshen/policy/ConditionOperator", "literals", "()Lcom/example/menshen/menshen/policy/ConditionOperator$Literals;"⟩ : MethodName) prog_22_method_8_code 1 (some (.object "com/example/menshen/menshen/policy/ConditionOperator$Literals")) :: ws) ({ frames := 0, cells := 0, slots := 0, locals := 0 } : Room)) (fun a U => a = #[(.ref r0)] ∧ Z.Warmed39 U.vm ∧ U.heap = h0) (fun _ _ _ _ _ => True) (fun _ U o U' => ∃ v L, o = .returned v ∧ own_Q (fun v hE L => v = some (.ref (fn3 Z r0 u)) ∧ Fr n0 L ∧ Keep h0 hE []) v U'.heap L ∧ FrameEnd U o U' L ({ frames := 0, cells := 0, slots := 0, locals := 0 } : Room).cells ({ frames := 0, cells := 0, slots := 0, locals := 0 } : Room).slots) := by
  refine MetFree.of_bodySF (plainFor_of_name pn_0) hisR ?_
  intro p e s m args below meth c s₁ Bd hml0 hP hK
  obtain ⟨rfl, hZ, hh⟩ := hP
  have hx := Bd.exec
  have hby := Bd.bytes
  have hml : c.maxLocals = 1 := hml0
  have hown : s.vm.findClass "com/example/menshen/menshen/policy/ConditionOperator" = some m.cls := findClass_of_methodNamed Bd.named
  have hnm := (name_of_methodNamed Bd.named Bd.method).1
  have X0 : Stand p l e ({ frames := 0, cells := 0, slots := 0, locals := 0 } : Room) s m #[(.ref r0)] below meth c s₁ [] 0 0 := Stand.of_body Bd
  have e0 : s₁.heap = h0 := by rw [← hh, Bd.state]; rfl
  have N0 := Fr.nil n0
  have pre0 : ∀ t, Steps p.tables e below (s₁.setTop (mkF m 0 #[oR r0] [])) t → Steps p.tables e below (s₁.setTop (entryFrame m #[(.ref r0)] 1)) t := fun t k => castTop (ef_3 m r0) k
  obtain ⟨T6, X6, e6, st6⟩ := getF X0 hx hZ hown (host := "") (Or.inl (hw _ (List.mem_of_getElem? (i := 68) rfl))) Via.refl e0 F_literals_r0 (g := (mkF m 1 #[oR r0] [(.ref r0)])) rfl rfl (hb hby d3_1)
  obtain ⟨fs, hr, hrun, hended, hW, hsame⟩ := X6.leave (v := some (.ref u)) (fun h => by rw [Bd.returns] at h; cases h)
  refine ⟨_, _, pre0 _ ?_, hrun, hended, _, _, rfl, ?_, ⟨_, rfl⟩, hW, hsame.mono (by decide) (by decide)⟩
  · show oP p e below s₁ (mkF m 0 #[oR r0] []) _
    refine XS.aloadN X0.here hx rfl (hb hby d3_0) rfl rfl ?_
    show oP p e below s₁ (mkF m 1 #[oR r0] [(.ref r0)]) _
    refine st6 _ ?_
    show oP p e below T6 (mkF m 4 #[oR r0] [(.ref u)]) _
    exact own_retA X6 hx Bd.returns rfl rfl (hb hby d3_4) hr
  · show (some (.ref u) : Option Value) = some (.ref (fn3 Z r0 u)) ∧ Fr n0 _ ∧ Keep h0 T6.heap []
    rw [e6]
    refine ⟨?_, N0, (Keep.refl h0 [])⟩
    rfl
theorem rng_rem23 (k : Int32) : ((k &&& (2147483647 : Int32)) - ((k &&& (2147483647 : Int32)) / (23 : Int32)) * (23 : Int32)) = (0 : Int32) ∨ ((k &&& (2147483647 : Int32)) - ((k &&& (2147483647 : Int32)) / (23 : Int32)) * (23 : Int32)) = (1 : Int32) ∨ ((k &&& (2147483647 : Int32)) - ((k &&& (2147483647 : Int32)) / (23 : Int32)) * (23 : Int32)) = (2 : Int32) ∨ ((k &&& (2147483647 : Int32)) - ((k &&& (2147483647 : Int32)) / (23 : Int32)) * (23 : Int32)) = (3 : Int32) ∨ ((k &&& (2147483647 : Int32)) - ((k &&& (2147483647 : Int32)) / (23 : Int32)) * (23 : Int32)) = (4 : Int32) ∨ ((k &&& (2147483647 : Int32)) - ((k &&& (2147483647 : Int32)) / (23 : Int32)) * (23 : Int32)) = (5 : Int32) ∨ ((k &&& (2147483647 : Int32)) - ((k &&& (2147483647 : Int32)) / (23 : Int32)) * (23 : Int32)) = (6 : Int32) ∨ ((k &&& (2147483647 : Int32)) - ((k &&& (2147483647 : Int32)) / (23 : Int32)) * (23 : Int32)) = (7 : Int32) ∨ ((k &&& (2147483647 : Int32)) - ((k &&& (2147483647 : Int32)) / (23 : Int32)) * (23 : Int32)) = (8 : Int32) ∨ ((k &&& (2147483647 : Int32)) - ((k &&& (2147483647 : Int32)) / (23 : Int32)) * (23 : Int32)) = (9 : Int32) ∨ ((k &&& (2147483647 : Int32)) - ((k &&& (2147483647 : Int32)) / (23 : Int32)) * (23 : Int32)) = (10 : Int32) ∨ ((k &&& (2147483647 : Int32)) - ((k &&& (2147483647 : Int32)) / (23 : Int32)) * (23 : Int32)) = (11 : Int32) ∨ ((k &&& (2147483647 : Int32)) - ((k &&& (2147483647 : Int32)) / (23 : Int32)) * (23 : Int32)) = (12 : Int32) ∨ ((k &&& (2147483647 : Int32)) - ((k &&& (2147483647 : Int32)) / (23 : Int32)) * (23 : Int32)) = (13 : Int32) ∨ ((k &&& (2147483647 : Int32)) - ((k &&& (2147483647 : Int32)) / (23 : Int32)) * (23 : Int32)) = (14 : Int32) ∨ ((k &&& (2147483647 : Int32)) - ((k &&& (2147483647 : Int32)) / (23 : Int32)) * (23 : Int32)) = (15 : Int32) ∨ ((k &&& (2147483647 : Int32)) - ((k &&& (2147483647 : Int32)) / (23 : Int32)) * (23 : Int32)) = (16 : Int32) ∨ ((k &&& (2147483647 : Int32)) - ((k &&& (2147483647 : Int32)) / (23 : Int32)) * (23 : Int32)) = (17 : Int32) ∨ ((k &&& (2147483647 : Int32)) - ((k &&& (2147483647 : Int32)) / (23 : Int32)) * (23 : Int32)) = (18 : Int32) ∨ ((k &&& (2147483647 : Int32)) - ((k &&& (2147483647 : Int32)) / (23 : Int32)) * (23 : Int32)) = (19 : Int32) ∨ ((k &&& (2147483647 : Int32)) - ((k &&& (2147483647 : Int32)) / (23 : Int32)) * (23 : Int32)) = (20 : Int32) ∨ ((k &&& (2147483647 : Int32)) - ((k &&& (2147483647 : Int32)) / (23 : Int32)) * (23 : Int32)) = (21 : Int32) ∨ ((k &&& (2147483647 : Int32)) - ((k &&& (2147483647 : Int32)) / (23 : Int32)) * (23 : Int32)) = (22 : Int32) := by
  have h := own_rem (own_and_le k 2147483647 (by decide)).1 (y := 23) (by decide)
  have h5 : (23 : Int32).toInt = 23 := by decide
  rw [h5] at h
  obtain ⟨j, hj, e⟩ := own_mem (n := 23) (i := ((k &&& (2147483647 : Int32)) - ((k &&& (2147483647 : Int32)) / (23 : Int32)) * (23 : Int32))) (by omega) (by omega)
  rw [e]
  have t : ∀ k : Fin 23, Int32.ofNat k.val = (0 : Int32) ∨ Int32.ofNat k.val = (1 : Int32) ∨ Int32.ofNat k.val = (2 : Int32) ∨ Int32.ofNat k.val = (3 : Int32) ∨ Int32.ofNat k.val = (4 : Int32) ∨ Int32.ofNat k.val = (5 : Int32) ∨ Int32.ofNat k.val = (6 : Int32) ∨ Int32.ofNat k.val = (7 : Int32) ∨ Int32.ofNat k.val = (8 : Int32) ∨ Int32.ofNat k.val = (9 : Int32) ∨ Int32.ofNat k.val = (10 : Int32) ∨ Int32.ofNat k.val = (11 : Int32) ∨ Int32.ofNat k.val = (12 : Int32) ∨ Int32.ofNat k.val = (13 : Int32) ∨ Int32.ofNat k.val = (14 : Int32) ∨ Int32.ofNat k.val = (15 : Int32) ∨ Int32.ofNat k.val = (16 : Int32) ∨ Int32.ofNat k.val = (17 : Int32) ∨ Int32.ofNat k.val = (18 : Int32) ∨ Int32.ofNat k.val = (19 : Int32) ∨ Int32.ofNat k.val = (20 : Int32) ∨ Int32.ofNat k.val = (21 : Int32) ∨ Int32.ofNat k.val = (22 : Int32) := by decide +kernel
  exact t ⟨j, hj⟩
theorem pd_0 : parseMethodDescriptor "()Lcom/example/menshen/menshen/policy/ConditionOperator;" = some ⟨[], some (.object "com/example/menshen/menshen/policy/ConditionOperator")⟩ := by decide +kernel
theorem pd_1 : parseMethodDescriptor "()Z" = some ⟨[], some .boolean⟩ := by decide +kernel
theorem pd_2 : parseMethodDescriptor "()Lcom/example/menshen/menshen/policy/ConditionOperator$Literals;" = some ⟨[], some (.object "com/example/menshen/menshen/policy/ConditionOperator$Literals")⟩ := by decide +kernel
theorem ef_0 (m : MethodId) (x0 : Int32) : entryFrame m #[(.int x0)] maxLocals = mkF m 0 #[.val (.int x0), .unset, .unset, .unset, .unset, .unset] [] := by first | (simp [entryFrame, mkF, argsToLocals, Value.category, maxLocals]; done) | rfl
theorem pn_1 : plainName "com/example/menshen/menshen/policy/ConditionOperatorPositivePinLaw" = true := by first | (simp [plainName, overriddenIn]; done) | decide +kernel
set_option maxRecDepth 65536 in
set_option maxHeartbeats 40000000 in
theorem rm0 (l : Launch) (Z : State) (a0 : Array Value) (hw : ∀ d ∈ tables_1, d.before a0 Z = true) (hS : St Z) (ws : List Jvm.Cond) (p0 : Int32) (h0 : Heap) (n0 : Nat) (O0 : Old Z n0 h0) :
    MetFree l x (head1 (Jvm.Cond.code x code maxLocals ret :: ws) room_1) (fun a U => a = #[(.int p0)] ∧ Z.Warmed39 U.vm ∧ U.heap = h0) (fun _ _ _ _ _ => True) (fun _ U o U' => ∃ v L, o = .returned v ∧ own_Q (fun v hE L => v = some (.int (1 : Int32)) ∧ Fr n0 L ∧ Keep h0 hE []) v U'.heap L ∧ FrameEnd U o U' L room_1.cells room_1.slots) := by
  refine MetFree.of_bodySF (plainFor_of_name pn_1) hisR ?_
  intro p e s m args below meth c s₁ Bd hml0 hP hK
  obtain ⟨rfl, hZ, hh⟩ := hP
  have hx := Bd.exec
  have hby := Bd.bytes
  have hml : c.maxLocals = 6 := hml0
  have hown : s.vm.findClass "com/example/menshen/menshen/policy/ConditionOperatorPositivePinLaw" = some m.cls := findClass_of_methodNamed Bd.named
  have hnm := (name_of_methodNamed Bd.named Bd.method).1
  have X0 : Stand p l e room_1 s m #[(.int p0)] below meth c s₁ [] 0 0 := Stand.of_body Bd
  have e0 : s₁.heap = h0 := by rw [← hh, Bd.state]; rfl
  have N0 := Fr.nil n0
  have pre0 : ∀ t, Steps p.tables e below (s₁.setTop (mkF m 0 #[oI p0, oU, oU, oU, oU, oU] [])) t → Steps p.tables e below (s₁.setTop (entryFrame m #[(.int p0)] maxLocals)) t := fun t k => castTop (ef_0 m p0) k
  obtain ⟨T7, h7, k7, X7, e7, E7, A7, Ov7, st7⟩ := newR X0 hx hZ hown (hw _ (List.mem_of_getElem? (i := 0) rfl)) (hw _ (List.mem_of_getElem? (i := 1) rfl)) e0 (g := (mkF m 2 #[oI p0, oU, oU, oU, oU, oU] [(.int (23 : Int32))])) rfl (hb hby at_2) rfl (by decide) (cap := 23) (by decide) (by decide) (by decide) (by decide)
  obtain ⟨b7, g7⟩ : ∃ z, z = h0.size := ⟨_, rfl⟩
  have g_b7 : n0 ≤ b7 := Nat.le_trans (own_old_le O0) (Nat.le_of_eq g7.symm)
  have sz_b7 : h0.size ≤ b7 := Nat.le_trans (Keep.refl h0 []).1 (Nat.le_of_eq g7.symm)
  rw [← g7] at A7 st7
  have O7 := O0.ext E7
  have Kc7 := (Keep.refl h0 []).ext E7
  have V7 : Arv Z h7 b7 k7 (.object "com/example/menshen/menshen/policy/ConditionOperator") (23 : Int32) [.null, .null, .null, .null, .null, .null, .null, .null, .null, .null, .null, .null, .null, .null, .null, .null, .null, .null, .null, .null, .null, .null, .null] .null := (Arv.new A7 (by decide)).pad (pad_rep [] .null 23)
  obtain ⟨T8, X8, e8, st8⟩ := getS2 X7 hx hZ hown (host := "") (Or.inl (hw _ (List.mem_of_getElem? (i := 2) rfl))) Via.refl e7 ((s_a_STRING_EQUALS hS).ext O7.2) (g := (mkF m 7 #[oI p0, oU, oU, oU, oU, oU] [(.int (0 : Int32)), (.ref b7), (.ref b7)])) rfl (hb hby at_7)
  obtain ⟨T9, h9, X9, e9, W9, V9', st9⟩ := own_stR X8 hx hZ e8 V7 Ov7 (Ins.of_exa ((e_a_STRING_EQUALS hS).ext O7.2) (hw _ (List.mem_of_getElem? (i := 5) rfl))) (j := (0 : Int32)) ⟨by decide, by decide⟩ rfl (by decide : ((0 : Int32) : Int32).toNatClampNeg < 23) (g := (mkF m 10 #[oI p0, oU, oU, oU, oU, oU] [(.ref (a_STRING_EQUALS Z)), (.int (0 : Int32)), (.ref b7), (.ref b7)])) rfl rfl (hb hby at_10)
  have N9 := Fr.snoc X9 N0 g_b7
  have O9 := O7.wr W9 g_b7
  have Kc9 := Kc7.wr W9 (Or.inr sz_b7)
  have V9 : Arv Z h9 b7 k7 (.object "com/example/menshen/menshen/policy/ConditionOperator") (23 : Int32) [(.ref (a_STRING_EQUALS Z)), .null, .null, .null, .null, .null, .null, .null, .null, .null, .null, .null, .null, .null, .null, .null, .null, .null, .null, .null, .null, .null, .null] .null := V9'
  obtain ⟨T10, X10, e10, st10⟩ := getS2 X9 hx hZ hown (host := "") (Or.inl (hw _ (List.mem_of_getElem? (i := 6) rfl))) Via.refl e9 ((s_a_STRING_NOT_EQUALS hS).ext O9.2) (g := (mkF m 13 #[oI p0, oU, oU, oU, oU, oU] [(.int (1 : Int32)), (.ref b7), (.ref b7)])) rfl (hb hby at_13)
  obtain ⟨T11, h11, X11, e11, W11, V11', st11⟩ := own_stR X10 hx hZ e10 V9 Ov7 (Ins.of_exa ((e_a_STRING_NOT_EQUALS hS).ext O9.2) (hw _ (List.mem_of_getElem? (i := 5) rfl))) (j := (1 : Int32)) ⟨by decide, by decide⟩ rfl (by decide : ((1 : Int32) : Int32).toNatClampNeg < 23) (g := (mkF m 16 #[oI p0, oU, oU, oU, oU, oU] [(.ref (a_STRING_NOT_EQUALS Z)), (.int (1 : Int32)), (.ref b7), (.ref b7)])) rfl rfl (hb hby at_16)
  have N11 := Fr.snoc X11 N9 g_b7
  have O11 := O9.wr W11 g_b7
  have Kc11 := Kc9.wr W11 (Or.inr sz_b7)
  have V11 : Arv Z h11 b7 k7 (.object "com/example/menshen/menshen/policy/ConditionOperator") (23 : Int32) [(.ref (a_STRING_EQUALS Z)), (.ref (a_STRING_NOT_EQUALS Z)), .null, .null, .null, .null, .null, .null, .null, .null, .null, .null, .null, .null, .null, .null, .null, .null, .null, .null, .null, .null, .null] .null := V11'
  obtain ⟨T12, X12, e12, st12⟩ := getS2 X11 hx hZ hown (host := "") (Or.inl (hw _ (List.mem_of_getElem? (i := 8) rfl))) Via.refl e11 ((s_a_NOT_STRING_EQUALS hS).ext O11.2) (g := (mkF m 19 #[oI p0, oU, oU, oU, oU, oU] [(.int (2 : Int32)), (.ref b7), (.ref b7)])) rfl (hb hby at_19)
  obtain ⟨T13, h13, X13, e13, W13, V13', st13⟩ := own_stR X12 hx hZ e12 V11 Ov7 (Ins.of_exa ((e_a_NOT_STRING_EQUALS hS).ext O11.2) (hw _ (List.mem_of_getElem? (i := 5) rfl))) (j := (2 : Int32)) ⟨by decide, by decide⟩ rfl (by decide : ((2 : Int32) : Int32).toNatClampNeg < 23) (g := (mkF m 22 #[oI p0, oU, oU, oU, oU, oU] [(.ref (a_NOT_STRING_EQUALS Z)), (.int (2 : Int32)), (.ref b7), (.ref b7)])) rfl rfl (hb hby at_22)
  have N13 := Fr.snoc X13 N11 g_b7
  have O13 := O11.wr W13 g_b7
  have Kc13 := Kc11.wr W13 (Or.inr sz_b7)
  have V13 : Arv Z h13 b7 k7 (.object "com/example/menshen/menshen/policy/ConditionOperator") (23 : Int32) [(.ref (a_STRING_EQUALS Z)), (.ref (a_STRING_NOT_EQUALS Z)), (.ref (a_NOT_STRING_EQUALS Z)), .null, .null, .null, .null, .null, .null, .null, .null, .null, .null, .null, .null, .null, .null, .null, .null, .null, .null, .null, .null] .null := V13'
  obtain ⟨T14, X14, e14, st14⟩ := getS2 X13 hx hZ hown (host := "") (Or.inl (hw _ (List.mem_of_getElem? (i := 10) rfl))) Via.refl e13 ((s_a_STRING_EQUALS_IGNORE_CASE hS).ext O13.2) (g := (mkF m 25 #[oI p0, oU, oU, oU, oU, oU] [(.int (3 : Int32)), (.ref b7), (.ref b7)])) rfl (hb hby at_25)
  obtain ⟨T15, h15, X15, e15, W15, V15', st15⟩ := own_stR X14 hx hZ e14 V13 Ov7 (Ins.of_exa ((e_a_STRING_EQUALS_IGNORE_CASE hS).ext O13.2) (hw _ (List.mem_of_getElem? (i := 5) rfl))) (j := (3 : Int32)) ⟨by decide, by decide⟩ rfl (by decide : ((3 : Int32) : Int32).toNatClampNeg < 23) (g := (mkF m 28 #[oI p0, oU, oU, oU, oU, oU] [(.ref (a_STRING_EQUALS_IGNORE_CASE Z)), (.int (3 : Int32)), (.ref b7), (.ref b7)])) rfl rfl (hb hby at_28)
  have N15 := Fr.snoc X15 N13 g_b7
  have O15 := O13.wr W15 g_b7
  have Kc15 := Kc13.wr W15 (Or.inr sz_b7)
  have V15 : Arv Z h15 b7 k7 (.object "com/example/menshen/menshen/policy/ConditionOperator") (23 : Int32) [(.ref (a_STRING_EQUALS Z)), (.ref (a_STRING_NOT_EQUALS Z)), (.ref (a_NOT_STRING_EQUALS Z)), (.ref (a_STRING_EQUALS_IGNORE_CASE Z)), .null, .null, .null, .null, .null, .null, .null, .null, .null, .null, .null, .null, .null, .null, .null, .null, .null, .null, .null] .null := V15'
  obtain ⟨T16, X16, e16, st16⟩ := getS2 X15 hx hZ hown (host := "") (Or.inl (hw _ (List.mem_of_getElem? (i := 12) rfl))) Via.refl e15 ((s_a_STRING_NOT_EQUALS_IGNORE_CASE hS).ext O15.2) (g := (mkF m 31 #[oI p0, oU, oU, oU, oU, oU] [(.int (4 : Int32)), (.ref b7), (.ref b7)])) rfl (hb hby at_31)
  obtain ⟨T17, h17, X17, e17, W17, V17', st17⟩ := own_stR X16 hx hZ e16 V15 Ov7 (Ins.of_exa ((e_a_STRING_NOT_EQUALS_IGNORE_CASE hS).ext O15.2) (hw _ (List.mem_of_getElem? (i := 5) rfl))) (j := (4 : Int32)) ⟨by decide, by decide⟩ rfl (by decide : ((4 : Int32) : Int32).toNatClampNeg < 23) (g := (mkF m 34 #[oI p0, oU, oU, oU, oU, oU] [(.ref (a_STRING_NOT_EQUALS_IGNORE_CASE Z)), (.int (4 : Int32)), (.ref b7), (.ref b7)])) rfl rfl (hb hby at_34)
  have N17 := Fr.snoc X17 N15 g_b7
  have O17 := O15.wr W17 g_b7
  have Kc17 := Kc15.wr W17 (Or.inr sz_b7)
  have V17 : Arv Z h17 b7 k7 (.object "com/example/menshen/menshen/policy/ConditionOperator") (23 : Int32) [(.ref (a_STRING_EQUALS Z)), (.ref (a_STRING_NOT_EQUALS Z)), (.ref (a_NOT_STRING_EQUALS Z)), (.ref (a_STRING_EQUALS_IGNORE_CASE Z)), (.ref (a_STRING_NOT_EQUALS_IGNORE_CASE Z)), .null, .null, .null, .null, .null, .null, .null, .null, .null, .null, .null, .null, .null, .null, .null, .null, .null, .null] .null := V17'
  obtain ⟨T18, X18, e18, st18⟩ := getS2 X17 hx hZ hown (host := "") (Or.inl (hw _ (List.mem_of_getElem? (i := 14) rfl))) Via.refl e17 ((s_a_STRING_LIKE hS).ext O17.2) (g := (mkF m 37 #[oI p0, oU, oU, oU, oU, oU] [(.int (5 : Int32)), (.ref b7), (.ref b7)])) rfl (hb hby at_37)
  obtain ⟨T19, h19, X19, e19, W19, V19', st19⟩ := own_stR X18 hx hZ e18 V17 Ov7 (Ins.of_exa ((e_a_STRING_LIKE hS).ext O17.2) (hw _ (List.mem_of_getElem? (i := 5) rfl))) (j := (5 : Int32)) ⟨by decide, by decide⟩ rfl (by decide : ((5 : Int32) : Int32).toNatClampNeg < 23) (g := (mkF m 40 #[oI p0, oU, oU, oU, oU, oU] [(.ref (a_STRING_LIKE Z)), (.int (5 : Int32)), (.ref b7), (.ref b7)])) rfl rfl (hb hby at_40)
  have N19 := Fr.snoc X19 N17 g_b7
  have O19 := O17.wr W19 g_b7
  have Kc19 := Kc17.wr W19 (Or.inr sz_b7)
  have V19 : Arv Z h19 b7 k7 (.object "com/example/menshen/menshen/policy/ConditionOperator") (23 : Int32) [(.ref (a_STRING_EQUALS Z)), (.ref (a_STRING_NOT_EQUALS Z)), (.ref (a_NOT_STRING_EQUALS Z)), (.ref (a_STRING_EQUALS_IGNORE_CASE Z)), (.ref (a_STRING_NOT_EQUALS_IGNORE_CASE Z)), (.ref (a_STRING_LIKE Z)), .null, .null, .null, .null, .null, .null, .null, .null, .null, .null, .null, .null, .null, .null, .null, .null, .null] .null := V19'
  obtain ⟨T20, X20, e20, st20⟩ := getS2 X19 hx hZ hown (host := "") (Or.inl (hw _ (List.mem_of_getElem? (i := 16) rfl))) Via.refl e19 ((s_a_STRING_NOT_LIKE hS).ext O19.2) (g := (mkF m 44 #[oI p0, oU, oU, oU, oU, oU] [(.int (6 : Int32)), (.ref b7), (.ref b7)])) rfl (hb hby at_44)
  obtain ⟨T21, h21, X21, e21, W21, V21', st21⟩ := own_stR X20 hx hZ e20 V19 Ov7 (Ins.of_exa ((e_a_STRING_NOT_LIKE hS).ext O19.2) (hw _ (List.mem_of_getElem? (i := 5) rfl))) (j := (6 : Int32)) ⟨by decide, by decide⟩ rfl (by decide : ((6 : Int32) : Int32).toNatClampNeg < 23) (g := (mkF m 47 #[oI p0, oU, oU, oU, oU, oU] [(.ref (a_STRING_NOT_LIKE Z)), (.int (6 : Int32)), (.ref b7), (.ref b7)])) rfl rfl (hb hby at_47)
  have N21 := Fr.snoc X21 N19 g_b7
  have O21 := O19.wr W21 g_b7
  have Kc21 := Kc19.wr W21 (Or.inr sz_b7)
  have V21 : Arv Z h21 b7 k7 (.object "com/example/menshen/menshen/policy/ConditionOperator") (23 : Int32) [(.ref (a_STRING_EQUALS Z)), (.ref (a_STRING_NOT_EQUALS Z)), (.ref (a_NOT_STRING_EQUALS Z)), (.ref (a_STRING_EQUALS_IGNORE_CASE Z)), (.ref (a_STRING_NOT_EQUALS_IGNORE_CASE Z)), (.ref (a_STRING_LIKE Z)), (.ref (a_STRING_NOT_LIKE Z)), .null, .null, .null, .null, .null, .null, .null, .null, .null, .null, .null, .null, .null, .null, .null, .null] .null := V21'
  obtain ⟨T22, X22, e22, st22⟩ := getS2 X21 hx hZ hown (host := "") (Or.inl (hw _ (List.mem_of_getElem? (i := 18) rfl))) Via.refl e21 ((s_a_IP_ADDRESS hS).ext O21.2) (g := (mkF m 51 #[oI p0, oU, oU, oU, oU, oU] [(.int (7 : Int32)), (.ref b7), (.ref b7)])) rfl (hb hby at_51)
  obtain ⟨T23, h23, X23, e23, W23, V23', st23⟩ := own_stR X22 hx hZ e22 V21 Ov7 (Ins.of_exa ((e_a_IP_ADDRESS hS).ext O21.2) (hw _ (List.mem_of_getElem? (i := 5) rfl))) (j := (7 : Int32)) ⟨by decide, by decide⟩ rfl (by decide : ((7 : Int32) : Int32).toNatClampNeg < 23) (g := (mkF m 54 #[oI p0, oU, oU, oU, oU, oU] [(.ref (a_IP_ADDRESS Z)), (.int (7 : Int32)), (.ref b7), (.ref b7)])) rfl rfl (hb hby at_54)
  have N23 := Fr.snoc X23 N21 g_b7
  have O23 := O21.wr W23 g_b7
  have Kc23 := Kc21.wr W23 (Or.inr sz_b7)
  have V23 : Arv Z h23 b7 k7 (.object "com/example/menshen/menshen/policy/ConditionOperator") (23 : Int32) [(.ref (a_STRING_EQUALS Z)), (.ref (a_STRING_NOT_EQUALS Z)), (.ref (a_NOT_STRING_EQUALS Z)), (.ref (a_STRING_EQUALS_IGNORE_CASE Z)), (.ref (a_STRING_NOT_EQUALS_IGNORE_CASE Z)), (.ref (a_STRING_LIKE Z)), (.ref (a_STRING_NOT_LIKE Z)), (.ref (a_IP_ADDRESS Z)), .null, .null, .null, .null, .null, .null, .null, .null, .null, .null, .null, .null, .null, .null, .null] .null := V23'
  obtain ⟨T24, X24, e24, st24⟩ := getS2 X23 hx hZ hown (host := "") (Or.inl (hw _ (List.mem_of_getElem? (i := 20) rfl))) Via.refl e23 ((s_a_NOT_IP_ADDRESS hS).ext O23.2) (g := (mkF m 58 #[oI p0, oU, oU, oU, oU, oU] [(.int (8 : Int32)), (.ref b7), (.ref b7)])) rfl (hb hby at_58)
  obtain ⟨T25, h25, X25, e25, W25, V25', st25⟩ := own_stR X24 hx hZ e24 V23 Ov7 (Ins.of_exa ((e_a_NOT_IP_ADDRESS hS).ext O23.2) (hw _ (List.mem_of_getElem? (i := 5) rfl))) (j := (8 : Int32)) ⟨by decide, by decide⟩ rfl (by decide : ((8 : Int32) : Int32).toNatClampNeg < 23) (g := (mkF m 61 #[oI p0, oU, oU, oU, oU, oU] [(.ref (a_NOT_IP_ADDRESS Z)), (.int (8 : Int32)), (.ref b7), (.ref b7)])) rfl rfl (hb hby at_61)
  have N25 := Fr.snoc X25 N23 g_b7
  have O25 := O23.wr W25 g_b7
  have Kc25 := Kc23.wr W25 (Or.inr sz_b7)
  have V25 : Arv Z h25 b7 k7 (.object "com/example/menshen/menshen/policy/ConditionOperator") (23 : Int32) [(.ref (a_STRING_EQUALS Z)), (.ref (a_STRING_NOT_EQUALS Z)), (.ref (a_NOT_STRING_EQUALS Z)), (.ref (a_STRING_EQUALS_IGNORE_CASE Z)), (.ref (a_STRING_NOT_EQUALS_IGNORE_CASE Z)), (.ref (a_STRING_LIKE Z)), (.ref (a_STRING_NOT_LIKE Z)), (.ref (a_IP_ADDRESS Z)), (.ref (a_NOT_IP_ADDRESS Z)), .null, .null, .null, .null, .null, .null, .null, .null, .null, .null, .null, .null, .null, .null] .null := V25'
  obtain ⟨T26, X26, e26, st26⟩ := getS2 X25 hx hZ hown (host := "") (Or.inl (hw _ (List.mem_of_getElem? (i := 22) rfl))) Via.refl e25 ((s_a_NUMERIC_EQUALS hS).ext O25.2) (g := (mkF m 65 #[oI p0, oU, oU, oU, oU, oU] [(.int (9 : Int32)), (.ref b7), (.ref b7)])) rfl (hb hby at_65)
  obtain ⟨T27, h27, X27, e27, W27, V27', st27⟩ := own_stR X26 hx hZ e26 V25 Ov7 (Ins.of_exa ((e_a_NUMERIC_EQUALS hS).ext O25.2) (hw _ (List.mem_of_getElem? (i := 5) rfl))) (j := (9 : Int32)) ⟨by decide, by decide⟩ rfl (by decide : ((9 : Int32) : Int32).toNatClampNeg < 23) (g := (mkF m 68 #[oI p0, oU, oU, oU, oU, oU] [(.ref (a_NUMERIC_EQUALS Z)), (.int (9 : Int32)), (.ref b7), (.ref b7)])) rfl rfl (hb hby at_68)
  have N27 := Fr.snoc X27 N25 g_b7
  have O27 := O25.wr W27 g_b7
  have Kc27 := Kc25.wr W27 (Or.inr sz_b7)
  have V27 : Arv Z h27 b7 k7 (.object "com/example/menshen/menshen/policy/ConditionOperator") (23 : Int32) [(.ref (a_STRING_EQUALS Z)), (.ref (a_STRING_NOT_EQUALS Z)), (.ref (a_NOT_STRING_EQUALS Z)), (.ref (a_STRING_EQUALS_IGNORE_CASE Z)), (.ref (a_STRING_NOT_EQUALS_IGNORE_CASE Z)), (.ref (a_STRING_LIKE Z)), (.ref (a_STRING_NOT_LIKE Z)), (.ref (a_IP_ADDRESS Z)), (.ref (a_NOT_IP_ADDRESS Z)), (.ref (a_NUMERIC_EQUALS Z)), .null, .null, .null, .null, .null, .null, .null, .null, .null, .null, .null, .null, .null] .null := V27'
  obtain ⟨T28, X28, e28, st28⟩ := getS2 X27 hx hZ hown (host := "") (Or.inl (hw _ (List.mem_of_getElem? (i := 24) rfl))) Via.refl e27 ((s_a_NUMERIC_NOT_EQUALS hS).ext O27.2) (g := (mkF m 72 #[oI p0, oU, oU, oU, oU, oU] [(.int (10 : Int32)), (.ref b7), (.ref b7)])) rfl (hb hby at_72)
  obtain ⟨T29, h29, X29, e29, W29, V29', st29⟩ := own_stR X28 hx hZ e28 V27 Ov7 (Ins.of_exa ((e_a_NUMERIC_NOT_EQUALS hS).ext O27.2) (hw _ (List.mem_of_getElem? (i := 5) rfl))) (j := (10 : Int32)) ⟨by decide, by decide⟩ rfl (by decide : ((10 : Int32) : Int32).toNatClampNeg < 23) (g := (mkF m 75 #[oI p0, oU, oU, oU, oU, oU] [(.ref (a_NUMERIC_NOT_EQUALS Z)), (.int (10 : Int32)), (.ref b7), (.ref b7)])) rfl rfl (hb hby at_75)
  have N29 := Fr.snoc X29 N27 g_b7
  have O29 := O27.wr W29 g_b7
  have Kc29 := Kc27.wr W29 (Or.inr sz_b7)
  have V29 : Arv Z h29 b7 k7 (.object "com/example/menshen/menshen/policy/ConditionOperator") (23 : Int32) [(.ref (a_STRING_EQUALS Z)), (.ref (a_STRING_NOT_EQUALS Z)), (.ref (a_NOT_STRING_EQUALS Z)), (.ref (a_STRING_EQUALS_IGNORE_CASE Z)), (.ref (a_STRING_NOT_EQUALS_IGNORE_CASE Z)), (.ref (a_STRING_LIKE Z)), (.ref (a_STRING_NOT_LIKE Z)), (.ref (a_IP_ADDRESS Z)), (.ref (a_NOT_IP_ADDRESS Z)), (.ref (a_NUMERIC_EQUALS Z)), (.ref (a_NUMERIC_NOT_EQUALS Z)), .null, .null, .null, .null, .null, .null, .null, .null, .null, .null, .null, .null] .null := V29'
  obtain ⟨T30, X30, e30, st30⟩ := getS2 X29 hx hZ hown (host := "") (Or.inl (hw _ (List.mem_of_getElem? (i := 26) rfl))) Via.refl e29 ((s_a_NUMERIC_LESS_THAN hS).ext O29.2) (g := (mkF m 79 #[oI p0, oU, oU, oU, oU, oU] [(.int (11 : Int32)), (.ref b7), (.ref b7)])) rfl (hb hby at_79)
  obtain ⟨T31, h31, X31, e31, W31, V31', st31⟩ := own_stR X30 hx hZ e30 V29 Ov7 (Ins.of_exa ((e_a_NUMERIC_LESS_THAN hS).ext O29.2) (hw _ (List.mem_of_getElem? (i := 5) rfl))) (j := (11 : Int32)) ⟨by decide, by decide⟩ rfl (by decide : ((11 : Int32) : Int32).toNatClampNeg < 23) (g := (mkF m 82 #[oI p0, oU, oU, oU, oU, oU] [(.ref (a_NUMERIC_LESS_THAN Z)), (.int (11 : Int32)), (.ref b7), (.ref b7)])) rfl rfl (hb hby at_82)
  have N31 := Fr.snoc X31 N29 g_b7
  have O31 := O29.wr W31 g_b7
  have Kc31 := Kc29.wr W31 (Or.inr sz_b7)
  have V31 : Arv Z h31 b7 k7 (.object "com/example/menshen/menshen/policy/ConditionOperator") (23 : Int32) [(.ref (a_STRING_EQUALS Z)), (.ref (a_STRING_NOT_EQUALS Z)), (.ref (a_NOT_STRING_EQUALS Z)), (.ref (a_STRING_EQUALS_IGNORE_CASE Z)), (.ref (a_STRING_NOT_EQUALS_IGNORE_CASE Z)), (.ref (a_STRING_LIKE Z)), (.ref (a_STRING_NOT_LIKE Z)), (.ref (a_IP_ADDRESS Z)), (.ref (a_NOT_IP_ADDRESS Z)), (.ref (a_NUMERIC_EQUALS Z)), (.ref (a_NUMERIC_NOT_EQUALS Z)), (.ref (a_NUMERIC_LESS_THAN Z)), .null, .null, .null, .null, .null, .null, .null, .null, .null, .null, .null] .null := V31'
  obtain ⟨T32, X32, e32, st32⟩ := getS2 X31 hx hZ hown (host := "") (Or.inl (hw _ (List.mem_of_getElem? (i := 28) rfl))) Via.refl e31 ((s_a_NUMERIC_LESS_THAN_EQUALS hS).ext O31.2) (g := (mkF m 86 #[oI p0, oU, oU, oU, oU, oU] [(.int (12 : Int32)), (.ref b7), (.ref b7)])) rfl (hb hby at_86)
  obtain ⟨T33, h33, X33, e33, W33, V33', st33⟩ := own_stR X32 hx hZ e32 V31 Ov7 (Ins.of_exa ((e_a_NUMERIC_LESS_THAN_EQUALS hS).ext O31.2) (hw _ (List.mem_of_getElem? (i := 5) rfl))) (j := (12 : Int32)) ⟨by decide, by decide⟩ rfl (by decide : ((12 : Int32) : Int32).toNatClampNeg < 23) (g := (mkF m 89 #[oI p0, oU, oU, oU, oU, oU] [(.ref (a_NUMERIC_LESS_THAN_EQUALS Z)), (.int (12 : Int32)), (.ref b7), (.ref b7)])) rfl rfl (hb hby at_89)
  have N33 := Fr.snoc X33 N31 g_b7
  have O33 := O31.wr W33 g_b7
  have Kc33 := Kc31.wr W33 (Or.inr sz_b7)
  have V33 : Arv Z h33 b7 k7 (.object "com/example/menshen/menshen/policy/ConditionOperator") (23 : Int32) [(.ref (a_STRING_EQUALS Z)), (.ref (a_STRING_NOT_EQUALS Z)), (.ref (a_NOT_STRING_EQUALS Z)), (.ref (a_STRING_EQUALS_IGNORE_CASE Z)), (.ref (a_STRING_NOT_EQUALS_IGNORE_CASE Z)), (.ref (a_STRING_LIKE Z)), (.ref (a_STRING_NOT_LIKE Z)), (.ref (a_IP_ADDRESS Z)), (.ref (a_NOT_IP_ADDRESS Z)), (.ref (a_NUMERIC_EQUALS Z)), (.ref (a_NUMERIC_NOT_EQUALS Z)), (.ref (a_NUMERIC_LESS_THAN Z)), (.ref (a_NUMERIC_LESS_THAN_EQUALS Z)), .null, .null, .null, .null, .null, .null, .null, .null, .null, .null] .null := V33'
  obtain ⟨T34, X34, e34, st34⟩ := getS2 X33 hx hZ hown (host := "") (Or.inl (hw _ (List.mem_of_getElem? (i := 30) rfl))) Via.refl e33 ((s_a_NUMERIC_GREATER_THAN hS).ext O33.2) (g := (mkF m 93 #[oI p0, oU, oU, oU, oU, oU] [(.int (13 : Int32)), (.ref b7), (.ref b7)])) rfl (hb hby at_93)
  obtain ⟨T35, h35, X35, e35, W35, V35', st35⟩ := own_stR X34 hx hZ e34 V33 Ov7 (Ins.of_exa ((e_a_NUMERIC_GREATER_THAN hS).ext O33.2) (hw _ (List.mem_of_getElem? (i := 5) rfl))) (j := (13 : Int32)) ⟨by decide, by decide⟩ rfl (by decide : ((13 : Int32) : Int32).toNatClampNeg < 23) (g := (mkF m 96 #[oI p0, oU, oU, oU, oU, oU] [(.ref (a_NUMERIC_GREATER_THAN Z)), (.int (13 : Int32)), (.ref b7), (.ref b7)])) rfl rfl (hb hby at_96)
  have N35 := Fr.snoc X35 N33 g_b7
  have O35 := O33.wr W35 g_b7
  have Kc35 := Kc33.wr W35 (Or.inr sz_b7)
  have V35 : Arv Z h35 b7 k7 (.object "com/example/menshen/menshen/policy/ConditionOperator") (23 : Int32) [(.ref (a_STRING_EQUALS Z)), (.ref (a_STRING_NOT_EQUALS Z)), (.ref (a_NOT_STRING_EQUALS Z)), (.ref (a_STRING_EQUALS_IGNORE_CASE Z)), (.ref (a_STRING_NOT_EQUALS_IGNORE_CASE Z)), (.ref (a_STRING_LIKE Z)), (.ref (a_STRING_NOT_LIKE Z)), (.ref (a_IP_ADDRESS Z)), (.ref (a_NOT_IP_ADDRESS Z)), (.ref (a_NUMERIC_EQUALS Z)), (.ref (a_NUMERIC_NOT_EQUALS Z)), (.ref (a_NUMERIC_LESS_THAN Z)), (.ref (a_NUMERIC_LESS_THAN_EQUALS Z)), (.ref (a_NUMERIC_GREATER_THAN Z)), .null, .null, .null, .null, .null, .null, .null, .null, .null] .null := V35'
  obtain ⟨T36, X36, e36, st36⟩ := getS2 X35 hx hZ hown (host := "") (Or.inl (hw _ (List.mem_of_getElem? (i := 32) rfl))) Via.refl e35 ((s_a_NUMERIC_GREATER_THAN_EQUALS hS).ext O35.2) (g := (mkF m 100 #[oI p0, oU, oU, oU, oU, oU] [(.int (14 : Int32)), (.ref b7), (.ref b7)])) rfl (hb hby at_100)
  obtain ⟨T37, h37, X37, e37, W37, V37', st37⟩ := own_stR X36 hx hZ e36 V35 Ov7 (Ins.of_exa ((e_a_NUMERIC_GREATER_THAN_EQUALS hS).ext O35.2) (hw _ (List.mem_of_getElem? (i := 5) rfl))) (j := (14 : Int32)) ⟨by decide, by decide⟩ rfl (by decide : ((14 : Int32) : Int32).toNatClampNeg < 23) (g := (mkF m 103 #[oI p0, oU, oU, oU, oU, oU] [(.ref (a_NUMERIC_GREATER_THAN_EQUALS Z)), (.int (14 : Int32)), (.ref b7), (.ref b7)])) rfl rfl (hb hby at_103)
  have N37 := Fr.snoc X37 N35 g_b7
  have O37 := O35.wr W37 g_b7
  have Kc37 := Kc35.wr W37 (Or.inr sz_b7)
  have V37 : Arv Z h37 b7 k7 (.object "com/example/menshen/menshen/policy/ConditionOperator") (23 : Int32) [(.ref (a_STRING_EQUALS Z)), (.ref (a_STRING_NOT_EQUALS Z)), (.ref (a_NOT_STRING_EQUALS Z)), (.ref (a_STRING_EQUALS_IGNORE_CASE Z)), (.ref (a_STRING_NOT_EQUALS_IGNORE_CASE Z)), (.ref (a_STRING_LIKE Z)), (.ref (a_STRING_NOT_LIKE Z)), (.ref (a_IP_ADDRESS Z)), (.ref (a_NOT_IP_ADDRESS Z)), (.ref (a_NUMERIC_EQUALS Z)), (.ref (a_NUMERIC_NOT_EQUALS Z)), (.ref (a_NUMERIC_LESS_THAN Z)), (.ref (a_NUMERIC_LESS_THAN_EQUALS Z)), (.ref (a_NUMERIC_GREATER_THAN Z)), (.ref (a_NUMERIC_GREATER_THAN_EQUALS Z)), .null, .null, .null, .null, .null, .null, .null, .null] .null := V37'
  obtain ⟨T38, X38, e38, st38⟩ := getS2 X37 hx hZ hown (host := "") (Or.inl (hw _ (List.mem_of_getElem? (i := 34) rfl))) Via.refl e37 ((s_a_DATE_EQUALS hS).ext O37.2) (g := (mkF m 107 #[oI p0, oU, oU, oU, oU, oU] [(.int (15 : Int32)), (.ref b7), (.ref b7)])) rfl (hb hby at_107)
  obtain ⟨T39, h39, X39, e39, W39, V39', st39⟩ := own_stR X38 hx hZ e38 V37 Ov7 (Ins.of_exa ((e_a_DATE_EQUALS hS).ext O37.2) (hw _ (List.mem_of_getElem? (i := 5) rfl))) (j := (15 : Int32)) ⟨by decide, by decide⟩ rfl (by decide : ((15 : Int32) : Int32).toNatClampNeg < 23) (g := (mkF m 110 #[oI p0, oU, oU, oU, oU, oU] [(.ref (a_DATE_EQUALS Z)), (.int (15 : Int32)), (.ref b7), (.ref b7)])) rfl rfl (hb hby at_110)
  have N39 := Fr.snoc X39 N37 g_b7
  have O39 := O37.wr W39 g_b7
  have Kc39 := Kc37.wr W39 (Or.inr sz_b7)
  have V39 : Arv Z h39 b7 k7 (.object "com/example/menshen/menshen/policy/ConditionOperator") (23 : Int32) [(.ref (a_STRING_EQUALS Z)), (.ref (a_STRING_NOT_EQUALS Z)), (.ref (a_NOT_STRING_EQUALS Z)), (.ref (a_STRING_EQUALS_IGNORE_CASE Z)), (.ref (a_STRING_NOT_EQUALS_IGNORE_CASE Z)), (.ref (a_STRING_LIKE Z)), (.ref (a_STRING_NOT_LIKE Z)), (.ref (a_IP_ADDRESS Z)), (.ref (a_NOT_IP_ADDRESS Z)), (.ref (a_NUMERIC_EQUALS Z)), (.ref (a_NUMERIC_NOT_EQUALS Z)), (.ref (a_NUMERIC_LESS_THAN Z)), (.ref (a_NUMERIC_LESS_THAN_EQUALS Z)), (.ref (a_NUMERIC_GREATER_THAN Z)), (.ref (a_NUMERIC_GREATER_THAN_EQUALS Z)), (.ref (a_DATE_EQUALS Z)), .null, .null, .null, .null, .null, .null, .null] .null := V39'
  obtain ⟨T40, X40, e40, st40⟩ := getS2 X39 hx hZ hown (host := "") (Or.inl (hw _ (List.mem_of_getElem? (i := 36) rfl))) Via.refl e39 ((s_a_DATE_NOT_EQUALS hS).ext O39.2) (g := (mkF m 114 #[oI p0, oU, oU, oU, oU, oU] [(.int (16 : Int32)), (.ref b7), (.ref b7)])) rfl (hb hby at_114)
  obtain ⟨T41, h41, X41, e41, W41, V41', st41⟩ := own_stR X40 hx hZ e40 V39 Ov7 (Ins.of_exa ((e_a_DATE_NOT_EQUALS hS).ext O39.2) (hw _ (List.mem_of_getElem? (i := 5) rfl))) (j := (16 : Int32)) ⟨by decide, by decide⟩ rfl (by decide : ((16 : Int32) : Int32).toNatClampNeg < 23) (g := (mkF m 117 #[oI p0, oU, oU, oU, oU, oU] [(.ref (a_DATE_NOT_EQUALS Z)), (.int (16 : Int32)), (.ref b7), (.ref b7)])) rfl rfl (hb hby at_117)
  have N41 := Fr.snoc X41 N39 g_b7
  have O41 := O39.wr W41 g_b7
  have Kc41 := Kc39.wr W41 (Or.inr sz_b7)
  have V41 : Arv Z h41 b7 k7 (.object "com/example/menshen/menshen/policy/ConditionOperator") (23 : Int32) [(.ref (a_STRING_EQUALS Z)), (.ref (a_STRING_NOT_EQUALS Z)), (.ref (a_NOT_STRING_EQUALS Z)), (.ref (a_STRING_EQUALS_IGNORE_CASE Z)), (.ref (a_STRING_NOT_EQUALS_IGNORE_CASE Z)), (.ref (a_STRING_LIKE Z)), (.ref (a_STRING_NOT_LIKE Z)), (.ref (a_IP_ADDRESS Z)), (.ref (a_NOT_IP_ADDRESS Z)), (.ref (a_NUMERIC_EQUALS Z)), (.ref (a_NUMERIC_NOT_EQUALS Z)), (.ref (a_NUMERIC_LESS_THAN Z)), (.ref (a_NUMERIC_LESS_THAN_EQUALS Z)), (.ref (a_NUMERIC_GREATER_THAN Z)), (.ref (a_NUMERIC_GREATER_THAN_EQUALS Z)), (.ref (a_DATE_EQUALS Z)), (.ref (a_DATE_NOT_EQUALS Z)), .null, .null, .null, .null, .null, .null] .null := V41'
  obtain ⟨T42, X42, e42, st42⟩ := getS2 X41 hx hZ hown (host := "") (Or.inl (hw _ (List.mem_of_getElem? (i := 38) rfl))) Via.refl e41 ((s_a_DATE_LESS_THAN hS).ext O41.2) (g := (mkF m 121 #[oI p0, oU, oU, oU, oU, oU] [(.int (17 : Int32)), (.ref b7), (.ref b7)])) rfl (hb hby at_121)
  obtain ⟨T43, h43, X43, e43, W43, V43', st43⟩ := own_stR X42 hx hZ e42 V41 Ov7 (Ins.of_exa ((e_a_DATE_LESS_THAN hS).ext O41.2) (hw _ (List.mem_of_getElem? (i := 5) rfl))) (j := (17 : Int32)) ⟨by decide, by decide⟩ rfl (by decide : ((17 : Int32) : Int32).toNatClampNeg < 23) (g := (mkF m 124 #[oI p0, oU, oU, oU, oU, oU] [(.ref (a_DATE_LESS_THAN Z)), (.int (17 : Int32)), (.ref b7), (.ref b7)])) rfl rfl (hb hby at_124)
  have N43 := Fr.snoc X43 N41 g_b7
  have O43 := O41.wr W43 g_b7
  have Kc43 := Kc41.wr W43 (Or.inr sz_b7)
  have V43 : Arv Z h43 b7 k7 (.object "com/example/menshen/menshen/policy/ConditionOperator") (23 : Int32) [(.ref (a_STRING_EQUALS Z)), (.ref (a_STRING_NOT_EQUALS Z)), (.ref (a_NOT_STRING_EQUALS Z)), (.ref (a_STRING_EQUALS_IGNORE_CASE Z)), (.ref (a_STRING_NOT_EQUALS_IGNORE_CASE Z)), (.ref (a_STRING_LIKE Z)), (.ref (a_STRING_NOT_LIKE Z)), (.ref (a_IP_ADDRESS Z)), (.ref (a_NOT_IP_ADDRESS Z)), (.ref (a_NUMERIC_EQUALS Z)), (.ref (a_NUMERIC_NOT_EQUALS Z)), (.ref (a_NUMERIC_LESS_THAN Z)), (.ref (a_NUMERIC_LESS_THAN_EQUALS Z)), (.ref (a_NUMERIC_GREATER_THAN Z)), (.ref (a_NUMERIC_GREATER_THAN_EQUALS Z)), (.ref (a_DATE_EQUALS Z)), (.ref (a_DATE_NOT_EQUALS Z)), (.ref (a_DATE_LESS_THAN Z)), .null, .null, .null, .null, .null] .null := V43'
  obtain ⟨T44, X44, e44, st44⟩ := getS2 X43 hx hZ hown (host := "") (Or.inl (hw _ (List.mem_of_getElem? (i := 40) rfl))) Via.refl e43 ((s_a_DATE_LESS_THAN_EQUALS hS).ext O43.2) (g := (mkF m 128 #[oI p0, oU, oU, oU, oU, oU] [(.int (18 : Int32)), (.ref b7), (.ref b7)])) rfl (hb hby at_128)
  obtain ⟨T45, h45, X45, e45, W45, V45', st45⟩ := own_stR X44 hx hZ e44 V43 Ov7 (Ins.of_exa ((e_a_DATE_LESS_THAN_EQUALS hS).ext O43.2) (hw _ (List.mem_of_getElem? (i := 5) rfl))) (j := (18 : Int32)) ⟨by decide, by decide⟩ rfl (by decide : ((18 : Int32) : Int32).toNatClampNeg < 23) (g := (mkF m 131 #[oI p0, oU, oU, oU, oU, oU] [(.ref (a_DATE_LESS_THAN_EQUALS Z)), (.int (18 : Int32)), (.ref b7), (.ref b7)])) rfl rfl (hb hby at_131)
  have N45 := Fr.snoc X45 N43 g_b7
  have O45 := O43.wr W45 g_b7
  have Kc45 := Kc43.wr W45 (Or.inr sz_b7)
  have V45 : Arv Z h45 b7 k7 (.object "com/example/menshen/menshen/policy/ConditionOperator") (23 : Int32) [(.ref (a_STRING_EQUALS Z)), (.ref (a_STRING_NOT_EQUALS Z)), (.ref (a_NOT_STRING_EQUALS Z)), (.ref (a_STRING_EQUALS_IGNORE_CASE Z)), (.ref (a_STRING_NOT_EQUALS_IGNORE_CASE Z)), (.ref (a_STRING_LIKE Z)), (.ref (a_STRING_NOT_LIKE Z)), (.ref (a_IP_ADDRESS Z)), (.ref (a_NOT_IP_ADDRESS Z)), (.ref (a_NUMERIC_EQUALS Z)), (.ref (a_NUMERIC_NOT_EQUALS Z)), (.ref (a_NUMERIC_LESS_THAN Z)), (.ref (a_NUMERIC_LESS_THAN_EQUALS Z)), (.ref (a_NUMERIC_GREATER_THAN Z)), (.ref (a_NUMERIC_GREATER_THAN_EQUALS Z)), (.ref (a_DATE_EQUALS Z)), (.ref (a_DATE_NOT_EQUALS Z)), (.ref (a_DATE_LESS_THAN Z)), (.ref (a_DATE_LESS_THAN_EQUALS Z)), .null, .null, .null, .null] .null := V45'
  obtain ⟨T46, X46, e46, st46⟩ := getS2 X45 hx hZ hown (host := "") (Or.inl (hw _ (List.mem_of_getElem? (i := 42) rfl))) Via.refl e45 ((s_a_DATE_GREATER_THAN hS).ext O45.2) (g := (mkF m 135 #[oI p0, oU, oU, oU, oU, oU] [(.int (19 : Int32)), (.ref b7), (.ref b7)])) rfl (hb hby at_135)
  obtain ⟨T47, h47, X47, e47, W47, V47', st47⟩ := own_stR X46 hx hZ e46 V45 Ov7 (Ins.of_exa ((e_a_DATE_GREATER_THAN hS).ext O45.2) (hw _ (List.mem_of_getElem? (i := 5) rfl))) (j := (19 : Int32)) ⟨by decide, by decide⟩ rfl (by decide : ((19 : Int32) : Int32).toNatClampNeg < 23) (g := (mkF m 138 #[oI p0, oU, oU, oU, oU, oU] [(.ref (a_DATE_GREATER_THAN Z)), (.int (19 : Int32)), (.ref b7), (.ref b7)])) rfl rfl (hb hby at_138)
  have N47 := Fr.snoc X47 N45 g_b7
  have O47 := O45.wr W47 g_b7
  have Kc47 := Kc45.wr W47 (Or.inr sz_b7)
  have V47 : Arv Z h47 b7 k7 (.object "com/example/menshen/menshen/policy/ConditionOperator") (23 : Int32) [(.ref (a_STRING_EQUALS Z)), (.ref (a_STRING_NOT_EQUALS Z)), (.ref (a_NOT_STRING_EQUALS Z)), (.ref (a_STRING_EQUALS_IGNORE_CASE Z)), (.ref (a_STRING_NOT_EQUALS_IGNORE_CASE Z)), (.ref (a_STRING_LIKE Z)), (.ref (a_STRING_NOT_LIKE Z)), (.ref (a_IP_ADDRESS Z)), (.ref (a_NOT_IP_ADDRESS Z)), (.ref (a_NUMERIC_EQUALS Z)), (.ref (a_NUMERIC_NOT_EQUALS Z)), (.ref (a_NUMERIC_LESS_THAN Z)), (.ref (a_NUMERIC_LESS_THAN_EQUALS Z)), (.ref (a_NUMERIC_GREATER_THAN Z)), (.ref (a_NUMERIC_GREATER_THAN_EQUALS Z)), (.ref (a_DATE_EQUALS Z)), (.ref (a_DATE_NOT_EQUALS Z)), (.ref (a_DATE_LESS_THAN Z)), (.ref (a_DATE_LESS_THAN_EQUALS Z)), (.ref (a_DATE_GREATER_THAN Z)), .null, .null, .null] .null := V47'
  obtain ⟨T48, X48, e48, st48⟩ := getS2 X47 hx hZ hown (host := "") (Or.inl (hw _ (List.mem_of_getElem? (i := 44) rfl))) Via.refl e47 ((s_a_DATE_GREATER_THAN_EQUALS hS).ext O47.2) (g := (mkF m 142 #[oI p0, oU, oU, oU, oU, oU] [(.int (20 : Int32)), (.ref b7), (.ref b7)])) rfl (hb hby at_142)
  obtain ⟨T49, h49, X49, e49, W49, V49', st49⟩ := own_stR X48 hx hZ e48 V47 Ov7 (Ins.of_exa ((e_a_DATE_GREATER_THAN_EQUALS hS).ext O47.2) (hw _ (List.mem_of_getElem? (i := 5) rfl))) (j := (20 : Int32)) ⟨by decide, by decide⟩ rfl (by decide : ((20 : Int32) : Int32).toNatClampNeg < 23) (g := (mkF m 145 #[oI p0, oU, oU, oU, oU, oU] [(.ref (a_DATE_GREATER_THAN_EQUALS Z)), (.int (20 : Int32)), (.ref b7), (.ref b7)])) rfl rfl (hb hby at_145)
  have N49 := Fr.snoc X49 N47 g_b7
  have O49 := O47.wr W49 g_b7
  have Kc49 := Kc47.wr W49 (Or.inr sz_b7)
  have V49 : Arv Z h49 b7 k7 (.object "com/example/menshen/menshen/policy/ConditionOperator") (23 : Int32) [(.ref (a_STRING_EQUALS Z)), (.ref (a_STRING_NOT_EQUALS Z)), (.ref (a_NOT_STRING_EQUALS Z)), (.ref (a_STRING_EQUALS_IGNORE_CASE Z)), (.ref (a_STRING_NOT_EQUALS_IGNORE_CASE Z)), (.ref (a_STRING_LIKE Z)), (.ref (a_STRING_NOT_LIKE Z)), (.ref (a_IP_ADDRESS Z)), (.ref (a_NOT_IP_ADDRESS Z)), (.ref (a_NUMERIC_EQUALS Z)), (.ref (a_NUMERIC_NOT_EQUALS Z)), (.ref (a_NUMERIC_LESS_THAN Z)), (.ref (a_NUMERIC_LESS_THAN_EQUALS Z)), (.ref (a_NUMERIC_GREATER_THAN Z)), (.ref (a_NUMERIC_GREATER_THAN_EQUALS Z)), (.ref (a_DATE_EQUALS Z)), (.ref (a_DATE_NOT_EQUALS Z)), (.ref (a_DATE_LESS_THAN Z)), (.ref (a_DATE_LESS_THAN_EQUALS Z)), (.ref (a_DATE_GREATER_THAN Z)), (.ref (a_DATE_GREATER_THAN_EQUALS Z)), .null, .null] .null := V49'
  obtain ⟨T50, X50, e50, st50⟩ := getS2 X49 hx hZ hown (host := "") (Or.inl (hw _ (List.mem_of_getElem? (i := 46) rfl))) Via.refl e49 ((s_a_BOOL hS).ext O49.2) (g := (mkF m 149 #[oI p0, oU, oU, oU, oU, oU] [(.int (21 : Int32)), (.ref b7), (.ref b7)])) rfl (hb hby at_149)
  obtain ⟨T51, h51, X51, e51, W51, V51', st51⟩ := own_stR X50 hx hZ e50 V49 Ov7 (Ins.of_exa ((e_a_BOOL hS).ext O49.2) (hw _ (List.mem_of_getElem? (i := 5) rfl))) (j := (21 : Int32)) ⟨by decide, by decide⟩ rfl (by decide : ((21 : Int32) : Int32).toNatClampNeg < 23) (g := (mkF m 152 #[oI p0, oU, oU, oU, oU, oU] [(.ref (a_BOOL Z)), (.int (21 : Int32)), (.ref b7), (.ref b7)])) rfl rfl (hb hby at_152)
  have N51 := Fr.snoc X51 N49 g_b7
  have O51 := O49.wr W51 g_b7
  have Kc51 := Kc49.wr W51 (Or.inr sz_b7)
  have V51 : Arv Z h51 b7 k7 (.object "com/example/menshen/menshen/policy/ConditionOperator") (23 : Int32) [(.ref (a_STRING_EQUALS Z)), (.ref (a_STRING_NOT_EQUALS Z)), (.ref (a_NOT_STRING_EQUALS Z)), (.ref (a_STRING_EQUALS_IGNORE_CASE Z)), (.ref (a_STRING_NOT_EQUALS_IGNORE_CASE Z)), (.ref (a_STRING_LIKE Z)), (.ref (a_STRING_NOT_LIKE Z)), (.ref (a_IP_ADDRESS Z)), (.ref (a_NOT_IP_ADDRESS Z)), (.ref (a_NUMERIC_EQUALS Z)), (.ref (a_NUMERIC_NOT_EQUALS Z)), (.ref (a_NUMERIC_LESS_THAN Z)), (.ref (a_NUMERIC_LESS_THAN_EQUALS Z)), (.ref (a_NUMERIC_GREATER_THAN Z)), (.ref (a_NUMERIC_GREATER_THAN_EQUALS Z)), (.ref (a_DATE_EQUALS Z)), (.ref (a_DATE_NOT_EQUALS Z)), (.ref (a_DATE_LESS_THAN Z)), (.ref (a_DATE_LESS_THAN_EQUALS Z)), (.ref (a_DATE_GREATER_THAN Z)), (.ref (a_DATE_GREATER_THAN_EQUALS Z)), (.ref (a_BOOL Z)), .null] .null := V51'
  obtain ⟨T52, X52, e52, st52⟩ := getS2 X51 hx hZ hown (host := "") (Or.inl (hw _ (List.mem_of_getElem? (i := 48) rfl))) Via.refl e51 ((s_a_NULL hS).ext O51.2) (g := (mkF m 156 #[oI p0, oU, oU, oU, oU, oU] [(.int (22 : Int32)), (.ref b7), (.ref b7)])) rfl (hb hby at_156)
  obtain ⟨T53, h53, X53, e53, W53, V53', st53⟩ := own_stR X52 hx hZ e52 V51 Ov7 (Ins.of_exa ((e_a_NULL hS).ext O51.2) (hw _ (List.mem_of_getElem? (i := 5) rfl))) (j := (22 : Int32)) ⟨by decide, by decide⟩ rfl (by decide : ((22 : Int32) : Int32).toNatClampNeg < 23) (g := (mkF m 159 #[oI p0, oU, oU, oU, oU, oU] [(.ref (a_NULL Z)), (.int (22 : Int32)), (.ref b7), (.ref b7)])) rfl rfl (hb hby at_159)
  have N53 := Fr.snoc X53 N51 g_b7
  have O53 := O51.wr W53 g_b7
  have Kc53 := Kc51.wr W53 (Or.inr sz_b7)
  have V53 : Arv Z h53 b7 k7 (.object "com/example/menshen/menshen/policy/ConditionOperator") (23 : Int32) [(.ref (a_STRING_EQUALS Z)), (.ref (a_STRING_NOT_EQUALS Z)), (.ref (a_NOT_STRING_EQUALS Z)), (.ref (a_STRING_EQUALS_IGNORE_CASE Z)), (.ref (a_STRING_NOT_EQUALS_IGNORE_CASE Z)), (.ref (a_STRING_LIKE Z)), (.ref (a_STRING_NOT_LIKE Z)), (.ref (a_IP_ADDRESS Z)), (.ref (a_NOT_IP_ADDRESS Z)), (.ref (a_NUMERIC_EQUALS Z)), (.ref (a_NUMERIC_NOT_EQUALS Z)), (.ref (a_NUMERIC_LESS_THAN Z)), (.ref (a_NUMERIC_LESS_THAN_EQUALS Z)), (.ref (a_NUMERIC_GREATER_THAN Z)), (.ref (a_NUMERIC_GREATER_THAN_EQUALS Z)), (.ref (a_DATE_EQUALS Z)), (.ref (a_DATE_NOT_EQUALS Z)), (.ref (a_DATE_LESS_THAN Z)), (.ref (a_DATE_LESS_THAN_EQUALS Z)), (.ref (a_DATE_GREATER_THAN Z)), (.ref (a_DATE_GREATER_THAN_EQUALS Z)), (.ref (a_BOOL Z)), (.ref (a_NULL Z))] .null := V53'
  obtain ⟨T54, h54, k54, X54, e54, E54, A54, Ov54, st54⟩ := newR X53 hx hZ hown (hw _ (List.mem_of_getElem? (i := 0) rfl)) (hw _ (List.mem_of_getElem? (i := 1) rfl)) e53 (g := (mkF m 163 #[oI p0, oR b7, oU, oU, oU, oU] [(.int (23 : Int32))])) rfl (hb hby at_163) rfl (by decide) (cap := 23) (by decide) (by decide) (by decide) (by decide)
  obtain ⟨b54, g54⟩ : ∃ z, z = h53.size := ⟨_, rfl⟩
  have g_b54 : n0 ≤ b54 := Nat.le_trans (own_old_le O53) (Nat.le_of_eq g54.symm)
  have sz_b54 : h0.size ≤ b54 := Nat.le_trans Kc53.1 (Nat.le_of_eq g54.symm)
  have ne_b7_b54 : b7 ≠ b54 := Nat.ne_of_lt (Nat.lt_of_lt_of_le V53.lt (Nat.le_of_eq g54.symm))
  rw [← g54] at A54 st54
  have O54 := O53.ext E54
  have Kc54 := Kc53.ext E54
  have V54 : Arv Z h54 b54 k54 (.object "com/example/menshen/menshen/policy/ConditionOperator") (23 : Int32) [.null, .null, .null, .null, .null, .null, .null, .null, .null, .null, .null, .null, .null, .null, .null, .null, .null, .null, .null, .null, .null, .null, .null] .null := (Arv.new A54 (by decide)).pad (pad_rep [] .null 23)
  obtain ⟨T55, X55, e55, st55⟩ := getS2 X54 hx hZ hown (host := "") (Or.inl (hw _ (List.mem_of_getElem? (i := 2) rfl))) Via.refl e54 ((s_a_STRING_EQUALS hS).ext O54.2) (g := (mkF m 168 #[oI p0, oR b7, oU, oU, oU, oU] [(.int (0 : Int32)), (.ref b54), (.ref b54)])) rfl (hb hby at_168)
  obtain ⟨T56, h56, X56, e56, W56, V56', st56⟩ := own_stR X55 hx hZ e55 V54 Ov54 (Ins.of_exa ((e_a_STRING_EQUALS hS).ext O54.2) (hw _ (List.mem_of_getElem? (i := 5) rfl))) (j := (0 : Int32)) ⟨by decide, by decide⟩ rfl (by decide : ((0 : Int32) : Int32).toNatClampNeg < 23) (g := (mkF m 171 #[oI p0, oR b7, oU, oU, oU, oU] [(.ref (a_STRING_EQUALS Z)), (.int (0 : Int32)), (.ref b54), (.ref b54)])) rfl rfl (hb hby at_171)
  have N56 := Fr.snoc X56 N53 g_b54
  have O56 := O54.wr W56 g_b54
  have Kc56 := Kc54.wr W56 (Or.inr sz_b54)
  have V56 : Arv Z h56 b54 k54 (.object "com/example/menshen/menshen/policy/ConditionOperator") (23 : Int32) [(.ref (a_STRING_EQUALS Z)), .null, .null, .null, .null, .null, .null, .null, .null, .null, .null, .null, .null, .null, .null, .null, .null, .null, .null, .null, .null, .null, .null] .null := V56'
  obtain ⟨T57, X57, e57, st57⟩ := getS2 X56 hx hZ hown (host := "") (Or.inl (hw _ (List.mem_of_getElem? (i := 2) rfl))) Via.refl e56 ((s_a_STRING_EQUALS hS).ext O56.2) (g := (mkF m 174 #[oI p0, oR b7, oU, oU, oU, oU] [(.int (1 : Int32)), (.ref b54), (.ref b54)])) rfl (hb hby at_174)
  obtain ⟨T58, h58, X58, e58, W58, V58', st58⟩ := own_stR X57 hx hZ e57 V56 Ov54 (Ins.of_exa ((e_a_STRING_EQUALS hS).ext O56.2) (hw _ (List.mem_of_getElem? (i := 5) rfl))) (j := (1 : Int32)) ⟨by decide, by decide⟩ rfl (by decide : ((1 : Int32) : Int32).toNatClampNeg < 23) (g := (mkF m 177 #[oI p0, oR b7, oU, oU, oU, oU] [(.ref (a_STRING_EQUALS Z)), (.int (1 : Int32)), (.ref b54), (.ref b54)])) rfl rfl (hb hby at_177)
  have N58 := Fr.snoc X58 N56 g_b54
  have O58 := O56.wr W58 g_b54
  have Kc58 := Kc56.wr W58 (Or.inr sz_b54)
  have V58 : Arv Z h58 b54 k54 (.object "com/example/menshen/menshen/policy/ConditionOperator") (23 : Int32) [(.ref (a_STRING_EQUALS Z)), (.ref (a_STRING_EQUALS Z)), .null, .null, .null, .null, .null, .null, .null, .null, .null, .null, .null, .null, .null, .null, .null, .null, .null, .null, .null, .null, .null] .null := V58'
  obtain ⟨T59, X59, e59, st59⟩ := getS2 X58 hx hZ hown (host := "") (Or.inl (hw _ (List.mem_of_getElem? (i := 2) rfl))) Via.refl e58 ((s_a_STRING_EQUALS hS).ext O58.2) (g := (mkF m 180 #[oI p0, oR b7, oU, oU, oU, oU] [(.int (2 : Int32)), (.ref b54), (.ref b54)])) rfl (hb hby at_180)
  obtain ⟨T60, h60, X60, e60, W60, V60', st60⟩ := own_stR X59 hx hZ e59 V58 Ov54 (Ins.of_exa ((e_a_STRING_EQUALS hS).ext O58.2) (hw _ (List.mem_of_getElem? (i := 5) rfl))) (j := (2 : Int32)) ⟨by decide, by decide⟩ rfl (by decide : ((2 : Int32) : Int32).toNatClampNeg < 23) (g := (mkF m 183 #[oI p0, oR b7, oU, oU, oU, oU] [(.ref (a_STRING_EQUALS Z)), (.int (2 : Int32)), (.ref b54), (.ref b54)])) rfl rfl (hb hby at_183)
  have N60 := Fr.snoc X60 N58 g_b54
  have O60 := O58.wr W60 g_b54
  have Kc60 := Kc58.wr W60 (Or.inr sz_b54)
  have V60 : Arv Z h60 b54 k54 (.object "com/example/menshen/menshen/policy/ConditionOperator") (23 : Int32) [(.ref (a_STRING_EQUALS Z)), (.ref (a_STRING_EQUALS Z)), (.ref (a_STRING_EQUALS Z)), .null, .null, .null, .null, .null, .null, .null, .null, .null, .null, .null, .null, .null, .null, .null, .null, .null, .null, .null, .null] .null := V60'
  obtain ⟨T61, X61, e61, st61⟩ := getS2 X60 hx hZ hown (host := "") (Or.inl (hw _ (List.mem_of_getElem? (i := 10) rfl))) Via.refl e60 ((s_a_STRING_EQUALS_IGNORE_CASE hS).ext O60.2) (g := (mkF m 186 #[oI p0, oR b7, oU, oU, oU, oU] [(.int (3 : Int32)), (.ref b54), (.ref b54)])) rfl (hb hby at_186)
  obtain ⟨T62, h62, X62, e62, W62, V62', st62⟩ := own_stR X61 hx hZ e61 V60 Ov54 (Ins.of_exa ((e_a_STRING_EQUALS_IGNORE_CASE hS).ext O60.2) (hw _ (List.mem_of_getElem? (i := 5) rfl))) (j := (3 : Int32)) ⟨by decide, by decide⟩ rfl (by decide : ((3 : Int32) : Int32).toNatClampNeg < 23) (g := (mkF m 189 #[oI p0, oR b7, oU, oU, oU, oU] [(.ref (a_STRING_EQUALS_IGNORE_CASE Z)), (.int (3 : Int32)), (.ref b54), (.ref b54)])) rfl rfl (hb hby at_189)
  have N62 := Fr.snoc X62 N60 g_b54
  have O62 := O60.wr W62 g_b54
  have Kc62 := Kc60.wr W62 (Or.inr sz_b54)
  have V62 : Arv Z h62 b54 k54 (.object "com/example/menshen/menshen/policy/ConditionOperator") (23 : Int32) [(.ref (a_STRING_EQUALS Z)), (.ref (a_STRING_EQUALS Z)), (.ref (a_STRING_EQUALS Z)), (.ref (a_STRING_EQUALS_IGNORE_CASE Z)), .null, .null, .null, .null, .null, .null, .null, .null, .null, .null, .null, .null, .null, .null, .null, .null, .null, .null, .null] .null := V62'
  obtain ⟨T63, X63, e63, st63⟩ := getS2 X62 hx hZ hown (host := "") (Or.inl (hw _ (List.mem_of_getElem? (i := 10) rfl))) Via.refl e62 ((s_a_STRING_EQUALS_IGNORE_CASE hS).ext O62.2) (g := (mkF m 192 #[oI p0, oR b7, oU, oU, oU, oU] [(.int (4 : Int32)), (.ref b54), (.ref b54)])) rfl (hb hby at_192)
  obtain ⟨T64, h64, X64, e64, W64, V64', st64⟩ := own_stR X63 hx hZ e63 V62 Ov54 (Ins.of_exa ((e_a_STRING_EQUALS_IGNORE_CASE hS).ext O62.2) (hw _ (List.mem_of_getElem? (i := 5) rfl))) (j := (4 : Int32)) ⟨by decide, by decide⟩ rfl (by decide : ((4 : Int32) : Int32).toNatClampNeg < 23) (g := (mkF m 195 #[oI p0, oR b7, oU, oU, oU, oU] [(.ref (a_STRING_EQUALS_IGNORE_CASE Z)), (.int (4 : Int32)), (.ref b54), (.ref b54)])) rfl rfl (hb hby at_195)
  have N64 := Fr.snoc X64 N62 g_b54
  have O64 := O62.wr W64 g_b54
  have Kc64 := Kc62.wr W64 (Or.inr sz_b54)
  have V64 : Arv Z h64 b54 k54 (.object "com/example/menshen/menshen/policy/ConditionOperator") (23 : Int32) [(.ref (a_STRING_EQUALS Z)), (.ref (a_STRING_EQUALS Z)), (.ref (a_STRING_EQUALS Z)), (.ref (a_STRING_EQUALS_IGNORE_CASE Z)), (.ref (a_STRING_EQUALS_IGNORE_CASE Z)), .null, .null, .null, .null, .null, .null, .null, .null, .null, .null, .null, .null, .null, .null, .null, .null, .null, .null] .null := V64'
  obtain ⟨T65, X65, e65, st65⟩ := getS2 X64 hx hZ hown (host := "") (Or.inl (hw _ (List.mem_of_getElem? (i := 14) rfl))) Via.refl e64 ((s_a_STRING_LIKE hS).ext O64.2) (g := (mkF m 198 #[oI p0, oR b7, oU, oU, oU, oU] [(.int (5 : Int32)), (.ref b54), (.ref b54)])) rfl (hb hby at_198)
  obtain ⟨T66, h66, X66, e66, W66, V66', st66⟩ := own_stR X65 hx hZ e65 V64 Ov54 (Ins.of_exa ((e_a_STRING_LIKE hS).ext O64.2) (hw _ (List.mem_of_getElem? (i := 5) rfl))) (j := (5 : Int32)) ⟨by decide, by decide⟩ rfl (by decide : ((5 : Int32) : Int32).toNatClampNeg < 23) (g := (mkF m 201 #[oI p0, oR b7, oU, oU, oU, oU] [(.ref (a_STRING_LIKE Z)), (.int (5 : Int32)), (.ref b54), (.ref b54)])) rfl rfl (hb hby at_201)
  have N66 := Fr.snoc X66 N64 g_b54
  have O66 := O64.wr W66 g_b54
  have Kc66 := Kc64.wr W66 (Or.inr sz_b54)
  have V66 : Arv Z h66 b54 k54 (.object "com/example/menshen/menshen/policy/ConditionOperator") (23 : Int32) [(.ref (a_STRING_EQUALS Z)), (.ref (a_STRING_EQUALS Z)), (.ref (a_STRING_EQUALS Z)), (.ref (a_STRING_EQUALS_IGNORE_CASE Z)), (.ref (a_STRING_EQUALS_IGNORE_CASE Z)), (.ref (a_STRING_LIKE Z)), .null, .null, .null, .null, .null, .null, .null, .null, .null, .null, .null, .null, .null, .null, .null, .null, .null] .null := V66'
  obtain ⟨T67, X67, e67, st67⟩ := getS2 X66 hx hZ hown (host := "") (Or.inl (hw _ (List.mem_of_getElem? (i := 14) rfl))) Via.refl e66 ((s_a_STRING_LIKE hS).ext O66.2) (g := (mkF m 205 #[oI p0, oR b7, oU, oU, oU, oU] [(.int (6 : Int32)), (.ref b54), (.ref b54)])) rfl (hb hby at_205)
  obtain ⟨T68, h68, X68, e68, W68, V68', st68⟩ := own_stR X67 hx hZ e67 V66 Ov54 (Ins.of_exa ((e_a_STRING_LIKE hS).ext O66.2) (hw _ (List.mem_of_getElem? (i := 5) rfl))) (j := (6 : Int32)) ⟨by decide, by decide⟩ rfl (by decide : ((6 : Int32) : Int32).toNatClampNeg < 23) (g := (mkF m 208 #[oI p0, oR b7, oU, oU, oU, oU] [(.ref (a_STRING_LIKE Z)), (.int (6 : Int32)), (.ref b54), (.ref b54)])) rfl rfl (hb hby at_208)
  have N68 := Fr.snoc X68 N66 g_b54
  have O68 := O66.wr W68 g_b54
  have Kc68 := Kc66.wr W68 (Or.inr sz_b54)
  have V68 : Arv Z h68 b54 k54 (.object "com/example/menshen/menshen/policy/ConditionOperator") (23 : Int32) [(.ref (a_STRING_EQUALS Z)), (.ref (a_STRING_EQUALS Z)), (.ref (a_STRING_EQUALS Z)), (.ref (a_STRING_EQUALS_IGNORE_CASE Z)), (.ref (a_STRING_EQUALS_IGNORE_CASE Z)), (.ref (a_STRING_LIKE Z)), (.ref (a_STRING_LIKE Z)), .null, .null, .null, .null, .null, .null, .null, .null, .null, .null, .null, .null, .null, .null, .null, .null] .null := V68'
  obtain ⟨T69, X69, e69, st69⟩ := getS2 X68 hx hZ hown (host := "") (Or.inl (hw _ (List.mem_of_getElem? (i := 18) rfl))) Via.refl e68 ((s_a_IP_ADDRESS hS).ext O68.2) (g := (mkF m 212 #[oI p0, oR b7, oU, oU, oU, oU] [(.int (7 : Int32)), (.ref b54), (.ref b54)])) rfl (hb hby at_212)
  obtain ⟨T70, h70, X70, e70, W70, V70', st70⟩ := own_stR X69 hx hZ e69 V68 Ov54 (Ins.of_exa ((e_a_IP_ADDRESS hS).ext O68.2) (hw _ (List.mem_of_getElem? (i := 5) rfl))) (j := (7 : Int32)) ⟨by decide, by decide⟩ rfl (by decide : ((7 : Int32) : Int32).toNatClampNeg < 23) (g := (mkF m 215 #[oI p0, oR b7, oU, oU, oU, oU] [(.ref (a_IP_ADDRESS Z)), (.int (7 : Int32)), (.ref b54), (.ref b54)])) rfl rfl (hb hby at_215)
  have N70 := Fr.snoc X70 N68 g_b54
  have O70 := O68.wr W70 g_b54
  have Kc70 := Kc68.wr W70 (Or.inr sz_b54)
  have V70 : Arv Z h70 b54 k54 (.object "com/example/menshen/menshen/policy/ConditionOperator") (23 : Int32) [(.ref (a_STRING_EQUALS Z)), (.ref (a_STRING_EQUALS Z)), (.ref (a_STRING_EQUALS Z)), (.ref (a_STRING_EQUALS_IGNORE_CASE Z)), (.ref (a_STRING_EQUALS_IGNORE_CASE Z)), (.ref (a_STRING_LIKE Z)), (.ref (a_STRING_LIKE Z)), (.ref (a_IP_ADDRESS Z)), .null, .null, .null, .null, .null, .null, .null, .null, .null, .null, .null, .null, .null, .null, .null] .null := V70'
  obtain ⟨T71, X71, e71, st71⟩ := getS2 X70 hx hZ hown (host := "") (Or.inl (hw _ (List.mem_of_getElem? (i := 18) rfl))) Via.refl e70 ((s_a_IP_ADDRESS hS).ext O70.2) (g := (mkF m 219 #[oI p0, oR b7, oU, oU, oU, oU] [(.int (8 : Int32)), (.ref b54), (.ref b54)])) rfl (hb hby at_219)
  obtain ⟨T72, h72, X72, e72, W72, V72', st72⟩ := own_stR X71 hx hZ e71 V70 Ov54 (Ins.of_exa ((e_a_IP_ADDRESS hS).ext O70.2) (hw _ (List.mem_of_getElem? (i := 5) rfl))) (j := (8 : Int32)) ⟨by decide, by decide⟩ rfl (by decide : ((8 : Int32) : Int32).toNatClampNeg < 23) (g := (mkF m 222 #[oI p0, oR b7, oU, oU, oU, oU] [(.ref (a_IP_ADDRESS Z)), (.int (8 : Int32)), (.ref b54), (.ref b54)])) rfl rfl (hb hby at_222)
  have N72 := Fr.snoc X72 N70 g_b54
  have O72 := O70.wr W72 g_b54
  have Kc72 := Kc70.wr W72 (Or.inr sz_b54)
  have V72 : Arv Z h72 b54 k54 (.object "com/example/menshen/menshen/policy/ConditionOperator") (23 : Int32) [(.ref (a_STRING_EQUALS Z)), (.ref (a_STRING_EQUALS Z)), (.ref (a_STRING_EQUALS Z)), (.ref (a_STRING_EQUALS_IGNORE_CASE Z)), (.ref (a_STRING_EQUALS_IGNORE_CASE Z)), (.ref (a_STRING_LIKE Z)), (.ref (a_STRING_LIKE Z)), (.ref (a_IP_ADDRESS Z)), (.ref (a_IP_ADDRESS Z)), .null, .null, .null, .null, .null, .null, .null, .null, .null, .null, .null, .null, .null, .null] .null := V72'
  obtain ⟨T73, X73, e73, st73⟩ := getS2 X72 hx hZ hown (host := "") (Or.inl (hw _ (List.mem_of_getElem? (i := 22) rfl))) Via.refl e72 ((s_a_NUMERIC_EQUALS hS).ext O72.2) (g := (mkF m 226 #[oI p0, oR b7, oU, oU, oU, oU] [(.int (9 : Int32)), (.ref b54), (.ref b54)])) rfl (hb hby at_226)
  obtain ⟨T74, h74, X74, e74, W74, V74', st74⟩ := own_stR X73 hx hZ e73 V72 Ov54 (Ins.of_exa ((e_a_NUMERIC_EQUALS hS).ext O72.2) (hw _ (List.mem_of_getElem? (i := 5) rfl))) (j := (9 : Int32)) ⟨by decide, by decide⟩ rfl (by decide : ((9 : Int32) : Int32).toNatClampNeg < 23) (g := (mkF m 229 #[oI p0, oR b7, oU, oU, oU, oU] [(.ref (a_NUMERIC_EQUALS Z)), (.int (9 : Int32)), (.ref b54), (.ref b54)])) rfl rfl (hb hby at_229)
  have N74 := Fr.snoc X74 N72 g_b54
  have O74 := O72.wr W74 g_b54
  have Kc74 := Kc72.wr W74 (Or.inr sz_b54)
  have V74 : Arv Z h74 b54 k54 (.object "com/example/menshen/menshen/policy/ConditionOperator") (23 : Int32) [(.ref (a_STRING_EQUALS Z)), (.ref (a_STRING_EQUALS Z)), (.ref (a_STRING_EQUALS Z)), (.ref (a_STRING_EQUALS_IGNORE_CASE Z)), (.ref (a_STRING_EQUALS_IGNORE_CASE Z)), (.ref (a_STRING_LIKE Z)), (.ref (a_STRING_LIKE Z)), (.ref (a_IP_ADDRESS Z)), (.ref (a_IP_ADDRESS Z)), (.ref (a_NUMERIC_EQUALS Z)), .null, .null, .null, .null, .null, .null, .null, .null, .null, .null, .null, .null, .null] .null := V74'
  obtain ⟨T75, X75, e75, st75⟩ := getS2 X74 hx hZ hown (host := "") (Or.inl (hw _ (List.mem_of_getElem? (i := 22) rfl))) Via.refl e74 ((s_a_NUMERIC_EQUALS hS).ext O74.2) (g := (mkF m 233 #[oI p0, oR b7, oU, oU, oU, oU] [(.int (10 : Int32)), (.ref b54), (.ref b54)])) rfl (hb hby at_233)
  obtain ⟨T76, h76, X76, e76, W76, V76', st76⟩ := own_stR X75 hx hZ e75 V74 Ov54 (Ins.of_exa ((e_a_NUMERIC_EQUALS hS).ext O74.2) (hw _ (List.mem_of_getElem? (i := 5) rfl))) (j := (10 : Int32)) ⟨by decide, by decide⟩ rfl (by decide : ((10 : Int32) : Int32).toNatClampNeg < 23) (g := (mkF m 236 #[oI p0, oR b7, oU, oU, oU, oU] [(.ref (a_NUMERIC_EQUALS Z)), (.int (10 : Int32)), (.ref b54), (.ref b54)])) rfl rfl (hb hby at_236)
  have N76 := Fr.snoc X76 N74 g_b54
  have O76 := O74.wr W76 g_b54
  have Kc76 := Kc74.wr W76 (Or.inr sz_b54)
  have V76 : Arv Z h76 b54 k54 (.object "com/example/menshen/menshen/policy/ConditionOperator") (23 : Int32) [(.ref (a_STRING_EQUALS Z)), (.ref (a_STRING_EQUALS Z)), (.ref (a_STRING_EQUALS Z)), (.ref (a_STRING_EQUALS_IGNORE_CASE Z)), (.ref (a_STRING_EQUALS_IGNORE_CASE Z)), (.ref (a_STRING_LIKE Z)), (.ref (a_STRING_LIKE Z)), (.ref (a_IP_ADDRESS Z)), (.ref (a_IP_ADDRESS Z)), (.ref (a_NUMERIC_EQUALS Z)), (.ref (a_NUMERIC_EQUALS Z)), .null, .null, .null, .null, .null, .null, .null, .null, .null, .null, .null, .null] .null := V76'
  obtain ⟨T77, X77, e77, st77⟩ := getS2 X76 hx hZ hown (host := "") (Or.inl (hw _ (List.mem_of_getElem? (i := 26) rfl))) Via.refl e76 ((s_a_NUMERIC_LESS_THAN hS).ext O76.2) (g := (mkF m 240 #[oI p0, oR b7, oU, oU, oU, oU] [(.int (11 : Int32)), (.ref b54), (.ref b54)])) rfl (hb hby at_240)
  obtain ⟨T78, h78, X78, e78, W78, V78', st78⟩ := own_stR X77 hx hZ e77 V76 Ov54 (Ins.of_exa ((e_a_NUMERIC_LESS_THAN hS).ext O76.2) (hw _ (List.mem_of_getElem? (i := 5) rfl))) (j := (11 : Int32)) ⟨by decide, by decide⟩ rfl (by decide : ((11 : Int32) : Int32).toNatClampNeg < 23) (g := (mkF m 243 #[oI p0, oR b7, oU, oU, oU, oU] [(.ref (a_NUMERIC_LESS_THAN Z)), (.int (11 : Int32)), (.ref b54), (.ref b54)])) rfl rfl (hb hby at_243)
  have N78 := Fr.snoc X78 N76 g_b54
  have O78 := O76.wr W78 g_b54
  have Kc78 := Kc76.wr W78 (Or.inr sz_b54)
  have V78 : Arv Z h78 b54 k54 (.object "com/example/menshen/menshen/policy/ConditionOperator") (23 : Int32) [(.ref (a_STRING_EQUALS Z)), (.ref (a_STRING_EQUALS Z)), (.ref (a_STRING_EQUALS Z)), (.ref (a_STRING_EQUALS_IGNORE_CASE Z)), (.ref (a_STRING_EQUALS_IGNORE_CASE Z)), (.ref (a_STRING_LIKE Z)), (.ref (a_STRING_LIKE Z)), (.ref (a_IP_ADDRESS Z)), (.ref (a_IP_ADDRESS Z)), (.ref (a_NUMERIC_EQUALS Z)), (.ref (a_NUMERIC_EQUALS Z)), (.ref (a_NUMERIC_LESS_THAN Z)), .null, .null, .null, .null, .null, .null, .null, .null, .null, .null, .null] .null := V78'
  obtain ⟨T79, X79, e79, st79⟩ := getS2 X78 hx hZ hown (host := "") (Or.inl (hw _ (List.mem_of_getElem? (i := 28) rfl))) Via.refl e78 ((s_a_NUMERIC_LESS_THAN_EQUALS hS).ext O78.2) (g := (mkF m 247 #[oI p0, oR b7, oU, oU, oU, oU] [(.int (12 : Int32)), (.ref b54), (.ref b54)])) rfl (hb hby at_247)
  obtain ⟨T80, h80, X80, e80, W80, V80', st80⟩ := own_stR X79 hx hZ e79 V78 Ov54 (Ins.of_exa ((e_a_NUMERIC_LESS_THAN_EQUALS hS).ext O78.2) (hw _ (List.mem_of_getElem? (i := 5) rfl))) (j := (12 : Int32)) ⟨by decide, by decide⟩ rfl (by decide : ((12 : Int32) : Int32).toNatClampNeg < 23) (g := (mkF m 250 #[oI p0, oR b7, oU, oU, oU, oU] [(.ref (a_NUMERIC_LESS_THAN_EQUALS Z)), (.int (12 : Int32)), (.ref b54), (.ref b54)])) rfl rfl (hb hby at_250)
  have N80 := Fr.snoc X80 N78 g_b54
  have O80 := O78.wr W80 g_b54
  have Kc80 := Kc78.wr W80 (Or.inr sz_b54)
  have V80 : Arv Z h80 b54 k54 (.object "com/example/menshen/menshen/policy/ConditionOperator") (23 : Int32) [(.ref (a_STRING_EQUALS Z)), (.ref (a_STRING_EQUALS Z)), (.ref (a_STRING_EQUALS Z)), (.ref (a_STRING_EQUALS_IGNORE_CASE Z)), (.ref (a_STRING_EQUALS_IGNORE_CASE Z)), (.ref (a_STRING_LIKE Z)), (.ref (a_STRING_LIKE Z)), (.ref (a_IP_ADDRESS Z)), (.ref (a_IP_ADDRESS Z)), (.ref (a_NUMERIC_EQUALS Z)), (.ref (a_NUMERIC_EQUALS Z)), (.ref (a_NUMERIC_LESS_THAN Z)), (.ref (a_NUMERIC_LESS_THAN_EQUALS Z)), .null, .null, .null, .null, .null, .null, .null, .null, .null, .null] .null := V80'
  obtain ⟨T81, X81, e81, st81⟩ := getS2 X80 hx hZ hown (host := "") (Or.inl (hw _ (List.mem_of_getElem? (i := 30) rfl))) Via.refl e80 ((s_a_NUMERIC_GREATER_THAN hS).ext O80.2) (g := (mkF m 254 #[oI p0, oR b7, oU, oU, oU, oU] [(.int (13 : Int32)), (.ref b54), (.ref b54)])) rfl (hb hby at_254)
  obtain ⟨T82, h82, X82, e82, W82, V82', st82⟩ := own_stR X81 hx hZ e81 V80 Ov54 (Ins.of_exa ((e_a_NUMERIC_GREATER_THAN hS).ext O80.2) (hw _ (List.mem_of_getElem? (i := 5) rfl))) (j := (13 : Int32)) ⟨by decide, by decide⟩ rfl (by decide : ((13 : Int32) : Int32).toNatClampNeg < 23) (g := (mkF m 257 #[oI p0, oR b7, oU, oU, oU, oU] [(.ref (a_NUMERIC_GREATER_THAN Z)), (.int (13 : Int32)), (.ref b54), (.ref b54)])) rfl rfl (hb hby at_257)
  have N82 := Fr.snoc X82 N80 g_b54
  have O82 := O80.wr W82 g_b54
  have Kc82 := Kc80.wr W82 (Or.inr sz_b54)
  have V82 : Arv Z h82 b54 k54 (.object "com/example/menshen/menshen/policy/ConditionOperator") (23 : Int32) [(.ref (a_STRING_EQUALS Z)), (.ref (a_STRING_EQUALS Z)), (.ref (a_STRING_EQUALS Z)), (.ref (a_STRING_EQUALS_IGNORE_CASE Z)), (.ref (a_STRING_EQUALS_IGNORE_CASE Z)), (.ref (a_STRING_LIKE Z)), (.ref (a_STRING_LIKE Z)), (.ref (a_IP_ADDRESS Z)), (.ref (a_IP_ADDRESS Z)), (.ref (a_NUMERIC_EQUALS Z)), (.ref (a_NUMERIC_EQUALS Z)), (.ref (a_NUMERIC_LESS_THAN Z)), (.ref (a_NUMERIC_LESS_THAN_EQUALS Z)), (.ref (a_NUMERIC_GREATER_THAN Z)), .null, .null, .null, .null, .null, .null, .null, .null, .null] .null := V82'
  obtain ⟨T83, X83, e83, st83⟩ := getS2 X82 hx hZ hown (host := "") (Or.inl (hw _ (List.mem_of_getElem? (i := 32) rfl))) Via.refl e82 ((s_a_NUMERIC_GREATER_THAN_EQUALS hS).ext O82.2) (g := (mkF m 261 #[oI p0, oR b7, oU, oU, oU, oU] [(.int (14 : Int32)), (.ref b54), (.ref b54)])) rfl (hb hby at_261)
  obtain ⟨T84, h84, X84, e84, W84, V84', st84⟩ := own_stR X83 hx hZ e83 V82 Ov54 (Ins.of_exa ((e_a_NUMERIC_GREATER_THAN_EQUALS hS).ext O82.2) (hw _ (List.mem_of_getElem? (i := 5) rfl))) (j := (14 : Int32)) ⟨by decide, by decide⟩ rfl (by decide : ((14 : Int32) : Int32).toNatClampNeg < 23) (g := (mkF m 264 #[oI p0, oR b7, oU, oU, oU, oU] [(.ref (a_NUMERIC_GREATER_THAN_EQUALS Z)), (.int (14 : Int32)), (.ref b54), (.ref b54)])) rfl rfl (hb hby at_264)
  have N84 := Fr.snoc X84 N82 g_b54
  have O84 := O82.wr W84 g_b54
  have Kc84 := Kc82.wr W84 (Or.inr sz_b54)
  have V84 : Arv Z h84 b54 k54 (.object "com/example/menshen/menshen/policy/ConditionOperator") (23 : Int32) [(.ref (a_STRING_EQUALS Z)), (.ref (a_STRING_EQUALS Z)), (.ref (a_STRING_EQUALS Z)), (.ref (a_STRING_EQUALS_IGNORE_CASE Z)), (.ref (a_STRING_EQUALS_IGNORE_CASE Z)), (.ref (a_STRING_LIKE Z)), (.ref (a_STRING_LIKE Z)), (.ref (a_IP_ADDRESS Z)), (.ref (a_IP_ADDRESS Z)), (.ref (a_NUMERIC_EQUALS Z)), (.ref (a_NUMERIC_EQUALS Z)), (.ref (a_NUMERIC_LESS_THAN Z)), (.ref (a_NUMERIC_LESS_THAN_EQUALS Z)), (.ref (a_NUMERIC_GREATER_THAN Z)), (.ref (a_NUMERIC_GREATER_THAN_EQUALS Z)), .null, .null, .null, .null, .null, .null, .null, .null] .null := V84'
  obtain ⟨T85, X85, e85, st85⟩ := getS2 X84 hx hZ hown (host := "") (Or.inl (hw _ (List.mem_of_getElem? (i := 34) rfl))) Via.refl e84 ((s_a_DATE_EQUALS hS).ext O84.2) (g := (mkF m 268 #[oI p0, oR b7, oU, oU, oU, oU] [(.int (15 : Int32)), (.ref b54), (.ref b54)])) rfl (hb hby at_268)
  obtain ⟨T86, h86, X86, e86, W86, V86', st86⟩ := own_stR X85 hx hZ e85 V84 Ov54 (Ins.of_exa ((e_a_DATE_EQUALS hS).ext O84.2) (hw _ (List.mem_of_getElem? (i := 5) rfl))) (j := (15 : Int32)) ⟨by decide, by decide⟩ rfl (by decide : ((15 : Int32) : Int32).toNatClampNeg < 23) (g := (mkF m 271 #[oI p0, oR b7, oU, oU, oU, oU] [(.ref (a_DATE_EQUALS Z)), (.int (15 : Int32)), (.ref b54), (.ref b54)])) rfl rfl (hb hby at_271)
  have N86 := Fr.snoc X86 N84 g_b54
  have O86 := O84.wr W86 g_b54
  have Kc86 := Kc84.wr W86 (Or.inr sz_b54)
  have V86 : Arv Z h86 b54 k54 (.object "com/example/menshen/menshen/policy/ConditionOperator") (23 : Int32) [(.ref (a_STRING_EQUALS Z)), (.ref (a_STRING_EQUALS Z)), (.ref (a_STRING_EQUALS Z)), (.ref (a_STRING_EQUALS_IGNORE_CASE Z)), (.ref (a_STRING_EQUALS_IGNORE_CASE Z)), (.ref (a_STRING_LIKE Z)), (.ref (a_STRING_LIKE Z)), (.ref (a_IP_ADDRESS Z)), (.ref (a_IP_ADDRESS Z)), (.ref (a_NUMERIC_EQUALS Z)), (.ref (a_NUMERIC_EQUALS Z)), (.ref (a_NUMERIC_LESS_THAN Z)), (.ref (a_NUMERIC_LESS_THAN_EQUALS Z)), (.ref (a_NUMERIC_GREATER_THAN Z)), (.ref (a_NUMERIC_GREATER_THAN_EQUALS Z)), (.ref (a_DATE_EQUALS Z)), .null, .null, .null, .null, .null, .null, .null] .null := V86'
  obtain ⟨T87, X87, e87, st87⟩ := getS2 X86 hx hZ hown (host := "") (Or.inl (hw _ (List.mem_of_getElem? (i := 34) rfl))) Via.refl e86 ((s_a_DATE_EQUALS hS).ext O86.2) (g := (mkF m 275 #[oI p0, oR b7, oU, oU, oU, oU] [(.int (16 : Int32)), (.ref b54), (.ref b54)])) rfl (hb hby at_275)
  obtain ⟨T88, h88, X88, e88, W88, V88', st88⟩ := own_stR X87 hx hZ e87 V86 Ov54 (Ins.of_exa ((e_a_DATE_EQUALS hS).ext O86.2) (hw _ (List.mem_of_getElem? (i := 5) rfl))) (j := (16 : Int32)) ⟨by decide, by decide⟩ rfl (by decide : ((16 : Int32) : Int32).toNatClampNeg < 23) (g := (mkF m 278 #[oI p0, oR b7, oU, oU, oU, oU] [(.ref (a_DATE_EQUALS Z)), (.int (16 : Int32)), (.ref b54), (.ref b54)])) rfl rfl (hb hby at_278)
  have N88 := Fr.snoc X88 N86 g_b54
  have O88 := O86.wr W88 g_b54
  have Kc88 := Kc86.wr W88 (Or.inr sz_b54)
  have V88 : Arv Z h88 b54 k54 (.object "com/example/menshen/menshen/policy/ConditionOperator") (23 : Int32) [(.ref (a_STRING_EQUALS Z)), (.ref (a_STRING_EQUALS Z)), (.ref (a_STRING_EQUALS Z)), (.ref (a_STRING_EQUALS_IGNORE_CASE Z)), (.ref (a_STRING_EQUALS_IGNORE_CASE Z)), (.ref (a_STRING_LIKE Z)), (.ref (a_STRING_LIKE Z)), (.ref (a_IP_ADDRESS Z)), (.ref (a_IP_ADDRESS Z)), (.ref (a_NUMERIC_EQUALS Z)), (.ref (a_NUMERIC_EQUALS Z)), (.ref (a_NUMERIC_LESS_THAN Z)), (.ref (a_NUMERIC_LESS_THAN_EQUALS Z)), (.ref (a_NUMERIC_GREATER_THAN Z)), (.ref (a_NUMERIC_GREATER_THAN_EQUALS Z)), (.ref (a_DATE_EQUALS Z)), (.ref (a_DATE_EQUALS Z)), .null, .null, .null, .null, .null, .null] .null := V88'
  obtain ⟨T89, X89, e89, st89⟩ := getS2 X88 hx hZ hown (host := "") (Or.inl (hw _ (List.mem_of_getElem? (i := 38) rfl))) Via.refl e88 ((s_a_DATE_LESS_THAN hS).ext O88.2) (g := (mkF m 282 #[oI p0, oR b7, oU, oU, oU, oU] [(.int (17 : Int32)), (.ref b54), (.ref b54)])) rfl (hb hby at_282)
  obtain ⟨T90, h90, X90, e90, W90, V90', st90⟩ := own_stR X89 hx hZ e89 V88 Ov54 (Ins.of_exa ((e_a_DATE_LESS_THAN hS).ext O88.2) (hw _ (List.mem_of_getElem? (i := 5) rfl))) (j := (17 : Int32)) ⟨by decide, by decide⟩ rfl (by decide : ((17 : Int32) : Int32).toNatClampNeg < 23) (g := (mkF m 285 #[oI p0, oR b7, oU, oU, oU, oU] [(.ref (a_DATE_LESS_THAN Z)), (.int (17 : Int32)), (.ref b54), (.ref b54)])) rfl rfl (hb hby at_285)
  have N90 := Fr.snoc X90 N88 g_b54
  have O90 := O88.wr W90 g_b54
  have Kc90 := Kc88.wr W90 (Or.inr sz_b54)
  have V90 : Arv Z h90 b54 k54 (.object "com/example/menshen/menshen/policy/ConditionOperator") (23 : Int32) [(.ref (a_STRING_EQUALS Z)), (.ref (a_STRING_EQUALS Z)), (.ref (a_STRING_EQUALS Z)), (.ref (a_STRING_EQUALS_IGNORE_CASE Z)), (.ref (a_STRING_EQUALS_IGNORE_CASE Z)), (.ref (a_STRING_LIKE Z)), (.ref (a_STRING_LIKE Z)), (.ref (a_IP_ADDRESS Z)), (.ref (a_IP_ADDRESS Z)), (.ref (a_NUMERIC_EQUALS Z)), (.ref (a_NUMERIC_EQUALS Z)), (.ref (a_NUMERIC_LESS_THAN Z)), (.ref (a_NUMERIC_LESS_THAN_EQUALS Z)), (.ref (a_NUMERIC_GREATER_THAN Z)), (.ref (a_NUMERIC_GREATER_THAN_EQUALS Z)), (.ref (a_DATE_EQUALS Z)), (.ref (a_DATE_EQUALS Z)), (.ref (a_DATE_LESS_THAN Z)), .null, .null, .null, .null, .null] .null := V90'
  obtain ⟨T91, X91, e91, st91⟩ := getS2 X90 hx hZ hown (host := "") (Or.inl (hw _ (List.mem_of_getElem? (i := 40) rfl))) Via.refl e90 ((s_a_DATE_LESS_THAN_EQUALS hS).ext O90.2) (g := (mkF m 289 #[oI p0, oR b7, oU, oU, oU, oU] [(.int (18 : Int32)), (.ref b54), (.ref b54)])) rfl (hb hby at_289)
  obtain ⟨T92, h92, X92, e92, W92, V92', st92⟩ := own_stR X91 hx hZ e91 V90 Ov54 (Ins.of_exa ((e_a_DATE_LESS_THAN_EQUALS hS).ext O90.2) (hw _ (List.mem_of_getElem? (i := 5) rfl))) (j := (18 : Int32)) ⟨by decide, by decide⟩ rfl (by decide : ((18 : Int32) : Int32).toNatClampNeg < 23) (g := (mkF m 292 #[oI p0, oR b7, oU, oU, oU, oU] [(.ref (a_DATE_LESS_THAN_EQUALS Z)), (.int (18 : Int32)), (.ref b54), (.ref b54)])) rfl rfl (hb hby at_292)
  have N92 := Fr.snoc X92 N90 g_b54
  have O92 := O90.wr W92 g_b54
  have Kc92 := Kc90.wr W92 (Or.inr sz_b54)
  have V92 : Arv Z h92 b54 k54 (.object "com/example/menshen/menshen/policy/ConditionOperator") (23 : Int32) [(.ref (a_STRING_EQUALS Z)), (.ref (a_STRING_EQUALS Z)), (.ref (a_STRING_EQUALS Z)), (.ref (a_STRING_EQUALS_IGNORE_CASE Z)), (.ref (a_STRING_EQUALS_IGNORE_CASE Z)), (.ref (a_STRING_LIKE Z)), (.ref (a_STRING_LIKE Z)), (.ref (a_IP_ADDRESS Z)), (.ref (a_IP_ADDRESS Z)), (.ref (a_NUMERIC_EQUALS Z)), (.ref (a_NUMERIC_EQUALS Z)), (.ref (a_NUMERIC_LESS_THAN Z)), (.ref (a_NUMERIC_LESS_THAN_EQUALS Z)), (.ref (a_NUMERIC_GREATER_THAN Z)), (.ref (a_NUMERIC_GREATER_THAN_EQUALS Z)), (.ref (a_DATE_EQUALS Z)), (.ref (a_DATE_EQUALS Z)), (.ref (a_DATE_LESS_THAN Z)), (.ref (a_DATE_LESS_THAN_EQUALS Z)), .null, .null, .null, .null] .null := V92'
  obtain ⟨T93, X93, e93, st93⟩ := getS2 X92 hx hZ hown (host := "") (Or.inl (hw _ (List.mem_of_getElem? (i := 42) rfl))) Via.refl e92 ((s_a_DATE_GREATER_THAN hS).ext O92.2) (g := (mkF m 296 #[oI p0, oR b7, oU, oU, oU, oU] [(.int (19 : Int32)), (.ref b54), (.ref b54)])) rfl (hb hby at_296)
  obtain ⟨T94, h94, X94, e94, W94, V94', st94⟩ := own_stR X93 hx hZ e93 V92 Ov54 (Ins.of_exa ((e_a_DATE_GREATER_THAN hS).ext O92.2) (hw _ (List.mem_of_getElem? (i := 5) rfl))) (j := (19 : Int32)) ⟨by decide, by decide⟩ rfl (by decide : ((19 : Int32) : Int32).toNatClampNeg < 23) (g := (mkF m 299 #[oI p0, oR b7, oU, oU, oU, oU] [(.ref (a_DATE_GREATER_THAN Z)), (.int (19 : Int32)), (.ref b54), (.ref b54)])) rfl rfl (hb hby at_299)
  have N94 := Fr.snoc X94 N92 g_b54
  have O94 := O92.wr W94 g_b54
  have Kc94 := Kc92.wr W94 (Or.inr sz_b54)
  have V94 : Arv Z h94 b54 k54 (.object "com/example/menshen/menshen/policy/ConditionOperator") (23 : Int32) [(.ref (a_STRING_EQUALS Z)), (.ref (a_STRING_EQUALS Z)), (.ref (a_STRING_EQUALS Z)), (.ref (a_STRING_EQUALS_IGNORE_CASE Z)), (.ref (a_STRING_EQUALS_IGNORE_CASE Z)), (.ref (a_STRING_LIKE Z)), (.ref (a_STRING_LIKE Z)), (.ref (a_IP_ADDRESS Z)), (.ref (a_IP_ADDRESS Z)), (.ref (a_NUMERIC_EQUALS Z)), (.ref (a_NUMERIC_EQUALS Z)), (.ref (a_NUMERIC_LESS_THAN Z)), (.ref (a_NUMERIC_LESS_THAN_EQUALS Z)), (.ref (a_NUMERIC_GREATER_THAN Z)), (.ref (a_NUMERIC_GREATER_THAN_EQUALS Z)), (.ref (a_DATE_EQUALS Z)), (.ref (a_DATE_EQUALS Z)), (.ref (a_DATE_LESS_THAN Z)), (.ref (a_DATE_LESS_THAN_EQUALS Z)), (.ref (a_DATE_GREATER_THAN Z)), .null, .null, .null] .null := V94'
  obtain ⟨T95, X95, e95, st95⟩ := getS2 X94 hx hZ hown (host := "") (Or.inl (hw _ (List.mem_of_getElem? (i := 44) rfl))) Via.refl e94 ((s_a_DATE_GREATER_THAN_EQUALS hS).ext O94.2) (g := (mkF m 303 #[oI p0, oR b7, oU, oU, oU, oU] [(.int (20 : Int32)), (.ref b54), (.ref b54)])) rfl (hb hby at_303)
  obtain ⟨T96, h96, X96, e96, W96, V96', st96⟩ := own_stR X95 hx hZ e95 V94 Ov54 (Ins.of_exa ((e_a_DATE_GREATER_THAN_EQUALS hS).ext O94.2) (hw _ (List.mem_of_getElem? (i := 5) rfl))) (j := (20 : Int32)) ⟨by decide, by decide⟩ rfl (by decide : ((20 : Int32) : Int32).toNatClampNeg < 23) (g := (mkF m 306 #[oI p0, oR b7, oU, oU, oU, oU] [(.ref (a_DATE_GREATER_THAN_EQUALS Z)), (.int (20 : Int32)), (.ref b54), (.ref b54)])) rfl rfl (hb hby at_306)
  have N96 := Fr.snoc X96 N94 g_b54
  have O96 := O94.wr W96 g_b54
  have Kc96 := Kc94.wr W96 (Or.inr sz_b54)
  have V96 : Arv Z h96 b54 k54 (.object "com/example/menshen/menshen/policy/ConditionOperator") (23 : Int32) [(.ref (a_STRING_EQUALS Z)), (.ref (a_STRING_EQUALS Z)), (.ref (a_STRING_EQUALS Z)), (.ref (a_STRING_EQUALS_IGNORE_CASE Z)), (.ref (a_STRING_EQUALS_IGNORE_CASE Z)), (.ref (a_STRING_LIKE Z)), (.ref (a_STRING_LIKE Z)), (.ref (a_IP_ADDRESS Z)), (.ref (a_IP_ADDRESS Z)), (.ref (a_NUMERIC_EQUALS Z)), (.ref (a_NUMERIC_EQUALS Z)), (.ref (a_NUMERIC_LESS_THAN Z)), (.ref (a_NUMERIC_LESS_THAN_EQUALS Z)), (.ref (a_NUMERIC_GREATER_THAN Z)), (.ref (a_NUMERIC_GREATER_THAN_EQUALS Z)), (.ref (a_DATE_EQUALS Z)), (.ref (a_DATE_EQUALS Z)), (.ref (a_DATE_LESS_THAN Z)), (.ref (a_DATE_LESS_THAN_EQUALS Z)), (.ref (a_DATE_GREATER_THAN Z)), (.ref (a_DATE_GREATER_THAN_EQUALS Z)), .null, .null] .null := V96'
  obtain ⟨T97, X97, e97, st97⟩ := getS2 X96 hx hZ hown (host := "") (Or.inl (hw _ (List.mem_of_getElem? (i := 46) rfl))) Via.refl e96 ((s_a_BOOL hS).ext O96.2) (g := (mkF m 310 #[oI p0, oR b7, oU, oU, oU, oU] [(.int (21 : Int32)), (.ref b54), (.ref b54)])) rfl (hb hby at_310)
  obtain ⟨T98, h98, X98, e98, W98, V98', st98⟩ := own_stR X97 hx hZ e97 V96 Ov54 (Ins.of_exa ((e_a_BOOL hS).ext O96.2) (hw _ (List.mem_of_getElem? (i := 5) rfl))) (j := (21 : Int32)) ⟨by decide, by decide⟩ rfl (by decide : ((21 : Int32) : Int32).toNatClampNeg < 23) (g := (mkF m 313 #[oI p0, oR b7, oU, oU, oU, oU] [(.ref (a_BOOL Z)), (.int (21 : Int32)), (.ref b54), (.ref b54)])) rfl rfl (hb hby at_313)
  have N98 := Fr.snoc X98 N96 g_b54
  have O98 := O96.wr W98 g_b54
  have Kc98 := Kc96.wr W98 (Or.inr sz_b54)
  have V98 : Arv Z h98 b54 k54 (.object "com/example/menshen/menshen/policy/ConditionOperator") (23 : Int32) [(.ref (a_STRING_EQUALS Z)), (.ref (a_STRING_EQUALS Z)), (.ref (a_STRING_EQUALS Z)), (.ref (a_STRING_EQUALS_IGNORE_CASE Z)), (.ref (a_STRING_EQUALS_IGNORE_CASE Z)), (.ref (a_STRING_LIKE Z)), (.ref (a_STRING_LIKE Z)), (.ref (a_IP_ADDRESS Z)), (.ref (a_IP_ADDRESS Z)), (.ref (a_NUMERIC_EQUALS Z)), (.ref (a_NUMERIC_EQUALS Z)), (.ref (a_NUMERIC_LESS_THAN Z)), (.ref (a_NUMERIC_LESS_THAN_EQUALS Z)), (.ref (a_NUMERIC_GREATER_THAN Z)), (.ref (a_NUMERIC_GREATER_THAN_EQUALS Z)), (.ref (a_DATE_EQUALS Z)), (.ref (a_DATE_EQUALS Z)), (.ref (a_DATE_LESS_THAN Z)), (.ref (a_DATE_LESS_THAN_EQUALS Z)), (.ref (a_DATE_GREATER_THAN Z)), (.ref (a_DATE_GREATER_THAN_EQUALS Z)), (.ref (a_BOOL Z)), .null] .null := V98'
  obtain ⟨T99, X99, e99, st99⟩ := getS2 X98 hx hZ hown (host := "") (Or.inl (hw _ (List.mem_of_getElem? (i := 48) rfl))) Via.refl e98 ((s_a_NULL hS).ext O98.2) (g := (mkF m 317 #[oI p0, oR b7, oU, oU, oU, oU] [(.int (22 : Int32)), (.ref b54), (.ref b54)])) rfl (hb hby at_317)
  obtain ⟨T100, h100, X100, e100, W100, V100', st100⟩ := own_stR X99 hx hZ e99 V98 Ov54 (Ins.of_exa ((e_a_NULL hS).ext O98.2) (hw _ (List.mem_of_getElem? (i := 5) rfl))) (j := (22 : Int32)) ⟨by decide, by decide⟩ rfl (by decide : ((22 : Int32) : Int32).toNatClampNeg < 23) (g := (mkF m 320 #[oI p0, oR b7, oU, oU, oU, oU] [(.ref (a_NULL Z)), (.int (22 : Int32)), (.ref b54), (.ref b54)])) rfl rfl (hb hby at_320)
  have N100 := Fr.snoc X100 N98 g_b54
  have O100 := O98.wr W100 g_b54
  have Kc100 := Kc98.wr W100 (Or.inr sz_b54)
  have V100 : Arv Z h100 b54 k54 (.object "com/example/menshen/menshen/policy/ConditionOperator") (23 : Int32) [(.ref (a_STRING_EQUALS Z)), (.ref (a_STRING_EQUALS Z)), (.ref (a_STRING_EQUALS Z)), (.ref (a_STRING_EQUALS_IGNORE_CASE Z)), (.ref (a_STRING_EQUALS_IGNORE_CASE Z)), (.ref (a_STRING_LIKE Z)), (.ref (a_STRING_LIKE Z)), (.ref (a_IP_ADDRESS Z)), (.ref (a_IP_ADDRESS Z)), (.ref (a_NUMERIC_EQUALS Z)), (.ref (a_NUMERIC_EQUALS Z)), (.ref (a_NUMERIC_LESS_THAN Z)), (.ref (a_NUMERIC_LESS_THAN_EQUALS Z)), (.ref (a_NUMERIC_GREATER_THAN Z)), (.ref (a_NUMERIC_GREATER_THAN_EQUALS Z)), (.ref (a_DATE_EQUALS Z)), (.ref (a_DATE_EQUALS Z)), (.ref (a_DATE_LESS_THAN Z)), (.ref (a_DATE_LESS_THAN_EQUALS Z)), (.ref (a_DATE_GREATER_THAN Z)), (.ref (a_DATE_GREATER_THAN_EQUALS Z)), (.ref (a_BOOL Z)), (.ref (a_NULL Z))] .null := V100'
  obtain ⟨i, hi⟩ : ∃ z, z = ((p0 &&& (2147483647 : Int32)) - ((p0 &&& (2147483647 : Int32)) / (23 : Int32)) * (23 : Int32)) := ⟨_, rfl⟩
  have ri : i = (0 : Int32) ∨ i = (1 : Int32) ∨ i = (2 : Int32) ∨ i = (3 : Int32) ∨ i = (4 : Int32) ∨ i = (5 : Int32) ∨ i = (6 : Int32) ∨ i = (7 : Int32) ∨ i = (8 : Int32) ∨ i = (9 : Int32) ∨ i = (10 : Int32) ∨ i = (11 : Int32) ∨ i = (12 : Int32) ∨ i = (13 : Int32) ∨ i = (14 : Int32) ∨ i = (15 : Int32) ∨ i = (16 : Int32) ∨ i = (17 : Int32) ∨ i = (18 : Int32) ∨ i = (19 : Int32) ∨ i = (20 : Int32) ∨ i = (21 : Int32) ∨ i = (22 : Int32) := by rw [hi]; exact rng_rem23 p0
  have pre101 : ∀ t, oP p e below T100 (mkF m 329 #[oI p0, oR b7, oR b54, oU, oU, oU] [(.int i)]) t → oP p e below s₁ (entryFrame m #[(.int p0)] maxLocals) t := fun t k => pre0 t (by
    show oP p e below s₁ (mkF m 0 #[oI p0, oU, oU, oU, oU, oU] []) _
    refine XS.bipush X0.here hx rfl (hb hby at_0) ?_
    show oP p e below s₁ (mkF m 2 #[oI p0, oU, oU, oU, oU, oU] [(.int (23 : Int32))]) _
    refine st7 _ ?_
    show oP p e below T7 (mkF m 5 #[oI p0, oU, oU, oU, oU, oU] [(.ref b7)]) _
    refine XS.dup X7.here hx rfl (hb hby at_5) rfl rfl ?_
    show oP p e below T7 (mkF m 6 #[oI p0, oU, oU, oU, oU, oU] [(.ref b7), (.ref b7)]) _
    refine XS.iconst X7.here hx rfl (hb hby at_6) ?_
    show oP p e below T7 (mkF m 7 #[oI p0, oU, oU, oU, oU, oU] [(.int (0 : Int32)), (.ref b7), (.ref b7)]) _
    refine st8 _ ?_
    show oP p e below T8 (mkF m 10 #[oI p0, oU, oU, oU, oU, oU] [(.ref (a_STRING_EQUALS Z)), (.int (0 : Int32)), (.ref b7), (.ref b7)]) _
    refine st9 _ ?_
    show oP p e below T9 (mkF m 11 #[oI p0, oU, oU, oU, oU, oU] [(.ref b7)]) _
    refine XS.dup X9.here hx rfl (hb hby at_11) rfl rfl ?_
    show oP p e below T9 (mkF m 12 #[oI p0, oU, oU, oU, oU, oU] [(.ref b7), (.ref b7)]) _
    refine XS.iconst X9.here hx rfl (hb hby at_12) ?_
    show oP p e below T9 (mkF m 13 #[oI p0, oU, oU, oU, oU, oU] [(.int (1 : Int32)), (.ref b7), (.ref b7)]) _
    refine st10 _ ?_
    show oP p e below T10 (mkF m 16 #[oI p0, oU, oU, oU, oU, oU] [(.ref (a_STRING_NOT_EQUALS Z)), (.int (1 : Int32)), (.ref b7), (.ref b7)]) _
    refine st11 _ ?_
    show oP p e below T11 (mkF m 17 #[oI p0, oU, oU, oU, oU, oU] [(.ref b7)]) _
    refine XS.dup X11.here hx rfl (hb hby at_17) rfl rfl ?_
    show oP p e below T11 (mkF m 18 #[oI p0, oU, oU, oU, oU, oU] [(.ref b7), (.ref b7)]) _
    refine XS.iconst X11.here hx rfl (hb hby at_18) ?_
    show oP p e below T11 (mkF m 19 #[oI p0, oU, oU, oU, oU, oU] [(.int (2 : Int32)), (.ref b7), (.ref b7)]) _
    refine st12 _ ?_
    show oP p e below T12 (mkF m 22 #[oI p0, oU, oU, oU, oU, oU] [(.ref (a_NOT_STRING_EQUALS Z)), (.int (2 : Int32)), (.ref b7), (.ref b7)]) _
    refine st13 _ ?_
    show oP p e below T13 (mkF m 23 #[oI p0, oU, oU, oU, oU, oU] [(.ref b7)]) _
    refine XS.dup X13.here hx rfl (hb hby at_23) rfl rfl ?_
    show oP p e below T13 (mkF m 24 #[oI p0, oU, oU, oU, oU, oU] [(.ref b7), (.ref b7)]) _
    refine XS.iconst X13.here hx rfl (hb hby at_24) ?_
    show oP p e below T13 (mkF m 25 #[oI p0, oU, oU, oU, oU, oU] [(.int (3 : Int32)), (.ref b7), (.ref b7)]) _
    refine st14 _ ?_
    show oP p e below T14 (mkF m 28 #[oI p0, oU, oU, oU, oU, oU] [(.ref (a_STRING_EQUALS_IGNORE_CASE Z)), (.int (3 : Int32)), (.ref b7), (.ref b7)]) _
    refine st15 _ ?_
    show oP p e below T15 (mkF m 29 #[oI p0, oU, oU, oU, oU, oU] [(.ref b7)]) _
    refine XS.dup X15.here hx rfl (hb hby at_29) rfl rfl ?_
    show oP p e below T15 (mkF m 30 #[oI p0, oU, oU, oU, oU, oU] [(.ref b7), (.ref b7)]) _
    refine XS.iconst X15.here hx rfl (hb hby at_30) ?_
    show oP p e below T15 (mkF m 31 #[oI p0, oU, oU, oU, oU, oU] [(.int (4 : Int32)), (.ref b7), (.ref b7)]) _
    refine st16 _ ?_
    show oP p e below T16 (mkF m 34 #[oI p0, oU, oU, oU, oU, oU] [(.ref (a_STRING_NOT_EQUALS_IGNORE_CASE Z)), (.int (4 : Int32)), (.ref b7), (.ref b7)]) _
    refine st17 _ ?_
    show oP p e below T17 (mkF m 35 #[oI p0, oU, oU, oU, oU, oU] [(.ref b7)]) _
    refine XS.dup X17.here hx rfl (hb hby at_35) rfl rfl ?_
    show oP p e below T17 (mkF m 36 #[oI p0, oU, oU, oU, oU, oU] [(.ref b7), (.ref b7)]) _
    refine XS.iconst X17.here hx rfl (hb hby at_36) ?_
    show oP p e below T17 (mkF m 37 #[oI p0, oU, oU, oU, oU, oU] [(.int (5 : Int32)), (.ref b7), (.ref b7)]) _
    refine st18 _ ?_
    show oP p e below T18 (mkF m 40 #[oI p0, oU, oU, oU, oU, oU] [(.ref (a_STRING_LIKE Z)), (.int (5 : Int32)), (.ref b7), (.ref b7)]) _
    refine st19 _ ?_
    show oP p e below T19 (mkF m 41 #[oI p0, oU, oU, oU, oU, oU] [(.ref b7)]) _
    refine XS.dup X19.here hx rfl (hb hby at_41) rfl rfl ?_
    show oP p e below T19 (mkF m 42 #[oI p0, oU, oU, oU, oU, oU] [(.ref b7), (.ref b7)]) _
    refine XS.bipush X19.here hx rfl (hb hby at_42) ?_
    show oP p e below T19 (mkF m 44 #[oI p0, oU, oU, oU, oU, oU] [(.int (6 : Int32)), (.ref b7), (.ref b7)]) _
    refine st20 _ ?_
    show oP p e below T20 (mkF m 47 #[oI p0, oU, oU, oU, oU, oU] [(.ref (a_STRING_NOT_LIKE Z)), (.int (6 : Int32)), (.ref b7), (.ref b7)]) _
    refine st21 _ ?_
    show oP p e below T21 (mkF m 48 #[oI p0, oU, oU, oU, oU, oU] [(.ref b7)]) _
    refine XS.dup X21.here hx rfl (hb hby at_48) rfl rfl ?_
    show oP p e below T21 (mkF m 49 #[oI p0, oU, oU, oU, oU, oU] [(.ref b7), (.ref b7)]) _
    refine XS.bipush X21.here hx rfl (hb hby at_49) ?_
    show oP p e below T21 (mkF m 51 #[oI p0, oU, oU, oU, oU, oU] [(.int (7 : Int32)), (.ref b7), (.ref b7)]) _
    refine st22 _ ?_
    show oP p e below T22 (mkF m 54 #[oI p0, oU, oU, oU, oU, oU] [(.ref (a_IP_ADDRESS Z)), (.int (7 : Int32)), (.ref b7), (.ref b7)]) _
    refine st23 _ ?_
    show oP p e below T23 (mkF m 55 #[oI p0, oU, oU, oU, oU, oU] [(.ref b7)]) _
    refine XS.dup X23.here hx rfl (hb hby at_55) rfl rfl ?_
    show oP p e below T23 (mkF m 56 #[oI p0, oU, oU, oU, oU, oU] [(.ref b7), (.ref b7)]) _
    refine XS.bipush X23.here hx rfl (hb hby at_56) ?_
    show oP p e below T23 (mkF m 58 #[oI p0, oU, oU, oU, oU, oU] [(.int (8 : Int32)), (.ref b7), (.ref b7)]) _
    refine st24 _ ?_
    show oP p e below T24 (mkF m 61 #[oI p0, oU, oU, oU, oU, oU] [(.ref (a_NOT_IP_ADDRESS Z)), (.int (8 : Int32)), (.ref b7), (.ref b7)]) _
    refine st25 _ ?_
    show oP p e below T25 (mkF m 62 #[oI p0, oU, oU, oU, oU, oU] [(.ref b7)]) _
    refine XS.dup X25.here hx rfl (hb hby at_62) rfl rfl ?_
    show oP p e below T25 (mkF m 63 #[oI p0, oU, oU, oU, oU, oU] [(.ref b7), (.ref b7)]) _
    refine XS.bipush X25.here hx rfl (hb hby at_63) ?_
    show oP p e below T25 (mkF m 65 #[oI p0, oU, oU, oU, oU, oU] [(.int (9 : Int32)), (.ref b7), (.ref b7)]) _
    refine st26 _ ?_
    show oP p e below T26 (mkF m 68 #[oI p0, oU, oU, oU, oU, oU] [(.ref (a_NUMERIC_EQUALS Z)), (.int (9 : Int32)), (.ref b7), (.ref b7)]) _
    refine st27 _ ?_
    show oP p e below T27 (mkF m 69 #[oI p0, oU, oU, oU, oU, oU] [(.ref b7)]) _
    refine XS.dup X27.here hx rfl (hb hby at_69) rfl rfl ?_
    show oP p e below T27 (mkF m 70 #[oI p0, oU, oU, oU, oU, oU] [(.ref b7), (.ref b7)]) _
    refine XS.bipush X27.here hx rfl (hb hby at_70) ?_
    show oP p e below T27 (mkF m 72 #[oI p0, oU, oU, oU, oU, oU] [(.int (10 : Int32)), (.ref b7), (.ref b7)]) _
    refine st28 _ ?_
    show oP p e below T28 (mkF m 75 #[oI p0, oU, oU, oU, oU, oU] [(.ref (a_NUMERIC_NOT_EQUALS Z)), (.int (10 : Int32)), (.ref b7), (.ref b7)]) _
    refine st29 _ ?_
    show oP p e below T29 (mkF m 76 #[oI p0, oU, oU, oU, oU, oU] [(.ref b7)]) _
    refine XS.dup X29.here hx rfl (hb hby at_76) rfl rfl ?_
    show oP p e below T29 (mkF m 77 #[oI p0, oU, oU, oU, oU, oU] [(.ref b7), (.ref b7)]) _
    refine XS.bipush X29.here hx rfl (hb hby at_77) ?_
    show oP p e below T29 (mkF m 79 #[oI p0, oU, oU, oU, oU, oU] [(.int (11 : Int32)), (.ref b7), (.ref b7)]) _
    refine st30 _ ?_
    show oP p e below T30 (mkF m 82 #[oI p0, oU, oU, oU, oU, oU] [(.ref (a_NUMERIC_LESS_THAN Z)), (.int (11 : Int32)), (.ref b7), (.ref b7)]) _
    refine st31 _ ?_
    show oP p e below T31 (mkF m 83 #[oI p0, oU, oU, oU, oU, oU] [(.ref b7)]) _
    refine XS.dup X31.here hx rfl (hb hby at_83) rfl rfl ?_
    show oP p e below T31 (mkF m 84 #[oI p0, oU, oU, oU, oU, oU] [(.ref b7), (.ref b7)]) _
    refine XS.bipush X31.here hx rfl (hb hby at_84) ?_
    show oP p e below T31 (mkF m 86 #[oI p0, oU, oU, oU, oU, oU] [(.int (12 : Int32)), (.ref b7), (.ref b7)]) _
    refine st32 _ ?_
    show oP p e below T32 (mkF m 89 #[oI p0, oU, oU, oU, oU, oU] [(.ref (a_NUMERIC_LESS_THAN_EQUALS Z)), (.int (12 : Int32)), (.ref b7), (.ref b7)]) _
    refine st33 _ ?_
    show oP p e below T33 (mkF m 90 #[oI p0, oU, oU, oU, oU, oU] [(.ref b7)]) _
    refine XS.dup X33.here hx rfl (hb hby at_90) rfl rfl ?_
    show oP p e below T33 (mkF m 91 #[oI p0, oU, oU, oU, oU, oU] [(.ref b7), (.ref b7)]) _
    refine XS.bipush X33.here hx rfl (hb hby at_91) ?_
    show oP p e below T33 (mkF m 93 #[oI p0, oU, oU, oU, oU, oU] [(.int (13 : Int32)), (.ref b7), (.ref b7)]) _
    refine st34 _ ?_
    show oP p e below T34 (mkF m 96 #[oI p0, oU, oU, oU, oU, oU] [(.ref (a_NUMERIC_GREATER_THAN Z)), (.int (13 : Int32)), (.ref b7), (.ref b7)]) _
    refine st35 _ ?_
    show oP p e below T35 (mkF m 97 #[oI p0, oU, oU, oU, oU, oU] [(.ref b7)]) _
    refine XS.dup X35.here hx rfl (hb hby at_97) rfl rfl ?_
    show oP p e below T35 (mkF m 98 #[oI p0, oU, oU, oU, oU, oU] [(.ref b7), (.ref b7)]) _
    refine XS.bipush X35.here hx rfl (hb hby at_98) ?_
    show oP p e below T35 (mkF m 100 #[oI p0, oU, oU, oU, oU, oU] [(.int (14 : Int32)), (.ref b7), (.ref b7)]) _
    refine st36 _ ?_
    show oP p e below T36 (mkF m 103 #[oI p0, oU, oU, oU, oU, oU] [(.ref (a_NUMERIC_GREATER_THAN_EQUALS Z)), (.int (14 : Int32)), (.ref b7), (.ref b7)]) _
    refine st37 _ ?_
    show oP p e below T37 (mkF m 104 #[oI p0, oU, oU, oU, oU, oU] [(.ref b7)]) _
    refine XS.dup X37.here hx rfl (hb hby at_104) rfl rfl ?_
    show oP p e below T37 (mkF m 105 #[oI p0, oU, oU, oU, oU, oU] [(.ref b7), (.ref b7)]) _
    refine XS.bipush X37.here hx rfl (hb hby at_105) ?_
    show oP p e below T37 (mkF m 107 #[oI p0, oU, oU, oU, oU, oU] [(.int (15 : Int32)), (.ref b7), (.ref b7)]) _
    refine st38 _ ?_
    show oP p e below T38 (mkF m 110 #[oI p0, oU, oU, oU, oU, oU] [(.ref (a_DATE_EQUALS Z)), (.int (15 : Int32)), (.ref b7), (.ref b7)]) _
    refine st39 _ ?_
    show oP p e below T39 (mkF m 111 #[oI p0, oU, oU, oU, oU, oU] [(.ref b7)]) _
    refine XS.dup X39.here hx rfl (hb hby at_111) rfl rfl ?_
    show oP p e below T39 (mkF m 112 #[oI p0, oU, oU, oU, oU, oU] [(.ref b7), (.ref b7)]) _
    refine XS.bipush X39.here hx rfl (hb hby at_112) ?_
    show oP p e below T39 (mkF m 114 #[oI p0, oU, oU, oU, oU, oU] [(.int (16 : Int32)), (.ref b7), (.ref b7)]) _
    refine st40 _ ?_
    show oP p e below T40 (mkF m 117 #[oI p0, oU, oU, oU, oU, oU] [(.ref (a_DATE_NOT_EQUALS Z)), (.int (16 : Int32)), (.ref b7), (.ref b7)]) _
    refine st41 _ ?_
    show oP p e below T41 (mkF m 118 #[oI p0, oU, oU, oU, oU, oU] [(.ref b7)]) _
    refine XS.dup X41.here hx rfl (hb hby at_118) rfl rfl ?_
    show oP p e below T41 (mkF m 119 #[oI p0, oU, oU, oU, oU, oU] [(.ref b7), (.ref b7)]) _
    refine XS.bipush X41.here hx rfl (hb hby at_119) ?_
    show oP p e below T41 (mkF m 121 #[oI p0, oU, oU, oU, oU, oU] [(.int (17 : Int32)), (.ref b7), (.ref b7)]) _
    refine st42 _ ?_
    show oP p e below T42 (mkF m 124 #[oI p0, oU, oU, oU, oU, oU] [(.ref (a_DATE_LESS_THAN Z)), (.int (17 : Int32)), (.ref b7), (.ref b7)]) _
    refine st43 _ ?_
    show oP p e below T43 (mkF m 125 #[oI p0, oU, oU, oU, oU, oU] [(.ref b7)]) _
    refine XS.dup X43.here hx rfl (hb hby at_125) rfl rfl ?_
    show oP p e below T43 (mkF m 126 #[oI p0, oU, oU, oU, oU, oU] [(.ref b7), (.ref b7)]) _
    refine XS.bipush X43.here hx rfl (hb hby at_126) ?_
    show oP p e below T43 (mkF m 128 #[oI p0, oU, oU, oU, oU, oU] [(.int (18 : Int32)), (.ref b7), (.ref b7)]) _
    refine st44 _ ?_
    show oP p e below T44 (mkF m 131 #[oI p0, oU, oU, oU, oU, oU] [(.ref (a_DATE_LESS_THAN_EQUALS Z)), (.int (18 : Int32)), (.ref b7), (.ref b7)]) _
    refine st45 _ ?_
    show oP p e below T45 (mkF m 132 #[oI p0, oU, oU, oU, oU, oU] [(.ref b7)]) _
    refine XS.dup X45.here hx rfl (hb hby at_132) rfl rfl ?_
    show oP p e below T45 (mkF m 133 #[oI p0, oU, oU, oU, oU, oU] [(.ref b7), (.ref b7)]) _
    refine XS.bipush X45.here hx rfl (hb hby at_133) ?_
    show oP p e below T45 (mkF m 135 #[oI p0, oU, oU, oU, oU, oU] [(.int (19 : Int32)), (.ref b7), (.ref b7)]) _
    refine st46 _ ?_
    show oP p e below T46 (mkF m 138 #[oI p0, oU, oU, oU, oU, oU] [(.ref (a_DATE_GREATER_THAN Z)), (.int (19 : Int32)), (.ref b7), (.ref b7)]) _
    refine st47 _ ?_
    show oP p e below T47 (mkF m 139 #[oI p0, oU, oU, oU, oU, oU] [(.ref b7)]) _
    refine XS.dup X47.here hx rfl (hb hby at_139) rfl rfl ?_
    show oP p e below T47 (mkF m 140 #[oI p0, oU, oU, oU, oU, oU] [(.ref b7), (.ref b7)]) _
    refine XS.bipush X47.here hx rfl (hb hby at_140) ?_
    show oP p e below T47 (mkF m 142 #[oI p0, oU, oU, oU, oU, oU] [(.int (20 : Int32)), (.ref b7), (.ref b7)]) _
    refine st48 _ ?_
    show oP p e below T48 (mkF m 145 #[oI p0, oU, oU, oU, oU, oU] [(.ref (a_DATE_GREATER_THAN_EQUALS Z)), (.int (20 : Int32)), (.ref b7), (.ref b7)]) _
    refine st49 _ ?_
    show oP p e below T49 (mkF m 146 #[oI p0, oU, oU, oU, oU, oU] [(.ref b7)]) _
    refine XS.dup X49.here hx rfl (hb hby at_146) rfl rfl ?_
    show oP p e below T49 (mkF m 147 #[oI p0, oU, oU, oU, oU, oU] [(.ref b7), (.ref b7)]) _
    refine XS.bipush X49.here hx rfl (hb hby at_147) ?_
    show oP p e below T49 (mkF m 149 #[oI p0, oU, oU, oU, oU, oU] [(.int (21 : Int32)), (.ref b7), (.ref b7)]) _
    refine st50 _ ?_
    show oP p e below T50 (mkF m 152 #[oI p0, oU, oU, oU, oU, oU] [(.ref (a_BOOL Z)), (.int (21 : Int32)), (.ref b7), (.ref b7)]) _
    refine st51 _ ?_
    show oP p e below T51 (mkF m 153 #[oI p0, oU, oU, oU, oU, oU] [(.ref b7)]) _
    refine XS.dup X51.here hx rfl (hb hby at_153) rfl rfl ?_
    show oP p e below T51 (mkF m 154 #[oI p0, oU, oU, oU, oU, oU] [(.ref b7), (.ref b7)]) _
    refine XS.bipush X51.here hx rfl (hb hby at_154) ?_
    show oP p e below T51 (mkF m 156 #[oI p0, oU, oU, oU, oU, oU] [(.int (22 : Int32)), (.ref b7), (.ref b7)]) _
    refine st52 _ ?_
    show oP p e below T52 (mkF m 159 #[oI p0, oU, oU, oU, oU, oU] [(.ref (a_NULL Z)), (.int (22 : Int32)), (.ref b7), (.ref b7)]) _
    refine st53 _ ?_
    show oP p e below T53 (mkF m 160 #[oI p0, oU, oU, oU, oU, oU] [(.ref b7)]) _
    refine XS.astoreN X53.here hx rfl (hb hby at_160) rfl rfl (l' := #[oI p0, oR b7, oU, oU, oU, oU]) rfl ?_
    show oP p e below T53 (mkF m 161 #[oI p0, oR b7, oU, oU, oU, oU] []) _
    refine XS.bipush X53.here hx rfl (hb hby at_161) ?_
    show oP p e below T53 (mkF m 163 #[oI p0, oR b7, oU, oU, oU, oU] [(.int (23 : Int32))]) _
    refine st54 _ ?_
    show oP p e below T54 (mkF m 166 #[oI p0, oR b7, oU, oU, oU, oU] [(.ref b54)]) _
    refine XS.dup X54.here hx rfl (hb hby at_166) rfl rfl ?_
    show oP p e below T54 (mkF m 167 #[oI p0, oR b7, oU, oU, oU, oU] [(.ref b54), (.ref b54)]) _
    refine XS.iconst X54.here hx rfl (hb hby at_167) ?_
    show oP p e below T54 (mkF m 168 #[oI p0, oR b7, oU, oU, oU, oU] [(.int (0 : Int32)), (.ref b54), (.ref b54)]) _
    refine st55 _ ?_
    show oP p e below T55 (mkF m 171 #[oI p0, oR b7, oU, oU, oU, oU] [(.ref (a_STRING_EQUALS Z)), (.int (0 : Int32)), (.ref b54), (.ref b54)]) _
    refine st56 _ ?_
    show oP p e below T56 (mkF m 172 #[oI p0, oR b7, oU, oU, oU, oU] [(.ref b54)]) _
    refine XS.dup X56.here hx rfl (hb hby at_172) rfl rfl ?_
    show oP p e below T56 (mkF m 173 #[oI p0, oR b7, oU, oU, oU, oU] [(.ref b54), (.ref b54)]) _
    refine XS.iconst X56.here hx rfl (hb hby at_173) ?_
    show oP p e below T56 (mkF m 174 #[oI p0, oR b7, oU, oU, oU, oU] [(.int (1 : Int32)), (.ref b54), (.ref b54)]) _
    refine st57 _ ?_
    show oP p e below T57 (mkF m 177 #[oI p0, oR b7, oU, oU, oU, oU] [(.ref (a_STRING_EQUALS Z)), (.int (1 : Int32)), (.ref b54), (.ref b54)]) _
    refine st58 _ ?_
    show oP p e below T58 (mkF m 178 #[oI p0, oR b7, oU, oU, oU, oU] [(.ref b54)]) _
    refine XS.dup X58.here hx rfl (hb hby at_178) rfl rfl ?_
    show oP p e below T58 (mkF m 179 #[oI p0, oR b7, oU, oU, oU, oU] [(.ref b54), (.ref b54)]) _
    refine XS.iconst X58.here hx rfl (hb hby at_179) ?_
    show oP p e below T58 (mkF m 180 #[oI p0, oR b7, oU, oU, oU, oU] [(.int (2 : Int32)), (.ref b54), (.ref b54)]) _
    refine st59 _ ?_
    show oP p e below T59 (mkF m 183 #[oI p0, oR b7, oU, oU, oU, oU] [(.ref (a_STRING_EQUALS Z)), (.int (2 : Int32)), (.ref b54), (.ref b54)]) _
    refine st60 _ ?_
    show oP p e below T60 (mkF m 184 #[oI p0, oR b7, oU, oU, oU, oU] [(.ref b54)]) _
    refine XS.dup X60.here hx rfl (hb hby at_184) rfl rfl ?_
    show oP p e below T60 (mkF m 185 #[oI p0, oR b7, oU, oU, oU, oU] [(.ref b54), (.ref b54)]) _
    refine XS.iconst X60.here hx rfl (hb hby at_185) ?_
    show oP p e below T60 (mkF m 186 #[oI p0, oR b7, oU, oU, oU, oU] [(.int (3 : Int32)), (.ref b54), (.ref b54)]) _
    refine st61 _ ?_
    show oP p e below T61 (mkF m 189 #[oI p0, oR b7, oU, oU, oU, oU] [(.ref (a_STRING_EQUALS_IGNORE_CASE Z)), (.int (3 : Int32)), (.ref b54), (.ref b54)]) _
    refine st62 _ ?_
    show oP p e below T62 (mkF m 190 #[oI p0, oR b7, oU, oU, oU, oU] [(.ref b54)]) _
    refine XS.dup X62.here hx rfl (hb hby at_190) rfl rfl ?_
    show oP p e below T62 (mkF m 191 #[oI p0, oR b7, oU, oU, oU, oU] [(.ref b54), (.ref b54)]) _
    refine XS.iconst X62.here hx rfl (hb hby at_191) ?_
    show oP p e below T62 (mkF m 192 #[oI p0, oR b7, oU, oU, oU, oU] [(.int (4 : Int32)), (.ref b54), (.ref b54)]) _
    refine st63 _ ?_
    show oP p e below T63 (mkF m 195 #[oI p0, oR b7, oU, oU, oU, oU] [(.ref (a_STRING_EQUALS_IGNORE_CASE Z)), (.int (4 : Int32)), (.ref b54), (.ref b54)]) _
    refine st64 _ ?_
    show oP p e below T64 (mkF m 196 #[oI p0, oR b7, oU, oU, oU, oU] [(.ref b54)]) _
    refine XS.dup X64.here hx rfl (hb hby at_196) rfl rfl ?_
    show oP p e below T64 (mkF m 197 #[oI p0, oR b7, oU, oU, oU, oU] [(.ref b54), (.ref b54)]) _
    refine XS.iconst X64.here hx rfl (hb hby at_197) ?_
    show oP p e below T64 (mkF m 198 #[oI p0, oR b7, oU, oU, oU, oU] [(.int (5 : Int32)), (.ref b54), (.ref b54)]) _
    refine st65 _ ?_
    show oP p e below T65 (mkF m 201 #[oI p0, oR b7, oU, oU, oU, oU] [(.ref (a_STRING_LIKE Z)), (.int (5 : Int32)), (.ref b54), (.ref b54)]) _
    refine st66 _ ?_
    show oP p e below T66 (mkF m 202 #[oI p0, oR b7, oU, oU, oU, oU] [(.ref b54)]) _
    refine XS.dup X66.here hx rfl (hb hby at_202) rfl rfl ?_
    show oP p e below T66 (mkF m 203 #[oI p0, oR b7, oU, oU, oU, oU] [(.ref b54), (.ref b54)]) _
    refine XS.bipush X66.here hx rfl (hb hby at_203) ?_
    show oP p e below T66 (mkF m 205 #[oI p0, oR b7, oU, oU, oU, oU] [(.int (6 : Int32)), (.ref b54), (.ref b54)]) _
    refine st67 _ ?_
    show oP p e below T67 (mkF m 208 #[oI p0, oR b7, oU, oU, oU, oU] [(.ref (a_STRING_LIKE Z)), (.int (6 : Int32)), (.ref b54), (.ref b54)]) _
    refine st68 _ ?_
    show oP p e below T68 (mkF m 209 #[oI p0, oR b7, oU, oU, oU, oU] [(.ref b54)]) _
    refine XS.dup X68.here hx rfl (hb hby at_209) rfl rfl ?_
    show oP p e below T68 (mkF m 210 #[oI p0, oR b7, oU, oU, oU, oU] [(.ref b54), (.ref b54)]) _
    refine XS.bipush X68.here hx rfl (hb hby at_210) ?_
    show oP p e below T68 (mkF m 212 #[oI p0, oR b7, oU, oU, oU, oU] [(.int (7 : Int32)), (.ref b54), (.ref b54)]) _
    refine st69 _ ?_
    show oP p e below T69 (mkF m 215 #[oI p0, oR b7, oU, oU, oU, oU] [(.ref (a_IP_ADDRESS Z)), (.int (7 : Int32)), (.ref b54), (.ref b54)]) _
    refine st70 _ ?_
    show oP p e below T70 (mkF m 216 #[oI p0, oR b7, oU, oU, oU, oU] [(.ref b54)]) _
    refine XS.dup X70.here hx rfl (hb hby at_216) rfl rfl ?_
    show oP p e below T70 (mkF m 217 #[oI p0, oR b7, oU, oU, oU, oU] [(.ref b54), (.ref b54)]) _
    refine XS.bipush X70.here hx rfl (hb hby at_217) ?_
    show oP p e below T70 (mkF m 219 #[oI p0, oR b7, oU, oU, oU, oU] [(.int (8 : Int32)), (.ref b54), (.ref b54)]) _
    refine st71 _ ?_
    show oP p e below T71 (mkF m 222 #[oI p0, oR b7, oU, oU, oU, oU] [(.ref (a_IP_ADDRESS Z)), (.int (8 : Int32)), (.ref b54), (.ref b54)]) _
    refine st72 _ ?_
    show oP p e below T72 (mkF m 223 #[oI p0, oR b7, oU, oU, oU, oU] [(.ref b54)]) _
    refine XS.dup X72.here hx rfl (hb hby at_223) rfl rfl ?_
    show oP p e below T72 (mkF m 224 #[oI p0, oR b7, oU, oU, oU, oU] [(.ref b54), (.ref b54)]) _
    refine XS.bipush X72.here hx rfl (hb hby at_224) ?_
    show oP p e below T72 (mkF m 226 #[oI p0, oR b7, oU, oU, oU, oU] [(.int (9 : Int32)), (.ref b54), (.ref b54)]) _
    refine st73 _ ?_
    show oP p e below T73 (mkF m 229 #[oI p0, oR b7, oU, oU, oU, oU] [(.ref (a_NUMERIC_EQUALS Z)), (.int (9 : Int32)), (.ref b54), (.ref b54)]) _
    refine st74 _ ?_
    show oP p e below T74 (mkF m 230 #[oI p0, oR b7, oU, oU, oU, oU] [(.ref b54)]) _
    refine XS.dup X74.here hx rfl (hb hby at_230) rfl rfl ?_
    show oP p e below T74 (mkF m 231 #[oI p0, oR b7, oU, oU, oU, oU] [(.ref b54), (.ref b54)]) _
    refine XS.bipush X74.here hx rfl (hb hby at_231) ?_
    show oP p e below T74 (mkF m 233 #[oI p0, oR b7, oU, oU, oU, oU] [(.int (10 : Int32)), (.ref b54), (.ref b54)]) _
    refine st75 _ ?_
    show oP p e below T75 (mkF m 236 #[oI p0, oR b7, oU, oU, oU, oU] [(.ref (a_NUMERIC_EQUALS Z)), (.int (10 : Int32)), (.ref b54), (.ref b54)]) _
    refine st76 _ ?_
    show oP p e below T76 (mkF m 237 #[oI p0, oR b7, oU, oU, oU, oU] [(.ref b54)]) _
    refine XS.dup X76.here hx rfl (hb hby at_237) rfl rfl ?_
    show oP p e below T76 (mkF m 238 #[oI p0, oR b7, oU, oU, oU, oU] [(.ref b54), (.ref b54)]) _
    refine XS.bipush X76.here hx rfl (hb hby at_238) ?_
    show oP p e below T76 (mkF m 240 #[oI p0, oR b7, oU, oU, oU, oU] [(.int (11 : Int32)), (.ref b54), (.ref b54)]) _
    refine st77 _ ?_
    show oP p e below T77 (mkF m 243 #[oI p0, oR b7, oU, oU, oU, oU] [(.ref (a_NUMERIC_LESS_THAN Z)), (.int (11 : Int32)), (.ref b54), (.ref b54)]) _
    refine st78 _ ?_
    show oP p e below T78 (mkF m 244 #[oI p0, oR b7, oU, oU, oU, oU] [(.ref b54)]) _
    refine XS.dup X78.here hx rfl (hb hby at_244) rfl rfl ?_
    show oP p e below T78 (mkF m 245 #[oI p0, oR b7, oU, oU, oU, oU] [(.ref b54), (.ref b54)]) _
    refine XS.bipush X78.here hx rfl (hb hby at_245) ?_
    show oP p e below T78 (mkF m 247 #[oI p0, oR b7, oU, oU, oU, oU] [(.int (12 : Int32)), (.ref b54), (.ref b54)]) _
    refine st79 _ ?_
    show oP p e below T79 (mkF m 250 #[oI p0, oR b7, oU, oU, oU, oU] [(.ref (a_NUMERIC_LESS_THAN_EQUALS Z)), (.int (12 : Int32)), (.ref b54), (.ref b54)]) _
    refine st80 _ ?_
    show oP p e below T80 (mkF m 251 #[oI p0, oR b7, oU, oU, oU, oU] [(.ref b54)]) _
    refine XS.dup X80.here hx rfl (hb hby at_251) rfl rfl ?_
    show oP p e below T80 (mkF m 252 #[oI p0, oR b7, oU, oU, oU, oU] [(.ref b54), (.ref b54)]) _
    refine XS.bipush X80.here hx rfl (hb hby at_252) ?_
    show oP p e below T80 (mkF m 254 #[oI p0, oR b7, oU, oU, oU, oU] [(.int (13 : Int32)), (.ref b54), (.ref b54)]) _
    refine st81 _ ?_
    show oP p e below T81 (mkF m 257 #[oI p0, oR b7, oU, oU, oU, oU] [(.ref (a_NUMERIC_GREATER_THAN Z)), (.int (13 : Int32)), (.ref b54), (.ref b54)]) _
    refine st82 _ ?_
    show oP p e below T82 (mkF m 258 #[oI p0, oR b7, oU, oU, oU, oU] [(.ref b54)]) _
    refine XS.dup X82.here hx rfl (hb hby at_258) rfl rfl ?_
    show oP p e below T82 (mkF m 259 #[oI p0, oR b7, oU, oU, oU, oU] [(.ref b54), (.ref b54)]) _
    refine XS.bipush X82.here hx rfl (hb hby at_259) ?_
    show oP p e below T82 (mkF m 261 #[oI p0, oR b7, oU, oU, oU, oU] [(.int (14 : Int32)), (.ref b54), (.ref b54)]) _
    refine st83 _ ?_
    show oP p e below T83 (mkF m 264 #[oI p0, oR b7, oU, oU, oU, oU] [(.ref (a_NUMERIC_GREATER_THAN_EQUALS Z)), (.int (14 : Int32)), (.ref b54), (.ref b54)]) _
    refine st84 _ ?_
    show oP p e below T84 (mkF m 265 #[oI p0, oR b7, oU, oU, oU, oU] [(.ref b54)]) _
    refine XS.dup X84.here hx rfl (hb hby at_265) rfl rfl ?_
    show oP p e below T84 (mkF m 266 #[oI p0, oR b7, oU, oU, oU, oU] [(.ref b54), (.ref b54)]) _
    refine XS.bipush X84.here hx rfl (hb hby at_266) ?_
    show oP p e below T84 (mkF m 268 #[oI p0, oR b7, oU, oU, oU, oU] [(.int (15 : Int32)), (.ref b54), (.ref b54)]) _
    refine st85 _ ?_
    show oP p e below T85 (mkF m 271 #[oI p0, oR b7, oU, oU, oU, oU] [(.ref (a_DATE_EQUALS Z)), (.int (15 : Int32)), (.ref b54), (.ref b54)]) _
    refine st86 _ ?_
    show oP p e below T86 (mkF m 272 #[oI p0, oR b7, oU, oU, oU, oU] [(.ref b54)]) _
    refine XS.dup X86.here hx rfl (hb hby at_272) rfl rfl ?_
    show oP p e below T86 (mkF m 273 #[oI p0, oR b7, oU, oU, oU, oU] [(.ref b54), (.ref b54)]) _
    refine XS.bipush X86.here hx rfl (hb hby at_273) ?_
    show oP p e below T86 (mkF m 275 #[oI p0, oR b7, oU, oU, oU, oU] [(.int (16 : Int32)), (.ref b54), (.ref b54)]) _
    refine st87 _ ?_
    show oP p e below T87 (mkF m 278 #[oI p0, oR b7, oU, oU, oU, oU] [(.ref (a_DATE_EQUALS Z)), (.int (16 : Int32)), (.ref b54), (.ref b54)]) _
    refine st88 _ ?_
    show oP p e below T88 (mkF m 279 #[oI p0, oR b7, oU, oU, oU, oU] [(.ref b54)]) _
    refine XS.dup X88.here hx rfl (hb hby at_279) rfl rfl ?_
    show oP p e below T88 (mkF m 280 #[oI p0, oR b7, oU, oU, oU, oU] [(.ref b54), (.ref b54)]) _
    refine XS.bipush X88.here hx rfl (hb hby at_280) ?_
    show oP p e below T88 (mkF m 282 #[oI p0, oR b7, oU, oU, oU, oU] [(.int (17 : Int32)), (.ref b54), (.ref b54)]) _
    refine st89 _ ?_
    show oP p e below T89 (mkF m 285 #[oI p0, oR b7, oU, oU, oU, oU] [(.ref (a_DATE_LESS_THAN Z)), (.int (17 : Int32)), (.ref b54), (.ref b54)]) _
    refine st90 _ ?_
    show oP p e below T90 (mkF m 286 #[oI p0, oR b7, oU, oU, oU, oU] [(.ref b54)]) _
    refine XS.dup X90.here hx rfl (hb hby at_286) rfl rfl ?_
    show oP p e below T90 (mkF m 287 #[oI p0, oR b7, oU, oU, oU, oU] [(.ref b54), (.ref b54)]) _
    refine XS.bipush X90.here hx rfl (hb hby at_287) ?_
    show oP p e below T90 (mkF m 289 #[oI p0, oR b7, oU, oU, oU, oU] [(.int (18 : Int32)), (.ref b54), (.ref b54)]) _
    refine st91 _ ?_
    show oP p e below T91 (mkF m 292 #[oI p0, oR b7, oU, oU, oU, oU] [(.ref (a_DATE_LESS_THAN_EQUALS Z)), (.int (18 : Int32)), (.ref b54), (.ref b54)]) _
    refine st92 _ ?_
    show oP p e below T92 (mkF m 293 #[oI p0, oR b7, oU, oU, oU, oU] [(.ref b54)]) _
    refine XS.dup X92.here hx rfl (hb hby at_293) rfl rfl ?_
    show oP p e below T92 (mkF m 294 #[oI p0, oR b7, oU, oU, oU, oU] [(.ref b54), (.ref b54)]) _
    refine XS.bipush X92.here hx rfl (hb hby at_294) ?_
    show oP p e below T92 (mkF m 296 #[oI p0, oR b7, oU, oU, oU, oU] [(.int (19 : Int32)), (.ref b54), (.ref b54)]) _
    refine st93 _ ?_
    show oP p e below T93 (mkF m 299 #[oI p0, oR b7, oU, oU, oU, oU] [(.ref (a_DATE_GREATER_THAN Z)), (.int (19 : Int32)), (.ref b54), (.ref b54)]) _
    refine st94 _ ?_
    show oP p e below T94 (mkF m 300 #[oI p0, oR b7, oU, oU, oU, oU] [(.ref b54)]) _
    refine XS.dup X94.here hx rfl (hb hby at_300) rfl rfl ?_
    show oP p e below T94 (mkF m 301 #[oI p0, oR b7, oU, oU, oU, oU] [(.ref b54), (.ref b54)]) _
    refine XS.bipush X94.here hx rfl (hb hby at_301) ?_
    show oP p e below T94 (mkF m 303 #[oI p0, oR b7, oU, oU, oU, oU] [(.int (20 : Int32)), (.ref b54), (.ref b54)]) _
    refine st95 _ ?_
    show oP p e below T95 (mkF m 306 #[oI p0, oR b7, oU, oU, oU, oU] [(.ref (a_DATE_GREATER_THAN_EQUALS Z)), (.int (20 : Int32)), (.ref b54), (.ref b54)]) _
    refine st96 _ ?_
    show oP p e below T96 (mkF m 307 #[oI p0, oR b7, oU, oU, oU, oU] [(.ref b54)]) _
    refine XS.dup X96.here hx rfl (hb hby at_307) rfl rfl ?_
    show oP p e below T96 (mkF m 308 #[oI p0, oR b7, oU, oU, oU, oU] [(.ref b54), (.ref b54)]) _
    refine XS.bipush X96.here hx rfl (hb hby at_308) ?_
    show oP p e below T96 (mkF m 310 #[oI p0, oR b7, oU, oU, oU, oU] [(.int (21 : Int32)), (.ref b54), (.ref b54)]) _
    refine st97 _ ?_
    show oP p e below T97 (mkF m 313 #[oI p0, oR b7, oU, oU, oU, oU] [(.ref (a_BOOL Z)), (.int (21 : Int32)), (.ref b54), (.ref b54)]) _
    refine st98 _ ?_
    show oP p e below T98 (mkF m 314 #[oI p0, oR b7, oU, oU, oU, oU] [(.ref b54)]) _
    refine XS.dup X98.here hx rfl (hb hby at_314) rfl rfl ?_
    show oP p e below T98 (mkF m 315 #[oI p0, oR b7, oU, oU, oU, oU] [(.ref b54), (.ref b54)]) _
    refine XS.bipush X98.here hx rfl (hb hby at_315) ?_
    show oP p e below T98 (mkF m 317 #[oI p0, oR b7, oU, oU, oU, oU] [(.int (22 : Int32)), (.ref b54), (.ref b54)]) _
    refine st99 _ ?_
    show oP p e below T99 (mkF m 320 #[oI p0, oR b7, oU, oU, oU, oU] [(.ref (a_NULL Z)), (.int (22 : Int32)), (.ref b54), (.ref b54)]) _
    refine st100 _ ?_
    show oP p e below T100 (mkF m 321 #[oI p0, oR b7, oU, oU, oU, oU] [(.ref b54)]) _
    refine XS.astoreN X100.here hx rfl (hb hby at_321) rfl rfl (l' := #[oI p0, oR b7, oR b54, oU, oU, oU]) rfl ?_
    show oP p e below T100 (mkF m 322 #[oI p0, oR b7, oR b54, oU, oU, oU] []) _
    refine XS.iloadN X100.here hx rfl (hb hby at_322) rfl ?_
    show oP p e below T100 (mkF m 323 #[oI p0, oR b7, oR b54, oU, oU, oU] [(.int p0)]) _
    refine X100.ldcInt hx hown (mvT hZ (hw _ (List.mem_of_getElem? (i := 50) rfl))) (g := (mkF m 323 #[oI p0, oR b7, oR b54, oU, oU, oU] [(.int p0)])) rfl (hb hby at_323) _ ?_
    show oP p e below T100 (mkF m 325 #[oI p0, oR b7, oR b54, oU, oU, oU] [(.int (2147483647 : Int32)), (.int p0)]) _
    refine XS.iand X100.here hx rfl (hb hby at_325) rfl ?_
    show oP p e below T100 (mkF m 326 #[oI p0, oR b7, oR b54, oU, oU, oU] [(.int (p0 &&& (2147483647 : Int32)))]) _
    refine XS.bipush X100.here hx rfl (hb hby at_326) ?_
    show oP p e below T100 (mkF m 328 #[oI p0, oR b7, oR b54, oU, oU, oU] [(.int (23 : Int32)), (.int (p0 &&& (2147483647 : Int32)))]) _
    refine XS.irem X100.here hx rfl (hb hby at_328) rfl (by decide) ?_
    show oP p e below T100 (mkF m 329 #[oI p0, oR b7, oR b54, oU, oU, oU] [(.int ((p0 &&& (2147483647 : Int32)) - ((p0 &&& (2147483647 : Int32)) / (23 : Int32)) * (23 : Int32)))]) _
    rw [← hi]
    exact k)
  rcases ri with rfl | rfl | rfl | rfl | rfl | rfl | rfl | rfl | rfl | rfl | rfl | rfl | rfl | rfl | rfl | rfl | rfl | rfl | rfl | rfl | rfl | rfl | rfl
  · have fx102 := ((((((((((((((((((((((((V53.ext E54).other W56 ne_b7_b54).other W58 ne_b7_b54).other W60 ne_b7_b54).other W62 ne_b7_b54).other W64 ne_b7_b54).other W66 ne_b7_b54).other W68 ne_b7_b54).other W70 ne_b7_b54).other W72 ne_b7_b54).other W74 ne_b7_b54).other W76 ne_b7_b54).other W78 ne_b7_b54).other W80 ne_b7_b54).other W82 ne_b7_b54).other W84 ne_b7_b54).other W86 ne_b7_b54).other W88 ne_b7_b54).other W90 ne_b7_b54).other W92 ne_b7_b54).other W94 ne_b7_b54).other W96 ne_b7_b54).other W98 ne_b7_b54).other W100 ne_b7_b54)
    obtain ⟨lo103, X103, N103⟩ := own_hide X100 N100
    obtain ⟨cq104, kq104, q104a, q104b, q104c⟩ := isOf hZ e100 ((e_a_STRING_EQUALS hS).ext O100.2)
    obtain ⟨_, _, ⟨T104, L104, k104, n104⟩, -, X104, ⟨Lc104, hQ104, l104, y104, z104⟩, st104⟩ := X103.virtualBack hx (y := (⟨"com/example/menshen/menshen/policy/ConditionOperator", "positive", "()Lcom/example/menshen/menshen/policy/ConditionOperator;"⟩ : MethodName)) (z := (⟨"com/example/menshen/menshen/policy/ConditionOperator", "positive", "()Lcom/example/menshen/menshen/policy/ConditionOperator;"⟩ : MethodName)) hown (mvT hZ (hw _ (List.mem_of_getElem? (i := 51) rfl))) (mvT hZ (hw _ (List.mem_of_getElem? (i := 52) rfl))) (notFace_of_selects (args := #[]) (mvT hZ (hw _ (List.mem_of_getElem? (i := 54) rfl)))) (mvT hZ (hw _ (List.mem_of_getElem? (i := 54) rfl))) (mvT hZ (hw _ (List.mem_of_getElem? (i := 53) rfl))) (by decide) (backOf (W := 0) (rm1n l Z a0 hw hS [] (a_STRING_EQUALS Z) h100 n0 O100 ((f_a_STRING_EQUALS_negationOf hS).ext O100.2)) hZ (hw _ (List.mem_of_getElem? (i := 55) rfl)) (hw _ (List.mem_of_getElem? (i := 3) rfl)) (by decide) (by decide)) q104a q104c (g := (mkF m 337 #[oI p0, oR b7, oR b54, oI (0 : Int32), oR (a_STRING_EQUALS Z), oU] [(.ref (a_STRING_EQUALS Z))])) rfl (by rw [hml]; rfl) (Steps.refl _) (argsL := []) (rest := []) (lenOf pd_0 rfl) rfl (by show 2 * 0 + _ ≤ _; exact Nat.le_of_eq rfl) (hb hby at_337) (fun _ _ => ⟨rfl, e100, (by decide : 2 + 0 ≤ _), (by decide : 46 + 0 ≤ _)⟩)
    dsimp only [Pt.U, Pt.locs, Pt.cells, Pt.slots] at X104 l104 y104 z104 st104 hQ104
    subst l104 y104 z104
    obtain ⟨v104, N104q, K104q⟩ := hQ104
    have w104 : (fn1n Z (a_STRING_EQUALS Z)) = (a_STRING_EQUALS Z) := rfl
    rw [w104] at v104
    subst v104
    have N104 := Fr.app N103 N104q
    have O104 := O100.keep K104q all0
    have Kc104 := Kc100.trans K104q all0
    have fx105 := (V100.keep K104q nin0)
    obtain ⟨cq106, kq106, q106a, q106b, q106c⟩ := isOf hZ rfl ((e_a_STRING_EQUALS hS).ext O104.2)
    obtain ⟨_, _, ⟨T106, L106, k106, n106⟩, -, X106, ⟨Lc106, hQ106, l106, y106, z106⟩, st106⟩ := X104.virtualBack hx (y := (⟨"com/example/menshen/menshen/policy/ConditionOperator", "isNegated", "()Z"⟩ : MethodName)) (z := (⟨"com/example/menshen/menshen/policy/ConditionOperator", "isNegated", "()Z"⟩ : MethodName)) hown (mvT hZ (hw _ (List.mem_of_getElem? (i := 58) rfl))) (mvT hZ (hw _ (List.mem_of_getElem? (i := 59) rfl))) (notFace_of_selects (args := #[]) (mvT hZ (hw _ (List.mem_of_getElem? (i := 61) rfl)))) (mvT hZ (hw _ (List.mem_of_getElem? (i := 61) rfl))) (mvT hZ (hw _ (List.mem_of_getElem? (i := 60) rfl))) (by decide) (backOf (W := 0) (rm2n l Z a0 hw hS [] (a_STRING_EQUALS Z) T104.heap n0 O104 ((f_a_STRING_EQUALS_negationOf hS).ext O104.2)) hZ (hw _ (List.mem_of_getElem? (i := 62) rfl)) (hw _ (List.mem_of_getElem? (i := 3) rfl)) (by decide) (by decide)) q106a q106c (g := (mkF m 354 #[oI p0, oR b7, oR b54, oI (0 : Int32), oR (a_STRING_EQUALS Z), oR (a_STRING_EQUALS Z)] [(.ref (a_STRING_EQUALS Z))])) rfl (by rw [hml]; rfl) (Steps.refl _) (argsL := []) (rest := []) (lenOf pd_1 rfl) rfl (by show 2 * 0 + _ ≤ _; exact Nat.le_of_eq rfl) (hb hby at_354) (fun _ _ => ⟨rfl, rfl, (by decide : 2 + 0 ≤ _), (by decide : 46 + 0 ≤ _)⟩)
    dsimp only [Pt.U, Pt.locs, Pt.cells, Pt.slots] at X106 l106 y106 z106 st106 hQ106
    subst l106 y106 z106
    obtain ⟨v106, N106q, K106q⟩ := hQ106
    have w106 : (fn2n Z (a_STRING_EQUALS Z)) = (0 : Int32) := rfl
    rw [w106] at v106
    subst v106
    have N106 := Fr.app N104 N106q
    have O106 := O104.keep K106q all0
    have Kc106 := Kc104.trans K106q all0
    obtain ⟨cq107, kq107, q107a, q107b, q107c⟩ := isOf hZ rfl ((e_a_STRING_EQUALS hS).ext O106.2)
    obtain ⟨_, _, ⟨T107, L107, k107, n107⟩, -, X107, ⟨Lc107, hQ107, l107, y107, z107⟩, st107⟩ := X106.virtualBack hx (y := (⟨"com/example/menshen/menshen/policy/ConditionOperator", "positive", "()Lcom/example/menshen/menshen/policy/ConditionOperator;"⟩ : MethodName)) (z := (⟨"com/example/menshen/menshen/policy/ConditionOperator", "positive", "()Lcom/example/menshen/menshen/policy/ConditionOperator;"⟩ : MethodName)) hown (mvT hZ (hw _ (List.mem_of_getElem? (i := 51) rfl))) (mvT hZ (hw _ (List.mem_of_getElem? (i := 52) rfl))) (notFace_of_selects (args := #[]) (mvT hZ (hw _ (List.mem_of_getElem? (i := 54) rfl)))) (mvT hZ (hw _ (List.mem_of_getElem? (i := 54) rfl))) (mvT hZ (hw _ (List.mem_of_getElem? (i := 53) rfl))) (by decide) (backOf (W := 0) (rm1n l Z a0 hw hS [] (a_STRING_EQUALS Z) T106.heap n0 O106 ((f_a_STRING_EQUALS_negationOf hS).ext O106.2)) hZ (hw _ (List.mem_of_getElem? (i := 55) rfl)) (hw _ (List.mem_of_getElem? (i := 3) rfl)) (by decide) (by decide)) q107a q107c (g := (mkF m 364 #[oI p0, oR b7, oR b54, oI (0 : Int32), oR (a_STRING_EQUALS Z), oR (a_STRING_EQUALS Z)] [(.ref (a_STRING_EQUALS Z))])) rfl (by rw [hml]; rfl) (Steps.refl _) (argsL := []) (rest := []) (lenOf pd_0 rfl) rfl (by show 2 * 0 + _ ≤ _; exact Nat.le_of_eq rfl) (hb hby at_364) (fun _ _ => ⟨rfl, rfl, (by decide : 2 + 0 ≤ _), (by decide : 46 + 0 ≤ _)⟩)
    dsimp only [Pt.U, Pt.locs, Pt.cells, Pt.slots] at X107 l107 y107 z107 st107 hQ107
    subst l107 y107 z107
    obtain ⟨v107, N107q, K107q⟩ := hQ107
    have w107 : (fn1n Z (a_STRING_EQUALS Z)) = (a_STRING_EQUALS Z) := rfl
    rw [w107] at v107
    subst v107
    have N107 := Fr.app N106 N107q
    have O107 := O106.keep K107q all0
    have Kc107 := Kc106.trans K107q all0
    obtain ⟨cq108, kq108, q108a, q108b, q108c⟩ := isOf hZ rfl ((e_a_STRING_EQUALS hS).ext O107.2)
    obtain ⟨_, _, ⟨T108, L108, k108, n108⟩, -, X108, ⟨Lc108, hQ108, l108, y108, z108⟩, st108⟩ := X107.virtualBack hx (y := (⟨"com/example/menshen/menshen/policy/ConditionOperator", "literals", "()Lcom/example/menshen/menshen/policy/ConditionOperator$Literals;"⟩ : MethodName)) (z := (⟨"com/example/menshen/menshen/policy/ConditionOperator", "literals", "()Lcom/example/menshen/menshen/policy/ConditionOperator$Literals;"⟩ : MethodName)) hown (mvT hZ (hw _ (List.mem_of_getElem? (i := 63) rfl))) (mvT hZ (hw _ (List.mem_of_getElem? (i := 64) rfl))) (notFace_of_selects (args := #[]) (mvT hZ (hw _ (List.mem_of_getElem? (i := 66) rfl)))) (mvT hZ (hw _ (List.mem_of_getElem? (i := 66) rfl))) (mvT hZ (hw _ (List.mem_of_getElem? (i := 65) rfl))) (by decide) (backOf (W := 0) (rm3 l Z a0 hw hS [] (a_STRING_EQUALS Z) (a_NONE Z) T107.heap n0 O107 ((f_a_STRING_EQUALS_literals hS).ext O107.2)) hZ (hw _ (List.mem_of_getElem? (i := 67) rfl)) (hw _ (List.mem_of_getElem? (i := 3) rfl)) (by decide) (by decide)) q108a q108c (g := (mkF m 376 #[oI p0, oR b7, oR b54, oI (0 : Int32), oR (a_STRING_EQUALS Z), oR (a_STRING_EQUALS Z)] [(.ref (a_STRING_EQUALS Z))])) rfl (by rw [hml]; rfl) (Steps.refl _) (argsL := []) (rest := []) (lenOf pd_2 rfl) rfl (by show 2 * 0 + _ ≤ _; exact Nat.le_of_eq rfl) (hb hby at_376) (fun _ _ => ⟨rfl, rfl, (by decide : 2 + 0 ≤ _), (by decide : 46 + 0 ≤ _)⟩)
    dsimp only [Pt.U, Pt.locs, Pt.cells, Pt.slots] at X108 l108 y108 z108 st108 hQ108
    subst l108 y108 z108
    obtain ⟨v108, N108q, K108q⟩ := hQ108
    have w108 : (fn3 Z (a_STRING_EQUALS Z) (a_NONE Z)) = (a_NONE Z) := rfl
    rw [w108] at v108
    subst v108
    have N108 := Fr.app N107 N108q
    have O108 := O107.keep K108q all0
    have Kc108 := Kc107.trans K108q all0
    obtain ⟨cq109, kq109, q109a, q109b, q109c⟩ := isOf hZ rfl ((e_a_STRING_EQUALS hS).ext O108.2)
    obtain ⟨_, _, ⟨T109, L109, k109, n109⟩, -, X109, ⟨Lc109, hQ109, l109, y109, z109⟩, st109⟩ := X108.virtualBack hx (y := (⟨"com/example/menshen/menshen/policy/ConditionOperator", "literals", "()Lcom/example/menshen/menshen/policy/ConditionOperator$Literals;"⟩ : MethodName)) (z := (⟨"com/example/menshen/menshen/policy/ConditionOperator", "literals", "()Lcom/example/menshen/menshen/policy/ConditionOperator$Literals;"⟩ : MethodName)) hown (mvT hZ (hw _ (List.mem_of_getElem? (i := 63) rfl))) (mvT hZ (hw _ (List.mem_of_getElem? (i := 64) rfl))) (notFace_of_selects (args := #[]) (mvT hZ (hw _ (List.mem_of_getElem? (i := 66) rfl)))) (mvT hZ (hw _ (List.mem_of_getElem? (i := 66) rfl))) (mvT hZ (hw _ (List.mem_of_getElem? (i := 65) rfl))) (by decide) (backOf (W := 1) (rm3 l Z a0 hw hS [] (a_STRING_EQUALS Z) (a_NONE Z) T108.heap n0 O108 ((f_a_STRING_EQUALS_literals hS).ext O108.2)) hZ (hw _ (List.mem_of_getElem? (i := 67) rfl)) (hw _ (List.mem_of_getElem? (i := 3) rfl)) (by decide) (by decide)) q109a q109c (g := (mkF m 381 #[oI p0, oR b7, oR b54, oI (0 : Int32), oR (a_STRING_EQUALS Z), oR (a_STRING_EQUALS Z)] [(.ref (a_STRING_EQUALS Z)), (.ref (a_NONE Z))])) rfl (by rw [hml]; rfl) (Steps.refl _) (argsL := []) (rest := [(.ref (a_NONE Z))]) (lenOf pd_2 rfl) rfl (by show 2 * 0 + _ ≤ _; exact Nat.le_of_eq rfl) (hb hby at_381) (fun _ _ => ⟨rfl, rfl, (by decide : 2 + 0 ≤ _), (by decide : 46 + 0 ≤ _)⟩)
    dsimp only [Pt.U, Pt.locs, Pt.cells, Pt.slots] at X109 l109 y109 z109 st109 hQ109
    subst l109 y109 z109
    obtain ⟨v109, N109q, K109q⟩ := hQ109
    have w109 : (fn3 Z (a_STRING_EQUALS Z) (a_NONE Z)) = (a_NONE Z) := rfl
    rw [w109] at v109
    subst v109
    have N109 := Fr.app N108 N109q
    have O109 := O108.keep K109q all0
    have Kc109 := Kc108.trans K109q all0
    obtain ⟨lo110, X110, N110⟩ := own_hide X109 N109
    obtain ⟨cq111, kq111, q111a, q111b, q111c⟩ := isOf hZ rfl ((e_a_STRING_EQUALS hS).ext O109.2)
    obtain ⟨_, _, ⟨T111, L111, k111, n111⟩, -, X111, ⟨Lc111, hQ111, l111, y111, z111⟩, st111⟩ := X110.virtualBack hx (y := (⟨"com/example/menshen/menshen/policy/ConditionOperator", "isNegated", "()Z"⟩ : MethodName)) (z := (⟨"com/example/menshen/menshen/policy/ConditionOperator", "isNegated", "()Z"⟩ : MethodName)) hown (mvT hZ (hw _ (List.mem_of_getElem? (i := 58) rfl))) (mvT hZ (hw _ (List.mem_of_getElem? (i := 59) rfl))) (notFace_of_selects (args := #[]) (mvT hZ (hw _ (List.mem_of_getElem? (i := 61) rfl)))) (mvT hZ (hw _ (List.mem_of_getElem? (i := 61) rfl))) (mvT hZ (hw _ (List.mem_of_getElem? (i := 60) rfl))) (by decide) (backOf (W := 0) (rm2n l Z a0 hw hS [] (a_STRING_EQUALS Z) T109.heap n0 O109 ((f_a_STRING_EQUALS_negationOf hS).ext O109.2)) hZ (hw _ (List.mem_of_getElem? (i := 62) rfl)) (hw _ (List.mem_of_getElem? (i := 3) rfl)) (by decide) (by decide)) q111a q111c (g := (mkF m 391 #[oI p0, oR b7, oR b54, oI (0 : Int32), oR (a_STRING_EQUALS Z), oR (a_STRING_EQUALS Z)] [(.ref (a_STRING_EQUALS Z))])) rfl (by rw [hml]; rfl) (Steps.refl _) (argsL := []) (rest := []) (lenOf pd_1 rfl) rfl (by show 2 * 0 + _ ≤ _; exact Nat.le_of_eq rfl) (hb hby at_391) (fun _ _ => ⟨rfl, rfl, (by decide : 2 + 0 ≤ _), (by decide : 46 + 0 ≤ _)⟩)
    dsimp only [Pt.U, Pt.locs, Pt.cells, Pt.slots] at X111 l111 y111 z111 st111 hQ111
    subst l111 y111 z111
    obtain ⟨v111, N111q, K111q⟩ := hQ111
    have w111 : (fn2n Z (a_STRING_EQUALS Z)) = (0 : Int32) := rfl
    rw [w111] at v111
    subst v111
    have N111 := Fr.app N110 N111q
    have O111 := O109.keep K111q all0
    have Kc111 := Kc109.trans K111q all0
    obtain ⟨fs, hr, hrun, hended, hW, hsame⟩ := X111.leave (v := some (.int (1 : Int32))) (fun h => by rw [Bd.returns] at h; cases h)
    refine ⟨_, _, pre101 _ ?_, hrun, hended, _, _, rfl, ?_, ⟨_, rfl⟩, hW, hsame.mono (by decide) (by decide)⟩
    · show oP p e below T100 (mkF m 329 #[oI p0, oR b7, oR b54, oU, oU, oU] [(.int (0 : Int32))]) _
      refine XS.istoreN X100.here hx rfl (hb hby at_329) rfl (l' := #[oI p0, oR b7, oR b54, oI (0 : Int32), oU, oU]) rfl ?_
      show oP p e below T100 (mkF m 330 #[oI p0, oR b7, oR b54, oI (0 : Int32), oU, oU] []) _
      refine XS.aloadN X100.here hx rfl (hb hby at_330) rfl rfl ?_
      show oP p e below T100 (mkF m 331 #[oI p0, oR b7, oR b54, oI (0 : Int32), oU, oU] [(.ref b7)]) _
      refine XS.iloadN X100.here hx rfl (hb hby at_331) rfl ?_
      show oP p e below T100 (mkF m 332 #[oI p0, oR b7, oR b54, oI (0 : Int32), oU, oU] [(.int (0 : Int32)), (.ref b7)]) _
      refine own_aaload X100 hx hZ e100 fx102 rfl (j := (0 : Int32)) ⟨by decide, by decide⟩ (v := (.ref (a_STRING_EQUALS Z))) rfl (g := (mkF m 332 #[oI p0, oR b7, oR b54, oI (0 : Int32), oU, oU] [(.int (0 : Int32)), (.ref b7)])) rfl rfl (hb hby at_332) _ ?_
      show oP p e below T100 (mkF m 333 #[oI p0, oR b7, oR b54, oI (0 : Int32), oU, oU] [(.ref (a_STRING_EQUALS Z))]) _
      refine XS.astore X100.here hx rfl (hb hby at_333) rfl rfl (l' := #[oI p0, oR b7, oR b54, oI (0 : Int32), oR (a_STRING_EQUALS Z), oU]) rfl ?_
      show oP p e below T100 (mkF m 335 #[oI p0, oR b7, oR b54, oI (0 : Int32), oR (a_STRING_EQUALS Z), oU] []) _
      refine XS.aload X100.here hx rfl (hb hby at_335) rfl rfl ?_
      show oP p e below T100 (mkF m 337 #[oI p0, oR b7, oR b54, oI (0 : Int32), oR (a_STRING_EQUALS Z), oU] [(.ref (a_STRING_EQUALS Z))]) _
      refine st104.trans ?_
      show oP p e below T104 (mkF m 340 #[oI p0, oR b7, oR b54, oI (0 : Int32), oR (a_STRING_EQUALS Z), oU] [(.ref (a_STRING_EQUALS Z))]) _
      refine XS.astore X104.here hx rfl (hb hby at_340) rfl rfl (l' := #[oI p0, oR b7, oR b54, oI (0 : Int32), oR (a_STRING_EQUALS Z), oR (a_STRING_EQUALS Z)]) rfl ?_
      show oP p e below T104 (mkF m 342 #[oI p0, oR b7, oR b54, oI (0 : Int32), oR (a_STRING_EQUALS Z), oR (a_STRING_EQUALS Z)] []) _
      refine XS.aload X104.here hx rfl (hb hby at_342) rfl rfl ?_
      show oP p e below T104 (mkF m 344 #[oI p0, oR b7, oR b54, oI (0 : Int32), oR (a_STRING_EQUALS Z), oR (a_STRING_EQUALS Z)] [(.ref (a_STRING_EQUALS Z))]) _
      refine XS.aloadN X104.here hx rfl (hb hby at_344) rfl rfl ?_
      show oP p e below T104 (mkF m 345 #[oI p0, oR b7, oR b54, oI (0 : Int32), oR (a_STRING_EQUALS Z), oR (a_STRING_EQUALS Z)] [(.ref b54), (.ref (a_STRING_EQUALS Z))]) _
      refine XS.iloadN X104.here hx rfl (hb hby at_345) rfl ?_
      show oP p e below T104 (mkF m 346 #[oI p0, oR b7, oR b54, oI (0 : Int32), oR (a_STRING_EQUALS Z), oR (a_STRING_EQUALS Z)] [(.int (0 : Int32)), (.ref b54), (.ref (a_STRING_EQUALS Z))]) _
      refine own_aaload X104 hx hZ rfl fx105 rfl (j := (0 : Int32)) ⟨by decide, by decide⟩ (v := (.ref (a_STRING_EQUALS Z))) rfl (g := (mkF m 346 #[oI p0, oR b7, oR b54, oI (0 : Int32), oR (a_STRING_EQUALS Z), oR (a_STRING_EQUALS Z)] [(.int (0 : Int32)), (.ref b54), (.ref (a_STRING_EQUALS Z))])) rfl rfl (hb hby at_346) _ ?_
      show oP p e below T104 (mkF m 347 #[oI p0, oR b7, oR b54, oI (0 : Int32), oR (a_STRING_EQUALS Z), oR (a_STRING_EQUALS Z)] [(.ref (a_STRING_EQUALS Z)), (.ref (a_STRING_EQUALS Z))]) _
      refine Jvm.RoadKit.acmp (g := (mkF m 347 #[oI p0, oR b7, oR b54, oI (0 : Int32), oR (a_STRING_EQUALS Z), oR (a_STRING_EQUALS Z)] [(.ref (a_STRING_EQUALS Z)), (.ref (a_STRING_EQUALS Z))])) X104 hx rfl rfl rfl (pc0 := 347) (pc' := 352) (same := true) rfl (hb hby at_347) rfl (decide_eq_true (congrArg Value.ref (rfl : (a_STRING_EQUALS Z) = (a_STRING_EQUALS Z)))) (by decide) (by decide) ?_
      show oP p e below T104 (mkF m 352 #[oI p0, oR b7, oR b54, oI (0 : Int32), oR (a_STRING_EQUALS Z), oR (a_STRING_EQUALS Z)] []) _
      refine XS.aload X104.here hx rfl (hb hby at_352) rfl rfl ?_
      show oP p e below T104 (mkF m 354 #[oI p0, oR b7, oR b54, oI (0 : Int32), oR (a_STRING_EQUALS Z), oR (a_STRING_EQUALS Z)] [(.ref (a_STRING_EQUALS Z))]) _
      refine st106.trans ?_
      show oP p e below T106 (mkF m 357 #[oI p0, oR b7, oR b54, oI (0 : Int32), oR (a_STRING_EQUALS Z), oR (a_STRING_EQUALS Z)] [(.int (0 : Int32))]) _
      refine XS.ifYes X106.here hx rfl (pc0 := 357) (pc' := 362) rfl (hb hby at_357) rfl ((if0 _ _).trans (teq (by decide : (0 : Int32) = (0 : Int32))).1) (by decide) (by decide) ?_
      show oP p e below T106 (mkF m 362 #[oI p0, oR b7, oR b54, oI (0 : Int32), oR (a_STRING_EQUALS Z), oR (a_STRING_EQUALS Z)] []) _
      refine XS.aload X106.here hx rfl (hb hby at_362) rfl rfl ?_
      show oP p e below T106 (mkF m 364 #[oI p0, oR b7, oR b54, oI (0 : Int32), oR (a_STRING_EQUALS Z), oR (a_STRING_EQUALS Z)] [(.ref (a_STRING_EQUALS Z))]) _
      refine st107.trans ?_
      show oP p e below T107 (mkF m 367 #[oI p0, oR b7, oR b54, oI (0 : Int32), oR (a_STRING_EQUALS Z), oR (a_STRING_EQUALS Z)] [(.ref (a_STRING_EQUALS Z))]) _
      refine XS.aload X107.here hx rfl (hb hby at_367) rfl rfl ?_
      show oP p e below T107 (mkF m 369 #[oI p0, oR b7, oR b54, oI (0 : Int32), oR (a_STRING_EQUALS Z), oR (a_STRING_EQUALS Z)] [(.ref (a_STRING_EQUALS Z)), (.ref (a_STRING_EQUALS Z))]) _
      refine Jvm.RoadKit.acmp (g := (mkF m 369 #[oI p0, oR b7, oR b54, oI (0 : Int32), oR (a_STRING_EQUALS Z), oR (a_STRING_EQUALS Z)] [(.ref (a_STRING_EQUALS Z)), (.ref (a_STRING_EQUALS Z))])) X107 hx rfl rfl rfl (pc0 := 369) (pc' := 374) (same := true) rfl (hb hby at_369) rfl (decide_eq_true (congrArg Value.ref (rfl : (a_STRING_EQUALS Z) = (a_STRING_EQUALS Z)))) (by decide) (by decide) ?_
      show oP p e below T107 (mkF m 374 #[oI p0, oR b7, oR b54, oI (0 : Int32), oR (a_STRING_EQUALS Z), oR (a_STRING_EQUALS Z)] []) _
      refine XS.aload X107.here hx rfl (hb hby at_374) rfl rfl ?_
      show oP p e below T107 (mkF m 376 #[oI p0, oR b7, oR b54, oI (0 : Int32), oR (a_STRING_EQUALS Z), oR (a_STRING_EQUALS Z)] [(.ref (a_STRING_EQUALS Z))]) _
      refine st108.trans ?_
      show oP p e below T108 (mkF m 379 #[oI p0, oR b7, oR b54, oI (0 : Int32), oR (a_STRING_EQUALS Z), oR (a_STRING_EQUALS Z)] [(.ref (a_NONE Z))]) _
      refine XS.aload X108.here hx rfl (hb hby at_379) rfl rfl ?_
      show oP p e below T108 (mkF m 381 #[oI p0, oR b7, oR b54, oI (0 : Int32), oR (a_STRING_EQUALS Z), oR (a_STRING_EQUALS Z)] [(.ref (a_STRING_EQUALS Z)), (.ref (a_NONE Z))]) _
      refine st109.trans ?_
      show oP p e below T109 (mkF m 384 #[oI p0, oR b7, oR b54, oI (0 : Int32), oR (a_STRING_EQUALS Z), oR (a_STRING_EQUALS Z)] [(.ref (a_NONE Z)), (.ref (a_NONE Z))]) _
      refine Jvm.RoadKit.acmp (g := (mkF m 384 #[oI p0, oR b7, oR b54, oI (0 : Int32), oR (a_STRING_EQUALS Z), oR (a_STRING_EQUALS Z)] [(.ref (a_NONE Z)), (.ref (a_NONE Z))])) X109 hx rfl rfl rfl (pc0 := 384) (pc' := 389) (same := true) rfl (hb hby at_384) rfl (decide_eq_true (congrArg Value.ref (rfl : (a_NONE Z) = (a_NONE Z)))) (by decide) (by decide) ?_
      show oP p e below T109 (mkF m 389 #[oI p0, oR b7, oR b54, oI (0 : Int32), oR (a_STRING_EQUALS Z), oR (a_STRING_EQUALS Z)] []) _
      refine XS.aload X109.here hx rfl (hb hby at_389) rfl rfl ?_
      show oP p e below T109 (mkF m 391 #[oI p0, oR b7, oR b54, oI (0 : Int32), oR (a_STRING_EQUALS Z), oR (a_STRING_EQUALS Z)] [(.ref (a_STRING_EQUALS Z))]) _
      refine st111.trans ?_
      show oP p e below T111 (mkF m 394 #[oI p0, oR b7, oR b54, oI (0 : Int32), oR (a_STRING_EQUALS Z), oR (a_STRING_EQUALS Z)] [(.int (0 : Int32))]) _
      refine XS.aload X111.here hx rfl (hb hby at_394) rfl rfl ?_
      show oP p e below T111 (mkF m 396 #[oI p0, oR b7, oR b54, oI (0 : Int32), oR (a_STRING_EQUALS Z), oR (a_STRING_EQUALS Z)] [(.ref (a_STRING_EQUALS Z)), (.int (0 : Int32))]) _
      refine XS.aload X111.here hx rfl (hb hby at_396) rfl rfl ?_
      show oP p e below T111 (mkF m 398 #[oI p0, oR b7, oR b54, oI (0 : Int32), oR (a_STRING_EQUALS Z), oR (a_STRING_EQUALS Z)] [(.ref (a_STRING_EQUALS Z)), (.ref (a_STRING_EQUALS Z)), (.int (0 : Int32))]) _
      refine Jvm.RoadKit.acmp (g := (mkF m 398 #[oI p0, oR b7, oR b54, oI (0 : Int32), oR (a_STRING_EQUALS Z), oR (a_STRING_EQUALS Z)] [(.ref (a_STRING_EQUALS Z)), (.ref (a_STRING_EQUALS Z)), (.int (0 : Int32))])) X111 hx rfl rfl rfl (pc0 := 398) (pc' := 405) (same := true) rfl (hb hby at_398) rfl (decide_eq_true (congrArg Value.ref (rfl : (a_STRING_EQUALS Z) = (a_STRING_EQUALS Z)))) (by decide) (by decide) ?_
      show oP p e below T111 (mkF m 405 #[oI p0, oR b7, oR b54, oI (0 : Int32), oR (a_STRING_EQUALS Z), oR (a_STRING_EQUALS Z)] [(.int (0 : Int32))]) _
      refine XS.iconst X111.here hx rfl (hb hby at_405) ?_
      show oP p e below T111 (mkF m 406 #[oI p0, oR b7, oR b54, oI (0 : Int32), oR (a_STRING_EQUALS Z), oR (a_STRING_EQUALS Z)] [(.int (0 : Int32)), (.int (0 : Int32))]) _
      refine XS.icmpNo X111.here hx rfl (hb hby at_406) rfl (teq (by decide : (0 : Int32) = (0 : Int32))).2 ?_
      show oP p e below T111 (mkF m 409 #[oI p0, oR b7, oR b54, oI (0 : Int32), oR (a_STRING_EQUALS Z), oR (a_STRING_EQUALS Z)] []) _
      refine XS.iconst X111.here hx rfl (hb hby at_409) ?_
      show oP p e below T111 (mkF m 410 #[oI p0, oR b7, oR b54, oI (0 : Int32), oR (a_STRING_EQUALS Z), oR (a_STRING_EQUALS Z)] [(.int (1 : Int32))]) _
      refine XS.goto X111.here hx rfl (pc0 := 410) (pc' := 414) rfl (hb hby at_410) (by decide) (by decide) ?_
      show oP p e below T111 (mkF m 414 #[oI p0, oR b7, oR b54, oI (0 : Int32), oR (a_STRING_EQUALS Z), oR (a_STRING_EQUALS Z)] [(.int (1 : Int32))]) _
      exact retN X111 hx (t := .boolean) Bd.returns (by simp) (hb hby at_414) hr
    · show (some (.int (1 : Int32)) : Option Value) = some (.int (1 : Int32)) ∧ Fr n0 _ ∧ Keep h0 T111.heap []
      exact ⟨rfl, N111, Kc111⟩
  · have fx112 := ((((((((((((((((((((((((V53.ext E54).other W56 ne_b7_b54).other W58 ne_b7_b54).other W60 ne_b7_b54).other W62 ne_b7_b54).other W64 ne_b7_b54).other W66 ne_b7_b54).other W68 ne_b7_b54).other W70 ne_b7_b54).other W72 ne_b7_b54).other W74 ne_b7_b54).other W76 ne_b7_b54).other W78 ne_b7_b54).other W80 ne_b7_b54).other W82 ne_b7_b54).other W84 ne_b7_b54).other W86 ne_b7_b54).other W88 ne_b7_b54).other W90 ne_b7_b54).other W92 ne_b7_b54).other W94 ne_b7_b54).other W96 ne_b7_b54).other W98 ne_b7_b54).other W100 ne_b7_b54)
    obtain ⟨lo113, X113, N113⟩ := own_hide X100 N100
    obtain ⟨cq114, kq114, q114a, q114b, q114c⟩ := isOf hZ e100 ((e_a_STRING_NOT_EQUALS hS).ext O100.2)
    obtain ⟨_, _, ⟨T114, L114, k114, n114⟩, -, X114, ⟨Lc114, hQ114, l114, y114, z114⟩, st114⟩ := X113.virtualBack hx (y := (⟨"com/example/menshen/menshen/policy/ConditionOperator", "positive", "()Lcom/example/menshen/menshen/policy/ConditionOperator;"⟩ : MethodName)) (z := (⟨"com/example/menshen/menshen/policy/ConditionOperator", "positive", "()Lcom/example/menshen/menshen/policy/ConditionOperator;"⟩ : MethodName)) hown (mvT hZ (hw _ (List.mem_of_getElem? (i := 51) rfl))) (mvT hZ (hw _ (List.mem_of_getElem? (i := 52) rfl))) (notFace_of_selects (args := #[]) (mvT hZ (hw _ (List.mem_of_getElem? (i := 54) rfl)))) (mvT hZ (hw _ (List.mem_of_getElem? (i := 54) rfl))) (mvT hZ (hw _ (List.mem_of_getElem? (i := 53) rfl))) (by decide) (backOf (W := 0) (rm1r l Z a0 hw hS [] (a_STRING_NOT_EQUALS Z) (a_STRING_EQUALS Z) h100 n0 O100 ((f_a_STRING_NOT_EQUALS_negationOf hS).ext O100.2)) hZ (hw _ (List.mem_of_getElem? (i := 55) rfl)) (hw _ (List.mem_of_getElem? (i := 3) rfl)) (by decide) (by decide)) q114a q114c (g := (mkF m 337 #[oI p0, oR b7, oR b54, oI (1 : Int32), oR (a_STRING_NOT_EQUALS Z), oU] [(.ref (a_STRING_NOT_EQUALS Z))])) rfl (by rw [hml]; rfl) (Steps.refl _) (argsL := []) (rest := []) (lenOf pd_0 rfl) rfl (by show 2 * 0 + _ ≤ _; exact Nat.le_of_eq rfl) (hb hby at_337) (fun _ _ => ⟨rfl, e100, (by decide : 2 + 0 ≤ _), (by decide : 46 + 0 ≤ _)⟩)
    dsimp only [Pt.U, Pt.locs, Pt.cells, Pt.slots] at X114 l114 y114 z114 st114 hQ114
    subst l114 y114 z114
    obtain ⟨v114, N114q, K114q⟩ := hQ114
    have w114 : (fn1r Z (a_STRING_NOT_EQUALS Z) (a_STRING_EQUALS Z)) = (a_STRING_EQUALS Z) := rfl
    rw [w114] at v114
    subst v114
    have N114 := Fr.app N113 N114q
    have O114 := O100.keep K114q all0
    have Kc114 := Kc100.trans K114q all0
    have fx115 := (V100.keep K114q nin0)
    obtain ⟨cq116, kq116, q116a, q116b, q116c⟩ := isOf hZ rfl ((e_a_STRING_EQUALS hS).ext O114.2)
    obtain ⟨_, _, ⟨T116, L116, k116, n116⟩, -, X116, ⟨Lc116, hQ116, l116, y116, z116⟩, st116⟩ := X114.virtualBack hx (y := (⟨"com/example/menshen/menshen/policy/ConditionOperator", "isNegated", "()Z"⟩ : MethodName)) (z := (⟨"com/example/menshen/menshen/policy/ConditionOperator", "isNegated", "()Z"⟩ : MethodName)) hown (mvT hZ (hw _ (List.mem_of_getElem? (i := 58) rfl))) (mvT hZ (hw _ (List.mem_of_getElem? (i := 59) rfl))) (notFace_of_selects (args := #[]) (mvT hZ (hw _ (List.mem_of_getElem? (i := 61) rfl)))) (mvT hZ (hw _ (List.mem_of_getElem? (i := 61) rfl))) (mvT hZ (hw _ (List.mem_of_getElem? (i := 60) rfl))) (by decide) (backOf (W := 0) (rm2n l Z a0 hw hS [] (a_STRING_EQUALS Z) T114.heap n0 O114 ((f_a_STRING_EQUALS_negationOf hS).ext O114.2)) hZ (hw _ (List.mem_of_getElem? (i := 62) rfl)) (hw _ (List.mem_of_getElem? (i := 3) rfl)) (by decide) (by decide)) q116a q116c (g := (mkF m 354 #[oI p0, oR b7, oR b54, oI (1 : Int32), oR (a_STRING_NOT_EQUALS Z), oR (a_STRING_EQUALS Z)] [(.ref (a_STRING_EQUALS Z))])) rfl (by rw [hml]; rfl) (Steps.refl _) (argsL := []) (rest := []) (lenOf pd_1 rfl) rfl (by show 2 * 0 + _ ≤ _; exact Nat.le_of_eq rfl) (hb hby at_354) (fun _ _ => ⟨rfl, rfl, (by decide : 2 + 0 ≤ _), (by decide : 46 + 0 ≤ _)⟩)
    dsimp only [Pt.U, Pt.locs, Pt.cells, Pt.slots] at X116 l116 y116 z116 st116 hQ116
    subst l116 y116 z116
    obtain ⟨v116, N116q, K116q⟩ := hQ116
    have w116 : (fn2n Z (a_STRING_EQUALS Z)) = (0 : Int32) := rfl
    rw [w116] at v116
    subst v116
    have N116 := Fr.app N114 N116q
    have O116 := O114.keep K116q all0
    have Kc116 := Kc114.trans K116q all0
    obtain ⟨cq117, kq117, q117a, q117b, q117c⟩ := isOf hZ rfl ((e_a_STRING_EQUALS hS).ext O116.2)
    obtain ⟨_, _, ⟨T117, L117, k117, n117⟩, -, X117, ⟨Lc117, hQ117, l117, y117, z117⟩, st117⟩ := X116.virtualBack hx (y := (⟨"com/example/menshen/menshen/policy/ConditionOperator", "positive", "()Lcom/example/menshen/menshen/policy/ConditionOperator;"⟩ : MethodName)) (z := (⟨"com/example/menshen/menshen/policy/ConditionOperator", "positive", "()Lcom/example/menshen/menshen/policy/ConditionOperator;"⟩ : MethodName)) hown (mvT hZ (hw _ (List.mem_of_getElem? (i := 51) rfl))) (mvT hZ (hw _ (List.mem_of_getElem? (i := 52) rfl))) (notFace_of_selects (args := #[]) (mvT hZ (hw _ (List.mem_of_getElem? (i := 54) rfl)))) (mvT hZ (hw _ (List.mem_of_getElem? (i := 54) rfl))) (mvT hZ (hw _ (List.mem_of_getElem? (i := 53) rfl))) (by decide) (backOf (W := 0) (rm1n l Z a0 hw hS [] (a_STRING_EQUALS Z) T116.heap n0 O116 ((f_a_STRING_EQUALS_negationOf hS).ext O116.2)) hZ (hw _ (List.mem_of_getElem? (i := 55) rfl)) (hw _ (List.mem_of_getElem? (i := 3) rfl)) (by decide) (by decide)) q117a q117c (g := (mkF m 364 #[oI p0, oR b7, oR b54, oI (1 : Int32), oR (a_STRING_NOT_EQUALS Z), oR (a_STRING_EQUALS Z)] [(.ref (a_STRING_EQUALS Z))])) rfl (by rw [hml]; rfl) (Steps.refl _) (argsL := []) (rest := []) (lenOf pd_0 rfl) rfl (by show 2 * 0 + _ ≤ _; exact Nat.le_of_eq rfl) (hb hby at_364) (fun _ _ => ⟨rfl, rfl, (by decide : 2 + 0 ≤ _), (by decide : 46 + 0 ≤ _)⟩)
    dsimp only [Pt.U, Pt.locs, Pt.cells, Pt.slots] at X117 l117 y117 z117 st117 hQ117
    subst l117 y117 z117
    obtain ⟨v117, N117q, K117q⟩ := hQ117
    have w117 : (fn1n Z (a_STRING_EQUALS Z)) = (a_STRING_EQUALS Z) := rfl
    rw [w117] at v117
    subst v117
    have N117 := Fr.app N116 N117q
    have O117 := O116.keep K117q all0
    have Kc117 := Kc116.trans K117q all0
    obtain ⟨cq118, kq118, q118a, q118b, q118c⟩ := isOf hZ rfl ((e_a_STRING_EQUALS hS).ext O117.2)
    obtain ⟨_, _, ⟨T118, L118, k118, n118⟩, -, X118, ⟨Lc118, hQ118, l118, y118, z118⟩, st118⟩ := X117.virtualBack hx (y := (⟨"com/example/menshen/menshen/policy/ConditionOperator", "literals", "()Lcom/example/menshen/menshen/policy/ConditionOperator$Literals;"⟩ : MethodName)) (z := (⟨"com/example/menshen/menshen/policy/ConditionOperator", "literals", "()Lcom/example/menshen/menshen/policy/ConditionOperator$Literals;"⟩ : MethodName)) hown (mvT hZ (hw _ (List.mem_of_getElem? (i := 63) rfl))) (mvT hZ (hw _ (List.mem_of_getElem? (i := 64) rfl))) (notFace_of_selects (args := #[]) (mvT hZ (hw _ (List.mem_of_getElem? (i := 66) rfl)))) (mvT hZ (hw _ (List.mem_of_getElem? (i := 66) rfl))) (mvT hZ (hw _ (List.mem_of_getElem? (i := 65) rfl))) (by decide) (backOf (W := 0) (rm3 l Z a0 hw hS [] (a_STRING_EQUALS Z) (a_NONE Z) T117.heap n0 O117 ((f_a_STRING_EQUALS_literals hS).ext O117.2)) hZ (hw _ (List.mem_of_getElem? (i := 67) rfl)) (hw _ (List.mem_of_getElem? (i := 3) rfl)) (by decide) (by decide)) q118a q118c (g := (mkF m 376 #[oI p0, oR b7, oR b54, oI (1 : Int32), oR (a_STRING_NOT_EQUALS Z), oR (a_STRING_EQUALS Z)] [(.ref (a_STRING_EQUALS Z))])) rfl (by rw [hml]; rfl) (Steps.refl _) (argsL := []) (rest := []) (lenOf pd_2 rfl) rfl (by show 2 * 0 + _ ≤ _; exact Nat.le_of_eq rfl) (hb hby at_376) (fun _ _ => ⟨rfl, rfl, (by decide : 2 + 0 ≤ _), (by decide : 46 + 0 ≤ _)⟩)
    dsimp only [Pt.U, Pt.locs, Pt.cells, Pt.slots] at X118 l118 y118 z118 st118 hQ118
    subst l118 y118 z118
    obtain ⟨v118, N118q, K118q⟩ := hQ118
    have w118 : (fn3 Z (a_STRING_EQUALS Z) (a_NONE Z)) = (a_NONE Z) := rfl
    rw [w118] at v118
    subst v118
    have N118 := Fr.app N117 N118q
    have O118 := O117.keep K118q all0
    have Kc118 := Kc117.trans K118q all0
    obtain ⟨cq119, kq119, q119a, q119b, q119c⟩ := isOf hZ rfl ((e_a_STRING_NOT_EQUALS hS).ext O118.2)
    obtain ⟨_, _, ⟨T119, L119, k119, n119⟩, -, X119, ⟨Lc119, hQ119, l119, y119, z119⟩, st119⟩ := X118.virtualBack hx (y := (⟨"com/example/menshen/menshen/policy/ConditionOperator", "literals", "()Lcom/example/menshen/menshen/policy/ConditionOperator$Literals;"⟩ : MethodName)) (z := (⟨"com/example/menshen/menshen/policy/ConditionOperator", "literals", "()Lcom/example/menshen/menshen/policy/ConditionOperator$Literals;"⟩ : MethodName)) hown (mvT hZ (hw _ (List.mem_of_getElem? (i := 63) rfl))) (mvT hZ (hw _ (List.mem_of_getElem? (i := 64) rfl))) (notFace_of_selects (args := #[]) (mvT hZ (hw _ (List.mem_of_getElem? (i := 66) rfl)))) (mvT hZ (hw _ (List.mem_of_getElem? (i := 66) rfl))) (mvT hZ (hw _ (List.mem_of_getElem? (i := 65) rfl))) (by decide) (backOf (W := 1) (rm3 l Z a0 hw hS [] (a_STRING_NOT_EQUALS Z) (a_NONE Z) T118.heap n0 O118 ((f_a_STRING_NOT_EQUALS_literals hS).ext O118.2)) hZ (hw _ (List.mem_of_getElem? (i := 67) rfl)) (hw _ (List.mem_of_getElem? (i := 3) rfl)) (by decide) (by decide)) q119a q119c (g := (mkF m 381 #[oI p0, oR b7, oR b54, oI (1 : Int32), oR (a_STRING_NOT_EQUALS Z), oR (a_STRING_EQUALS Z)] [(.ref (a_STRING_NOT_EQUALS Z)), (.ref (a_NONE Z))])) rfl (by rw [hml]; rfl) (Steps.refl _) (argsL := []) (rest := [(.ref (a_NONE Z))]) (lenOf pd_2 rfl) rfl (by show 2 * 0 + _ ≤ _; exact Nat.le_of_eq rfl) (hb hby at_381) (fun _ _ => ⟨rfl, rfl, (by decide : 2 + 0 ≤ _), (by decide : 46 + 0 ≤ _)⟩)
    dsimp only [Pt.U, Pt.locs, Pt.cells, Pt.slots] at X119 l119 y119 z119 st119 hQ119
    subst l119 y119 z119
    obtain ⟨v119, N119q, K119q⟩ := hQ119
    have w119 : (fn3 Z (a_STRING_NOT_EQUALS Z) (a_NONE Z)) = (a_NONE Z) := rfl
    rw [w119] at v119
    subst v119
    have N119 := Fr.app N118 N119q
    have O119 := O118.keep K119q all0
    have Kc119 := Kc118.trans K119q all0
    obtain ⟨lo120, X120, N120⟩ := own_hide X119 N119
    obtain ⟨cq121, kq121, q121a, q121b, q121c⟩ := isOf hZ rfl ((e_a_STRING_NOT_EQUALS hS).ext O119.2)
    obtain ⟨_, _, ⟨T121, L121, k121, n121⟩, -, X121, ⟨Lc121, hQ121, l121, y121, z121⟩, st121⟩ := X120.virtualBack hx (y := (⟨"com/example/menshen/menshen/policy/ConditionOperator", "isNegated", "()Z"⟩ : MethodName)) (z := (⟨"com/example/menshen/menshen/policy/ConditionOperator", "isNegated", "()Z"⟩ : MethodName)) hown (mvT hZ (hw _ (List.mem_of_getElem? (i := 58) rfl))) (mvT hZ (hw _ (List.mem_of_getElem? (i := 59) rfl))) (notFace_of_selects (args := #[]) (mvT hZ (hw _ (List.mem_of_getElem? (i := 61) rfl)))) (mvT hZ (hw _ (List.mem_of_getElem? (i := 61) rfl))) (mvT hZ (hw _ (List.mem_of_getElem? (i := 60) rfl))) (by decide) (backOf (W := 0) (rm2r l Z a0 hw hS [] (a_STRING_NOT_EQUALS Z) (a_STRING_EQUALS Z) T119.heap n0 O119 ((f_a_STRING_NOT_EQUALS_negationOf hS).ext O119.2)) hZ (hw _ (List.mem_of_getElem? (i := 62) rfl)) (hw _ (List.mem_of_getElem? (i := 3) rfl)) (by decide) (by decide)) q121a q121c (g := (mkF m 391 #[oI p0, oR b7, oR b54, oI (1 : Int32), oR (a_STRING_NOT_EQUALS Z), oR (a_STRING_EQUALS Z)] [(.ref (a_STRING_NOT_EQUALS Z))])) rfl (by rw [hml]; rfl) (Steps.refl _) (argsL := []) (rest := []) (lenOf pd_1 rfl) rfl (by show 2 * 0 + _ ≤ _; exact Nat.le_of_eq rfl) (hb hby at_391) (fun _ _ => ⟨rfl, rfl, (by decide : 2 + 0 ≤ _), (by decide : 46 + 0 ≤ _)⟩)
    dsimp only [Pt.U, Pt.locs, Pt.cells, Pt.slots] at X121 l121 y121 z121 st121 hQ121
    subst l121 y121 z121
    obtain ⟨v121, N121q, K121q⟩ := hQ121
    have w121 : (fn2r Z (a_STRING_NOT_EQUALS Z) (a_STRING_EQUALS Z)) = (1 : Int32) := rfl
    rw [w121] at v121
    subst v121
    have N121 := Fr.app N120 N121q
    have O121 := O119.keep K121q all0
    have Kc121 := Kc119.trans K121q all0
    obtain ⟨fs, hr, hrun, hended, hW, hsame⟩ := X121.leave (v := some (.int (1 : Int32))) (fun h => by rw [Bd.returns] at h; cases h)
    refine ⟨_, _, pre101 _ ?_, hrun, hended, _, _, rfl, ?_, ⟨_, rfl⟩, hW, hsame.mono (by decide) (by decide)⟩
    · show oP p e below T100 (mkF m 329 #[oI p0, oR b7, oR b54, oU, oU, oU] [(.int (1 : Int32))]) _
      refine XS.istoreN X100.here hx rfl (hb hby at_329) rfl (l' := #[oI p0, oR b7, oR b54, oI (1 : Int32), oU, oU]) rfl ?_
      show oP p e below T100 (mkF m 330 #[oI p0, oR b7, oR b54, oI (1 : Int32), oU, oU] []) _
      refine XS.aloadN X100.here hx rfl (hb hby at_330) rfl rfl ?_
      show oP p e below T100 (mkF m 331 #[oI p0, oR b7, oR b54, oI (1 : Int32), oU, oU] [(.ref b7)]) _
      refine XS.iloadN X100.here hx rfl (hb hby at_331) rfl ?_
      show oP p e below T100 (mkF m 332 #[oI p0, oR b7, oR b54, oI (1 : Int32), oU, oU] [(.int (1 : Int32)), (.ref b7)]) _
      refine own_aaload X100 hx hZ e100 fx112 rfl (j := (1 : Int32)) ⟨by decide, by decide⟩ (v := (.ref (a_STRING_NOT_EQUALS Z))) rfl (g := (mkF m 332 #[oI p0, oR b7, oR b54, oI (1 : Int32), oU, oU] [(.int (1 : Int32)), (.ref b7)])) rfl rfl (hb hby at_332) _ ?_
      show oP p e below T100 (mkF m 333 #[oI p0, oR b7, oR b54, oI (1 : Int32), oU, oU] [(.ref (a_STRING_NOT_EQUALS Z))]) _
      refine XS.astore X100.here hx rfl (hb hby at_333) rfl rfl (l' := #[oI p0, oR b7, oR b54, oI (1 : Int32), oR (a_STRING_NOT_EQUALS Z), oU]) rfl ?_
      show oP p e below T100 (mkF m 335 #[oI p0, oR b7, oR b54, oI (1 : Int32), oR (a_STRING_NOT_EQUALS Z), oU] []) _
      refine XS.aload X100.here hx rfl (hb hby at_335) rfl rfl ?_
      show oP p e below T100 (mkF m 337 #[oI p0, oR b7, oR b54, oI (1 : Int32), oR (a_STRING_NOT_EQUALS Z), oU] [(.ref (a_STRING_NOT_EQUALS Z))]) _
      refine st114.trans ?_
      show oP p e below T114 (mkF m 340 #[oI p0, oR b7, oR b54, oI (1 : Int32), oR (a_STRING_NOT_EQUALS Z), oU] [(.ref (a_STRING_EQUALS Z))]) _
      refine XS.astore X114.here hx rfl (hb hby at_340) rfl rfl (l' := #[oI p0, oR b7, oR b54, oI (1 : Int32), oR (a_STRING_NOT_EQUALS Z), oR (a_STRING_EQUALS Z)]) rfl ?_
      show oP p e below T114 (mkF m 342 #[oI p0, oR b7, oR b54, oI (1 : Int32), oR (a_STRING_NOT_EQUALS Z), oR (a_STRING_EQUALS Z)] []) _
      refine XS.aload X114.here hx rfl (hb hby at_342) rfl rfl ?_
      show oP p e below T114 (mkF m 344 #[oI p0, oR b7, oR b54, oI (1 : Int32), oR (a_STRING_NOT_EQUALS Z), oR (a_STRING_EQUALS Z)] [(.ref (a_STRING_EQUALS Z))]) _
      refine XS.aloadN X114.here hx rfl (hb hby at_344) rfl rfl ?_
      show oP p e below T114 (mkF m 345 #[oI p0, oR b7, oR b54, oI (1 : Int32), oR (a_STRING_NOT_EQUALS Z), oR (a_STRING_EQUALS Z)] [(.ref b54), (.ref (a_STRING_EQUALS Z))]) _
      refine XS.iloadN X114.here hx rfl (hb hby at_345) rfl ?_
      show oP p e below T114 (mkF m 346 #[oI p0, oR b7, oR b54, oI (1 : Int32), oR (a_STRING_NOT_EQUALS Z), oR (a_STRING_EQUALS Z)] [(.int (1 : Int32)), (.ref b54), (.ref (a_STRING_EQUALS Z))]) _
      refine own_aaload X114 hx hZ rfl fx115 rfl (j := (1 : Int32)) ⟨by decide, by decide⟩ (v := (.ref (a_STRING_EQUALS Z))) rfl (g := (mkF m 346 #[oI p0, oR b7, oR b54, oI (1 : Int32), oR (a_STRING_NOT_EQUALS Z), oR (a_STRING_EQUALS Z)] [(.int (1 : Int32)), (.ref b54), (.ref (a_STRING_EQUALS Z))])) rfl rfl (hb hby at_346) _ ?_
      show oP p e below T114 (mkF m 347 #[oI p0, oR b7, oR b54, oI (1 : Int32), oR (a_STRING_NOT_EQUALS Z), oR (a_STRING_EQUALS Z)] [(.ref (a_STRING_EQUALS Z)), (.ref (a_STRING_EQUALS Z))]) _
      refine Jvm.RoadKit.acmp (g := (mkF m 347 #[oI p0, oR b7, oR b54, oI (1 : Int32), oR (a_STRING_NOT_EQUALS Z), oR (a_STRING_EQUALS Z)] [(.ref (a_STRING_EQUALS Z)), (.ref (a_STRING_EQUALS Z))])) X114 hx rfl rfl rfl (pc0 := 347) (pc' := 352) (same := true) rfl (hb hby at_347) rfl (decide_eq_true (congrArg Value.ref (rfl : (a_STRING_EQUALS Z) = (a_STRING_EQUALS Z)))) (by decide) (by decide) ?_
      show oP p e below T114 (mkF m 352 #[oI p0, oR b7, oR b54, oI (1 : Int32), oR (a_STRING_NOT_EQUALS Z), oR (a_STRING_EQUALS Z)] []) _
      refine XS.aload X114.here hx rfl (hb hby at_352) rfl rfl ?_
      show oP p e below T114 (mkF m 354 #[oI p0, oR b7, oR b54, oI (1 : Int32), oR (a_STRING_NOT_EQUALS Z), oR (a_STRING_EQUALS Z)] [(.ref (a_STRING_EQUALS Z))]) _
      refine st116.trans ?_
      show oP p e below T116 (mkF m 357 #[oI p0, oR b7, oR b54, oI (1 : Int32), oR (a_STRING_NOT_EQUALS Z), oR (a_STRING_EQUALS Z)] [(.int (0 : Int32))]) _
      refine XS.ifYes X116.here hx rfl (pc0 := 357) (pc' := 362) rfl (hb hby at_357) rfl ((if0 _ _).trans (teq (by decide : (0 : Int32) = (0 : Int32))).1) (by decide) (by decide) ?_
      show oP p e below T116 (mkF m 362 #[oI p0, oR b7, oR b54, oI (1 : Int32), oR (a_STRING_NOT_EQUALS Z), oR (a_STRING_EQUALS Z)] []) _
      refine XS.aload X116.here hx rfl (hb hby at_362) rfl rfl ?_
      show oP p e below T116 (mkF m 364 #[oI p0, oR b7, oR b54, oI (1 : Int32), oR (a_STRING_NOT_EQUALS Z), oR (a_STRING_EQUALS Z)] [(.ref (a_STRING_EQUALS Z))]) _
      refine st117.trans ?_
      show oP p e below T117 (mkF m 367 #[oI p0, oR b7, oR b54, oI (1 : Int32), oR (a_STRING_NOT_EQUALS Z), oR (a_STRING_EQUALS Z)] [(.ref (a_STRING_EQUALS Z))]) _
      refine XS.aload X117.here hx rfl (hb hby at_367) rfl rfl ?_
      show oP p e below T117 (mkF m 369 #[oI p0, oR b7, oR b54, oI (1 : Int32), oR (a_STRING_NOT_EQUALS Z), oR (a_STRING_EQUALS Z)] [(.ref (a_STRING_EQUALS Z)), (.ref (a_STRING_EQUALS Z))]) _
      refine Jvm.RoadKit.acmp (g := (mkF m 369 #[oI p0, oR b7, oR b54, oI (1 : Int32), oR (a_STRING_NOT_EQUALS Z), oR (a_STRING_EQUALS Z)] [(.ref (a_STRING_EQUALS Z)), (.ref (a_STRING_EQUALS Z))])) X117 hx rfl rfl rfl (pc0 := 369) (pc' := 374) (same := true) rfl (hb hby at_369) rfl (decide_eq_true (congrArg Value.ref (rfl : (a_STRING_EQUALS Z) = (a_STRING_EQUALS Z)))) (by decide) (by decide) ?_
      show oP p e below T117 (mkF m 374 #[oI p0, oR b7, oR b54, oI (1 : Int32), oR (a_STRING_NOT_EQUALS Z), oR (a_STRING_EQUALS Z)] []) _
      refine XS.aload X117.here hx rfl (hb hby at_374) rfl rfl ?_
      show oP p e below T117 (mkF m 376 #[oI p0, oR b7, oR b54, oI (1 : Int32), oR (a_STRING_NOT_EQUALS Z), oR (a_STRING_EQUALS Z)] [(.ref (a_STRING_EQUALS Z))]) _
      refine st118.trans ?_
      show oP p e below T118 (mkF m 379 #[oI p0, oR b7, oR b54, oI (1 : Int32), oR (a_STRING_NOT_EQUALS Z), oR (a_STRING_EQUALS Z)] [(.ref (a_NONE Z))]) _
      refine XS.aload X118.here hx rfl (hb hby at_379) rfl rfl ?_
      show oP p e below T118 (mkF m 381 #[oI p0, oR b7, oR b54, oI (1 : Int32), oR (a_STRING_NOT_EQUALS Z), oR (a_STRING_EQUALS Z)] [(.ref (a_STRING_NOT_EQUALS Z)), (.ref (a_NONE Z))]) _
      refine st119.trans ?_
      show oP p e below T119 (mkF m 384 #[oI p0, oR b7, oR b54, oI (1 : Int32), oR (a_STRING_NOT_EQUALS Z), oR (a_STRING_EQUALS Z)] [(.ref (a_NONE Z)), (.ref (a_NONE Z))]) _
      refine Jvm.RoadKit.acmp (g := (mkF m 384 #[oI p0, oR b7, oR b54, oI (1 : Int32), oR (a_STRING_NOT_EQUALS Z), oR (a_STRING_EQUALS Z)] [(.ref (a_NONE Z)), (.ref (a_NONE Z))])) X119 hx rfl rfl rfl (pc0 := 384) (pc' := 389) (same := true) rfl (hb hby at_384) rfl (decide_eq_true (congrArg Value.ref (rfl : (a_NONE Z) = (a_NONE Z)))) (by decide) (by decide) ?_
      show oP p e below T119 (mkF m 389 #[oI p0, oR b7, oR b54, oI (1 : Int32), oR (a_STRING_NOT_EQUALS Z), oR (a_STRING_EQUALS Z)] []) _
      refine XS.aload X119.here hx rfl (hb hby at_389) rfl rfl ?_
      show oP p e below T119 (mkF m 391 #[oI p0, oR b7, oR b54, oI (1 : Int32), oR (a_STRING_NOT_EQUALS Z), oR (a_STRING_EQUALS Z)] [(.ref (a_STRING_NOT_EQUALS Z))]) _
      refine st121.trans ?_
      show oP p e below T121 (mkF m 394 #[oI p0, oR b7, oR b54, oI (1 : Int32), oR (a_STRING_NOT_EQUALS Z), oR (a_STRING_EQUALS Z)] [(.int (1 : Int32))]) _
      refine XS.aload X121.here hx rfl (hb hby at_394) rfl rfl ?_
      show oP p e below T121 (mkF m 396 #[oI p0, oR b7, oR b54, oI (1 : Int32), oR (a_STRING_NOT_EQUALS Z), oR (a_STRING_EQUALS Z)] [(.ref (a_STRING_EQUALS Z)), (.int (1 : Int32))]) _
      refine XS.aload X121.here hx rfl (hb hby at_396) rfl rfl ?_
      show oP p e below T121 (mkF m 398 #[oI p0, oR b7, oR b54, oI (1 : Int32), oR (a_STRING_NOT_EQUALS Z), oR (a_STRING_EQUALS Z)] [(.ref (a_STRING_NOT_EQUALS Z)), (.ref (a_STRING_EQUALS Z)), (.int (1 : Int32))]) _
      refine Jvm.RoadKit.acmp (g := (mkF m 398 #[oI p0, oR b7, oR b54, oI (1 : Int32), oR (a_STRING_NOT_EQUALS Z), oR (a_STRING_EQUALS Z)] [(.ref (a_STRING_NOT_EQUALS Z)), (.ref (a_STRING_EQUALS Z)), (.int (1 : Int32))])) X121 hx rfl rfl rfl (pc0 := 398) (pc' := 401) (same := false) rfl (hb hby at_398) rfl (decide_eq_false fun q => ((f_a_STRING_EQUALS_ordinal hS).ne (f_a_STRING_NOT_EQUALS_ordinal hS) (by decide)) (Value.ref.inj q)) (by decide) (by decide) ?_
      show oP p e below T121 (mkF m 401 #[oI p0, oR b7, oR b54, oI (1 : Int32), oR (a_STRING_NOT_EQUALS Z), oR (a_STRING_EQUALS Z)] [(.int (1 : Int32))]) _
      refine XS.iconst X121.here hx rfl (hb hby at_401) ?_
      show oP p e below T121 (mkF m 402 #[oI p0, oR b7, oR b54, oI (1 : Int32), oR (a_STRING_NOT_EQUALS Z), oR (a_STRING_EQUALS Z)] [(.int (1 : Int32)), (.int (1 : Int32))]) _
      refine XS.goto X121.here hx rfl (pc0 := 402) (pc' := 406) rfl (hb hby at_402) (by decide) (by decide) ?_
      show oP p e below T121 (mkF m 406 #[oI p0, oR b7, oR b54, oI (1 : Int32), oR (a_STRING_NOT_EQUALS Z), oR (a_STRING_EQUALS Z)] [(.int (1 : Int32)), (.int (1 : Int32))]) _
      refine XS.icmpNo X121.here hx rfl (hb hby at_406) rfl (teq (by decide : (1 : Int32) = (1 : Int32))).2 ?_
      show oP p e below T121 (mkF m 409 #[oI p0, oR b7, oR b54, oI (1 : Int32), oR (a_STRING_NOT_EQUALS Z), oR (a_STRING_EQUALS Z)] []) _
      refine XS.iconst X121.here hx rfl (hb hby at_409) ?_
      show oP p e below T121 (mkF m 410 #[oI p0, oR b7, oR b54, oI (1 : Int32), oR (a_STRING_NOT_EQUALS Z), oR (a_STRING_EQUALS Z)] [(.int (1 : Int32))]) _
      refine XS.goto X121.here hx rfl (pc0 := 410) (pc' := 414) rfl (hb hby at_410) (by decide) (by decide) ?_
      show oP p e below T121 (mkF m 414 #[oI p0, oR b7, oR b54, oI (1 : Int32), oR (a_STRING_NOT_EQUALS Z), oR (a_STRING_EQUALS Z)] [(.int (1 : Int32))]) _
      exact retN X121 hx (t := .boolean) Bd.returns (by simp) (hb hby at_414) hr
    · show (some (.int (1 : Int32)) : Option Value) = some (.int (1 : Int32)) ∧ Fr n0 _ ∧ Keep h0 T121.heap []
      exact ⟨rfl, N121, Kc121⟩
  · have fx122 := ((((((((((((((((((((((((V53.ext E54).other W56 ne_b7_b54).other W58 ne_b7_b54).other W60 ne_b7_b54).other W62 ne_b7_b54).other W64 ne_b7_b54).other W66 ne_b7_b54).other W68 ne_b7_b54).other W70 ne_b7_b54).other W72 ne_b7_b54).other W74 ne_b7_b54).other W76 ne_b7_b54).other W78 ne_b7_b54).other W80 ne_b7_b54).other W82 ne_b7_b54).other W84 ne_b7_b54).other W86 ne_b7_b54).other W88 ne_b7_b54).other W90 ne_b7_b54).other W92 ne_b7_b54).other W94 ne_b7_b54).other W96 ne_b7_b54).other W98 ne_b7_b54).other W100 ne_b7_b54)
    obtain ⟨lo123, X123, N123⟩ := own_hide X100 N100
    obtain ⟨cq124, kq124, q124a, q124b, q124c⟩ := isOf hZ e100 ((e_a_NOT_STRING_EQUALS hS).ext O100.2)
    obtain ⟨_, _, ⟨T124, L124, k124, n124⟩, -, X124, ⟨Lc124, hQ124, l124, y124, z124⟩, st124⟩ := X123.virtualBack hx (y := (⟨"com/example/menshen/menshen/policy/ConditionOperator", "positive", "()Lcom/example/menshen/menshen/policy/ConditionOperator;"⟩ : MethodName)) (z := (⟨"com/example/menshen/menshen/policy/ConditionOperator", "positive", "()Lcom/example/menshen/menshen/policy/ConditionOperator;"⟩ : MethodName)) hown (mvT hZ (hw _ (List.mem_of_getElem? (i := 51) rfl))) (mvT hZ (hw _ (List.mem_of_getElem? (i := 52) rfl))) (notFace_of_selects (args := #[]) (mvT hZ (hw _ (List.mem_of_getElem? (i := 54) rfl)))) (mvT hZ (hw _ (List.mem_of_getElem? (i := 54) rfl))) (mvT hZ (hw _ (List.mem_of_getElem? (i := 53) rfl))) (by decide) (backOf (W := 0) (rm1r l Z a0 hw hS [] (a_NOT_STRING_EQUALS Z) (a_STRING_EQUALS Z) h100 n0 O100 ((f_a_NOT_STRING_EQUALS_negationOf hS).ext O100.2)) hZ (hw _ (List.mem_of_getElem? (i := 55) rfl)) (hw _ (List.mem_of_getElem? (i := 3) rfl)) (by decide) (by decide)) q124a q124c (g := (mkF m 337 #[oI p0, oR b7, oR b54, oI (2 : Int32), oR (a_NOT_STRING_EQUALS Z), oU] [(.ref (a_NOT_STRING_EQUALS Z))])) rfl (by rw [hml]; rfl) (Steps.refl _) (argsL := []) (rest := []) (lenOf pd_0 rfl) rfl (by show 2 * 0 + _ ≤ _; exact Nat.le_of_eq rfl) (hb hby at_337) (fun _ _ => ⟨rfl, e100, (by decide : 2 + 0 ≤ _), (by decide : 46 + 0 ≤ _)⟩)
    dsimp only [Pt.U, Pt.locs, Pt.cells, Pt.slots] at X124 l124 y124 z124 st124 hQ124
    subst l124 y124 z124
    obtain ⟨v124, N124q, K124q⟩ := hQ124
    have w124 : (fn1r Z (a_NOT_STRING_EQUALS Z) (a_STRING_EQUALS Z)) = (a_STRING_EQUALS Z) := rfl
    rw [w124] at v124
    subst v124
    have N124 := Fr.app N123 N124q
    have O124 := O100.keep K124q all0
    have Kc124 := Kc100.trans K124q all0
    have fx125 := (V100.keep K124q nin0)
    obtain ⟨cq126, kq126, q126a, q126b, q126c⟩ := isOf hZ rfl ((e_a_STRING_EQUALS hS).ext O124.2)
    obtain ⟨_, _, ⟨T126, L126, k126, n126⟩, -, X126, ⟨Lc126, hQ126, l126, y126, z126⟩, st126⟩ := X124.virtualBack hx (y := (⟨"com/example/menshen/menshen/policy/ConditionOperator", "isNegated", "()Z"⟩ : MethodName)) (z := (⟨"com/example/menshen/menshen/policy/ConditionOperator", "isNegated", "()Z"⟩ : MethodName)) hown (mvT hZ (hw _ (List.mem_of_getElem? (i := 58) rfl))) (mvT hZ (hw _ (List.mem_of_getElem? (i := 59) rfl))) (notFace_of_selects (args := #[]) (mvT hZ (hw _ (List.mem_of_getElem? (i := 61) rfl)))) (mvT hZ (hw _ (List.mem_of_getElem? (i := 61) rfl))) (mvT hZ (hw _ (List.mem_of_getElem? (i := 60) rfl))) (by decide) (backOf (W := 0) (rm2n l Z a0 hw hS [] (a_STRING_EQUALS Z) T124.heap n0 O124 ((f_a_STRING_EQUALS_negationOf hS).ext O124.2)) hZ (hw _ (List.mem_of_getElem? (i := 62) rfl)) (hw _ (List.mem_of_getElem? (i := 3) rfl)) (by decide) (by decide)) q126a q126c (g := (mkF m 354 #[oI p0, oR b7, oR b54, oI (2 : Int32), oR (a_NOT_STRING_EQUALS Z), oR (a_STRING_EQUALS Z)] [(.ref (a_STRING_EQUALS Z))])) rfl (by rw [hml]; rfl) (Steps.refl _) (argsL := []) (rest := []) (lenOf pd_1 rfl) rfl (by show 2 * 0 + _ ≤ _; exact Nat.le_of_eq rfl) (hb hby at_354) (fun _ _ => ⟨rfl, rfl, (by decide : 2 + 0 ≤ _), (by decide : 46 + 0 ≤ _)⟩)
    dsimp only [Pt.U, Pt.locs, Pt.cells, Pt.slots] at X126 l126 y126 z126 st126 hQ126
    subst l126 y126 z126
    obtain ⟨v126, N126q, K126q⟩ := hQ126
    have w126 : (fn2n Z (a_STRING_EQUALS Z)) = (0 : Int32) := rfl
    rw [w126] at v126
    subst v126
    have N126 := Fr.app N124 N126q
    have O126 := O124.keep K126q all0
    have Kc126 := Kc124.trans K126q all0
    obtain ⟨cq127, kq127, q127a, q127b, q127c⟩ := isOf hZ rfl ((e_a_STRING_EQUALS hS).ext O126.2)
    obtain ⟨_, _, ⟨T127, L127, k127, n127⟩, -, X127, ⟨Lc127, hQ127, l127, y127, z127⟩, st127⟩ := X126.virtualBack hx (y := (⟨"com/example/menshen/menshen/policy/ConditionOperator", "positive", "()Lcom/example/menshen/menshen/policy/ConditionOperator;"⟩ : MethodName)) (z := (⟨"com/example/menshen/menshen/policy/ConditionOperator", "positive", "()Lcom/example/menshen/menshen/policy/ConditionOperator;"⟩ : MethodName)) hown (mvT hZ (hw _ (List.mem_of_getElem? (i := 51) rfl))) (mvT hZ (hw _ (List.mem_of_getElem? (i := 52) rfl))) (notFace_of_selects (args := #[]) (mvT hZ (hw _ (List.mem_of_getElem? (i := 54) rfl)))) (mvT hZ (hw _ (List.mem_of_getElem? (i := 54) rfl))) (mvT hZ (hw _ (List.mem_of_getElem? (i := 53) rfl))) (by decide) (backOf (W := 0) (rm1n l Z a0 hw hS [] (a_STRING_EQUALS Z) T126.heap n0 O126 ((f_a_STRING_EQUALS_negationOf hS).ext O126.2)) hZ (hw _ (List.mem_of_getElem? (i := 55) rfl)) (hw _ (List.mem_of_getElem? (i := 3) rfl)) (by decide) (by decide)) q127a q127c (g := (mkF m 364 #[oI p0, oR b7, oR b54, oI (2 : Int32), oR (a_NOT_STRING_EQUALS Z), oR (a_STRING_EQUALS Z)] [(.ref (a_STRING_EQUALS Z))])) rfl (by rw [hml]; rfl) (Steps.refl _) (argsL := []) (rest := []) (lenOf pd_0 rfl) rfl (by show 2 * 0 + _ ≤ _; exact Nat.le_of_eq rfl) (hb hby at_364) (fun _ _ => ⟨rfl, rfl, (by decide : 2 + 0 ≤ _), (by decide : 46 + 0 ≤ _)⟩)
    dsimp only [Pt.U, Pt.locs, Pt.cells, Pt.slots] at X127 l127 y127 z127 st127 hQ127
    subst l127 y127 z127
    obtain ⟨v127, N127q, K127q⟩ := hQ127
    have w127 : (fn1n Z (a_STRING_EQUALS Z)) = (a_STRING_EQUALS Z) := rfl
    rw [w127] at v127
    subst v127
    have N127 := Fr.app N126 N127q
    have O127 := O126.keep K127q all0
    have Kc127 := Kc126.trans K127q all0
    obtain ⟨cq128, kq128, q128a, q128b, q128c⟩ := isOf hZ rfl ((e_a_STRING_EQUALS hS).ext O127.2)
    obtain ⟨_, _, ⟨T128, L128, k128, n128⟩, -, X128, ⟨Lc128, hQ128, l128, y128, z128⟩, st128⟩ := X127.virtualBack hx (y := (⟨"com/example/menshen/menshen/policy/ConditionOperator", "literals", "()Lcom/example/menshen/menshen/policy/ConditionOperator$Literals;"⟩ : MethodName)) (z := (⟨"com/example/menshen/menshen/policy/ConditionOperator", "literals", "()Lcom/example/menshen/menshen/policy/ConditionOperator$Literals;"⟩ : MethodName)) hown (mvT hZ (hw _ (List.mem_of_getElem? (i := 63) rfl))) (mvT hZ (hw _ (List.mem_of_getElem? (i := 64) rfl))) (notFace_of_selects (args := #[]) (mvT hZ (hw _ (List.mem_of_getElem? (i := 66) rfl)))) (mvT hZ (hw _ (List.mem_of_getElem? (i := 66) rfl))) (mvT hZ (hw _ (List.mem_of_getElem? (i := 65) rfl))) (by decide) (backOf (W := 0) (rm3 l Z a0 hw hS [] (a_STRING_EQUALS Z) (a_NONE Z) T127.heap n0 O127 ((f_a_STRING_EQUALS_literals hS).ext O127.2)) hZ (hw _ (List.mem_of_getElem? (i := 67) rfl)) (hw _ (List.mem_of_getElem? (i := 3) rfl)) (by decide) (by decide)) q128a q128c (g := (mkF m 376 #[oI p0, oR b7, oR b54, oI (2 : Int32), oR (a_NOT_STRING_EQUALS Z), oR (a_STRING_EQUALS Z)] [(.ref (a_STRING_EQUALS Z))])) rfl (by rw [hml]; rfl) (Steps.refl _) (argsL := []) (rest := []) (lenOf pd_2 rfl) rfl (by show 2 * 0 + _ ≤ _; exact Nat.le_of_eq rfl) (hb hby at_376) (fun _ _ => ⟨rfl, rfl, (by decide : 2 + 0 ≤ _), (by decide : 46 + 0 ≤ _)⟩)
    dsimp only [Pt.U, Pt.locs, Pt.cells, Pt.slots] at X128 l128 y128 z128 st128 hQ128
    subst l128 y128 z128
    obtain ⟨v128, N128q, K128q⟩ := hQ128
    have w128 : (fn3 Z (a_STRING_EQUALS Z) (a_NONE Z)) = (a_NONE Z) := rfl
    rw [w128] at v128
    subst v128
    have N128 := Fr.app N127 N128q
    have O128 := O127.keep K128q all0
    have Kc128 := Kc127.trans K128q all0
    obtain ⟨cq129, kq129, q129a, q129b, q129c⟩ := isOf hZ rfl ((e_a_NOT_STRING_EQUALS hS).ext O128.2)
    obtain ⟨_, _, ⟨T129, L129, k129, n129⟩, -, X129, ⟨Lc129, hQ129, l129, y129, z129⟩, st129⟩ := X128.virtualBack hx (y := (⟨"com/example/menshen/menshen/policy/ConditionOperator", "literals", "()Lcom/example/menshen/menshen/policy/ConditionOperator$Literals;"⟩ : MethodName)) (z := (⟨"com/example/menshen/menshen/policy/ConditionOperator", "literals", "()Lcom/example/menshen/menshen/policy/ConditionOperator$Literals;"⟩ : MethodName)) hown (mvT hZ (hw _ (List.mem_of_getElem? (i := 63) rfl))) (mvT hZ (hw _ (List.mem_of_getElem? (i := 64) rfl))) (notFace_of_selects (args := #[]) (mvT hZ (hw _ (List.mem_of_getElem? (i := 66) rfl)))) (mvT hZ (hw _ (List.mem_of_getElem? (i := 66) rfl))) (mvT hZ (hw _ (List.mem_of_getElem? (i := 65) rfl))) (by decide) (backOf (W := 1) (rm3 l Z a0 hw hS [] (a_NOT_STRING_EQUALS Z) (a_NONE Z) T128.heap n0 O128 ((f_a_NOT_STRING_EQUALS_literals hS).ext O128.2)) hZ (hw _ (List.mem_of_getElem? (i := 67) rfl)) (hw _ (List.mem_of_getElem? (i := 3) rfl)) (by decide) (by decide)) q129a q129c (g := (mkF m 381 #[oI p0, oR b7, oR b54, oI (2 : Int32), oR (a_NOT_STRING_EQUALS Z), oR (a_STRING_EQUALS Z)] [(.ref (a_NOT_STRING_EQUALS Z)), (.ref (a_NONE Z))])) rfl (by rw [hml]; rfl) (Steps.refl _) (argsL := []) (rest := [(.ref (a_NONE Z))]) (lenOf pd_2 rfl) rfl (by show 2 * 0 + _ ≤ _; exact Nat.le_of_eq rfl) (hb hby at_381) (fun _ _ => ⟨rfl, rfl, (by decide : 2 + 0 ≤ _), (by decide : 46 + 0 ≤ _)⟩)
    dsimp only [Pt.U, Pt.locs, Pt.cells, Pt.slots] at X129 l129 y129 z129 st129 hQ129
    subst l129 y129 z129
    obtain ⟨v129, N129q, K129q⟩ := hQ129
    have w129 : (fn3 Z (a_NOT_STRING_EQUALS Z) (a_NONE Z)) = (a_NONE Z) := rfl
    rw [w129] at v129
    subst v129
    have N129 := Fr.app N128 N129q
    have O129 := O128.keep K129q all0
    have Kc129 := Kc128.trans K129q all0
    obtain ⟨lo130, X130, N130⟩ := own_hide X129 N129
    obtain ⟨cq131, kq131, q131a, q131b, q131c⟩ := isOf hZ rfl ((e_a_NOT_STRING_EQUALS hS).ext O129.2)
    obtain ⟨_, _, ⟨T131, L131, k131, n131⟩, -, X131, ⟨Lc131, hQ131, l131, y131, z131⟩, st131⟩ := X130.virtualBack hx (y := (⟨"com/example/menshen/menshen/policy/ConditionOperator", "isNegated", "()Z"⟩ : MethodName)) (z := (⟨"com/example/menshen/menshen/policy/ConditionOperator", "isNegated", "()Z"⟩ : MethodName)) hown (mvT hZ (hw _ (List.mem_of_getElem? (i := 58) rfl))) (mvT hZ (hw _ (List.mem_of_getElem? (i := 59) rfl))) (notFace_of_selects (args := #[]) (mvT hZ (hw _ (List.mem_of_getElem? (i := 61) rfl)))) (mvT hZ (hw _ (List.mem_of_getElem? (i := 61) rfl))) (mvT hZ (hw _ (List.mem_of_getElem? (i := 60) rfl))) (by decide) (backOf (W := 0) (rm2r l Z a0 hw hS [] (a_NOT_STRING_EQUALS Z) (a_STRING_EQUALS Z) T129.heap n0 O129 ((f_a_NOT_STRING_EQUALS_negationOf hS).ext O129.2)) hZ (hw _ (List.mem_of_getElem? (i := 62) rfl)) (hw _ (List.mem_of_getElem? (i := 3) rfl)) (by decide) (by decide)) q131a q131c (g := (mkF m 391 #[oI p0, oR b7, oR b54, oI (2 : Int32), oR (a_NOT_STRING_EQUALS Z), oR (a_STRING_EQUALS Z)] [(.ref (a_NOT_STRING_EQUALS Z))])) rfl (by rw [hml]; rfl) (Steps.refl _) (argsL := []) (rest := []) (lenOf pd_1 rfl) rfl (by show 2 * 0 + _ ≤ _; exact Nat.le_of_eq rfl) (hb hby at_391) (fun _ _ => ⟨rfl, rfl, (by decide : 2 + 0 ≤ _), (by decide : 46 + 0 ≤ _)⟩)
    dsimp only [Pt.U, Pt.locs, Pt.cells, Pt.slots] at X131 l131 y131 z131 st131 hQ131
    subst l131 y131 z131
    obtain ⟨v131, N131q, K131q⟩ := hQ131
    have w131 : (fn2r Z (a_NOT_STRING_EQUALS Z) (a_STRING_EQUALS Z)) = (1 : Int32) := rfl
    rw [w131] at v131
    subst v131
    have N131 := Fr.app N130 N131q
    have O131 := O129.keep K131q all0
    have Kc131 := Kc129.trans K131q all0
    obtain ⟨fs, hr, hrun, hended, hW, hsame⟩ := X131.leave (v := some (.int (1 : Int32))) (fun h => by rw [Bd.returns] at h; cases h)
    refine ⟨_, _, pre101 _ ?_, hrun, hended, _, _, rfl, ?_, ⟨_, rfl⟩, hW, hsame.mono (by decide) (by decide)⟩
    · show oP p e below T100 (mkF m 329 #[oI p0, oR b7, oR b54, oU, oU, oU] [(.int (2 : Int32))]) _
      refine XS.istoreN X100.here hx rfl (hb hby at_329) rfl (l' := #[oI p0, oR b7, oR b54, oI (2 : Int32), oU, oU]) rfl ?_
      show oP p e below T100 (mkF m 330 #[oI p0, oR b7, oR b54, oI (2 : Int32), oU, oU] []) _
      refine XS.aloadN X100.here hx rfl (hb hby at_330) rfl rfl ?_
      show oP p e below T100 (mkF m 331 #[oI p0, oR b7, oR b54, oI (2 : Int32), oU, oU] [(.ref b7)]) _
      refine XS.iloadN X100.here hx rfl (hb hby at_331) rfl ?_
      show oP p e below T100 (mkF m 332 #[oI p0, oR b7, oR b54, oI (2 : Int32), oU, oU] [(.int (2 : Int32)), (.ref b7)]) _
      refine own_aaload X100 hx hZ e100 fx122 rfl (j := (2 : Int32)) ⟨by decide, by decide⟩ (v := (.ref (a_NOT_STRING_EQUALS Z))) rfl (g := (mkF m 332 #[oI p0, oR b7, oR b54, oI (2 : Int32), oU, oU] [(.int (2 : Int32)), (.ref b7)])) rfl rfl (hb hby at_332) _ ?_
      show oP p e below T100 (mkF m 333 #[oI p0, oR b7, oR b54, oI (2 : Int32), oU, oU] [(.ref (a_NOT_STRING_EQUALS Z))]) _
      refine XS.astore X100.here hx rfl (hb hby at_333) rfl rfl (l' := #[oI p0, oR b7, oR b54, oI (2 : Int32), oR (a_NOT_STRING_EQUALS Z), oU]) rfl ?_
      show oP p e below T100 (mkF m 335 #[oI p0, oR b7, oR b54, oI (2 : Int32), oR (a_NOT_STRING_EQUALS Z), oU] []) _
      refine XS.aload X100.here hx rfl (hb hby at_335) rfl rfl ?_
      show oP p e below T100 (mkF m 337 #[oI p0, oR b7, oR b54, oI (2 : Int32), oR (a_NOT_STRING_EQUALS Z), oU] [(.ref (a_NOT_STRING_EQUALS Z))]) _
      refine st124.trans ?_
      show oP p e below T124 (mkF m 340 #[oI p0, oR b7, oR b54, oI (2 : Int32), oR (a_NOT_STRING_EQUALS Z), oU] [(.ref (a_STRING_EQUALS Z))]) _
      refine XS.astore X124.here hx rfl (hb hby at_340) rfl rfl (l' := #[oI p0, oR b7, oR b54, oI (2 : Int32), oR (a_NOT_STRING_EQUALS Z), oR (a_STRING_EQUALS Z)]) rfl ?_
      show oP p e below T124 (mkF m 342 #[oI p0, oR b7, oR b54, oI (2 : Int32), oR (a_NOT_STRING_EQUALS Z), oR (a_STRING_EQUALS Z)] []) _
      refine XS.aload X124.here hx rfl (hb hby at_342) rfl rfl ?_
      show oP p e below T124 (mkF m 344 #[oI p0, oR b7, oR b54, oI (2 : Int32), oR (a_NOT_STRING_EQUALS Z), oR (a_STRING_EQUALS Z)] [(.ref (a_STRING_EQUALS Z))]) _
      refine XS.aloadN X124.here hx rfl (hb hby at_344) rfl rfl ?_
      show oP p e below T124 (mkF m 345 #[oI p0, oR b7, oR b54, oI (2 : Int32), oR (a_NOT_STRING_EQUALS Z), oR (a_STRING_EQUALS Z)] [(.ref b54), (.ref (a_STRING_EQUALS Z))]) _
      refine XS.iloadN X124.here hx rfl (hb hby at_345) rfl ?_
      show oP p e below T124 (mkF m 346 #[oI p0, oR b7, oR b54, oI (2 : Int32), oR (a_NOT_STRING_EQUALS Z), oR (a_STRING_EQUALS Z)] [(.int (2 : Int32)), (.ref b54), (.ref (a_STRING_EQUALS Z))]) _
      refine own_aaload X124 hx hZ rfl fx125 rfl (j := (2 : Int32)) ⟨by decide, by decide⟩ (v := (.ref (a_STRING_EQUALS Z))) rfl (g := (mkF m 346 #[oI p0, oR b7, oR b54, oI (2 : Int32), oR (a_NOT_STRING_EQUALS Z), oR (a_STRING_EQUALS Z)] [(.int (2 : Int32)), (.ref b54), (.ref (a_STRING_EQUALS Z))])) rfl rfl (hb hby at_346) _ ?_
      show oP p e below T124 (mkF m 347 #[oI p0, oR b7, oR b54, oI (2 : Int32), oR (a_NOT_STRING_EQUALS Z), oR (a_STRING_EQUALS Z)] [(.ref (a_STRING_EQUALS Z)), (.ref (a_STRING_EQUALS Z))]) _
      refine Jvm.RoadKit.acmp (g := (mkF m 347 #[oI p0, oR b7, oR b54, oI (2 : Int32), oR (a_NOT_STRING_EQUALS Z), oR (a_STRING_EQUALS Z)] [(.ref (a_STRING_EQUALS Z)), (.ref (a_STRING_EQUALS Z))])) X124 hx rfl rfl rfl (pc0 := 347) (pc' := 352) (same := true) rfl (hb hby at_347) rfl (decide_eq_true (congrArg Value.ref (rfl : (a_STRING_EQUALS Z) = (a_STRING_EQUALS Z)))) (by decide) (by decide) ?_
      show oP p e below T124 (mkF m 352 #[oI p0, oR b7, oR b54, oI (2 : Int32), oR (a_NOT_STRING_EQUALS Z), oR (a_STRING_EQUALS Z)] []) _
      refine XS.aload X124.here hx rfl (hb hby at_352) rfl rfl ?_
      show oP p e below T124 (mkF m 354 #[oI p0, oR b7, oR b54, oI (2 : Int32), oR (a_NOT_STRING_EQUALS Z), oR (a_STRING_EQUALS Z)] [(.ref (a_STRING_EQUALS Z))]) _
      refine st126.trans ?_
      show oP p e below T126 (mkF m 357 #[oI p0, oR b7, oR b54, oI (2 : Int32), oR (a_NOT_STRING_EQUALS Z), oR (a_STRING_EQUALS Z)] [(.int (0 : Int32))]) _
      refine XS.ifYes X126.here hx rfl (pc0 := 357) (pc' := 362) rfl (hb hby at_357) rfl ((if0 _ _).trans (teq (by decide : (0 : Int32) = (0 : Int32))).1) (by decide) (by decide) ?_
      show oP p e below T126 (mkF m 362 #[oI p0, oR b7, oR b54, oI (2 : Int32), oR (a_NOT_STRING_EQUALS Z), oR (a_STRING_EQUALS Z)] []) _
      refine XS.aload X126.here hx rfl (hb hby at_362) rfl rfl ?_
      show oP p e below T126 (mkF m 364 #[oI p0, oR b7, oR b54, oI (2 : Int32), oR (a_NOT_STRING_EQUALS Z), oR (a_STRING_EQUALS Z)] [(.ref (a_STRING_EQUALS Z))]) _
      refine st127.trans ?_
      show oP p e below T127 (mkF m 367 #[oI p0, oR b7, oR b54, oI (2 : Int32), oR (a_NOT_STRING_EQUALS Z), oR (a_STRING_EQUALS Z)] [(.ref (a_STRING_EQUALS Z))]) _
      refine XS.aload X127.here hx rfl (hb hby at_367) rfl rfl ?_
      show oP p e below T127 (mkF m 369 #[oI p0, oR b7, oR b54, oI (2 : Int32), oR (a_NOT_STRING_EQUALS Z), oR (a_STRING_EQUALS Z)] [(.ref (a_STRING_EQUALS Z)), (.ref (a_STRING_EQUALS Z))]) _
      refine Jvm.RoadKit.acmp (g := (mkF m 369 #[oI p0, oR b7, oR b54, oI (2 : Int32), oR (a_NOT_STRING_EQUALS Z), oR (a_STRING_EQUALS Z)] [(.ref (a_STRING_EQUALS Z)), (.ref (a_STRING_EQUALS Z))])) X127 hx rfl rfl rfl (pc0 := 369) (pc' := 374) (same := true) rfl (hb hby at_369) rfl (decide_eq_true (congrArg Value.ref (rfl : (a_STRING_EQUALS Z) = (a_STRING_EQUALS Z)))) (by decide) (by decide) ?_
      show oP p e below T127 (mkF m 374 #[oI p0, oR b7, oR b54, oI (2 : Int32), oR (a_NOT_STRING_EQUALS Z), oR (a_STRING_EQUALS Z)] []) _
      refine XS.aload X127.here hx rfl (hb hby at_374) rfl rfl ?_
      show oP p e below T127 (mkF m 376 #[oI p0, oR b7, oR b54, oI (2 : Int32), oR (a_NOT_STRING_EQUALS Z), oR (a_STRING_EQUALS Z)] [(.ref (a_STRING_EQUALS Z))]) _
      refine st128.trans ?_
      show oP p e below T128 (mkF m 379 #[oI p0, oR b7, oR b54, oI (2 : Int32), oR (a_NOT_STRING_EQUALS Z), oR (a_STRING_EQUALS Z)] [(.ref (a_NONE Z))]) _
      refine XS.aload X128.here hx rfl (hb hby at_379) rfl rfl ?_
      show oP p e below T128 (mkF m 381 #[oI p0, oR b7, oR b54, oI (2 : Int32), oR (a_NOT_STRING_EQUALS Z), oR (a_STRING_EQUALS Z)] [(.ref (a_NOT_STRING_EQUALS Z)), (.ref (a_NONE Z))]) _
      refine st129.trans ?_
      show oP p e below T129 (mkF m 384 #[oI p0, oR b7, oR b54, oI (2 : Int32), oR (a_NOT_STRING_EQUALS Z), oR (a_STRING_EQUALS Z)] [(.ref (a_NONE Z)), (.ref (a_NONE Z))]) _
      refine Jvm.RoadKit.acmp (g := (mkF m 384 #[oI p0, oR b7, oR b54, oI (2 : Int32), oR (a_NOT_STRING_EQUALS Z), oR (a_STRING_EQUALS Z)] [(.ref (a_NONE Z)), (.ref (a_NONE Z))])) X129 hx rfl rfl rfl (pc0 := 384) (pc' := 389) (same := true) rfl (hb hby at_384) rfl (decide_eq_true (congrArg Value.ref (rfl : (a_NONE Z) = (a_NONE Z)))) (by decide) (by decide) ?_
      show oP p e below T129 (mkF m 389 #[oI p0, oR b7, oR b54, oI (2 : Int32), oR (a_NOT_STRING_EQUALS Z), oR (a_STRING_EQUALS Z)] []) _
      refine XS.aload X129.here hx rfl (hb hby at_389) rfl rfl ?_
      show oP p e below T129 (mkF m 391 #[oI p0, oR b7, oR b54, oI (2 : Int32), oR (a_NOT_STRING_EQUALS Z), oR (a_STRING_EQUALS Z)] [(.ref (a_NOT_STRING_EQUALS Z))]) _
      refine st131.trans ?_
      show oP p e below T131 (mkF m 394 #[oI p0, oR b7, oR b54, oI (2 : Int32), oR (a_NOT_STRING_EQUALS Z), oR (a_STRING_EQUALS Z)] [(.int (1 : Int32))]) _
      refine XS.aload X131.here hx rfl (hb hby at_394) rfl rfl ?_
      show oP p e below T131 (mkF m 396 #[oI p0, oR b7, oR b54, oI (2 : Int32), oR (a_NOT_STRING_EQUALS Z), oR (a_STRING_EQUALS Z)] [(.ref (a_STRING_EQUALS Z)), (.int (1 : Int32))]) _
      refine XS.aload X131.here hx rfl (hb hby at_396) rfl rfl ?_
      show oP p e below T131 (mkF m 398 #[oI p0, oR b7, oR b54, oI (2 : Int32), oR (a_NOT_STRING_EQUALS Z), oR (a_STRING_EQUALS Z)] [(.ref (a_NOT_STRING_EQUALS Z)), (.ref (a_STRING_EQUALS Z)), (.int (1 : Int32))]) _
      refine Jvm.RoadKit.acmp (g := (mkF m 398 #[oI p0, oR b7, oR b54, oI (2 : Int32), oR (a_NOT_STRING_EQUALS Z), oR (a_STRING_EQUALS Z)] [(.ref (a_NOT_STRING_EQUALS Z)), (.ref (a_STRING_EQUALS Z)), (.int (1 : Int32))])) X131 hx rfl rfl rfl (pc0 := 398) (pc' := 401) (same := false) rfl (hb hby at_398) rfl (decide_eq_false fun q => ((f_a_STRING_EQUALS_ordinal hS).ne (f_a_NOT_STRING_EQUALS_ordinal hS) (by decide)) (Value.ref.inj q)) (by decide) (by decide) ?_
      show oP p e below T131 (mkF m 401 #[oI p0, oR b7, oR b54, oI (2 : Int32), oR (a_NOT_STRING_EQUALS Z), oR (a_STRING_EQUALS Z)] [(.int (1 : Int32))]) _
      refine XS.iconst X131.here hx rfl (hb hby at_401) ?_
      show oP p e below T131 (mkF m 402 #[oI p0, oR b7, oR b54, oI (2 : Int32), oR (a_NOT_STRING_EQUALS Z), oR (a_STRING_EQUALS Z)] [(.int (1 : Int32)), (.int (1 : Int32))]) _
      refine XS.goto X131.here hx rfl (pc0 := 402) (pc' := 406) rfl (hb hby at_402) (by decide) (by decide) ?_
      show oP p e below T131 (mkF m 406 #[oI p0, oR b7, oR b54, oI (2 : Int32), oR (a_NOT_STRING_EQUALS Z), oR (a_STRING_EQUALS Z)] [(.int (1 : Int32)), (.int (1 : Int32))]) _
      refine XS.icmpNo X131.here hx rfl (hb hby at_406) rfl (teq (by decide : (1 : Int32) = (1 : Int32))).2 ?_
      show oP p e below T131 (mkF m 409 #[oI p0, oR b7, oR b54, oI (2 : Int32), oR (a_NOT_STRING_EQUALS Z), oR (a_STRING_EQUALS Z)] []) _
      refine XS.iconst X131.here hx rfl (hb hby at_409) ?_
      show oP p e below T131 (mkF m 410 #[oI p0, oR b7, oR b54, oI (2 : Int32), oR (a_NOT_STRING_EQUALS Z), oR (a_STRING_EQUALS Z)] [(.int (1 : Int32))]) _
      refine XS.goto X131.here hx rfl (pc0 := 410) (pc' := 414) rfl (hb hby at_410) (by decide) (by decide) ?_
      show oP p e below T131 (mkF m 414 #[oI p0, oR b7, oR b54, oI (2 : Int32), oR (a_NOT_STRING_EQUALS Z), oR (a_STRING_EQUALS Z)] [(.int (1 : Int32))]) _
      exact retN X131 hx (t := .boolean) Bd.returns (by simp) (hb hby at_414) hr
    · show (some (.int (1 : Int32)) : Option Value) = some (.int (1 : Int32)) ∧ Fr n0 _ ∧ Keep h0 T131.heap []
      exact ⟨rfl, N131, Kc131⟩
  · have fx132 := ((((((((((((((((((((((((V53.ext E54).other W56 ne_b7_b54).other W58 ne_b7_b54).other W60 ne_b7_b54).other W62 ne_b7_b54).other W64 ne_b7_b54).other W66 ne_b7_b54).other W68 ne_b7_b54).other W70 ne_b7_b54).other W72 ne_b7_b54).other W74 ne_b7_b54).other W76 ne_b7_b54).other W78 ne_b7_b54).other W80 ne_b7_b54).other W82 ne_b7_b54).other W84 ne_b7_b54).other W86 ne_b7_b54).other W88 ne_b7_b54).other W90 ne_b7_b54).other W92 ne_b7_b54).other W94 ne_b7_b54).other W96 ne_b7_b54).other W98 ne_b7_b54).other W100 ne_b7_b54)
    obtain ⟨lo133, X133, N133⟩ := own_hide X100 N100
    obtain ⟨cq134, kq134, q134a, q134b, q134c⟩ := isOf hZ e100 ((e_a_STRING_EQUALS_IGNORE_CASE hS).ext O100.2)
    obtain ⟨_, _, ⟨T134, L134, k134, n134⟩, -, X134, ⟨Lc134, hQ134, l134, y134, z134⟩, st134⟩ := X133.virtualBack hx (y := (⟨"com/example/menshen/menshen/policy/ConditionOperator", "positive", "()Lcom/example/menshen/menshen/policy/ConditionOperator;"⟩ : MethodName)) (z := (⟨"com/example/menshen/menshen/policy/ConditionOperator", "positive", "()Lcom/example/menshen/menshen/policy/ConditionOperator;"⟩ : MethodName)) hown (mvT hZ (hw _ (List.mem_of_getElem? (i := 51) rfl))) (mvT hZ (hw _ (List.mem_of_getElem? (i := 52) rfl))) (notFace_of_selects (args := #[]) (mvT hZ (hw _ (List.mem_of_getElem? (i := 54) rfl)))) (mvT hZ (hw _ (List.mem_of_getElem? (i := 54) rfl))) (mvT hZ (hw _ (List.mem_of_getElem? (i := 53) rfl))) (by decide) (backOf (W := 0) (rm1n l Z a0 hw hS [] (a_STRING_EQUALS_IGNORE_CASE Z) h100 n0 O100 ((f_a_STRING_EQUALS_IGNORE_CASE_negationOf hS).ext O100.2)) hZ (hw _ (List.mem_of_getElem? (i := 55) rfl)) (hw _ (List.mem_of_getElem? (i := 3) rfl)) (by decide) (by decide)) q134a q134c (g := (mkF m 337 #[oI p0, oR b7, oR b54, oI (3 : Int32), oR (a_STRING_EQUALS_IGNORE_CASE Z), oU] [(.ref (a_STRING_EQUALS_IGNORE_CASE Z))])) rfl (by rw [hml]; rfl) (Steps.refl _) (argsL := []) (rest := []) (lenOf pd_0 rfl) rfl (by show 2 * 0 + _ ≤ _; exact Nat.le_of_eq rfl) (hb hby at_337) (fun _ _ => ⟨rfl, e100, (by decide : 2 + 0 ≤ _), (by decide : 46 + 0 ≤ _)⟩)
    dsimp only [Pt.U, Pt.locs, Pt.cells, Pt.slots] at X134 l134 y134 z134 st134 hQ134
    subst l134 y134 z134
    obtain ⟨v134, N134q, K134q⟩ := hQ134
    have w134 : (fn1n Z (a_STRING_EQUALS_IGNORE_CASE Z)) = (a_STRING_EQUALS_IGNORE_CASE Z) := rfl
    rw [w134] at v134
    subst v134
    have N134 := Fr.app N133 N134q
    have O134 := O100.keep K134q all0
    have Kc134 := Kc100.trans K134q all0
    have fx135 := (V100.keep K134q nin0)
    obtain ⟨cq136, kq136, q136a, q136b, q136c⟩ := isOf hZ rfl ((e_a_STRING_EQUALS_IGNORE_CASE hS).ext O134.2)
    obtain ⟨_, _, ⟨T136, L136, k136, n136⟩, -, X136, ⟨Lc136, hQ136, l136, y136, z136⟩, st136⟩ := X134.virtualBack hx (y := (⟨"com/example/menshen/menshen/policy/ConditionOperator", "isNegated", "()Z"⟩ : MethodName)) (z := (⟨"com/example/menshen/menshen/policy/ConditionOperator", "isNegated", "()Z"⟩ : MethodName)) hown (mvT hZ (hw _ (List.mem_of_getElem? (i := 58) rfl))) (mvT hZ (hw _ (List.mem_of_getElem? (i := 59) rfl))) (notFace_of_selects (args := #[]) (mvT hZ (hw _ (List.mem_of_getElem? (i := 61) rfl)))) (mvT hZ (hw _ (List.mem_of_getElem? (i := 61) rfl))) (mvT hZ (hw _ (List.mem_of_getElem? (i := 60) rfl))) (by decide) (backOf (W := 0) (rm2n l Z a0 hw hS [] (a_STRING_EQUALS_IGNORE_CASE Z) T134.heap n0 O134 ((f_a_STRING_EQUALS_IGNORE_CASE_negationOf hS).ext O134.2)) hZ (hw _ (List.mem_of_getElem? (i := 62) rfl)) (hw _ (List.mem_of_getElem? (i := 3) rfl)) (by decide) (by decide)) q136a q136c (g := (mkF m 354 #[oI p0, oR b7, oR b54, oI (3 : Int32), oR (a_STRING_EQUALS_IGNORE_CASE Z), oR (a_STRING_EQUALS_IGNORE_CASE Z)] [(.ref (a_STRING_EQUALS_IGNORE_CASE Z))])) rfl (by rw [hml]; rfl) (Steps.refl _) (argsL := []) (rest := []) (lenOf pd_1 rfl) rfl (by show 2 * 0 + _ ≤ _; exact Nat.le_of_eq rfl) (hb hby at_354) (fun _ _ => ⟨rfl, rfl, (by decide : 2 + 0 ≤ _), (by decide : 46 + 0 ≤ _)⟩)
    dsimp only [Pt.U, Pt.locs, Pt.cells, Pt.slots] at X136 l136 y136 z136 st136 hQ136
    subst l136 y136 z136
    obtain ⟨v136, N136q, K136q⟩ := hQ136
    have w136 : (fn2n Z (a_STRING_EQUALS_IGNORE_CASE Z)) = (0 : Int32) := rfl
    rw [w136] at v136
    subst v136
    have N136 := Fr.app N134 N136q
    have O136 := O134.keep K136q all0
    have Kc136 := Kc134.trans K136q all0
    obtain ⟨cq137, kq137, q137a, q137b, q137c⟩ := isOf hZ rfl ((e_a_STRING_EQUALS_IGNORE_CASE hS).ext O136.2)
    obtain ⟨_, _, ⟨T137, L137, k137, n137⟩, -, X137, ⟨Lc137, hQ137, l137, y137, z137⟩, st137⟩ := X136.virtualBack hx (y := (⟨"com/example/menshen/menshen/policy/ConditionOperator", "positive", "()Lcom/example/menshen/menshen/policy/ConditionOperator;"⟩ : MethodName)) (z := (⟨"com/example/menshen/menshen/policy/ConditionOperator", "positive", "()Lcom/example/menshen/menshen/policy/ConditionOperator;"⟩ : MethodName)) hown (mvT hZ (hw _ (List.mem_of_getElem? (i := 51) rfl))) (mvT hZ (hw _ (List.mem_of_getElem? (i := 52) rfl))) (notFace_of_selects (args := #[]) (mvT hZ (hw _ (List.mem_of_getElem? (i := 54) rfl)))) (mvT hZ (hw _ (List.mem_of_getElem? (i := 54) rfl))) (mvT hZ (hw _ (List.mem_of_getElem? (i := 53) rfl))) (by decide) (backOf (W := 0) (rm1n l Z a0 hw hS [] (a_STRING_EQUALS_IGNORE_CASE Z) T136.heap n0 O136 ((f_a_STRING_EQUALS_IGNORE_CASE_negationOf hS).ext O136.2)) hZ (hw _ (List.mem_of_getElem? (i := 55) rfl)) (hw _ (List.mem_of_getElem? (i := 3) rfl)) (by decide) (by decide)) q137a q137c (g := (mkF m 364 #[oI p0, oR b7, oR b54, oI (3 : Int32), oR (a_STRING_EQUALS_IGNORE_CASE Z), oR (a_STRING_EQUALS_IGNORE_CASE Z)] [(.ref (a_STRING_EQUALS_IGNORE_CASE Z))])) rfl (by rw [hml]; rfl) (Steps.refl _) (argsL := []) (rest := []) (lenOf pd_0 rfl) rfl (by show 2 * 0 + _ ≤ _; exact Nat.le_of_eq rfl) (hb hby at_364) (fun _ _ => ⟨rfl, rfl, (by decide : 2 + 0 ≤ _), (by decide : 46 + 0 ≤ _)⟩)
    dsimp only [Pt.U, Pt.locs, Pt.cells, Pt.slots] at X137 l137 y137 z137 st137 hQ137
    subst l137 y137 z137
    obtain ⟨v137, N137q, K137q⟩ := hQ137
    have w137 : (fn1n Z (a_STRING_EQUALS_IGNORE_CASE Z)) = (a_STRING_EQUALS_IGNORE_CASE Z) := rfl
    rw [w137] at v137
    subst v137
    have N137 := Fr.app N136 N137q
    have O137 := O136.keep K137q all0
    have Kc137 := Kc136.trans K137q all0
    obtain ⟨cq138, kq138, q138a, q138b, q138c⟩ := isOf hZ rfl ((e_a_STRING_EQUALS_IGNORE_CASE hS).ext O137.2)
    obtain ⟨_, _, ⟨T138, L138, k138, n138⟩, -, X138, ⟨Lc138, hQ138, l138, y138, z138⟩, st138⟩ := X137.virtualBack hx (y := (⟨"com/example/menshen/menshen/policy/ConditionOperator", "literals", "()Lcom/example/menshen/menshen/policy/ConditionOperator$Literals;"⟩ : MethodName)) (z := (⟨"com/example/menshen/menshen/policy/ConditionOperator", "literals", "()Lcom/example/menshen/menshen/policy/ConditionOperator$Literals;"⟩ : MethodName)) hown (mvT hZ (hw _ (List.mem_of_getElem? (i := 63) rfl))) (mvT hZ (hw _ (List.mem_of_getElem? (i := 64) rfl))) (notFace_of_selects (args := #[]) (mvT hZ (hw _ (List.mem_of_getElem? (i := 66) rfl)))) (mvT hZ (hw _ (List.mem_of_getElem? (i := 66) rfl))) (mvT hZ (hw _ (List.mem_of_getElem? (i := 65) rfl))) (by decide) (backOf (W := 0) (rm3 l Z a0 hw hS [] (a_STRING_EQUALS_IGNORE_CASE Z) (a_NONE Z) T137.heap n0 O137 ((f_a_STRING_EQUALS_IGNORE_CASE_literals hS).ext O137.2)) hZ (hw _ (List.mem_of_getElem? (i := 67) rfl)) (hw _ (List.mem_of_getElem? (i := 3) rfl)) (by decide) (by decide)) q138a q138c (g := (mkF m 376 #[oI p0, oR b7, oR b54, oI (3 : Int32), oR (a_STRING_EQUALS_IGNORE_CASE Z), oR (a_STRING_EQUALS_IGNORE_CASE Z)] [(.ref (a_STRING_EQUALS_IGNORE_CASE Z))])) rfl (by rw [hml]; rfl) (Steps.refl _) (argsL := []) (rest := []) (lenOf pd_2 rfl) rfl (by show 2 * 0 + _ ≤ _; exact Nat.le_of_eq rfl) (hb hby at_376) (fun _ _ => ⟨rfl, rfl, (by decide : 2 + 0 ≤ _), (by decide : 46 + 0 ≤ _)⟩)
    dsimp only [Pt.U, Pt.locs, Pt.cells, Pt.slots] at X138 l138 y138 z138 st138 hQ138
    subst l138 y138 z138
    obtain ⟨v138, N138q, K138q⟩ := hQ138
    have w138 : (fn3 Z (a_STRING_EQUALS_IGNORE_CASE Z) (a_NONE Z)) = (a_NONE Z) := rfl
    rw [w138] at v138
    subst v138
    have N138 := Fr.app N137 N138q
    have O138 := O137.keep K138q all0
    have Kc138 := Kc137.trans K138q all0
    obtain ⟨cq139, kq139, q139a, q139b, q139c⟩ := isOf hZ rfl ((e_a_STRING_EQUALS_IGNORE_CASE hS).ext O138.2)
    obtain ⟨_, _, ⟨T139, L139, k139, n139⟩, -, X139, ⟨Lc139, hQ139, l139, y139, z139⟩, st139⟩ := X138.virtualBack hx (y := (⟨"com/example/menshen/menshen/policy/ConditionOperator", "literals", "()Lcom/example/menshen/menshen/policy/ConditionOperator$Literals;"⟩ : MethodName)) (z := (⟨"com/example/menshen/menshen/policy/ConditionOperator", "literals", "()Lcom/example/menshen/menshen/policy/ConditionOperator$Literals;"⟩ : MethodName)) hown (mvT hZ (hw _ (List.mem_of_getElem? (i := 63) rfl))) (mvT hZ (hw _ (List.mem_of_getElem? (i := 64) rfl))) (notFace_of_selects (args := #[]) (mvT hZ (hw _ (List.mem_of_getElem? (i := 66) rfl)))) (mvT hZ (hw _ (List.mem_of_getElem? (i := 66) rfl))) (mvT hZ (hw _ (List.mem_of_getElem? (i := 65) rfl))) (by decide) (backOf (W := 1) (rm3 l Z a0 hw hS [] (a_STRING_EQUALS_IGNORE_CASE Z) (a_NONE Z) T138.heap n0 O138 ((f_a_STRING_EQUALS_IGNORE_CASE_literals hS).ext O138.2)) hZ (hw _ (List.mem_of_getElem? (i := 67) rfl)) (hw _ (List.mem_of_getElem? (i := 3) rfl)) (by decide) (by decide)) q139a q139c (g := (mkF m 381 #[oI p0, oR b7, oR b54, oI (3 : Int32), oR (a_STRING_EQUALS_IGNORE_CASE Z), oR (a_STRING_EQUALS_IGNORE_CASE Z)] [(.ref (a_STRING_EQUALS_IGNORE_CASE Z)), (.ref (a_NONE Z))])) rfl (by rw [hml]; rfl) (Steps.refl _) (argsL := []) (rest := [(.ref (a_NONE Z))]) (lenOf pd_2 rfl) rfl (by show 2 * 0 + _ ≤ _; exact Nat.le_of_eq rfl) (hb hby at_381) (fun _ _ => ⟨rfl, rfl, (by decide : 2 + 0 ≤ _), (by decide : 46 + 0 ≤ _)⟩)
    dsimp only [Pt.U, Pt.locs, Pt.cells, Pt.slots] at X139 l139 y139 z139 st139 hQ139
    subst l139 y139 z139
    obtain ⟨v139, N139q, K139q⟩ := hQ139
    have w139 : (fn3 Z (a_STRING_EQUALS_IGNORE_CASE Z) (a_NONE Z)) = (a_NONE Z) := rfl
    rw [w139] at v139
    subst v139
    have N139 := Fr.app N138 N139q
    have O139 := O138.keep K139q all0
    have Kc139 := Kc138.trans K139q all0
    obtain ⟨lo140, X140, N140⟩ := own_hide X139 N139
    obtain ⟨cq141, kq141, q141a, q141b, q141c⟩ := isOf hZ rfl ((e_a_STRING_EQUALS_IGNORE_CASE hS).ext O139.2)
    obtain ⟨_, _, ⟨T141, L141, k141, n141⟩, -, X141, ⟨Lc141, hQ141, l141, y141, z141⟩, st141⟩ := X140.virtualBack hx (y := (⟨"com/example/menshen/menshen/policy/ConditionOperator", "isNegated", "()Z"⟩ : MethodName)) (z := (⟨"com/example/menshen/menshen/policy/ConditionOperator", "isNegated", "()Z"⟩ : MethodName)) hown (mvT hZ (hw _ (List.mem_of_getElem? (i := 58) rfl))) (mvT hZ (hw _ (List.mem_of_getElem? (i := 59) rfl))) (notFace_of_selects (args := #[]) (mvT hZ (hw _ (List.mem_of_getElem? (i := 61) rfl)))) (mvT hZ (hw _ (List.mem_of_getElem? (i := 61) rfl))) (mvT hZ (hw _ (List.mem_of_getElem? (i := 60) rfl))) (by decide) (backOf (W := 0) (rm2n l Z a0 hw hS [] (a_STRING_EQUALS_IGNORE_CASE Z) T139.heap n0 O139 ((f_a_STRING_EQUALS_IGNORE_CASE_negationOf hS).ext O139.2)) hZ (hw _ (List.mem_of_getElem? (i := 62) rfl)) (hw _ (List.mem_of_getElem? (i := 3) rfl)) (by decide) (by decide)) q141a q141c (g := (mkF m 391 #[oI p0, oR b7, oR b54, oI (3 : Int32), oR (a_STRING_EQUALS_IGNORE_CASE Z), oR (a_STRING_EQUALS_IGNORE_CASE Z)] [(.ref (a_STRING_EQUALS_IGNORE_CASE Z))])) rfl (by rw [hml]; rfl) (Steps.refl _) (argsL := []) (rest := []) (lenOf pd_1 rfl) rfl (by show 2 * 0 + _ ≤ _; exact Nat.le_of_eq rfl) (hb hby at_391) (fun _ _ => ⟨rfl, rfl, (by decide : 2 + 0 ≤ _), (by decide : 46 + 0 ≤ _)⟩)
    dsimp only [Pt.U, Pt.locs, Pt.cells, Pt.slots] at X141 l141 y141 z141 st141 hQ141
    subst l141 y141 z141
    obtain ⟨v141, N141q, K141q⟩ := hQ141
    have w141 : (fn2n Z (a_STRING_EQUALS_IGNORE_CASE Z)) = (0 : Int32) := rfl
    rw [w141] at v141
    subst v141
    have N141 := Fr.app N140 N141q
    have O141 := O139.keep K141q all0
    have Kc141 := Kc139.trans K141q all0
    obtain ⟨fs, hr, hrun, hended, hW, hsame⟩ := X141.leave (v := some (.int (1 : Int32))) (fun h => by rw [Bd.returns] at h; cases h)
    refine ⟨_, _, pre101 _ ?_, hrun, hended, _, _, rfl, ?_, ⟨_, rfl⟩, hW, hsame.mono (by decide) (by decide)⟩
    · show oP p e below T100 (mkF m 329 #[oI p0, oR b7, oR b54, oU, oU, oU] [(.int (3 : Int32))]) _
      refine XS.istoreN X100.here hx rfl (hb hby at_329) rfl (l' := #[oI p0, oR b7, oR b54, oI (3 : Int32), oU, oU]) rfl ?_
      show oP p e below T100 (mkF m 330 #[oI p0, oR b7, oR b54, oI (3 : Int32), oU, oU] []) _
      refine XS.aloadN X100.here hx rfl (hb hby at_330) rfl rfl ?_
      show oP p e below T100 (mkF m 331 #[oI p0, oR b7, oR b54, oI (3 : Int32), oU, oU] [(.ref b7)]) _
      refine XS.iloadN X100.here hx rfl (hb hby at_331) rfl ?_
      show oP p e below T100 (mkF m 332 #[oI p0, oR b7, oR b54, oI (3 : Int32), oU, oU] [(.int (3 : Int32)), (.ref b7)]) _
      refine own_aaload X100 hx hZ e100 fx132 rfl (j := (3 : Int32)) ⟨by decide, by decide⟩ (v := (.ref (a_STRING_EQUALS_IGNORE_CASE Z))) rfl (g := (mkF m 332 #[oI p0, oR b7, oR b54, oI (3 : Int32), oU, oU] [(.int (3 : Int32)), (.ref b7)])) rfl rfl (hb hby at_332) _ ?_
      show oP p e below T100 (mkF m 333 #[oI p0, oR b7, oR b54, oI (3 : Int32), oU, oU] [(.ref (a_STRING_EQUALS_IGNORE_CASE Z))]) _
      refine XS.astore X100.here hx rfl (hb hby at_333) rfl rfl (l' := #[oI p0, oR b7, oR b54, oI (3 : Int32), oR (a_STRING_EQUALS_IGNORE_CASE Z), oU]) rfl ?_
      show oP p e below T100 (mkF m 335 #[oI p0, oR b7, oR b54, oI (3 : Int32), oR (a_STRING_EQUALS_IGNORE_CASE Z), oU] []) _
      refine XS.aload X100.here hx rfl (hb hby at_335) rfl rfl ?_
      show oP p e below T100 (mkF m 337 #[oI p0, oR b7, oR b54, oI (3 : Int32), oR (a_STRING_EQUALS_IGNORE_CASE Z), oU] [(.ref (a_STRING_EQUALS_IGNORE_CASE Z))]) _
      refine st134.trans ?_
      show oP p e below T134 (mkF m 340 #[oI p0, oR b7, oR b54, oI (3 : Int32), oR (a_STRING_EQUALS_IGNORE_CASE Z), oU] [(.ref (a_STRING_EQUALS_IGNORE_CASE Z))]) _
      refine XS.astore X134.here hx rfl (hb hby at_340) rfl rfl (l' := #[oI p0, oR b7, oR b54, oI (3 : Int32), oR (a_STRING_EQUALS_IGNORE_CASE Z), oR (a_STRING_EQUALS_IGNORE_CASE Z)]) rfl ?_
      show oP p e below T134 (mkF m 342 #[oI p0, oR b7, oR b54, oI (3 : Int32), oR (a_STRING_EQUALS_IGNORE_CASE Z), oR (a_STRING_EQUALS_IGNORE_CASE Z)] []) _
      refine XS.aload X134.here hx rfl (hb hby at_342) rfl rfl ?_
      show oP p e below T134 (mkF m 344 #[oI p0, oR b7, oR b54, oI (3 : Int32), oR (a_STRING_EQUALS_IGNORE_CASE Z), oR (a_STRING_EQUALS_IGNORE_CASE Z)] [(.ref (a_STRING_EQUALS_IGNORE_CASE Z))]) _
      refine XS.aloadN X134.here hx rfl (hb hby at_344) rfl rfl ?_
      show oP p e below T134 (mkF m 345 #[oI p0, oR b7, oR b54, oI (3 : Int32), oR (a_STRING_EQUALS_IGNORE_CASE Z), oR (a_STRING_EQUALS_IGNORE_CASE Z)] [(.ref b54), (.ref (a_STRING_EQUALS_IGNORE_CASE Z))]) _
      refine XS.iloadN X134.here hx rfl (hb hby at_345) rfl ?_
      show oP p e below T134 (mkF m 346 #[oI p0, oR b7, oR b54, oI (3 : Int32), oR (a_STRING_EQUALS_IGNORE_CASE Z), oR (a_STRING_EQUALS_IGNORE_CASE Z)] [(.int (3 : Int32)), (.ref b54), (.ref (a_STRING_EQUALS_IGNORE_CASE Z))]) _
      refine own_aaload X134 hx hZ rfl fx135 rfl (j := (3 : Int32)) ⟨by decide, by decide⟩ (v := (.ref (a_STRING_EQUALS_IGNORE_CASE Z))) rfl (g := (mkF m 346 #[oI p0, oR b7, oR b54, oI (3 : Int32), oR (a_STRING_EQUALS_IGNORE_CASE Z), oR (a_STRING_EQUALS_IGNORE_CASE Z)] [(.int (3 : Int32)), (.ref b54), (.ref (a_STRING_EQUALS_IGNORE_CASE Z))])) rfl rfl (hb hby at_346) _ ?_
      show oP p e below T134 (mkF m 347 #[oI p0, oR b7, oR b54, oI (3 : Int32), oR (a_STRING_EQUALS_IGNORE_CASE Z), oR (a_STRING_EQUALS_IGNORE_CASE Z)] [(.ref (a_STRING_EQUALS_IGNORE_CASE Z)), (.ref (a_STRING_EQUALS_IGNORE_CASE Z))]) _
      refine Jvm.RoadKit.acmp (g := (mkF m 347 #[oI p0, oR b7, oR b54, oI (3 : Int32), oR (a_STRING_EQUALS_IGNORE_CASE Z), oR (a_STRING_EQUALS_IGNORE_CASE Z)] [(.ref (a_STRING_EQUALS_IGNORE_CASE Z)), (.ref (a_STRING_EQUALS_IGNORE_CASE Z))])) X134 hx rfl rfl rfl (pc0 := 347) (pc' := 352) (same := true) rfl (hb hby at_347) rfl (decide_eq_true (congrArg Value.ref (rfl : (a_STRING_EQUALS_IGNORE_CASE Z) = (a_STRING_EQUALS_IGNORE_CASE Z)))) (by decide) (by decide) ?_
      show oP p e below T134 (mkF m 352 #[oI p0, oR b7, oR b54, oI (3 : Int32), oR (a_STRING_EQUALS_IGNORE_CASE Z), oR (a_STRING_EQUALS_IGNORE_CASE Z)] []) _
      refine XS.aload X134.here hx rfl (hb hby at_352) rfl rfl ?_
      show oP p e below T134 (mkF m 354 #[oI p0, oR b7, oR b54, oI (3 : Int32), oR (a_STRING_EQUALS_IGNORE_CASE Z), oR (a_STRING_EQUALS_IGNORE_CASE Z)] [(.ref (a_STRING_EQUALS_IGNORE_CASE Z))]) _
      refine st136.trans ?_
      show oP p e below T136 (mkF m 357 #[oI p0, oR b7, oR b54, oI (3 : Int32), oR (a_STRING_EQUALS_IGNORE_CASE Z), oR (a_STRING_EQUALS_IGNORE_CASE Z)] [(.int (0 : Int32))]) _
      refine XS.ifYes X136.here hx rfl (pc0 := 357) (pc' := 362) rfl (hb hby at_357) rfl ((if0 _ _).trans (teq (by decide : (0 : Int32) = (0 : Int32))).1) (by decide) (by decide) ?_
      show oP p e below T136 (mkF m 362 #[oI p0, oR b7, oR b54, oI (3 : Int32), oR (a_STRING_EQUALS_IGNORE_CASE Z), oR (a_STRING_EQUALS_IGNORE_CASE Z)] []) _
      refine XS.aload X136.here hx rfl (hb hby at_362) rfl rfl ?_
      show oP p e below T136 (mkF m 364 #[oI p0, oR b7, oR b54, oI (3 : Int32), oR (a_STRING_EQUALS_IGNORE_CASE Z), oR (a_STRING_EQUALS_IGNORE_CASE Z)] [(.ref (a_STRING_EQUALS_IGNORE_CASE Z))]) _
      refine st137.trans ?_
      show oP p e below T137 (mkF m 367 #[oI p0, oR b7, oR b54, oI (3 : Int32), oR (a_STRING_EQUALS_IGNORE_CASE Z), oR (a_STRING_EQUALS_IGNORE_CASE Z)] [(.ref (a_STRING_EQUALS_IGNORE_CASE Z))]) _
      refine XS.aload X137.here hx rfl (hb hby at_367) rfl rfl ?_
      show oP p e below T137 (mkF m 369 #[oI p0, oR b7, oR b54, oI (3 : Int32), oR (a_STRING_EQUALS_IGNORE_CASE Z), oR (a_STRING_EQUALS_IGNORE_CASE Z)] [(.ref (a_STRING_EQUALS_IGNORE_CASE Z)), (.ref (a_STRING_EQUALS_IGNORE_CASE Z))]) _
      refine Jvm.RoadKit.acmp (g := (mkF m 369 #[oI p0, oR b7, oR b54, oI (3 : Int32), oR (a_STRING_EQUALS_IGNORE_CASE Z), oR (a_STRING_EQUALS_IGNORE_CASE Z)] [(.ref (a_STRING_EQUALS_IGNORE_CASE Z)), (.ref (a_STRING_EQUALS_IGNORE_CASE Z))])) X137 hx rfl rfl rfl (pc0 := 369) (pc' := 374) (same := true) rfl (hb hby at_369) rfl (decide_eq_true (congrArg Value.ref (rfl : (a_STRING_EQUALS_IGNORE_CASE Z) = (a_STRING_EQUALS_IGNORE_CASE Z)))) (by decide) (by decide) ?_
      show oP p e below T137 (mkF m 374 #[oI p0, oR b7, oR b54, oI (3 : Int32), oR (a_STRING_EQUALS_IGNORE_CASE Z), oR (a_STRING_EQUALS_IGNORE_CASE Z)] []) _
      refine XS.aload X137.here hx rfl (hb hby at_374) rfl rfl ?_
      show oP p e below T137 (mkF m 376 #[oI p0, oR b7, oR b54, oI (3 : Int32), oR (a_STRING_EQUALS_IGNORE_CASE Z), oR (a_STRING_EQUALS_IGNORE_CASE Z)] [(.ref (a_STRING_EQUALS_IGNORE_CASE Z))]) _
      refine st138.trans ?_
      show oP p e below T138 (mkF m 379 #[oI p0, oR b7, oR b54, oI (3 : Int32), oR (a_STRING_EQUALS_IGNORE_CASE Z), oR (a_STRING_EQUALS_IGNORE_CASE Z)] [(.ref (a_NONE Z))]) _
      refine XS.aload X138.here hx rfl (hb hby at_379) rfl rfl ?_
      show oP p e below T138 (mkF m 381 #[oI p0, oR b7, oR b54, oI (3 : Int32), oR (a_STRING_EQUALS_IGNORE_CASE Z), oR (a_STRING_EQUALS_IGNORE_CASE Z)] [(.ref (a_STRING_EQUALS_IGNORE_CASE Z)), (.ref (a_NONE Z))]) _
      refine st139.trans ?_
      show oP p e below T139 (mkF m 384 #[oI p0, oR b7, oR b54, oI (3 : Int32), oR (a_STRING_EQUALS_IGNORE_CASE Z), oR (a_STRING_EQUALS_IGNORE_CASE Z)] [(.ref (a_NONE Z)), (.ref (a_NONE Z))]) _
      refine Jvm.RoadKit.acmp (g := (mkF m 384 #[oI p0, oR b7, oR b54, oI (3 : Int32), oR (a_STRING_EQUALS_IGNORE_CASE Z), oR (a_STRING_EQUALS_IGNORE_CASE Z)] [(.ref (a_NONE Z)), (.ref (a_NONE Z))])) X139 hx rfl rfl rfl (pc0 := 384) (pc' := 389) (same := true) rfl (hb hby at_384) rfl (decide_eq_true (congrArg Value.ref (rfl : (a_NONE Z) = (a_NONE Z)))) (by decide) (by decide) ?_
      show oP p e below T139 (mkF m 389 #[oI p0, oR b7, oR b54, oI (3 : Int32), oR (a_STRING_EQUALS_IGNORE_CASE Z), oR (a_STRING_EQUALS_IGNORE_CASE Z)] []) _
      refine XS.aload X139.here hx rfl (hb hby at_389) rfl rfl ?_
      show oP p e below T139 (mkF m 391 #[oI p0, oR b7, oR b54, oI (3 : Int32), oR (a_STRING_EQUALS_IGNORE_CASE Z), oR (a_STRING_EQUALS_IGNORE_CASE Z)] [(.ref (a_STRING_EQUALS_IGNORE_CASE Z))]) _
      refine st141.trans ?_
      show oP p e below T141 (mkF m 394 #[oI p0, oR b7, oR b54, oI (3 : Int32), oR (a_STRING_EQUALS_IGNORE_CASE Z), oR (a_STRING_EQUALS_IGNORE_CASE Z)] [(.int (0 : Int32))]) _
      refine XS.aload X141.here hx rfl (hb hby at_394) rfl rfl ?_
      show oP p e below T141 (mkF m 396 #[oI p0, oR b7, oR b54, oI (3 : Int32), oR (a_STRING_EQUALS_IGNORE_CASE Z), oR (a_STRING_EQUALS_IGNORE_CASE Z)] [(.ref (a_STRING_EQUALS_IGNORE_CASE Z)), (.int (0 : Int32))]) _
      refine XS.aload X141.here hx rfl (hb hby at_396) rfl rfl ?_
      show oP p e below T141 (mkF m 398 #[oI p0, oR b7, oR b54, oI (3 : Int32), oR (a_STRING_EQUALS_IGNORE_CASE Z), oR (a_STRING_EQUALS_IGNORE_CASE Z)] [(.ref (a_STRING_EQUALS_IGNORE_CASE Z)), (.ref (a_STRING_EQUALS_IGNORE_CASE Z)), (.int (0 : Int32))]) _
      refine Jvm.RoadKit.acmp (g := (mkF m 398 #[oI p0, oR b7, oR b54, oI (3 : Int32), oR (a_STRING_EQUALS_IGNORE_CASE Z), oR (a_STRING_EQUALS_IGNORE_CASE Z)] [(.ref (a_STRING_EQUALS_IGNORE_CASE Z)), (.ref (a_STRING_EQUALS_IGNORE_CASE Z)), (.int (0 : Int32))])) X141 hx rfl rfl rfl (pc0 := 398) (pc' := 405) (same := true) rfl (hb hby at_398) rfl (decide_eq_true (congrArg Value.ref (rfl : (a_STRING_EQUALS_IGNORE_CASE Z) = (a_STRING_EQUALS_IGNORE_CASE Z)))) (by decide) (by decide) ?_
      show oP p e below T141 (mkF m 405 #[oI p0, oR b7, oR b54, oI (3 : Int32), oR (a_STRING_EQUALS_IGNORE_CASE Z), oR (a_STRING_EQUALS_IGNORE_CASE Z)] [(.int (0 : Int32))]) _
      refine XS.iconst X141.here hx rfl (hb hby at_405) ?_
      show oP p e below T141 (mkF m 406 #[oI p0, oR b7, oR b54, oI (3 : Int32), oR (a_STRING_EQUALS_IGNORE_CASE Z), oR (a_STRING_EQUALS_IGNORE_CASE Z)] [(.int (0 : Int32)), (.int (0 : Int32))]) _
      refine XS.icmpNo X141.here hx rfl (hb hby at_406) rfl (teq (by decide : (0 : Int32) = (0 : Int32))).2 ?_
      show oP p e below T141 (mkF m 409 #[oI p0, oR b7, oR b54, oI (3 : Int32), oR (a_STRING_EQUALS_IGNORE_CASE Z), oR (a_STRING_EQUALS_IGNORE_CASE Z)] []) _
      refine XS.iconst X141.here hx rfl (hb hby at_409) ?_
      show oP p e below T141 (mkF m 410 #[oI p0, oR b7, oR b54, oI (3 : Int32), oR (a_STRING_EQUALS_IGNORE_CASE Z), oR (a_STRING_EQUALS_IGNORE_CASE Z)] [(.int (1 : Int32))]) _
      refine XS.goto X141.here hx rfl (pc0 := 410) (pc' := 414) rfl (hb hby at_410) (by decide) (by decide) ?_
      show oP p e below T141 (mkF m 414 #[oI p0, oR b7, oR b54, oI (3 : Int32), oR (a_STRING_EQUALS_IGNORE_CASE Z), oR (a_STRING_EQUALS_IGNORE_CASE Z)] [(.int (1 : Int32))]) _
      exact retN X141 hx (t := .boolean) Bd.returns (by simp) (hb hby at_414) hr
    · show (some (.int (1 : Int32)) : Option Value) = some (.int (1 : Int32)) ∧ Fr n0 _ ∧ Keep h0 T141.heap []
      exact ⟨rfl, N141, Kc141⟩
  · have fx142 := ((((((((((((((((((((((((V53.ext E54).other W56 ne_b7_b54).other W58 ne_b7_b54).other W60 ne_b7_b54).other W62 ne_b7_b54).other W64 ne_b7_b54).other W66 ne_b7_b54).other W68 ne_b7_b54).other W70 ne_b7_b54).other W72 ne_b7_b54).other W74 ne_b7_b54).other W76 ne_b7_b54).other W78 ne_b7_b54).other W80 ne_b7_b54).other W82 ne_b7_b54).other W84 ne_b7_b54).other W86 ne_b7_b54).other W88 ne_b7_b54).other W90 ne_b7_b54).other W92 ne_b7_b54).other W94 ne_b7_b54).other W96 ne_b7_b54).other W98 ne_b7_b54).other W100 ne_b7_b54)
    obtain ⟨lo143, X143, N143⟩ := own_hide X100 N100
    obtain ⟨cq144, kq144, q144a, q144b, q144c⟩ := isOf hZ e100 ((e_a_STRING_NOT_EQUALS_IGNORE_CASE hS).ext O100.2)
    obtain ⟨_, _, ⟨T144, L144, k144, n144⟩, -, X144, ⟨Lc144, hQ144, l144, y144, z144⟩, st144⟩ := X143.virtualBack hx (y := (⟨"com/example/menshen/menshen/policy/ConditionOperator", "positive", "()Lcom/example/menshen/menshen/policy/ConditionOperator;"⟩ : MethodName)) (z := (⟨"com/example/menshen/menshen/policy/ConditionOperator", "positive", "()Lcom/example/menshen/menshen/policy/ConditionOperator;"⟩ : MethodName)) hown (mvT hZ (hw _ (List.mem_of_getElem? (i := 51) rfl))) (mvT hZ (hw _ (List.mem_of_getElem? (i := 52) rfl))) (notFace_of_selects (args := #[]) (mvT hZ (hw _ (List.mem_of_getElem? (i := 54) rfl)))) (mvT hZ (hw _ (List.mem_of_getElem? (i := 54) rfl))) (mvT hZ (hw _ (List.mem_of_getElem? (i := 53) rfl))) (by decide) (backOf (W := 0) (rm1r l Z a0 hw hS [] (a_STRING_NOT_EQUALS_IGNORE_CASE Z) (a_STRING_EQUALS_IGNORE_CASE Z) h100 n0 O100 ((f_a_STRING_NOT_EQUALS_IGNORE_CASE_negationOf hS).ext O100.2)) hZ (hw _ (List.mem_of_getElem? (i := 55) rfl)) (hw _ (List.mem_of_getElem? (i := 3) rfl)) (by decide) (by decide)) q144a q144c (g := (mkF m 337 #[oI p0, oR b7, oR b54, oI (4 : Int32), oR (a_STRING_NOT_EQUALS_IGNORE_CASE Z), oU] [(.ref (a_STRING_NOT_EQUALS_IGNORE_CASE Z))])) rfl (by rw [hml]; rfl) (Steps.refl _) (argsL := []) (rest := []) (lenOf pd_0 rfl) rfl (by show 2 * 0 + _ ≤ _; exact Nat.le_of_eq rfl) (hb hby at_337) (fun _ _ => ⟨rfl, e100, (by decide : 2 + 0 ≤ _), (by decide : 46 + 0 ≤ _)⟩)
    dsimp only [Pt.U, Pt.locs, Pt.cells, Pt.slots] at X144 l144 y144 z144 st144 hQ144
    subst l144 y144 z144
    obtain ⟨v144, N144q, K144q⟩ := hQ144
    have w144 : (fn1r Z (a_STRING_NOT_EQUALS_IGNORE_CASE Z) (a_STRING_EQUALS_IGNORE_CASE Z)) = (a_STRING_EQUALS_IGNORE_CASE Z) := rfl
    rw [w144] at v144
    subst v144
    have N144 := Fr.app N143 N144q
    have O144 := O100.keep K144q all0
    have Kc144 := Kc100.trans K144q all0
    have fx145 := (V100.keep K144q nin0)
    obtain ⟨cq146, kq146, q146a, q146b, q146c⟩ := isOf hZ rfl ((e_a_STRING_EQUALS_IGNORE_CASE hS).ext O144.2)
    obtain ⟨_, _, ⟨T146, L146, k146, n146⟩, -, X146, ⟨Lc146, hQ146, l146, y146, z146⟩, st146⟩ := X144.virtualBack hx (y := (⟨"com/example/menshen/menshen/policy/ConditionOperator", "isNegated", "()Z"⟩ : MethodName)) (z := (⟨"com/example/menshen/menshen/policy/ConditionOperator", "isNegated", "()Z"⟩ : MethodName)) hown (mvT hZ (hw _ (List.mem_of_getElem? (i := 58) rfl))) (mvT hZ (hw _ (List.mem_of_getElem? (i := 59) rfl))) (notFace_of_selects (args := #[]) (mvT hZ (hw _ (List.mem_of_getElem? (i := 61) rfl)))) (mvT hZ (hw _ (List.mem_of_getElem? (i := 61) rfl))) (mvT hZ (hw _ (List.mem_of_getElem? (i := 60) rfl))) (by decide) (backOf (W := 0) (rm2n l Z a0 hw hS [] (a_STRING_EQUALS_IGNORE_CASE Z) T144.heap n0 O144 ((f_a_STRING_EQUALS_IGNORE_CASE_negationOf hS).ext O144.2)) hZ (hw _ (List.mem_of_getElem? (i := 62) rfl)) (hw _ (List.mem_of_getElem? (i := 3) rfl)) (by decide) (by decide)) q146a q146c (g := (mkF m 354 #[oI p0, oR b7, oR b54, oI (4 : Int32), oR (a_STRING_NOT_EQUALS_IGNORE_CASE Z), oR (a_STRING_EQUALS_IGNORE_CASE Z)] [(.ref (a_STRING_EQUALS_IGNORE_CASE Z))])) rfl (by rw [hml]; rfl) (Steps.refl _) (argsL := []) (rest := []) (lenOf pd_1 rfl) rfl (by show 2 * 0 + _ ≤ _; exact Nat.le_of_eq rfl) (hb hby at_354) (fun _ _ => ⟨rfl, rfl, (by decide : 2 + 0 ≤ _), (by decide : 46 + 0 ≤ _)⟩)
    dsimp only [Pt.U, Pt.locs, Pt.cells, Pt.slots] at X146 l146 y146 z146 st146 hQ146
    subst l146 y146 z146
    obtain ⟨v146, N146q, K146q⟩ := hQ146
    have w146 : (fn2n Z (a_STRING_EQUALS_IGNORE_CASE Z)) = (0 : Int32) := rfl
    rw [w146] at v146
    subst v146
    have N146 := Fr.app N144 N146q
    have O146 := O144.keep K146q all0
    have Kc146 := Kc144.trans K146q all0
    obtain ⟨cq147, kq147, q147a, q147b, q147c⟩ := isOf hZ rfl ((e_a_STRING_EQUALS_IGNORE_CASE hS).ext O146.2)
    obtain ⟨_, _, ⟨T147, L147, k147, n147⟩, -, X147, ⟨Lc147, hQ147, l147, y147, z147⟩, st147⟩ := X146.virtualBack hx (y := (⟨"com/example/menshen/menshen/policy/ConditionOperator", "positive", "()Lcom/example/menshen/menshen/policy/ConditionOperator;"⟩ : MethodName)) (z := (⟨"com/example/menshen/menshen/policy/ConditionOperator", "positive", "()Lcom/example/menshen/menshen/policy/ConditionOperator;"⟩ : MethodName)) hown (mvT hZ (hw _ (List.mem_of_getElem? (i := 51) rfl))) (mvT hZ (hw _ (List.mem_of_getElem? (i := 52) rfl))) (notFace_of_selects (args := #[]) (mvT hZ (hw _ (List.mem_of_getElem? (i := 54) rfl)))) (mvT hZ (hw _ (List.mem_of_getElem? (i := 54) rfl))) (mvT hZ (hw _ (List.mem_of_getElem? (i := 53) rfl))) (by decide) (backOf (W := 0) (rm1n l Z a0 hw hS [] (a_STRING_EQUALS_IGNORE_CASE Z) T146.heap n0 O146 ((f_a_STRING_EQUALS_IGNORE_CASE_negationOf hS).ext O146.2)) hZ (hw _ (List.mem_of_getElem? (i := 55) rfl)) (hw _ (List.mem_of_getElem? (i := 3) rfl)) (by decide) (by decide)) q147a q147c (g := (mkF m 364 #[oI p0, oR b7, oR b54, oI (4 : Int32), oR (a_STRING_NOT_EQUALS_IGNORE_CASE Z), oR (a_STRING_EQUALS_IGNORE_CASE Z)] [(.ref (a_STRING_EQUALS_IGNORE_CASE Z))])) rfl (by rw [hml]; rfl) (Steps.refl _) (argsL := []) (rest := []) (lenOf pd_0 rfl) rfl (by show 2 * 0 + _ ≤ _; exact Nat.le_of_eq rfl) (hb hby at_364) (fun _ _ => ⟨rfl, rfl, (by decide : 2 + 0 ≤ _), (by decide : 46 + 0 ≤ _)⟩)
    dsimp only [Pt.U, Pt.locs, Pt.cells, Pt.slots] at X147 l147 y147 z147 st147 hQ147
    subst l147 y147 z147
    obtain ⟨v147, N147q, K147q⟩ := hQ147
    have w147 : (fn1n Z (a_STRING_EQUALS_IGNORE_CASE Z)) = (a_STRING_EQUALS_IGNORE_CASE Z) := rfl
    rw [w147] at v147
    subst v147
    have N147 := Fr.app N146 N147q
    have O147 := O146.keep K147q all0
    have Kc147 := Kc146.trans K147q all0
    obtain ⟨cq148, kq148, q148a, q148b, q148c⟩ := isOf hZ rfl ((e_a_STRING_EQUALS_IGNORE_CASE hS).ext O147.2)
    obtain ⟨_, _, ⟨T148, L148, k148, n148⟩, -, X148, ⟨Lc148, hQ148, l148, y148, z148⟩, st148⟩ := X147.virtualBack hx (y := (⟨"com/example/menshen/menshen/policy/ConditionOperator", "literals", "()Lcom/example/menshen/menshen/policy/ConditionOperator$Literals;"⟩ : MethodName)) (z := (⟨"com/example/menshen/menshen/policy/ConditionOperator", "literals", "()Lcom/example/menshen/menshen/policy/ConditionOperator$Literals;"⟩ : MethodName)) hown (mvT hZ (hw _ (List.mem_of_getElem? (i := 63) rfl))) (mvT hZ (hw _ (List.mem_of_getElem? (i := 64) rfl))) (notFace_of_selects (args := #[]) (mvT hZ (hw _ (List.mem_of_getElem? (i := 66) rfl)))) (mvT hZ (hw _ (List.mem_of_getElem? (i := 66) rfl))) (mvT hZ (hw _ (List.mem_of_getElem? (i := 65) rfl))) (by decide) (backOf (W := 0) (rm3 l Z a0 hw hS [] (a_STRING_EQUALS_IGNORE_CASE Z) (a_NONE Z) T147.heap n0 O147 ((f_a_STRING_EQUALS_IGNORE_CASE_literals hS).ext O147.2)) hZ (hw _ (List.mem_of_getElem? (i := 67) rfl)) (hw _ (List.mem_of_getElem? (i := 3) rfl)) (by decide) (by decide)) q148a q148c (g := (mkF m 376 #[oI p0, oR b7, oR b54, oI (4 : Int32), oR (a_STRING_NOT_EQUALS_IGNORE_CASE Z), oR (a_STRING_EQUALS_IGNORE_CASE Z)] [(.ref (a_STRING_EQUALS_IGNORE_CASE Z))])) rfl (by rw [hml]; rfl) (Steps.refl _) (argsL := []) (rest := []) (lenOf pd_2 rfl) rfl (by show 2 * 0 + _ ≤ _; exact Nat.le_of_eq rfl) (hb hby at_376) (fun _ _ => ⟨rfl, rfl, (by decide : 2 + 0 ≤ _), (by decide : 46 + 0 ≤ _)⟩)
    dsimp only [Pt.U, Pt.locs, Pt.cells, Pt.slots] at X148 l148 y148 z148 st148 hQ148
    subst l148 y148 z148
    obtain ⟨v148, N148q, K148q⟩ := hQ148
    have w148 : (fn3 Z (a_STRING_EQUALS_IGNORE_CASE Z) (a_NONE Z)) = (a_NONE Z) := rfl
    rw [w148] at v148
    subst v148
    have N148 := Fr.app N147 N148q
    have O148 := O147.keep K148q all0
    have Kc148 := Kc147.trans K148q all0
    obtain ⟨cq149, kq149, q149a, q149b, q149c⟩ := isOf hZ rfl ((e_a_STRING_NOT_EQUALS_IGNORE_CASE hS).ext O148.2)
    obtain ⟨_, _, ⟨T149, L149, k149, n149⟩, -, X149, ⟨Lc149, hQ149, l149, y149, z149⟩, st149⟩ := X148.virtualBack hx (y := (⟨"com/example/menshen/menshen/policy/ConditionOperator", "literals", "()Lcom/example/menshen/menshen/policy/ConditionOperator$Literals;"⟩ : MethodName)) (z := (⟨"com/example/menshen/menshen/policy/ConditionOperator", "literals", "()Lcom/example/menshen/menshen/policy/ConditionOperator$Literals;"⟩ : MethodName)) hown (mvT hZ (hw _ (List.mem_of_getElem? (i := 63) rfl))) (mvT hZ (hw _ (List.mem_of_getElem? (i := 64) rfl))) (notFace_of_selects (args := #[]) (mvT hZ (hw _ (List.mem_of_getElem? (i := 66) rfl)))) (mvT hZ (hw _ (List.mem_of_getElem? (i := 66) rfl))) (mvT hZ (hw _ (List.mem_of_getElem? (i := 65) rfl))) (by decide) (backOf (W := 1) (rm3 l Z a0 hw hS [] (a_STRING_NOT_EQUALS_IGNORE_CASE Z) (a_NONE Z) T148.heap n0 O148 ((f_a_STRING_NOT_EQUALS_IGNORE_CASE_literals hS).ext O148.2)) hZ (hw _ (List.mem_of_getElem? (i := 67) rfl)) (hw _ (List.mem_of_getElem? (i := 3) rfl)) (by decide) (by decide)) q149a q149c (g := (mkF m 381 #[oI p0, oR b7, oR b54, oI (4 : Int32), oR (a_STRING_NOT_EQUALS_IGNORE_CASE Z), oR (a_STRING_EQUALS_IGNORE_CASE Z)] [(.ref (a_STRING_NOT_EQUALS_IGNORE_CASE Z)), (.ref (a_NONE Z))])) rfl (by rw [hml]; rfl) (Steps.refl _) (argsL := []) (rest := [(.ref (a_NONE Z))]) (lenOf pd_2 rfl) rfl (by show 2 * 0 + _ ≤ _; exact Nat.le_of_eq rfl) (hb hby at_381) (fun _ _ => ⟨rfl, rfl, (by decide : 2 + 0 ≤ _), (by decide : 46 + 0 ≤ _)⟩)
    dsimp only [Pt.U, Pt.locs, Pt.cells, Pt.slots] at X149 l149 y149 z149 st149 hQ149
    subst l149 y149 z149
    obtain ⟨v149, N149q, K149q⟩ := hQ149
    have w149 : (fn3 Z (a_STRING_NOT_EQUALS_IGNORE_CASE Z) (a_NONE Z)) = (a_NONE Z) := rfl
    rw [w149] at v149
    subst v149
    have N149 := Fr.app N148 N149q
    have O149 := O148.keep K149q all0
    have Kc149 := Kc148.trans K149q all0
    obtain ⟨lo150, X150, N150⟩ := own_hide X149 N149
    obtain ⟨cq151, kq151, q151a, q151b, q151c⟩ := isOf hZ rfl ((e_a_STRING_NOT_EQUALS_IGNORE_CASE hS).ext O149.2)
    obtain ⟨_, _, ⟨T151, L151, k151, n151⟩, -, X151, ⟨Lc151, hQ151, l151, y151, z151⟩, st151⟩ := X150.virtualBack hx (y := (⟨"com/example/menshen/menshen/policy/ConditionOperator", "isNegated", "()Z"⟩ : MethodName)) (z := (⟨"com/example/menshen/menshen/policy/ConditionOperator", "isNegated", "()Z"⟩ : MethodName)) hown (mvT hZ (hw _ (List.mem_of_getElem? (i := 58) rfl))) (mvT hZ (hw _ (List.mem_of_getElem? (i := 59) rfl))) (notFace_of_selects (args := #[]) (mvT hZ (hw _ (List.mem_of_getElem? (i := 61) rfl)))) (mvT hZ (hw _ (List.mem_of_getElem? (i := 61) rfl))) (mvT hZ (hw _ (List.mem_of_getElem? (i := 60) rfl))) (by decide) (backOf (W := 0) (rm2r l Z a0 hw hS [] (a_STRING_NOT_EQUALS_IGNORE_CASE Z) (a_STRING_EQUALS_IGNORE_CASE Z) T149.heap n0 O149 ((f_a_STRING_NOT_EQUALS_IGNORE_CASE_negationOf hS).ext O149.2)) hZ (hw _ (List.mem_of_getElem? (i := 62) rfl)) (hw _ (List.mem_of_getElem? (i := 3) rfl)) (by decide) (by decide)) q151a q151c (g := (mkF m 391 #[oI p0, oR b7, oR b54, oI (4 : Int32), oR (a_STRING_NOT_EQUALS_IGNORE_CASE Z), oR (a_STRING_EQUALS_IGNORE_CASE Z)] [(.ref (a_STRING_NOT_EQUALS_IGNORE_CASE Z))])) rfl (by rw [hml]; rfl) (Steps.refl _) (argsL := []) (rest := []) (lenOf pd_1 rfl) rfl (by show 2 * 0 + _ ≤ _; exact Nat.le_of_eq rfl) (hb hby at_391) (fun _ _ => ⟨rfl, rfl, (by decide : 2 + 0 ≤ _), (by decide : 46 + 0 ≤ _)⟩)
    dsimp only [Pt.U, Pt.locs, Pt.cells, Pt.slots] at X151 l151 y151 z151 st151 hQ151
    subst l151 y151 z151
    obtain ⟨v151, N151q, K151q⟩ := hQ151
    have w151 : (fn2r Z (a_STRING_NOT_EQUALS_IGNORE_CASE Z) (a_STRING_EQUALS_IGNORE_CASE Z)) = (1 : Int32) := rfl
    rw [w151] at v151
    subst v151
    have N151 := Fr.app N150 N151q
    have O151 := O149.keep K151q all0
    have Kc151 := Kc149.trans K151q all0
    obtain ⟨fs, hr, hrun, hended, hW, hsame⟩ := X151.leave (v := some (.int (1 : Int32))) (fun h => by rw [Bd.returns] at h; cases h)
    refine ⟨_, _, pre101 _ ?_, hrun, hended, _, _, rfl, ?_, ⟨_, rfl⟩, hW, hsame.mono (by decide) (by decide)⟩
    · show oP p e below T100 (mkF m 329 #[oI p0, oR b7, oR b54, oU, oU, oU] [(.int (4 : Int32))]) _
      refine XS.istoreN X100.here hx rfl (hb hby at_329) rfl (l' := #[oI p0, oR b7, oR b54, oI (4 : Int32), oU, oU]) rfl ?_
      show oP p e below T100 (mkF m 330 #[oI p0, oR b7, oR b54, oI (4 : Int32), oU, oU] []) _
      refine XS.aloadN X100.here hx rfl (hb hby at_330) rfl rfl ?_
      show oP p e below T100 (mkF m 331 #[oI p0, oR b7, oR b54, oI (4 : Int32), oU, oU] [(.ref b7)]) _
      refine XS.iloadN X100.here hx rfl (hb hby at_331) rfl ?_
      show oP p e below T100 (mkF m 332 #[oI p0, oR b7, oR b54, oI (4 : Int32), oU, oU] [(.int (4 : Int32)), (.ref b7)]) _
      refine own_aaload X100 hx hZ e100 fx142 rfl (j := (4 : Int32)) ⟨by decide, by decide⟩ (v := (.ref (a_STRING_NOT_EQUALS_IGNORE_CASE Z))) rfl (g := (mkF m 332 #[oI p0, oR b7, oR b54, oI (4 : Int32), oU, oU] [(.int (4 : Int32)), (.ref b7)])) rfl rfl (hb hby at_332) _ ?_
      show oP p e below T100 (mkF m 333 #[oI p0, oR b7, oR b54, oI (4 : Int32), oU, oU] [(.ref (a_STRING_NOT_EQUALS_IGNORE_CASE Z))]) _
      refine XS.astore X100.here hx rfl (hb hby at_333) rfl rfl (l' := #[oI p0, oR b7, oR b54, oI (4 : Int32), oR (a_STRING_NOT_EQUALS_IGNORE_CASE Z), oU]) rfl ?_
      show oP p e below T100 (mkF m 335 #[oI p0, oR b7, oR b54, oI (4 : Int32), oR (a_STRING_NOT_EQUALS_IGNORE_CASE Z), oU] []) _
      refine XS.aload X100.here hx rfl (hb hby at_335) rfl rfl ?_
      show oP p e below T100 (mkF m 337 #[oI p0, oR b7, oR b54, oI (4 : Int32), oR (a_STRING_NOT_EQUALS_IGNORE_CASE Z), oU] [(.ref (a_STRING_NOT_EQUALS_IGNORE_CASE Z))]) _
      refine st144.trans ?_
      show oP p e below T144 (mkF m 340 #[oI p0, oR b7, oR b54, oI (4 : Int32), oR (a_STRING_NOT_EQUALS_IGNORE_CASE Z), oU] [(.ref (a_STRING_EQUALS_IGNORE_CASE Z))]) _
      refine XS.astore X144.here hx rfl (hb hby at_340) rfl rfl (l' := #[oI p0, oR b7, oR b54, oI (4 : Int32), oR (a_STRING_NOT_EQUALS_IGNORE_CASE Z), oR (a_STRING_EQUALS_IGNORE_CASE Z)]) rfl ?_
      show oP p e below T144 (mkF m 342 #[oI p0, oR b7, oR b54, oI (4 : Int32), oR (a_STRING_NOT_EQUALS_IGNORE_CASE Z), oR (a_STRING_EQUALS_IGNORE_CASE Z)] []) _
      refine XS.aload X144.here hx rfl (hb hby at_342) rfl rfl ?_
      show oP p e below T144 (mkF m 344 #[oI p0, oR b7, oR b54, oI (4 : Int32), oR (a_STRING_NOT_EQUALS_IGNORE_CASE Z), oR (a_STRING_EQUALS_IGNORE_CASE Z)] [(.ref (a_STRING_EQUALS_IGNORE_CASE Z))]) _
      refine XS.aloadN X144.here hx rfl (hb hby at_344) rfl rfl ?_
      show oP p e below T144 (mkF m 345 #[oI p0, oR b7, oR b54, oI (4 : Int32), oR (a_STRING_NOT_EQUALS_IGNORE_CASE Z), oR (a_STRING_EQUALS_IGNORE_CASE Z)] [(.ref b54), (.ref (a_STRING_EQUALS_IGNORE_CASE Z))]) _
      refine XS.iloadN X144.here hx rfl (hb hby at_345) rfl ?_
      show oP p e below T144 (mkF m 346 #[oI p0, oR b7, oR b54, oI (4 : Int32), oR (a_STRING_NOT_EQUALS_IGNORE_CASE Z), oR (a_STRING_EQUALS_IGNORE_CASE Z)] [(.int (4 : Int32)), (.ref b54), (.ref (a_STRING_EQUALS_IGNORE_CASE Z))]) _
      refine own_aaload X144 hx hZ rfl fx145 rfl (j := (4 : Int32)) ⟨by decide, by decide⟩ (v := (.ref (a_STRING_EQUALS_IGNORE_CASE Z))) rfl (g := (mkF m 346 #[oI p0, oR b7, oR b54, oI (4 : Int32), oR (a_STRING_NOT_EQUALS_IGNORE_CASE Z), oR (a_STRING_EQUALS_IGNORE_CASE Z)] [(.int (4 : Int32)), (.ref b54), (.ref (a_STRING_EQUALS_IGNORE_CASE Z))])) rfl rfl (hb hby at_346) _ ?_
      show oP p e below T144 (mkF m 347 #[oI p0, oR b7, oR b54, oI (4 : Int32), oR (a_STRING_NOT_EQUALS_IGNORE_CASE Z), oR (a_STRING_EQUALS_IGNORE_CASE Z)] [(.ref (a_STRING_EQUALS_IGNORE_CASE Z)), (.ref (a_STRING_EQUALS_IGNORE_CASE Z))]) _
      refine Jvm.RoadKit.acmp (g := (mkF m 347 #[oI p0, oR b7, oR b54, oI (4 : Int32), oR (a_STRING_NOT_EQUALS_IGNORE_CASE Z), oR (a_STRING_EQUALS_IGNORE_CASE Z)] [(.ref (a_STRING_EQUALS_IGNORE_CASE Z)), (.ref (a_STRING_EQUALS_IGNORE_CASE Z))])) X144 hx rfl rfl rfl (pc0 := 347) (pc' := 352) (same := true) rfl (hb hby at_347) rfl (decide_eq_true (congrArg Value.ref (rfl : (a_STRING_EQUALS_IGNORE_CASE Z) = (a_STRING_EQUALS_IGNORE_CASE Z)))) (by decide) (by decide) ?_
      show oP p e below T144 (mkF m 352 #[oI p0, oR b7, oR b54, oI (4 : Int32), oR (a_STRING_NOT_EQUALS_IGNORE_CASE Z), oR (a_STRING_EQUALS_IGNORE_CASE Z)] []) _
      refine XS.aload X144.here hx rfl (hb hby at_352) rfl rfl ?_
      show oP p e below T144 (mkF m 354 #[oI p0, oR b7, oR b54, oI (4 : Int32), oR (a_STRING_NOT_EQUALS_IGNORE_CASE Z), oR (a_STRING_EQUALS_IGNORE_CASE Z)] [(.ref (a_STRING_EQUALS_IGNORE_CASE Z))]) _
      refine st146.trans ?_
      show oP p e below T146 (mkF m 357 #[oI p0, oR b7, oR b54, oI (4 : Int32), oR (a_STRING_NOT_EQUALS_IGNORE_CASE Z), oR (a_STRING_EQUALS_IGNORE_CASE Z)] [(.int (0 : Int32))]) _
      refine XS.ifYes X146.here hx rfl (pc0 := 357) (pc' := 362) rfl (hb hby at_357) rfl ((if0 _ _).trans (teq (by decide : (0 : Int32) = (0 : Int32))).1) (by decide) (by decide) ?_
      show oP p e below T146 (mkF m 362 #[oI p0, oR b7, oR b54, oI (4 : Int32), oR (a_STRING_NOT_EQUALS_IGNORE_CASE Z), oR (a_STRING_EQUALS_IGNORE_CASE Z)] []) _
      refine XS.aload X146.here hx rfl (hb hby at_362) rfl rfl ?_
      show oP p e below T146 (mkF m 364 #[oI p0, oR b7, oR b54, oI (4 : Int32), oR (a_STRING_NOT_EQUALS_IGNORE_CASE Z), oR (a_STRING_EQUALS_IGNORE_CASE Z)] [(.ref (a_STRING_EQUALS_IGNORE_CASE Z))]) _
      refine st147.trans ?_
      show oP p e below T147 (mkF m 367 #[oI p0, oR b7, oR b54, oI (4 : Int32), oR (a_STRING_NOT_EQUALS_IGNORE_CASE Z), oR (a_STRING_EQUALS_IGNORE_CASE Z)] [(.ref (a_STRING_EQUALS_IGNORE_CASE Z))]) _
      refine XS.aload X147.here hx rfl (hb hby at_367) rfl rfl ?_
      show oP p e below T147 (mkF m 369 #[oI p0, oR b7, oR b54, oI (4 : Int32), oR (a_STRING_NOT_EQUALS_IGNORE_CASE Z), oR (a_STRING_EQUALS_IGNORE_CASE Z)] [(.ref (a_STRING_EQUALS_IGNORE_CASE Z)), (.ref (a_STRING_EQUALS_IGNORE_CASE Z))]) _
      refine Jvm.RoadKit.acmp (g := (mkF m 369 #[oI p0, oR b7, oR b54, oI (4 : Int32), oR (a_STRING_NOT_EQUALS_IGNORE_CASE Z), oR (a_STRING_EQUALS_IGNORE_CASE Z)] [(.ref (a_STRING_EQUALS_IGNORE_CASE Z)), (.ref (a_STRING_EQUALS_IGNORE_CASE Z))])) X147 hx rfl rfl rfl (pc0 := 369) (pc' := 374) (same := true) rfl (hb hby at_369) rfl (decide_eq_true (congrArg Value.ref (rfl : (a_STRING_EQUALS_IGNORE_CASE Z) = (a_STRING_EQUALS_IGNORE_CASE Z)))) (by decide) (by decide) ?_
      show oP p e below T147 (mkF m 374 #[oI p0, oR b7, oR b54, oI (4 : Int32), oR (a_STRING_NOT_EQUALS_IGNORE_CASE Z), oR (a_STRING_EQUALS_IGNORE_CASE Z)] []) _
      refine XS.aload X147.here hx rfl (hb hby at_374) rfl rfl ?_
      show oP p e below T147 (mkF m 376 #[oI p0, oR b7, oR b54, oI (4 : Int32), oR (a_STRING_NOT_EQUALS_IGNORE_CASE Z), oR (a_STRING_EQUALS_IGNORE_CASE Z)] [(.ref (a_STRING_EQUALS_IGNORE_CASE Z))]) _
      refine st148.trans ?_
      show oP p e below T148 (mkF m 379 #[oI p0, oR b7, oR b54, oI (4 : Int32), oR (a_STRING_NOT_EQUALS_IGNORE_CASE Z), oR (a_STRING_EQUALS_IGNORE_CASE Z)] [(.ref (a_NONE Z))]) _
      refine XS.aload X148.here hx rfl (hb hby at_379) rfl rfl ?_
      show oP p e below T148 (mkF m 381 #[oI p0, oR b7, oR b54, oI (4 : Int32), oR (a_STRING_NOT_EQUALS_IGNORE_CASE Z), oR (a_STRING_EQUALS_IGNORE_CASE Z)] [(.ref (a_STRING_NOT_EQUALS_IGNORE_CASE Z)), (.ref (a_NONE Z))]) _
      refine st149.trans ?_
      show oP p e below T149 (mkF m 384 #[oI p0, oR b7, oR b54, oI (4 : Int32), oR (a_STRING_NOT_EQUALS_IGNORE_CASE Z), oR (a_STRING_EQUALS_IGNORE_CASE Z)] [(.ref (a_NONE Z)), (.ref (a_NONE Z))]) _
      refine Jvm.RoadKit.acmp (g := (mkF m 384 #[oI p0, oR b7, oR b54, oI (4 : Int32), oR (a_STRING_NOT_EQUALS_IGNORE_CASE Z), oR (a_STRING_EQUALS_IGNORE_CASE Z)] [(.ref (a_NONE Z)), (.ref (a_NONE Z))])) X149 hx rfl rfl rfl (pc0 := 384) (pc' := 389) (same := true) rfl (hb hby at_384) rfl (decide_eq_true (congrArg Value.ref (rfl : (a_NONE Z) = (a_NONE Z)))) (by decide) (by decide) ?_
      show oP p e below T149 (mkF m 389 #[oI p0, oR b7, oR b54, oI (4 : Int32), oR (a_STRING_NOT_EQUALS_IGNORE_CASE Z), oR (a_STRING_EQUALS_IGNORE_CASE Z)] []) _
      refine XS.aload X149.here hx rfl (hb hby at_389) rfl rfl ?_
      show oP p e below T149 (mkF m 391 #[oI p0, oR b7, oR b54, oI (4 : Int32), oR (a_STRING_NOT_EQUALS_IGNORE_CASE Z), oR (a_STRING_EQUALS_IGNORE_CASE Z)] [(.ref (a_STRING_NOT_EQUALS_IGNORE_CASE Z))]) _
      refine st151.trans ?_
      show oP p e below T151 (mkF m 394 #[oI p0, oR b7, oR b54, oI (4 : Int32), oR (a_STRING_NOT_EQUALS_IGNORE_CASE Z), oR (a_STRING_EQUALS_IGNORE_CASE Z)] [(.int (1 : Int32))]) _
      refine XS.aload X151.here hx rfl (hb hby at_394) rfl rfl ?_
      show oP p e below T151 (mkF m 396 #[oI p0, oR b7, oR b54, oI (4 : Int32), oR (a_STRING_NOT_EQUALS_IGNORE_CASE Z), oR (a_STRING_EQUALS_IGNORE_CASE Z)] [(.ref (a_STRING_EQUALS_IGNORE_CASE Z)), (.int (1 : Int32))]) _
      refine XS.aload X151.here hx rfl (hb hby at_396) rfl rfl ?_
      show oP p e below T151 (mkF m 398 #[oI p0, oR b7, oR b54, oI (4 : Int32), oR (a_STRING_NOT_EQUALS_IGNORE_CASE Z), oR (a_STRING_EQUALS_IGNORE_CASE Z)] [(.ref (a_STRING_NOT_EQUALS_IGNORE_CASE Z)), (.ref (a_STRING_EQUALS_IGNORE_CASE Z)), (.int (1 : Int32))]) _
      refine Jvm.RoadKit.acmp (g := (mkF m 398 #[oI p0, oR b7, oR b54, oI (4 : Int32), oR (a_STRING_NOT_EQUALS_IGNORE_CASE Z), oR (a_STRING_EQUALS_IGNORE_CASE Z)] [(.ref (a_STRING_NOT_EQUALS_IGNORE_CASE Z)), (.ref (a_STRING_EQUALS_IGNORE_CASE Z)), (.int (1 : Int32))])) X151 hx rfl rfl rfl (pc0 := 398) (pc' := 401) (same := false) rfl (hb hby at_398) rfl (decide_eq_false fun q => ((f_a_STRING_EQUALS_IGNORE_CASE_ordinal hS).ne (f_a_STRING_NOT_EQUALS_IGNORE_CASE_ordinal hS) (by decide)) (Value.ref.inj q)) (by decide) (by decide) ?_
      show oP p e below T151 (mkF m 401 #[oI p0, oR b7, oR b54, oI (4 : Int32), oR (a_STRING_NOT_EQUALS_IGNORE_CASE Z), oR (a_STRING_EQUALS_IGNORE_CASE Z)] [(.int (1 : Int32))]) _
      refine XS.iconst X151.here hx rfl (hb hby at_401) ?_
      show oP p e below T151 (mkF m 402 #[oI p0, oR b7, oR b54, oI (4 : Int32), oR (a_STRING_NOT_EQUALS_IGNORE_CASE Z), oR (a_STRING_EQUALS_IGNORE_CASE Z)] [(.int (1 : Int32)), (.int (1 : Int32))]) _
      refine XS.goto X151.here hx rfl (pc0 := 402) (pc' := 406) rfl (hb hby at_402) (by decide) (by decide) ?_
      show oP p e below T151 (mkF m 406 #[oI p0, oR b7, oR b54, oI (4 : Int32), oR (a_STRING_NOT_EQUALS_IGNORE_CASE Z), oR (a_STRING_EQUALS_IGNORE_CASE Z)] [(.int (1 : Int32)), (.int (1 : Int32))]) _
      refine XS.icmpNo X151.here hx rfl (hb hby at_406) rfl (teq (by decide : (1 : Int32) = (1 : Int32))).2 ?_
      show oP p e below T151 (mkF m 409 #[oI p0, oR b7, oR b54, oI (4 : Int32), oR (a_STRING_NOT_EQUALS_IGNORE_CASE Z), oR (a_STRING_EQUALS_IGNORE_CASE Z)] []) _
      refine XS.iconst X151.here hx rfl (hb hby at_409) ?_
      show oP p e below T151 (mkF m 410 #[oI p0, oR b7, oR b54, oI (4 : Int32), oR (a_STRING_NOT_EQUALS_IGNORE_CASE Z), oR (a_STRING_EQUALS_IGNORE_CASE Z)] [(.int (1 : Int32))]) _
      refine XS.goto X151.here hx rfl (pc0 := 410) (pc' := 414) rfl (hb hby at_410) (by decide) (by decide) ?_
      show oP p e below T151 (mkF m 414 #[oI p0, oR b7, oR b54, oI (4 : Int32), oR (a_STRING_NOT_EQUALS_IGNORE_CASE Z), oR (a_STRING_EQUALS_IGNORE_CASE Z)] [(.int (1 : Int32))]) _
      exact retN X151 hx (t := .boolean) Bd.returns (by simp) (hb hby at_414) hr
    · show (some (.int (1 : Int32)) : Option Value) = some (.int (1 : Int32)) ∧ Fr n0 _ ∧ Keep h0 T151.heap []
      exact ⟨rfl, N151, Kc151⟩
  · have fx152 := ((((((((((((((((((((((((V53.ext E54).other W56 ne_b7_b54).other W58 ne_b7_b54).other W60 ne_b7_b54).other W62 ne_b7_b54).other W64 ne_b7_b54).other W66 ne_b7_b54).other W68 ne_b7_b54).other W70 ne_b7_b54).other W72 ne_b7_b54).other W74 ne_b7_b54).other W76 ne_b7_b54).other W78 ne_b7_b54).other W80 ne_b7_b54).other W82 ne_b7_b54).other W84 ne_b7_b54).other W86 ne_b7_b54).other W88 ne_b7_b54).other W90 ne_b7_b54).other W92 ne_b7_b54).other W94 ne_b7_b54).other W96 ne_b7_b54).other W98 ne_b7_b54).other W100 ne_b7_b54)
    obtain ⟨lo153, X153, N153⟩ := own_hide X100 N100
    obtain ⟨cq154, kq154, q154a, q154b, q154c⟩ := isOf hZ e100 ((e_a_STRING_LIKE hS).ext O100.2)
    obtain ⟨_, _, ⟨T154, L154, k154, n154⟩, -, X154, ⟨Lc154, hQ154, l154, y154, z154⟩, st154⟩ := X153.virtualBack hx (y := (⟨"com/example/menshen/menshen/policy/ConditionOperator", "positive", "()Lcom/example/menshen/menshen/policy/ConditionOperator;"⟩ : MethodName)) (z := (⟨"com/example/menshen/menshen/policy/ConditionOperator", "positive", "()Lcom/example/menshen/menshen/policy/ConditionOperator;"⟩ : MethodName)) hown (mvT hZ (hw _ (List.mem_of_getElem? (i := 51) rfl))) (mvT hZ (hw _ (List.mem_of_getElem? (i := 52) rfl))) (notFace_of_selects (args := #[]) (mvT hZ (hw _ (List.mem_of_getElem? (i := 54) rfl)))) (mvT hZ (hw _ (List.mem_of_getElem? (i := 54) rfl))) (mvT hZ (hw _ (List.mem_of_getElem? (i := 53) rfl))) (by decide) (backOf (W := 0) (rm1n l Z a0 hw hS [] (a_STRING_LIKE Z) h100 n0 O100 ((f_a_STRING_LIKE_negationOf hS).ext O100.2)) hZ (hw _ (List.mem_of_getElem? (i := 55) rfl)) (hw _ (List.mem_of_getElem? (i := 3) rfl)) (by decide) (by decide)) q154a q154c (g := (mkF m 337 #[oI p0, oR b7, oR b54, oI (5 : Int32), oR (a_STRING_LIKE Z), oU] [(.ref (a_STRING_LIKE Z))])) rfl (by rw [hml]; rfl) (Steps.refl _) (argsL := []) (rest := []) (lenOf pd_0 rfl) rfl (by show 2 * 0 + _ ≤ _; exact Nat.le_of_eq rfl) (hb hby at_337) (fun _ _ => ⟨rfl, e100, (by decide : 2 + 0 ≤ _), (by decide : 46 + 0 ≤ _)⟩)
    dsimp only [Pt.U, Pt.locs, Pt.cells, Pt.slots] at X154 l154 y154 z154 st154 hQ154
    subst l154 y154 z154
    obtain ⟨v154, N154q, K154q⟩ := hQ154
    have w154 : (fn1n Z (a_STRING_LIKE Z)) = (a_STRING_LIKE Z) := rfl
    rw [w154] at v154
    subst v154
    have N154 := Fr.app N153 N154q
    have O154 := O100.keep K154q all0
    have Kc154 := Kc100.trans K154q all0
    have fx155 := (V100.keep K154q nin0)
    obtain ⟨cq156, kq156, q156a, q156b, q156c⟩ := isOf hZ rfl ((e_a_STRING_LIKE hS).ext O154.2)
    obtain ⟨_, _, ⟨T156, L156, k156, n156⟩, -, X156, ⟨Lc156, hQ156, l156, y156, z156⟩, st156⟩ := X154.virtualBack hx (y := (⟨"com/example/menshen/menshen/policy/ConditionOperator", "isNegated", "()Z"⟩ : MethodName)) (z := (⟨"com/example/menshen/menshen/policy/ConditionOperator", "isNegated", "()Z"⟩ : MethodName)) hown (mvT hZ (hw _ (List.mem_of_getElem? (i := 58) rfl))) (mvT hZ (hw _ (List.mem_of_getElem? (i := 59) rfl))) (notFace_of_selects (args := #[]) (mvT hZ (hw _ (List.mem_of_getElem? (i := 61) rfl)))) (mvT hZ (hw _ (List.mem_of_getElem? (i := 61) rfl))) (mvT hZ (hw _ (List.mem_of_getElem? (i := 60) rfl))) (by decide) (backOf (W := 0) (rm2n l Z a0 hw hS [] (a_STRING_LIKE Z) T154.heap n0 O154 ((f_a_STRING_LIKE_negationOf hS).ext O154.2)) hZ (hw _ (List.mem_of_getElem? (i := 62) rfl)) (hw _ (List.mem_of_getElem? (i := 3) rfl)) (by decide) (by decide)) q156a q156c (g := (mkF m 354 #[oI p0, oR b7, oR b54, oI (5 : Int32), oR (a_STRING_LIKE Z), oR (a_STRING_LIKE Z)] [(.ref (a_STRING_LIKE Z))])) rfl (by rw [hml]; rfl) (Steps.refl _) (argsL := []) (rest := []) (lenOf pd_1 rfl) rfl (by show 2 * 0 + _ ≤ _; exact Nat.le_of_eq rfl) (hb hby at_354) (fun _ _ => ⟨rfl, rfl, (by decide : 2 + 0 ≤ _), (by decide : 46 + 0 ≤ _)⟩)
    dsimp only [Pt.U, Pt.locs, Pt.cells, Pt.slots] at X156 l156 y156 z156 st156 hQ156
    subst l156 y156 z156
    obtain ⟨v156, N156q, K156q⟩ := hQ156
    have w156 : (fn2n Z (a_STRING_LIKE Z)) = (0 : Int32) := rfl
    rw [w156] at v156
    subst v156
    have N156 := Fr.app N154 N156q
    have O156 := O154.keep K156q all0
    have Kc156 := Kc154.trans K156q all0
    obtain ⟨cq157, kq157, q157a, q157b, q157c⟩ := isOf hZ rfl ((e_a_STRING_LIKE hS).ext O156.2)
    obtain ⟨_, _, ⟨T157, L157, k157, n157⟩, -, X157, ⟨Lc157, hQ157, l157, y157, z157⟩, st157⟩ := X156.virtualBack hx (y := (⟨"com/example/menshen/menshen/policy/ConditionOperator", "positive", "()Lcom/example/menshen/menshen/policy/ConditionOperator;"⟩ : MethodName)) (z := (⟨"com/example/menshen/menshen/policy/ConditionOperator", "positive", "()Lcom/example/menshen/menshen/policy/ConditionOperator;"⟩ : MethodName)) hown (mvT hZ (hw _ (List.mem_of_getElem? (i := 51) rfl))) (mvT hZ (hw _ (List.mem_of_getElem? (i := 52) rfl))) (notFace_of_selects (args := #[]) (mvT hZ (hw _ (List.mem_of_getElem? (i := 54) rfl)))) (mvT hZ (hw _ (List.mem_of_getElem? (i := 54) rfl))) (mvT hZ (hw _ (List.mem_of_getElem? (i := 53) rfl))) (by decide) (backOf (W := 0) (rm1n l Z a0 hw hS [] (a_STRING_LIKE Z) T156.heap n0 O156 ((f_a_STRING_LIKE_negationOf hS).ext O156.2)) hZ (hw _ (List.mem_of_getElem? (i := 55) rfl)) (hw _ (List.mem_of_getElem? (i := 3) rfl)) (by decide) (by decide)) q157a q157c (g := (mkF m 364 #[oI p0, oR b7, oR b54, oI (5 : Int32), oR (a_STRING_LIKE Z), oR (a_STRING_LIKE Z)] [(.ref (a_STRING_LIKE Z))])) rfl (by rw [hml]; rfl) (Steps.refl _) (argsL := []) (rest := []) (lenOf pd_0 rfl) rfl (by show 2 * 0 + _ ≤ _; exact Nat.le_of_eq rfl) (hb hby at_364) (fun _ _ => ⟨rfl, rfl, (by decide : 2 + 0 ≤ _), (by decide : 46 + 0 ≤ _)⟩)
    dsimp only [Pt.U, Pt.locs, Pt.cells, Pt.slots] at X157 l157 y157 z157 st157 hQ157
    subst l157 y157 z157
    obtain ⟨v157, N157q, K157q⟩ := hQ157
    have w157 : (fn1n Z (a_STRING_LIKE Z)) = (a_STRING_LIKE Z) := rfl
    rw [w157] at v157
    subst v157
    have N157 := Fr.app N156 N157q
    have O157 := O156.keep K157q all0
    have Kc157 := Kc156.trans K157q all0
    obtain ⟨cq158, kq158, q158a, q158b, q158c⟩ := isOf hZ rfl ((e_a_STRING_LIKE hS).ext O157.2)
    obtain ⟨_, _, ⟨T158, L158, k158, n158⟩, -, X158, ⟨Lc158, hQ158, l158, y158, z158⟩, st158⟩ := X157.virtualBack hx (y := (⟨"com/example/menshen/menshen/policy/ConditionOperator", "literals", "()Lcom/example/menshen/menshen/policy/ConditionOperator$Literals;"⟩ : MethodName)) (z := (⟨"com/example/menshen/menshen/policy/ConditionOperator", "literals", "()Lcom/example/menshen/menshen/policy/ConditionOperator$Literals;"⟩ : MethodName)) hown (mvT hZ (hw _ (List.mem_of_getElem? (i := 63) rfl))) (mvT hZ (hw _ (List.mem_of_getElem? (i := 64) rfl))) (notFace_of_selects (args := #[]) (mvT hZ (hw _ (List.mem_of_getElem? (i := 66) rfl)))) (mvT hZ (hw _ (List.mem_of_getElem? (i := 66) rfl))) (mvT hZ (hw _ (List.mem_of_getElem? (i := 65) rfl))) (by decide) (backOf (W := 0) (rm3 l Z a0 hw hS [] (a_STRING_LIKE Z) (a_NONE Z) T157.heap n0 O157 ((f_a_STRING_LIKE_literals hS).ext O157.2)) hZ (hw _ (List.mem_of_getElem? (i := 67) rfl)) (hw _ (List.mem_of_getElem? (i := 3) rfl)) (by decide) (by decide)) q158a q158c (g := (mkF m 376 #[oI p0, oR b7, oR b54, oI (5 : Int32), oR (a_STRING_LIKE Z), oR (a_STRING_LIKE Z)] [(.ref (a_STRING_LIKE Z))])) rfl (by rw [hml]; rfl) (Steps.refl _) (argsL := []) (rest := []) (lenOf pd_2 rfl) rfl (by show 2 * 0 + _ ≤ _; exact Nat.le_of_eq rfl) (hb hby at_376) (fun _ _ => ⟨rfl, rfl, (by decide : 2 + 0 ≤ _), (by decide : 46 + 0 ≤ _)⟩)
    dsimp only [Pt.U, Pt.locs, Pt.cells, Pt.slots] at X158 l158 y158 z158 st158 hQ158
    subst l158 y158 z158
    obtain ⟨v158, N158q, K158q⟩ := hQ158
    have w158 : (fn3 Z (a_STRING_LIKE Z) (a_NONE Z)) = (a_NONE Z) := rfl
    rw [w158] at v158
    subst v158
    have N158 := Fr.app N157 N158q
    have O158 := O157.keep K158q all0
    have Kc158 := Kc157.trans K158q all0
    obtain ⟨cq159, kq159, q159a, q159b, q159c⟩ := isOf hZ rfl ((e_a_STRING_LIKE hS).ext O158.2)
    obtain ⟨_, _, ⟨T159, L159, k159, n159⟩, -, X159, ⟨Lc159, hQ159, l159, y159, z159⟩, st159⟩ := X158.virtualBack hx (y := (⟨"com/example/menshen/menshen/policy/ConditionOperator", "literals", "()Lcom/example/menshen/menshen/policy/ConditionOperator$Literals;"⟩ : MethodName)) (z := (⟨"com/example/menshen/menshen/policy/ConditionOperator", "literals", "()Lcom/example/menshen/menshen/policy/ConditionOperator$Literals;"⟩ : MethodName)) hown (mvT hZ (hw _ (List.mem_of_getElem? (i := 63) rfl))) (mvT hZ (hw _ (List.mem_of_getElem? (i := 64) rfl))) (notFace_of_selects (args := #[]) (mvT hZ (hw _ (List.mem_of_getElem? (i := 66) rfl)))) (mvT hZ (hw _ (List.mem_of_getElem? (i := 66) rfl))) (mvT hZ (hw _ (List.mem_of_getElem? (i := 65) rfl))) (by decide) (backOf (W := 1) (rm3 l Z a0 hw hS [] (a_STRING_LIKE Z) (a_NONE Z) T158.heap n0 O158 ((f_a_STRING_LIKE_literals hS).ext O158.2)) hZ (hw _ (List.mem_of_getElem? (i := 67) rfl)) (hw _ (List.mem_of_getElem? (i := 3) rfl)) (by decide) (by decide)) q159a q159c (g := (mkF m 381 #[oI p0, oR b7, oR b54, oI (5 : Int32), oR (a_STRING_LIKE Z), oR (a_STRING_LIKE Z)] [(.ref (a_STRING_LIKE Z)), (.ref (a_NONE Z))])) rfl (by rw [hml]; rfl) (Steps.refl _) (argsL := []) (rest := [(.ref (a_NONE Z))]) (lenOf pd_2 rfl) rfl (by show 2 * 0 + _ ≤ _; exact Nat.le_of_eq rfl) (hb hby at_381) (fun _ _ => ⟨rfl, rfl, (by decide : 2 + 0 ≤ _), (by decide : 46 + 0 ≤ _)⟩)
    dsimp only [Pt.U, Pt.locs, Pt.cells, Pt.slots] at X159 l159 y159 z159 st159 hQ159
    subst l159 y159 z159
    obtain ⟨v159, N159q, K159q⟩ := hQ159
    have w159 : (fn3 Z (a_STRING_LIKE Z) (a_NONE Z)) = (a_NONE Z) := rfl
    rw [w159] at v159
    subst v159
    have N159 := Fr.app N158 N159q
    have O159 := O158.keep K159q all0
    have Kc159 := Kc158.trans K159q all0
    obtain ⟨lo160, X160, N160⟩ := own_hide X159 N159
    obtain ⟨cq161, kq161, q161a, q161b, q161c⟩ := isOf hZ rfl ((e_a_STRING_LIKE hS).ext O159.2)
    obtain ⟨_, _, ⟨T161, L161, k161, n161⟩, -, X161, ⟨Lc161, hQ161, l161, y161, z161⟩, st161⟩ := X160.virtualBack hx (y := (⟨"com/example/menshen/menshen/policy/ConditionOperator", "isNegated", "()Z"⟩ : MethodName)) (z := (⟨"com/example/menshen/menshen/policy/ConditionOperator", "isNegated", "()Z"⟩ : MethodName)) hown (mvT hZ (hw _ (List.mem_of_getElem? (i := 58) rfl))) (mvT hZ (hw _ (List.mem_of_getElem? (i := 59) rfl))) (notFace_of_selects (args := #[]) (mvT hZ (hw _ (List.mem_of_getElem? (i := 61) rfl)))) (mvT hZ (hw _ (List.mem_of_getElem? (i := 61) rfl))) (mvT hZ (hw _ (List.mem_of_getElem? (i := 60) rfl))) (by decide) (backOf (W := 0) (rm2n l Z a0 hw hS [] (a_STRING_LIKE Z) T159.heap n0 O159 ((f_a_STRING_LIKE_negationOf hS).ext O159.2)) hZ (hw _ (List.mem_of_getElem? (i := 62) rfl)) (hw _ (List.mem_of_getElem? (i := 3) rfl)) (by decide) (by decide)) q161a q161c (g := (mkF m 391 #[oI p0, oR b7, oR b54, oI (5 : Int32), oR (a_STRING_LIKE Z), oR (a_STRING_LIKE Z)] [(.ref (a_STRING_LIKE Z))])) rfl (by rw [hml]; rfl) (Steps.refl _) (argsL := []) (rest := []) (lenOf pd_1 rfl) rfl (by show 2 * 0 + _ ≤ _; exact Nat.le_of_eq rfl) (hb hby at_391) (fun _ _ => ⟨rfl, rfl, (by decide : 2 + 0 ≤ _), (by decide : 46 + 0 ≤ _)⟩)
    dsimp only [Pt.U, Pt.locs, Pt.cells, Pt.slots] at X161 l161 y161 z161 st161 hQ161
    subst l161 y161 z161
    obtain ⟨v161, N161q, K161q⟩ := hQ161
    have w161 : (fn2n Z (a_STRING_LIKE Z)) = (0 : Int32) := rfl
    rw [w161] at v161
    subst v161
    have N161 := Fr.app N160 N161q
    have O161 := O159.keep K161q all0
    have Kc161 := Kc159.trans K161q all0
    obtain ⟨fs, hr, hrun, hended, hW, hsame⟩ := X161.leave (v := some (.int (1 : Int32))) (fun h => by rw [Bd.returns] at h; cases h)
    refine ⟨_, _, pre101 _ ?_, hrun, hended, _, _, rfl, ?_, ⟨_, rfl⟩, hW, hsame.mono (by decide) (by decide)⟩
    · show oP p e below T100 (mkF m 329 #[oI p0, oR b7, oR b54, oU, oU, oU] [(.int (5 : Int32))]) _
      refine XS.istoreN X100.here hx rfl (hb hby at_329) rfl (l' := #[oI p0, oR b7, oR b54, oI (5 : Int32), oU, oU]) rfl ?_
      show oP p e below T100 (mkF m 330 #[oI p0, oR b7, oR b54, oI (5 : Int32), oU, oU] []) _
      refine XS.aloadN X100.here hx rfl (hb hby at_330) rfl rfl ?_
      show oP p e below T100 (mkF m 331 #[oI p0, oR b7, oR b54, oI (5 : Int32), oU, oU] [(.ref b7)]) _
      refine XS.iloadN X100.here hx rfl (hb hby at_331) rfl ?_
      show oP p e below T100 (mkF m 332 #[oI p0, oR b7, oR b54, oI (5 : Int32), oU, oU] [(.int (5 : Int32)), (.ref b7)]) _
      refine own_aaload X100 hx hZ e100 fx152 rfl (j := (5 : Int32)) ⟨by decide, by decide⟩ (v := (.ref (a_STRING_LIKE Z))) rfl (g := (mkF m 332 #[oI p0, oR b7, oR b54, oI (5 : Int32), oU, oU] [(.int (5 : Int32)), (.ref b7)])) rfl rfl (hb hby at_332) _ ?_
      show oP p e below T100 (mkF m 333 #[oI p0, oR b7, oR b54, oI (5 : Int32), oU, oU] [(.ref (a_STRING_LIKE Z))]) _
      refine XS.astore X100.here hx rfl (hb hby at_333) rfl rfl (l' := #[oI p0, oR b7, oR b54, oI (5 : Int32), oR (a_STRING_LIKE Z), oU]) rfl ?_
      show oP p e below T100 (mkF m 335 #[oI p0, oR b7, oR b54, oI (5 : Int32), oR (a_STRING_LIKE Z), oU] []) _
      refine XS.aload X100.here hx rfl (hb hby at_335) rfl rfl ?_
      show oP p e below T100 (mkF m 337 #[oI p0, oR b7, oR b54, oI (5 : Int32), oR (a_STRING_LIKE Z), oU] [(.ref (a_STRING_LIKE Z))]) _
      refine st154.trans ?_
      show oP p e below T154 (mkF m 340 #[oI p0, oR b7, oR b54, oI (5 : Int32), oR (a_STRING_LIKE Z), oU] [(.ref (a_STRING_LIKE Z))]) _
      refine XS.astore X154.here hx rfl (hb hby at_340) rfl rfl (l' := #[oI p0, oR b7, oR b54, oI (5 : Int32), oR (a_STRING_LIKE Z), oR (a_STRING_LIKE Z)]) rfl ?_
      show oP p e below T154 (mkF m 342 #[oI p0, oR b7, oR b54, oI (5 : Int32), oR (a_STRING_LIKE Z), oR (a_STRING_LIKE Z)] []) _
      refine XS.aload X154.here hx rfl (hb hby at_342) rfl rfl ?_
      show oP p e below T154 (mkF m 344 #[oI p0, oR b7, oR b54, oI (5 : Int32), oR (a_STRING_LIKE Z), oR (a_STRING_LIKE Z)] [(.ref (a_STRING_LIKE Z))]) _
      refine XS.aloadN X154.here hx rfl (hb hby at_344) rfl rfl ?_
      show oP p e below T154 (mkF m 345 #[oI p0, oR b7, oR b54, oI (5 : Int32), oR (a_STRING_LIKE Z), oR (a_STRING_LIKE Z)] [(.ref b54), (.ref (a_STRING_LIKE Z))]) _
      refine XS.iloadN X154.here hx rfl (hb hby at_345) rfl ?_
      show oP p e below T154 (mkF m 346 #[oI p0, oR b7, oR b54, oI (5 : Int32), oR (a_STRING_LIKE Z), oR (a_STRING_LIKE Z)] [(.int (5 : Int32)), (.ref b54), (.ref (a_STRING_LIKE Z))]) _
      refine own_aaload X154 hx hZ rfl fx155 rfl (j := (5 : Int32)) ⟨by decide, by decide⟩ (v := (.ref (a_STRING_LIKE Z))) rfl (g := (mkF m 346 #[oI p0, oR b7, oR b54, oI (5 : Int32), oR (a_STRING_LIKE Z), oR (a_STRING_LIKE Z)] [(.int (5 : Int32)), (.ref b54), (.ref (a_STRING_LIKE Z))])) rfl rfl (hb hby at_346) _ ?_
      show oP p e below T154 (mkF m 347 #[oI p0, oR b7, oR b54, oI (5 : Int32), oR (a_STRING_LIKE Z), oR (a_STRING_LIKE Z)] [(.ref (a_STRING_LIKE Z)), (.ref (a_STRING_LIKE Z))]) _
      refine Jvm.RoadKit.acmp (g := (mkF m 347 #[oI p0, oR b7, oR b54, oI (5 : Int32), oR (a_STRING_LIKE Z), oR (a_STRING_LIKE Z)] [(.ref (a_STRING_LIKE Z)), (.ref (a_STRING_LIKE Z))])) X154 hx rfl rfl rfl (pc0 := 347) (pc' := 352) (same := true) rfl (hb hby at_347) rfl (decide_eq_true (congrArg Value.ref (rfl : (a_STRING_LIKE Z) = (a_STRING_LIKE Z)))) (by decide) (by decide) ?_
      show oP p e below T154 (mkF m 352 #[oI p0, oR b7, oR b54, oI (5 : Int32), oR (a_STRING_LIKE Z), oR (a_STRING_LIKE Z)] []) _
      refine XS.aload X154.here hx rfl (hb hby at_352) rfl rfl ?_
      show oP p e below T154 (mkF m 354 #[oI p0, oR b7, oR b54, oI (5 : Int32), oR (a_STRING_LIKE Z), oR (a_STRING_LIKE Z)] [(.ref (a_STRING_LIKE Z))]) _
      refine st156.trans ?_
      show oP p e below T156 (mkF m 357 #[oI p0, oR b7, oR b54, oI (5 : Int32), oR (a_STRING_LIKE Z), oR (a_STRING_LIKE Z)] [(.int (0 : Int32))]) _
      refine XS.ifYes X156.here hx rfl (pc0 := 357) (pc' := 362) rfl (hb hby at_357) rfl ((if0 _ _).trans (teq (by decide : (0 : Int32) = (0 : Int32))).1) (by decide) (by decide) ?_
      show oP p e below T156 (mkF m 362 #[oI p0, oR b7, oR b54, oI (5 : Int32), oR (a_STRING_LIKE Z), oR (a_STRING_LIKE Z)] []) _
      refine XS.aload X156.here hx rfl (hb hby at_362) rfl rfl ?_
      show oP p e below T156 (mkF m 364 #[oI p0, oR b7, oR b54, oI (5 : Int32), oR (a_STRING_LIKE Z), oR (a_STRING_LIKE Z)] [(.ref (a_STRING_LIKE Z))]) _
      refine st157.trans ?_
      show oP p e below T157 (mkF m 367 #[oI p0, oR b7, oR b54, oI (5 : Int32), oR (a_STRING_LIKE Z), oR (a_STRING_LIKE Z)] [(.ref (a_STRING_LIKE Z))]) _
      refine XS.aload X157.here hx rfl (hb hby at_367) rfl rfl ?_
      show oP p e below T157 (mkF m 369 #[oI p0, oR b7, oR b54, oI (5 : Int32), oR (a_STRING_LIKE Z), oR (a_STRING_LIKE Z)] [(.ref (a_STRING_LIKE Z)), (.ref (a_STRING_LIKE Z))]) _
      refine Jvm.RoadKit.acmp (g := (mkF m 369 #[oI p0, oR b7, oR b54, oI (5 : Int32), oR (a_STRING_LIKE Z), oR (a_STRING_LIKE Z)] [(.ref (a_STRING_LIKE Z)), (.ref (a_STRING_LIKE Z))])) X157 hx rfl rfl rfl (pc0 := 369) (pc' := 374) (same := true) rfl (hb hby at_369) rfl (decide_eq_true (congrArg Value.ref (rfl : (a_STRING_LIKE Z) = (a_STRING_LIKE Z)))) (by decide) (by decide) ?_
      show oP p e below T157 (mkF m 374 #[oI p0, oR b7, oR b54, oI (5 : Int32), oR (a_STRING_LIKE Z), oR (a_STRING_LIKE Z)] []) _
      refine XS.aload X157.here hx rfl (hb hby at_374) rfl rfl ?_
      show oP p e below T157 (mkF m 376 #[oI p0, oR b7, oR b54, oI (5 : Int32), oR (a_STRING_LIKE Z), oR (a_STRING_LIKE Z)] [(.ref (a_STRING_LIKE Z))]) _
      refine st158.trans ?_
      show oP p e below T158 (mkF m 379 #[oI p0, oR b7, oR b54, oI (5 : Int32), oR (a_STRING_LIKE Z), oR (a_STRING_LIKE Z)] [(.ref (a_NONE Z))]) _
      refine XS.aload X158.here hx rfl (hb hby at_379) rfl rfl ?_
      show oP p e below T158 (mkF m 381 #[oI p0, oR b7, oR b54, oI (5 : Int32), oR (a_STRING_LIKE Z), oR (a_STRING_LIKE Z)] [(.ref (a_STRING_LIKE Z)), (.ref (a_NONE Z))]) _
      refine st159.trans ?_
      show oP p e below T159 (mkF m 384 #[oI p0, oR b7, oR b54, oI (5 : Int32), oR (a_STRING_LIKE Z), oR (a_STRING_LIKE Z)] [(.ref (a_NONE Z)), (.ref (a_NONE Z))]) _
      refine Jvm.RoadKit.acmp (g := (mkF m 384 #[oI p0, oR b7, oR b54, oI (5 : Int32), oR (a_STRING_LIKE Z), oR (a_STRING_LIKE Z)] [(.ref (a_NONE Z)), (.ref (a_NONE Z))])) X159 hx rfl rfl rfl (pc0 := 384) (pc' := 389) (same := true) rfl (hb hby at_384) rfl (decide_eq_true (congrArg Value.ref (rfl : (a_NONE Z) = (a_NONE Z)))) (by decide) (by decide) ?_
      show oP p e below T159 (mkF m 389 #[oI p0, oR b7, oR b54, oI (5 : Int32), oR (a_STRING_LIKE Z), oR (a_STRING_LIKE Z)] []) _
      refine XS.aload X159.here hx rfl (hb hby at_389) rfl rfl ?_
      show oP p e below T159 (mkF m 391 #[oI p0, oR b7, oR b54, oI (5 : Int32), oR (a_STRING_LIKE Z), oR (a_STRING_LIKE Z)] [(.ref (a_STRING_LIKE Z))]) _
      refine st161.trans ?_
      show oP p e below T161 (mkF m 394 #[oI p0, oR b7, oR b54, oI (5 : Int32), oR (a_STRING_LIKE Z), oR (a_STRING_LIKE Z)] [(.int (0 : Int32))]) _
      refine XS.aload X161.here hx rfl (hb hby at_394) rfl rfl ?_
      show oP p e below T161 (mkF m 396 #[oI p0, oR b7, oR b54, oI (5 : Int32), oR (a_STRING_LIKE Z), oR (a_STRING_LIKE Z)] [(.ref (a_STRING_LIKE Z)), (.int (0 : Int32))]) _
      refine XS.aload X161.here hx rfl (hb hby at_396) rfl rfl ?_
      show oP p e below T161 (mkF m 398 #[oI p0, oR b7, oR b54, oI (5 : Int32), oR (a_STRING_LIKE Z), oR (a_STRING_LIKE Z)] [(.ref (a_STRING_LIKE Z)), (.ref (a_STRING_LIKE Z)), (.int (0 : Int32))]) _
      refine Jvm.RoadKit.acmp (g := (mkF m 398 #[oI p0, oR b7, oR b54, oI (5 : Int32), oR (a_STRING_LIKE Z), oR (a_STRING_LIKE Z)] [(.ref (a_STRING_LIKE Z)), (.ref (a_STRING_LIKE Z)), (.int (0 : Int32))])) X161 hx rfl rfl rfl (pc0 := 398) (pc' := 405) (same := true) rfl (hb hby at_398) rfl (decide_eq_true (congrArg Value.ref (rfl : (a_STRING_LIKE Z) = (a_STRING_LIKE Z)))) (by decide) (by decide) ?_
      show oP p e below T161 (mkF m 405 #[oI p0, oR b7, oR b54, oI (5 : Int32), oR (a_STRING_LIKE Z), oR (a_STRING_LIKE Z)] [(.int (0 : Int32))]) _
      refine XS.iconst X161.here hx rfl (hb hby at_405) ?_
      show oP p e below T161 (mkF m 406 #[oI p0, oR b7, oR b54, oI (5 : Int32), oR (a_STRING_LIKE Z), oR (a_STRING_LIKE Z)] [(.int (0 : Int32)), (.int (0 : Int32))]) _
      refine XS.icmpNo X161.here hx rfl (hb hby at_406) rfl (teq (by decide : (0 : Int32) = (0 : Int32))).2 ?_
      show oP p e below T161 (mkF m 409 #[oI p0, oR b7, oR b54, oI (5 : Int32), oR (a_STRING_LIKE Z), oR (a_STRING_LIKE Z)] []) _
      refine XS.iconst X161.here hx rfl (hb hby at_409) ?_
      show oP p e below T161 (mkF m 410 #[oI p0, oR b7, oR b54, oI (5 : Int32), oR (a_STRING_LIKE Z), oR (a_STRING_LIKE Z)] [(.int (1 : Int32))]) _
      refine XS.goto X161.here hx rfl (pc0 := 410) (pc' := 414) rfl (hb hby at_410) (by decide) (by decide) ?_
      show oP p e below T161 (mkF m 414 #[oI p0, oR b7, oR b54, oI (5 : Int32), oR (a_STRING_LIKE Z), oR (a_STRING_LIKE Z)] [(.int (1 : Int32))]) _
      exact retN X161 hx (t := .boolean) Bd.returns (by simp) (hb hby at_414) hr
    · show (some (.int (1 : Int32)) : Option Value) = some (.int (1 : Int32)) ∧ Fr n0 _ ∧ Keep h0 T161.heap []
      exact ⟨rfl, N161, Kc161⟩
  · have fx162 := ((((((((((((((((((((((((V53.ext E54).other W56 ne_b7_b54).other W58 ne_b7_b54).other W60 ne_b7_b54).other W62 ne_b7_b54).other W64 ne_b7_b54).other W66 ne_b7_b54).other W68 ne_b7_b54).other W70 ne_b7_b54).other W72 ne_b7_b54).other W74 ne_b7_b54).other W76 ne_b7_b54).other W78 ne_b7_b54).other W80 ne_b7_b54).other W82 ne_b7_b54).other W84 ne_b7_b54).other W86 ne_b7_b54).other W88 ne_b7_b54).other W90 ne_b7_b54).other W92 ne_b7_b54).other W94 ne_b7_b54).other W96 ne_b7_b54).other W98 ne_b7_b54).other W100 ne_b7_b54)
    obtain ⟨lo163, X163, N163⟩ := own_hide X100 N100
    obtain ⟨cq164, kq164, q164a, q164b, q164c⟩ := isOf hZ e100 ((e_a_STRING_NOT_LIKE hS).ext O100.2)
    obtain ⟨_, _, ⟨T164, L164, k164, n164⟩, -, X164, ⟨Lc164, hQ164, l164, y164, z164⟩, st164⟩ := X163.virtualBack hx (y := (⟨"com/example/menshen/menshen/policy/ConditionOperator", "positive", "()Lcom/example/menshen/menshen/policy/ConditionOperator;"⟩ : MethodName)) (z := (⟨"com/example/menshen/menshen/policy/ConditionOperator", "positive", "()Lcom/example/menshen/menshen/policy/ConditionOperator;"⟩ : MethodName)) hown (mvT hZ (hw _ (List.mem_of_getElem? (i := 51) rfl))) (mvT hZ (hw _ (List.mem_of_getElem? (i := 52) rfl))) (notFace_of_selects (args := #[]) (mvT hZ (hw _ (List.mem_of_getElem? (i := 54) rfl)))) (mvT hZ (hw _ (List.mem_of_getElem? (i := 54) rfl))) (mvT hZ (hw _ (List.mem_of_getElem? (i := 53) rfl))) (by decide) (backOf (W := 0) (rm1r l Z a0 hw hS [] (a_STRING_NOT_LIKE Z) (a_STRING_LIKE Z) h100 n0 O100 ((f_a_STRING_NOT_LIKE_negationOf hS).ext O100.2)) hZ (hw _ (List.mem_of_getElem? (i := 55) rfl)) (hw _ (List.mem_of_getElem? (i := 3) rfl)) (by decide) (by decide)) q164a q164c (g := (mkF m 337 #[oI p0, oR b7, oR b54, oI (6 : Int32), oR (a_STRING_NOT_LIKE Z), oU] [(.ref (a_STRING_NOT_LIKE Z))])) rfl (by rw [hml]; rfl) (Steps.refl _) (argsL := []) (rest := []) (lenOf pd_0 rfl) rfl (by show 2 * 0 + _ ≤ _; exact Nat.le_of_eq rfl) (hb hby at_337) (fun _ _ => ⟨rfl, e100, (by decide : 2 + 0 ≤ _), (by decide : 46 + 0 ≤ _)⟩)
    dsimp only [Pt.U, Pt.locs, Pt.cells, Pt.slots] at X164 l164 y164 z164 st164 hQ164
    subst l164 y164 z164
    obtain ⟨v164, N164q, K164q⟩ := hQ164
    have w164 : (fn1r Z (a_STRING_NOT_LIKE Z) (a_STRING_LIKE Z)) = (a_STRING_LIKE Z) := rfl
    rw [w164] at v164
    subst v164
    have N164 := Fr.app N163 N164q
    have O164 := O100.keep K164q all0
    have Kc164 := Kc100.trans K164q all0
    have fx165 := (V100.keep K164q nin0)
    obtain ⟨cq166, kq166, q166a, q166b, q166c⟩ := isOf hZ rfl ((e_a_STRING_LIKE hS).ext O164.2)
    obtain ⟨_, _, ⟨T166, L166, k166, n166⟩, -, X166, ⟨Lc166, hQ166, l166, y166, z166⟩, st166⟩ := X164.virtualBack hx (y := (⟨"com/example/menshen/menshen/policy/ConditionOperator", "isNegated", "()Z"⟩ : MethodName)) (z := (⟨"com/example/menshen/menshen/policy/ConditionOperator", "isNegated", "()Z"⟩ : MethodName)) hown (mvT hZ (hw _ (List.mem_of_getElem? (i := 58) rfl))) (mvT hZ (hw _ (List.mem_of_getElem? (i := 59) rfl))) (notFace_of_selects (args := #[]) (mvT hZ (hw _ (List.mem_of_getElem? (i := 61) rfl)))) (mvT hZ (hw _ (List.mem_of_getElem? (i := 61) rfl))) (mvT hZ (hw _ (List.mem_of_getElem? (i := 60) rfl))) (by decide) (backOf (W := 0) (rm2n l Z a0 hw hS [] (a_STRING_LIKE Z) T164.heap n0 O164 ((f_a_STRING_LIKE_negationOf hS).ext O164.2)) hZ (hw _ (List.mem_of_getElem? (i := 62) rfl)) (hw _ (List.mem_of_getElem? (i := 3) rfl)) (by decide) (by decide)) q166a q166c (g := (mkF m 354 #[oI p0, oR b7, oR b54, oI (6 : Int32), oR (a_STRING_NOT_LIKE Z), oR (a_STRING_LIKE Z)] [(.ref (a_STRING_LIKE Z))])) rfl (by rw [hml]; rfl) (Steps.refl _) (argsL := []) (rest := []) (lenOf pd_1 rfl) rfl (by show 2 * 0 + _ ≤ _; exact Nat.le_of_eq rfl) (hb hby at_354) (fun _ _ => ⟨rfl, rfl, (by decide : 2 + 0 ≤ _), (by decide : 46 + 0 ≤ _)⟩)
    dsimp only [Pt.U, Pt.locs, Pt.cells, Pt.slots] at X166 l166 y166 z166 st166 hQ166
    subst l166 y166 z166
    obtain ⟨v166, N166q, K166q⟩ := hQ166
    have w166 : (fn2n Z (a_STRING_LIKE Z)) = (0 : Int32) := rfl
    rw [w166] at v166
    subst v166
    have N166 := Fr.app N164 N166q
    have O166 := O164.keep K166q all0
    have Kc166 := Kc164.trans K166q all0
    obtain ⟨cq167, kq167, q167a, q167b, q167c⟩ := isOf hZ rfl ((e_a_STRING_LIKE hS).ext O166.2)
    obtain ⟨_, _, ⟨T167, L167, k167, n167⟩, -, X167, ⟨Lc167, hQ167, l167, y167, z167⟩, st167⟩ := X166.virtualBack hx (y := (⟨"com/example/menshen/menshen/policy/ConditionOperator", "positive", "()Lcom/example/menshen/menshen/policy/ConditionOperator;"⟩ : MethodName)) (z := (⟨"com/example/menshen/menshen/policy/ConditionOperator", "positive", "()Lcom/example/menshen/menshen/policy/ConditionOperator;"⟩ : MethodName)) hown (mvT hZ (hw _ (List.mem_of_getElem? (i := 51) rfl))) (mvT hZ (hw _ (List.mem_of_getElem? (i := 52) rfl))) (notFace_of_selects (args := #[]) (mvT hZ (hw _ (List.mem_of_getElem? (i := 54) rfl)))) (mvT hZ (hw _ (List.mem_of_getElem? (i := 54) rfl))) (mvT hZ (hw _ (List.mem_of_getElem? (i := 53) rfl))) (by decide) (backOf (W := 0) (rm1n l Z a0 hw hS [] (a_STRING_LIKE Z) T166.heap n0 O166 ((f_a_STRING_LIKE_negationOf hS).ext O166.2)) hZ (hw _ (List.mem_of_getElem? (i := 55) rfl)) (hw _ (List.mem_of_getElem? (i := 3) rfl)) (by decide) (by decide)) q167a q167c (g := (mkF m 364 #[oI p0, oR b7, oR b54, oI (6 : Int32), oR (a_STRING_NOT_LIKE Z), oR (a_STRING_LIKE Z)] [(.ref (a_STRING_LIKE Z))])) rfl (by rw [hml]; rfl) (Steps.refl _) (argsL := []) (rest := []) (lenOf pd_0 rfl) rfl (by show 2 * 0 + _ ≤ _; exact Nat.le_of_eq rfl) (hb hby at_364) (fun _ _ => ⟨rfl, rfl, (by decide : 2 + 0 ≤ _), (by decide : 46 + 0 ≤ _)⟩)
    dsimp only [Pt.U, Pt.locs, Pt.cells, Pt.slots] at X167 l167 y167 z167 st167 hQ167
    subst l167 y167 z167
    obtain ⟨v167, N167q, K167q⟩ := hQ167
    have w167 : (fn1n Z (a_STRING_LIKE Z)) = (a_STRING_LIKE Z) := rfl
    rw [w167] at v167
    subst v167
    have N167 := Fr.app N166 N167q
    have O167 := O166.keep K167q all0
    have Kc167 := Kc166.trans K167q all0
    obtain ⟨cq168, kq168, q168a, q168b, q168c⟩ := isOf hZ rfl ((e_a_STRING_LIKE hS).ext O167.2)
    obtain ⟨_, _, ⟨T168, L168, k168, n168⟩, -, X168, ⟨Lc168, hQ168, l168, y168, z168⟩, st168⟩ := X167.virtualBack hx (y := (⟨"com/example/menshen/menshen/policy/ConditionOperator", "literals", "()Lcom/example/menshen/menshen/policy/ConditionOperator$Literals;"⟩ : MethodName)) (z := (⟨"com/example/menshen/menshen/policy/ConditionOperator", "literals", "()Lcom/example/menshen/menshen/policy/ConditionOperator$Literals;"⟩ : MethodName)) hown (mvT hZ (hw _ (List.mem_of_getElem? (i := 63) rfl))) (mvT hZ (hw _ (List.mem_of_getElem? (i := 64) rfl))) (notFace_of_selects (args := #[]) (mvT hZ (hw _ (List.mem_of_getElem? (i := 66) rfl)))) (mvT hZ (hw _ (List.mem_of_getElem? (i := 66) rfl))) (mvT hZ (hw _ (List.mem_of_getElem? (i := 65) rfl))) (by decide) (backOf (W := 0) (rm3 l Z a0 hw hS [] (a_STRING_LIKE Z) (a_NONE Z) T167.heap n0 O167 ((f_a_STRING_LIKE_literals hS).ext O167.2)) hZ (hw _ (List.mem_of_getElem? (i := 67) rfl)) (hw _ (List.mem_of_getElem? (i := 3) rfl)) (by decide) (by decide)) q168a q168c (g := (mkF m 376 #[oI p0, oR b7, oR b54, oI (6 : Int32), oR (a_STRING_NOT_LIKE Z), oR (a_STRING_LIKE Z)] [(.ref (a_STRING_LIKE Z))])) rfl (by rw [hml]; rfl) (Steps.refl _) (argsL := []) (rest := []) (lenOf pd_2 rfl) rfl (by show 2 * 0 + _ ≤ _; exact Nat.le_of_eq rfl) (hb hby at_376) (fun _ _ => ⟨rfl, rfl, (by decide : 2 + 0 ≤ _), (by decide : 46 + 0 ≤ _)⟩)
    dsimp only [Pt.U, Pt.locs, Pt.cells, Pt.slots] at X168 l168 y168 z168 st168 hQ168
    subst l168 y168 z168
    obtain ⟨v168, N168q, K168q⟩ := hQ168
    have w168 : (fn3 Z (a_STRING_LIKE Z) (a_NONE Z)) = (a_NONE Z) := rfl
    rw [w168] at v168
    subst v168
    have N168 := Fr.app N167 N168q
    have O168 := O167.keep K168q all0
    have Kc168 := Kc167.trans K168q all0
    obtain ⟨cq169, kq169, q169a, q169b, q169c⟩ := isOf hZ rfl ((e_a_STRING_NOT_LIKE hS).ext O168.2)
    obtain ⟨_, _, ⟨T169, L169, k169, n169⟩, -, X169, ⟨Lc169, hQ169, l169, y169, z169⟩, st169⟩ := X168.virtualBack hx (y := (⟨"com/example/menshen/menshen/policy/ConditionOperator", "literals", "()Lcom/example/menshen/menshen/policy/ConditionOperator$Literals;"⟩ : MethodName)) (z := (⟨"com/example/menshen/menshen/policy/ConditionOperator", "literals", "()Lcom/example/menshen/menshen/policy/ConditionOperator$Literals;"⟩ : MethodName)) hown (mvT hZ (hw _ (List.mem_of_getElem? (i := 63) rfl))) (mvT hZ (hw _ (List.mem_of_getElem? (i := 64) rfl))) (notFace_of_selects (args := #[]) (mvT hZ (hw _ (List.mem_of_getElem? (i := 66) rfl)))) (mvT hZ (hw _ (List.mem_of_getElem? (i := 66) rfl))) (mvT hZ (hw _ (List.mem_of_getElem? (i := 65) rfl))) (by decide) (backOf (W := 1) (rm3 l Z a0 hw hS [] (a_STRING_NOT_LIKE Z) (a_NONE Z) T168.heap n0 O168 ((f_a_STRING_NOT_LIKE_literals hS).ext O168.2)) hZ (hw _ (List.mem_of_getElem? (i := 67) rfl)) (hw _ (List.mem_of_getElem? (i := 3) rfl)) (by decide) (by decide)) q169a q169c (g := (mkF m 381 #[oI p0, oR b7, oR b54, oI (6 : Int32), oR (a_STRING_NOT_LIKE Z), oR (a_STRING_LIKE Z)] [(.ref (a_STRING_NOT_LIKE Z)), (.ref (a_NONE Z))])) rfl (by rw [hml]; rfl) (Steps.refl _) (argsL := []) (rest := [(.ref (a_NONE Z))]) (lenOf pd_2 rfl) rfl (by show 2 * 0 + _ ≤ _; exact Nat.le_of_eq rfl) (hb hby at_381) (fun _ _ => ⟨rfl, rfl, (by decide : 2 + 0 ≤ _), (by decide : 46 + 0 ≤ _)⟩)
    dsimp only [Pt.U, Pt.locs, Pt.cells, Pt.slots] at X169 l169 y169 z169 st169 hQ169
    subst l169 y169 z169
    obtain ⟨v169, N169q, K169q⟩ := hQ169
    have w169 : (fn3 Z (a_STRING_NOT_LIKE Z) (a_NONE Z)) = (a_NONE Z) := rfl
    rw [w169] at v169
    subst v169
    have N169 := Fr.app N168 N169q
    have O169 := O168.keep K169q all0
    have Kc169 := Kc168.trans K169q all0
    obtain ⟨lo170, X170, N170⟩ := own_hide X169 N169
    obtain ⟨cq171, kq171, q171a, q171b, q171c⟩ := isOf hZ rfl ((e_a_STRING_NOT_LIKE hS).ext O169.2)
    obtain ⟨_, _, ⟨T171, L171, k171, n171⟩, -, X171, ⟨Lc171, hQ171, l171, y171, z171⟩, st171⟩ := X170.virtualBack hx (y := (⟨"com/example/menshen/menshen/policy/ConditionOperator", "isNegated", "()Z"⟩ : MethodName)) (z := (⟨"com/example/menshen/menshen/policy/ConditionOperator", "isNegated", "()Z"⟩ : MethodName)) hown (mvT hZ (hw _ (List.mem_of_getElem? (i := 58) rfl))) (mvT hZ (hw _ (List.mem_of_getElem? (i := 59) rfl))) (notFace_of_selects (args := #[]) (mvT hZ (hw _ (List.mem_of_getElem? (i := 61) rfl)))) (mvT hZ (hw _ (List.mem_of_getElem? (i := 61) rfl))) (mvT hZ (hw _ (List.mem_of_getElem? (i := 60) rfl))) (by decide) (backOf (W := 0) (rm2r l Z a0 hw hS [] (a_STRING_NOT_LIKE Z) (a_STRING_LIKE Z) T169.heap n0 O169 ((f_a_STRING_NOT_LIKE_negationOf hS).ext O169.2)) hZ (hw _ (List.mem_of_getElem? (i := 62) rfl)) (hw _ (List.mem_of_getElem? (i := 3) rfl)) (by decide) (by decide)) q171a q171c (g := (mkF m 391 #[oI p0, oR b7, oR b54, oI (6 : Int32), oR (a_STRING_NOT_LIKE Z), oR (a_STRING_LIKE Z)] [(.ref (a_STRING_NOT_LIKE Z))])) rfl (by rw [hml]; rfl) (Steps.refl _) (argsL := []) (rest := []) (lenOf pd_1 rfl) rfl (by show 2 * 0 + _ ≤ _; exact Nat.le_of_eq rfl) (hb hby at_391) (fun _ _ => ⟨rfl, rfl, (by decide : 2 + 0 ≤ _), (by decide : 46 + 0 ≤ _)⟩)
    dsimp only [Pt.U, Pt.locs, Pt.cells, Pt.slots] at X171 l171 y171 z171 st171 hQ171
    subst l171 y171 z171
    obtain ⟨v171, N171q, K171q⟩ := hQ171
    have w171 : (fn2r Z (a_STRING_NOT_LIKE Z) (a_STRING_LIKE Z)) = (1 : Int32) := rfl
    rw [w171] at v171
    subst v171
    have N171 := Fr.app N170 N171q
    have O171 := O169.keep K171q all0
    have Kc171 := Kc169.trans K171q all0
    obtain ⟨fs, hr, hrun, hended, hW, hsame⟩ := X171.leave (v := some (.int (1 : Int32))) (fun h => by rw [Bd.returns] at h; cases h)
    refine ⟨_, _, pre101 _ ?_, hrun, hended, _, _, rfl, ?_, ⟨_, rfl⟩, hW, hsame.mono (by decide) (by decide)⟩
    · show oP p e below T100 (mkF m 329 #[oI p0, oR b7, oR b54, oU, oU, oU] [(.int (6 : Int32))]) _
      refine XS.istoreN X100.here hx rfl (hb hby at_329) rfl (l' := #[oI p0, oR b7, oR b54, oI (6 : Int32), oU, oU]) rfl ?_
      show oP p e below T100 (mkF m 330 #[oI p0, oR b7, oR b54, oI (6 : Int32), oU, oU] []) _
      refine XS.aloadN X100.here hx rfl (hb hby at_330) rfl rfl ?_
      show oP p e below T100 (mkF m 331 #[oI p0, oR b7, oR b54, oI (6 : Int32), oU, oU] [(.ref b7)]) _
      refine XS.iloadN X100.here hx rfl (hb hby at_331) rfl ?_
      show oP p e below T100 (mkF m 332 #[oI p0, oR b7, oR b54, oI (6 : Int32), oU, oU] [(.int (6 : Int32)), (.ref b7)]) _
      refine own_aaload X100 hx hZ e100 fx162 rfl (j := (6 : Int32)) ⟨by decide, by decide⟩ (v := (.ref (a_STRING_NOT_LIKE Z))) rfl (g := (mkF m 332 #[oI p0, oR b7, oR b54, oI (6 : Int32), oU, oU] [(.int (6 : Int32)), (.ref b7)])) rfl rfl (hb hby at_332) _ ?_
      show oP p e below T100 (mkF m 333 #[oI p0, oR b7, oR b54, oI (6 : Int32), oU, oU] [(.ref (a_STRING_NOT_LIKE Z))]) _
      refine XS.astore X100.here hx rfl (hb hby at_333) rfl rfl (l' := #[oI p0, oR b7, oR b54, oI (6 : Int32), oR (a_STRING_NOT_LIKE Z), oU]) rfl ?_
      show oP p e below T100 (mkF m 335 #[oI p0, oR b7, oR b54, oI (6 : Int32), oR (a_STRING_NOT_LIKE Z), oU] []) _
      refine XS.aload X100.here hx rfl (hb hby at_335) rfl rfl ?_
      show oP p e below T100 (mkF m 337 #[oI p0, oR b7, oR b54, oI (6 : Int32), oR (a_STRING_NOT_LIKE Z), oU] [(.ref (a_STRING_NOT_LIKE Z))]) _
      refine st164.trans ?_
      show oP p e below T164 (mkF m 340 #[oI p0, oR b7, oR b54, oI (6 : Int32), oR (a_STRING_NOT_LIKE Z), oU] [(.ref (a_STRING_LIKE Z))]) _
      refine XS.astore X164.here hx rfl (hb hby at_340) rfl rfl (l' := #[oI p0, oR b7, oR b54, oI (6 : Int32), oR (a_STRING_NOT_LIKE Z), oR (a_STRING_LIKE Z)]) rfl ?_
      show oP p e below T164 (mkF m 342 #[oI p0, oR b7, oR b54, oI (6 : Int32), oR (a_STRING_NOT_LIKE Z), oR (a_STRING_LIKE Z)] []) _
      refine XS.aload X164.here hx rfl (hb hby at_342) rfl rfl ?_
      show oP p e below T164 (mkF m 344 #[oI p0, oR b7, oR b54, oI (6 : Int32), oR (a_STRING_NOT_LIKE Z), oR (a_STRING_LIKE Z)] [(.ref (a_STRING_LIKE Z))]) _
      refine XS.aloadN X164.here hx rfl (hb hby at_344) rfl rfl ?_
      show oP p e below T164 (mkF m 345 #[oI p0, oR b7, oR b54, oI (6 : Int32), oR (a_STRING_NOT_LIKE Z), oR (a_STRING_LIKE Z)] [(.ref b54), (.ref (a_STRING_LIKE Z))]) _
      refine XS.iloadN X164.here hx rfl (hb hby at_345) rfl ?_
      show oP p e below T164 (mkF m 346 #[oI p0, oR b7, oR b54, oI (6 : Int32), oR (a_STRING_NOT_LIKE Z), oR (a_STRING_LIKE Z)] [(.int (6 : Int32)), (.ref b54), (.ref (a_STRING_LIKE Z))]) _
      refine own_aaload X164 hx hZ rfl fx165 rfl (j := (6 : Int32)) ⟨by decide, by decide⟩ (v := (.ref (a_STRING_LIKE Z))) rfl (g := (mkF m 346 #[oI p0, oR b7, oR b54, oI (6 : Int32), oR (a_STRING_NOT_LIKE Z), oR (a_STRING_LIKE Z)] [(.int (6 : Int32)), (.ref b54), (.ref (a_STRING_LIKE Z))])) rfl rfl (hb hby at_346) _ ?_
      show oP p e below T164 (mkF m 347 #[oI p0, oR b7, oR b54, oI (6 : Int32), oR (a_STRING_NOT_LIKE Z), oR (a_STRING_LIKE Z)] [(.ref (a_STRING_LIKE Z)), (.ref (a_STRING_LIKE Z))]) _
      refine Jvm.RoadKit.acmp (g := (mkF m 347 #[oI p0, oR b7, oR b54, oI (6 : Int32), oR (a_STRING_NOT_LIKE Z), oR (a_STRING_LIKE Z)] [(.ref (a_STRING_LIKE Z)), (.ref (a_STRING_LIKE Z))])) X164 hx rfl rfl rfl (pc0 := 347) (pc' := 352) (same := true) rfl (hb hby at_347) rfl (decide_eq_true (congrArg Value.ref (rfl : (a_STRING_LIKE Z) = (a_STRING_LIKE Z)))) (by decide) (by decide) ?_
      show oP p e below T164 (mkF m 352 #[oI p0, oR b7, oR b54, oI (6 : Int32), oR (a_STRING_NOT_LIKE Z), oR (a_STRING_LIKE Z)] []) _
      refine XS.aload X164.here hx rfl (hb hby at_352) rfl rfl ?_
      show oP p e below T164 (mkF m 354 #[oI p0, oR b7, oR b54, oI (6 : Int32), oR (a_STRING_NOT_LIKE Z), oR (a_STRING_LIKE Z)] [(.ref (a_STRING_LIKE Z))]) _
      refine st166.trans ?_
      show oP p e below T166 (mkF m 357 #[oI p0, oR b7, oR b54, oI (6 : Int32), oR (a_STRING_NOT_LIKE Z), oR (a_STRING_LIKE Z)] [(.int (0 : Int32))]) _
      refine XS.ifYes X166.here hx rfl (pc0 := 357) (pc' := 362) rfl (hb hby at_357) rfl ((if0 _ _).trans (teq (by decide : (0 : Int32) = (0 : Int32))).1) (by decide) (by decide) ?_
      show oP p e below T166 (mkF m 362 #[oI p0, oR b7, oR b54, oI (6 : Int32), oR (a_STRING_NOT_LIKE Z), oR (a_STRING_LIKE Z)] []) _
      refine XS.aload X166.here hx rfl (hb hby at_362) rfl rfl ?_
      show oP p e below T166 (mkF m 364 #[oI p0, oR b7, oR b54, oI (6 : Int32), oR (a_STRING_NOT_LIKE Z), oR (a_STRING_LIKE Z)] [(.ref (a_STRING_LIKE Z))]) _
      refine st167.trans ?_
      show oP p e below T167 (mkF m 367 #[oI p0, oR b7, oR b54, oI (6 : Int32), oR (a_STRING_NOT_LIKE Z), oR (a_STRING_LIKE Z)] [(.ref (a_STRING_LIKE Z))]) _
      refine XS.aload X167.here hx rfl (hb hby at_367) rfl rfl ?_
      show oP p e below T167 (mkF m 369 #[oI p0, oR b7, oR b54, oI (6 : Int32), oR (a_STRING_NOT_LIKE Z), oR (a_STRING_LIKE Z)] [(.ref (a_STRING_LIKE Z)), (.ref (a_STRING_LIKE Z))]) _
      refine Jvm.RoadKit.acmp (g := (mkF m 369 #[oI p0, oR b7, oR b54, oI (6 : Int32), oR (a_STRING_NOT_LIKE Z), oR (a_STRING_LIKE Z)] [(.ref (a_STRING_LIKE Z)), (.ref (a_STRING_LIKE Z))])) X167 hx rfl rfl rfl (pc0 := 369) (pc' := 374) (same := true) rfl (hb hby at_369) rfl (decide_eq_true (congrArg Value.ref (rfl : (a_STRING_LIKE Z) = (a_STRING_LIKE Z)))) (by decide) (by decide) ?_
      show oP p e below T167 (mkF m 374 #[oI p0, oR b7, oR b54, oI (6 : Int32), oR (a_STRING_NOT_LIKE Z), oR (a_STRING_LIKE Z)] []) _
      refine XS.aload X167.here hx rfl (hb hby at_374) rfl rfl ?_
      show oP p e below T167 (mkF m 376 #[oI p0, oR b7, oR b54, oI (6 : Int32), oR (a_STRING_NOT_LIKE Z), oR (a_STRING_LIKE Z)] [(.ref (a_STRING_LIKE Z))]) _
      refine st168.trans ?_
      show oP p e below T168 (mkF m 379 #[oI p0, oR b7, oR b54, oI (6 : Int32), oR (a_STRING_NOT_LIKE Z), oR (a_STRING_LIKE Z)] [(.ref (a_NONE Z))]) _
      refine XS.aload X168.here hx rfl (hb hby at_379) rfl rfl ?_
      show oP p e below T168 (mkF m 381 #[oI p0, oR b7, oR b54, oI (6 : Int32), oR (a_STRING_NOT_LIKE Z), oR (a_STRING_LIKE Z)] [(.ref (a_STRING_NOT_LIKE Z)), (.ref (a_NONE Z))]) _
      refine st169.trans ?_
      show oP p e below T169 (mkF m 384 #[oI p0, oR b7, oR b54, oI (6 : Int32), oR (a_STRING_NOT_LIKE Z), oR (a_STRING_LIKE Z)] [(.ref (a_NONE Z)), (.ref (a_NONE Z))]) _
      refine Jvm.RoadKit.acmp (g := (mkF m 384 #[oI p0, oR b7, oR b54, oI (6 : Int32), oR (a_STRING_NOT_LIKE Z), oR (a_STRING_LIKE Z)] [(.ref (a_NONE Z)), (.ref (a_NONE Z))])) X169 hx rfl rfl rfl (pc0 := 384) (pc' := 389) (same := true) rfl (hb hby at_384) rfl (decide_eq_true (congrArg Value.ref (rfl : (a_NONE Z) = (a_NONE Z)))) (by decide) (by decide) ?_
      show oP p e below T169 (mkF m 389 #[oI p0, oR b7, oR b54, oI (6 : Int32), oR (a_STRING_NOT_LIKE Z), oR (a_STRING_LIKE Z)] []) _
      refine XS.aload X169.here hx rfl (hb hby at_389) rfl rfl ?_
      show oP p e below T169 (mkF m 391 #[oI p0, oR b7, oR b54, oI (6 : Int32), oR (a_STRING_NOT_LIKE Z), oR (a_STRING_LIKE Z)] [(.ref (a_STRING_NOT_LIKE Z))]) _
      refine st171.trans ?_
      show oP p e below T171 (mkF m 394 #[oI p0, oR b7, oR b54, oI (6 : Int32), oR (a_STRING_NOT_LIKE Z), oR (a_STRING_LIKE Z)] [(.int (1 : Int32))]) _
      refine XS.aload X171.here hx rfl (hb hby at_394) rfl rfl ?_
      show oP p e below T171 (mkF m 396 #[oI p0, oR b7, oR b54, oI (6 : Int32), oR (a_STRING_NOT_LIKE Z), oR (a_STRING_LIKE Z)] [(.ref (a_STRING_LIKE Z)), (.int (1 : Int32))]) _
      refine XS.aload X171.here hx rfl (hb hby at_396) rfl rfl ?_
      show oP p e below T171 (mkF m 398 #[oI p0, oR b7, oR b54, oI (6 : Int32), oR (a_STRING_NOT_LIKE Z), oR (a_STRING_LIKE Z)] [(.ref (a_STRING_NOT_LIKE Z)), (.ref (a_STRING_LIKE Z)), (.int (1 : Int32))]) _
      refine Jvm.RoadKit.acmp (g := (mkF m 398 #[oI p0, oR b7, oR b54, oI (6 : Int32), oR (a_STRING_NOT_LIKE Z), oR (a_STRING_LIKE Z)] [(.ref (a_STRING_NOT_LIKE Z)), (.ref (a_STRING_LIKE Z)), (.int (1 : Int32))])) X171 hx rfl rfl rfl (pc0 := 398) (pc' := 401) (same := false) rfl (hb hby at_398) rfl (decide_eq_false fun q => ((f_a_STRING_LIKE_ordinal hS).ne (f_a_STRING_NOT_LIKE_ordinal hS) (by decide)) (Value.ref.inj q)) (by decide) (by decide) ?_
      show oP p e below T171 (mkF m 401 #[oI p0, oR b7, oR b54, oI (6 : Int32), oR (a_STRING_NOT_LIKE Z), oR (a_STRING_LIKE Z)] [(.int (1 : Int32))]) _
      refine XS.iconst X171.here hx rfl (hb hby at_401) ?_
      show oP p e below T171 (mkF m 402 #[oI p0, oR b7, oR b54, oI (6 : Int32), oR (a_STRING_NOT_LIKE Z), oR (a_STRING_LIKE Z)] [(.int (1 : Int32)), (.int (1 : Int32))]) _
      refine XS.goto X171.here hx rfl (pc0 := 402) (pc' := 406) rfl (hb hby at_402) (by decide) (by decide) ?_
      show oP p e below T171 (mkF m 406 #[oI p0, oR b7, oR b54, oI (6 : Int32), oR (a_STRING_NOT_LIKE Z), oR (a_STRING_LIKE Z)] [(.int (1 : Int32)), (.int (1 : Int32))]) _
      refine XS.icmpNo X171.here hx rfl (hb hby at_406) rfl (teq (by decide : (1 : Int32) = (1 : Int32))).2 ?_
      show oP p e below T171 (mkF m 409 #[oI p0, oR b7, oR b54, oI (6 : Int32), oR (a_STRING_NOT_LIKE Z), oR (a_STRING_LIKE Z)] []) _
      refine XS.iconst X171.here hx rfl (hb hby at_409) ?_
      show oP p e below T171 (mkF m 410 #[oI p0, oR b7, oR b54, oI (6 : Int32), oR (a_STRING_NOT_LIKE Z), oR (a_STRING_LIKE Z)] [(.int (1 : Int32))]) _
      refine XS.goto X171.here hx rfl (pc0 := 410) (pc' := 414) rfl (hb hby at_410) (by decide) (by decide) ?_
      show oP p e below T171 (mkF m 414 #[oI p0, oR b7, oR b54, oI (6 : Int32), oR (a_STRING_NOT_LIKE Z), oR (a_STRING_LIKE Z)] [(.int (1 : Int32))]) _
      exact retN X171 hx (t := .boolean) Bd.returns (by simp) (hb hby at_414) hr
    · show (some (.int (1 : Int32)) : Option Value) = some (.int (1 : Int32)) ∧ Fr n0 _ ∧ Keep h0 T171.heap []
      exact ⟨rfl, N171, Kc171⟩
  · have fx172 := ((((((((((((((((((((((((V53.ext E54).other W56 ne_b7_b54).other W58 ne_b7_b54).other W60 ne_b7_b54).other W62 ne_b7_b54).other W64 ne_b7_b54).other W66 ne_b7_b54).other W68 ne_b7_b54).other W70 ne_b7_b54).other W72 ne_b7_b54).other W74 ne_b7_b54).other W76 ne_b7_b54).other W78 ne_b7_b54).other W80 ne_b7_b54).other W82 ne_b7_b54).other W84 ne_b7_b54).other W86 ne_b7_b54).other W88 ne_b7_b54).other W90 ne_b7_b54).other W92 ne_b7_b54).other W94 ne_b7_b54).other W96 ne_b7_b54).other W98 ne_b7_b54).other W100 ne_b7_b54)
    obtain ⟨lo173, X173, N173⟩ := own_hide X100 N100
    obtain ⟨cq174, kq174, q174a, q174b, q174c⟩ := isOf hZ e100 ((e_a_IP_ADDRESS hS).ext O100.2)
    obtain ⟨_, _, ⟨T174, L174, k174, n174⟩, -, X174, ⟨Lc174, hQ174, l174, y174, z174⟩, st174⟩ := X173.virtualBack hx (y := (⟨"com/example/menshen/menshen/policy/ConditionOperator", "positive", "()Lcom/example/menshen/menshen/policy/ConditionOperator;"⟩ : MethodName)) (z := (⟨"com/example/menshen/menshen/policy/ConditionOperator", "positive", "()Lcom/example/menshen/menshen/policy/ConditionOperator;"⟩ : MethodName)) hown (mvT hZ (hw _ (List.mem_of_getElem? (i := 51) rfl))) (mvT hZ (hw _ (List.mem_of_getElem? (i := 52) rfl))) (notFace_of_selects (args := #[]) (mvT hZ (hw _ (List.mem_of_getElem? (i := 54) rfl)))) (mvT hZ (hw _ (List.mem_of_getElem? (i := 54) rfl))) (mvT hZ (hw _ (List.mem_of_getElem? (i := 53) rfl))) (by decide) (backOf (W := 0) (rm1n l Z a0 hw hS [] (a_IP_ADDRESS Z) h100 n0 O100 ((f_a_IP_ADDRESS_negationOf hS).ext O100.2)) hZ (hw _ (List.mem_of_getElem? (i := 55) rfl)) (hw _ (List.mem_of_getElem? (i := 3) rfl)) (by decide) (by decide)) q174a q174c (g := (mkF m 337 #[oI p0, oR b7, oR b54, oI (7 : Int32), oR (a_IP_ADDRESS Z), oU] [(.ref (a_IP_ADDRESS Z))])) rfl (by rw [hml]; rfl) (Steps.refl _) (argsL := []) (rest := []) (lenOf pd_0 rfl) rfl (by show 2 * 0 + _ ≤ _; exact Nat.le_of_eq rfl) (hb hby at_337) (fun _ _ => ⟨rfl, e100, (by decide : 2 + 0 ≤ _), (by decide : 46 + 0 ≤ _)⟩)
    dsimp only [Pt.U, Pt.locs, Pt.cells, Pt.slots] at X174 l174 y174 z174 st174 hQ174
    subst l174 y174 z174
    obtain ⟨v174, N174q, K174q⟩ := hQ174
    have w174 : (fn1n Z (a_IP_ADDRESS Z)) = (a_IP_ADDRESS Z) := rfl
    rw [w174] at v174
    subst v174
    have N174 := Fr.app N173 N174q
    have O174 := O100.keep K174q all0
    have Kc174 := Kc100.trans K174q all0
    have fx175 := (V100.keep K174q nin0)
    obtain ⟨cq176, kq176, q176a, q176b, q176c⟩ := isOf hZ rfl ((e_a_IP_ADDRESS hS).ext O174.2)
    obtain ⟨_, _, ⟨T176, L176, k176, n176⟩, -, X176, ⟨Lc176, hQ176, l176, y176, z176⟩, st176⟩ := X174.virtualBack hx (y := (⟨"com/example/menshen/menshen/policy/ConditionOperator", "isNegated", "()Z"⟩ : MethodName)) (z := (⟨"com/example/menshen/menshen/policy/ConditionOperator", "isNegated", "()Z"⟩ : MethodName)) hown (mvT hZ (hw _ (List.mem_of_getElem? (i := 58) rfl))) (mvT hZ (hw _ (List.mem_of_getElem? (i := 59) rfl))) (notFace_of_selects (args := #[]) (mvT hZ (hw _ (List.mem_of_getElem? (i := 61) rfl)))) (mvT hZ (hw _ (List.mem_of_getElem? (i := 61) rfl))) (mvT hZ (hw _ (List.mem_of_getElem? (i := 60) rfl))) (by decide) (backOf (W := 0) (rm2n l Z a0 hw hS [] (a_IP_ADDRESS Z) T174.heap n0 O174 ((f_a_IP_ADDRESS_negationOf hS).ext O174.2)) hZ (hw _ (List.mem_of_getElem? (i := 62) rfl)) (hw _ (List.mem_of_getElem? (i := 3) rfl)) (by decide) (by decide)) q176a q176c (g := (mkF m 354 #[oI p0, oR b7, oR b54, oI (7 : Int32), oR (a_IP_ADDRESS Z), oR (a_IP_ADDRESS Z)] [(.ref (a_IP_ADDRESS Z))])) rfl (by rw [hml]; rfl) (Steps.refl _) (argsL := []) (rest := []) (lenOf pd_1 rfl) rfl (by show 2 * 0 + _ ≤ _; exact Nat.le_of_eq rfl) (hb hby at_354) (fun _ _ => ⟨rfl, rfl, (by decide : 2 + 0 ≤ _), (by decide : 46 + 0 ≤ _)⟩)
    dsimp only [Pt.U, Pt.locs, Pt.cells, Pt.slots] at X176 l176 y176 z176 st176 hQ176
    subst l176 y176 z176
    obtain ⟨v176, N176q, K176q⟩ := hQ176
    have w176 : (fn2n Z (a_IP_ADDRESS Z)) = (0 : Int32) := rfl
    rw [w176] at v176
    subst v176
    have N176 := Fr.app N174 N176q
    have O176 := O174.keep K176q all0
    have Kc176 := Kc174.trans K176q all0
    obtain ⟨cq177, kq177, q177a, q177b, q177c⟩ := isOf hZ rfl ((e_a_IP_ADDRESS hS).ext O176.2)
    obtain ⟨_, _, ⟨T177, L177, k177, n177⟩, -, X177, ⟨Lc177, hQ177, l177, y177, z177⟩, st177⟩ := X176.virtualBack hx (y := (⟨"com/example/menshen/menshen/policy/ConditionOperator", "positive", "()Lcom/example/menshen/menshen/policy/ConditionOperator;"⟩ : MethodName)) (z := (⟨"com/example/menshen/menshen/policy/ConditionOperator", "positive", "()Lcom/example/menshen/menshen/policy/ConditionOperator;"⟩ : MethodName)) hown (mvT hZ (hw _ (List.mem_of_getElem? (i := 51) rfl))) (mvT hZ (hw _ (List.mem_of_getElem? (i := 52) rfl))) (notFace_of_selects (args := #[]) (mvT hZ (hw _ (List.mem_of_getElem? (i := 54) rfl)))) (mvT hZ (hw _ (List.mem_of_getElem? (i := 54) rfl))) (mvT hZ (hw _ (List.mem_of_getElem? (i := 53) rfl))) (by decide) (backOf (W := 0) (rm1n l Z a0 hw hS [] (a_IP_ADDRESS Z) T176.heap n0 O176 ((f_a_IP_ADDRESS_negationOf hS).ext O176.2)) hZ (hw _ (List.mem_of_getElem? (i := 55) rfl)) (hw _ (List.mem_of_getElem? (i := 3) rfl)) (by decide) (by decide)) q177a q177c (g := (mkF m 364 #[oI p0, oR b7, oR b54, oI (7 : Int32), oR (a_IP_ADDRESS Z), oR (a_IP_ADDRESS Z)] [(.ref (a_IP_ADDRESS Z))])) rfl (by rw [hml]; rfl) (Steps.refl _) (argsL := []) (rest := []) (lenOf pd_0 rfl) rfl (by show 2 * 0 + _ ≤ _; exact Nat.le_of_eq rfl) (hb hby at_364) (fun _ _ => ⟨rfl, rfl, (by decide : 2 + 0 ≤ _), (by decide : 46 + 0 ≤ _)⟩)
    dsimp only [Pt.U, Pt.locs, Pt.cells, Pt.slots] at X177 l177 y177 z177 st177 hQ177
    subst l177 y177 z177
    obtain ⟨v177, N177q, K177q⟩ := hQ177
    have w177 : (fn1n Z (a_IP_ADDRESS Z)) = (a_IP_ADDRESS Z) := rfl
    rw [w177] at v177
    subst v177
    have N177 := Fr.app N176 N177q
    have O177 := O176.keep K177q all0
    have Kc177 := Kc176.trans K177q all0
    obtain ⟨cq178, kq178, q178a, q178b, q178c⟩ := isOf hZ rfl ((e_a_IP_ADDRESS hS).ext O177.2)
    obtain ⟨_, _, ⟨T178, L178, k178, n178⟩, -, X178, ⟨Lc178, hQ178, l178, y178, z178⟩, st178⟩ := X177.virtualBack hx (y := (⟨"com/example/menshen/menshen/policy/ConditionOperator", "literals", "()Lcom/example/menshen/menshen/policy/ConditionOperator$Literals;"⟩ : MethodName)) (z := (⟨"com/example/menshen/menshen/policy/ConditionOperator", "literals", "()Lcom/example/menshen/menshen/policy/ConditionOperator$Literals;"⟩ : MethodName)) hown (mvT hZ (hw _ (List.mem_of_getElem? (i := 63) rfl))) (mvT hZ (hw _ (List.mem_of_getElem? (i := 64) rfl))) (notFace_of_selects (args := #[]) (mvT hZ (hw _ (List.mem_of_getElem? (i := 66) rfl)))) (mvT hZ (hw _ (List.mem_of_getElem? (i := 66) rfl))) (mvT hZ (hw _ (List.mem_of_getElem? (i := 65) rfl))) (by decide) (backOf (W := 0) (rm3 l Z a0 hw hS [] (a_IP_ADDRESS Z) (a_NONE Z) T177.heap n0 O177 ((f_a_IP_ADDRESS_literals hS).ext O177.2)) hZ (hw _ (List.mem_of_getElem? (i := 67) rfl)) (hw _ (List.mem_of_getElem? (i := 3) rfl)) (by decide) (by decide)) q178a q178c (g := (mkF m 376 #[oI p0, oR b7, oR b54, oI (7 : Int32), oR (a_IP_ADDRESS Z), oR (a_IP_ADDRESS Z)] [(.ref (a_IP_ADDRESS Z))])) rfl (by rw [hml]; rfl) (Steps.refl _) (argsL := []) (rest := []) (lenOf pd_2 rfl) rfl (by show 2 * 0 + _ ≤ _; exact Nat.le_of_eq rfl) (hb hby at_376) (fun _ _ => ⟨rfl, rfl, (by decide : 2 + 0 ≤ _), (by decide : 46 + 0 ≤ _)⟩)
    dsimp only [Pt.U, Pt.locs, Pt.cells, Pt.slots] at X178 l178 y178 z178 st178 hQ178
    subst l178 y178 z178
    obtain ⟨v178, N178q, K178q⟩ := hQ178
    have w178 : (fn3 Z (a_IP_ADDRESS Z) (a_NONE Z)) = (a_NONE Z) := rfl
    rw [w178] at v178
    subst v178
    have N178 := Fr.app N177 N178q
    have O178 := O177.keep K178q all0
    have Kc178 := Kc177.trans K178q all0
    obtain ⟨cq179, kq179, q179a, q179b, q179c⟩ := isOf hZ rfl ((e_a_IP_ADDRESS hS).ext O178.2)
    obtain ⟨_, _, ⟨T179, L179, k179, n179⟩, -, X179, ⟨Lc179, hQ179, l179, y179, z179⟩, st179⟩ := X178.virtualBack hx (y := (⟨"com/example/menshen/menshen/policy/ConditionOperator", "literals", "()Lcom/example/menshen/menshen/policy/ConditionOperator$Literals;"⟩ : MethodName)) (z := (⟨"com/example/menshen/menshen/policy/ConditionOperator", "literals", "()Lcom/example/menshen/menshen/policy/ConditionOperator$Literals;"⟩ : MethodName)) hown (mvT hZ (hw _ (List.mem_of_getElem? (i := 63) rfl))) (mvT hZ (hw _ (List.mem_of_getElem? (i := 64) rfl))) (notFace_of_selects (args := #[]) (mvT hZ (hw _ (List.mem_of_getElem? (i := 66) rfl)))) (mvT hZ (hw _ (List.mem_of_getElem? (i := 66) rfl))) (mvT hZ (hw _ (List.mem_of_getElem? (i := 65) rfl))) (by decide) (backOf (W := 1) (rm3 l Z a0 hw hS [] (a_IP_ADDRESS Z) (a_NONE Z) T178.heap n0 O178 ((f_a_IP_ADDRESS_literals hS).ext O178.2)) hZ (hw _ (List.mem_of_getElem? (i := 67) rfl)) (hw _ (List.mem_of_getElem? (i := 3) rfl)) (by decide) (by decide)) q179a q179c (g := (mkF m 381 #[oI p0, oR b7, oR b54, oI (7 : Int32), oR (a_IP_ADDRESS Z), oR (a_IP_ADDRESS Z)] [(.ref (a_IP_ADDRESS Z)), (.ref (a_NONE Z))])) rfl (by rw [hml]; rfl) (Steps.refl _) (argsL := []) (rest := [(.ref (a_NONE Z))]) (lenOf pd_2 rfl) rfl (by show 2 * 0 + _ ≤ _; exact Nat.le_of_eq rfl) (hb hby at_381) (fun _ _ => ⟨rfl, rfl, (by decide : 2 + 0 ≤ _), (by decide : 46 + 0 ≤ _)⟩)
    dsimp only [Pt.U, Pt.locs, Pt.cells, Pt.slots] at X179 l179 y179 z179 st179 hQ179
    subst l179 y179 z179
    obtain ⟨v179, N179q, K179q⟩ := hQ179
    have w179 : (fn3 Z (a_IP_ADDRESS Z) (a_NONE Z)) = (a_NONE Z) := rfl
    rw [w179] at v179
    subst v179
    have N179 := Fr.app N178 N179q
    have O179 := O178.keep K179q all0
    have Kc179 := Kc178.trans K179q all0
    obtain ⟨lo180, X180, N180⟩ := own_hide X179 N179
    obtain ⟨cq181, kq181, q181a, q181b, q181c⟩ := isOf hZ rfl ((e_a_IP_ADDRESS hS).ext O179.2)
    obtain ⟨_, _, ⟨T181, L181, k181, n181⟩, -, X181, ⟨Lc181, hQ181, l181, y181, z181⟩, st181⟩ := X180.virtualBack hx (y := (⟨"com/example/menshen/menshen/policy/ConditionOperator", "isNegated", "()Z"⟩ : MethodName)) (z := (⟨"com/example/menshen/menshen/policy/ConditionOperator", "isNegated", "()Z"⟩ : MethodName)) hown (mvT hZ (hw _ (List.mem_of_getElem? (i := 58) rfl))) (mvT hZ (hw _ (List.mem_of_getElem? (i := 59) rfl))) (notFace_of_selects (args := #[]) (mvT hZ (hw _ (List.mem_of_getElem? (i := 61) rfl)))) (mvT hZ (hw _ (List.mem_of_getElem? (i := 61) rfl))) (mvT hZ (hw _ (List.mem_of_getElem? (i := 60) rfl))) (by decide) (backOf (W := 0) (rm2n l Z a0 hw hS [] (a_IP_ADDRESS Z) T179.heap n0 O179 ((f_a_IP_ADDRESS_negationOf hS).ext O179.2)) hZ (hw _ (List.mem_of_getElem? (i := 62) rfl)) (hw _ (List.mem_of_getElem? (i := 3) rfl)) (by decide) (by decide)) q181a q181c (g := (mkF m 391 #[oI p0, oR b7, oR b54, oI (7 : Int32), oR (a_IP_ADDRESS Z), oR (a_IP_ADDRESS Z)] [(.ref (a_IP_ADDRESS Z))])) rfl (by rw [hml]; rfl) (Steps.refl _) (argsL := []) (rest := []) (lenOf pd_1 rfl) rfl (by show 2 * 0 + _ ≤ _; exact Nat.le_of_eq rfl) (hb hby at_391) (fun _ _ => ⟨rfl, rfl, (by decide : 2 + 0 ≤ _), (by decide : 46 + 0 ≤ _)⟩)
    dsimp only [Pt.U, Pt.locs, Pt.cells, Pt.slots] at X181 l181 y181 z181 st181 hQ181
    subst l181 y181 z181
    obtain ⟨v181, N181q, K181q⟩ := hQ181
    have w181 : (fn2n Z (a_IP_ADDRESS Z)) = (0 : Int32) := rfl
    rw [w181] at v181
    subst v181
    have N181 := Fr.app N180 N181q
    have O181 := O179.keep K181q all0
    have Kc181 := Kc179.trans K181q all0
    obtain ⟨fs, hr, hrun, hended, hW, hsame⟩ := X181.leave (v := some (.int (1 : Int32))) (fun h => by rw [Bd.returns] at h; cases h)
    refine ⟨_, _, pre101 _ ?_, hrun, hended, _, _, rfl, ?_, ⟨_, rfl⟩, hW, hsame.mono (by decide) (by decide)⟩
    · show oP p e below T100 (mkF m 329 #[oI p0, oR b7, oR b54, oU, oU, oU] [(.int (7 : Int32))]) _
      refine XS.istoreN X100.here hx rfl (hb hby at_329) rfl (l' := #[oI p0, oR b7, oR b54, oI (7 : Int32), oU, oU]) rfl ?_
      show oP p e below T100 (mkF m 330 #[oI p0, oR b7, oR b54, oI (7 : Int32), oU, oU] []) _
      refine XS.aloadN X100.here hx rfl (hb hby at_330) rfl rfl ?_
      show oP p e below T100 (mkF m 331 #[oI p0, oR b7, oR b54, oI (7 : Int32), oU, oU] [(.ref b7)]) _
      refine XS.iloadN X100.here hx rfl (hb hby at_331) rfl ?_
      show oP p e below T100 (mkF m 332 #[oI p0, oR b7, oR b54, oI (7 : Int32), oU, oU] [(.int (7 : Int32)), (.ref b7)]) _
      refine own_aaload X100 hx hZ e100 fx172 rfl (j := (7 : Int32)) ⟨by decide, by decide⟩ (v := (.ref (a_IP_ADDRESS Z))) rfl (g := (mkF m 332 #[oI p0, oR b7, oR b54, oI (7 : Int32), oU, oU] [(.int (7 : Int32)), (.ref b7)])) rfl rfl (hb hby at_332) _ ?_
      show oP p e below T100 (mkF m 333 #[oI p0, oR b7, oR b54, oI (7 : Int32), oU, oU] [(.ref (a_IP_ADDRESS Z))]) _
      refine XS.astore X100.here hx rfl (hb hby at_333) rfl rfl (l' := #[oI p0, oR b7, oR b54, oI (7 : Int32), oR (a_IP_ADDRESS Z), oU]) rfl ?_
      show oP p e below T100 (mkF m 335 #[oI p0, oR b7, oR b54, oI (7 : Int32), oR (a_IP_ADDRESS Z), oU] []) _
      refine XS.aload X100.here hx rfl (hb hby at_335) rfl rfl ?_
      show oP p e below T100 (mkF m 337 #[oI p0, oR b7, oR b54, oI (7 : Int32), oR (a_IP_ADDRESS Z), oU] [(.ref (a_IP_ADDRESS Z))]) _
      refine st174.trans ?_
      show oP p e below T174 (mkF m 340 #[oI p0, oR b7, oR b54, oI (7 : Int32), oR (a_IP_ADDRESS Z), oU] [(.ref (a_IP_ADDRESS Z))]) _
      refine XS.astore X174.here hx rfl (hb hby at_340) rfl rfl (l' := #[oI p0, oR b7, oR b54, oI (7 : Int32), oR (a_IP_ADDRESS Z), oR (a_IP_ADDRESS Z)]) rfl ?_
      show oP p e below T174 (mkF m 342 #[oI p0, oR b7, oR b54, oI (7 : Int32), oR (a_IP_ADDRESS Z), oR (a_IP_ADDRESS Z)] []) _
      refine XS.aload X174.here hx rfl (hb hby at_342) rfl rfl ?_
      show oP p e below T174 (mkF m 344 #[oI p0, oR b7, oR b54, oI (7 : Int32), oR (a_IP_ADDRESS Z), oR (a_IP_ADDRESS Z)] [(.ref (a_IP_ADDRESS Z))]) _
      refine XS.aloadN X174.here hx rfl (hb hby at_344) rfl rfl ?_
      show oP p e below T174 (mkF m 345 #[oI p0, oR b7, oR b54, oI (7 : Int32), oR (a_IP_ADDRESS Z), oR (a_IP_ADDRESS Z)] [(.ref b54), (.ref (a_IP_ADDRESS Z))]) _
      refine XS.iloadN X174.here hx rfl (hb hby at_345) rfl ?_
      show oP p e below T174 (mkF m 346 #[oI p0, oR b7, oR b54, oI (7 : Int32), oR (a_IP_ADDRESS Z), oR (a_IP_ADDRESS Z)] [(.int (7 : Int32)), (.ref b54), (.ref (a_IP_ADDRESS Z))]) _
      refine own_aaload X174 hx hZ rfl fx175 rfl (j := (7 : Int32)) ⟨by decide, by decide⟩ (v := (.ref (a_IP_ADDRESS Z))) rfl (g := (mkF m 346 #[oI p0, oR b7, oR b54, oI (7 : Int32), oR (a_IP_ADDRESS Z), oR (a_IP_ADDRESS Z)] [(.int (7 : Int32)), (.ref b54), (.ref (a_IP_ADDRESS Z))])) rfl rfl (hb hby at_346) _ ?_
      show oP p e below T174 (mkF m 347 #[oI p0, oR b7, oR b54, oI (7 : Int32), oR (a_IP_ADDRESS Z), oR (a_IP_ADDRESS Z)] [(.ref (a_IP_ADDRESS Z)), (.ref (a_IP_ADDRESS Z))]) _
      refine Jvm.RoadKit.acmp (g := (mkF m 347 #[oI p0, oR b7, oR b54, oI (7 : Int32), oR (a_IP_ADDRESS Z), oR (a_IP_ADDRESS Z)] [(.ref (a_IP_ADDRESS Z)), (.ref (a_IP_ADDRESS Z))])) X174 hx rfl rfl rfl (pc0 := 347) (pc' := 352) (same := true) rfl (hb hby at_347) rfl (decide_eq_true (congrArg Value.ref (rfl : (a_IP_ADDRESS Z) = (a_IP_ADDRESS Z)))) (by decide) (by decide) ?_
      show oP p e below T174 (mkF m 352 #[oI p0, oR b7, oR b54, oI (7 : Int32), oR (a_IP_ADDRESS Z), oR (a_IP_ADDRESS Z)] []) _
      refine XS.aload X174.here hx rfl (hb hby at_352) rfl rfl ?_
      show oP p e below T174 (mkF m 354 #[oI p0, oR b7, oR b54, oI (7 : Int32), oR (a_IP_ADDRESS Z), oR (a_IP_ADDRESS Z)] [(.ref (a_IP_ADDRESS Z))]) _
      refine st176.trans ?_
      show oP p e below T176 (mkF m 357 #[oI p0, oR b7, oR b54, oI (7 : Int32), oR (a_IP_ADDRESS Z), oR (a_IP_ADDRESS Z)] [(.int (0 : Int32))]) _
      refine XS.ifYes X176.here hx rfl (pc0 := 357) (pc' := 362) rfl (hb hby at_357) rfl ((if0 _ _).trans (teq (by decide : (0 : Int32) = (0 : Int32))).1) (by decide) (by decide) ?_
      show oP p e below T176 (mkF m 362 #[oI p0, oR b7, oR b54, oI (7 : Int32), oR (a_IP_ADDRESS Z), oR (a_IP_ADDRESS Z)] []) _
      refine XS.aload X176.here hx rfl (hb hby at_362) rfl rfl ?_
      show oP p e below T176 (mkF m 364 #[oI p0, oR b7, oR b54, oI (7 : Int32), oR (a_IP_ADDRESS Z), oR (a_IP_ADDRESS Z)] [(.ref (a_IP_ADDRESS Z))]) _
      refine st177.trans ?_
      show oP p e below T177 (mkF m 367 #[oI p0, oR b7, oR b54, oI (7 : Int32), oR (a_IP_ADDRESS Z), oR (a_IP_ADDRESS Z)] [(.ref (a_IP_ADDRESS Z))]) _
      refine XS.aload X177.here hx rfl (hb hby at_367) rfl rfl ?_
      show oP p e below T177 (mkF m 369 #[oI p0, oR b7, oR b54, oI (7 : Int32), oR (a_IP_ADDRESS Z), oR (a_IP_ADDRESS Z)] [(.ref (a_IP_ADDRESS Z)), (.ref (a_IP_ADDRESS Z))]) _
      refine Jvm.RoadKit.acmp (g := (mkF m 369 #[oI p0, oR b7, oR b54, oI (7 : Int32), oR (a_IP_ADDRESS Z), oR (a_IP_ADDRESS Z)] [(.ref (a_IP_ADDRESS Z)), (.ref (a_IP_ADDRESS Z))])) X177 hx rfl rfl rfl (pc0 := 369) (pc' := 374) (same := true) rfl (hb hby at_369) rfl (decide_eq_true (congrArg Value.ref (rfl : (a_IP_ADDRESS Z) = (a_IP_ADDRESS Z)))) (by decide) (by decide) ?_
      show oP p e below T177 (mkF m 374 #[oI p0, oR b7, oR b54, oI (7 : Int32), oR (a_IP_ADDRESS Z), oR (a_IP_ADDRESS Z)] []) _
      refine XS.aload X177.here hx rfl (hb hby at_374) rfl rfl ?_
      show oP p e below T177 (mkF m 376 #[oI p0, oR b7, oR b54, oI (7 : Int32), oR (a_IP_ADDRESS Z), oR (a_IP_ADDRESS Z)] [(.ref (a_IP_ADDRESS Z))]) _
      refine st178.trans ?_
      show oP p e below T178 (mkF m 379 #[oI p0, oR b7, oR b54, oI (7 : Int32), oR (a_IP_ADDRESS Z), oR (a_IP_ADDRESS Z)] [(.ref (a_NONE Z))]) _
      refine XS.aload X178.here hx rfl (hb hby at_379) rfl rfl ?_
      show oP p e below T178 (mkF m 381 #[oI p0, oR b7, oR b54, oI (7 : Int32), oR (a_IP_ADDRESS Z), oR (a_IP_ADDRESS Z)] [(.ref (a_IP_ADDRESS Z)), (.ref (a_NONE Z))]) _
      refine st179.trans ?_
      show oP p e below T179 (mkF m 384 #[oI p0, oR b7, oR b54, oI (7 : Int32), oR (a_IP_ADDRESS Z), oR (a_IP_ADDRESS Z)] [(.ref (a_NONE Z)), (.ref (a_NONE Z))]) _
      refine Jvm.RoadKit.acmp (g := (mkF m 384 #[oI p0, oR b7, oR b54, oI (7 : Int32), oR (a_IP_ADDRESS Z), oR (a_IP_ADDRESS Z)] [(.ref (a_NONE Z)), (.ref (a_NONE Z))])) X179 hx rfl rfl rfl (pc0 := 384) (pc' := 389) (same := true) rfl (hb hby at_384) rfl (decide_eq_true (congrArg Value.ref (rfl : (a_NONE Z) = (a_NONE Z)))) (by decide) (by decide) ?_
      show oP p e below T179 (mkF m 389 #[oI p0, oR b7, oR b54, oI (7 : Int32), oR (a_IP_ADDRESS Z), oR (a_IP_ADDRESS Z)] []) _
      refine XS.aload X179.here hx rfl (hb hby at_389) rfl rfl ?_
      show oP p e below T179 (mkF m 391 #[oI p0, oR b7, oR b54, oI (7 : Int32), oR (a_IP_ADDRESS Z), oR (a_IP_ADDRESS Z)] [(.ref (a_IP_ADDRESS Z))]) _
      refine st181.trans ?_
      show oP p e below T181 (mkF m 394 #[oI p0, oR b7, oR b54, oI (7 : Int32), oR (a_IP_ADDRESS Z), oR (a_IP_ADDRESS Z)] [(.int (0 : Int32))]) _
      refine XS.aload X181.here hx rfl (hb hby at_394) rfl rfl ?_
      show oP p e below T181 (mkF m 396 #[oI p0, oR b7, oR b54, oI (7 : Int32), oR (a_IP_ADDRESS Z), oR (a_IP_ADDRESS Z)] [(.ref (a_IP_ADDRESS Z)), (.int (0 : Int32))]) _
      refine XS.aload X181.here hx rfl (hb hby at_396) rfl rfl ?_
      show oP p e below T181 (mkF m 398 #[oI p0, oR b7, oR b54, oI (7 : Int32), oR (a_IP_ADDRESS Z), oR (a_IP_ADDRESS Z)] [(.ref (a_IP_ADDRESS Z)), (.ref (a_IP_ADDRESS Z)), (.int (0 : Int32))]) _
      refine Jvm.RoadKit.acmp (g := (mkF m 398 #[oI p0, oR b7, oR b54, oI (7 : Int32), oR (a_IP_ADDRESS Z), oR (a_IP_ADDRESS Z)] [(.ref (a_IP_ADDRESS Z)), (.ref (a_IP_ADDRESS Z)), (.int (0 : Int32))])) X181 hx rfl rfl rfl (pc0 := 398) (pc' := 405) (same := true) rfl (hb hby at_398) rfl (decide_eq_true (congrArg Value.ref (rfl : (a_IP_ADDRESS Z) = (a_IP_ADDRESS Z)))) (by decide) (by decide) ?_
      show oP p e below T181 (mkF m 405 #[oI p0, oR b7, oR b54, oI (7 : Int32), oR (a_IP_ADDRESS Z), oR (a_IP_ADDRESS Z)] [(.int (0 : Int32))]) _
      refine XS.iconst X181.here hx rfl (hb hby at_405) ?_
      show oP p e below T181 (mkF m 406 #[oI p0, oR b7, oR b54, oI (7 : Int32), oR (a_IP_ADDRESS Z), oR (a_IP_ADDRESS Z)] [(.int (0 : Int32)), (.int (0 : Int32))]) _
      refine XS.icmpNo X181.here hx rfl (hb hby at_406) rfl (teq (by decide : (0 : Int32) = (0 : Int32))).2 ?_
      show oP p e below T181 (mkF m 409 #[oI p0, oR b7, oR b54, oI (7 : Int32), oR (a_IP_ADDRESS Z), oR (a_IP_ADDRESS Z)] []) _
      refine XS.iconst X181.here hx rfl (hb hby at_409) ?_
      show oP p e below T181 (mkF m 410 #[oI p0, oR b7, oR b54, oI (7 : Int32), oR (a_IP_ADDRESS Z), oR (a_IP_ADDRESS Z)] [(.int (1 : Int32))]) _
      refine XS.goto X181.here hx rfl (pc0 := 410) (pc' := 414) rfl (hb hby at_410) (by decide) (by decide) ?_
      show oP p e below T181 (mkF m 414 #[oI p0, oR b7, oR b54, oI (7 : Int32), oR (a_IP_ADDRESS Z), oR (a_IP_ADDRESS Z)] [(.int (1 : Int32))]) _
      exact retN X181 hx (t := .boolean) Bd.returns (by simp) (hb hby at_414) hr
    · show (some (.int (1 : Int32)) : Option Value) = some (.int (1 : Int32)) ∧ Fr n0 _ ∧ Keep h0 T181.heap []
      exact ⟨rfl, N181, Kc181⟩
  · have fx182 := ((((((((((((((((((((((((V53.ext E54).other W56 ne_b7_b54).other W58 ne_b7_b54).other W60 ne_b7_b54).other W62 ne_b7_b54).other W64 ne_b7_b54).other W66 ne_b7_b54).other W68 ne_b7_b54).other W70 ne_b7_b54).other W72 ne_b7_b54).other W74 ne_b7_b54).other W76 ne_b7_b54).other W78 ne_b7_b54).other W80 ne_b7_b54).other W82 ne_b7_b54).other W84 ne_b7_b54).other W86 ne_b7_b54).other W88 ne_b7_b54).other W90 ne_b7_b54).other W92 ne_b7_b54).other W94 ne_b7_b54).other W96 ne_b7_b54).other W98 ne_b7_b54).other W100 ne_b7_b54)
    obtain ⟨lo183, X183, N183⟩ := own_hide X100 N100
    obtain ⟨cq184, kq184, q184a, q184b, q184c⟩ := isOf hZ e100 ((e_a_NOT_IP_ADDRESS hS).ext O100.2)
    obtain ⟨_, _, ⟨T184, L184, k184, n184⟩, -, X184, ⟨Lc184, hQ184, l184, y184, z184⟩, st184⟩ := X183.virtualBack hx (y := (⟨"com/example/menshen/menshen/policy/ConditionOperator", "positive", "()Lcom/example/menshen/menshen/policy/ConditionOperator;"⟩ : MethodName)) (z := (⟨"com/example/menshen/menshen/policy/ConditionOperator", "positive", "()Lcom/example/menshen/menshen/policy/ConditionOperator;"⟩ : MethodName)) hown (mvT hZ (hw _ (List.mem_of_getElem? (i := 51) rfl))) (mvT hZ (hw _ (List.mem_of_getElem? (i := 52) rfl))) (notFace_of_selects (args := #[]) (mvT hZ (hw _ (List.mem_of_getElem? (i := 54) rfl)))) (mvT hZ (hw _ (List.mem_of_getElem? (i := 54) rfl))) (mvT hZ (hw _ (List.mem_of_getElem? (i := 53) rfl))) (by decide) (backOf (W := 0) (rm1r l Z a0 hw hS [] (a_NOT_IP_ADDRESS Z) (a_IP_ADDRESS Z) h100 n0 O100 ((f_a_NOT_IP_ADDRESS_negationOf hS).ext O100.2)) hZ (hw _ (List.mem_of_getElem? (i := 55) rfl)) (hw _ (List.mem_of_getElem? (i := 3) rfl)) (by decide) (by decide)) q184a q184c (g := (mkF m 337 #[oI p0, oR b7, oR b54, oI (8 : Int32), oR (a_NOT_IP_ADDRESS Z), oU] [(.ref (a_NOT_IP_ADDRESS Z))])) rfl (by rw [hml]; rfl) (Steps.refl _) (argsL := []) (rest := []) (lenOf pd_0 rfl) rfl (by show 2 * 0 + _ ≤ _; exact Nat.le_of_eq rfl) (hb hby at_337) (fun _ _ => ⟨rfl, e100, (by decide : 2 + 0 ≤ _), (by decide : 46 + 0 ≤ _)⟩)
    dsimp only [Pt.U, Pt.locs, Pt.cells, Pt.slots] at X184 l184 y184 z184 st184 hQ184
    subst l184 y184 z184
    obtain ⟨v184, N184q, K184q⟩ := hQ184
    have w184 : (fn1r Z (a_NOT_IP_ADDRESS Z) (a_IP_ADDRESS Z)) = (a_IP_ADDRESS Z) := rfl
    rw [w184] at v184
    subst v184
    have N184 := Fr.app N183 N184q
    have O184 := O100.keep K184q all0
    have Kc184 := Kc100.trans K184q all0
    have fx185 := (V100.keep K184q nin0)
    obtain ⟨cq186, kq186, q186a, q186b, q186c⟩ := isOf hZ rfl ((e_a_IP_ADDRESS hS).ext O184.2)
    obtain ⟨_, _, ⟨T186, L186, k186, n186⟩, -, X186, ⟨Lc186, hQ186, l186, y186, z186⟩, st186⟩ := X184.virtualBack hx (y := (⟨"com/example/menshen/menshen/policy/ConditionOperator", "isNegated", "()Z"⟩ : MethodName)) (z := (⟨"com/example/menshen/menshen/policy/ConditionOperator", "isNegated", "()Z"⟩ : MethodName)) hown (mvT hZ (hw _ (List.mem_of_getElem? (i := 58) rfl))) (mvT hZ (hw _ (List.mem_of_getElem? (i := 59) rfl))) (notFace_of_selects (args := #[]) (mvT hZ (hw _ (List.mem_of_getElem? (i := 61) rfl)))) (mvT hZ (hw _ (List.mem_of_getElem? (i := 61) rfl))) (mvT hZ (hw _ (List.mem_of_getElem? (i := 60) rfl))) (by decide) (backOf (W := 0) (rm2n l Z a0 hw hS [] (a_IP_ADDRESS Z) T184.heap n0 O184 ((f_a_IP_ADDRESS_negationOf hS).ext O184.2)) hZ (hw _ (List.mem_of_getElem? (i := 62) rfl)) (hw _ (List.mem_of_getElem? (i := 3) rfl)) (by decide) (by decide)) q186a q186c (g := (mkF m 354 #[oI p0, oR b7, oR b54, oI (8 : Int32), oR (a_NOT_IP_ADDRESS Z), oR (a_IP_ADDRESS Z)] [(.ref (a_IP_ADDRESS Z))])) rfl (by rw [hml]; rfl) (Steps.refl _) (argsL := []) (rest := []) (lenOf pd_1 rfl) rfl (by show 2 * 0 + _ ≤ _; exact Nat.le_of_eq rfl) (hb hby at_354) (fun _ _ => ⟨rfl, rfl, (by decide : 2 + 0 ≤ _), (by decide : 46 + 0 ≤ _)⟩)
    dsimp only [Pt.U, Pt.locs, Pt.cells, Pt.slots] at X186 l186 y186 z186 st186 hQ186
    subst l186 y186 z186
    obtain ⟨v186, N186q, K186q⟩ := hQ186
    have w186 : (fn2n Z (a_IP_ADDRESS Z)) = (0 : Int32) := rfl
    rw [w186] at v186
    subst v186
    have N186 := Fr.app N184 N186q
    have O186 := O184.keep K186q all0
    have Kc186 := Kc184.trans K186q all0
    obtain ⟨cq187, kq187, q187a, q187b, q187c⟩ := isOf hZ rfl ((e_a_IP_ADDRESS hS).ext O186.2)
    obtain ⟨_, _, ⟨T187, L187, k187, n187⟩, -, X187, ⟨Lc187, hQ187, l187, y187, z187⟩, st187⟩ := X186.virtualBack hx (y := (⟨"com/example/menshen/menshen/policy/ConditionOperator", "positive", "()Lcom/example/menshen/menshen/policy/ConditionOperator;"⟩ : MethodName)) (z := (⟨"com/example/menshen/menshen/policy/ConditionOperator", "positive", "()Lcom/example/menshen/menshen/policy/ConditionOperator;"⟩ : MethodName)) hown (mvT hZ (hw _ (List.mem_of_getElem? (i := 51) rfl))) (mvT hZ (hw _ (List.mem_of_getElem? (i := 52) rfl))) (notFace_of_selects (args := #[]) (mvT hZ (hw _ (List.mem_of_getElem? (i := 54) rfl)))) (mvT hZ (hw _ (List.mem_of_getElem? (i := 54) rfl))) (mvT hZ (hw _ (List.mem_of_getElem? (i := 53) rfl))) (by decide) (backOf (W := 0) (rm1n l Z a0 hw hS [] (a_IP_ADDRESS Z) T186.heap n0 O186 ((f_a_IP_ADDRESS_negationOf hS).ext O186.2)) hZ (hw _ (List.mem_of_getElem? (i := 55) rfl)) (hw _ (List.mem_of_getElem? (i := 3) rfl)) (by decide) (by decide)) q187a q187c (g := (mkF m 364 #[oI p0, oR b7, oR b54, oI (8 : Int32), oR (a_NOT_IP_ADDRESS Z), oR (a_IP_ADDRESS Z)] [(.ref (a_IP_ADDRESS Z))])) rfl (by rw [hml]; rfl) (Steps.refl _) (argsL := []) (rest := []) (lenOf pd_0 rfl) rfl (by show 2 * 0 + _ ≤ _; exact Nat.le_of_eq rfl) (hb hby at_364) (fun _ _ => ⟨rfl, rfl, (by decide : 2 + 0 ≤ _), (by decide : 46 + 0 ≤ _)⟩)
    dsimp only [Pt.U, Pt.locs, Pt.cells, Pt.slots] at X187 l187 y187 z187 st187 hQ187
    subst l187 y187 z187
    obtain ⟨v187, N187q, K187q⟩ := hQ187
    have w187 : (fn1n Z (a_IP_ADDRESS Z)) = (a_IP_ADDRESS Z) := rfl
    rw [w187] at v187
    subst v187
    have N187 := Fr.app N186 N187q
    have O187 := O186.keep K187q all0
    have Kc187 := Kc186.trans K187q all0
    obtain ⟨cq188, kq188, q188a, q188b, q188c⟩ := isOf hZ rfl ((e_a_IP_ADDRESS hS).ext O187.2)
    obtain ⟨_, _, ⟨T188, L188, k188, n188⟩, -, X188, ⟨Lc188, hQ188, l188, y188, z188⟩, st188⟩ := X187.virtualBack hx (y := (⟨"com/example/menshen/menshen/policy/ConditionOperator", "literals", "()Lcom/example/menshen/menshen/policy/ConditionOperator$Literals;"⟩ : MethodName)) (z := (⟨"com/example/menshen/menshen/policy/ConditionOperator", "literals", "()Lcom/example/menshen/menshen/policy/ConditionOperator$Literals;"⟩ : MethodName)) hown (mvT hZ (hw _ (List.mem_of_getElem? (i := 63) rfl))) (mvT hZ (hw _ (List.mem_of_getElem? (i := 64) rfl))) (notFace_of_selects (args := #[]) (mvT hZ (hw _ (List.mem_of_getElem? (i := 66) rfl)))) (mvT hZ (hw _ (List.mem_of_getElem? (i := 66) rfl))) (mvT hZ (hw _ (List.mem_of_getElem? (i := 65) rfl))) (by decide) (backOf (W := 0) (rm3 l Z a0 hw hS [] (a_IP_ADDRESS Z) (a_NONE Z) T187.heap n0 O187 ((f_a_IP_ADDRESS_literals hS).ext O187.2)) hZ (hw _ (List.mem_of_getElem? (i := 67) rfl)) (hw _ (List.mem_of_getElem? (i := 3) rfl)) (by decide) (by decide)) q188a q188c (g := (mkF m 376 #[oI p0, oR b7, oR b54, oI (8 : Int32), oR (a_NOT_IP_ADDRESS Z), oR (a_IP_ADDRESS Z)] [(.ref (a_IP_ADDRESS Z))])) rfl (by rw [hml]; rfl) (Steps.refl _) (argsL := []) (rest := []) (lenOf pd_2 rfl) rfl (by show 2 * 0 + _ ≤ _; exact Nat.le_of_eq rfl) (hb hby at_376) (fun _ _ => ⟨rfl, rfl, (by decide : 2 + 0 ≤ _), (by decide : 46 + 0 ≤ _)⟩)
    dsimp only [Pt.U, Pt.locs, Pt.cells, Pt.slots] at X188 l188 y188 z188 st188 hQ188
    subst l188 y188 z188
    obtain ⟨v188, N188q, K188q⟩ := hQ188
    have w188 : (fn3 Z (a_IP_ADDRESS Z) (a_NONE Z)) = (a_NONE Z) := rfl
    rw [w188] at v188
    subst v188
    have N188 := Fr.app N187 N188q
    have O188 := O187.keep K188q all0
    have Kc188 := Kc187.trans K188q all0
    obtain ⟨cq189, kq189, q189a, q189b, q189c⟩ := isOf hZ rfl ((e_a_NOT_IP_ADDRESS hS).ext O188.2)
    obtain ⟨_, _, ⟨T189, L189, k189, n189⟩, -, X189, ⟨Lc189, hQ189, l189, y189, z189⟩, st189⟩ := X188.virtualBack hx (y := (⟨"com/example/menshen/menshen/policy/ConditionOperator", "literals", "()Lcom/example/menshen/menshen/policy/ConditionOperator$Literals;"⟩ : MethodName)) (z := (⟨"com/example/menshen/menshen/policy/ConditionOperator", "literals", "()Lcom/example/menshen/menshen/policy/ConditionOperator$Literals;"⟩ : MethodName)) hown (mvT hZ (hw _ (List.mem_of_getElem? (i := 63) rfl))) (mvT hZ (hw _ (List.mem_of_getElem? (i := 64) rfl))) (notFace_of_selects (args := #[]) (mvT hZ (hw _ (List.mem_of_getElem? (i := 66) rfl)))) (mvT hZ (hw _ (List.mem_of_getElem? (i := 66) rfl))) (mvT hZ (hw _ (List.mem_of_getElem? (i := 65) rfl))) (by decide) (backOf (W := 1) (rm3 l Z a0 hw hS [] (a_NOT_IP_ADDRESS Z) (a_NONE Z) T188.heap n0 O188 ((f_a_NOT_IP_ADDRESS_literals hS).ext O188.2)) hZ (hw _ (List.mem_of_getElem? (i := 67) rfl)) (hw _ (List.mem_of_getElem? (i := 3) rfl)) (by decide) (by decide)) q189a q189c (g := (mkF m 381 #[oI p0, oR b7, oR b54, oI (8 : Int32), oR (a_NOT_IP_ADDRESS Z), oR (a_IP_ADDRESS Z)] [(.ref (a_NOT_IP_ADDRESS Z)), (.ref (a_NONE Z))])) rfl (by rw [hml]; rfl) (Steps.refl _) (argsL := []) (rest := [(.ref (a_NONE Z))]) (lenOf pd_2 rfl) rfl (by show 2 * 0 + _ ≤ _; exact Nat.le_of_eq rfl) (hb hby at_381) (fun _ _ => ⟨rfl, rfl, (by decide : 2 + 0 ≤ _), (by decide : 46 + 0 ≤ _)⟩)
    dsimp only [Pt.U, Pt.locs, Pt.cells, Pt.slots] at X189 l189 y189 z189 st189 hQ189
    subst l189 y189 z189
    obtain ⟨v189, N189q, K189q⟩ := hQ189
    have w189 : (fn3 Z (a_NOT_IP_ADDRESS Z) (a_NONE Z)) = (a_NONE Z) := rfl
    rw [w189] at v189
    subst v189
    have N189 := Fr.app N188 N189q
    have O189 := O188.keep K189q all0
    have Kc189 := Kc188.trans K189q all0
    obtain ⟨lo190, X190, N190⟩ := own_hide X189 N189
    obtain ⟨cq191, kq191, q191a, q191b, q191c⟩ := isOf hZ rfl ((e_a_NOT_IP_ADDRESS hS).ext O189.2)
    obtain ⟨_, _, ⟨T191, L191, k191, n191⟩, -, X191, ⟨Lc191, hQ191, l191, y191, z191⟩, st191⟩ := X190.virtualBack hx (y := (⟨"com/example/menshen/menshen/policy/ConditionOperator", "isNegated", "()Z"⟩ : MethodName)) (z := (⟨"com/example/menshen/menshen/policy/ConditionOperator", "isNegated", "()Z"⟩ : MethodName)) hown (mvT hZ (hw _ (List.mem_of_getElem? (i := 58) rfl))) (mvT hZ (hw _ (List.mem_of_getElem? (i := 59) rfl))) (notFace_of_selects (args := #[]) (mvT hZ (hw _ (List.mem_of_getElem? (i := 61) rfl)))) (mvT hZ (hw _ (List.mem_of_getElem? (i := 61) rfl))) (mvT hZ (hw _ (List.mem_of_getElem? (i := 60) rfl))) (by decide) (backOf (W := 0) (rm2r l Z a0 hw hS [] (a_NOT_IP_ADDRESS Z) (a_IP_ADDRESS Z) T189.heap n0 O189 ((f_a_NOT_IP_ADDRESS_negationOf hS).ext O189.2)) hZ (hw _ (List.mem_of_getElem? (i := 62) rfl)) (hw _ (List.mem_of_getElem? (i := 3) rfl)) (by decide) (by decide)) q191a q191c (g := (mkF m 391 #[oI p0, oR b7, oR b54, oI (8 : Int32), oR (a_NOT_IP_ADDRESS Z), oR (a_IP_ADDRESS Z)] [(.ref (a_NOT_IP_ADDRESS Z))])) rfl (by rw [hml]; rfl) (Steps.refl _) (argsL := []) (rest := []) (lenOf pd_1 rfl) rfl (by show 2 * 0 + _ ≤ _; exact Nat.le_of_eq rfl) (hb hby at_391) (fun _ _ => ⟨rfl, rfl, (by decide : 2 + 0 ≤ _), (by decide : 46 + 0 ≤ _)⟩)
    dsimp only [Pt.U, Pt.locs, Pt.cells, Pt.slots] at X191 l191 y191 z191 st191 hQ191
    subst l191 y191 z191
    obtain ⟨v191, N191q, K191q⟩ := hQ191
    have w191 : (fn2r Z (a_NOT_IP_ADDRESS Z) (a_IP_ADDRESS Z)) = (1 : Int32) := rfl
    rw [w191] at v191
    subst v191
    have N191 := Fr.app N190 N191q
    have O191 := O189.keep K191q all0
    have Kc191 := Kc189.trans K191q all0
    obtain ⟨fs, hr, hrun, hended, hW, hsame⟩ := X191.leave (v := some (.int (1 : Int32))) (fun h => by rw [Bd.returns] at h; cases h)
    refine ⟨_, _, pre101 _ ?_, hrun, hended, _, _, rfl, ?_, ⟨_, rfl⟩, hW, hsame.mono (by decide) (by decide)⟩
    · show oP p e below T100 (mkF m 329 #[oI p0, oR b7, oR b54, oU, oU, oU] [(.int (8 : Int32))]) _
      refine XS.istoreN X100.here hx rfl (hb hby at_329) rfl (l' := #[oI p0, oR b7, oR b54, oI (8 : Int32), oU, oU]) rfl ?_
      show oP p e below T100 (mkF m 330 #[oI p0, oR b7, oR b54, oI (8 : Int32), oU, oU] []) _
      refine XS.aloadN X100.here hx rfl (hb hby at_330) rfl rfl ?_
      show oP p e below T100 (mkF m 331 #[oI p0, oR b7, oR b54, oI (8 : Int32), oU, oU] [(.ref b7)]) _
      refine XS.iloadN X100.here hx rfl (hb hby at_331) rfl ?_
      show oP p e below T100 (mkF m 332 #[oI p0, oR b7, oR b54, oI (8 : Int32), oU, oU] [(.int (8 : Int32)), (.ref b7)]) _
      refine own_aaload X100 hx hZ e100 fx182 rfl (j := (8 : Int32)) ⟨by decide, by decide⟩ (v := (.ref (a_NOT_IP_ADDRESS Z))) rfl (g := (mkF m 332 #[oI p0, oR b7, oR b54, oI (8 : Int32), oU, oU] [(.int (8 : Int32)), (.ref b7)])) rfl rfl (hb hby at_332) _ ?_
      show oP p e below T100 (mkF m 333 #[oI p0, oR b7, oR b54, oI (8 : Int32), oU, oU] [(.ref (a_NOT_IP_ADDRESS Z))]) _
      refine XS.astore X100.here hx rfl (hb hby at_333) rfl rfl (l' := #[oI p0, oR b7, oR b54, oI (8 : Int32), oR (a_NOT_IP_ADDRESS Z), oU]) rfl ?_
      show oP p e below T100 (mkF m 335 #[oI p0, oR b7, oR b54, oI (8 : Int32), oR (a_NOT_IP_ADDRESS Z), oU] []) _
      refine XS.aload X100.here hx rfl (hb hby at_335) rfl rfl ?_
      show oP p e below T100 (mkF m 337 #[oI p0, oR b7, oR b54, oI (8 : Int32), oR (a_NOT_IP_ADDRESS Z), oU] [(.ref (a_NOT_IP_ADDRESS Z))]) _
      refine st184.trans ?_
      show oP p e below T184 (mkF m 340 #[oI p0, oR b7, oR b54, oI (8 : Int32), oR (a_NOT_IP_ADDRESS Z), oU] [(.ref (a_IP_ADDRESS Z))]) _
      refine XS.astore X184.here hx rfl (hb hby at_340) rfl rfl (l' := #[oI p0, oR b7, oR b54, oI (8 : Int32), oR (a_NOT_IP_ADDRESS Z), oR (a_IP_ADDRESS Z)]) rfl ?_
      show oP p e below T184 (mkF m 342 #[oI p0, oR b7, oR b54, oI (8 : Int32), oR (a_NOT_IP_ADDRESS Z), oR (a_IP_ADDRESS Z)] []) _
      refine XS.aload X184.here hx rfl (hb hby at_342) rfl rfl ?_
      show oP p e below T184 (mkF m 344 #[oI p0, oR b7, oR b54, oI (8 : Int32), oR (a_NOT_IP_ADDRESS Z), oR (a_IP_ADDRESS Z)] [(.ref (a_IP_ADDRESS Z))]) _
      refine XS.aloadN X184.here hx rfl (hb hby at_344) rfl rfl ?_
      show oP p e below T184 (mkF m 345 #[oI p0, oR b7, oR b54, oI (8 : Int32), oR (a_NOT_IP_ADDRESS Z), oR (a_IP_ADDRESS Z)] [(.ref b54), (.ref (a_IP_ADDRESS Z))]) _
      refine XS.iloadN X184.here hx rfl (hb hby at_345) rfl ?_
      show oP p e below T184 (mkF m 346 #[oI p0, oR b7, oR b54, oI (8 : Int32), oR (a_NOT_IP_ADDRESS Z), oR (a_IP_ADDRESS Z)] [(.int (8 : Int32)), (.ref b54), (.ref (a_IP_ADDRESS Z))]) _
      refine own_aaload X184 hx hZ rfl fx185 rfl (j := (8 : Int32)) ⟨by decide, by decide⟩ (v := (.ref (a_IP_ADDRESS Z))) rfl (g := (mkF m 346 #[oI p0, oR b7, oR b54, oI (8 : Int32), oR (a_NOT_IP_ADDRESS Z), oR (a_IP_ADDRESS Z)] [(.int (8 : Int32)), (.ref b54), (.ref (a_IP_ADDRESS Z))])) rfl rfl (hb hby at_346) _ ?_
      show oP p e below T184 (mkF m 347 #[oI p0, oR b7, oR b54, oI (8 : Int32), oR (a_NOT_IP_ADDRESS Z), oR (a_IP_ADDRESS Z)] [(.ref (a_IP_ADDRESS Z)), (.ref (a_IP_ADDRESS Z))]) _
      refine Jvm.RoadKit.acmp (g := (mkF m 347 #[oI p0, oR b7, oR b54, oI (8 : Int32), oR (a_NOT_IP_ADDRESS Z), oR (a_IP_ADDRESS Z)] [(.ref (a_IP_ADDRESS Z)), (.ref (a_IP_ADDRESS Z))])) X184 hx rfl rfl rfl (pc0 := 347) (pc' := 352) (same := true) rfl (hb hby at_347) rfl (decide_eq_true (congrArg Value.ref (rfl : (a_IP_ADDRESS Z) = (a_IP_ADDRESS Z)))) (by decide) (by decide) ?_
      show oP p e below T184 (mkF m 352 #[oI p0, oR b7, oR b54, oI (8 : Int32), oR (a_NOT_IP_ADDRESS Z), oR (a_IP_ADDRESS Z)] []) _
      refine XS.aload X184.here hx rfl (hb hby at_352) rfl rfl ?_
      show oP p e below T184 (mkF m 354 #[oI p0, oR b7, oR b54, oI (8 : Int32), oR (a_NOT_IP_ADDRESS Z), oR (a_IP_ADDRESS Z)] [(.ref (a_IP_ADDRESS Z))]) _
      refine st186.trans ?_
      show oP p e below T186 (mkF m 357 #[oI p0, oR b7, oR b54, oI (8 : Int32), oR (a_NOT_IP_ADDRESS Z), oR (a_IP_ADDRESS Z)] [(.int (0 : Int32))]) _
      refine XS.ifYes X186.here hx rfl (pc0 := 357) (pc' := 362) rfl (hb hby at_357) rfl ((if0 _ _).trans (teq (by decide : (0 : Int32) = (0 : Int32))).1) (by decide) (by decide) ?_
      show oP p e below T186 (mkF m 362 #[oI p0, oR b7, oR b54, oI (8 : Int32), oR (a_NOT_IP_ADDRESS Z), oR (a_IP_ADDRESS Z)] []) _
      refine XS.aload X186.here hx rfl (hb hby at_362) rfl rfl ?_
      show oP p e below T186 (mkF m 364 #[oI p0, oR b7, oR b54, oI (8 : Int32), oR (a_NOT_IP_ADDRESS Z), oR (a_IP_ADDRESS Z)] [(.ref (a_IP_ADDRESS Z))]) _
      refine st187.trans ?_
      show oP p e below T187 (mkF m 367 #[oI p0, oR b7, oR b54, oI (8 : Int32), oR (a_NOT_IP_ADDRESS Z), oR (a_IP_ADDRESS Z)] [(.ref (a_IP_ADDRESS Z))]) _
      refine XS.aload X187.here hx rfl (hb hby at_367) rfl rfl ?_
      show oP p e below T187 (mkF m 369 #[oI p0, oR b7, oR b54, oI (8 : Int32), oR (a_NOT_IP_ADDRESS Z), oR (a_IP_ADDRESS Z)] [(.ref (a_IP_ADDRESS Z)), (.ref (a_IP_ADDRESS Z))]) _
      refine Jvm.RoadKit.acmp (g := (mkF m 369 #[oI p0, oR b7, oR b54, oI (8 : Int32), oR (a_NOT_IP_ADDRESS Z), oR (a_IP_ADDRESS Z)] [(.ref (a_IP_ADDRESS Z)), (.ref (a_IP_ADDRESS Z))])) X187 hx rfl rfl rfl (pc0 := 369) (pc' := 374) (same := true) rfl (hb hby at_369) rfl (decide_eq_true (congrArg Value.ref (rfl : (a_IP_ADDRESS Z) = (a_IP_ADDRESS Z)))) (by decide) (by decide) ?_
      show oP p e below T187 (mkF m 374 #[oI p0, oR b7, oR b54, oI (8 : Int32), oR (a_NOT_IP_ADDRESS Z), oR (a_IP_ADDRESS Z)] []) _
      refine XS.aload X187.here hx rfl (hb hby at_374) rfl rfl ?_
      show oP p e below T187 (mkF m 376 #[oI p0, oR b7, oR b54, oI (8 : Int32), oR (a_NOT_IP_ADDRESS Z), oR (a_IP_ADDRESS Z)] [(.ref (a_IP_ADDRESS Z))]) _
      refine st188.trans ?_
      show oP p e below T188 (mkF m 379 #[oI p0, oR b7, oR b54, oI (8 : Int32), oR (a_NOT_IP_ADDRESS Z), oR (a_IP_ADDRESS Z)] [(.ref (a_NONE Z))]) _
      refine XS.aload X188.here hx rfl (hb hby at_379) rfl rfl ?_
      show oP p e below T188 (mkF m 381 #[oI p0, oR b7, oR b54, oI (8 : Int32), oR (a_NOT_IP_ADDRESS Z), oR (a_IP_ADDRESS Z)] [(.ref (a_NOT_IP_ADDRESS Z)), (.ref (a_NONE Z))]) _
      refine st189.trans ?_
      show oP p e below T189 (mkF m 384 #[oI p0, oR b7, oR b54, oI (8 : Int32), oR (a_NOT_IP_ADDRESS Z), oR (a_IP_ADDRESS Z)] [(.ref (a_NONE Z)), (.ref (a_NONE Z))]) _
      refine Jvm.RoadKit.acmp (g := (mkF m 384 #[oI p0, oR b7, oR b54, oI (8 : Int32), oR (a_NOT_IP_ADDRESS Z), oR (a_IP_ADDRESS Z)] [(.ref (a_NONE Z)), (.ref (a_NONE Z))])) X189 hx rfl rfl rfl (pc0 := 384) (pc' := 389) (same := true) rfl (hb hby at_384) rfl (decide_eq_true (congrArg Value.ref (rfl : (a_NONE Z) = (a_NONE Z)))) (by decide) (by decide) ?_
      show oP p e below T189 (mkF m 389 #[oI p0, oR b7, oR b54, oI (8 : Int32), oR (a_NOT_IP_ADDRESS Z), oR (a_IP_ADDRESS Z)] []) _
      refine XS.aload X189.here hx rfl (hb hby at_389) rfl rfl ?_
      show oP p e below T189 (mkF m 391 #[oI p0, oR b7, oR b54, oI (8 : Int32), oR (a_NOT_IP_ADDRESS Z), oR (a_IP_ADDRESS Z)] [(.ref (a_NOT_IP_ADDRESS Z))]) _
      refine st191.trans ?_
      show oP p e below T191 (mkF m 394 #[oI p0, oR b7, oR b54, oI (8 : Int32), oR (a_NOT_IP_ADDRESS Z), oR (a_IP_ADDRESS Z)] [(.int (1 : Int32))]) _
      refine XS.aload X191.here hx rfl (hb hby at_394) rfl rfl ?_
      show oP p e below T191 (mkF m 396 #[oI p0, oR b7, oR b54, oI (8 : Int32), oR (a_NOT_IP_ADDRESS Z), oR (a_IP_ADDRESS Z)] [(.ref (a_IP_ADDRESS Z)), (.int (1 : Int32))]) _
      refine XS.aload X191.here hx rfl (hb hby at_396) rfl rfl ?_
      show oP p e below T191 (mkF m 398 #[oI p0, oR b7, oR b54, oI (8 : Int32), oR (a_NOT_IP_ADDRESS Z), oR (a_IP_ADDRESS Z)] [(.ref (a_NOT_IP_ADDRESS Z)), (.ref (a_IP_ADDRESS Z)), (.int (1 : Int32))]) _
      refine Jvm.RoadKit.acmp (g := (mkF m 398 #[oI p0, oR b7, oR b54, oI (8 : Int32), oR (a_NOT_IP_ADDRESS Z), oR (a_IP_ADDRESS Z)] [(.ref (a_NOT_IP_ADDRESS Z)), (.ref (a_IP_ADDRESS Z)), (.int (1 : Int32))])) X191 hx rfl rfl rfl (pc0 := 398) (pc' := 401) (same := false) rfl (hb hby at_398) rfl (decide_eq_false fun q => ((f_a_IP_ADDRESS_ordinal hS).ne (f_a_NOT_IP_ADDRESS_ordinal hS) (by decide)) (Value.ref.inj q)) (by decide) (by decide) ?_
      show oP p e below T191 (mkF m 401 #[oI p0, oR b7, oR b54, oI (8 : Int32), oR (a_NOT_IP_ADDRESS Z), oR (a_IP_ADDRESS Z)] [(.int (1 : Int32))]) _
      refine XS.iconst X191.here hx rfl (hb hby at_401) ?_
      show oP p e below T191 (mkF m 402 #[oI p0, oR b7, oR b54, oI (8 : Int32), oR (a_NOT_IP_ADDRESS Z), oR (a_IP_ADDRESS Z)] [(.int (1 : Int32)), (.int (1 : Int32))]) _
      refine XS.goto X191.here hx rfl (pc0 := 402) (pc' := 406) rfl (hb hby at_402) (by decide) (by decide) ?_
      show oP p e below T191 (mkF m 406 #[oI p0, oR b7, oR b54, oI (8 : Int32), oR (a_NOT_IP_ADDRESS Z), oR (a_IP_ADDRESS Z)] [(.int (1 : Int32)), (.int (1 : Int32))]) _
      refine XS.icmpNo X191.here hx rfl (hb hby at_406) rfl (teq (by decide : (1 : Int32) = (1 : Int32))).2 ?_
      show oP p e below T191 (mkF m 409 #[oI p0, oR b7, oR b54, oI (8 : Int32), oR (a_NOT_IP_ADDRESS Z), oR (a_IP_ADDRESS Z)] []) _
      refine XS.iconst X191.here hx rfl (hb hby at_409) ?_
      show oP p e below T191 (mkF m 410 #[oI p0, oR b7, oR b54, oI (8 : Int32), oR (a_NOT_IP_ADDRESS Z), oR (a_IP_ADDRESS Z)] [(.int (1 : Int32))]) _
      refine XS.goto X191.here hx rfl (pc0 := 410) (pc' := 414) rfl (hb hby at_410) (by decide) (by decide) ?_
      show oP p e below T191 (mkF m 414 #[oI p0, oR b7, oR b54, oI (8 : Int32), oR (a_NOT_IP_ADDRESS Z), oR (a_IP_ADDRESS Z)] [(.int (1 : Int32))]) _
      exact retN X191 hx (t := .boolean) Bd.returns (by simp) (hb hby at_414) hr
    · show (some (.int (1 : Int32)) : Option Value) = some (.int (1 : Int32)) ∧ Fr n0 _ ∧ Keep h0 T191.heap []
      exact ⟨rfl, N191, Kc191⟩
  · have fx192 := ((((((((((((((((((((((((V53.ext E54).other W56 ne_b7_b54).other W58 ne_b7_b54).other W60 ne_b7_b54).other W62 ne_b7_b54).other W64 ne_b7_b54).other W66 ne_b7_b54).other W68 ne_b7_b54).other W70 ne_b7_b54).other W72 ne_b7_b54).other W74 ne_b7_b54).other W76 ne_b7_b54).other W78 ne_b7_b54).other W80 ne_b7_b54).other W82 ne_b7_b54).other W84 ne_b7_b54).other W86 ne_b7_b54).other W88 ne_b7_b54).other W90 ne_b7_b54).other W92 ne_b7_b54).other W94 ne_b7_b54).other W96 ne_b7_b54).other W98 ne_b7_b54).other W100 ne_b7_b54)
    obtain ⟨lo193, X193, N193⟩ := own_hide X100 N100
    obtain ⟨cq194, kq194, q194a, q194b, q194c⟩ := isOf hZ e100 ((e_a_NUMERIC_EQUALS hS).ext O100.2)
    obtain ⟨_, _, ⟨T194, L194, k194, n194⟩, -, X194, ⟨Lc194, hQ194, l194, y194, z194⟩, st194⟩ := X193.virtualBack hx (y := (⟨"com/example/menshen/menshen/policy/ConditionOperator", "positive", "()Lcom/example/menshen/menshen/policy/ConditionOperator;"⟩ : MethodName)) (z := (⟨"com/example/menshen/menshen/policy/ConditionOperator", "positive", "()Lcom/example/menshen/menshen/policy/ConditionOperator;"⟩ : MethodName)) hown (mvT hZ (hw _ (List.mem_of_getElem? (i := 51) rfl))) (mvT hZ (hw _ (List.mem_of_getElem? (i := 52) rfl))) (notFace_of_selects (args := #[]) (mvT hZ (hw _ (List.mem_of_getElem? (i := 54) rfl)))) (mvT hZ (hw _ (List.mem_of_getElem? (i := 54) rfl))) (mvT hZ (hw _ (List.mem_of_getElem? (i := 53) rfl))) (by decide) (backOf (W := 0) (rm1n l Z a0 hw hS [] (a_NUMERIC_EQUALS Z) h100 n0 O100 ((f_a_NUMERIC_EQUALS_negationOf hS).ext O100.2)) hZ (hw _ (List.mem_of_getElem? (i := 55) rfl)) (hw _ (List.mem_of_getElem? (i := 3) rfl)) (by decide) (by decide)) q194a q194c (g := (mkF m 337 #[oI p0, oR b7, oR b54, oI (9 : Int32), oR (a_NUMERIC_EQUALS Z), oU] [(.ref (a_NUMERIC_EQUALS Z))])) rfl (by rw [hml]; rfl) (Steps.refl _) (argsL := []) (rest := []) (lenOf pd_0 rfl) rfl (by show 2 * 0 + _ ≤ _; exact Nat.le_of_eq rfl) (hb hby at_337) (fun _ _ => ⟨rfl, e100, (by decide : 2 + 0 ≤ _), (by decide : 46 + 0 ≤ _)⟩)
    dsimp only [Pt.U, Pt.locs, Pt.cells, Pt.slots] at X194 l194 y194 z194 st194 hQ194
    subst l194 y194 z194
    obtain ⟨v194, N194q, K194q⟩ := hQ194
    have w194 : (fn1n Z (a_NUMERIC_EQUALS Z)) = (a_NUMERIC_EQUALS Z) := rfl
    rw [w194] at v194
    subst v194
    have N194 := Fr.app N193 N194q
    have O194 := O100.keep K194q all0
    have Kc194 := Kc100.trans K194q all0
    have fx195 := (V100.keep K194q nin0)
    obtain ⟨cq196, kq196, q196a, q196b, q196c⟩ := isOf hZ rfl ((e_a_NUMERIC_EQUALS hS).ext O194.2)
    obtain ⟨_, _, ⟨T196, L196, k196, n196⟩, -, X196, ⟨Lc196, hQ196, l196, y196, z196⟩, st196⟩ := X194.virtualBack hx (y := (⟨"com/example/menshen/menshen/policy/ConditionOperator", "isNegated", "()Z"⟩ : MethodName)) (z := (⟨"com/example/menshen/menshen/policy/ConditionOperator", "isNegated", "()Z"⟩ : MethodName)) hown (mvT hZ (hw _ (List.mem_of_getElem? (i := 58) rfl))) (mvT hZ (hw _ (List.mem_of_getElem? (i := 59) rfl))) (notFace_of_selects (args := #[]) (mvT hZ (hw _ (List.mem_of_getElem? (i := 61) rfl)))) (mvT hZ (hw _ (List.mem_of_getElem? (i := 61) rfl))) (mvT hZ (hw _ (List.mem_of_getElem? (i := 60) rfl))) (by decide) (backOf (W := 0) (rm2n l Z a0 hw hS [] (a_NUMERIC_EQUALS Z) T194.heap n0 O194 ((f_a_NUMERIC_EQUALS_negationOf hS).ext O194.2)) hZ (hw _ (List.mem_of_getElem? (i := 62) rfl)) (hw _ (List.mem_of_getElem? (i := 3) rfl)) (by decide) (by decide)) q196a q196c (g := (mkF m 354 #[oI p0, oR b7, oR b54, oI (9 : Int32), oR (a_NUMERIC_EQUALS Z), oR (a_NUMERIC_EQUALS Z)] [(.ref (a_NUMERIC_EQUALS Z))])) rfl (by rw [hml]; rfl) (Steps.refl _) (argsL := []) (rest := []) (lenOf pd_1 rfl) rfl (by show 2 * 0 + _ ≤ _; exact Nat.le_of_eq rfl) (hb hby at_354) (fun _ _ => ⟨rfl, rfl, (by decide : 2 + 0 ≤ _), (by decide : 46 + 0 ≤ _)⟩)
    dsimp only [Pt.U, Pt.locs, Pt.cells, Pt.slots] at X196 l196 y196 z196 st196 hQ196
    subst l196 y196 z196
    obtain ⟨v196, N196q, K196q⟩ := hQ196
    have w196 : (fn2n Z (a_NUMERIC_EQUALS Z)) = (0 : Int32) := rfl
    rw [w196] at v196
    subst v196
    have N196 := Fr.app N194 N196q
    have O196 := O194.keep K196q all0
    have Kc196 := Kc194.trans K196q all0
    obtain ⟨cq197, kq197, q197a, q197b, q197c⟩ := isOf hZ rfl ((e_a_NUMERIC_EQUALS hS).ext O196.2)
    obtain ⟨_, _, ⟨T197, L197, k197, n197⟩, -, X197, ⟨Lc197, hQ197, l197, y197, z197⟩, st197⟩ := X196.virtualBack hx (y := (⟨"com/example/menshen/menshen/policy/ConditionOperator", "positive", "()Lcom/example/menshen/menshen/policy/ConditionOperator;"⟩ : MethodName)) (z := (⟨"com/example/menshen/menshen/policy/ConditionOperator", "positive", "()Lcom/example/menshen/menshen/policy/ConditionOperator;"⟩ : MethodName)) hown (mvT hZ (hw _ (List.mem_of_getElem? (i := 51) rfl))) (mvT hZ (hw _ (List.mem_of_getElem? (i := 52) rfl))) (notFace_of_selects (args := #[]) (mvT hZ (hw _ (List.mem_of_getElem? (i := 54) rfl)))) (mvT hZ (hw _ (List.mem_of_getElem? (i := 54) rfl))) (mvT hZ (hw _ (List.mem_of_getElem? (i := 53) rfl))) (by decide) (backOf (W := 0) (rm1n l Z a0 hw hS [] (a_NUMERIC_EQUALS Z) T196.heap n0 O196 ((f_a_NUMERIC_EQUALS_negationOf hS).ext O196.2)) hZ (hw _ (List.mem_of_getElem? (i := 55) rfl)) (hw _ (List.mem_of_getElem? (i := 3) rfl)) (by decide) (by decide)) q197a q197c (g := (mkF m 364 #[oI p0, oR b7, oR b54, oI (9 : Int32), oR (a_NUMERIC_EQUALS Z), oR (a_NUMERIC_EQUALS Z)] [(.ref (a_NUMERIC_EQUALS Z))])) rfl (by rw [hml]; rfl) (Steps.refl _) (argsL := []) (rest := []) (lenOf pd_0 rfl) rfl (by show 2 * 0 + _ ≤ _; exact Nat.le_of_eq rfl) (hb hby at_364) (fun _ _ => ⟨rfl, rfl, (by decide : 2 + 0 ≤ _), (by decide : 46 + 0 ≤ _)⟩)
    dsimp only [Pt.U, Pt.locs, Pt.cells, Pt.slots] at X197 l197 y197 z197 st197 hQ197
    subst l197 y197 z197
    obtain ⟨v197, N197q, K197q⟩ := hQ197
    have w197 : (fn1n Z (a_NUMERIC_EQUALS Z)) = (a_NUMERIC_EQUALS Z) := rfl
    rw [w197] at v197
    subst v197
    have N197 := Fr.app N196 N197q
    have O197 := O196.keep K197q all0
    have Kc197 := Kc196.trans K197q all0
    obtain ⟨cq198, kq198, q198a, q198b, q198c⟩ := isOf hZ rfl ((e_a_NUMERIC_EQUALS hS).ext O197.2)
    obtain ⟨_, _, ⟨T198, L198, k198, n198⟩, -, X198, ⟨Lc198, hQ198, l198, y198, z198⟩, st198⟩ := X197.virtualBack hx (y := (⟨"com/example/menshen/menshen/policy/ConditionOperator", "literals", "()Lcom/example/menshen/menshen/policy/ConditionOperator$Literals;"⟩ : MethodName)) (z := (⟨"com/example/menshen/menshen/policy/ConditionOperator", "literals", "()Lcom/example/menshen/menshen/policy/ConditionOperator$Literals;"⟩ : MethodName)) hown (mvT hZ (hw _ (List.mem_of_getElem? (i := 63) rfl))) (mvT hZ (hw _ (List.mem_of_getElem? (i := 64) rfl))) (notFace_of_selects (args := #[]) (mvT hZ (hw _ (List.mem_of_getElem? (i := 66) rfl)))) (mvT hZ (hw _ (List.mem_of_getElem? (i := 66) rfl))) (mvT hZ (hw _ (List.mem_of_getElem? (i := 65) rfl))) (by decide) (backOf (W := 0) (rm3 l Z a0 hw hS [] (a_NUMERIC_EQUALS Z) (a_NUMBERS Z) T197.heap n0 O197 ((f_a_NUMERIC_EQUALS_literals hS).ext O197.2)) hZ (hw _ (List.mem_of_getElem? (i := 67) rfl)) (hw _ (List.mem_of_getElem? (i := 3) rfl)) (by decide) (by decide)) q198a q198c (g := (mkF m 376 #[oI p0, oR b7, oR b54, oI (9 : Int32), oR (a_NUMERIC_EQUALS Z), oR (a_NUMERIC_EQUALS Z)] [(.ref (a_NUMERIC_EQUALS Z))])) rfl (by rw [hml]; rfl) (Steps.refl _) (argsL := []) (rest := []) (lenOf pd_2 rfl) rfl (by show 2 * 0 + _ ≤ _; exact Nat.le_of_eq rfl) (hb hby at_376) (fun _ _ => ⟨rfl, rfl, (by decide : 2 + 0 ≤ _), (by decide : 46 + 0 ≤ _)⟩)
    dsimp only [Pt.U, Pt.locs, Pt.cells, Pt.slots] at X198 l198 y198 z198 st198 hQ198
    subst l198 y198 z198
    obtain ⟨v198, N198q, K198q⟩ := hQ198
    have w198 : (fn3 Z (a_NUMERIC_EQUALS Z) (a_NUMBERS Z)) = (a_NUMBERS Z) := rfl
    rw [w198] at v198
    subst v198
    have N198 := Fr.app N197 N198q
    have O198 := O197.keep K198q all0
    have Kc198 := Kc197.trans K198q all0
    obtain ⟨cq199, kq199, q199a, q199b, q199c⟩ := isOf hZ rfl ((e_a_NUMERIC_EQUALS hS).ext O198.2)
    obtain ⟨_, _, ⟨T199, L199, k199, n199⟩, -, X199, ⟨Lc199, hQ199, l199, y199, z199⟩, st199⟩ := X198.virtualBack hx (y := (⟨"com/example/menshen/menshen/policy/ConditionOperator", "literals", "()Lcom/example/menshen/menshen/policy/ConditionOperator$Literals;"⟩ : MethodName)) (z := (⟨"com/example/menshen/menshen/policy/ConditionOperator", "literals", "()Lcom/example/menshen/menshen/policy/ConditionOperator$Literals;"⟩ : MethodName)) hown (mvT hZ (hw _ (List.mem_of_getElem? (i := 63) rfl))) (mvT hZ (hw _ (List.mem_of_getElem? (i := 64) rfl))) (notFace_of_selects (args := #[]) (mvT hZ (hw _ (List.mem_of_getElem? (i := 66) rfl)))) (mvT hZ (hw _ (List.mem_of_getElem? (i := 66) rfl))) (mvT hZ (hw _ (List.mem_of_getElem? (i := 65) rfl))) (by decide) (backOf (W := 1) (rm3 l Z a0 hw hS [] (a_NUMERIC_EQUALS Z) (a_NUMBERS Z) T198.heap n0 O198 ((f_a_NUMERIC_EQUALS_literals hS).ext O198.2)) hZ (hw _ (List.mem_of_getElem? (i := 67) rfl)) (hw _ (List.mem_of_getElem? (i := 3) rfl)) (by decide) (by decide)) q199a q199c (g := (mkF m 381 #[oI p0, oR b7, oR b54, oI (9 : Int32), oR (a_NUMERIC_EQUALS Z), oR (a_NUMERIC_EQUALS Z)] [(.ref (a_NUMERIC_EQUALS Z)), (.ref (a_NUMBERS Z))])) rfl (by rw [hml]; rfl) (Steps.refl _) (argsL := []) (rest := [(.ref (a_NUMBERS Z))]) (lenOf pd_2 rfl) rfl (by show 2 * 0 + _ ≤ _; exact Nat.le_of_eq rfl) (hb hby at_381) (fun _ _ => ⟨rfl, rfl, (by decide : 2 + 0 ≤ _), (by decide : 46 + 0 ≤ _)⟩)
    dsimp only [Pt.U, Pt.locs, Pt.cells, Pt.slots] at X199 l199 y199 z199 st199 hQ199
    subst l199 y199 z199
    obtain ⟨v199, N199q, K199q⟩ := hQ199
    have w199 : (fn3 Z (a_NUMERIC_EQUALS Z) (a_NUMBERS Z)) = (a_NUMBERS Z) := rfl
    rw [w199] at v199
    subst v199
    have N199 := Fr.app N198 N199q
    have O199 := O198.keep K199q all0
    have Kc199 := Kc198.trans K199q all0
    obtain ⟨lo200, X200, N200⟩ := own_hide X199 N199
    obtain ⟨cq201, kq201, q201a, q201b, q201c⟩ := isOf hZ rfl ((e_a_NUMERIC_EQUALS hS).ext O199.2)
    obtain ⟨_, _, ⟨T201, L201, k201, n201⟩, -, X201, ⟨Lc201, hQ201, l201, y201, z201⟩, st201⟩ := X200.virtualBack hx (y := (⟨"com/example/menshen/menshen/policy/ConditionOperator", "isNegated", "()Z"⟩ : MethodName)) (z := (⟨"com/example/menshen/menshen/policy/ConditionOperator", "isNegated", "()Z"⟩ : MethodName)) hown (mvT hZ (hw _ (List.mem_of_getElem? (i := 58) rfl))) (mvT hZ (hw _ (List.mem_of_getElem? (i := 59) rfl))) (notFace_of_selects (args := #[]) (mvT hZ (hw _ (List.mem_of_getElem? (i := 61) rfl)))) (mvT hZ (hw _ (List.mem_of_getElem? (i := 61) rfl))) (mvT hZ (hw _ (List.mem_of_getElem? (i := 60) rfl))) (by decide) (backOf (W := 0) (rm2n l Z a0 hw hS [] (a_NUMERIC_EQUALS Z) T199.heap n0 O199 ((f_a_NUMERIC_EQUALS_negationOf hS).ext O199.2)) hZ (hw _ (List.mem_of_getElem? (i := 62) rfl)) (hw _ (List.mem_of_getElem? (i := 3) rfl)) (by decide) (by decide)) q201a q201c (g := (mkF m 391 #[oI p0, oR b7, oR b54, oI (9 : Int32), oR (a_NUMERIC_EQUALS Z), oR (a_NUMERIC_EQUALS Z)] [(.ref (a_NUMERIC_EQUALS Z))])) rfl (by rw [hml]; rfl) (Steps.refl _) (argsL := []) (rest := []) (lenOf pd_1 rfl) rfl (by show 2 * 0 + _ ≤ _; exact Nat.le_of_eq rfl) (hb hby at_391) (fun _ _ => ⟨rfl, rfl, (by decide : 2 + 0 ≤ _), (by decide : 46 + 0 ≤ _)⟩)
    dsimp only [Pt.U, Pt.locs, Pt.cells, Pt.slots] at X201 l201 y201 z201 st201 hQ201
    subst l201 y201 z201
    obtain ⟨v201, N201q, K201q⟩ := hQ201
    have w201 : (fn2n Z (a_NUMERIC_EQUALS Z)) = (0 : Int32) := rfl
    rw [w201] at v201
    subst v201
    have N201 := Fr.app N200 N201q
    have O201 := O199.keep K201q all0
    have Kc201 := Kc199.trans K201q all0
    obtain ⟨fs, hr, hrun, hended, hW, hsame⟩ := X201.leave (v := some (.int (1 : Int32))) (fun h => by rw [Bd.returns] at h; cases h)
    refine ⟨_, _, pre101 _ ?_, hrun, hended, _, _, rfl, ?_, ⟨_, rfl⟩, hW, hsame.mono (by decide) (by decide)⟩
    · show oP p e below T100 (mkF m 329 #[oI p0, oR b7, oR b54, oU, oU, oU] [(.int (9 : Int32))]) _
      refine XS.istoreN X100.here hx rfl (hb hby at_329) rfl (l' := #[oI p0, oR b7, oR b54, oI (9 : Int32), oU, oU]) rfl ?_
      show oP p e below T100 (mkF m 330 #[oI p0, oR b7, oR b54, oI (9 : Int32), oU, oU] []) _
      refine XS.aloadN X100.here hx rfl (hb hby at_330) rfl rfl ?_
      show oP p e below T100 (mkF m 331 #[oI p0, oR b7, oR b54, oI (9 : Int32), oU, oU] [(.ref b7)]) _
      refine XS.iloadN X100.here hx rfl (hb hby at_331) rfl ?_
      show oP p e below T100 (mkF m 332 #[oI p0, oR b7, oR b54, oI (9 : Int32), oU, oU] [(.int (9 : Int32)), (.ref b7)]) _
      refine own_aaload X100 hx hZ e100 fx192 rfl (j := (9 : Int32)) ⟨by decide, by decide⟩ (v := (.ref (a_NUMERIC_EQUALS Z))) rfl (g := (mkF m 332 #[oI p0, oR b7, oR b54, oI (9 : Int32), oU, oU] [(.int (9 : Int32)), (.ref b7)])) rfl rfl (hb hby at_332) _ ?_
      show oP p e below T100 (mkF m 333 #[oI p0, oR b7, oR b54, oI (9 : Int32), oU, oU] [(.ref (a_NUMERIC_EQUALS Z))]) _
      refine XS.astore X100.here hx rfl (hb hby at_333) rfl rfl (l' := #[oI p0, oR b7, oR b54, oI (9 : Int32), oR (a_NUMERIC_EQUALS Z), oU]) rfl ?_
      show oP p e below T100 (mkF m 335 #[oI p0, oR b7, oR b54, oI (9 : Int32), oR (a_NUMERIC_EQUALS Z), oU] []) _
      refine XS.aload X100.here hx rfl (hb hby at_335) rfl rfl ?_
      show oP p e below T100 (mkF m 337 #[oI p0, oR b7, oR b54, oI (9 : Int32), oR (a_NUMERIC_EQUALS Z), oU] [(.ref (a_NUMERIC_EQUALS Z))]) _
      refine st194.trans ?_
      show oP p e below T194 (mkF m 340 #[oI p0, oR b7, oR b54, oI (9 : Int32), oR (a_NUMERIC_EQUALS Z), oU] [(.ref (a_NUMERIC_EQUALS Z))]) _
      refine XS.astore X194.here hx rfl (hb hby at_340) rfl rfl (l' := #[oI p0, oR b7, oR b54, oI (9 : Int32), oR (a_NUMERIC_EQUALS Z), oR (a_NUMERIC_EQUALS Z)]) rfl ?_
      show oP p e below T194 (mkF m 342 #[oI p0, oR b7, oR b54, oI (9 : Int32), oR (a_NUMERIC_EQUALS Z), oR (a_NUMERIC_EQUALS Z)] []) _
      refine XS.aload X194.here hx rfl (hb hby at_342) rfl rfl ?_
      show oP p e below T194 (mkF m 344 #[oI p0, oR b7, oR b54, oI (9 : Int32), oR (a_NUMERIC_EQUALS Z), oR (a_NUMERIC_EQUALS Z)] [(.ref (a_NUMERIC_EQUALS Z))]) _
      refine XS.aloadN X194.here hx rfl (hb hby at_344) rfl rfl ?_
      show oP p e below T194 (mkF m 345 #[oI p0, oR b7, oR b54, oI (9 : Int32), oR (a_NUMERIC_EQUALS Z), oR (a_NUMERIC_EQUALS Z)] [(.ref b54), (.ref (a_NUMERIC_EQUALS Z))]) _
      refine XS.iloadN X194.here hx rfl (hb hby at_345) rfl ?_
      show oP p e below T194 (mkF m 346 #[oI p0, oR b7, oR b54, oI (9 : Int32), oR (a_NUMERIC_EQUALS Z), oR (a_NUMERIC_EQUALS Z)] [(.int (9 : Int32)), (.ref b54), (.ref (a_NUMERIC_EQUALS Z))]) _
      refine own_aaload X194 hx hZ rfl fx195 rfl (j := (9 : Int32)) ⟨by decide, by decide⟩ (v := (.ref (a_NUMERIC_EQUALS Z))) rfl (g := (mkF m 346 #[oI p0, oR b7, oR b54, oI (9 : Int32), oR (a_NUMERIC_EQUALS Z), oR (a_NUMERIC_EQUALS Z)] [(.int (9 : Int32)), (.ref b54), (.ref (a_NUMERIC_EQUALS Z))])) rfl rfl (hb hby at_346) _ ?_
      show oP p e below T194 (mkF m 347 #[oI p0, oR b7, oR b54, oI (9 : Int32), oR (a_NUMERIC_EQUALS Z), oR (a_NUMERIC_EQUALS Z)] [(.ref (a_NUMERIC_EQUALS Z)), (.ref (a_NUMERIC_EQUALS Z))]) _
      refine Jvm.RoadKit.acmp (g := (mkF m 347 #[oI p0, oR b7, oR b54, oI (9 : Int32), oR (a_NUMERIC_EQUALS Z), oR (a_NUMERIC_EQUALS Z)] [(.ref (a_NUMERIC_EQUALS Z)), (.ref (a_NUMERIC_EQUALS Z))])) X194 hx rfl rfl rfl (pc0 := 347) (pc' := 352) (same := true) rfl (hb hby at_347) rfl (decide_eq_true (congrArg Value.ref (rfl : (a_NUMERIC_EQUALS Z) = (a_NUMERIC_EQUALS Z)))) (by decide) (by decide) ?_
      show oP p e below T194 (mkF m 352 #[oI p0, oR b7, oR b54, oI (9 : Int32), oR (a_NUMERIC_EQUALS Z), oR (a_NUMERIC_EQUALS Z)] []) _
      refine XS.aload X194.here hx rfl (hb hby at_352) rfl rfl ?_
      show oP p e below T194 (mkF m 354 #[oI p0, oR b7, oR b54, oI (9 : Int32), oR (a_NUMERIC_EQUALS Z), oR (a_NUMERIC_EQUALS Z)] [(.ref (a_NUMERIC_EQUALS Z))]) _
      refine st196.trans ?_
      show oP p e below T196 (mkF m 357 #[oI p0, oR b7, oR b54, oI (9 : Int32), oR (a_NUMERIC_EQUALS Z), oR (a_NUMERIC_EQUALS Z)] [(.int (0 : Int32))]) _
      refine XS.ifYes X196.here hx rfl (pc0 := 357) (pc' := 362) rfl (hb hby at_357) rfl ((if0 _ _).trans (teq (by decide : (0 : Int32) = (0 : Int32))).1) (by decide) (by decide) ?_
      show oP p e below T196 (mkF m 362 #[oI p0, oR b7, oR b54, oI (9 : Int32), oR (a_NUMERIC_EQUALS Z), oR (a_NUMERIC_EQUALS Z)] []) _
      refine XS.aload X196.here hx rfl (hb hby at_362) rfl rfl ?_
      show oP p e below T196 (mkF m 364 #[oI p0, oR b7, oR b54, oI (9 : Int32), oR (a_NUMERIC_EQUALS Z), oR (a_NUMERIC_EQUALS Z)] [(.ref (a_NUMERIC_EQUALS Z))]) _
      refine st197.trans ?_
      show oP p e below T197 (mkF m 367 #[oI p0, oR b7, oR b54, oI (9 : Int32), oR (a_NUMERIC_EQUALS Z), oR (a_NUMERIC_EQUALS Z)] [(.ref (a_NUMERIC_EQUALS Z))]) _
      refine XS.aload X197.here hx rfl (hb hby at_367) rfl rfl ?_
      show oP p e below T197 (mkF m 369 #[oI p0, oR b7, oR b54, oI (9 : Int32), oR (a_NUMERIC_EQUALS Z), oR (a_NUMERIC_EQUALS Z)] [(.ref (a_NUMERIC_EQUALS Z)), (.ref (a_NUMERIC_EQUALS Z))]) _
      refine Jvm.RoadKit.acmp (g := (mkF m 369 #[oI p0, oR b7, oR b54, oI (9 : Int32), oR (a_NUMERIC_EQUALS Z), oR (a_NUMERIC_EQUALS Z)] [(.ref (a_NUMERIC_EQUALS Z)), (.ref (a_NUMERIC_EQUALS Z))])) X197 hx rfl rfl rfl (pc0 := 369) (pc' := 374) (same := true) rfl (hb hby at_369) rfl (decide_eq_true (congrArg Value.ref (rfl : (a_NUMERIC_EQUALS Z) = (a_NUMERIC_EQUALS Z)))) (by decide) (by decide) ?_
      show oP p e below T197 (mkF m 374 #[oI p0, oR b7, oR b54, oI (9 : Int32), oR (a_NUMERIC_EQUALS Z), oR (a_NUMERIC_EQUALS Z)] []) _
      refine XS.aload X197.here hx rfl (hb hby at_374) rfl rfl ?_
      show oP p e below T197 (mkF m 376 #[oI p0, oR b7, oR b54, oI (9 : Int32), oR (a_NUMERIC_EQUALS Z), oR (a_NUMERIC_EQUALS Z)] [(.ref (a_NUMERIC_EQUALS Z))]) _
      refine st198.trans ?_
      show oP p e below T198 (mkF m 379 #[oI p0, oR b7, oR b54, oI (9 : Int32), oR (a_NUMERIC_EQUALS Z), oR (a_NUMERIC_EQUALS Z)] [(.ref (a_NUMBERS Z))]) _
      refine XS.aload X198.here hx rfl (hb hby at_379) rfl rfl ?_
      show oP p e below T198 (mkF m 381 #[oI p0, oR b7, oR b54, oI (9 : Int32), oR (a_NUMERIC_EQUALS Z), oR (a_NUMERIC_EQUALS Z)] [(.ref (a_NUMERIC_EQUALS Z)), (.ref (a_NUMBERS Z))]) _
      refine st199.trans ?_
      show oP p e below T199 (mkF m 384 #[oI p0, oR b7, oR b54, oI (9 : Int32), oR (a_NUMERIC_EQUALS Z), oR (a_NUMERIC_EQUALS Z)] [(.ref (a_NUMBERS Z)), (.ref (a_NUMBERS Z))]) _
      refine Jvm.RoadKit.acmp (g := (mkF m 384 #[oI p0, oR b7, oR b54, oI (9 : Int32), oR (a_NUMERIC_EQUALS Z), oR (a_NUMERIC_EQUALS Z)] [(.ref (a_NUMBERS Z)), (.ref (a_NUMBERS Z))])) X199 hx rfl rfl rfl (pc0 := 384) (pc' := 389) (same := true) rfl (hb hby at_384) rfl (decide_eq_true (congrArg Value.ref (rfl : (a_NUMBERS Z) = (a_NUMBERS Z)))) (by decide) (by decide) ?_
      show oP p e below T199 (mkF m 389 #[oI p0, oR b7, oR b54, oI (9 : Int32), oR (a_NUMERIC_EQUALS Z), oR (a_NUMERIC_EQUALS Z)] []) _
      refine XS.aload X199.here hx rfl (hb hby at_389) rfl rfl ?_
      show oP p e below T199 (mkF m 391 #[oI p0, oR b7, oR b54, oI (9 : Int32), oR (a_NUMERIC_EQUALS Z), oR (a_NUMERIC_EQUALS Z)] [(.ref (a_NUMERIC_EQUALS Z))]) _
      refine st201.trans ?_
      show oP p e below T201 (mkF m 394 #[oI p0, oR b7, oR b54, oI (9 : Int32), oR (a_NUMERIC_EQUALS Z), oR (a_NUMERIC_EQUALS Z)] [(.int (0 : Int32))]) _
      refine XS.aload X201.here hx rfl (hb hby at_394) rfl rfl ?_
      show oP p e below T201 (mkF m 396 #[oI p0, oR b7, oR b54, oI (9 : Int32), oR (a_NUMERIC_EQUALS Z), oR (a_NUMERIC_EQUALS Z)] [(.ref (a_NUMERIC_EQUALS Z)), (.int (0 : Int32))]) _
      refine XS.aload X201.here hx rfl (hb hby at_396) rfl rfl ?_
      show oP p e below T201 (mkF m 398 #[oI p0, oR b7, oR b54, oI (9 : Int32), oR (a_NUMERIC_EQUALS Z), oR (a_NUMERIC_EQUALS Z)] [(.ref (a_NUMERIC_EQUALS Z)), (.ref (a_NUMERIC_EQUALS Z)), (.int (0 : Int32))]) _
      refine Jvm.RoadKit.acmp (g := (mkF m 398 #[oI p0, oR b7, oR b54, oI (9 : Int32), oR (a_NUMERIC_EQUALS Z), oR (a_NUMERIC_EQUALS Z)] [(.ref (a_NUMERIC_EQUALS Z)), (.ref (a_NUMERIC_EQUALS Z)), (.int (0 : Int32))])) X201 hx rfl rfl rfl (pc0 := 398) (pc' := 405) (same := true) rfl (hb hby at_398) rfl (decide_eq_true (congrArg Value.ref (rfl : (a_NUMERIC_EQUALS Z) = (a_NUMERIC_EQUALS Z)))) (by decide) (by decide) ?_
      show oP p e below T201 (mkF m 405 #[oI p0, oR b7, oR b54, oI (9 : Int32), oR (a_NUMERIC_EQUALS Z), oR (a_NUMERIC_EQUALS Z)] [(.int (0 : Int32))]) _
      refine XS.iconst X201.here hx rfl (hb hby at_405) ?_
      show oP p e below T201 (mkF m 406 #[oI p0, oR b7, oR b54, oI (9 : Int32), oR (a_NUMERIC_EQUALS Z), oR (a_NUMERIC_EQUALS Z)] [(.int (0 : Int32)), (.int (0 : Int32))]) _
      refine XS.icmpNo X201.here hx rfl (hb hby at_406) rfl (teq (by decide : (0 : Int32) = (0 : Int32))).2 ?_
      show oP p e below T201 (mkF m 409 #[oI p0, oR b7, oR b54, oI (9 : Int32), oR (a_NUMERIC_EQUALS Z), oR (a_NUMERIC_EQUALS Z)] []) _
      refine XS.iconst X201.here hx rfl (hb hby at_409) ?_
      show oP p e below T201 (mkF m 410 #[oI p0, oR b7, oR b54, oI (9 : Int32), oR (a_NUMERIC_EQUALS Z), oR (a_NUMERIC_EQUALS Z)] [(.int (1 : Int32))]) _
      refine XS.goto X201.here hx rfl (pc0 := 410) (pc' := 414) rfl (hb hby at_410) (by decide) (by decide) ?_
      show oP p e below T201 (mkF m 414 #[oI p0, oR b7, oR b54, oI (9 : Int32), oR (a_NUMERIC_EQUALS Z), oR (a_NUMERIC_EQUALS Z)] [(.int (1 : Int32))]) _
      exact retN X201 hx (t := .boolean) Bd.returns (by simp) (hb hby at_414) hr
    · show (some (.int (1 : Int32)) : Option Value) = some (.int (1 : Int32)) ∧ Fr n0 _ ∧ Keep h0 T201.heap []
      exact ⟨rfl, N201, Kc201⟩
  · have fx202 := ((((((((((((((((((((((((V53.ext E54).other W56 ne_b7_b54).other W58 ne_b7_b54).other W60 ne_b7_b54).other W62 ne_b7_b54).other W64 ne_b7_b54).other W66 ne_b7_b54).other W68 ne_b7_b54).other W70 ne_b7_b54).other W72 ne_b7_b54).other W74 ne_b7_b54).other W76 ne_b7_b54).other W78 ne_b7_b54).other W80 ne_b7_b54).other W82 ne_b7_b54).other W84 ne_b7_b54).other W86 ne_b7_b54).other W88 ne_b7_b54).other W90 ne_b7_b54).other W92 ne_b7_b54).other W94 ne_b7_b54).other W96 ne_b7_b54).other W98 ne_b7_b54).other W100 ne_b7_b54)
    obtain ⟨lo203, X203, N203⟩ := own_hide X100 N100
    obtain ⟨cq204, kq204, q204a, q204b, q204c⟩ := isOf hZ e100 ((e_a_NUMERIC_NOT_EQUALS hS).ext O100.2)
    obtain ⟨_, _, ⟨T204, L204, k204, n204⟩, -, X204, ⟨Lc204, hQ204, l204, y204, z204⟩, st204⟩ := X203.virtualBack hx (y := (⟨"com/example/menshen/menshen/policy/ConditionOperator", "positive", "()Lcom/example/menshen/menshen/policy/ConditionOperator;"⟩ : MethodName)) (z := (⟨"com/example/menshen/menshen/policy/ConditionOperator", "positive", "()Lcom/example/menshen/menshen/policy/ConditionOperator;"⟩ : MethodName)) hown (mvT hZ (hw _ (List.mem_of_getElem? (i := 51) rfl))) (mvT hZ (hw _ (List.mem_of_getElem? (i := 52) rfl))) (notFace_of_selects (args := #[]) (mvT hZ (hw _ (List.mem_of_getElem? (i := 54) rfl)))) (mvT hZ (hw _ (List.mem_of_getElem? (i := 54) rfl))) (mvT hZ (hw _ (List.mem_of_getElem? (i := 53) rfl))) (by decide) (backOf (W := 0) (rm1r l Z a0 hw hS [] (a_NUMERIC_NOT_EQUALS Z) (a_NUMERIC_EQUALS Z) h100 n0 O100 ((f_a_NUMERIC_NOT_EQUALS_negationOf hS).ext O100.2)) hZ (hw _ (List.mem_of_getElem? (i := 55) rfl)) (hw _ (List.mem_of_getElem? (i := 3) rfl)) (by decide) (by decide)) q204a q204c (g := (mkF m 337 #[oI p0, oR b7, oR b54, oI (10 : Int32), oR (a_NUMERIC_NOT_EQUALS Z), oU] [(.ref (a_NUMERIC_NOT_EQUALS Z))])) rfl (by rw [hml]; rfl) (Steps.refl _) (argsL := []) (rest := []) (lenOf pd_0 rfl) rfl (by show 2 * 0 + _ ≤ _; exact Nat.le_of_eq rfl) (hb hby at_337) (fun _ _ => ⟨rfl, e100, (by decide : 2 + 0 ≤ _), (by decide : 46 + 0 ≤ _)⟩)
    dsimp only [Pt.U, Pt.locs, Pt.cells, Pt.slots] at X204 l204 y204 z204 st204 hQ204
    subst l204 y204 z204
    obtain ⟨v204, N204q, K204q⟩ := hQ204
    have w204 : (fn1r Z (a_NUMERIC_NOT_EQUALS Z) (a_NUMERIC_EQUALS Z)) = (a_NUMERIC_EQUALS Z) := rfl
    rw [w204] at v204
    subst v204
    have N204 := Fr.app N203 N204q
    have O204 := O100.keep K204q all0
    have Kc204 := Kc100.trans K204q all0
    have fx205 := (V100.keep K204q nin0)
    obtain ⟨cq206, kq206, q206a, q206b, q206c⟩ := isOf hZ rfl ((e_a_NUMERIC_EQUALS hS).ext O204.2)
    obtain ⟨_, _, ⟨T206, L206, k206, n206⟩, -, X206, ⟨Lc206, hQ206, l206, y206, z206⟩, st206⟩ := X204.virtualBack hx (y := (⟨"com/example/menshen/menshen/policy/ConditionOperator", "isNegated", "()Z"⟩ : MethodName)) (z := (⟨"com/example/menshen/menshen/policy/ConditionOperator", "isNegated", "()Z"⟩ : MethodName)) hown (mvT hZ (hw _ (List.mem_of_getElem? (i := 58) rfl))) (mvT hZ (hw _ (List.mem_of_getElem? (i := 59) rfl))) (notFace_of_selects (args := #[]) (mvT hZ (hw _ (List.mem_of_getElem? (i := 61) rfl)))) (mvT hZ (hw _ (List.mem_of_getElem? (i := 61) rfl))) (mvT hZ (hw _ (List.mem_of_getElem? (i := 60) rfl))) (by decide) (backOf (W := 0) (rm2n l Z a0 hw hS [] (a_NUMERIC_EQUALS Z) T204.heap n0 O204 ((f_a_NUMERIC_EQUALS_negationOf hS).ext O204.2)) hZ (hw _ (List.mem_of_getElem? (i := 62) rfl)) (hw _ (List.mem_of_getElem? (i := 3) rfl)) (by decide) (by decide)) q206a q206c (g := (mkF m 354 #[oI p0, oR b7, oR b54, oI (10 : Int32), oR (a_NUMERIC_NOT_EQUALS Z), oR (a_NUMERIC_EQUALS Z)] [(.ref (a_NUMERIC_EQUALS Z))])) rfl (by rw [hml]; rfl) (Steps.refl _) (argsL := []) (rest := []) (lenOf pd_1 rfl) rfl (by show 2 * 0 + _ ≤ _; exact Nat.le_of_eq rfl) (hb hby at_354) (fun _ _ => ⟨rfl, rfl, (by decide : 2 + 0 ≤ _), (by decide : 46 + 0 ≤ _)⟩)
    dsimp only [Pt.U, Pt.locs, Pt.cells, Pt.slots] at X206 l206 y206 z206 st206 hQ206
    subst l206 y206 z206
    obtain ⟨v206, N206q, K206q⟩ := hQ206
    have w206 : (fn2n Z (a_NUMERIC_EQUALS Z)) = (0 : Int32) := rfl
    rw [w206] at v206
    subst v206
    have N206 := Fr.app N204 N206q
    have O206 := O204.keep K206q all0
    have Kc206 := Kc204.trans K206q all0
    obtain ⟨cq207, kq207, q207a, q207b, q207c⟩ := isOf hZ rfl ((e_a_NUMERIC_EQUALS hS).ext O206.2)
    obtain ⟨_, _, ⟨T207, L207, k207, n207⟩, -, X207, ⟨Lc207, hQ207, l207, y207, z207⟩, st207⟩ := X206.virtualBack hx (y := (⟨"com/example/menshen/menshen/policy/ConditionOperator", "positive", "()Lcom/example/menshen/menshen/policy/ConditionOperator;"⟩ : MethodName)) (z := (⟨"com/example/menshen/menshen/policy/ConditionOperator", "positive", "()Lcom/example/menshen/menshen/policy/ConditionOperator;"⟩ : MethodName)) hown (mvT hZ (hw _ (List.mem_of_getElem? (i := 51) rfl))) (mvT hZ (hw _ (List.mem_of_getElem? (i := 52) rfl))) (notFace_of_selects (args := #[]) (mvT hZ (hw _ (List.mem_of_getElem? (i := 54) rfl)))) (mvT hZ (hw _ (List.mem_of_getElem? (i := 54) rfl))) (mvT hZ (hw _ (List.mem_of_getElem? (i := 53) rfl))) (by decide) (backOf (W := 0) (rm1n l Z a0 hw hS [] (a_NUMERIC_EQUALS Z) T206.heap n0 O206 ((f_a_NUMERIC_EQUALS_negationOf hS).ext O206.2)) hZ (hw _ (List.mem_of_getElem? (i := 55) rfl)) (hw _ (List.mem_of_getElem? (i := 3) rfl)) (by decide) (by decide)) q207a q207c (g := (mkF m 364 #[oI p0, oR b7, oR b54, oI (10 : Int32), oR (a_NUMERIC_NOT_EQUALS Z), oR (a_NUMERIC_EQUALS Z)] [(.ref (a_NUMERIC_EQUALS Z))])) rfl (by rw [hml]; rfl) (Steps.refl _) (argsL := []) (rest := []) (lenOf pd_0 rfl) rfl (by show 2 * 0 + _ ≤ _; exact Nat.le_of_eq rfl) (hb hby at_364) (fun _ _ => ⟨rfl, rfl, (by decide : 2 + 0 ≤ _), (by decide : 46 + 0 ≤ _)⟩)
    dsimp only [Pt.U, Pt.locs, Pt.cells, Pt.slots] at X207 l207 y207 z207 st207 hQ207
    subst l207 y207 z207
    obtain ⟨v207, N207q, K207q⟩ := hQ207
    have w207 : (fn1n Z (a_NUMERIC_EQUALS Z)) = (a_NUMERIC_EQUALS Z) := rfl
    rw [w207] at v207
    subst v207
    have N207 := Fr.app N206 N207q
    have O207 := O206.keep K207q all0
    have Kc207 := Kc206.trans K207q all0
    obtain ⟨cq208, kq208, q208a, q208b, q208c⟩ := isOf hZ rfl ((e_a_NUMERIC_EQUALS hS).ext O207.2)
    obtain ⟨_, _, ⟨T208, L208, k208, n208⟩, -, X208, ⟨Lc208, hQ208, l208, y208, z208⟩, st208⟩ := X207.virtualBack hx (y := (⟨"com/example/menshen/menshen/policy/ConditionOperator", "literals", "()Lcom/example/menshen/menshen/policy/ConditionOperator$Literals;"⟩ : MethodName)) (z := (⟨"com/example/menshen/menshen/policy/ConditionOperator", "literals", "()Lcom/example/menshen/menshen/policy/ConditionOperator$Literals;"⟩ : MethodName)) hown (mvT hZ (hw _ (List.mem_of_getElem? (i := 63) rfl))) (mvT hZ (hw _ (List.mem_of_getElem? (i := 64) rfl))) (notFace_of_selects (args := #[]) (mvT hZ (hw _ (List.mem_of_getElem? (i := 66) rfl)))) (mvT hZ (hw _ (List.mem_of_getElem? (i := 66) rfl))) (mvT hZ (hw _ (List.mem_of_getElem? (i := 65) rfl))) (by decide) (backOf (W := 0) (rm3 l Z a0 hw hS [] (a_NUMERIC_EQUALS Z) (a_NUMBERS Z) T207.heap n0 O207 ((f_a_NUMERIC_EQUALS_literals hS).ext O207.2)) hZ (hw _ (List.mem_of_getElem? (i := 67) rfl)) (hw _ (List.mem_of_getElem? (i := 3) rfl)) (by decide) (by decide)) q208a q208c (g := (mkF m 376 #[oI p0, oR b7, oR b54, oI (10 : Int32), oR (a_NUMERIC_NOT_EQUALS Z), oR (a_NUMERIC_EQUALS Z)] [(.ref (a_NUMERIC_EQUALS Z))])) rfl (by rw [hml]; rfl) (Steps.refl _) (argsL := []) (rest := []) (lenOf pd_2 rfl) rfl (by show 2 * 0 + _ ≤ _; exact Nat.le_of_eq rfl) (hb hby at_376) (fun _ _ => ⟨rfl, rfl, (by decide : 2 + 0 ≤ _), (by decide : 46 + 0 ≤ _)⟩)
    dsimp only [Pt.U, Pt.locs, Pt.cells, Pt.slots] at X208 l208 y208 z208 st208 hQ208
    subst l208 y208 z208
    obtain ⟨v208, N208q, K208q⟩ := hQ208
    have w208 : (fn3 Z (a_NUMERIC_EQUALS Z) (a_NUMBERS Z)) = (a_NUMBERS Z) := rfl
    rw [w208] at v208
    subst v208
    have N208 := Fr.app N207 N208q
    have O208 := O207.keep K208q all0
    have Kc208 := Kc207.trans K208q all0
    obtain ⟨cq209, kq209, q209a, q209b, q209c⟩ := isOf hZ rfl ((e_a_NUMERIC_NOT_EQUALS hS).ext O208.2)
    obtain ⟨_, _, ⟨T209, L209, k209, n209⟩, -, X209, ⟨Lc209, hQ209, l209, y209, z209⟩, st209⟩ := X208.virtualBack hx (y := (⟨"com/example/menshen/menshen/policy/ConditionOperator", "literals", "()Lcom/example/menshen/menshen/policy/ConditionOperator$Literals;"⟩ : MethodName)) (z := (⟨"com/example/menshen/menshen/policy/ConditionOperator", "literals", "()Lcom/example/menshen/menshen/policy/ConditionOperator$Literals;"⟩ : MethodName)) hown (mvT hZ (hw _ (List.mem_of_getElem? (i := 63) rfl))) (mvT hZ (hw _ (List.mem_of_getElem? (i := 64) rfl))) (notFace_of_selects (args := #[]) (mvT hZ (hw _ (List.mem_of_getElem? (i := 66) rfl)))) (mvT hZ (hw _ (List.mem_of_getElem? (i := 66) rfl))) (mvT hZ (hw _ (List.mem_of_getElem? (i := 65) rfl))) (by decide) (backOf (W := 1) (rm3 l Z a0 hw hS [] (a_NUMERIC_NOT_EQUALS Z) (a_NUMBERS Z) T208.heap n0 O208 ((f_a_NUMERIC_NOT_EQUALS_literals hS).ext O208.2)) hZ (hw _ (List.mem_of_getElem? (i := 67) rfl)) (hw _ (List.mem_of_getElem? (i := 3) rfl)) (by decide) (by decide)) q209a q209c (g := (mkF m 381 #[oI p0, oR b7, oR b54, oI (10 : Int32), oR (a_NUMERIC_NOT_EQUALS Z), oR (a_NUMERIC_EQUALS Z)] [(.ref (a_NUMERIC_NOT_EQUALS Z)), (.ref (a_NUMBERS Z))])) rfl (by rw [hml]; rfl) (Steps.refl _) (argsL := []) (rest := [(.ref (a_NUMBERS Z))]) (lenOf pd_2 rfl) rfl (by show 2 * 0 + _ ≤ _; exact Nat.le_of_eq rfl) (hb hby at_381) (fun _ _ => ⟨rfl, rfl, (by decide : 2 + 0 ≤ _), (by decide : 46 + 0 ≤ _)⟩)
    dsimp only [Pt.U, Pt.locs, Pt.cells, Pt.slots] at X209 l209 y209 z209 st209 hQ209
    subst l209 y209 z209
    obtain ⟨v209, N209q, K209q⟩ := hQ209
    have w209 : (fn3 Z (a_NUMERIC_NOT_EQUALS Z) (a_NUMBERS Z)) = (a_NUMBERS Z) := rfl
    rw [w209] at v209
    subst v209
    have N209 := Fr.app N208 N209q
    have O209 := O208.keep K209q all0
    have Kc209 := Kc208.trans K209q all0
    obtain ⟨lo210, X210, N210⟩ := own_hide X209 N209
    obtain ⟨cq211, kq211, q211a, q211b, q211c⟩ := isOf hZ rfl ((e_a_NUMERIC_NOT_EQUALS hS).ext O209.2)
    obtain ⟨_, _, ⟨T211, L211, k211, n211⟩, -, X211, ⟨Lc211, hQ211, l211, y211, z211⟩, st211⟩ := X210.virtualBack hx (y := (⟨"com/example/menshen/menshen/policy/ConditionOperator", "isNegated", "()Z"⟩ : MethodName)) (z := (⟨"com/example/menshen/menshen/policy/ConditionOperator", "isNegated", "()Z"⟩ : MethodName)) hown (mvT hZ (hw _ (List.mem_of_getElem? (i := 58) rfl))) (mvT hZ (hw _ (List.mem_of_getElem? (i := 59) rfl))) (notFace_of_selects (args := #[]) (mvT hZ (hw _ (List.mem_of_getElem? (i := 61) rfl)))) (mvT hZ (hw _ (List.mem_of_getElem? (i := 61) rfl))) (mvT hZ (hw _ (List.mem_of_getElem? (i := 60) rfl))) (by decide) (backOf (W := 0) (rm2r l Z a0 hw hS [] (a_NUMERIC_NOT_EQUALS Z) (a_NUMERIC_EQUALS Z) T209.heap n0 O209 ((f_a_NUMERIC_NOT_EQUALS_negationOf hS).ext O209.2)) hZ (hw _ (List.mem_of_getElem? (i := 62) rfl)) (hw _ (List.mem_of_getElem? (i := 3) rfl)) (by decide) (by decide)) q211a q211c (g := (mkF m 391 #[oI p0, oR b7, oR b54, oI (10 : Int32), oR (a_NUMERIC_NOT_EQUALS Z), oR (a_NUMERIC_EQUALS Z)] [(.ref (a_NUMERIC_NOT_EQUALS Z))])) rfl (by rw [hml]; rfl) (Steps.refl _) (argsL := []) (rest := []) (lenOf pd_1 rfl) rfl (by show 2 * 0 + _ ≤ _; exact Nat.le_of_eq rfl) (hb hby at_391) (fun _ _ => ⟨rfl, rfl, (by decide : 2 + 0 ≤ _), (by decide : 46 + 0 ≤ _)⟩)
    dsimp only [Pt.U, Pt.locs, Pt.cells, Pt.slots] at X211 l211 y211 z211 st211 hQ211
    subst l211 y211 z211
    obtain ⟨v211, N211q, K211q⟩ := hQ211
    have w211 : (fn2r Z (a_NUMERIC_NOT_EQUALS Z) (a_NUMERIC_EQUALS Z)) = (1 : Int32) := rfl
    rw [w211] at v211
    subst v211
    have N211 := Fr.app N210 N211q
    have O211 := O209.keep K211q all0
    have Kc211 := Kc209.trans K211q all0
    obtain ⟨fs, hr, hrun, hended, hW, hsame⟩ := X211.leave (v := some (.int (1 : Int32))) (fun h => by rw [Bd.returns] at h; cases h)
    refine ⟨_, _, pre101 _ ?_, hrun, hended, _, _, rfl, ?_, ⟨_, rfl⟩, hW, hsame.mono (by decide) (by decide)⟩
    · show oP p e below T100 (mkF m 329 #[oI p0, oR b7, oR b54, oU, oU, oU] [(.int (10 : Int32))]) _
      refine XS.istoreN X100.here hx rfl (hb hby at_329) rfl (l' := #[oI p0, oR b7, oR b54, oI (10 : Int32), oU, oU]) rfl ?_
      show oP p e below T100 (mkF m 330 #[oI p0, oR b7, oR b54, oI (10 : Int32), oU, oU] []) _
      refine XS.aloadN X100.here hx rfl (hb hby at_330) rfl rfl ?_
      show oP p e below T100 (mkF m 331 #[oI p0, oR b7, oR b54, oI (10 : Int32), oU, oU] [(.ref b7)]) _
      refine XS.iloadN X100.here hx rfl (hb hby at_331) rfl ?_
      show oP p e below T100 (mkF m 332 #[oI p0, oR b7, oR b54, oI (10 : Int32), oU, oU] [(.int (10 : Int32)), (.ref b7)]) _
      refine own_aaload X100 hx hZ e100 fx202 rfl (j := (10 : Int32)) ⟨by decide, by decide⟩ (v := (.ref (a_NUMERIC_NOT_EQUALS Z))) rfl (g := (mkF m 332 #[oI p0, oR b7, oR b54, oI (10 : Int32), oU, oU] [(.int (10 : Int32)), (.ref b7)])) rfl rfl (hb hby at_332) _ ?_
      show oP p e below T100 (mkF m 333 #[oI p0, oR b7, oR b54, oI (10 : Int32), oU, oU] [(.ref (a_NUMERIC_NOT_EQUALS Z))]) _
      refine XS.astore X100.here hx rfl (hb hby at_333) rfl rfl (l' := #[oI p0, oR b7, oR b54, oI (10 : Int32), oR (a_NUMERIC_NOT_EQUALS Z), oU]) rfl ?_
      show oP p e below T100 (mkF m 335 #[oI p0, oR b7, oR b54, oI (10 : Int32), oR (a_NUMERIC_NOT_EQUALS Z), oU] []) _
      refine XS.aload X100.here hx rfl (hb hby at_335) rfl rfl ?_
      show oP p e below T100 (mkF m 337 #[oI p0, oR b7, oR b54, oI (10 : Int32), oR (a_NUMERIC_NOT_EQUALS Z), oU] [(.ref (a_NUMERIC_NOT_EQUALS Z))]) _
      refine st204.trans ?_
      show oP p e below T204 (mkF m 340 #[oI p0, oR b7, oR b54, oI (10 : Int32), oR (a_NUMERIC_NOT_EQUALS Z), oU] [(.ref (a_NUMERIC_EQUALS Z))]) _
      refine XS.astore X204.here hx rfl (hb hby at_340) rfl rfl (l' := #[oI p0, oR b7, oR b54, oI (10 : Int32), oR (a_NUMERIC_NOT_EQUALS Z), oR (a_NUMERIC_EQUALS Z)]) rfl ?_
      show oP p e below T204 (mkF m 342 #[oI p0, oR b7, oR b54, oI (10 : Int32), oR (a_NUMERIC_NOT_EQUALS Z), oR (a_NUMERIC_EQUALS Z)] []) _
      refine XS.aload X204.here hx rfl (hb hby at_342) rfl rfl ?_
      show oP p e below T204 (mkF m 344 #[oI p0, oR b7, oR b54, oI (10 : Int32), oR (a_NUMERIC_NOT_EQUALS Z), oR (a_NUMERIC_EQUALS Z)] [(.ref (a_NUMERIC_EQUALS Z))]) _
      refine XS.aloadN X204.here hx rfl (hb hby at_344) rfl rfl ?_
      show oP p e below T204 (mkF m 345 #[oI p0, oR b7, oR b54, oI (10 : Int32), oR (a_NUMERIC_NOT_EQUALS Z), oR (a_NUMERIC_EQUALS Z)] [(.ref b54), (.ref (a_NUMERIC_EQUALS Z))]) _
      refine XS.iloadN X204.here hx rfl (hb hby at_345) rfl ?_
      show oP p e below T204 (mkF m 346 #[oI p0, oR b7, oR b54, oI (10 : Int32), oR (a_NUMERIC_NOT_EQUALS Z), oR (a_NUMERIC_EQUALS Z)] [(.int (10 : Int32)), (.ref b54), (.ref (a_NUMERIC_EQUALS Z))]) _
      refine own_aaload X204 hx hZ rfl fx205 rfl (j := (10 : Int32)) ⟨by decide, by decide⟩ (v := (.ref (a_NUMERIC_EQUALS Z))) rfl (g := (mkF m 346 #[oI p0, oR b7, oR b54, oI (10 : Int32), oR (a_NUMERIC_NOT_EQUALS Z), oR (a_NUMERIC_EQUALS Z)] [(.int (10 : Int32)), (.ref b54), (.ref (a_NUMERIC_EQUALS Z))])) rfl rfl (hb hby at_346) _ ?_
      show oP p e below T204 (mkF m 347 #[oI p0, oR b7, oR b54, oI (10 : Int32), oR (a_NUMERIC_NOT_EQUALS Z), oR (a_NUMERIC_EQUALS Z)] [(.ref (a_NUMERIC_EQUALS Z)), (.ref (a_NUMERIC_EQUALS Z))]) _
      refine Jvm.RoadKit.acmp (g := (mkF m 347 #[oI p0, oR b7, oR b54, oI (10 : Int32), oR (a_NUMERIC_NOT_EQUALS Z), oR (a_NUMERIC_EQUALS Z)] [(.ref (a_NUMERIC_EQUALS Z)), (.ref (a_NUMERIC_EQUALS Z))])) X204 hx rfl rfl rfl (pc0 := 347) (pc' := 352) (same := true) rfl (hb hby at_347) rfl (decide_eq_true (congrArg Value.ref (rfl : (a_NUMERIC_EQUALS Z) = (a_NUMERIC_EQUALS Z)))) (by decide) (by decide) ?_
      show oP p e below T204 (mkF m 352 #[oI p0, oR b7, oR b54, oI (10 : Int32), oR (a_NUMERIC_NOT_EQUALS Z), oR (a_NUMERIC_EQUALS Z)] []) _
      refine XS.aload X204.here hx rfl (hb hby at_352) rfl rfl ?_
      show oP p e below T204 (mkF m 354 #[oI p0, oR b7, oR b54, oI (10 : Int32), oR (a_NUMERIC_NOT_EQUALS Z), oR (a_NUMERIC_EQUALS Z)] [(.ref (a_NUMERIC_EQUALS Z))]) _
      refine st206.trans ?_
      show oP p e below T206 (mkF m 357 #[oI p0, oR b7, oR b54, oI (10 : Int32), oR (a_NUMERIC_NOT_EQUALS Z), oR (a_NUMERIC_EQUALS Z)] [(.int (0 : Int32))]) _
      refine XS.ifYes X206.here hx rfl (pc0 := 357) (pc' := 362) rfl (hb hby at_357) rfl ((if0 _ _).trans (teq (by decide : (0 : Int32) = (0 : Int32))).1) (by decide) (by decide) ?_
      show oP p e below T206 (mkF m 362 #[oI p0, oR b7, oR b54, oI (10 : Int32), oR (a_NUMERIC_NOT_EQUALS Z), oR (a_NUMERIC_EQUALS Z)] []) _
      refine XS.aload X206.here hx rfl (hb hby at_362) rfl rfl ?_
      show oP p e below T206 (mkF m 364 #[oI p0, oR b7, oR b54, oI (10 : Int32), oR (a_NUMERIC_NOT_EQUALS Z), oR (a_NUMERIC_EQUALS Z)] [(.ref (a_NUMERIC_EQUALS Z))]) _
      refine st207.trans ?_
      show oP p e below T207 (mkF m 367 #[oI p0, oR b7, oR b54, oI (10 : Int32), oR (a_NUMERIC_NOT_EQUALS Z), oR (a_NUMERIC_EQUALS Z)] [(.ref (a_NUMERIC_EQUALS Z))]) _
      refine XS.aload X207.here hx rfl (hb hby at_367) rfl rfl ?_
      show oP p e below T207 (mkF m 369 #[oI p0, oR b7, oR b54, oI (10 : Int32), oR (a_NUMERIC_NOT_EQUALS Z), oR (a_NUMERIC_EQUALS Z)] [(.ref (a_NUMERIC_EQUALS Z)), (.ref (a_NUMERIC_EQUALS Z))]) _
      refine Jvm.RoadKit.acmp (g := (mkF m 369 #[oI p0, oR b7, oR b54, oI (10 : Int32), oR (a_NUMERIC_NOT_EQUALS Z), oR (a_NUMERIC_EQUALS Z)] [(.ref (a_NUMERIC_EQUALS Z)), (.ref (a_NUMERIC_EQUALS Z))])) X207 hx rfl rfl rfl (pc0 := 369) (pc' := 374) (same := true) rfl (hb hby at_369) rfl (decide_eq_true (congrArg Value.ref (rfl : (a_NUMERIC_EQUALS Z) = (a_NUMERIC_EQUALS Z)))) (by decide) (by decide) ?_
      show oP p e below T207 (mkF m 374 #[oI p0, oR b7, oR b54, oI (10 : Int32), oR (a_NUMERIC_NOT_EQUALS Z), oR (a_NUMERIC_EQUALS Z)] []) _
      refine XS.aload X207.here hx rfl (hb hby at_374) rfl rfl ?_
      show oP p e below T207 (mkF m 376 #[oI p0, oR b7, oR b54, oI (10 : Int32), oR (a_NUMERIC_NOT_EQUALS Z), oR (a_NUMERIC_EQUALS Z)] [(.ref (a_NUMERIC_EQUALS Z))]) _
      refine st208.trans ?_
      show oP p e below T208 (mkF m 379 #[oI p0, oR b7, oR b54, oI (10 : Int32), oR (a_NUMERIC_NOT_EQUALS Z), oR (a_NUMERIC_EQUALS Z)] [(.ref (a_NUMBERS Z))]) _
      refine XS.aload X208.here hx rfl (hb hby at_379) rfl rfl ?_
      show oP p e below T208 (mkF m 381 #[oI p0, oR b7, oR b54, oI (10 : Int32), oR (a_NUMERIC_NOT_EQUALS Z), oR (a_NUMERIC_EQUALS Z)] [(.ref (a_NUMERIC_NOT_EQUALS Z)), (.ref (a_NUMBERS Z))]) _
      refine st209.trans ?_
      show oP p e below T209 (mkF m 384 #[oI p0, oR b7, oR b54, oI (10 : Int32), oR (a_NUMERIC_NOT_EQUALS Z), oR (a_NUMERIC_EQUALS Z)] [(.ref (a_NUMBERS Z)), (.ref (a_NUMBERS Z))]) _
      refine Jvm.RoadKit.acmp (g := (mkF m 384 #[oI p0, oR b7, oR b54, oI (10 : Int32), oR (a_NUMERIC_NOT_EQUALS Z), oR (a_NUMERIC_EQUALS Z)] [(.ref (a_NUMBERS Z)), (.ref (a_NUMBERS Z))])) X209 hx rfl rfl rfl (pc0 := 384) (pc' := 389) (same := true) rfl (hb hby at_384) rfl (decide_eq_true (congrArg Value.ref (rfl : (a_NUMBERS Z) = (a_NUMBERS Z)))) (by decide) (by decide) ?_
      show oP p e below T209 (mkF m 389 #[oI p0, oR b7, oR b54, oI (10 : Int32), oR (a_NUMERIC_NOT_EQUALS Z), oR (a_NUMERIC_EQUALS Z)] []) _
      refine XS.aload X209.here hx rfl (hb hby at_389) rfl rfl ?_
      show oP p e below T209 (mkF m 391 #[oI p0, oR b7, oR b54, oI (10 : Int32), oR (a_NUMERIC_NOT_EQUALS Z), oR (a_NUMERIC_EQUALS Z)] [(.ref (a_NUMERIC_NOT_EQUALS Z))]) _
      refine st211.trans ?_
      show oP p e below T211 (mkF m 394 #[oI p0, oR b7, oR b54, oI (10 : Int32), oR (a_NUMERIC_NOT_EQUALS Z), oR (a_NUMERIC_EQUALS Z)] [(.int (1 : Int32))]) _
      refine XS.aload X211.here hx rfl (hb hby at_394) rfl rfl ?_
      show oP p e below T211 (mkF m 396 #[oI p0, oR b7, oR b54, oI (10 : Int32), oR (a_NUMERIC_NOT_EQUALS Z), oR (a_NUMERIC_EQUALS Z)] [(.ref (a_NUMERIC_EQUALS Z)), (.int (1 : Int32))]) _
      refine XS.aload X211.here hx rfl (hb hby at_396) rfl rfl ?_
      show oP p e below T211 (mkF m 398 #[oI p0, oR b7, oR b54, oI (10 : Int32), oR (a_NUMERIC_NOT_EQUALS Z), oR (a_NUMERIC_EQUALS Z)] [(.ref (a_NUMERIC_NOT_EQUALS Z)), (.ref (a_NUMERIC_EQUALS Z)), (.int (1 : Int32))]) _
      refine Jvm.RoadKit.acmp (g := (mkF m 398 #[oI p0, oR b7, oR b54, oI (10 : Int32), oR (a_NUMERIC_NOT_EQUALS Z), oR (a_NUMERIC_EQUALS Z)] [(.ref (a_NUMERIC_NOT_EQUALS Z)), (.ref (a_NUMERIC_EQUALS Z)), (.int (1 : Int32))])) X211 hx rfl rfl rfl (pc0 := 398) (pc' := 401) (same := false) rfl (hb hby at_398) rfl (decide_eq_false fun q => ((f_a_NUMERIC_EQUALS_ordinal hS).ne (f_a_NUMERIC_NOT_EQUALS_ordinal hS) (by decide)) (Value.ref.inj q)) (by decide) (by decide) ?_
      show oP p e below T211 (mkF m 401 #[oI p0, oR b7, oR b54, oI (10 : Int32), oR (a_NUMERIC_NOT_EQUALS Z), oR (a_NUMERIC_EQUALS Z)] [(.int (1 : Int32))]) _
      refine XS.iconst X211.here hx rfl (hb hby at_401) ?_
      show oP p e below T211 (mkF m 402 #[oI p0, oR b7, oR b54, oI (10 : Int32), oR (a_NUMERIC_NOT_EQUALS Z), oR (a_NUMERIC_EQUALS Z)] [(.int (1 : Int32)), (.int (1 : Int32))]) _
      refine XS.goto X211.here hx rfl (pc0 := 402) (pc' := 406) rfl (hb hby at_402) (by decide) (by decide) ?_
      show oP p e below T211 (mkF m 406 #[oI p0, oR b7, oR b54, oI (10 : Int32), oR (a_NUMERIC_NOT_EQUALS Z), oR (a_NUMERIC_EQUALS Z)] [(.int (1 : Int32)), (.int (1 : Int32))]) _
      refine XS.icmpNo X211.here hx rfl (hb hby at_406) rfl (teq (by decide : (1 : Int32) = (1 : Int32))).2 ?_
      show oP p e below T211 (mkF m 409 #[oI p0, oR b7, oR b54, oI (10 : Int32), oR (a_NUMERIC_NOT_EQUALS Z), oR (a_NUMERIC_EQUALS Z)] []) _
      refine XS.iconst X211.here hx rfl (hb hby at_409) ?_
      show oP p e below T211 (mkF m 410 #[oI p0, oR b7, oR b54, oI (10 : Int32), oR (a_NUMERIC_NOT_EQUALS Z), oR (a_NUMERIC_EQUALS Z)] [(.int (1 : Int32))]) _
      refine XS.goto X211.here hx rfl (pc0 := 410) (pc' := 414) rfl (hb hby at_410) (by decide) (by decide) ?_
      show oP p e below T211 (mkF m 414 #[oI p0, oR b7, oR b54, oI (10 : Int32), oR (a_NUMERIC_NOT_EQUALS Z), oR (a_NUMERIC_EQUALS Z)] [(.int (1 : Int32))]) _
      exact retN X211 hx (t := .boolean) Bd.returns (by simp) (hb hby at_414) hr
    · show (some (.int (1 : Int32)) : Option Value) = some (.int (1 : Int32)) ∧ Fr n0 _ ∧ Keep h0 T211.heap []
      exact ⟨rfl, N211, Kc211⟩
  · have fx212 := ((((((((((((((((((((((((V53.ext E54).other W56 ne_b7_b54).other W58 ne_b7_b54).other W60 ne_b7_b54).other W62 ne_b7_b54).other W64 ne_b7_b54).other W66 ne_b7_b54).other W68 ne_b7_b54).other W70 ne_b7_b54).other W72 ne_b7_b54).other W74 ne_b7_b54).other W76 ne_b7_b54).other W78 ne_b7_b54).other W80 ne_b7_b54).other W82 ne_b7_b54).other W84 ne_b7_b54).other W86 ne_b7_b54).other W88 ne_b7_b54).other W90 ne_b7_b54).other W92 ne_b7_b54).other W94 ne_b7_b54).other W96 ne_b7_b54).other W98 ne_b7_b54).other W100 ne_b7_b54)
    obtain ⟨lo213, X213, N213⟩ := own_hide X100 N100
    obtain ⟨cq214, kq214, q214a, q214b, q214c⟩ := isOf hZ e100 ((e_a_NUMERIC_LESS_THAN hS).ext O100.2)
    obtain ⟨_, _, ⟨T214, L214, k214, n214⟩, -, X214, ⟨Lc214, hQ214, l214, y214, z214⟩, st214⟩ := X213.virtualBack hx (y := (⟨"com/example/menshen/menshen/policy/ConditionOperator", "positive", "()Lcom/example/menshen/menshen/policy/ConditionOperator;"⟩ : MethodName)) (z := (⟨"com/example/menshen/menshen/policy/ConditionOperator", "positive", "()Lcom/example/menshen/menshen/policy/ConditionOperator;"⟩ : MethodName)) hown (mvT hZ (hw _ (List.mem_of_getElem? (i := 51) rfl))) (mvT hZ (hw _ (List.mem_of_getElem? (i := 52) rfl))) (notFace_of_selects (args := #[]) (mvT hZ (hw _ (List.mem_of_getElem? (i := 54) rfl)))) (mvT hZ (hw _ (List.mem_of_getElem? (i := 54) rfl))) (mvT hZ (hw _ (List.mem_of_getElem? (i := 53) rfl))) (by decide) (backOf (W := 0) (rm1n l Z a0 hw hS [] (a_NUMERIC_LESS_THAN Z) h100 n0 O100 ((f_a_NUMERIC_LESS_THAN_negationOf hS).ext O100.2)) hZ (hw _ (List.mem_of_getElem? (i := 55) rfl)) (hw _ (List.mem_of_getElem? (i := 3) rfl)) (by decide) (by decide)) q214a q214c (g := (mkF m 337 #[oI p0, oR b7, oR b54, oI (11 : Int32), oR (a_NUMERIC_LESS_THAN Z), oU] [(.ref (a_NUMERIC_LESS_THAN Z))])) rfl (by rw [hml]; rfl) (Steps.refl _) (argsL := []) (rest := []) (lenOf pd_0 rfl) rfl (by show 2 * 0 + _ ≤ _; exact Nat.le_of_eq rfl) (hb hby at_337) (fun _ _ => ⟨rfl, e100, (by decide : 2 + 0 ≤ _), (by decide : 46 + 0 ≤ _)⟩)
    dsimp only [Pt.U, Pt.locs, Pt.cells, Pt.slots] at X214 l214 y214 z214 st214 hQ214
    subst l214 y214 z214
    obtain ⟨v214, N214q, K214q⟩ := hQ214
    have w214 : (fn1n Z (a_NUMERIC_LESS_THAN Z)) = (a_NUMERIC_LESS_THAN Z) := rfl
    rw [w214] at v214
    subst v214
    have N214 := Fr.app N213 N214q
    have O214 := O100.keep K214q all0
    have Kc214 := Kc100.trans K214q all0
    have fx215 := (V100.keep K214q nin0)
    obtain ⟨cq216, kq216, q216a, q216b, q216c⟩ := isOf hZ rfl ((e_a_NUMERIC_LESS_THAN hS).ext O214.2)
    obtain ⟨_, _, ⟨T216, L216, k216, n216⟩, -, X216, ⟨Lc216, hQ216, l216, y216, z216⟩, st216⟩ := X214.virtualBack hx (y := (⟨"com/example/menshen/menshen/policy/ConditionOperator", "isNegated", "()Z"⟩ : MethodName)) (z := (⟨"com/example/menshen/menshen/policy/ConditionOperator", "isNegated", "()Z"⟩ : MethodName)) hown (mvT hZ (hw _ (List.mem_of_getElem? (i := 58) rfl))) (mvT hZ (hw _ (List.mem_of_getElem? (i := 59) rfl))) (notFace_of_selects (args := #[]) (mvT hZ (hw _ (List.mem_of_getElem? (i := 61) rfl)))) (mvT hZ (hw _ (List.mem_of_getElem? (i := 61) rfl))) (mvT hZ (hw _ (List.mem_of_getElem? (i := 60) rfl))) (by decide) (backOf (W := 0) (rm2n l Z a0 hw hS [] (a_NUMERIC_LESS_THAN Z) T214.heap n0 O214 ((f_a_NUMERIC_LESS_THAN_negationOf hS).ext O214.2)) hZ (hw _ (List.mem_of_getElem? (i := 62) rfl)) (hw _ (List.mem_of_getElem? (i := 3) rfl)) (by decide) (by decide)) q216a q216c (g := (mkF m 354 #[oI p0, oR b7, oR b54, oI (11 : Int32), oR (a_NUMERIC_LESS_THAN Z), oR (a_NUMERIC_LESS_THAN Z)] [(.ref (a_NUMERIC_LESS_THAN Z))])) rfl (by rw [hml]; rfl) (Steps.refl _) (argsL := []) (rest := []) (lenOf pd_1 rfl) rfl (by show 2 * 0 + _ ≤ _; exact Nat.le_of_eq rfl) (hb hby at_354) (fun _ _ => ⟨rfl, rfl, (by decide : 2 + 0 ≤ _), (by decide : 46 + 0 ≤ _)⟩)
    dsimp only [Pt.U, Pt.locs, Pt.cells, Pt.slots] at X216 l216 y216 z216 st216 hQ216
    subst l216 y216 z216
    obtain ⟨v216, N216q, K216q⟩ := hQ216
    have w216 : (fn2n Z (a_NUMERIC_LESS_THAN Z)) = (0 : Int32) := rfl
    rw [w216] at v216
    subst v216
    have N216 := Fr.app N214 N216q
    have O216 := O214.keep K216q all0
    have Kc216 := Kc214.trans K216q all0
    obtain ⟨cq217, kq217, q217a, q217b, q217c⟩ := isOf hZ rfl ((e_a_NUMERIC_LESS_THAN hS).ext O216.2)
    obtain ⟨_, _, ⟨T217, L217, k217, n217⟩, -, X217, ⟨Lc217, hQ217, l217, y217, z217⟩, st217⟩ := X216.virtualBack hx (y := (⟨"com/example/menshen/menshen/policy/ConditionOperator", "positive", "()Lcom/example/menshen/menshen/policy/ConditionOperator;"⟩ : MethodName)) (z := (⟨"com/example/menshen/menshen/policy/ConditionOperator", "positive", "()Lcom/example/menshen/menshen/policy/ConditionOperator;"⟩ : MethodName)) hown (mvT hZ (hw _ (List.mem_of_getElem? (i := 51) rfl))) (mvT hZ (hw _ (List.mem_of_getElem? (i := 52) rfl))) (notFace_of_selects (args := #[]) (mvT hZ (hw _ (List.mem_of_getElem? (i := 54) rfl)))) (mvT hZ (hw _ (List.mem_of_getElem? (i := 54) rfl))) (mvT hZ (hw _ (List.mem_of_getElem? (i := 53) rfl))) (by decide) (backOf (W := 0) (rm1n l Z a0 hw hS [] (a_NUMERIC_LESS_THAN Z) T216.heap n0 O216 ((f_a_NUMERIC_LESS_THAN_negationOf hS).ext O216.2)) hZ (hw _ (List.mem_of_getElem? (i := 55) rfl)) (hw _ (List.mem_of_getElem? (i := 3) rfl)) (by decide) (by decide)) q217a q217c (g := (mkF m 364 #[oI p0, oR b7, oR b54, oI (11 : Int32), oR (a_NUMERIC_LESS_THAN Z), oR (a_NUMERIC_LESS_THAN Z)] [(.ref (a_NUMERIC_LESS_THAN Z))])) rfl (by rw [hml]; rfl) (Steps.refl _) (argsL := []) (rest := []) (lenOf pd_0 rfl) rfl (by show 2 * 0 + _ ≤ _; exact Nat.le_of_eq rfl) (hb hby at_364) (fun _ _ => ⟨rfl, rfl, (by decide : 2 + 0 ≤ _), (by decide : 46 + 0 ≤ _)⟩)
    dsimp only [Pt.U, Pt.locs, Pt.cells, Pt.slots] at X217 l217 y217 z217 st217 hQ217
    subst l217 y217 z217
    obtain ⟨v217, N217q, K217q⟩ := hQ217
    have w217 : (fn1n Z (a_NUMERIC_LESS_THAN Z)) = (a_NUMERIC_LESS_THAN Z) := rfl
    rw [w217] at v217
    subst v217
    have N217 := Fr.app N216 N217q
    have O217 := O216.keep K217q all0
    have Kc217 := Kc216.trans K217q all0
    obtain ⟨cq218, kq218, q218a, q218b, q218c⟩ := isOf hZ rfl ((e_a_NUMERIC_LESS_THAN hS).ext O217.2)
    obtain ⟨_, _, ⟨T218, L218, k218, n218⟩, -, X218, ⟨Lc218, hQ218, l218, y218, z218⟩, st218⟩ := X217.virtualBack hx (y := (⟨"com/example/menshen/menshen/policy/ConditionOperator", "literals", "()Lcom/example/menshen/menshen/policy/ConditionOperator$Literals;"⟩ : MethodName)) (z := (⟨"com/example/menshen/menshen/policy/ConditionOperator", "literals", "()Lcom/example/menshen/menshen/policy/ConditionOperator$Literals;"⟩ : MethodName)) hown (mvT hZ (hw _ (List.mem_of_getElem? (i := 63) rfl))) (mvT hZ (hw _ (List.mem_of_getElem? (i := 64) rfl))) (notFace_of_selects (args := #[]) (mvT hZ (hw _ (List.mem_of_getElem? (i := 66) rfl)))) (mvT hZ (hw _ (List.mem_of_getElem? (i := 66) rfl))) (mvT hZ (hw _ (List.mem_of_getElem? (i := 65) rfl))) (by decide) (backOf (W := 0) (rm3 l Z a0 hw hS [] (a_NUMERIC_LESS_THAN Z) (a_NUMBERS Z) T217.heap n0 O217 ((f_a_NUMERIC_LESS_THAN_literals hS).ext O217.2)) hZ (hw _ (List.mem_of_getElem? (i := 67) rfl)) (hw _ (List.mem_of_getElem? (i := 3) rfl)) (by decide) (by decide)) q218a q218c (g := (mkF m 376 #[oI p0, oR b7, oR b54, oI (11 : Int32), oR (a_NUMERIC_LESS_THAN Z), oR (a_NUMERIC_LESS_THAN Z)] [(.ref (a_NUMERIC_LESS_THAN Z))])) rfl (by rw [hml]; rfl) (Steps.refl _) (argsL := []) (rest := []) (lenOf pd_2 rfl) rfl (by show 2 * 0 + _ ≤ _; exact Nat.le_of_eq rfl) (hb hby at_376) (fun _ _ => ⟨rfl, rfl, (by decide : 2 + 0 ≤ _), (by decide : 46 + 0 ≤ _)⟩)
    dsimp only [Pt.U, Pt.locs, Pt.cells, Pt.slots] at X218 l218 y218 z218 st218 hQ218
    subst l218 y218 z218
    obtain ⟨v218, N218q, K218q⟩ := hQ218
    have w218 : (fn3 Z (a_NUMERIC_LESS_THAN Z) (a_NUMBERS Z)) = (a_NUMBERS Z) := rfl
    rw [w218] at v218
    subst v218
    have N218 := Fr.app N217 N218q
    have O218 := O217.keep K218q all0
    have Kc218 := Kc217.trans K218q all0
    obtain ⟨cq219, kq219, q219a, q219b, q219c⟩ := isOf hZ rfl ((e_a_NUMERIC_LESS_THAN hS).ext O218.2)
    obtain ⟨_, _, ⟨T219, L219, k219, n219⟩, -, X219, ⟨Lc219, hQ219, l219, y219, z219⟩, st219⟩ := X218.virtualBack hx (y := (⟨"com/example/menshen/menshen/policy/ConditionOperator", "literals", "()Lcom/example/menshen/menshen/policy/ConditionOperator$Literals;"⟩ : MethodName)) (z := (⟨"com/example/menshen/menshen/policy/ConditionOperator", "literals", "()Lcom/example/menshen/menshen/policy/ConditionOperator$Literals;"⟩ : MethodName)) hown (mvT hZ (hw _ (List.mem_of_getElem? (i := 63) rfl))) (mvT hZ (hw _ (List.mem_of_getElem? (i := 64) rfl))) (notFace_of_selects (args := #[]) (mvT hZ (hw _ (List.mem_of_getElem? (i := 66) rfl)))) (mvT hZ (hw _ (List.mem_of_getElem? (i := 66) rfl))) (mvT hZ (hw _ (List.mem_of_getElem? (i := 65) rfl))) (by decide) (backOf (W := 1) (rm3 l Z a0 hw hS [] (a_NUMERIC_LESS_THAN Z) (a_NUMBERS Z) T218.heap n0 O218 ((f_a_NUMERIC_LESS_THAN_literals hS).ext O218.2)) hZ (hw _ (List.mem_of_getElem? (i := 67) rfl)) (hw _ (List.mem_of_getElem? (i := 3) rfl)) (by decide) (by decide)) q219a q219c (g := (mkF m 381 #[oI p0, oR b7, oR b54, oI (11 : Int32), oR (a_NUMERIC_LESS_THAN Z), oR (a_NUMERIC_LESS_THAN Z)] [(.ref (a_NUMERIC_LESS_THAN Z)), (.ref (a_NUMBERS Z))])) rfl (by rw [hml]; rfl) (Steps.refl _) (argsL := []) (rest := [(.ref (a_NUMBERS Z))]) (lenOf pd_2 rfl) rfl (by show 2 * 0 + _ ≤ _; exact Nat.le_of_eq rfl) (hb hby at_381) (fun _ _ => ⟨rfl, rfl, (by decide : 2 + 0 ≤ _), (by decide : 46 + 0 ≤ _)⟩)
    dsimp only [Pt.U, Pt.locs, Pt.cells, Pt.slots] at X219 l219 y219 z219 st219 hQ219
    subst l219 y219 z219
    obtain ⟨v219, N219q, K219q⟩ := hQ219
    have w219 : (fn3 Z (a_NUMERIC_LESS_THAN Z) (a_NUMBERS Z)) = (a_NUMBERS Z) := rfl
    rw [w219] at v219
    subst v219
    have N219 := Fr.app N218 N219q
    have O219 := O218.keep K219q all0
    have Kc219 := Kc218.trans K219q all0
    obtain ⟨lo220, X220, N220⟩ := own_hide X219 N219
    obtain ⟨cq221, kq221, q221a, q221b, q221c⟩ := isOf hZ rfl ((e_a_NUMERIC_LESS_THAN hS).ext O219.2)
    obtain ⟨_, _, ⟨T221, L221, k221, n221⟩, -, X221, ⟨Lc221, hQ221, l221, y221, z221⟩, st221⟩ := X220.virtualBack hx (y := (⟨"com/example/menshen/menshen/policy/ConditionOperator", "isNegated", "()Z"⟩ : MethodName)) (z := (⟨"com/example/menshen/menshen/policy/ConditionOperator", "isNegated", "()Z"⟩ : MethodName)) hown (mvT hZ (hw _ (List.mem_of_getElem? (i := 58) rfl))) (mvT hZ (hw _ (List.mem_of_getElem? (i := 59) rfl))) (notFace_of_selects (args := #[]) (mvT hZ (hw _ (List.mem_of_getElem? (i := 61) rfl)))) (mvT hZ (hw _ (List.mem_of_getElem? (i := 61) rfl))) (mvT hZ (hw _ (List.mem_of_getElem? (i := 60) rfl))) (by decide) (backOf (W := 0) (rm2n l Z a0 hw hS [] (a_NUMERIC_LESS_THAN Z) T219.heap n0 O219 ((f_a_NUMERIC_LESS_THAN_negationOf hS).ext O219.2)) hZ (hw _ (List.mem_of_getElem? (i := 62) rfl)) (hw _ (List.mem_of_getElem? (i := 3) rfl)) (by decide) (by decide)) q221a q221c (g := (mkF m 391 #[oI p0, oR b7, oR b54, oI (11 : Int32), oR (a_NUMERIC_LESS_THAN Z), oR (a_NUMERIC_LESS_THAN Z)] [(.ref (a_NUMERIC_LESS_THAN Z))])) rfl (by rw [hml]; rfl) (Steps.refl _) (argsL := []) (rest := []) (lenOf pd_1 rfl) rfl (by show 2 * 0 + _ ≤ _; exact Nat.le_of_eq rfl) (hb hby at_391) (fun _ _ => ⟨rfl, rfl, (by decide : 2 + 0 ≤ _), (by decide : 46 + 0 ≤ _)⟩)
    dsimp only [Pt.U, Pt.locs, Pt.cells, Pt.slots] at X221 l221 y221 z221 st221 hQ221
    subst l221 y221 z221
    obtain ⟨v221, N221q, K221q⟩ := hQ221
    have w221 : (fn2n Z (a_NUMERIC_LESS_THAN Z)) = (0 : Int32) := rfl
    rw [w221] at v221
    subst v221
    have N221 := Fr.app N220 N221q
    have O221 := O219.keep K221q all0
    have Kc221 := Kc219.trans K221q all0
    obtain ⟨fs, hr, hrun, hended, hW, hsame⟩ := X221.leave (v := some (.int (1 : Int32))) (fun h => by rw [Bd.returns] at h; cases h)
    refine ⟨_, _, pre101 _ ?_, hrun, hended, _, _, rfl, ?_, ⟨_, rfl⟩, hW, hsame.mono (by decide) (by decide)⟩
    · show oP p e below T100 (mkF m 329 #[oI p0, oR b7, oR b54, oU, oU, oU] [(.int (11 : Int32))]) _
      refine XS.istoreN X100.here hx rfl (hb hby at_329) rfl (l' := #[oI p0, oR b7, oR b54, oI (11 : Int32), oU, oU]) rfl ?_
      show oP p e below T100 (mkF m 330 #[oI p0, oR b7, oR b54, oI (11 : Int32), oU, oU] []) _
      refine XS.aloadN X100.here hx rfl (hb hby at_330) rfl rfl ?_
      show oP p e below T100 (mkF m 331 #[oI p0, oR b7, oR b54, oI (11 : Int32), oU, oU] [(.ref b7)]) _
      refine XS.iloadN X100.here hx rfl (hb hby at_331) rfl ?_
      show oP p e below T100 (mkF m 332 #[oI p0, oR b7, oR b54, oI (11 : Int32), oU, oU] [(.int (11 : Int32)), (.ref b7)]) _
      refine own_aaload X100 hx hZ e100 fx212 rfl (j := (11 : Int32)) ⟨by decide, by decide⟩ (v := (.ref (a_NUMERIC_LESS_THAN Z))) rfl (g := (mkF m 332 #[oI p0, oR b7, oR b54, oI (11 : Int32), oU, oU] [(.int (11 : Int32)), (.ref b7)])) rfl rfl (hb hby at_332) _ ?_
      show oP p e below T100 (mkF m 333 #[oI p0, oR b7, oR b54, oI (11 : Int32), oU, oU] [(.ref (a_NUMERIC_LESS_THAN Z))]) _
      refine XS.astore X100.here hx rfl (hb hby at_333) rfl rfl (l' := #[oI p0, oR b7, oR b54, oI (11 : Int32), oR (a_NUMERIC_LESS_THAN Z), oU]) rfl ?_
      show oP p e below T100 (mkF m 335 #[oI p0, oR b7, oR b54, oI (11 : Int32), oR (a_NUMERIC_LESS_THAN Z), oU] []) _
      refine XS.aload X100.here hx rfl (hb hby at_335) rfl rfl ?_
      show oP p e below T100 (mkF m 337 #[oI p0, oR b7, oR b54, oI (11 : Int32), oR (a_NUMERIC_LESS_THAN Z), oU] [(.ref (a_NUMERIC_LESS_THAN Z))]) _
      refine st214.trans ?_
      show oP p e below T214 (mkF m 340 #[oI p0, oR b7, oR b54, oI (11 : Int32), oR (a_NUMERIC_LESS_THAN Z), oU] [(.ref (a_NUMERIC_LESS_THAN Z))]) _
      refine XS.astore X214.here hx rfl (hb hby at_340) rfl rfl (l' := #[oI p0, oR b7, oR b54, oI (11 : Int32), oR (a_NUMERIC_LESS_THAN Z), oR (a_NUMERIC_LESS_THAN Z)]) rfl ?_
      show oP p e below T214 (mkF m 342 #[oI p0, oR b7, oR b54, oI (11 : Int32), oR (a_NUMERIC_LESS_THAN Z), oR (a_NUMERIC_LESS_THAN Z)] []) _
      refine XS.aload X214.here hx rfl (hb hby at_342) rfl rfl ?_
      show oP p e below T214 (mkF m 344 #[oI p0, oR b7, oR b54, oI (11 : Int32), oR (a_NUMERIC_LESS_THAN Z), oR (a_NUMERIC_LESS_THAN Z)] [(.ref (a_NUMERIC_LESS_THAN Z))]) _
      refine XS.aloadN X214.here hx rfl (hb hby at_344) rfl rfl ?_
      show oP p e below T214 (mkF m 345 #[oI p0, oR b7, oR b54, oI (11 : Int32), oR (a_NUMERIC_LESS_THAN Z), oR (a_NUMERIC_LESS_THAN Z)] [(.ref b54), (.ref (a_NUMERIC_LESS_THAN Z))]) _
      refine XS.iloadN X214.here hx rfl (hb hby at_345) rfl ?_
      show oP p e below T214 (mkF m 346 #[oI p0, oR b7, oR b54, oI (11 : Int32), oR (a_NUMERIC_LESS_THAN Z), oR (a_NUMERIC_LESS_THAN Z)] [(.int (11 : Int32)), (.ref b54), (.ref (a_NUMERIC_LESS_THAN Z))]) _
      refine own_aaload X214 hx hZ rfl fx215 rfl (j := (11 : Int32)) ⟨by decide, by decide⟩ (v := (.ref (a_NUMERIC_LESS_THAN Z))) rfl (g := (mkF m 346 #[oI p0, oR b7, oR b54, oI (11 : Int32), oR (a_NUMERIC_LESS_THAN Z), oR (a_NUMERIC_LESS_THAN Z)] [(.int (11 : Int32)), (.ref b54), (.ref (a_NUMERIC_LESS_THAN Z))])) rfl rfl (hb hby at_346) _ ?_
      show oP p e below T214 (mkF m 347 #[oI p0, oR b7, oR b54, oI (11 : Int32), oR (a_NUMERIC_LESS_THAN Z), oR (a_NUMERIC_LESS_THAN Z)] [(.ref (a_NUMERIC_LESS_THAN Z)), (.ref (a_NUMERIC_LESS_THAN Z))]) _
      refine Jvm.RoadKit.acmp (g := (mkF m 347 #[oI p0, oR b7, oR b54, oI (11 : Int32), oR (a_NUMERIC_LESS_THAN Z), oR (a_NUMERIC_LESS_THAN Z)] [(.ref (a_NUMERIC_LESS_THAN Z)), (.ref (a_NUMERIC_LESS_THAN Z))])) X214 hx rfl rfl rfl (pc0 := 347) (pc' := 352) (same := true) rfl (hb hby at_347) rfl (decide_eq_true (congrArg Value.ref (rfl : (a_NUMERIC_LESS_THAN Z) = (a_NUMERIC_LESS_THAN Z)))) (by decide) (by decide) ?_
      show oP p e below T214 (mkF m 352 #[oI p0, oR b7, oR b54, oI (11 : Int32), oR (a_NUMERIC_LESS_THAN Z), oR (a_NUMERIC_LESS_THAN Z)] []) _
      refine XS.aload X214.here hx rfl (hb hby at_352) rfl rfl ?_
      show oP p e below T214 (mkF m 354 #[oI p0, oR b7, oR b54, oI (11 : Int32), oR (a_NUMERIC_LESS_THAN Z), oR (a_NUMERIC_LESS_THAN Z)] [(.ref (a_NUMERIC_LESS_THAN Z))]) _
      refine st216.trans ?_
      show oP p e below T216 (mkF m 357 #[oI p0, oR b7, oR b54, oI (11 : Int32), oR (a_NUMERIC_LESS_THAN Z), oR (a_NUMERIC_LESS_THAN Z)] [(.int (0 : Int32))]) _
      refine XS.ifYes X216.here hx rfl (pc0 := 357) (pc' := 362) rfl (hb hby at_357) rfl ((if0 _ _).trans (teq (by decide : (0 : Int32) = (0 : Int32))).1) (by decide) (by decide) ?_
      show oP p e below T216 (mkF m 362 #[oI p0, oR b7, oR b54, oI (11 : Int32), oR (a_NUMERIC_LESS_THAN Z), oR (a_NUMERIC_LESS_THAN Z)] []) _
      refine XS.aload X216.here hx rfl (hb hby at_362) rfl rfl ?_
      show oP p e below T216 (mkF m 364 #[oI p0, oR b7, oR b54, oI (11 : Int32), oR (a_NUMERIC_LESS_THAN Z), oR (a_NUMERIC_LESS_THAN Z)] [(.ref (a_NUMERIC_LESS_THAN Z))]) _
      refine st217.trans ?_
      show oP p e below T217 (mkF m 367 #[oI p0, oR b7, oR b54, oI (11 : Int32), oR (a_NUMERIC_LESS_THAN Z), oR (a_NUMERIC_LESS_THAN Z)] [(.ref (a_NUMERIC_LESS_THAN Z))]) _
      refine XS.aload X217.here hx rfl (hb hby at_367) rfl rfl ?_
      show oP p e below T217 (mkF m 369 #[oI p0, oR b7, oR b54, oI (11 : Int32), oR (a_NUMERIC_LESS_THAN Z), oR (a_NUMERIC_LESS_THAN Z)] [(.ref (a_NUMERIC_LESS_THAN Z)), (.ref (a_NUMERIC_LESS_THAN Z))]) _
      refine Jvm.RoadKit.acmp (g := (mkF m 369 #[oI p0, oR b7, oR b54, oI (11 : Int32), oR (a_NUMERIC_LESS_THAN Z), oR (a_NUMERIC_LESS_THAN Z)] [(.ref (a_NUMERIC_LESS_THAN Z)), (.ref (a_NUMERIC_LESS_THAN Z))])) X217 hx rfl rfl rfl (pc0 := 369) (pc' := 374) (same := true) rfl (hb hby at_369) rfl (decide_eq_true (congrArg Value.ref (rfl : (a_NUMERIC_LESS_THAN Z) = (a_NUMERIC_LESS_THAN Z)))) (by decide) (by decide) ?_
      show oP p e below T217 (mkF m 374 #[oI p0, oR b7, oR b54, oI (11 : Int32), oR (a_NUMERIC_LESS_THAN Z), oR (a_NUMERIC_LESS_THAN Z)] []) _
      refine XS.aload X217.here hx rfl (hb hby at_374) rfl rfl ?_
      show oP p e below T217 (mkF m 376 #[oI p0, oR b7, oR b54, oI (11 : Int32), oR (a_NUMERIC_LESS_THAN Z), oR (a_NUMERIC_LESS_THAN Z)] [(.ref (a_NUMERIC_LESS_THAN Z))]) _
      refine st218.trans ?_
      show oP p e below T218 (mkF m 379 #[oI p0, oR b7, oR b54, oI (11 : Int32), oR (a_NUMERIC_LESS_THAN Z), oR (a_NUMERIC_LESS_THAN Z)] [(.ref (a_NUMBERS Z))]) _
      refine XS.aload X218.here hx rfl (hb hby at_379) rfl rfl ?_
      show oP p e below T218 (mkF m 381 #[oI p0, oR b7, oR b54, oI (11 : Int32), oR (a_NUMERIC_LESS_THAN Z), oR (a_NUMERIC_LESS_THAN Z)] [(.ref (a_NUMERIC_LESS_THAN Z)), (.ref (a_NUMBERS Z))]) _
      refine st219.trans ?_
      show oP p e below T219 (mkF m 384 #[oI p0, oR b7, oR b54, oI (11 : Int32), oR (a_NUMERIC_LESS_THAN Z), oR (a_NUMERIC_LESS_THAN Z)] [(.ref (a_NUMBERS Z)), (.ref (a_NUMBERS Z))]) _
      refine Jvm.RoadKit.acmp (g := (mkF m 384 #[oI p0, oR b7, oR b54, oI (11 : Int32), oR (a_NUMERIC_LESS_THAN Z), oR (a_NUMERIC_LESS_THAN Z)] [(.ref (a_NUMBERS Z)), (.ref (a_NUMBERS Z))])) X219 hx rfl rfl rfl (pc0 := 384) (pc' := 389) (same := true) rfl (hb hby at_384) rfl (decide_eq_true (congrArg Value.ref (rfl : (a_NUMBERS Z) = (a_NUMBERS Z)))) (by decide) (by decide) ?_
      show oP p e below T219 (mkF m 389 #[oI p0, oR b7, oR b54, oI (11 : Int32), oR (a_NUMERIC_LESS_THAN Z), oR (a_NUMERIC_LESS_THAN Z)] []) _
      refine XS.aload X219.here hx rfl (hb hby at_389) rfl rfl ?_
      show oP p e below T219 (mkF m 391 #[oI p0, oR b7, oR b54, oI (11 : Int32), oR (a_NUMERIC_LESS_THAN Z), oR (a_NUMERIC_LESS_THAN Z)] [(.ref (a_NUMERIC_LESS_THAN Z))]) _
      refine st221.trans ?_
      show oP p e below T221 (mkF m 394 #[oI p0, oR b7, oR b54, oI (11 : Int32), oR (a_NUMERIC_LESS_THAN Z), oR (a_NUMERIC_LESS_THAN Z)] [(.int (0 : Int32))]) _
      refine XS.aload X221.here hx rfl (hb hby at_394) rfl rfl ?_
      show oP p e below T221 (mkF m 396 #[oI p0, oR b7, oR b54, oI (11 : Int32), oR (a_NUMERIC_LESS_THAN Z), oR (a_NUMERIC_LESS_THAN Z)] [(.ref (a_NUMERIC_LESS_THAN Z)), (.int (0 : Int32))]) _
      refine XS.aload X221.here hx rfl (hb hby at_396) rfl rfl ?_
      show oP p e below T221 (mkF m 398 #[oI p0, oR b7, oR b54, oI (11 : Int32), oR (a_NUMERIC_LESS_THAN Z), oR (a_NUMERIC_LESS_THAN Z)] [(.ref (a_NUMERIC_LESS_THAN Z)), (.ref (a_NUMERIC_LESS_THAN Z)), (.int (0 : Int32))]) _
      refine Jvm.RoadKit.acmp (g := (mkF m 398 #[oI p0, oR b7, oR b54, oI (11 : Int32), oR (a_NUMERIC_LESS_THAN Z), oR (a_NUMERIC_LESS_THAN Z)] [(.ref (a_NUMERIC_LESS_THAN Z)), (.ref (a_NUMERIC_LESS_THAN Z)), (.int (0 : Int32))])) X221 hx rfl rfl rfl (pc0 := 398) (pc' := 405) (same := true) rfl (hb hby at_398) rfl (decide_eq_true (congrArg Value.ref (rfl : (a_NUMERIC_LESS_THAN Z) = (a_NUMERIC_LESS_THAN Z)))) (by decide) (by decide) ?_
      show oP p e below T221 (mkF m 405 #[oI p0, oR b7, oR b54, oI (11 : Int32), oR (a_NUMERIC_LESS_THAN Z), oR (a_NUMERIC_LESS_THAN Z)] [(.int (0 : Int32))]) _
      refine XS.iconst X221.here hx rfl (hb hby at_405) ?_
      show oP p e below T221 (mkF m 406 #[oI p0, oR b7, oR b54, oI (11 : Int32), oR (a_NUMERIC_LESS_THAN Z), oR (a_NUMERIC_LESS_THAN Z)] [(.int (0 : Int32)), (.int (0 : Int32))]) _
      refine XS.icmpNo X221.here hx rfl (hb hby at_406) rfl (teq (by decide : (0 : Int32) = (0 : Int32))).2 ?_
      show oP p e below T221 (mkF m 409 #[oI p0, oR b7, oR b54, oI (11 : Int32), oR (a_NUMERIC_LESS_THAN Z), oR (a_NUMERIC_LESS_THAN Z)] []) _
      refine XS.iconst X221.here hx rfl (hb hby at_409) ?_
      show oP p e below T221 (mkF m 410 #[oI p0, oR b7, oR b54, oI (11 : Int32), oR (a_NUMERIC_LESS_THAN Z), oR (a_NUMERIC_LESS_THAN Z)] [(.int (1 : Int32))]) _
      refine XS.goto X221.here hx rfl (pc0 := 410) (pc' := 414) rfl (hb hby at_410) (by decide) (by decide) ?_
      show oP p e below T221 (mkF m 414 #[oI p0, oR b7, oR b54, oI (11 : Int32), oR (a_NUMERIC_LESS_THAN Z), oR (a_NUMERIC_LESS_THAN Z)] [(.int (1 : Int32))]) _
      exact retN X221 hx (t := .boolean) Bd.returns (by simp) (hb hby at_414) hr
    · show (some (.int (1 : Int32)) : Option Value) = some (.int (1 : Int32)) ∧ Fr n0 _ ∧ Keep h0 T221.heap []
      exact ⟨rfl, N221, Kc221⟩
  · have fx222 := ((((((((((((((((((((((((V53.ext E54).other W56 ne_b7_b54).other W58 ne_b7_b54).other W60 ne_b7_b54).other W62 ne_b7_b54).other W64 ne_b7_b54).other W66 ne_b7_b54).other W68 ne_b7_b54).other W70 ne_b7_b54).other W72 ne_b7_b54).other W74 ne_b7_b54).other W76 ne_b7_b54).other W78 ne_b7_b54).other W80 ne_b7_b54).other W82 ne_b7_b54).other W84 ne_b7_b54).other W86 ne_b7_b54).other W88 ne_b7_b54).other W90 ne_b7_b54).other W92 ne_b7_b54).other W94 ne_b7_b54).other W96 ne_b7_b54).other W98 ne_b7_b54).other W100 ne_b7_b54)
    obtain ⟨lo223, X223, N223⟩ := own_hide X100 N100
    obtain ⟨cq224, kq224, q224a, q224b, q224c⟩ := isOf hZ e100 ((e_a_NUMERIC_LESS_THAN_EQUALS hS).ext O100.2)
    obtain ⟨_, _, ⟨T224, L224, k224, n224⟩, -, X224, ⟨Lc224, hQ224, l224, y224, z224⟩, st224⟩ := X223.virtualBack hx (y := (⟨"com/example/menshen/menshen/policy/ConditionOperator", "positive", "()Lcom/example/menshen/menshen/policy/ConditionOperator;"⟩ : MethodName)) (z := (⟨"com/example/menshen/menshen/policy/ConditionOperator", "positive", "()Lcom/example/menshen/menshen/policy/ConditionOperator;"⟩ : MethodName)) hown (mvT hZ (hw _ (List.mem_of_getElem? (i := 51) rfl))) (mvT hZ (hw _ (List.mem_of_getElem? (i := 52) rfl))) (notFace_of_selects (args := #[]) (mvT hZ (hw _ (List.mem_of_getElem? (i := 54) rfl)))) (mvT hZ (hw _ (List.mem_of_getElem? (i := 54) rfl))) (mvT hZ (hw _ (List.mem_of_getElem? (i := 53) rfl))) (by decide) (backOf (W := 0) (rm1n l Z a0 hw hS [] (a_NUMERIC_LESS_THAN_EQUALS Z) h100 n0 O100 ((f_a_NUMERIC_LESS_THAN_EQUALS_negationOf hS).ext O100.2)) hZ (hw _ (List.mem_of_getElem? (i := 55) rfl)) (hw _ (List.mem_of_getElem? (i := 3) rfl)) (by decide) (by decide)) q224a q224c (g := (mkF m 337 #[oI p0, oR b7, oR b54, oI (12 : Int32), oR (a_NUMERIC_LESS_THAN_EQUALS Z), oU] [(.ref (a_NUMERIC_LESS_THAN_EQUALS Z))])) rfl (by rw [hml]; rfl) (Steps.refl _) (argsL := []) (rest := []) (lenOf pd_0 rfl) rfl (by show 2 * 0 + _ ≤ _; exact Nat.le_of_eq rfl) (hb hby at_337) (fun _ _ => ⟨rfl, e100, (by decide : 2 + 0 ≤ _), (by decide : 46 + 0 ≤ _)⟩)
    dsimp only [Pt.U, Pt.locs, Pt.cells, Pt.slots] at X224 l224 y224 z224 st224 hQ224
    subst l224 y224 z224
    obtain ⟨v224, N224q, K224q⟩ := hQ224
    have w224 : (fn1n Z (a_NUMERIC_LESS_THAN_EQUALS Z)) = (a_NUMERIC_LESS_THAN_EQUALS Z) := rfl
    rw [w224] at v224
    subst v224
    have N224 := Fr.app N223 N224q
    have O224 := O100.keep K224q all0
    have Kc224 := Kc100.trans K224q all0
    have fx225 := (V100.keep K224q nin0)
    obtain ⟨cq226, kq226, q226a, q226b, q226c⟩ := isOf hZ rfl ((e_a_NUMERIC_LESS_THAN_EQUALS hS).ext O224.2)
    obtain ⟨_, _, ⟨T226, L226, k226, n226⟩, -, X226, ⟨Lc226, hQ226, l226, y226, z226⟩, st226⟩ := X224.virtualBack hx (y := (⟨"com/example/menshen/menshen/policy/ConditionOperator", "isNegated", "()Z"⟩ : MethodName)) (z := (⟨"com/example/menshen/menshen/policy/ConditionOperator", "isNegated", "()Z"⟩ : MethodName)) hown (mvT hZ (hw _ (List.mem_of_getElem? (i := 58) rfl))) (mvT hZ (hw _ (List.mem_of_getElem? (i := 59) rfl))) (notFace_of_selects (args := #[]) (mvT hZ (hw _ (List.mem_of_getElem? (i := 61) rfl)))) (mvT hZ (hw _ (List.mem_of_getElem? (i := 61) rfl))) (mvT hZ (hw _ (List.mem_of_getElem? (i := 60) rfl))) (by decide) (backOf (W := 0) (rm2n l Z a0 hw hS [] (a_NUMERIC_LESS_THAN_EQUALS Z) T224.heap n0 O224 ((f_a_NUMERIC_LESS_THAN_EQUALS_negationOf hS).ext O224.2)) hZ (hw _ (List.mem_of_getElem? (i := 62) rfl)) (hw _ (List.mem_of_getElem? (i := 3) rfl)) (by decide) (by decide)) q226a q226c (g := (mkF m 354 #[oI p0, oR b7, oR b54, oI (12 : Int32), oR (a_NUMERIC_LESS_THAN_EQUALS Z), oR (a_NUMERIC_LESS_THAN_EQUALS Z)] [(.ref (a_NUMERIC_LESS_THAN_EQUALS Z))])) rfl (by rw [hml]; rfl) (Steps.refl _) (argsL := []) (rest := []) (lenOf pd_1 rfl) rfl (by show 2 * 0 + _ ≤ _; exact Nat.le_of_eq rfl) (hb hby at_354) (fun _ _ => ⟨rfl, rfl, (by decide : 2 + 0 ≤ _), (by decide : 46 + 0 ≤ _)⟩)
    dsimp only [Pt.U, Pt.locs, Pt.cells, Pt.slots] at X226 l226 y226 z226 st226 hQ226
    subst l226 y226 z226
    obtain ⟨v226, N226q, K226q⟩ := hQ226
    have w226 : (fn2n Z (a_NUMERIC_LESS_THAN_EQUALS Z)) = (0 : Int32) := rfl
    rw [w226] at v226
    subst v226
    have N226 := Fr.app N224 N226q
    have O226 := O224.keep K226q all0
    have Kc226 := Kc224.trans K226q all0
    obtain ⟨cq227, kq227, q227a, q227b, q227c⟩ := isOf hZ rfl ((e_a_NUMERIC_LESS_THAN_EQUALS hS).ext O226.2)
    obtain ⟨_, _, ⟨T227, L227, k227, n227⟩, -, X227, ⟨Lc227, hQ227, l227, y227, z227⟩, st227⟩ := X226.virtualBack hx (y := (⟨"com/example/menshen/menshen/policy/ConditionOperator", "positive", "()Lcom/example/menshen/menshen/policy/ConditionOperator;"⟩ : MethodName)) (z := (⟨"com/example/menshen/menshen/policy/ConditionOperator", "positive", "()Lcom/example/menshen/menshen/policy/ConditionOperator;"⟩ : MethodName)) hown (mvT hZ (hw _ (List.mem_of_getElem? (i := 51) rfl))) (mvT hZ (hw _ (List.mem_of_getElem? (i := 52) rfl))) (notFace_of_selects (args := #[]) (mvT hZ (hw _ (List.mem_of_getElem? (i := 54) rfl)))) (mvT hZ (hw _ (List.mem_of_getElem? (i := 54) rfl))) (mvT hZ (hw _ (List.mem_of_getElem? (i := 53) rfl))) (by decide) (backOf (W := 0) (rm1n l Z a0 hw hS [] (a_NUMERIC_LESS_THAN_EQUALS Z) T226.heap n0 O226 ((f_a_NUMERIC_LESS_THAN_EQUALS_negationOf hS).ext O226.2)) hZ (hw _ (List.mem_of_getElem? (i := 55) rfl)) (hw _ (List.mem_of_getElem? (i := 3) rfl)) (by decide) (by decide)) q227a q227c (g := (mkF m 364 #[oI p0, oR b7, oR b54, oI (12 : Int32), oR (a_NUMERIC_LESS_THAN_EQUALS Z), oR (a_NUMERIC_LESS_THAN_EQUALS Z)] [(.ref (a_NUMERIC_LESS_THAN_EQUALS Z))])) rfl (by rw [hml]; rfl) (Steps.refl _) (argsL := []) (rest := []) (lenOf pd_0 rfl) rfl (by show 2 * 0 + _ ≤ _; exact Nat.le_of_eq rfl) (hb hby at_364) (fun _ _ => ⟨rfl, rfl, (by decide : 2 + 0 ≤ _), (by decide : 46 + 0 ≤ _)⟩)
    dsimp only [Pt.U, Pt.locs, Pt.cells, Pt.slots] at X227 l227 y227 z227 st227 hQ227
    subst l227 y227 z227
    obtain ⟨v227, N227q, K227q⟩ := hQ227
    have w227 : (fn1n Z (a_NUMERIC_LESS_THAN_EQUALS Z)) = (a_NUMERIC_LESS_THAN_EQUALS Z) := rfl
    rw [w227] at v227
    subst v227
    have N227 := Fr.app N226 N227q
    have O227 := O226.keep K227q all0
    have Kc227 := Kc226.trans K227q all0
    obtain ⟨cq228, kq228, q228a, q228b, q228c⟩ := isOf hZ rfl ((e_a_NUMERIC_LESS_THAN_EQUALS hS).ext O227.2)
    obtain ⟨_, _, ⟨T228, L228, k228, n228⟩, -, X228, ⟨Lc228, hQ228, l228, y228, z228⟩, st228⟩ := X227.virtualBack hx (y := (⟨"com/example/menshen/menshen/policy/ConditionOperator", "literals", "()Lcom/example/menshen/menshen/policy/ConditionOperator$Literals;"⟩ : MethodName)) (z := (⟨"com/example/menshen/menshen/policy/ConditionOperator", "literals", "()Lcom/example/menshen/menshen/policy/ConditionOperator$Literals;"⟩ : MethodName)) hown (mvT hZ (hw _ (List.mem_of_getElem? (i := 63) rfl))) (mvT hZ (hw _ (List.mem_of_getElem? (i := 64) rfl))) (notFace_of_selects (args := #[]) (mvT hZ (hw _ (List.mem_of_getElem? (i := 66) rfl)))) (mvT hZ (hw _ (List.mem_of_getElem? (i := 66) rfl))) (mvT hZ (hw _ (List.mem_of_getElem? (i := 65) rfl))) (by decide) (backOf (W := 0) (rm3 l Z a0 hw hS [] (a_NUMERIC_LESS_THAN_EQUALS Z) (a_NUMBERS Z) T227.heap n0 O227 ((f_a_NUMERIC_LESS_THAN_EQUALS_literals hS).ext O227.2)) hZ (hw _ (List.mem_of_getElem? (i := 67) rfl)) (hw _ (List.mem_of_getElem? (i := 3) rfl)) (by decide) (by decide)) q228a q228c (g := (mkF m 376 #[oI p0, oR b7, oR b54, oI (12 : Int32), oR (a_NUMERIC_LESS_THAN_EQUALS Z), oR (a_NUMERIC_LESS_THAN_EQUALS Z)] [(.ref (a_NUMERIC_LESS_THAN_EQUALS Z))])) rfl (by rw [hml]; rfl) (Steps.refl _) (argsL := []) (rest := []) (lenOf pd_2 rfl) rfl (by show 2 * 0 + _ ≤ _; exact Nat.le_of_eq rfl) (hb hby at_376) (fun _ _ => ⟨rfl, rfl, (by decide : 2 + 0 ≤ _), (by decide : 46 + 0 ≤ _)⟩)
    dsimp only [Pt.U, Pt.locs, Pt.cells, Pt.slots] at X228 l228 y228 z228 st228 hQ228
    subst l228 y228 z228
    obtain ⟨v228, N228q, K228q⟩ := hQ228
    have w228 : (fn3 Z (a_NUMERIC_LESS_THAN_EQUALS Z) (a_NUMBERS Z)) = (a_NUMBERS Z) := rfl
    rw [w228] at v228
    subst v228
    have N228 := Fr.app N227 N228q
    have O228 := O227.keep K228q all0
    have Kc228 := Kc227.trans K228q all0
    obtain ⟨cq229, kq229, q229a, q229b, q229c⟩ := isOf hZ rfl ((e_a_NUMERIC_LESS_THAN_EQUALS hS).ext O228.2)
    obtain ⟨_, _, ⟨T229, L229, k229, n229⟩, -, X229, ⟨Lc229, hQ229, l229, y229, z229⟩, st229⟩ := X228.virtualBack hx (y := (⟨"com/example/menshen/menshen/policy/ConditionOperator", "literals", "()Lcom/example/menshen/menshen/policy/ConditionOperator$Literals;"⟩ : MethodName)) (z := (⟨"com/example/menshen/menshen/policy/ConditionOperator", "literals", "()Lcom/example/menshen/menshen/policy/ConditionOperator$Literals;"⟩ : MethodName)) hown (mvT hZ (hw _ (List.mem_of_getElem? (i := 63) rfl))) (mvT hZ (hw _ (List.mem_of_getElem? (i := 64) rfl))) (notFace_of_selects (args := #[]) (mvT hZ (hw _ (List.mem_of_getElem? (i := 66) rfl)))) (mvT hZ (hw _ (List.mem_of_getElem? (i := 66) rfl))) (mvT hZ (hw _ (List.mem_of_getElem? (i := 65) rfl))) (by decide) (backOf (W := 1) (rm3 l Z a0 hw hS [] (a_NUMERIC_LESS_THAN_EQUALS Z) (a_NUMBERS Z) T228.heap n0 O228 ((f_a_NUMERIC_LESS_THAN_EQUALS_literals hS).ext O228.2)) hZ (hw _ (List.mem_of_getElem? (i := 67) rfl)) (hw _ (List.mem_of_getElem? (i := 3) rfl)) (by decide) (by decide)) q229a q229c (g := (mkF m 381 #[oI p0, oR b7, oR b54, oI (12 : Int32), oR (a_NUMERIC_LESS_THAN_EQUALS Z), oR (a_NUMERIC_LESS_THAN_EQUALS Z)] [(.ref (a_NUMERIC_LESS_THAN_EQUALS Z)), (.ref (a_NUMBERS Z))])) rfl (by rw [hml]; rfl) (Steps.refl _) (argsL := []) (rest := [(.ref (a_NUMBERS Z))]) (lenOf pd_2 rfl) rfl (by show 2 * 0 + _ ≤ _; exact Nat.le_of_eq rfl) (hb hby at_381) (fun _ _ => ⟨rfl, rfl, (by decide : 2 + 0 ≤ _), (by decide : 46 + 0 ≤ _)⟩)
    dsimp only [Pt.U, Pt.locs, Pt.cells, Pt.slots] at X229 l229 y229 z229 st229 hQ229
    subst l229 y229 z229
    obtain ⟨v229, N229q, K229q⟩ := hQ229
    have w229 : (fn3 Z (a_NUMERIC_LESS_THAN_EQUALS Z) (a_NUMBERS Z)) = (a_NUMBERS Z) := rfl
    rw [w229] at v229
    subst v229
    have N229 := Fr.app N228 N229q
    have O229 := O228.keep K229q all0
    have Kc229 := Kc228.trans K229q all0
    obtain ⟨lo230, X230, N230⟩ := own_hide X229 N229
    obtain ⟨cq231, kq231, q231a, q231b, q231c⟩ := isOf hZ rfl ((e_a_NUMERIC_LESS_THAN_EQUALS hS).ext O229.2)
    obtain ⟨_, _, ⟨T231, L231, k231, n231⟩, -, X231, ⟨Lc231, hQ231, l231, y231, z231⟩, st231⟩ := X230.virtualBack hx (y := (⟨"com/example/menshen/menshen/policy/ConditionOperator", "isNegated", "()Z"⟩ : MethodName)) (z := (⟨"com/example/menshen/menshen/policy/ConditionOperator", "isNegated", "()Z"⟩ : MethodName)) hown (mvT hZ (hw _ (List.mem_of_getElem? (i := 58) rfl))) (mvT hZ (hw _ (List.mem_of_getElem? (i := 59) rfl))) (notFace_of_selects (args := #[]) (mvT hZ (hw _ (List.mem_of_getElem? (i := 61) rfl)))) (mvT hZ (hw _ (List.mem_of_getElem? (i := 61) rfl))) (mvT hZ (hw _ (List.mem_of_getElem? (i := 60) rfl))) (by decide) (backOf (W := 0) (rm2n l Z a0 hw hS [] (a_NUMERIC_LESS_THAN_EQUALS Z) T229.heap n0 O229 ((f_a_NUMERIC_LESS_THAN_EQUALS_negationOf hS).ext O229.2)) hZ (hw _ (List.mem_of_getElem? (i := 62) rfl)) (hw _ (List.mem_of_getElem? (i := 3) rfl)) (by decide) (by decide)) q231a q231c (g := (mkF m 391 #[oI p0, oR b7, oR b54, oI (12 : Int32), oR (a_NUMERIC_LESS_THAN_EQUALS Z), oR (a_NUMERIC_LESS_THAN_EQUALS Z)] [(.ref (a_NUMERIC_LESS_THAN_EQUALS Z))])) rfl (by rw [hml]; rfl) (Steps.refl _) (argsL := []) (rest := []) (lenOf pd_1 rfl) rfl (by show 2 * 0 + _ ≤ _; exact Nat.le_of_eq rfl) (hb hby at_391) (fun _ _ => ⟨rfl, rfl, (by decide : 2 + 0 ≤ _), (by decide : 46 + 0 ≤ _)⟩)
    dsimp only [Pt.U, Pt.locs, Pt.cells, Pt.slots] at X231 l231 y231 z231 st231 hQ231
    subst l231 y231 z231
    obtain ⟨v231, N231q, K231q⟩ := hQ231
    have w231 : (fn2n Z (a_NUMERIC_LESS_THAN_EQUALS Z)) = (0 : Int32) := rfl
    rw [w231] at v231
    subst v231
    have N231 := Fr.app N230 N231q
    have O231 := O229.keep K231q all0
    have Kc231 := Kc229.trans K231q all0
    obtain ⟨fs, hr, hrun, hended, hW, hsame⟩ := X231.leave (v := some (.int (1 : Int32))) (fun h => by rw [Bd.returns] at h; cases h)
    refine ⟨_, _, pre101 _ ?_, hrun, hended, _, _, rfl, ?_, ⟨_, rfl⟩, hW, hsame.mono (by decide) (by decide)⟩
    · show oP p e below T100 (mkF m 329 #[oI p0, oR b7, oR b54, oU, oU, oU] [(.int (12 : Int32))]) _
      refine XS.istoreN X100.here hx rfl (hb hby at_329) rfl (l' := #[oI p0, oR b7, oR b54, oI (12 : Int32), oU, oU]) rfl ?_
      show oP p e below T100 (mkF m 330 #[oI p0, oR b7, oR b54, oI (12 : Int32), oU, oU] []) _
      refine XS.aloadN X100.here hx rfl (hb hby at_330) rfl rfl ?_
      show oP p e below T100 (mkF m 331 #[oI p0, oR b7, oR b54, oI (12 : Int32), oU, oU] [(.ref b7)]) _
      refine XS.iloadN X100.here hx rfl (hb hby at_331) rfl ?_
      show oP p e below T100 (mkF m 332 #[oI p0, oR b7, oR b54, oI (12 : Int32), oU, oU] [(.int (12 : Int32)), (.ref b7)]) _
      refine own_aaload X100 hx hZ e100 fx222 rfl (j := (12 : Int32)) ⟨by decide, by decide⟩ (v := (.ref (a_NUMERIC_LESS_THAN_EQUALS Z))) rfl (g := (mkF m 332 #[oI p0, oR b7, oR b54, oI (12 : Int32), oU, oU] [(.int (12 : Int32)), (.ref b7)])) rfl rfl (hb hby at_332) _ ?_
      show oP p e below T100 (mkF m 333 #[oI p0, oR b7, oR b54, oI (12 : Int32), oU, oU] [(.ref (a_NUMERIC_LESS_THAN_EQUALS Z))]) _
      refine XS.astore X100.here hx rfl (hb hby at_333) rfl rfl (l' := #[oI p0, oR b7, oR b54, oI (12 : Int32), oR (a_NUMERIC_LESS_THAN_EQUALS Z), oU]) rfl ?_
      show oP p e below T100 (mkF m 335 #[oI p0, oR b7, oR b54, oI (12 : Int32), oR (a_NUMERIC_LESS_THAN_EQUALS Z), oU] []) _
      refine XS.aload X100.here hx rfl (hb hby at_335) rfl rfl ?_
      show oP p e below T100 (mkF m 337 #[oI p0, oR b7, oR b54, oI (12 : Int32), oR (a_NUMERIC_LESS_THAN_EQUALS Z), oU] [(.ref (a_NUMERIC_LESS_THAN_EQUALS Z))]) _
      refine st224.trans ?_
      show oP p e below T224 (mkF m 340 #[oI p0, oR b7, oR b54, oI (12 : Int32), oR (a_NUMERIC_LESS_THAN_EQUALS Z), oU] [(.ref (a_NUMERIC_LESS_THAN_EQUALS Z))]) _
      refine XS.astore X224.here hx rfl (hb hby at_340) rfl rfl (l' := #[oI p0, oR b7, oR b54, oI (12 : Int32), oR (a_NUMERIC_LESS_THAN_EQUALS Z), oR (a_NUMERIC_LESS_THAN_EQUALS Z)]) rfl ?_
      show oP p e below T224 (mkF m 342 #[oI p0, oR b7, oR b54, oI (12 : Int32), oR (a_NUMERIC_LESS_THAN_EQUALS Z), oR (a_NUMERIC_LESS_THAN_EQUALS Z)] []) _
      refine XS.aload X224.here hx rfl (hb hby at_342) rfl rfl ?_
      show oP p e below T224 (mkF m 344 #[oI p0, oR b7, oR b54, oI (12 : Int32), oR (a_NUMERIC_LESS_THAN_EQUALS Z), oR (a_NUMERIC_LESS_THAN_EQUALS Z)] [(.ref (a_NUMERIC_LESS_THAN_EQUALS Z))]) _
      refine XS.aloadN X224.here hx rfl (hb hby at_344) rfl rfl ?_
      show oP p e below T224 (mkF m 345 #[oI p0, oR b7, oR b54, oI (12 : Int32), oR (a_NUMERIC_LESS_THAN_EQUALS Z), oR (a_NUMERIC_LESS_THAN_EQUALS Z)] [(.ref b54), (.ref (a_NUMERIC_LESS_THAN_EQUALS Z))]) _
      refine XS.iloadN X224.here hx rfl (hb hby at_345) rfl ?_
      show oP p e below T224 (mkF m 346 #[oI p0, oR b7, oR b54, oI (12 : Int32), oR (a_NUMERIC_LESS_THAN_EQUALS Z), oR (a_NUMERIC_LESS_THAN_EQUALS Z)] [(.int (12 : Int32)), (.ref b54), (.ref (a_NUMERIC_LESS_THAN_EQUALS Z))]) _
      refine own_aaload X224 hx hZ rfl fx225 rfl (j := (12 : Int32)) ⟨by decide, by decide⟩ (v := (.ref (a_NUMERIC_LESS_THAN_EQUALS Z))) rfl (g := (mkF m 346 #[oI p0, oR b7, oR b54, oI (12 : Int32), oR (a_NUMERIC_LESS_THAN_EQUALS Z), oR (a_NUMERIC_LESS_THAN_EQUALS Z)] [(.int (12 : Int32)), (.ref b54), (.ref (a_NUMERIC_LESS_THAN_EQUALS Z))])) rfl rfl (hb hby at_346) _ ?_
      show oP p e below T224 (mkF m 347 #[oI p0, oR b7, oR b54, oI (12 : Int32), oR (a_NUMERIC_LESS_THAN_EQUALS Z), oR (a_NUMERIC_LESS_THAN_EQUALS Z)] [(.ref (a_NUMERIC_LESS_THAN_EQUALS Z)), (.ref (a_NUMERIC_LESS_THAN_EQUALS Z))]) _
      refine Jvm.RoadKit.acmp (g := (mkF m 347 #[oI p0, oR b7, oR b54, oI (12 : Int32), oR (a_NUMERIC_LESS_THAN_EQUALS Z), oR (a_NUMERIC_LESS_THAN_EQUALS Z)] [(.ref (a_NUMERIC_LESS_THAN_EQUALS Z)), (.ref (a_NUMERIC_LESS_THAN_EQUALS Z))])) X224 hx rfl rfl rfl (pc0 := 347) (pc' := 352) (same := true) rfl (hb hby at_347) rfl (decide_eq_true (congrArg Value.ref (rfl : (a_NUMERIC_LESS_THAN_EQUALS Z) = (a_NUMERIC_LESS_THAN_EQUALS Z)))) (by decide) (by decide) ?_
      show oP p e below T224 (mkF m 352 #[oI p0, oR b7, oR b54, oI (12 : Int32), oR (a_NUMERIC_LESS_THAN_EQUALS Z), oR (a_NUMERIC_LESS_THAN_EQUALS Z)] []) _
      refine XS.aload X224.here hx rfl (hb hby at_352) rfl rfl ?_
      show oP p e below T224 (mkF m 354 #[oI p0, oR b7, oR b54, oI (12 : Int32), oR (a_NUMERIC_LESS_THAN_EQUALS Z), oR (a_NUMERIC_LESS_THAN_EQUALS Z)] [(.ref (a_NUMERIC_LESS_THAN_EQUALS Z))]) _
      refine st226.trans ?_
      show oP p e below T226 (mkF m 357 #[oI p0, oR b7, oR b54, oI (12 : Int32), oR (a_NUMERIC_LESS_THAN_EQUALS Z), oR (a_NUMERIC_LESS_THAN_EQUALS Z)] [(.int (0 : Int32))]) _
      refine XS.ifYes X226.here hx rfl (pc0 := 357) (pc' := 362) rfl (hb hby at_357) rfl ((if0 _ _).trans (teq (by decide : (0 : Int32) = (0 : Int32))).1) (by decide) (by decide) ?_
      show oP p e below T226 (mkF m 362 #[oI p0, oR b7, oR b54, oI (12 : Int32), oR (a_NUMERIC_LESS_THAN_EQUALS Z), oR (a_NUMERIC_LESS_THAN_EQUALS Z)] []) _
      refine XS.aload X226.here hx rfl (hb hby at_362) rfl rfl ?_
      show oP p e below T226 (mkF m 364 #[oI p0, oR b7, oR b54, oI (12 : Int32), oR (a_NUMERIC_LESS_THAN_EQUALS Z), oR (a_NUMERIC_LESS_THAN_EQUALS Z)] [(.ref (a_NUMERIC_LESS_THAN_EQUALS Z))]) _
      refine st227.trans ?_
      show oP p e below T227 (mkF m 367 #[oI p0, oR b7, oR b54, oI (12 : Int32), oR (a_NUMERIC_LESS_THAN_EQUALS Z), oR (a_NUMERIC_LESS_THAN_EQUALS Z)] [(.ref (a_NUMERIC_LESS_THAN_EQUALS Z))]) _
      refine XS.aload X227.here hx rfl (hb hby at_367) rfl rfl ?_
      show oP p e below T227 (mkF m 369 #[oI p0, oR b7, oR b54, oI (12 : Int32), oR (a_NUMERIC_LESS_THAN_EQUALS Z), oR (a_NUMERIC_LESS_THAN_EQUALS Z)] [(.ref (a_NUMERIC_LESS_THAN_EQUALS Z)), (.ref (a_NUMERIC_LESS_THAN_EQUALS Z))]) _
      refine Jvm.RoadKit.acmp (g := (mkF m 369 #[oI p0, oR b7, oR b54, oI (12 : Int32), oR (a_NUMERIC_LESS_THAN_EQUALS Z), oR (a_NUMERIC_LESS_THAN_EQUALS Z)] [(.ref (a_NUMERIC_LESS_THAN_EQUALS Z)), (.ref (a_NUMERIC_LESS_THAN_EQUALS Z))])) X227 hx rfl rfl rfl (pc0 := 369) (pc' := 374) (same := true) rfl (hb hby at_369) rfl (decide_eq_true (congrArg Value.ref (rfl : (a_NUMERIC_LESS_THAN_EQUALS Z) = (a_NUMERIC_LESS_THAN_EQUALS Z)))) (by decide) (by decide) ?_
      show oP p e below T227 (mkF m 374 #[oI p0, oR b7, oR b54, oI (12 : Int32), oR (a_NUMERIC_LESS_THAN_EQUALS Z), oR (a_NUMERIC_LESS_THAN_EQUALS Z)] []) _
      refine XS.aload X227.here hx rfl (hb hby at_374) rfl rfl ?_
      show oP p e below T227 (mkF m 376 #[oI p0, oR b7, oR b54, oI (12 : Int32), oR (a_NUMERIC_LESS_THAN_EQUALS Z), oR (a_NUMERIC_LESS_THAN_EQUALS Z)] [(.ref (a_NUMERIC_LESS_THAN_EQUALS Z))]) _
      refine st228.trans ?_
      show oP p e below T228 (mkF m 379 #[oI p0, oR b7, oR b54, oI (12 : Int32), oR (a_NUMERIC_LESS_THAN_EQUALS Z), oR (a_NUMERIC_LESS_THAN_EQUALS Z)] [(.ref (a_NUMBERS Z))]) _
      refine XS.aload X228.here hx rfl (hb hby at_379) rfl rfl ?_
      show oP p e below T228 (mkF m 381 #[oI p0, oR b7, oR b54, oI (12 : Int32), oR (a_NUMERIC_LESS_THAN_EQUALS Z), oR (a_NUMERIC_LESS_THAN_EQUALS Z)] [(.ref (a_NUMERIC_LESS_THAN_EQUALS Z)), (.ref (a_NUMBERS Z))]) _
      refine st229.trans ?_
      show oP p e below T229 (mkF m 384 #[oI p0, oR b7, oR b54, oI (12 : Int32), oR (a_NUMERIC_LESS_THAN_EQUALS Z), oR (a_NUMERIC_LESS_THAN_EQUALS Z)] [(.ref (a_NUMBERS Z)), (.ref (a_NUMBERS Z))]) _
      refine Jvm.RoadKit.acmp (g := (mkF m 384 #[oI p0, oR b7, oR b54, oI (12 : Int32), oR (a_NUMERIC_LESS_THAN_EQUALS Z), oR (a_NUMERIC_LESS_THAN_EQUALS Z)] [(.ref (a_NUMBERS Z)), (.ref (a_NUMBERS Z))])) X229 hx rfl rfl rfl (pc0 := 384) (pc' := 389) (same := true) rfl (hb hby at_384) rfl (decide_eq_true (congrArg Value.ref (rfl : (a_NUMBERS Z) = (a_NUMBERS Z)))) (by decide) (by decide) ?_
      show oP p e below T229 (mkF m 389 #[oI p0, oR b7, oR b54, oI (12 : Int32), oR (a_NUMERIC_LESS_THAN_EQUALS Z), oR (a_NUMERIC_LESS_THAN_EQUALS Z)] []) _
      refine XS.aload X229.here hx rfl (hb hby at_389) rfl rfl ?_
      show oP p e below T229 (mkF m 391 #[oI p0, oR b7, oR b54, oI (12 : Int32), oR (a_NUMERIC_LESS_THAN_EQUALS Z), oR (a_NUMERIC_LESS_THAN_EQUALS Z)] [(.ref (a_NUMERIC_LESS_THAN_EQUALS Z))]) _
      refine st231.trans ?_
      show oP p e below T231 (mkF m 394 #[oI p0, oR b7, oR b54, oI (12 : Int32), oR (a_NUMERIC_LESS_THAN_EQUALS Z), oR (a_NUMERIC_LESS_THAN_EQUALS Z)] [(.int (0 : Int32))]) _
      refine XS.aload X231.here hx rfl (hb hby at_394) rfl rfl ?_
      show oP p e below T231 (mkF m 396 #[oI p0, oR b7, oR b54, oI (12 : Int32), oR (a_NUMERIC_LESS_THAN_EQUALS Z), oR (a_NUMERIC_LESS_THAN_EQUALS Z)] [(.ref (a_NUMERIC_LESS_THAN_EQUALS Z)), (.int (0 : Int32))]) _
      refine XS.aload X231.here hx rfl (hb hby at_396) rfl rfl ?_
      show oP p e below T231 (mkF m 398 #[oI p0, oR b7, oR b54, oI (12 : Int32), oR (a_NUMERIC_LESS_THAN_EQUALS Z), oR (a_NUMERIC_LESS_THAN_EQUALS Z)] [(.ref (a_NUMERIC_LESS_THAN_EQUALS Z)), (.ref (a_NUMERIC_LESS_THAN_EQUALS Z)), (.int (0 : Int32))]) _
      refine Jvm.RoadKit.acmp (g := (mkF m 398 #[oI p0, oR b7, oR b54, oI (12 : Int32), oR (a_NUMERIC_LESS_THAN_EQUALS Z), oR (a_NUMERIC_LESS_THAN_EQUALS Z)] [(.ref (a_NUMERIC_LESS_THAN_EQUALS Z)), (.ref (a_NUMERIC_LESS_THAN_EQUALS Z)), (.int (0 : Int32))])) X231 hx rfl rfl rfl (pc0 := 398) (pc' := 405) (same := true) rfl (hb hby at_398) rfl (decide_eq_true (congrArg Value.ref (rfl : (a_NUMERIC_LESS_THAN_EQUALS Z) = (a_NUMERIC_LESS_THAN_EQUALS Z)))) (by decide) (by decide) ?_
      show oP p e below T231 (mkF m 405 #[oI p0, oR b7, oR b54, oI (12 : Int32), oR (a_NUMERIC_LESS_THAN_EQUALS Z), oR (a_NUMERIC_LESS_THAN_EQUALS Z)] [(.int (0 : Int32))]) _
      refine XS.iconst X231.here hx rfl (hb hby at_405) ?_
      show oP p e below T231 (mkF m 406 #[oI p0, oR b7, oR b54, oI (12 : Int32), oR (a_NUMERIC_LESS_THAN_EQUALS Z), oR (a_NUMERIC_LESS_THAN_EQUALS Z)] [(.int (0 : Int32)), (.int (0 : Int32))]) _
      refine XS.icmpNo X231.here hx rfl (hb hby at_406) rfl (teq (by decide : (0 : Int32) = (0 : Int32))).2 ?_
      show oP p e below T231 (mkF m 409 #[oI p0, oR b7, oR b54, oI (12 : Int32), oR (a_NUMERIC_LESS_THAN_EQUALS Z), oR (a_NUMERIC_LESS_THAN_EQUALS Z)] []) _
      refine XS.iconst X231.here hx rfl (hb hby at_409) ?_
      show oP p e below T231 (mkF m 410 #[oI p0, oR b7, oR b54, oI (12 : Int32), oR (a_NUMERIC_LESS_THAN_EQUALS Z), oR (a_NUMERIC_LESS_THAN_EQUALS Z)] [(.int (1 : Int32))]) _
      refine XS.goto X231.here hx rfl (pc0 := 410) (pc' := 414) rfl (hb hby at_410) (by decide) (by decide) ?_
      show oP p e below T231 (mkF m 414 #[oI p0, oR b7, oR b54, oI (12 : Int32), oR (a_NUMERIC_LESS_THAN_EQUALS Z), oR (a_NUMERIC_LESS_THAN_EQUALS Z)] [(.int (1 : Int32))]) _
      exact retN X231 hx (t := .boolean) Bd.returns (by simp) (hb hby at_414) hr
    · show (some (.int (1 : Int32)) : Option Value) = some (.int (1 : Int32)) ∧ Fr n0 _ ∧ Keep h0 T231.heap []
      exact ⟨rfl, N231, Kc231⟩
  · have fx232 := ((((((((((((((((((((((((V53.ext E54).other W56 ne_b7_b54).other W58 ne_b7_b54).other W60 ne_b7_b54).other W62 ne_b7_b54).other W64 ne_b7_b54).other W66 ne_b7_b54).other W68 ne_b7_b54).other W70 ne_b7_b54).other W72 ne_b7_b54).other W74 ne_b7_b54).other W76 ne_b7_b54).other W78 ne_b7_b54).other W80 ne_b7_b54).other W82 ne_b7_b54).other W84 ne_b7_b54).other W86 ne_b7_b54).other W88 ne_b7_b54).other W90 ne_b7_b54).other W92 ne_b7_b54).other W94 ne_b7_b54).other W96 ne_b7_b54).other W98 ne_b7_b54).other W100 ne_b7_b54)
    obtain ⟨lo233, X233, N233⟩ := own_hide X100 N100
    obtain ⟨cq234, kq234, q234a, q234b, q234c⟩ := isOf hZ e100 ((e_a_NUMERIC_GREATER_THAN hS).ext O100.2)
    obtain ⟨_, _, ⟨T234, L234, k234, n234⟩, -, X234, ⟨Lc234, hQ234, l234, y234, z234⟩, st234⟩ := X233.virtualBack hx (y := (⟨"com/example/menshen/menshen/policy/ConditionOperator", "positive", "()Lcom/example/menshen/menshen/policy/ConditionOperator;"⟩ : MethodName)) (z := (⟨"com/example/menshen/menshen/policy/ConditionOperator", "positive", "()Lcom/example/menshen/menshen/policy/ConditionOperator;"⟩ : MethodName)) hown (mvT hZ (hw _ (List.mem_of_getElem? (i := 51) rfl))) (mvT hZ (hw _ (List.mem_of_getElem? (i := 52) rfl))) (notFace_of_selects (args := #[]) (mvT hZ (hw _ (List.mem_of_getElem? (i := 54) rfl)))) (mvT hZ (hw _ (List.mem_of_getElem? (i := 54) rfl))) (mvT hZ (hw _ (List.mem_of_getElem? (i := 53) rfl))) (by decide) (backOf (W := 0) (rm1n l Z a0 hw hS [] (a_NUMERIC_GREATER_THAN Z) h100 n0 O100 ((f_a_NUMERIC_GREATER_THAN_negationOf hS).ext O100.2)) hZ (hw _ (List.mem_of_getElem? (i := 55) rfl)) (hw _ (List.mem_of_getElem? (i := 3) rfl)) (by decide) (by decide)) q234a q234c (g := (mkF m 337 #[oI p0, oR b7, oR b54, oI (13 : Int32), oR (a_NUMERIC_GREATER_THAN Z), oU] [(.ref (a_NUMERIC_GREATER_THAN Z))])) rfl (by rw [hml]; rfl) (Steps.refl _) (argsL := []) (rest := []) (lenOf pd_0 rfl) rfl (by show 2 * 0 + _ ≤ _; exact Nat.le_of_eq rfl) (hb hby at_337) (fun _ _ => ⟨rfl, e100, (by decide : 2 + 0 ≤ _), (by decide : 46 + 0 ≤ _)⟩)
    dsimp only [Pt.U, Pt.locs, Pt.cells, Pt.slots] at X234 l234 y234 z234 st234 hQ234
    subst l234 y234 z234
    obtain ⟨v234, N234q, K234q⟩ := hQ234
    have w234 : (fn1n Z (a_NUMERIC_GREATER_THAN Z)) = (a_NUMERIC_GREATER_THAN Z) := rfl
    rw [w234] at v234
    subst v234
    have N234 := Fr.app N233 N234q
    have O234 := O100.keep K234q all0
    have Kc234 := Kc100.trans K234q all0
    have fx235 := (V100.keep K234q nin0)
    obtain ⟨cq236, kq236, q236a, q236b, q236c⟩ := isOf hZ rfl ((e_a_NUMERIC_GREATER_THAN hS).ext O234.2)
    obtain ⟨_, _, ⟨T236, L236, k236, n236⟩, -, X236, ⟨Lc236, hQ236, l236, y236, z236⟩, st236⟩ := X234.virtualBack hx (y := (⟨"com/example/menshen/menshen/policy/ConditionOperator", "isNegated", "()Z"⟩ : MethodName)) (z := (⟨"com/example/menshen/menshen/policy/ConditionOperator", "isNegated", "()Z"⟩ : MethodName)) hown (mvT hZ (hw _ (List.mem_of_getElem? (i := 58) rfl))) (mvT hZ (hw _ (List.mem_of_getElem? (i := 59) rfl))) (notFace_of_selects (args := #[]) (mvT hZ (hw _ (List.mem_of_getElem? (i := 61) rfl)))) (mvT hZ (hw _ (List.mem_of_getElem? (i := 61) rfl))) (mvT hZ (hw _ (List.mem_of_getElem? (i := 60) rfl))) (by decide) (backOf (W := 0) (rm2n l Z a0 hw hS [] (a_NUMERIC_GREATER_THAN Z) T234.heap n0 O234 ((f_a_NUMERIC_GREATER_THAN_negationOf hS).ext O234.2)) hZ (hw _ (List.mem_of_getElem? (i := 62) rfl)) (hw _ (List.mem_of_getElem? (i := 3) rfl)) (by decide) (by decide)) q236a q236c (g := (mkF m 354 #[oI p0, oR b7, oR b54, oI (13 : Int32), oR (a_NUMERIC_GREATER_THAN Z), oR (a_NUMERIC_GREATER_THAN Z)] [(.ref (a_NUMERIC_GREATER_THAN Z))])) rfl (by rw [hml]; rfl) (Steps.refl _) (argsL := []) (rest := []) (lenOf pd_1 rfl) rfl (by show 2 * 0 + _ ≤ _; exact Nat.le_of_eq rfl) (hb hby at_354) (fun _ _ => ⟨rfl, rfl, (by decide : 2 + 0 ≤ _), (by decide : 46 + 0 ≤ _)⟩)
    dsimp only [Pt.U, Pt.locs, Pt.cells, Pt.slots] at X236 l236 y236 z236 st236 hQ236
    subst l236 y236 z236
    obtain ⟨v236, N236q, K236q⟩ := hQ236
    have w236 : (fn2n Z (a_NUMERIC_GREATER_THAN Z)) = (0 : Int32) := rfl
    rw [w236] at v236
    subst v236
    have N236 := Fr.app N234 N236q
    have O236 := O234.keep K236q all0
    have Kc236 := Kc234.trans K236q all0
    obtain ⟨cq237, kq237, q237a, q237b, q237c⟩ := isOf hZ rfl ((e_a_NUMERIC_GREATER_THAN hS).ext O236.2)
    obtain ⟨_, _, ⟨T237, L237, k237, n237⟩, -, X237, ⟨Lc237, hQ237, l237, y237, z237⟩, st237⟩ := X236.virtualBack hx (y := (⟨"com/example/menshen/menshen/policy/ConditionOperator", "positive", "()Lcom/example/menshen/menshen/policy/ConditionOperator;"⟩ : MethodName)) (z := (⟨"com/example/menshen/menshen/policy/ConditionOperator", "positive", "()Lcom/example/menshen/menshen/policy/ConditionOperator;"⟩ : MethodName)) hown (mvT hZ (hw _ (List.mem_of_getElem? (i := 51) rfl))) (mvT hZ (hw _ (List.mem_of_getElem? (i := 52) rfl))) (notFace_of_selects (args := #[]) (mvT hZ (hw _ (List.mem_of_getElem? (i := 54) rfl)))) (mvT hZ (hw _ (List.mem_of_getElem? (i := 54) rfl))) (mvT hZ (hw _ (List.mem_of_getElem? (i := 53) rfl))) (by decide) (backOf (W := 0) (rm1n l Z a0 hw hS [] (a_NUMERIC_GREATER_THAN Z) T236.heap n0 O236 ((f_a_NUMERIC_GREATER_THAN_negationOf hS).ext O236.2)) hZ (hw _ (List.mem_of_getElem? (i := 55) rfl)) (hw _ (List.mem_of_getElem? (i := 3) rfl)) (by decide) (by decide)) q237a q237c (g := (mkF m 364 #[oI p0, oR b7, oR b54, oI (13 : Int32), oR (a_NUMERIC_GREATER_THAN Z), oR (a_NUMERIC_GREATER_THAN Z)] [(.ref (a_NUMERIC_GREATER_THAN Z))])) rfl (by rw [hml]; rfl) (Steps.refl _) (argsL := []) (rest := []) (lenOf pd_0 rfl) rfl (by show 2 * 0 + _ ≤ _; exact Nat.le_of_eq rfl) (hb hby at_364) (fun _ _ => ⟨rfl, rfl, (by decide : 2 + 0 ≤ _), (by decide : 46 + 0 ≤ _)⟩)
    dsimp only [Pt.U, Pt.locs, Pt.cells, Pt.slots] at X237 l237 y237 z237 st237 hQ237
    subst l237 y237 z237
    obtain ⟨v237, N237q, K237q⟩ := hQ237
    have w237 : (fn1n Z (a_NUMERIC_GREATER_THAN Z)) = (a_NUMERIC_GREATER_THAN Z) := rfl
    rw [w237] at v237
    subst v237
    have N237 := Fr.app N236 N237q
    have O237 := O236.keep K237q all0
    have Kc237 := Kc236.trans K237q all0
    obtain ⟨cq238, kq238, q238a, q238b, q238c⟩ := isOf hZ rfl ((e_a_NUMERIC_GREATER_THAN hS).ext O237.2)
    obtain ⟨_, _, ⟨T238, L238, k238, n238⟩, -, X238, ⟨Lc238, hQ238, l238, y238, z238⟩, st238⟩ := X237.virtualBack hx (y := (⟨"com/example/menshen/menshen/policy/ConditionOperator", "literals", "()Lcom/example/menshen/menshen/policy/ConditionOperator$Literals;"⟩ : MethodName)) (z := (⟨"com/example/menshen/menshen/policy/ConditionOperator", "literals", "()Lcom/example/menshen/menshen/policy/ConditionOperator$Literals;"⟩ : MethodName)) hown (mvT hZ (hw _ (List.mem_of_getElem? (i := 63) rfl))) (mvT hZ (hw _ (List.mem_of_getElem? (i := 64) rfl))) (notFace_of_selects (args := #[]) (mvT hZ (hw _ (List.mem_of_getElem? (i := 66) rfl)))) (mvT hZ (hw _ (List.mem_of_getElem? (i := 66) rfl))) (mvT hZ (hw _ (List.mem_of_getElem? (i := 65) rfl))) (by decide) (backOf (W := 0) (rm3 l Z a0 hw hS [] (a_NUMERIC_GREATER_THAN Z) (a_NUMBERS Z) T237.heap n0 O237 ((f_a_NUMERIC_GREATER_THAN_literals hS).ext O237.2)) hZ (hw _ (List.mem_of_getElem? (i := 67) rfl)) (hw _ (List.mem_of_getElem? (i := 3) rfl)) (by decide) (by decide)) q238a q238c (g := (mkF m 376 #[oI p0, oR b7, oR b54, oI (13 : Int32), oR (a_NUMERIC_GREATER_THAN Z), oR (a_NUMERIC_GREATER_THAN Z)] [(.ref (a_NUMERIC_GREATER_THAN Z))])) rfl (by rw [hml]; rfl) (Steps.refl _) (argsL := []) (rest := []) (lenOf pd_2 rfl) rfl (by show 2 * 0 + _ ≤ _; exact Nat.le_of_eq rfl) (hb hby at_376) (fun _ _ => ⟨rfl, rfl, (by decide : 2 + 0 ≤ _), (by decide : 46 + 0 ≤ _)⟩)
    dsimp only [Pt.U, Pt.locs, Pt.cells, Pt.slots] at X238 l238 y238 z238 st238 hQ238
    subst l238 y238 z238
    obtain ⟨v238, N238q, K238q⟩ := hQ238
    have w238 : (fn3 Z (a_NUMERIC_GREATER_THAN Z) (a_NUMBERS Z)) = (a_NUMBERS Z) := rfl
    rw [w238] at v238
    subst v238
    have N238 := Fr.app N237 N238q
    have O238 := O237.keep K238q all0
    have Kc238 := Kc237.trans K238q all0
    obtain ⟨cq239, kq239, q239a, q239b, q239c⟩ := isOf hZ rfl ((e_a_NUMERIC_GREATER_THAN hS).ext O238.2)
    obtain ⟨_, _, ⟨T239, L239, k239, n239⟩, -, X239, ⟨Lc239, hQ239, l239, y239, z239⟩, st239⟩ := X238.virtualBack hx (y := (⟨"com/example/menshen/menshen/policy/ConditionOperator", "literals", "()Lcom/example/menshen/menshen/policy/ConditionOperator$Literals;"⟩ : MethodName)) (z := (⟨"com/example/menshen/menshen/policy/ConditionOperator", "literals", "()Lcom/example/menshen/menshen/policy/ConditionOperator$Literals;"⟩ : MethodName)) hown (mvT hZ (hw _ (List.mem_of_getElem? (i := 63) rfl))) (mvT hZ (hw _ (List.mem_of_getElem? (i := 64) rfl))) (notFace_of_selects (args := #[]) (mvT hZ (hw _ (List.mem_of_getElem? (i := 66) rfl)))) (mvT hZ (hw _ (List.mem_of_getElem? (i := 66) rfl))) (mvT hZ (hw _ (List.mem_of_getElem? (i := 65) rfl))) (by decide) (backOf (W := 1) (rm3 l Z a0 hw hS [] (a_NUMERIC_GREATER_THAN Z) (a_NUMBERS Z) T238.heap n0 O238 ((f_a_NUMERIC_GREATER_THAN_literals hS).ext O238.2)) hZ (hw _ (List.mem_of_getElem? (i := 67) rfl)) (hw _ (List.mem_of_getElem? (i := 3) rfl)) (by decide) (by decide)) q239a q239c (g := (mkF m 381 #[oI p0, oR b7, oR b54, oI (13 : Int32), oR (a_NUMERIC_GREATER_THAN Z), oR (a_NUMERIC_GREATER_THAN Z)] [(.ref (a_NUMERIC_GREATER_THAN Z)), (.ref (a_NUMBERS Z))])) rfl (by rw [hml]; rfl) (Steps.refl _) (argsL := []) (rest := [(.ref (a_NUMBERS Z))]) (lenOf pd_2 rfl) rfl (by show 2 * 0 + _ ≤ _; exact Nat.le_of_eq rfl) (hb hby at_381) (fun _ _ => ⟨rfl, rfl, (by decide : 2 + 0 ≤ _), (by decide : 46 + 0 ≤ _)⟩)
    dsimp only [Pt.U, Pt.locs, Pt.cells, Pt.slots] at X239 l239 y239 z239 st239 hQ239
    subst l239 y239 z239
    obtain ⟨v239, N239q, K239q⟩ := hQ239
    have w239 : (fn3 Z (a_NUMERIC_GREATER_THAN Z) (a_NUMBERS Z)) = (a_NUMBERS Z) := rfl
    rw [w239] at v239
    subst v239
    have N239 := Fr.app N238 N239q
    have O239 := O238.keep K239q all0
    have Kc239 := Kc238.trans K239q all0
    obtain ⟨lo240, X240, N240⟩ := own_hide X239 N239
    obtain ⟨cq241, kq241, q241a, q241b, q241c⟩ := isOf hZ rfl ((e_a_NUMERIC_GREATER_THAN hS).ext O239.2)
    obtain ⟨_, _, ⟨T241, L241, k241, n241⟩, -, X241, ⟨Lc241, hQ241, l241, y241, z241⟩, st241⟩ := X240.virtualBack hx (y := (⟨"com/example/menshen/menshen/policy/ConditionOperator", "isNegated", "()Z"⟩ : MethodName)) (z := (⟨"com/example/menshen/menshen/policy/ConditionOperator", "isNegated", "()Z"⟩ : MethodName)) hown (mvT hZ (hw _ (List.mem_of_getElem? (i := 58) rfl))) (mvT hZ (hw _ (List.mem_of_getElem? (i := 59) rfl))) (notFace_of_selects (args := #[]) (mvT hZ (hw _ (List.mem_of_getElem? (i := 61) rfl)))) (mvT hZ (hw _ (List.mem_of_getElem? (i := 61) rfl))) (mvT hZ (hw _ (List.mem_of_getElem? (i := 60) rfl))) (by decide) (backOf (W := 0) (rm2n l Z a0 hw hS [] (a_NUMERIC_GREATER_THAN Z) T239.heap n0 O239 ((f_a_NUMERIC_GREATER_THAN_negationOf hS).ext O239.2)) hZ (hw _ (List.mem_of_getElem? (i := 62) rfl)) (hw _ (List.mem_of_getElem? (i := 3) rfl)) (by decide) (by decide)) q241a q241c (g := (mkF m 391 #[oI p0, oR b7, oR b54, oI (13 : Int32), oR (a_NUMERIC_GREATER_THAN Z), oR (a_NUMERIC_GREATER_THAN Z)] [(.ref (a_NUMERIC_GREATER_THAN Z))])) rfl (by rw [hml]; rfl) (Steps.refl _) (argsL := []) (rest := []) (lenOf pd_1 rfl) rfl (by show 2 * 0 + _ ≤ _; exact Nat.le_of_eq rfl) (hb hby at_391) (fun _ _ => ⟨rfl, rfl, (by decide : 2 + 0 ≤ _), (by decide : 46 + 0 ≤ _)⟩)
    dsimp only [Pt.U, Pt.locs, Pt.cells, Pt.slots] at X241 l241 y241 z241 st241 hQ241
    subst l241 y241 z241
    obtain ⟨v241, N241q, K241q⟩ := hQ241
    have w241 : (fn2n Z (a_NUMERIC_GREATER_THAN Z)) = (0 : Int32) := rfl
    rw [w241] at v241
    subst v241
    have N241 := Fr.app N240 N241q
    have O241 := O239.keep K241q all0
    have Kc241 := Kc239.trans K241q all0
    obtain ⟨fs, hr, hrun, hended, hW, hsame⟩ := X241.leave (v := some (.int (1 : Int32))) (fun h => by rw [Bd.returns] at h; cases h)
    refine ⟨_, _, pre101 _ ?_, hrun, hended, _, _, rfl, ?_, ⟨_, rfl⟩, hW, hsame.mono (by decide) (by decide)⟩
    · show oP p e below T100 (mkF m 329 #[oI p0, oR b7, oR b54, oU, oU, oU] [(.int (13 : Int32))]) _
      refine XS.istoreN X100.here hx rfl (hb hby at_329) rfl (l' := #[oI p0, oR b7, oR b54, oI (13 : Int32), oU, oU]) rfl ?_
      show oP p e below T100 (mkF m 330 #[oI p0, oR b7, oR b54, oI (13 : Int32), oU, oU] []) _
      refine XS.aloadN X100.here hx rfl (hb hby at_330) rfl rfl ?_
      show oP p e below T100 (mkF m 331 #[oI p0, oR b7, oR b54, oI (13 : Int32), oU, oU] [(.ref b7)]) _
      refine XS.iloadN X100.here hx rfl (hb hby at_331) rfl ?_
      show oP p e below T100 (mkF m 332 #[oI p0, oR b7, oR b54, oI (13 : Int32), oU, oU] [(.int (13 : Int32)), (.ref b7)]) _
      refine own_aaload X100 hx hZ e100 fx232 rfl (j := (13 : Int32)) ⟨by decide, by decide⟩ (v := (.ref (a_NUMERIC_GREATER_THAN Z))) rfl (g := (mkF m 332 #[oI p0, oR b7, oR b54, oI (13 : Int32), oU, oU] [(.int (13 : Int32)), (.ref b7)])) rfl rfl (hb hby at_332) _ ?_
      show oP p e below T100 (mkF m 333 #[oI p0, oR b7, oR b54, oI (13 : Int32), oU, oU] [(.ref (a_NUMERIC_GREATER_THAN Z))]) _
      refine XS.astore X100.here hx rfl (hb hby at_333) rfl rfl (l' := #[oI p0, oR b7, oR b54, oI (13 : Int32), oR (a_NUMERIC_GREATER_THAN Z), oU]) rfl ?_
      show oP p e below T100 (mkF m 335 #[oI p0, oR b7, oR b54, oI (13 : Int32), oR (a_NUMERIC_GREATER_THAN Z), oU] []) _
      refine XS.aload X100.here hx rfl (hb hby at_335) rfl rfl ?_
      show oP p e below T100 (mkF m 337 #[oI p0, oR b7, oR b54, oI (13 : Int32), oR (a_NUMERIC_GREATER_THAN Z), oU] [(.ref (a_NUMERIC_GREATER_THAN Z))]) _
      refine st234.trans ?_
      show oP p e below T234 (mkF m 340 #[oI p0, oR b7, oR b54, oI (13 : Int32), oR (a_NUMERIC_GREATER_THAN Z), oU] [(.ref (a_NUMERIC_GREATER_THAN Z))]) _
      refine XS.astore X234.here hx rfl (hb hby at_340) rfl rfl (l' := #[oI p0, oR b7, oR b54, oI (13 : Int32), oR (a_NUMERIC_GREATER_THAN Z), oR (a_NUMERIC_GREATER_THAN Z)]) rfl ?_
      show oP p e below T234 (mkF m 342 #[oI p0, oR b7, oR b54, oI (13 : Int32), oR (a_NUMERIC_GREATER_THAN Z), oR (a_NUMERIC_GREATER_THAN Z)] []) _
      refine XS.aload X234.here hx rfl (hb hby at_342) rfl rfl ?_
      show oP p e below T234 (mkF m 344 #[oI p0, oR b7, oR b54, oI (13 : Int32), oR (a_NUMERIC_GREATER_THAN Z), oR (a_NUMERIC_GREATER_THAN Z)] [(.ref (a_NUMERIC_GREATER_THAN Z))]) _
      refine XS.aloadN X234.here hx rfl (hb hby at_344) rfl rfl ?_
      show oP p e below T234 (mkF m 345 #[oI p0, oR b7, oR b54, oI (13 : Int32), oR (a_NUMERIC_GREATER_THAN Z), oR (a_NUMERIC_GREATER_THAN Z)] [(.ref b54), (.ref (a_NUMERIC_GREATER_THAN Z))]) _
      refine XS.iloadN X234.here hx rfl (hb hby at_345) rfl ?_
      show oP p e below T234 (mkF m 346 #[oI p0, oR b7, oR b54, oI (13 : Int32), oR (a_NUMERIC_GREATER_THAN Z), oR (a_NUMERIC_GREATER_THAN Z)] [(.int (13 : Int32)), (.ref b54), (.ref (a_NUMERIC_GREATER_THAN Z))]) _
      refine own_aaload X234 hx hZ rfl fx235 rfl (j := (13 : Int32)) ⟨by decide, by decide⟩ (v := (.ref (a_NUMERIC_GREATER_THAN Z))) rfl (g := (mkF m 346 #[oI p0, oR b7, oR b54, oI (13 : Int32), oR (a_NUMERIC_GREATER_THAN Z), oR (a_NUMERIC_GREATER_THAN Z)] [(.int (13 : Int32)), (.ref b54), (.ref (a_NUMERIC_GREATER_THAN Z))])) rfl rfl (hb hby at_346) _ ?_
      show oP p e below T234 (mkF m 347 #[oI p0, oR b7, oR b54, oI (13 : Int32), oR (a_NUMERIC_GREATER_THAN Z), oR (a_NUMERIC_GREATER_THAN Z)] [(.ref (a_NUMERIC_GREATER_THAN Z)), (.ref (a_NUMERIC_GREATER_THAN Z))]) _
      refine Jvm.RoadKit.acmp (g := (mkF m 347 #[oI p0, oR b7, oR b54, oI (13 : Int32), oR (a_NUMERIC_GREATER_THAN Z), oR (a_NUMERIC_GREATER_THAN Z)] [(.ref (a_NUMERIC_GREATER_THAN Z)), (.ref (a_NUMERIC_GREATER_THAN Z))])) X234 hx rfl rfl rfl (pc0 := 347) (pc' := 352) (same := true) rfl (hb hby at_347) rfl (decide_eq_true (congrArg Value.ref (rfl : (a_NUMERIC_GREATER_THAN Z) = (a_NUMERIC_GREATER_THAN Z)))) (by decide) (by decide) ?_
      show oP p e below T234 (mkF m 352 #[oI p0, oR b7, oR b54, oI (13 : Int32), oR (a_NUMERIC_GREATER_THAN Z), oR (a_NUMERIC_GREATER_THAN Z)] []) _
      refine XS.aload X234.here hx rfl (hb hby at_352) rfl rfl ?_
      show oP p e below T234 (mkF m 354 #[oI p0, oR b7, oR b54, oI (13 : Int32), oR (a_NUMERIC_GREATER_THAN Z), oR (a_NUMERIC_GREATER_THAN Z)] [(.ref (a_NUMERIC_GREATER_THAN Z))]) _
      refine st236.trans ?_
      show oP p e below T236 (mkF m 357 #[oI p0, oR b7, oR b54, oI (13 : Int32), oR (a_NUMERIC_GREATER_THAN Z), oR (a_NUMERIC_GREATER_THAN Z)] [(.int (0 : Int32))]) _
      refine XS.ifYes X236.here hx rfl (pc0 := 357) (pc' := 362) rfl (hb hby at_357) rfl ((if0 _ _).trans (teq (by decide : (0 : Int32) = (0 : Int32))).1) (by decide) (by decide) ?_
      show oP p e below T236 (mkF m 362 #[oI p0, oR b7, oR b54, oI (13 : Int32), oR (a_NUMERIC_GREATER_THAN Z), oR (a_NUMERIC_GREATER_THAN Z)] []) _
      refine XS.aload X236.here hx rfl (hb hby at_362) rfl rfl ?_
      show oP p e below T236 (mkF m 364 #[oI p0, oR b7, oR b54, oI (13 : Int32), oR (a_NUMERIC_GREATER_THAN Z), oR (a_NUMERIC_GREATER_THAN Z)] [(.ref (a_NUMERIC_GREATER_THAN Z))]) _
      refine st237.trans ?_
      show oP p e below T237 (mkF m 367 #[oI p0, oR b7, oR b54, oI (13 : Int32), oR (a_NUMERIC_GREATER_THAN Z), oR (a_NUMERIC_GREATER_THAN Z)] [(.ref (a_NUMERIC_GREATER_THAN Z))]) _
      refine XS.aload X237.here hx rfl (hb hby at_367) rfl rfl ?_
      show oP p e below T237 (mkF m 369 #[oI p0, oR b7, oR b54, oI (13 : Int32), oR (a_NUMERIC_GREATER_THAN Z), oR (a_NUMERIC_GREATER_THAN Z)] [(.ref (a_NUMERIC_GREATER_THAN Z)), (.ref (a_NUMERIC_GREATER_THAN Z))]) _
      refine Jvm.RoadKit.acmp (g := (mkF m 369 #[oI p0, oR b7, oR b54, oI (13 : Int32), oR (a_NUMERIC_GREATER_THAN Z), oR (a_NUMERIC_GREATER_THAN Z)] [(.ref (a_NUMERIC_GREATER_THAN Z)), (.ref (a_NUMERIC_GREATER_THAN Z))])) X237 hx rfl rfl rfl (pc0 := 369) (pc' := 374) (same := true) rfl (hb hby at_369) rfl (decide_eq_true (congrArg Value.ref (rfl : (a_NUMERIC_GREATER_THAN Z) = (a_NUMERIC_GREATER_THAN Z)))) (by decide) (by decide) ?_
      show oP p e below T237 (mkF m 374 #[oI p0, oR b7, oR b54, oI (13 : Int32), oR (a_NUMERIC_GREATER_THAN Z), oR (a_NUMERIC_GREATER_THAN Z)] []) _
      refine XS.aload X237.here hx rfl (hb hby at_374) rfl rfl ?_
      show oP p e below T237 (mkF m 376 #[oI p0, oR b7, oR b54, oI (13 : Int32), oR (a_NUMERIC_GREATER_THAN Z), oR (a_NUMERIC_GREATER_THAN Z)] [(.ref (a_NUMERIC_GREATER_THAN Z))]) _
      refine st238.trans ?_
      show oP p e below T238 (mkF m 379 #[oI p0, oR b7, oR b54, oI (13 : Int32), oR (a_NUMERIC_GREATER_THAN Z), oR (a_NUMERIC_GREATER_THAN Z)] [(.ref (a_NUMBERS Z))]) _
      refine XS.aload X238.here hx rfl (hb hby at_379) rfl rfl ?_
      show oP p e below T238 (mkF m 381 #[oI p0, oR b7, oR b54, oI (13 : Int32), oR (a_NUMERIC_GREATER_THAN Z), oR (a_NUMERIC_GREATER_THAN Z)] [(.ref (a_NUMERIC_GREATER_THAN Z)), (.ref (a_NUMBERS Z))]) _
      refine st239.trans ?_
      show oP p e below T239 (mkF m 384 #[oI p0, oR b7, oR b54, oI (13 : Int32), oR (a_NUMERIC_GREATER_THAN Z), oR (a_NUMERIC_GREATER_THAN Z)] [(.ref (a_NUMBERS Z)), (.ref (a_NUMBERS Z))]) _
      refine Jvm.RoadKit.acmp (g := (mkF m 384 #[oI p0, oR b7, oR b54, oI (13 : Int32), oR (a_NUMERIC_GREATER_THAN Z), oR (a_NUMERIC_GREATER_THAN Z)] [(.ref (a_NUMBERS Z)), (.ref (a_NUMBERS Z))])) X239 hx rfl rfl rfl (pc0 := 384) (pc' := 389) (same := true) rfl (hb hby at_384) rfl (decide_eq_true (congrArg Value.ref (rfl : (a_NUMBERS Z) = (a_NUMBERS Z)))) (by decide) (by decide) ?_
      show oP p e below T239 (mkF m 389 #[oI p0, oR b7, oR b54, oI (13 : Int32), oR (a_NUMERIC_GREATER_THAN Z), oR (a_NUMERIC_GREATER_THAN Z)] []) _
      refine XS.aload X239.here hx rfl (hb hby at_389) rfl rfl ?_
      show oP p e below T239 (mkF m 391 #[oI p0, oR b7, oR b54, oI (13 : Int32), oR (a_NUMERIC_GREATER_THAN Z), oR (a_NUMERIC_GREATER_THAN Z)] [(.ref (a_NUMERIC_GREATER_THAN Z))]) _
      refine st241.trans ?_
      show oP p e below T241 (mkF m 394 #[oI p0, oR b7, oR b54, oI (13 : Int32), oR (a_NUMERIC_GREATER_THAN Z), oR (a_NUMERIC_GREATER_THAN Z)] [(.int (0 : Int32))]) _
      refine XS.aload X241.here hx rfl (hb hby at_394) rfl rfl ?_
      show oP p e below T241 (mkF m 396 #[oI p0, oR b7, oR b54, oI (13 : Int32), oR (a_NUMERIC_GREATER_THAN Z), oR (a_NUMERIC_GREATER_THAN Z)] [(.ref (a_NUMERIC_GREATER_THAN Z)), (.int (0 : Int32))]) _
      refine XS.aload X241.here hx rfl (hb hby at_396) rfl rfl ?_
      show oP p e below T241 (mkF m 398 #[oI p0, oR b7, oR b54, oI (13 : Int32), oR (a_NUMERIC_GREATER_THAN Z), oR (a_NUMERIC_GREATER_THAN Z)] [(.ref (a_NUMERIC_GREATER_THAN Z)), (.ref (a_NUMERIC_GREATER_THAN Z)), (.int (0 : Int32))]) _
      refine Jvm.RoadKit.acmp (g := (mkF m 398 #[oI p0, oR b7, oR b54, oI (13 : Int32), oR (a_NUMERIC_GREATER_THAN Z), oR (a_NUMERIC_GREATER_THAN Z)] [(.ref (a_NUMERIC_GREATER_THAN Z)), (.ref (a_NUMERIC_GREATER_THAN Z)), (.int (0 : Int32))])) X241 hx rfl rfl rfl (pc0 := 398) (pc' := 405) (same := true) rfl (hb hby at_398) rfl (decide_eq_true (congrArg Value.ref (rfl : (a_NUMERIC_GREATER_THAN Z) = (a_NUMERIC_GREATER_THAN Z)))) (by decide) (by decide) ?_
      show oP p e below T241 (mkF m 405 #[oI p0, oR b7, oR b54, oI (13 : Int32), oR (a_NUMERIC_GREATER_THAN Z), oR (a_NUMERIC_GREATER_THAN Z)] [(.int (0 : Int32))]) _
      refine XS.iconst X241.here hx rfl (hb hby at_405) ?_
      show oP p e below T241 (mkF m 406 #[oI p0, oR b7, oR b54, oI (13 : Int32), oR (a_NUMERIC_GREATER_THAN Z), oR (a_NUMERIC_GREATER_THAN Z)] [(.int (0 : Int32)), (.int (0 : Int32))]) _
      refine XS.icmpNo X241.here hx rfl (hb hby at_406) rfl (teq (by decide : (0 : Int32) = (0 : Int32))).2 ?_
      show oP p e below T241 (mkF m 409 #[oI p0, oR b7, oR b54, oI (13 : Int32), oR (a_NUMERIC_GREATER_THAN Z), oR (a_NUMERIC_GREATER_THAN Z)] []) _
      refine XS.iconst X241.here hx rfl (hb hby at_409) ?_
      show oP p e below T241 (mkF m 410 #[oI p0, oR b7, oR b54, oI (13 : Int32), oR (a_NUMERIC_GREATER_THAN Z), oR (a_NUMERIC_GREATER_THAN Z)] [(.int (1 : Int32))]) _
      refine XS.goto X241.here hx rfl (pc0 := 410) (pc' := 414) rfl (hb hby at_410) (by decide) (by decide) ?_
      show oP p e below T241 (mkF m 414 #[oI p0, oR b7, oR b54, oI (13 : Int32), oR (a_NUMERIC_GREATER_THAN Z), oR (a_NUMERIC_GREATER_THAN Z)] [(.int (1 : Int32))]) _
      exact retN X241 hx (t := .boolean) Bd.returns (by simp) (hb hby at_414) hr
    · show (some (.int (1 : Int32)) : Option Value) = some (.int (1 : Int32)) ∧ Fr n0 _ ∧ Keep h0 T241.heap []
      exact ⟨rfl, N241, Kc241⟩
  · have fx242 := ((((((((((((((((((((((((V53.ext E54).other W56 ne_b7_b54).other W58 ne_b7_b54).other W60 ne_b7_b54).other W62 ne_b7_b54).other W64 ne_b7_b54).other W66 ne_b7_b54).other W68 ne_b7_b54).other W70 ne_b7_b54).other W72 ne_b7_b54).other W74 ne_b7_b54).other W76 ne_b7_b54).other W78 ne_b7_b54).other W80 ne_b7_b54).other W82 ne_b7_b54).other W84 ne_b7_b54).other W86 ne_b7_b54).other W88 ne_b7_b54).other W90 ne_b7_b54).other W92 ne_b7_b54).other W94 ne_b7_b54).other W96 ne_b7_b54).other W98 ne_b7_b54).other W100 ne_b7_b54)
    obtain ⟨lo243, X243, N243⟩ := own_hide X100 N100
    obtain ⟨cq244, kq244, q244a, q244b, q244c⟩ := isOf hZ e100 ((e_a_NUMERIC_GREATER_THAN_EQUALS hS).ext O100.2)
    obtain ⟨_, _, ⟨T244, L244, k244, n244⟩, -, X244, ⟨Lc244, hQ244, l244, y244, z244⟩, st244⟩ := X243.virtualBack hx (y := (⟨"com/example/menshen/menshen/policy/ConditionOperator", "positive", "()Lcom/example/menshen/menshen/policy/ConditionOperator;"⟩ : MethodName)) (z := (⟨"com/example/menshen/menshen/policy/ConditionOperator", "positive", "()Lcom/example/menshen/menshen/policy/ConditionOperator;"⟩ : MethodName)) hown (mvT hZ (hw _ (List.mem_of_getElem? (i := 51) rfl))) (mvT hZ (hw _ (List.mem_of_getElem? (i := 52) rfl))) (notFace_of_selects (args := #[]) (mvT hZ (hw _ (List.mem_of_getElem? (i := 54) rfl)))) (mvT hZ (hw _ (List.mem_of_getElem? (i := 54) rfl))) (mvT hZ (hw _ (List.mem_of_getElem? (i := 53) rfl))) (by decide) (backOf (W := 0) (rm1n l Z a0 hw hS [] (a_NUMERIC_GREATER_THAN_EQUALS Z) h100 n0 O100 ((f_a_NUMERIC_GREATER_THAN_EQUALS_negationOf hS).ext O100.2)) hZ (hw _ (List.mem_of_getElem? (i := 55) rfl)) (hw _ (List.mem_of_getElem? (i := 3) rfl)) (by decide) (by decide)) q244a q244c (g := (mkF m 337 #[oI p0, oR b7, oR b54, oI (14 : Int32), oR (a_NUMERIC_GREATER_THAN_EQUALS Z), oU] [(.ref (a_NUMERIC_GREATER_THAN_EQUALS Z))])) rfl (by rw [hml]; rfl) (Steps.refl _) (argsL := []) (rest := []) (lenOf pd_0 rfl) rfl (by show 2 * 0 + _ ≤ _; exact Nat.le_of_eq rfl) (hb hby at_337) (fun _ _ => ⟨rfl, e100, (by decide : 2 + 0 ≤ _), (by decide : 46 + 0 ≤ _)⟩)
    dsimp only [Pt.U, Pt.locs, Pt.cells, Pt.slots] at X244 l244 y244 z244 st244 hQ244
    subst l244 y244 z244
    obtain ⟨v244, N244q, K244q⟩ := hQ244
    have w244 : (fn1n Z (a_NUMERIC_GREATER_THAN_EQUALS Z)) = (a_NUMERIC_GREATER_THAN_EQUALS Z) := rfl
    rw [w244] at v244
    subst v244
    have N244 := Fr.app N243 N244q
    have O244 := O100.keep K244q all0
    have Kc244 := Kc100.trans K244q all0
    have fx245 := (V100.keep K244q nin0)
    obtain ⟨cq246, kq246, q246a, q246b, q246c⟩ := isOf hZ rfl ((e_a_NUMERIC_GREATER_THAN_EQUALS hS).ext O244.2)
    obtain ⟨_, _, ⟨T246, L246, k246, n246⟩, -, X246, ⟨Lc246, hQ246, l246, y246, z246⟩, st246⟩ := X244.virtualBack hx (y := (⟨"com/example/menshen/menshen/policy/ConditionOperator", "isNegated", "()Z"⟩ : MethodName)) (z := (⟨"com/example/menshen/menshen/policy/ConditionOperator", "isNegated", "()Z"⟩ : MethodName)) hown (mvT hZ (hw _ (List.mem_of_getElem? (i := 58) rfl))) (mvT hZ (hw _ (List.mem_of_getElem? (i := 59) rfl))) (notFace_of_selects (args := #[]) (mvT hZ (hw _ (List.mem_of_getElem? (i := 61) rfl)))) (mvT hZ (hw _ (List.mem_of_getElem? (i := 61) rfl))) (mvT hZ (hw _ (List.mem_of_getElem? (i := 60) rfl))) (by decide) (backOf (W := 0) (rm2n l Z a0 hw hS [] (a_NUMERIC_GREATER_THAN_EQUALS Z) T244.heap n0 O244 ((f_a_NUMERIC_GREATER_THAN_EQUALS_negationOf hS).ext O244.2)) hZ (hw _ (List.mem_of_getElem? (i := 62) rfl)) (hw _ (List.mem_of_getElem? (i := 3) rfl)) (by decide) (by decide)) q246a q246c (g := (mkF m 354 #[oI p0, oR b7, oR b54, oI (14 : Int32), oR (a_NUMERIC_GREATER_THAN_EQUALS Z), oR (a_NUMERIC_GREATER_THAN_EQUALS Z)] [(.ref (a_NUMERIC_GREATER_THAN_EQUALS Z))])) rfl (by rw [hml]; rfl) (Steps.refl _) (argsL := []) (rest := []) (lenOf pd_1 rfl) rfl (by show 2 * 0 + _ ≤ _; exact Nat.le_of_eq rfl) (hb hby at_354) (fun _ _ => ⟨rfl, rfl, (by decide : 2 + 0 ≤ _), (by decide : 46 + 0 ≤ _)⟩)
    dsimp only [Pt.U, Pt.locs, Pt.cells, Pt.slots] at X246 l246 y246 z246 st246 hQ246
    subst l246 y246 z246
    obtain ⟨v246, N246q, K246q⟩ := hQ246
    have w246 : (fn2n Z (a_NUMERIC_GREATER_THAN_EQUALS Z)) = (0 : Int32) := rfl
    rw [w246] at v246
    subst v246
    have N246 := Fr.app N244 N246q
    have O246 := O244.keep K246q all0
    have Kc246 := Kc244.trans K246q all0
    obtain ⟨cq247, kq247, q247a, q247b, q247c⟩ := isOf hZ rfl ((e_a_NUMERIC_GREATER_THAN_EQUALS hS).ext O246.2)
    obtain ⟨_, _, ⟨T247, L247, k247, n247⟩, -, X247, ⟨Lc247, hQ247, l247, y247, z247⟩, st247⟩ := X246.virtualBack hx (y := (⟨"com/example/menshen/menshen/policy/ConditionOperator", "positive", "()Lcom/example/menshen/menshen/policy/ConditionOperator;"⟩ : MethodName)) (z := (⟨"com/example/menshen/menshen/policy/ConditionOperator", "positive", "()Lcom/example/menshen/menshen/policy/ConditionOperator;"⟩ : MethodName)) hown (mvT hZ (hw _ (List.mem_of_getElem? (i := 51) rfl))) (mvT hZ (hw _ (List.mem_of_getElem? (i := 52) rfl))) (notFace_of_selects (args := #[]) (mvT hZ (hw _ (List.mem_of_getElem? (i := 54) rfl)))) (mvT hZ (hw _ (List.mem_of_getElem? (i := 54) rfl))) (mvT hZ (hw _ (List.mem_of_getElem? (i := 53) rfl))) (by decide) (backOf (W := 0) (rm1n l Z a0 hw hS [] (a_NUMERIC_GREATER_THAN_EQUALS Z) T246.heap n0 O246 ((f_a_NUMERIC_GREATER_THAN_EQUALS_negationOf hS).ext O246.2)) hZ (hw _ (List.mem_of_getElem? (i := 55) rfl)) (hw _ (List.mem_of_getElem? (i := 3) rfl)) (by decide) (by decide)) q247a q247c (g := (mkF m 364 #[oI p0, oR b7, oR b54, oI (14 : Int32), oR (a_NUMERIC_GREATER_THAN_EQUALS Z), oR (a_NUMERIC_GREATER_THAN_EQUALS Z)] [(.ref (a_NUMERIC_GREATER_THAN_EQUALS Z))])) rfl (by rw [hml]; rfl) (Steps.refl _) (argsL := []) (rest := []) (lenOf pd_0 rfl) rfl (by show 2 * 0 + _ ≤ _; exact Nat.le_of_eq rfl) (hb hby at_364) (fun _ _ => ⟨rfl, rfl, (by decide : 2 + 0 ≤ _), (by decide : 46 + 0 ≤ _)⟩)
    dsimp only [Pt.U, Pt.locs, Pt.cells, Pt.slots] at X247 l247 y247 z247 st247 hQ247
    subst l247 y247 z247
    obtain ⟨v247, N247q, K247q⟩ := hQ247
    have w247 : (fn1n Z (a_NUMERIC_GREATER_THAN_EQUALS Z)) = (a_NUMERIC_GREATER_THAN_EQUALS Z) := rfl
    rw [w247] at v247
    subst v247
    have N247 := Fr.app N246 N247q
    have O247 := O246.keep K247q all0
    have Kc247 := Kc246.trans K247q all0
    obtain ⟨cq248, kq248, q248a, q248b, q248c⟩ := isOf hZ rfl ((e_a_NUMERIC_GREATER_THAN_EQUALS hS).ext O247.2)
    obtain ⟨_, _, ⟨T248, L248, k248, n248⟩, -, X248, ⟨Lc248, hQ248, l248, y248, z248⟩, st248⟩ := X247.virtualBack hx (y := (⟨"com/example/menshen/menshen/policy/ConditionOperator", "literals", "()Lcom/example/menshen/menshen/policy/ConditionOperator$Literals;"⟩ : MethodName)) (z := (⟨"com/example/menshen/menshen/policy/ConditionOperator", "literals", "()Lcom/example/menshen/menshen/policy/ConditionOperator$Literals;"⟩ : MethodName)) hown (mvT hZ (hw _ (List.mem_of_getElem? (i := 63) rfl))) (mvT hZ (hw _ (List.mem_of_getElem? (i := 64) rfl))) (notFace_of_selects (args := #[]) (mvT hZ (hw _ (List.mem_of_getElem? (i := 66) rfl)))) (mvT hZ (hw _ (List.mem_of_getElem? (i := 66) rfl))) (mvT hZ (hw _ (List.mem_of_getElem? (i := 65) rfl))) (by decide) (backOf (W := 0) (rm3 l Z a0 hw hS [] (a_NUMERIC_GREATER_THAN_EQUALS Z) (a_NUMBERS Z) T247.heap n0 O247 ((f_a_NUMERIC_GREATER_THAN_EQUALS_literals hS).ext O247.2)) hZ (hw _ (List.mem_of_getElem? (i := 67) rfl)) (hw _ (List.mem_of_getElem? (i := 3) rfl)) (by decide) (by decide)) q248a q248c (g := (mkF m 376 #[oI p0, oR b7, oR b54, oI (14 : Int32), oR (a_NUMERIC_GREATER_THAN_EQUALS Z), oR (a_NUMERIC_GREATER_THAN_EQUALS Z)] [(.ref (a_NUMERIC_GREATER_THAN_EQUALS Z))])) rfl (by rw [hml]; rfl) (Steps.refl _) (argsL := []) (rest := []) (lenOf pd_2 rfl) rfl (by show 2 * 0 + _ ≤ _; exact Nat.le_of_eq rfl) (hb hby at_376) (fun _ _ => ⟨rfl, rfl, (by decide : 2 + 0 ≤ _), (by decide : 46 + 0 ≤ _)⟩)
    dsimp only [Pt.U, Pt.locs, Pt.cells, Pt.slots] at X248 l248 y248 z248 st248 hQ248
    subst l248 y248 z248
    obtain ⟨v248, N248q, K248q⟩ := hQ248
    have w248 : (fn3 Z (a_NUMERIC_GREATER_THAN_EQUALS Z) (a_NUMBERS Z)) = (a_NUMBERS Z) := rfl
    rw [w248] at v248
    subst v248
    have N248 := Fr.app N247 N248q
    have O248 := O247.keep K248q all0
    have Kc248 := Kc247.trans K248q all0
    obtain ⟨cq249, kq249, q249a, q249b, q249c⟩ := isOf hZ rfl ((e_a_NUMERIC_GREATER_THAN_EQUALS hS).ext O248.2)
    obtain ⟨_, _, ⟨T249, L249, k249, n249⟩, -, X249, ⟨Lc249, hQ249, l249, y249, z249⟩, st249⟩ := X248.virtualBack hx (y := (⟨"com/example/menshen/menshen/policy/ConditionOperator", "literals", "()Lcom/example/menshen/menshen/policy/ConditionOperator$Literals;"⟩ : MethodName)) (z := (⟨"com/example/menshen/menshen/policy/ConditionOperator", "literals", "()Lcom/example/menshen/menshen/policy/ConditionOperator$Literals;"⟩ : MethodName)) hown (mvT hZ (hw _ (List.mem_of_getElem? (i := 63) rfl))) (mvT hZ (hw _ (List.mem_of_getElem? (i := 64) rfl))) (notFace_of_selects (args := #[]) (mvT hZ (hw _ (List.mem_of_getElem? (i := 66) rfl)))) (mvT hZ (hw _ (List.mem_of_getElem? (i := 66) rfl))) (mvT hZ (hw _ (List.mem_of_getElem? (i := 65) rfl))) (by decide) (backOf (W := 1) (rm3 l Z a0 hw hS [] (a_NUMERIC_GREATER_THAN_EQUALS Z) (a_NUMBERS Z) T248.heap n0 O248 ((f_a_NUMERIC_GREATER_THAN_EQUALS_literals hS).ext O248.2)) hZ (hw _ (List.mem_of_getElem? (i := 67) rfl)) (hw _ (List.mem_of_getElem? (i := 3) rfl)) (by decide) (by decide)) q249a q249c (g := (mkF m 381 #[oI p0, oR b7, oR b54, oI (14 : Int32), oR (a_NUMERIC_GREATER_THAN_EQUALS Z), oR (a_NUMERIC_GREATER_THAN_EQUALS Z)] [(.ref (a_NUMERIC_GREATER_THAN_EQUALS Z)), (.ref (a_NUMBERS Z))])) rfl (by rw [hml]; rfl) (Steps.refl _) (argsL := []) (rest := [(.ref (a_NUMBERS Z))]) (lenOf pd_2 rfl) rfl (by show 2 * 0 + _ ≤ _; exact Nat.le_of_eq rfl) (hb hby at_381) (fun _ _ => ⟨rfl, rfl, (by decide : 2 + 0 ≤ _), (by decide : 46 + 0 ≤ _)⟩)
    dsimp only [Pt.U, Pt.locs, Pt.cells, Pt.slots] at X249 l249 y249 z249 st249 hQ249
    subst l249 y249 z249
    obtain ⟨v249, N249q, K249q⟩ := hQ249
    have w249 : (fn3 Z (a_NUMERIC_GREATER_THAN_EQUALS Z) (a_NUMBERS Z)) = (a_NUMBERS Z) := rfl
    rw [w249] at v249
    subst v249
    have N249 := Fr.app N248 N249q
    have O249 := O248.keep K249q all0
    have Kc249 := Kc248.trans K249q all0
    obtain ⟨lo250, X250, N250⟩ := own_hide X249 N249
    obtain ⟨cq251, kq251, q251a, q251b, q251c⟩ := isOf hZ rfl ((e_a_NUMERIC_GREATER_THAN_EQUALS hS).ext O249.2)
    obtain ⟨_, _, ⟨T251, L251, k251, n251⟩, -, X251, ⟨Lc251, hQ251, l251, y251, z251⟩, st251⟩ := X250.virtualBack hx (y := (⟨"com/example/menshen/menshen/policy/ConditionOperator", "isNegated", "()Z"⟩ : MethodName)) (z := (⟨"com/example/menshen/menshen/policy/ConditionOperator", "isNegated", "()Z"⟩ : MethodName)) hown (mvT hZ (hw _ (List.mem_of_getElem? (i := 58) rfl))) (mvT hZ (hw _ (List.mem_of_getElem? (i := 59) rfl))) (notFace_of_selects (args := #[]) (mvT hZ (hw _ (List.mem_of_getElem? (i := 61) rfl)))) (mvT hZ (hw _ (List.mem_of_getElem? (i := 61) rfl))) (mvT hZ (hw _ (List.mem_of_getElem? (i := 60) rfl))) (by decide) (backOf (W := 0) (rm2n l Z a0 hw hS [] (a_NUMERIC_GREATER_THAN_EQUALS Z) T249.heap n0 O249 ((f_a_NUMERIC_GREATER_THAN_EQUALS_negationOf hS).ext O249.2)) hZ (hw _ (List.mem_of_getElem? (i := 62) rfl)) (hw _ (List.mem_of_getElem? (i := 3) rfl)) (by decide) (by decide)) q251a q251c (g := (mkF m 391 #[oI p0, oR b7, oR b54, oI (14 : Int32), oR (a_NUMERIC_GREATER_THAN_EQUALS Z), oR (a_NUMERIC_GREATER_THAN_EQUALS Z)] [(.ref (a_NUMERIC_GREATER_THAN_EQUALS Z))])) rfl (by rw [hml]; rfl) (Steps.refl _) (argsL := []) (rest := []) (lenOf pd_1 rfl) rfl (by show 2 * 0 + _ ≤ _; exact Nat.le_of_eq rfl) (hb hby at_391) (fun _ _ => ⟨rfl, rfl, (by decide : 2 + 0 ≤ _), (by decide : 46 + 0 ≤ _)⟩)
    dsimp only [Pt.U, Pt.locs, Pt.cells, Pt.slots] at X251 l251 y251 z251 st251 hQ251
    subst l251 y251 z251
    obtain ⟨v251, N251q, K251q⟩ := hQ251
    have w251 : (fn2n Z (a_NUMERIC_GREATER_THAN_EQUALS Z)) = (0 : Int32) := rfl
    rw [w251] at v251
    subst v251
    have N251 := Fr.app N250 N251q
    have O251 := O249.keep K251q all0
    have Kc251 := Kc249.trans K251q all0
    obtain ⟨fs, hr, hrun, hended, hW, hsame⟩ := X251.leave (v := some (.int (1 : Int32))) (fun h => by rw [Bd.returns] at h; cases h)
    refine ⟨_, _, pre101 _ ?_, hrun, hended, _, _, rfl, ?_, ⟨_, rfl⟩, hW, hsame.mono (by decide) (by decide)⟩
    · show oP p e below T100 (mkF m 329 #[oI p0, oR b7, oR b54, oU, oU, oU] [(.int (14 : Int32))]) _
      refine XS.istoreN X100.here hx rfl (hb hby at_329) rfl (l' := #[oI p0, oR b7, oR b54, oI (14 : Int32), oU, oU]) rfl ?_
      show oP p e below T100 (mkF m 330 #[oI p0, oR b7, oR b54, oI (14 : Int32), oU, oU] []) _
      refine XS.aloadN X100.here hx rfl (hb hby at_330) rfl rfl ?_
      show oP p e below T100 (mkF m 331 #[oI p0, oR b7, oR b54, oI (14 : Int32), oU, oU] [(.ref b7)]) _
      refine XS.iloadN X100.here hx rfl (hb hby at_331) rfl ?_
      show oP p e below T100 (mkF m 332 #[oI p0, oR b7, oR b54, oI (14 : Int32), oU, oU] [(.int (14 : Int32)), (.ref b7)]) _
      refine own_aaload X100 hx hZ e100 fx242 rfl (j := (14 : Int32)) ⟨by decide, by decide⟩ (v := (.ref (a_NUMERIC_GREATER_THAN_EQUALS Z))) rfl (g := (mkF m 332 #[oI p0, oR b7, oR b54, oI (14 : Int32), oU, oU] [(.int (14 : Int32)), (.ref b7)])) rfl rfl (hb hby at_332) _ ?_
      show oP p e below T100 (mkF m 333 #[oI p0, oR b7, oR b54, oI (14 : Int32), oU, oU] [(.ref (a_NUMERIC_GREATER_THAN_EQUALS Z))]) _
      refine XS.astore X100.here hx rfl (hb hby at_333) rfl rfl (l' := #[oI p0, oR b7, oR b54, oI (14 : Int32), oR (a_NUMERIC_GREATER_THAN_EQUALS Z), oU]) rfl ?_
      show oP p e below T100 (mkF m 335 #[oI p0, oR b7, oR b54, oI (14 : Int32), oR (a_NUMERIC_GREATER_THAN_EQUALS Z), oU] []) _
      refine XS.aload X100.here hx rfl (hb hby at_335) rfl rfl ?_
      show oP p e below T100 (mkF m 337 #[oI p0, oR b7, oR b54, oI (14 : Int32), oR (a_NUMERIC_GREATER_THAN_EQUALS Z), oU] [(.ref (a_NUMERIC_GREATER_THAN_EQUALS Z))]) _
      refine st244.trans ?_
      show oP p e below T244 (mkF m 340 #[oI p0, oR b7, oR b54, oI (14 : Int32), oR (a_NUMERIC_GREATER_THAN_EQUALS Z), oU] [(.ref (a_NUMERIC_GREATER_THAN_EQUALS Z))]) _
      refine XS.astore X244.here hx rfl (hb hby at_340) rfl rfl (l' := #[oI p0, oR b7, oR b54, oI (14 : Int32), oR (a_NUMERIC_GREATER_THAN_EQUALS Z), oR (a_NUMERIC_GREATER_THAN_EQUALS Z)]) rfl ?_
      show oP p e below T244 (mkF m 342 #[oI p0, oR b7, oR b54, oI (14 : Int32), oR (a_NUMERIC_GREATER_THAN_EQUALS Z), oR (a_NUMERIC_GREATER_THAN_EQUALS Z)] []) _
      refine XS.aload X244.here hx rfl (hb hby at_342) rfl rfl ?_
      show oP p e below T244 (mkF m 344 #[oI p0, oR b7, oR b54, oI (14 : Int32), oR (a_NUMERIC_GREATER_THAN_EQUALS Z), oR (a_NUMERIC_GREATER_THAN_EQUALS Z)] [(.ref (a_NUMERIC_GREATER_THAN_EQUALS Z))]) _
      refine XS.aloadN X244.here hx rfl (hb hby at_344) rfl rfl ?_
      show oP p e below T244 (mkF m 345 #[oI p0, oR b7, oR b54, oI (14 : Int32), oR (a_NUMERIC_GREATER_THAN_EQUALS Z), oR (a_NUMERIC_GREATER_THAN_EQUALS Z)] [(.ref b54), (.ref (a_NUMERIC_GREATER_THAN_EQUALS Z))]) _
      refine XS.iloadN X244.here hx rfl (hb hby at_345) rfl ?_
      show oP p e below T244 (mkF m 346 #[oI p0, oR b7, oR b54, oI (14 : Int32), oR (a_NUMERIC_GREATER_THAN_EQUALS Z), oR (a_NUMERIC_GREATER_THAN_EQUALS Z)] [(.int (14 : Int32)), (.ref b54), (.ref (a_NUMERIC_GREATER_THAN_EQUALS Z))]) _
      refine own_aaload X244 hx hZ rfl fx245 rfl (j := (14 : Int32)) ⟨by decide, by decide⟩ (v := (.ref (a_NUMERIC_GREATER_THAN_EQUALS Z))) rfl (g := (mkF m 346 #[oI p0, oR b7, oR b54, oI (14 : Int32), oR (a_NUMERIC_GREATER_THAN_EQUALS Z), oR (a_NUMERIC_GREATER_THAN_EQUALS Z)] [(.int (14 : Int32)), (.ref b54), (.ref (a_NUMERIC_GREATER_THAN_EQUALS Z))])) rfl rfl (hb hby at_346) _ ?_
      show oP p e below T244 (mkF m 347 #[oI p0, oR b7, oR b54, oI (14 : Int32), oR (a_NUMERIC_GREATER_THAN_EQUALS Z), oR (a_NUMERIC_GREATER_THAN_EQUALS Z)] [(.ref (a_NUMERIC_GREATER_THAN_EQUALS Z)), (.ref (a_NUMERIC_GREATER_THAN_EQUALS Z))]) _
      refine Jvm.RoadKit.acmp (g := (mkF m 347 #[oI p0, oR b7, oR b54, oI (14 : Int32), oR (a_NUMERIC_GREATER_THAN_EQUALS Z), oR (a_NUMERIC_GREATER_THAN_EQUALS Z)] [(.ref (a_NUMERIC_GREATER_THAN_EQUALS Z)), (.ref (a_NUMERIC_GREATER_THAN_EQUALS Z))])) X244 hx rfl rfl rfl (pc0 := 347) (pc' := 352) (same := true) rfl (hb hby at_347) rfl (decide_eq_true (congrArg Value.ref (rfl : (a_NUMERIC_GREATER_THAN_EQUALS Z) = (a_NUMERIC_GREATER_THAN_EQUALS Z)))) (by decide) (by decide) ?_
      show oP p e below T244 (mkF m 352 #[oI p0, oR b7, oR b54, oI (14 : Int32), oR (a_NUMERIC_GREATER_THAN_EQUALS Z), oR (a_NUMERIC_GREATER_THAN_EQUALS Z)] []) _
      refine XS.aload X244.here hx rfl (hb hby at_352) rfl rfl ?_
      show oP p e below T244 (mkF m 354 #[oI p0, oR b7, oR b54, oI (14 : Int32), oR (a_NUMERIC_GREATER_THAN_EQUALS Z), oR (a_NUMERIC_GREATER_THAN_EQUALS Z)] [(.ref (a_NUMERIC_GREATER_THAN_EQUALS Z))]) _
      refine st246.trans ?_
      show oP p e below T246 (mkF m 357 #[oI p0, oR b7, oR b54, oI (14 : Int32), oR (a_NUMERIC_GREATER_THAN_EQUALS Z), oR (a_NUMERIC_GREATER_THAN_EQUALS Z)] [(.int (0 : Int32))]) _
      refine XS.ifYes X246.here hx rfl (pc0 := 357) (pc' := 362) rfl (hb hby at_357) rfl ((if0 _ _).trans (teq (by decide : (0 : Int32) = (0 : Int32))).1) (by decide) (by decide) ?_
      show oP p e below T246 (mkF m 362 #[oI p0, oR b7, oR b54, oI (14 : Int32), oR (a_NUMERIC_GREATER_THAN_EQUALS Z), oR (a_NUMERIC_GREATER_THAN_EQUALS Z)] []) _
      refine XS.aload X246.here hx rfl (hb hby at_362) rfl rfl ?_
      show oP p e below T246 (mkF m 364 #[oI p0, oR b7, oR b54, oI (14 : Int32), oR (a_NUMERIC_GREATER_THAN_EQUALS Z), oR (a_NUMERIC_GREATER_THAN_EQUALS Z)] [(.ref (a_NUMERIC_GREATER_THAN_EQUALS Z))]) _
      refine st247.trans ?_
      show oP p e below T247 (mkF m 367 #[oI p0, oR b7, oR b54, oI (14 : Int32), oR (a_NUMERIC_GREATER_THAN_EQUALS Z), oR (a_NUMERIC_GREATER_THAN_EQUALS Z)] [(.ref (a_NUMERIC_GREATER_THAN_EQUALS Z))]) _
      refine XS.aload X247.here hx rfl (hb hby at_367) rfl rfl ?_
      show oP p e below T247 (mkF m 369 #[oI p0, oR b7, oR b54, oI (14 : Int32), oR (a_NUMERIC_GREATER_THAN_EQUALS Z), oR (a_NUMERIC_GREATER_THAN_EQUALS Z)] [(.ref (a_NUMERIC_GREATER_THAN_EQUALS Z)), (.ref (a_NUMERIC_GREATER_THAN_EQUALS Z))]) _
      refine Jvm.RoadKit.acmp (g := (mkF m 369 #[oI p0, oR b7, oR b54, oI (14 : Int32), oR (a_NUMERIC_GREATER_THAN_EQUALS Z), oR (a_NUMERIC_GREATER_THAN_EQUALS Z)] [(.ref (a_NUMERIC_GREATER_THAN_EQUALS Z)), (.ref (a_NUMERIC_GREATER_THAN_EQUALS Z))])) X247 hx rfl rfl rfl (pc0 := 369) (pc' := 374) (same := true) rfl (hb hby at_369) rfl (decide_eq_true (congrArg Value.ref (rfl : (a_NUMERIC_GREATER_THAN_EQUALS Z) = (a_NUMERIC_GREATER_THAN_EQUALS Z)))) (by decide) (by decide) ?_
      show oP p e below T247 (mkF m 374 #[oI p0, oR b7, oR b54, oI (14 : Int32), oR (a_NUMERIC_GREATER_THAN_EQUALS Z), oR (a_NUMERIC_GREATER_THAN_EQUALS Z)] []) _
      refine XS.aload X247.here hx rfl (hb hby at_374) rfl rfl ?_
      show oP p e below T247 (mkF m 376 #[oI p0, oR b7, oR b54, oI (14 : Int32), oR (a_NUMERIC_GREATER_THAN_EQUALS Z), oR (a_NUMERIC_GREATER_THAN_EQUALS Z)] [(.ref (a_NUMERIC_GREATER_THAN_EQUALS Z))]) _
      refine st248.trans ?_
      show oP p e below T248 (mkF m 379 #[oI p0, oR b7, oR b54, oI (14 : Int32), oR (a_NUMERIC_GREATER_THAN_EQUALS Z), oR (a_NUMERIC_GREATER_THAN_EQUALS Z)] [(.ref (a_NUMBERS Z))]) _
      refine XS.aload X248.here hx rfl (hb hby at_379) rfl rfl ?_
      show oP p e below T248 (mkF m 381 #[oI p0, oR b7, oR b54, oI (14 : Int32), oR (a_NUMERIC_GREATER_THAN_EQUALS Z), oR (a_NUMERIC_GREATER_THAN_EQUALS Z)] [(.ref (a_NUMERIC_GREATER_THAN_EQUALS Z)), (.ref (a_NUMBERS Z))]) _
      refine st249.trans ?_
      show oP p e below T249 (mkF m 384 #[oI p0, oR b7, oR b54, oI (14 : Int32), oR (a_NUMERIC_GREATER_THAN_EQUALS Z), oR (a_NUMERIC_GREATER_THAN_EQUALS Z)] [(.ref (a_NUMBERS Z)), (.ref (a_NUMBERS Z))]) _
      refine Jvm.RoadKit.acmp (g := (mkF m 384 #[oI p0, oR b7, oR b54, oI (14 : Int32), oR (a_NUMERIC_GREATER_THAN_EQUALS Z), oR (a_NUMERIC_GREATER_THAN_EQUALS Z)] [(.ref (a_NUMBERS Z)), (.ref (a_NUMBERS Z))])) X249 hx rfl rfl rfl (pc0 := 384) (pc' := 389) (same := true) rfl (hb hby at_384) rfl (decide_eq_true (congrArg Value.ref (rfl : (a_NUMBERS Z) = (a_NUMBERS Z)))) (by decide) (by decide) ?_
      show oP p e below T249 (mkF m 389 #[oI p0, oR b7, oR b54, oI (14 : Int32), oR (a_NUMERIC_GREATER_THAN_EQUALS Z), oR (a_NUMERIC_GREATER_THAN_EQUALS Z)] []) _
      refine XS.aload X249.here hx rfl (hb hby at_389) rfl rfl ?_
      show oP p e below T249 (mkF m 391 #[oI p0, oR b7, oR b54, oI (14 : Int32), oR (a_NUMERIC_GREATER_THAN_EQUALS Z), oR (a_NUMERIC_GREATER_THAN_EQUALS Z)] [(.ref (a_NUMERIC_GREATER_THAN_EQUALS Z))]) _
      refine st251.trans ?_
      show oP p e below T251 (mkF m 394 #[oI p0, oR b7, oR b54, oI (14 : Int32), oR (a_NUMERIC_GREATER_THAN_EQUALS Z), oR (a_NUMERIC_GREATER_THAN_EQUALS Z)] [(.int (0 : Int32))]) _
      refine XS.aload X251.here hx rfl (hb hby at_394) rfl rfl ?_
      show oP p e below T251 (mkF m 396 #[oI p0, oR b7, oR b54, oI (14 : Int32), oR (a_NUMERIC_GREATER_THAN_EQUALS Z), oR (a_NUMERIC_GREATER_THAN_EQUALS Z)] [(.ref (a_NUMERIC_GREATER_THAN_EQUALS Z)), (.int (0 : Int32))]) _
      refine XS.aload X251.here hx rfl (hb hby at_396) rfl rfl ?_
      show oP p e below T251 (mkF m 398 #[oI p0, oR b7, oR b54, oI (14 : Int32), oR (a_NUMERIC_GREATER_THAN_EQUALS Z), oR (a_NUMERIC_GREATER_THAN_EQUALS Z)] [(.ref (a_NUMERIC_GREATER_THAN_EQUALS Z)), (.ref (a_NUMERIC_GREATER_THAN_EQUALS Z)), (.int (0 : Int32))]) _
      refine Jvm.RoadKit.acmp (g := (mkF m 398 #[oI p0, oR b7, oR b54, oI (14 : Int32), oR (a_NUMERIC_GREATER_THAN_EQUALS Z), oR (a_NUMERIC_GREATER_THAN_EQUALS Z)] [(.ref (a_NUMERIC_GREATER_THAN_EQUALS Z)), (.ref (a_NUMERIC_GREATER_THAN_EQUALS Z)), (.int (0 : Int32))])) X251 hx rfl rfl rfl (pc0 := 398) (pc' := 405) (same := true) rfl (hb hby at_398) rfl (decide_eq_true (congrArg Value.ref (rfl : (a_NUMERIC_GREATER_THAN_EQUALS Z) = (a_NUMERIC_GREATER_THAN_EQUALS Z)))) (by decide) (by decide) ?_
      show oP p e below T251 (mkF m 405 #[oI p0, oR b7, oR b54, oI (14 : Int32), oR (a_NUMERIC_GREATER_THAN_EQUALS Z), oR (a_NUMERIC_GREATER_THAN_EQUALS Z)] [(.int (0 : Int32))]) _
      refine XS.iconst X251.here hx rfl (hb hby at_405) ?_
      show oP p e below T251 (mkF m 406 #[oI p0, oR b7, oR b54, oI (14 : Int32), oR (a_NUMERIC_GREATER_THAN_EQUALS Z), oR (a_NUMERIC_GREATER_THAN_EQUALS Z)] [(.int (0 : Int32)), (.int (0 : Int32))]) _
      refine XS.icmpNo X251.here hx rfl (hb hby at_406) rfl (teq (by decide : (0 : Int32) = (0 : Int32))).2 ?_
      show oP p e below T251 (mkF m 409 #[oI p0, oR b7, oR b54, oI (14 : Int32), oR (a_NUMERIC_GREATER_THAN_EQUALS Z), oR (a_NUMERIC_GREATER_THAN_EQUALS Z)] []) _
      refine XS.iconst X251.here hx rfl (hb hby at_409) ?_
      show oP p e below T251 (mkF m 410 #[oI p0, oR b7, oR b54, oI (14 : Int32), oR (a_NUMERIC_GREATER_THAN_EQUALS Z), oR (a_NUMERIC_GREATER_THAN_EQUALS Z)] [(.int (1 : Int32))]) _
      refine XS.goto X251.here hx rfl (pc0 := 410) (pc' := 414) rfl (hb hby at_410) (by decide) (by decide) ?_
      show oP p e below T251 (mkF m 414 #[oI p0, oR b7, oR b54, oI (14 : Int32), oR (a_NUMERIC_GREATER_THAN_EQUALS Z), oR (a_NUMERIC_GREATER_THAN_EQUALS Z)] [(.int (1 : Int32))]) _
      exact retN X251 hx (t := .boolean) Bd.returns (by simp) (hb hby at_414) hr
    · show (some (.int (1 : Int32)) : Option Value) = some (.int (1 : Int32)) ∧ Fr n0 _ ∧ Keep h0 T251.heap []
      exact ⟨rfl, N251, Kc251⟩
  · have fx252 := ((((((((((((((((((((((((V53.ext E54).other W56 ne_b7_b54).other W58 ne_b7_b54).other W60 ne_b7_b54).other W62 ne_b7_b54).other W64 ne_b7_b54).other W66 ne_b7_b54).other W68 ne_b7_b54).other W70 ne_b7_b54).other W72 ne_b7_b54).other W74 ne_b7_b54).other W76 ne_b7_b54).other W78 ne_b7_b54).other W80 ne_b7_b54).other W82 ne_b7_b54).other W84 ne_b7_b54).other W86 ne_b7_b54).other W88 ne_b7_b54).other W90 ne_b7_b54).other W92 ne_b7_b54).other W94 ne_b7_b54).other W96 ne_b7_b54).other W98 ne_b7_b54).other W100 ne_b7_b54)
    obtain ⟨lo253, X253, N253⟩ := own_hide X100 N100
    obtain ⟨cq254, kq254, q254a, q254b, q254c⟩ := isOf hZ e100 ((e_a_DATE_EQUALS hS).ext O100.2)
    obtain ⟨_, _, ⟨T254, L254, k254, n254⟩, -, X254, ⟨Lc254, hQ254, l254, y254, z254⟩, st254⟩ := X253.virtualBack hx (y := (⟨"com/example/menshen/menshen/policy/ConditionOperator", "positive", "()Lcom/example/menshen/menshen/policy/ConditionOperator;"⟩ : MethodName)) (z := (⟨"com/example/menshen/menshen/policy/ConditionOperator", "positive", "()Lcom/example/menshen/menshen/policy/ConditionOperator;"⟩ : MethodName)) hown (mvT hZ (hw _ (List.mem_of_getElem? (i := 51) rfl))) (mvT hZ (hw _ (List.mem_of_getElem? (i := 52) rfl))) (notFace_of_selects (args := #[]) (mvT hZ (hw _ (List.mem_of_getElem? (i := 54) rfl)))) (mvT hZ (hw _ (List.mem_of_getElem? (i := 54) rfl))) (mvT hZ (hw _ (List.mem_of_getElem? (i := 53) rfl))) (by decide) (backOf (W := 0) (rm1n l Z a0 hw hS [] (a_DATE_EQUALS Z) h100 n0 O100 ((f_a_DATE_EQUALS_negationOf hS).ext O100.2)) hZ (hw _ (List.mem_of_getElem? (i := 55) rfl)) (hw _ (List.mem_of_getElem? (i := 3) rfl)) (by decide) (by decide)) q254a q254c (g := (mkF m 337 #[oI p0, oR b7, oR b54, oI (15 : Int32), oR (a_DATE_EQUALS Z), oU] [(.ref (a_DATE_EQUALS Z))])) rfl (by rw [hml]; rfl) (Steps.refl _) (argsL := []) (rest := []) (lenOf pd_0 rfl) rfl (by show 2 * 0 + _ ≤ _; exact Nat.le_of_eq rfl) (hb hby at_337) (fun _ _ => ⟨rfl, e100, (by decide : 2 + 0 ≤ _), (by decide : 46 + 0 ≤ _)⟩)
    dsimp only [Pt.U, Pt.locs, Pt.cells, Pt.slots] at X254 l254 y254 z254 st254 hQ254
    subst l254 y254 z254
    obtain ⟨v254, N254q, K254q⟩ := hQ254
    have w254 : (fn1n Z (a_DATE_EQUALS Z)) = (a_DATE_EQUALS Z) := rfl
    rw [w254] at v254
    subst v254
    have N254 := Fr.app N253 N254q
    have O254 := O100.keep K254q all0
    have Kc254 := Kc100.trans K254q all0
    have fx255 := (V100.keep K254q nin0)
    obtain ⟨cq256, kq256, q256a, q256b, q256c⟩ := isOf hZ rfl ((e_a_DATE_EQUALS hS).ext O254.2)
    obtain ⟨_, _, ⟨T256, L256, k256, n256⟩, -, X256, ⟨Lc256, hQ256, l256, y256, z256⟩, st256⟩ := X254.virtualBack hx (y := (⟨"com/example/menshen/menshen/policy/ConditionOperator", "isNegated", "()Z"⟩ : MethodName)) (z := (⟨"com/example/menshen/menshen/policy/ConditionOperator", "isNegated", "()Z"⟩ : MethodName)) hown (mvT hZ (hw _ (List.mem_of_getElem? (i := 58) rfl))) (mvT hZ (hw _ (List.mem_of_getElem? (i := 59) rfl))) (notFace_of_selects (args := #[]) (mvT hZ (hw _ (List.mem_of_getElem? (i := 61) rfl)))) (mvT hZ (hw _ (List.mem_of_getElem? (i := 61) rfl))) (mvT hZ (hw _ (List.mem_of_getElem? (i := 60) rfl))) (by decide) (backOf (W := 0) (rm2n l Z a0 hw hS [] (a_DATE_EQUALS Z) T254.heap n0 O254 ((f_a_DATE_EQUALS_negationOf hS).ext O254.2)) hZ (hw _ (List.mem_of_getElem? (i := 62) rfl)) (hw _ (List.mem_of_getElem? (i := 3) rfl)) (by decide) (by decide)) q256a q256c (g := (mkF m 354 #[oI p0, oR b7, oR b54, oI (15 : Int32), oR (a_DATE_EQUALS Z), oR (a_DATE_EQUALS Z)] [(.ref (a_DATE_EQUALS Z))])) rfl (by rw [hml]; rfl) (Steps.refl _) (argsL := []) (rest := []) (lenOf pd_1 rfl) rfl (by show 2 * 0 + _ ≤ _; exact Nat.le_of_eq rfl) (hb hby at_354) (fun _ _ => ⟨rfl, rfl, (by decide : 2 + 0 ≤ _), (by decide : 46 + 0 ≤ _)⟩)
    dsimp only [Pt.U, Pt.locs, Pt.cells, Pt.slots] at X256 l256 y256 z256 st256 hQ256
    subst l256 y256 z256
    obtain ⟨v256, N256q, K256q⟩ := hQ256
    have w256 : (fn2n Z (a_DATE_EQUALS Z)) = (0 : Int32) := rfl
    rw [w256] at v256
    subst v256
    have N256 := Fr.app N254 N256q
    have O256 := O254.keep K256q all0
    have Kc256 := Kc254.trans K256q all0
    obtain ⟨cq257, kq257, q257a, q257b, q257c⟩ := isOf hZ rfl ((e_a_DATE_EQUALS hS).ext O256.2)
    obtain ⟨_, _, ⟨T257, L257, k257, n257⟩, -, X257, ⟨Lc257, hQ257, l257, y257, z257⟩, st257⟩ := X256.virtualBack hx (y := (⟨"com/example/menshen/menshen/policy/ConditionOperator", "positive", "()Lcom/example/menshen/menshen/policy/ConditionOperator;"⟩ : MethodName)) (z := (⟨"com/example/menshen/menshen/policy/ConditionOperator", "positive", "()Lcom/example/menshen/menshen/policy/ConditionOperator;"⟩ : MethodName)) hown (mvT hZ (hw _ (List.mem_of_getElem? (i := 51) rfl))) (mvT hZ (hw _ (List.mem_of_getElem? (i := 52) rfl))) (notFace_of_selects (args := #[]) (mvT hZ (hw _ (List.mem_of_getElem? (i := 54) rfl)))) (mvT hZ (hw _ (List.mem_of_getElem? (i := 54) rfl))) (mvT hZ (hw _ (List.mem_of_getElem? (i := 53) rfl))) (by decide) (backOf (W := 0) (rm1n l Z a0 hw hS [] (a_DATE_EQUALS Z) T256.heap n0 O256 ((f_a_DATE_EQUALS_negationOf hS).ext O256.2)) hZ (hw _ (List.mem_of_getElem? (i := 55) rfl)) (hw _ (List.mem_of_getElem? (i := 3) rfl)) (by decide) (by decide)) q257a q257c (g := (mkF m 364 #[oI p0, oR b7, oR b54, oI (15 : Int32), oR (a_DATE_EQUALS Z), oR (a_DATE_EQUALS Z)] [(.ref (a_DATE_EQUALS Z))])) rfl (by rw [hml]; rfl) (Steps.refl _) (argsL := []) (rest := []) (lenOf pd_0 rfl) rfl (by show 2 * 0 + _ ≤ _; exact Nat.le_of_eq rfl) (hb hby at_364) (fun _ _ => ⟨rfl, rfl, (by decide : 2 + 0 ≤ _), (by decide : 46 + 0 ≤ _)⟩)
    dsimp only [Pt.U, Pt.locs, Pt.cells, Pt.slots] at X257 l257 y257 z257 st257 hQ257
    subst l257 y257 z257
    obtain ⟨v257, N257q, K257q⟩ := hQ257
    have w257 : (fn1n Z (a_DATE_EQUALS Z)) = (a_DATE_EQUALS Z) := rfl
    rw [w257] at v257
    subst v257
    have N257 := Fr.app N256 N257q
    have O257 := O256.keep K257q all0
    have Kc257 := Kc256.trans K257q all0
    obtain ⟨cq258, kq258, q258a, q258b, q258c⟩ := isOf hZ rfl ((e_a_DATE_EQUALS hS).ext O257.2)
    obtain ⟨_, _, ⟨T258, L258, k258, n258⟩, -, X258, ⟨Lc258, hQ258, l258, y258, z258⟩, st258⟩ := X257.virtualBack hx (y := (⟨"com/example/menshen/menshen/policy/ConditionOperator", "literals", "()Lcom/example/menshen/menshen/policy/ConditionOperator$Literals;"⟩ : MethodName)) (z := (⟨"com/example/menshen/menshen/policy/ConditionOperator", "literals", "()Lcom/example/menshen/menshen/policy/ConditionOperator$Literals;"⟩ : MethodName)) hown (mvT hZ (hw _ (List.mem_of_getElem? (i := 63) rfl))) (mvT hZ (hw _ (List.mem_of_getElem? (i := 64) rfl))) (notFace_of_selects (args := #[]) (mvT hZ (hw _ (List.mem_of_getElem? (i := 66) rfl)))) (mvT hZ (hw _ (List.mem_of_getElem? (i := 66) rfl))) (mvT hZ (hw _ (List.mem_of_getElem? (i := 65) rfl))) (by decide) (backOf (W := 0) (rm3 l Z a0 hw hS [] (a_DATE_EQUALS Z) (a_NUMBERS Z) T257.heap n0 O257 ((f_a_DATE_EQUALS_literals hS).ext O257.2)) hZ (hw _ (List.mem_of_getElem? (i := 67) rfl)) (hw _ (List.mem_of_getElem? (i := 3) rfl)) (by decide) (by decide)) q258a q258c (g := (mkF m 376 #[oI p0, oR b7, oR b54, oI (15 : Int32), oR (a_DATE_EQUALS Z), oR (a_DATE_EQUALS Z)] [(.ref (a_DATE_EQUALS Z))])) rfl (by rw [hml]; rfl) (Steps.refl _) (argsL := []) (rest := []) (lenOf pd_2 rfl) rfl (by show 2 * 0 + _ ≤ _; exact Nat.le_of_eq rfl) (hb hby at_376) (fun _ _ => ⟨rfl, rfl, (by decide : 2 + 0 ≤ _), (by decide : 46 + 0 ≤ _)⟩)
    dsimp only [Pt.U, Pt.locs, Pt.cells, Pt.slots] at X258 l258 y258 z258 st258 hQ258
    subst l258 y258 z258
    obtain ⟨v258, N258q, K258q⟩ := hQ258
    have w258 : (fn3 Z (a_DATE_EQUALS Z) (a_NUMBERS Z)) = (a_NUMBERS Z) := rfl
    rw [w258] at v258
    subst v258
    have N258 := Fr.app N257 N258q
    have O258 := O257.keep K258q all0
    have Kc258 := Kc257.trans K258q all0
    obtain ⟨cq259, kq259, q259a, q259b, q259c⟩ := isOf hZ rfl ((e_a_DATE_EQUALS hS).ext O258.2)
    obtain ⟨_, _, ⟨T259, L259, k259, n259⟩, -, X259, ⟨Lc259, hQ259, l259, y259, z259⟩, st259⟩ := X258.virtualBack hx (y := (⟨"com/example/menshen/menshen/policy/ConditionOperator", "literals", "()Lcom/example/menshen/menshen/policy/ConditionOperator$Literals;"⟩ : MethodName)) (z := (⟨"com/example/menshen/menshen/policy/ConditionOperator", "literals", "()Lcom/example/menshen/menshen/policy/ConditionOperator$Literals;"⟩ : MethodName)) hown (mvT hZ (hw _ (List.mem_of_getElem? (i := 63) rfl))) (mvT hZ (hw _ (List.mem_of_getElem? (i := 64) rfl))) (notFace_of_selects (args := #[]) (mvT hZ (hw _ (List.mem_of_getElem? (i := 66) rfl)))) (mvT hZ (hw _ (List.mem_of_getElem? (i := 66) rfl))) (mvT hZ (hw _ (List.mem_of_getElem? (i := 65) rfl))) (by decide) (backOf (W := 1) (rm3 l Z a0 hw hS [] (a_DATE_EQUALS Z) (a_NUMBERS Z) T258.heap n0 O258 ((f_a_DATE_EQUALS_literals hS).ext O258.2)) hZ (hw _ (List.mem_of_getElem? (i := 67) rfl)) (hw _ (List.mem_of_getElem? (i := 3) rfl)) (by decide) (by decide)) q259a q259c (g := (mkF m 381 #[oI p0, oR b7, oR b54, oI (15 : Int32), oR (a_DATE_EQUALS Z), oR (a_DATE_EQUALS Z)] [(.ref (a_DATE_EQUALS Z)), (.ref (a_NUMBERS Z))])) rfl (by rw [hml]; rfl) (Steps.refl _) (argsL := []) (rest := [(.ref (a_NUMBERS Z))]) (lenOf pd_2 rfl) rfl (by show 2 * 0 + _ ≤ _; exact Nat.le_of_eq rfl) (hb hby at_381) (fun _ _ => ⟨rfl, rfl, (by decide : 2 + 0 ≤ _), (by decide : 46 + 0 ≤ _)⟩)
    dsimp only [Pt.U, Pt.locs, Pt.cells, Pt.slots] at X259 l259 y259 z259 st259 hQ259
    subst l259 y259 z259
    obtain ⟨v259, N259q, K259q⟩ := hQ259
    have w259 : (fn3 Z (a_DATE_EQUALS Z) (a_NUMBERS Z)) = (a_NUMBERS Z) := rfl
    rw [w259] at v259
    subst v259
    have N259 := Fr.app N258 N259q
    have O259 := O258.keep K259q all0
    have Kc259 := Kc258.trans K259q all0
    obtain ⟨lo260, X260, N260⟩ := own_hide X259 N259
    obtain ⟨cq261, kq261, q261a, q261b, q261c⟩ := isOf hZ rfl ((e_a_DATE_EQUALS hS).ext O259.2)
    obtain ⟨_, _, ⟨T261, L261, k261, n261⟩, -, X261, ⟨Lc261, hQ261, l261, y261, z261⟩, st261⟩ := X260.virtualBack hx (y := (⟨"com/example/menshen/menshen/policy/ConditionOperator", "isNegated", "()Z"⟩ : MethodName)) (z := (⟨"com/example/menshen/menshen/policy/ConditionOperator", "isNegated", "()Z"⟩ : MethodName)) hown (mvT hZ (hw _ (List.mem_of_getElem? (i := 58) rfl))) (mvT hZ (hw _ (List.mem_of_getElem? (i := 59) rfl))) (notFace_of_selects (args := #[]) (mvT hZ (hw _ (List.mem_of_getElem? (i := 61) rfl)))) (mvT hZ (hw _ (List.mem_of_getElem? (i := 61) rfl))) (mvT hZ (hw _ (List.mem_of_getElem? (i := 60) rfl))) (by decide) (backOf (W := 0) (rm2n l Z a0 hw hS [] (a_DATE_EQUALS Z) T259.heap n0 O259 ((f_a_DATE_EQUALS_negationOf hS).ext O259.2)) hZ (hw _ (List.mem_of_getElem? (i := 62) rfl)) (hw _ (List.mem_of_getElem? (i := 3) rfl)) (by decide) (by decide)) q261a q261c (g := (mkF m 391 #[oI p0, oR b7, oR b54, oI (15 : Int32), oR (a_DATE_EQUALS Z), oR (a_DATE_EQUALS Z)] [(.ref (a_DATE_EQUALS Z))])) rfl (by rw [hml]; rfl) (Steps.refl _) (argsL := []) (rest := []) (lenOf pd_1 rfl) rfl (by show 2 * 0 + _ ≤ _; exact Nat.le_of_eq rfl) (hb hby at_391) (fun _ _ => ⟨rfl, rfl, (by decide : 2 + 0 ≤ _), (by decide : 46 + 0 ≤ _)⟩)
    dsimp only [Pt.U, Pt.locs, Pt.cells, Pt.slots] at X261 l261 y261 z261 st261 hQ261
    subst l261 y261 z261
    obtain ⟨v261, N261q, K261q⟩ := hQ261
    have w261 : (fn2n Z (a_DATE_EQUALS Z)) = (0 : Int32) := rfl
    rw [w261] at v261
    subst v261
    have N261 := Fr.app N260 N261q
    have O261 := O259.keep K261q all0
    have Kc261 := Kc259.trans K261q all0
    obtain ⟨fs, hr, hrun, hended, hW, hsame⟩ := X261.leave (v := some (.int (1 : Int32))) (fun h => by rw [Bd.returns] at h; cases h)
    refine ⟨_, _, pre101 _ ?_, hrun, hended, _, _, rfl, ?_, ⟨_, rfl⟩, hW, hsame.mono (by decide) (by decide)⟩
    · show oP p e below T100 (mkF m 329 #[oI p0, oR b7, oR b54, oU, oU, oU] [(.int (15 : Int32))]) _
      refine XS.istoreN X100.here hx rfl (hb hby at_329) rfl (l' := #[oI p0, oR b7, oR b54, oI (15 : Int32), oU, oU]) rfl ?_
      show oP p e below T100 (mkF m 330 #[oI p0, oR b7, oR b54, oI (15 : Int32), oU, oU] []) _
      refine XS.aloadN X100.here hx rfl (hb hby at_330) rfl rfl ?_
      show oP p e below T100 (mkF m 331 #[oI p0, oR b7, oR b54, oI (15 : Int32), oU, oU] [(.ref b7)]) _
      refine XS.iloadN X100.here hx rfl (hb hby at_331) rfl ?_
      show oP p e below T100 (mkF m 332 #[oI p0, oR b7, oR b54, oI (15 : Int32), oU, oU] [(.int (15 : Int32)), (.ref b7)]) _
      refine own_aaload X100 hx hZ e100 fx252 rfl (j := (15 : Int32)) ⟨by decide, by decide⟩ (v := (.ref (a_DATE_EQUALS Z))) rfl (g := (mkF m 332 #[oI p0, oR b7, oR b54, oI (15 : Int32), oU, oU] [(.int (15 : Int32)), (.ref b7)])) rfl rfl (hb hby at_332) _ ?_
      show oP p e below T100 (mkF m 333 #[oI p0, oR b7, oR b54, oI (15 : Int32), oU, oU] [(.ref (a_DATE_EQUALS Z))]) _
      refine XS.astore X100.here hx rfl (hb hby at_333) rfl rfl (l' := #[oI p0, oR b7, oR b54, oI (15 : Int32), oR (a_DATE_EQUALS Z), oU]) rfl ?_
      show oP p e below T100 (mkF m 335 #[oI p0, oR b7, oR b54, oI (15 : Int32), oR (a_DATE_EQUALS Z), oU] []) _
      refine XS.aload X100.here hx rfl (hb hby at_335) rfl rfl ?_
      show oP p e below T100 (mkF m 337 #[oI p0, oR b7, oR b54, oI (15 : Int32), oR (a_DATE_EQUALS Z), oU] [(.ref (a_DATE_EQUALS Z))]) _
      refine st254.trans ?_
      show oP p e below T254 (mkF m 340 #[oI p0, oR b7, oR b54, oI (15 : Int32), oR (a_DATE_EQUALS Z), oU] [(.ref (a_DATE_EQUALS Z))]) _
      refine XS.astore X254.here hx rfl (hb hby at_340) rfl rfl (l' := #[oI p0, oR b7, oR b54, oI (15 : Int32), oR (a_DATE_EQUALS Z), oR (a_DATE_EQUALS Z)]) rfl ?_
      show oP p e below T254 (mkF m 342 #[oI p0, oR b7, oR b54, oI (15 : Int32), oR (a_DATE_EQUALS Z), oR (a_DATE_EQUALS Z)] []) _
      refine XS.aload X254.here hx rfl (hb hby at_342) rfl rfl ?_
      show oP p e below T254 (mkF m 344 #[oI p0, oR b7, oR b54, oI (15 : Int32), oR (a_DATE_EQUALS Z), oR (a_DATE_EQUALS Z)] [(.ref (a_DATE_EQUALS Z))]) _
      refine XS.aloadN X254.here hx rfl (hb hby at_344) rfl rfl ?_
      show oP p e below T254 (mkF m 345 #[oI p0, oR b7, oR b54, oI (15 : Int32), oR (a_DATE_EQUALS Z), oR (a_DATE_EQUALS Z)] [(.ref b54), (.ref (a_DATE_EQUALS Z))]) _
      refine XS.iloadN X254.here hx rfl (hb hby at_345) rfl ?_
      show oP p e below T254 (mkF m 346 #[oI p0, oR b7, oR b54, oI (15 : Int32), oR (a_DATE_EQUALS Z), oR (a_DATE_EQUALS Z)] [(.int (15 : Int32)), (.ref b54), (.ref (a_DATE_EQUALS Z))]) _
      refine own_aaload X254 hx hZ rfl fx255 rfl (j := (15 : Int32)) ⟨by decide, by decide⟩ (v := (.ref (a_DATE_EQUALS Z))) rfl (g := (mkF m 346 #[oI p0, oR b7, oR b54, oI (15 : Int32), oR (a_DATE_EQUALS Z), oR (a_DATE_EQUALS Z)] [(.int (15 : Int32)), (.ref b54), (.ref (a_DATE_EQUALS Z))])) rfl rfl (hb hby at_346) _ ?_
      show oP p e below T254 (mkF m 347 #[oI p0, oR b7, oR b54, oI (15 : Int32), oR (a_DATE_EQUALS Z), oR (a_DATE_EQUALS Z)] [(.ref (a_DATE_EQUALS Z)), (.ref (a_DATE_EQUALS Z))]) _
      refine Jvm.RoadKit.acmp (g := (mkF m 347 #[oI p0, oR b7, oR b54, oI (15 : Int32), oR (a_DATE_EQUALS Z), oR (a_DATE_EQUALS Z)] [(.ref (a_DATE_EQUALS Z)), (.ref (a_DATE_EQUALS Z))])) X254 hx rfl rfl rfl (pc0 := 347) (pc' := 352) (same := true) rfl (hb hby at_347) rfl (decide_eq_true (congrArg Value.ref (rfl : (a_DATE_EQUALS Z) = (a_DATE_EQUALS Z)))) (by decide) (by decide) ?_
      show oP p e below T254 (mkF m 352 #[oI p0, oR b7, oR b54, oI (15 : Int32), oR (a_DATE_EQUALS Z), oR (a_DATE_EQUALS Z)] []) _
      refine XS.aload X254.here hx rfl (hb hby at_352) rfl rfl ?_
      show oP p e below T254 (mkF m 354 #[oI p0, oR b7, oR b54, oI (15 : Int32), oR (a_DATE_EQUALS Z), oR (a_DATE_EQUALS Z)] [(.ref (a_DATE_EQUALS Z))]) _
      refine st256.trans ?_
      show oP p e below T256 (mkF m 357 #[oI p0, oR b7, oR b54, oI (15 : Int32), oR (a_DATE_EQUALS Z), oR (a_DATE_EQUALS Z)] [(.int (0 : Int32))]) _
      refine XS.ifYes X256.here hx rfl (pc0 := 357) (pc' := 362) rfl (hb hby at_357) rfl ((if0 _ _).trans (teq (by decide : (0 : Int32) = (0 : Int32))).1) (by decide) (by decide) ?_
      show oP p e below T256 (mkF m 362 #[oI p0, oR b7, oR b54, oI (15 : Int32), oR (a_DATE_EQUALS Z), oR (a_DATE_EQUALS Z)] []) _
      refine XS.aload X256.here hx rfl (hb hby at_362) rfl rfl ?_
      show oP p e below T256 (mkF m 364 #[oI p0, oR b7, oR b54, oI (15 : Int32), oR (a_DATE_EQUALS Z), oR (a_DATE_EQUALS Z)] [(.ref (a_DATE_EQUALS Z))]) _
      refine st257.trans ?_
      show oP p e below T257 (mkF m 367 #[oI p0, oR b7, oR b54, oI (15 : Int32), oR (a_DATE_EQUALS Z), oR (a_DATE_EQUALS Z)] [(.ref (a_DATE_EQUALS Z))]) _
      refine XS.aload X257.here hx rfl (hb hby at_367) rfl rfl ?_
      show oP p e below T257 (mkF m 369 #[oI p0, oR b7, oR b54, oI (15 : Int32), oR (a_DATE_EQUALS Z), oR (a_DATE_EQUALS Z)] [(.ref (a_DATE_EQUALS Z)), (.ref (a_DATE_EQUALS Z))]) _
      refine Jvm.RoadKit.acmp (g := (mkF m 369 #[oI p0, oR b7, oR b54, oI (15 : Int32), oR (a_DATE_EQUALS Z), oR (a_DATE_EQUALS Z)] [(.ref (a_DATE_EQUALS Z)), (.ref (a_DATE_EQUALS Z))])) X257 hx rfl rfl rfl (pc0 := 369) (pc' := 374) (same := true) rfl (hb hby at_369) rfl (decide_eq_true (congrArg Value.ref (rfl : (a_DATE_EQUALS Z) = (a_DATE_EQUALS Z)))) (by decide) (by decide) ?_
      show oP p e below T257 (mkF m 374 #[oI p0, oR b7, oR b54, oI (15 : Int32), oR (a_DATE_EQUALS Z), oR (a_DATE_EQUALS Z)] []) _
      refine XS.aload X257.here hx rfl (hb hby at_374) rfl rfl ?_
      show oP p e below T257 (mkF m 376 #[oI p0, oR b7, oR b54, oI (15 : Int32), oR (a_DATE_EQUALS Z), oR (a_DATE_EQUALS Z)] [(.ref (a_DATE_EQUALS Z))]) _
      refine st258.trans ?_
      show oP p e below T258 (mkF m 379 #[oI p0, oR b7, oR b54, oI (15 : Int32), oR (a_DATE_EQUALS Z), oR (a_DATE_EQUALS Z)] [(.ref (a_NUMBERS Z))]) _
      refine XS.aload X258.here hx rfl (hb hby at_379) rfl rfl ?_
      show oP p e below T258 (mkF m 381 #[oI p0, oR b7, oR b54, oI (15 : Int32), oR (a_DATE_EQUALS Z), oR (a_DATE_EQUALS Z)] [(.ref (a_DATE_EQUALS Z)), (.ref (a_NUMBERS Z))]) _
      refine st259.trans ?_
      show oP p e below T259 (mkF m 384 #[oI p0, oR b7, oR b54, oI (15 : Int32), oR (a_DATE_EQUALS Z), oR (a_DATE_EQUALS Z)] [(.ref (a_NUMBERS Z)), (.ref (a_NUMBERS Z))]) _
      refine Jvm.RoadKit.acmp (g := (mkF m 384 #[oI p0, oR b7, oR b54, oI (15 : Int32), oR (a_DATE_EQUALS Z), oR (a_DATE_EQUALS Z)] [(.ref (a_NUMBERS Z)), (.ref (a_NUMBERS Z))])) X259 hx rfl rfl rfl (pc0 := 384) (pc' := 389) (same := true) rfl (hb hby at_384) rfl (decide_eq_true (congrArg Value.ref (rfl : (a_NUMBERS Z) = (a_NUMBERS Z)))) (by decide) (by decide) ?_
      show oP p e below T259 (mkF m 389 #[oI p0, oR b7, oR b54, oI (15 : Int32), oR (a_DATE_EQUALS Z), oR (a_DATE_EQUALS Z)] []) _
      refine XS.aload X259.here hx rfl (hb hby at_389) rfl rfl ?_
      show oP p e below T259 (mkF m 391 #[oI p0, oR b7, oR b54, oI (15 : Int32), oR (a_DATE_EQUALS Z), oR (a_DATE_EQUALS Z)] [(.ref (a_DATE_EQUALS Z))]) _
      refine st261.trans ?_
      show oP p e below T261 (mkF m 394 #[oI p0, oR b7, oR b54, oI (15 : Int32), oR (a_DATE_EQUALS Z), oR (a_DATE_EQUALS Z)] [(.int (0 : Int32))]) _
      refine XS.aload X261.here hx rfl (hb hby at_394) rfl rfl ?_
      show oP p e below T261 (mkF m 396 #[oI p0, oR b7, oR b54, oI (15 : Int32), oR (a_DATE_EQUALS Z), oR (a_DATE_EQUALS Z)] [(.ref (a_DATE_EQUALS Z)), (.int (0 : Int32))]) _
      refine XS.aload X261.here hx rfl (hb hby at_396) rfl rfl ?_
      show oP p e below T261 (mkF m 398 #[oI p0, oR b7, oR b54, oI (15 : Int32), oR (a_DATE_EQUALS Z), oR (a_DATE_EQUALS Z)] [(.ref (a_DATE_EQUALS Z)), (.ref (a_DATE_EQUALS Z)), (.int (0 : Int32))]) _
      refine Jvm.RoadKit.acmp (g := (mkF m 398 #[oI p0, oR b7, oR b54, oI (15 : Int32), oR (a_DATE_EQUALS Z), oR (a_DATE_EQUALS Z)] [(.ref (a_DATE_EQUALS Z)), (.ref (a_DATE_EQUALS Z)), (.int (0 : Int32))])) X261 hx rfl rfl rfl (pc0 := 398) (pc' := 405) (same := true) rfl (hb hby at_398) rfl (decide_eq_true (congrArg Value.ref (rfl : (a_DATE_EQUALS Z) = (a_DATE_EQUALS Z)))) (by decide) (by decide) ?_
      show oP p e below T261 (mkF m 405 #[oI p0, oR b7, oR b54, oI (15 : Int32), oR (a_DATE_EQUALS Z), oR (a_DATE_EQUALS Z)] [(.int (0 : Int32))]) _
      refine XS.iconst X261.here hx rfl (hb hby at_405) ?_
      show oP p e below T261 (mkF m 406 #[oI p0, oR b7, oR b54, oI (15 : Int32), oR (a_DATE_EQUALS Z), oR (a_DATE_EQUALS Z)] [(.int (0 : Int32)), (.int (0 : Int32))]) _
      refine XS.icmpNo X261.here hx rfl (hb hby at_406) rfl (teq (by decide : (0 : Int32) = (0 : Int32))).2 ?_
      show oP p e below T261 (mkF m 409 #[oI p0, oR b7, oR b54, oI (15 : Int32), oR (a_DATE_EQUALS Z), oR (a_DATE_EQUALS Z)] []) _
      refine XS.iconst X261.here hx rfl (hb hby at_409) ?_
      show oP p e below T261 (mkF m 410 #[oI p0, oR b7, oR b54, oI (15 : Int32), oR (a_DATE_EQUALS Z), oR (a_DATE_EQUALS Z)] [(.int (1 : Int32))]) _
      refine XS.goto X261.here hx rfl (pc0 := 410) (pc' := 414) rfl (hb hby at_410) (by decide) (by decide) ?_
      show oP p e below T261 (mkF m 414 #[oI p0, oR b7, oR b54, oI (15 : Int32), oR (a_DATE_EQUALS Z), oR (a_DATE_EQUALS Z)] [(.int (1 : Int32))]) _
      exact retN X261 hx (t := .boolean) Bd.returns (by simp) (hb hby at_414) hr
    · show (some (.int (1 : Int32)) : Option Value) = some (.int (1 : Int32)) ∧ Fr n0 _ ∧ Keep h0 T261.heap []
      exact ⟨rfl, N261, Kc261⟩
  · have fx262 := ((((((((((((((((((((((((V53.ext E54).other W56 ne_b7_b54).other W58 ne_b7_b54).other W60 ne_b7_b54).other W62 ne_b7_b54).other W64 ne_b7_b54).other W66 ne_b7_b54).other W68 ne_b7_b54).other W70 ne_b7_b54).other W72 ne_b7_b54).other W74 ne_b7_b54).other W76 ne_b7_b54).other W78 ne_b7_b54).other W80 ne_b7_b54).other W82 ne_b7_b54).other W84 ne_b7_b54).other W86 ne_b7_b54).other W88 ne_b7_b54).other W90 ne_b7_b54).other W92 ne_b7_b54).other W94 ne_b7_b54).other W96 ne_b7_b54).other W98 ne_b7_b54).other W100 ne_b7_b54)
    obtain ⟨lo263, X263, N263⟩ := own_hide X100 N100
    obtain ⟨cq264, kq264, q264a, q264b, q264c⟩ := isOf hZ e100 ((e_a_DATE_NOT_EQUALS hS).ext O100.2)
    obtain ⟨_, _, ⟨T264, L264, k264, n264⟩, -, X264, ⟨Lc264, hQ264, l264, y264, z264⟩, st264⟩ := X263.virtualBack hx (y := (⟨"com/example/menshen/menshen/policy/ConditionOperator", "positive", "()Lcom/example/menshen/menshen/policy/ConditionOperator;"⟩ : MethodName)) (z := (⟨"com/example/menshen/menshen/policy/ConditionOperator", "positive", "()Lcom/example/menshen/menshen/policy/ConditionOperator;"⟩ : MethodName)) hown (mvT hZ (hw _ (List.mem_of_getElem? (i := 51) rfl))) (mvT hZ (hw _ (List.mem_of_getElem? (i := 52) rfl))) (notFace_of_selects (args := #[]) (mvT hZ (hw _ (List.mem_of_getElem? (i := 54) rfl)))) (mvT hZ (hw _ (List.mem_of_getElem? (i := 54) rfl))) (mvT hZ (hw _ (List.mem_of_getElem? (i := 53) rfl))) (by decide) (backOf (W := 0) (rm1r l Z a0 hw hS [] (a_DATE_NOT_EQUALS Z) (a_DATE_EQUALS Z) h100 n0 O100 ((f_a_DATE_NOT_EQUALS_negationOf hS).ext O100.2)) hZ (hw _ (List.mem_of_getElem? (i := 55) rfl)) (hw _ (List.mem_of_getElem? (i := 3) rfl)) (by decide) (by decide)) q264a q264c (g := (mkF m 337 #[oI p0, oR b7, oR b54, oI (16 : Int32), oR (a_DATE_NOT_EQUALS Z), oU] [(.ref (a_DATE_NOT_EQUALS Z))])) rfl (by rw [hml]; rfl) (Steps.refl _) (argsL := []) (rest := []) (lenOf pd_0 rfl) rfl (by show 2 * 0 + _ ≤ _; exact Nat.le_of_eq rfl) (hb hby at_337) (fun _ _ => ⟨rfl, e100, (by decide : 2 + 0 ≤ _), (by decide : 46 + 0 ≤ _)⟩)
    dsimp only [Pt.U, Pt.locs, Pt.cells, Pt.slots] at X264 l264 y264 z264 st264 hQ264
    subst l264 y264 z264
    obtain ⟨v264, N264q, K264q⟩ := hQ264
    have w264 : (fn1r Z (a_DATE_NOT_EQUALS Z) (a_DATE_EQUALS Z)) = (a_DATE_EQUALS Z) := rfl
    rw [w264] at v264
    subst v264
    have N264 := Fr.app N263 N264q
    have O264 := O100.keep K264q all0
    have Kc264 := Kc100.trans K264q all0
    have fx265 := (V100.keep K264q nin0)
    obtain ⟨cq266, kq266, q266a, q266b, q266c⟩ := isOf hZ rfl ((e_a_DATE_EQUALS hS).ext O264.2)
    obtain ⟨_, _, ⟨T266, L266, k266, n266⟩, -, X266, ⟨Lc266, hQ266, l266, y266, z266⟩, st266⟩ := X264.virtualBack hx (y := (⟨"com/example/menshen/menshen/policy/ConditionOperator", "isNegated", "()Z"⟩ : MethodName)) (z := (⟨"com/example/menshen/menshen/policy/ConditionOperator", "isNegated", "()Z"⟩ : MethodName)) hown (mvT hZ (hw _ (List.mem_of_getElem? (i := 58) rfl))) (mvT hZ (hw _ (List.mem_of_getElem? (i := 59) rfl))) (notFace_of_selects (args := #[]) (mvT hZ (hw _ (List.mem_of_getElem? (i := 61) rfl)))) (mvT hZ (hw _ (List.mem_of_getElem? (i := 61) rfl))) (mvT hZ (hw _ (List.mem_of_getElem? (i := 60) rfl))) (by decide) (backOf (W := 0) (rm2n l Z a0 hw hS [] (a_DATE_EQUALS Z) T264.heap n0 O264 ((f_a_DATE_EQUALS_negationOf hS).ext O264.2)) hZ (hw _ (List.mem_of_getElem? (i := 62) rfl)) (hw _ (List.mem_of_getElem? (i := 3) rfl)) (by decide) (by decide)) q266a q266c (g := (mkF m 354 #[oI p0, oR b7, oR b54, oI (16 : Int32), oR (a_DATE_NOT_EQUALS Z), oR (a_DATE_EQUALS Z)] [(.ref (a_DATE_EQUALS Z))])) rfl (by rw [hml]; rfl) (Steps.refl _) (argsL := []) (rest := []) (lenOf pd_1 rfl) rfl (by show 2 * 0 + _ ≤ _; exact Nat.le_of_eq rfl) (hb hby at_354) (fun _ _ => ⟨rfl, rfl, (by decide : 2 + 0 ≤ _), (by decide : 46 + 0 ≤ _)⟩)
    dsimp only [Pt.U, Pt.locs, Pt.cells, Pt.slots] at X266 l266 y266 z266 st266 hQ266
    subst l266 y266 z266
    obtain ⟨v266, N266q, K266q⟩ := hQ266
    have w266 : (fn2n Z (a_DATE_EQUALS Z)) = (0 : Int32) := rfl
    rw [w266] at v266
    subst v266
    have N266 := Fr.app N264 N266q
    have O266 := O264.keep K266q all0
    have Kc266 := Kc264.trans K266q all0
    obtain ⟨cq267, kq267, q267a, q267b, q267c⟩ := isOf hZ rfl ((e_a_DATE_EQUALS hS).ext O266.2)
    obtain ⟨_, _, ⟨T267, L267, k267, n267⟩, -, X267, ⟨Lc267, hQ267, l267, y267, z267⟩, st267⟩ := X266.virtualBack hx (y := (⟨"com/example/menshen/menshen/policy/ConditionOperator", "positive", "()Lcom/example/menshen/menshen/policy/ConditionOperator;"⟩ : MethodName)) (z := (⟨"com/example/menshen/menshen/policy/ConditionOperator", "positive", "()Lcom/example/menshen/menshen/policy/ConditionOperator;"⟩ : MethodName)) hown (mvT hZ (hw _ (List.mem_of_getElem? (i := 51) rfl))) (mvT hZ (hw _ (List.mem_of_getElem? (i := 52) rfl))) (notFace_of_selects (args := #[]) (mvT hZ (hw _ (List.mem_of_getElem? (i := 54) rfl)))) (mvT hZ (hw _ (List.mem_of_getElem? (i := 54) rfl))) (mvT hZ (hw _ (List.mem_of_getElem? (i := 53) rfl))) (by decide) (backOf (W := 0) (rm1n l Z a0 hw hS [] (a_DATE_EQUALS Z) T266.heap n0 O266 ((f_a_DATE_EQUALS_negationOf hS).ext O266.2)) hZ (hw _ (List.mem_of_getElem? (i := 55) rfl)) (hw _ (List.mem_of_getElem? (i := 3) rfl)) (by decide) (by decide)) q267a q267c (g := (mkF m 364 #[oI p0, oR b7, oR b54, oI (16 : Int32), oR (a_DATE_NOT_EQUALS Z), oR (a_DATE_EQUALS Z)] [(.ref (a_DATE_EQUALS Z))])) rfl (by rw [hml]; rfl) (Steps.refl _) (argsL := []) (rest := []) (lenOf pd_0 rfl) rfl (by show 2 * 0 + _ ≤ _; exact Nat.le_of_eq rfl) (hb hby at_364) (fun _ _ => ⟨rfl, rfl, (by decide : 2 + 0 ≤ _), (by decide : 46 + 0 ≤ _)⟩)
    dsimp only [Pt.U, Pt.locs, Pt.cells, Pt.slots] at X267 l267 y267 z267 st267 hQ267
    subst l267 y267 z267
    obtain ⟨v267, N267q, K267q⟩ := hQ267
    have w267 : (fn1n Z (a_DATE_EQUALS Z)) = (a_DATE_EQUALS Z) := rfl
    rw [w267] at v267
    subst v267
    have N267 := Fr.app N266 N267q
    have O267 := O266.keep K267q all0
    have Kc267 := Kc266.trans K267q all0
    obtain ⟨cq268, kq268, q268a, q268b, q268c⟩ := isOf hZ rfl ((e_a_DATE_EQUALS hS).ext O267.2)
    obtain ⟨_, _, ⟨T268, L268, k268, n268⟩, -, X268, ⟨Lc268, hQ268, l268, y268, z268⟩, st268⟩ := X267.virtualBack hx (y := (⟨"com/example/menshen/menshen/policy/ConditionOperator", "literals", "()Lcom/example/menshen/menshen/policy/ConditionOperator$Literals;"⟩ : MethodName)) (z := (⟨"com/example/menshen/menshen/policy/ConditionOperator", "literals", "()Lcom/example/menshen/menshen/policy/ConditionOperator$Literals;"⟩ : MethodName)) hown (mvT hZ (hw _ (List.mem_of_getElem? (i := 63) rfl))) (mvT hZ (hw _ (List.mem_of_getElem? (i := 64) rfl))) (notFace_of_selects (args := #[]) (mvT hZ (hw _ (List.mem_of_getElem? (i := 66) rfl)))) (mvT hZ (hw _ (List.mem_of_getElem? (i := 66) rfl))) (mvT hZ (hw _ (List.mem_of_getElem? (i := 65) rfl))) (by decide) (backOf (W := 0) (rm3 l Z a0 hw hS [] (a_DATE_EQUALS Z) (a_NUMBERS Z) T267.heap n0 O267 ((f_a_DATE_EQUALS_literals hS).ext O267.2)) hZ (hw _ (List.mem_of_getElem? (i := 67) rfl)) (hw _ (List.mem_of_getElem? (i := 3) rfl)) (by decide) (by decide)) q268a q268c (g := (mkF m 376 #[oI p0, oR b7, oR b54, oI (16 : Int32), oR (a_DATE_NOT_EQUALS Z), oR (a_DATE_EQUALS Z)] [(.ref (a_DATE_EQUALS Z))])) rfl (by rw [hml]; rfl) (Steps.refl _) (argsL := []) (rest := []) (lenOf pd_2 rfl) rfl (by show 2 * 0 + _ ≤ _; exact Nat.le_of_eq rfl) (hb hby at_376) (fun _ _ => ⟨rfl, rfl, (by decide : 2 + 0 ≤ _), (by decide : 46 + 0 ≤ _)⟩)
    dsimp only [Pt.U, Pt.locs, Pt.cells, Pt.slots] at X268 l268 y268 z268 st268 hQ268
    subst l268 y268 z268
    obtain ⟨v268, N268q, K268q⟩ := hQ268
    have w268 : (fn3 Z (a_DATE_EQUALS Z) (a_NUMBERS Z)) = (a_NUMBERS Z) := rfl
    rw [w268] at v268
    subst v268
    have N268 := Fr.app N267 N268q
    have O268 := O267.keep K268q all0
    have Kc268 := Kc267.trans K268q all0
    obtain ⟨cq269, kq269, q269a, q269b, q269c⟩ := isOf hZ rfl ((e_a_DATE_NOT_EQUALS hS).ext O268.2)
    obtain ⟨_, _, ⟨T269, L269, k269, n269⟩, -, X269, ⟨Lc269, hQ269, l269, y269, z269⟩, st269⟩ := X268.virtualBack hx (y := (⟨"com/example/menshen/menshen/policy/ConditionOperator", "literals", "()Lcom/example/menshen/menshen/policy/ConditionOperator$Literals;"⟩ : MethodName)) (z := (⟨"com/example/menshen/menshen/policy/ConditionOperator", "literals", "()Lcom/example/menshen/menshen/policy/ConditionOperator$Literals;"⟩ : MethodName)) hown (mvT hZ (hw _ (List.mem_of_getElem? (i := 63) rfl))) (mvT hZ (hw _ (List.mem_of_getElem? (i := 64) rfl))) (notFace_of_selects (args := #[]) (mvT hZ (hw _ (List.mem_of_getElem? (i := 66) rfl)))) (mvT hZ (hw _ (List.mem_of_getElem? (i := 66) rfl))) (mvT hZ (hw _ (List.mem_of_getElem? (i := 65) rfl))) (by decide) (backOf (W := 1) (rm3 l Z a0 hw hS [] (a_DATE_NOT_EQUALS Z) (a_NUMBERS Z) T268.heap n0 O268 ((f_a_DATE_NOT_EQUALS_literals hS).ext O268.2)) hZ (hw _ (List.mem_of_getElem? (i := 67) rfl)) (hw _ (List.mem_of_getElem? (i := 3) rfl)) (by decide) (by decide)) q269a q269c (g := (mkF m 381 #[oI p0, oR b7, oR b54, oI (16 : Int32), oR (a_DATE_NOT_EQUALS Z), oR (a_DATE_EQUALS Z)] [(.ref (a_DATE_NOT_EQUALS Z)), (.ref (a_NUMBERS Z))])) rfl (by rw [hml]; rfl) (Steps.refl _) (argsL := []) (rest := [(.ref (a_NUMBERS Z))]) (lenOf pd_2 rfl) rfl (by show 2 * 0 + _ ≤ _; exact Nat.le_of_eq rfl) (hb hby at_381) (fun _ _ => ⟨rfl, rfl, (by decide : 2 + 0 ≤ _), (by decide : 46 + 0 ≤ _)⟩)
    dsimp only [Pt.U, Pt.locs, Pt.cells, Pt.slots] at X269 l269 y269 z269 st269 hQ269
    subst l269 y269 z269
    obtain ⟨v269, N269q, K269q⟩ := hQ269
    have w269 : (fn3 Z (a_DATE_NOT_EQUALS Z) (a_NUMBERS Z)) = (a_NUMBERS Z) := rfl
    rw [w269] at v269
    subst v269
    have N269 := Fr.app N268 N269q
    have O269 := O268.keep K269q all0
    have Kc269 := Kc268.trans K269q all0
    obtain ⟨lo270, X270, N270⟩ := own_hide X269 N269
    obtain ⟨cq271, kq271, q271a, q271b, q271c⟩ := isOf hZ rfl ((e_a_DATE_NOT_EQUALS hS).ext O269.2)
    obtain ⟨_, _, ⟨T271, L271, k271, n271⟩, -, X271, ⟨Lc271, hQ271, l271, y271, z271⟩, st271⟩ := X270.virtualBack hx (y := (⟨"com/example/menshen/menshen/policy/ConditionOperator", "isNegated", "()Z"⟩ : MethodName)) (z := (⟨"com/example/menshen/menshen/policy/ConditionOperator", "isNegated", "()Z"⟩ : MethodName)) hown (mvT hZ (hw _ (List.mem_of_getElem? (i := 58) rfl))) (mvT hZ (hw _ (List.mem_of_getElem? (i := 59) rfl))) (notFace_of_selects (args := #[]) (mvT hZ (hw _ (List.mem_of_getElem? (i := 61) rfl)))) (mvT hZ (hw _ (List.mem_of_getElem? (i := 61) rfl))) (mvT hZ (hw _ (List.mem_of_getElem? (i := 60) rfl))) (by decide) (backOf (W := 0) (rm2r l Z a0 hw hS [] (a_DATE_NOT_EQUALS Z) (a_DATE_EQUALS Z) T269.heap n0 O269 ((f_a_DATE_NOT_EQUALS_negationOf hS).ext O269.2)) hZ (hw _ (List.mem_of_getElem? (i := 62) rfl)) (hw _ (List.mem_of_getElem? (i := 3) rfl)) (by decide) (by decide)) q271a q271c (g := (mkF m 391 #[oI p0, oR b7, oR b54, oI (16 : Int32), oR (a_DATE_NOT_EQUALS Z), oR (a_DATE_EQUALS Z)] [(.ref (a_DATE_NOT_EQUALS Z))])) rfl (by rw [hml]; rfl) (Steps.refl _) (argsL := []) (rest := []) (lenOf pd_1 rfl) rfl (by show 2 * 0 + _ ≤ _; exact Nat.le_of_eq rfl) (hb hby at_391) (fun _ _ => ⟨rfl, rfl, (by decide : 2 + 0 ≤ _), (by decide : 46 + 0 ≤ _)⟩)
    dsimp only [Pt.U, Pt.locs, Pt.cells, Pt.slots] at X271 l271 y271 z271 st271 hQ271
    subst l271 y271 z271
    obtain ⟨v271, N271q, K271q⟩ := hQ271
    have w271 : (fn2r Z (a_DATE_NOT_EQUALS Z) (a_DATE_EQUALS Z)) = (1 : Int32) := rfl
    rw [w271] at v271
    subst v271
    have N271 := Fr.app N270 N271q
    have O271 := O269.keep K271q all0
    have Kc271 := Kc269.trans K271q all0
    obtain ⟨fs, hr, hrun, hended, hW, hsame⟩ := X271.leave (v := some (.int (1 : Int32))) (fun h => by rw [Bd.returns] at h; cases h)
    refine ⟨_, _, pre101 _ ?_, hrun, hended, _, _, rfl, ?_, ⟨_, rfl⟩, hW, hsame.mono (by decide) (by decide)⟩
    · show oP p e below T100 (mkF m 329 #[oI p0, oR b7, oR b54, oU, oU, oU] [(.int (16 : Int32))]) _
      refine XS.istoreN X100.here hx rfl (hb hby at_329) rfl (l' := #[oI p0, oR b7, oR b54, oI (16 : Int32), oU, oU]) rfl ?_
      show oP p e below T100 (mkF m 330 #[oI p0, oR b7, oR b54, oI (16 : Int32), oU, oU] []) _
      refine XS.aloadN X100.here hx rfl (hb hby at_330) rfl rfl ?_
      show oP p e below T100 (mkF m 331 #[oI p0, oR b7, oR b54, oI (16 : Int32), oU, oU] [(.ref b7)]) _
      refine XS.iloadN X100.here hx rfl (hb hby at_331) rfl ?_
      show oP p e below T100 (mkF m 332 #[oI p0, oR b7, oR b54, oI (16 : Int32), oU, oU] [(.int (16 : Int32)), (.ref b7)]) _
      refine own_aaload X100 hx hZ e100 fx262 rfl (j := (16 : Int32)) ⟨by decide, by decide⟩ (v := (.ref (a_DATE_NOT_EQUALS Z))) rfl (g := (mkF m 332 #[oI p0, oR b7, oR b54, oI (16 : Int32), oU, oU] [(.int (16 : Int32)), (.ref b7)])) rfl rfl (hb hby at_332) _ ?_
      show oP p e below T100 (mkF m 333 #[oI p0, oR b7, oR b54, oI (16 : Int32), oU, oU] [(.ref (a_DATE_NOT_EQUALS Z))]) _
      refine XS.astore X100.here hx rfl (hb hby at_333) rfl rfl (l' := #[oI p0, oR b7, oR b54, oI (16 : Int32), oR (a_DATE_NOT_EQUALS Z), oU]) rfl ?_
      show oP p e below T100 (mkF m 335 #[oI p0, oR b7, oR b54, oI (16 : Int32), oR (a_DATE_NOT_EQUALS Z), oU] []) _
      refine XS.aload X100.here hx rfl (hb hby at_335) rfl rfl ?_
      show oP p e below T100 (mkF m 337 #[oI p0, oR b7, oR b54, oI (16 : Int32), oR (a_DATE_NOT_EQUALS Z), oU] [(.ref (a_DATE_NOT_EQUALS Z))]) _
      refine st264.trans ?_
      show oP p e below T264 (mkF m 340 #[oI p0, oR b7, oR b54, oI (16 : Int32), oR (a_DATE_NOT_EQUALS Z), oU] [(.ref (a_DATE_EQUALS Z))]) _
      refine XS.astore X264.here hx rfl (hb hby at_340) rfl rfl (l' := #[oI p0, oR b7, oR b54, oI (16 : Int32), oR (a_DATE_NOT_EQUALS Z), oR (a_DATE_EQUALS Z)]) rfl ?_
      show oP p e below T264 (mkF m 342 #[oI p0, oR b7, oR b54, oI (16 : Int32), oR (a_DATE_NOT_EQUALS Z), oR (a_DATE_EQUALS Z)] []) _
      refine XS.aload X264.here hx rfl (hb hby at_342) rfl rfl ?_
      show oP p e below T264 (mkF m 344 #[oI p0, oR b7, oR b54, oI (16 : Int32), oR (a_DATE_NOT_EQUALS Z), oR (a_DATE_EQUALS Z)] [(.ref (a_DATE_EQUALS Z))]) _
      refine XS.aloadN X264.here hx rfl (hb hby at_344) rfl rfl ?_
      show oP p e below T264 (mkF m 345 #[oI p0, oR b7, oR b54, oI (16 : Int32), oR (a_DATE_NOT_EQUALS Z), oR (a_DATE_EQUALS Z)] [(.ref b54), (.ref (a_DATE_EQUALS Z))]) _
      refine XS.iloadN X264.here hx rfl (hb hby at_345) rfl ?_
      show oP p e below T264 (mkF m 346 #[oI p0, oR b7, oR b54, oI (16 : Int32), oR (a_DATE_NOT_EQUALS Z), oR (a_DATE_EQUALS Z)] [(.int (16 : Int32)), (.ref b54), (.ref (a_DATE_EQUALS Z))]) _
      refine own_aaload X264 hx hZ rfl fx265 rfl (j := (16 : Int32)) ⟨by decide, by decide⟩ (v := (.ref (a_DATE_EQUALS Z))) rfl (g := (mkF m 346 #[oI p0, oR b7, oR b54, oI (16 : Int32), oR (a_DATE_NOT_EQUALS Z), oR (a_DATE_EQUALS Z)] [(.int (16 : Int32)), (.ref b54), (.ref (a_DATE_EQUALS Z))])) rfl rfl (hb hby at_346) _ ?_
      show oP p e below T264 (mkF m 347 #[oI p0, oR b7, oR b54, oI (16 : Int32), oR (a_DATE_NOT_EQUALS Z), oR (a_DATE_EQUALS Z)] [(.ref (a_DATE_EQUALS Z)), (.ref (a_DATE_EQUALS Z))]) _
      refine Jvm.RoadKit.acmp (g := (mkF m 347 #[oI p0, oR b7, oR b54, oI (16 : Int32), oR (a_DATE_NOT_EQUALS Z), oR (a_DATE_EQUALS Z)] [(.ref (a_DATE_EQUALS Z)), (.ref (a_DATE_EQUALS Z))])) X264 hx rfl rfl rfl (pc0 := 347) (pc' := 352) (same := true) rfl (hb hby at_347) rfl (decide_eq_true (congrArg Value.ref (rfl : (a_DATE_EQUALS Z) = (a_DATE_EQUALS Z)))) (by decide) (by decide) ?_
      show oP p e below T264 (mkF m 352 #[oI p0, oR b7, oR b54, oI (16 : Int32), oR (a_DATE_NOT_EQUALS Z), oR (a_DATE_EQUALS Z)] []) _
      refine XS.aload X264.here hx rfl (hb hby at_352) rfl rfl ?_
      show oP p e below T264 (mkF m 354 #[oI p0, oR b7, oR b54, oI (16 : Int32), oR (a_DATE_NOT_EQUALS Z), oR (a_DATE_EQUALS Z)] [(.ref (a_DATE_EQUALS Z))]) _
      refine st266.trans ?_
      show oP p e below T266 (mkF m 357 #[oI p0, oR b7, oR b54, oI (16 : Int32), oR (a_DATE_NOT_EQUALS Z), oR (a_DATE_EQUALS Z)] [(.int (0 : Int32))]) _
      refine XS.ifYes X266.here hx rfl (pc0 := 357) (pc' := 362) rfl (hb hby at_357) rfl ((if0 _ _).trans (teq (by decide : (0 : Int32) = (0 : Int32))).1) (by decide) (by decide) ?_
      show oP p e below T266 (mkF m 362 #[oI p0, oR b7, oR b54, oI (16 : Int32), oR (a_DATE_NOT_EQUALS Z), oR (a_DATE_EQUALS Z)] []) _
      refine XS.aload X266.here hx rfl (hb hby at_362) rfl rfl ?_
      show oP p e below T266 (mkF m 364 #[oI p0, oR b7, oR b54, oI (16 : Int32), oR (a_DATE_NOT_EQUALS Z), oR (a_DATE_EQUALS Z)] [(.ref (a_DATE_EQUALS Z))]) _
      refine st267.trans ?_
      show oP p e below T267 (mkF m 367 #[oI p0, oR b7, oR b54, oI (16 : Int32), oR (a_DATE_NOT_EQUALS Z), oR (a_DATE_EQUALS Z)] [(.ref (a_DATE_EQUALS Z))]) _
      refine XS.aload X267.here hx rfl (hb hby at_367) rfl rfl ?_
      show oP p e below T267 (mkF m 369 #[oI p0, oR b7, oR b54, oI (16 : Int32), oR (a_DATE_NOT_EQUALS Z), oR (a_DATE_EQUALS Z)] [(.ref (a_DATE_EQUALS Z)), (.ref (a_DATE_EQUALS Z))]) _
      refine Jvm.RoadKit.acmp (g := (mkF m 369 #[oI p0, oR b7, oR b54, oI (16 : Int32), oR (a_DATE_NOT_EQUALS Z), oR (a_DATE_EQUALS Z)] [(.ref (a_DATE_EQUALS Z)), (.ref (a_DATE_EQUALS Z))])) X267 hx rfl rfl rfl (pc0 := 369) (pc' := 374) (same := true) rfl (hb hby at_369) rfl (decide_eq_true (congrArg Value.ref (rfl : (a_DATE_EQUALS Z) = (a_DATE_EQUALS Z)))) (by decide) (by decide) ?_
      show oP p e below T267 (mkF m 374 #[oI p0, oR b7, oR b54, oI (16 : Int32), oR (a_DATE_NOT_EQUALS Z), oR (a_DATE_EQUALS Z)] []) _
      refine XS.aload X267.here hx rfl (hb hby at_374) rfl rfl ?_
      show oP p e below T267 (mkF m 376 #[oI p0, oR b7, oR b54, oI (16 : Int32), oR (a_DATE_NOT_EQUALS Z), oR (a_DATE_EQUALS Z)] [(.ref (a_DATE_EQUALS Z))]) _
      refine st268.trans ?_
      show oP p e below T268 (mkF m 379 #[oI p0, oR b7, oR b54, oI (16 : Int32), oR (a_DATE_NOT_EQUALS Z), oR (a_DATE_EQUALS Z)] [(.ref (a_NUMBERS Z))]) _
      refine XS.aload X268.here hx rfl (hb hby at_379) rfl rfl ?_
      show oP p e below T268 (mkF m 381 #[oI p0, oR b7, oR b54, oI (16 : Int32), oR (a_DATE_NOT_EQUALS Z), oR (a_DATE_EQUALS Z)] [(.ref (a_DATE_NOT_EQUALS Z)), (.ref (a_NUMBERS Z))]) _
      refine st269.trans ?_
      show oP p e below T269 (mkF m 384 #[oI p0, oR b7, oR b54, oI (16 : Int32), oR (a_DATE_NOT_EQUALS Z), oR (a_DATE_EQUALS Z)] [(.ref (a_NUMBERS Z)), (.ref (a_NUMBERS Z))]) _
      refine Jvm.RoadKit.acmp (g := (mkF m 384 #[oI p0, oR b7, oR b54, oI (16 : Int32), oR (a_DATE_NOT_EQUALS Z), oR (a_DATE_EQUALS Z)] [(.ref (a_NUMBERS Z)), (.ref (a_NUMBERS Z))])) X269 hx rfl rfl rfl (pc0 := 384) (pc' := 389) (same := true) rfl (hb hby at_384) rfl (decide_eq_true (congrArg Value.ref (rfl : (a_NUMBERS Z) = (a_NUMBERS Z)))) (by decide) (by decide) ?_
      show oP p e below T269 (mkF m 389 #[oI p0, oR b7, oR b54, oI (16 : Int32), oR (a_DATE_NOT_EQUALS Z), oR (a_DATE_EQUALS Z)] []) _
      refine XS.aload X269.here hx rfl (hb hby at_389) rfl rfl ?_
      show oP p e below T269 (mkF m 391 #[oI p0, oR b7, oR b54, oI (16 : Int32), oR (a_DATE_NOT_EQUALS Z), oR (a_DATE_EQUALS Z)] [(.ref (a_DATE_NOT_EQUALS Z))]) _
      refine st271.trans ?_
      show oP p e below T271 (mkF m 394 #[oI p0, oR b7, oR b54, oI (16 : Int32), oR (a_DATE_NOT_EQUALS Z), oR (a_DATE_EQUALS Z)] [(.int (1 : Int32))]) _
      refine XS.aload X271.here hx rfl (hb hby at_394) rfl rfl ?_
      show oP p e below T271 (mkF m 396 #[oI p0, oR b7, oR b54, oI (16 : Int32), oR (a_DATE_NOT_EQUALS Z), oR (a_DATE_EQUALS Z)] [(.ref (a_DATE_EQUALS Z)), (.int (1 : Int32))]) _
      refine XS.aload X271.here hx rfl (hb hby at_396) rfl rfl ?_
      show oP p e below T271 (mkF m 398 #[oI p0, oR b7, oR b54, oI (16 : Int32), oR (a_DATE_NOT_EQUALS Z), oR (a_DATE_EQUALS Z)] [(.ref (a_DATE_NOT_EQUALS Z)), (.ref (a_DATE_EQUALS Z)), (.int (1 : Int32))]) _
      refine Jvm.RoadKit.acmp (g := (mkF m 398 #[oI p0, oR b7, oR b54, oI (16 : Int32), oR (a_DATE_NOT_EQUALS Z), oR (a_DATE_EQUALS Z)] [(.ref (a_DATE_NOT_EQUALS Z)), (.ref (a_DATE_EQUALS Z)), (.int (1 : Int32))])) X271 hx rfl rfl rfl (pc0 := 398) (pc' := 401) (same := false) rfl (hb hby at_398) rfl (decide_eq_false fun q => ((f_a_DATE_EQUALS_ordinal hS).ne (f_a_DATE_NOT_EQUALS_ordinal hS) (by decide)) (Value.ref.inj q)) (by decide) (by decide) ?_
      show oP p e below T271 (mkF m 401 #[oI p0, oR b7, oR b54, oI (16 : Int32), oR (a_DATE_NOT_EQUALS Z), oR (a_DATE_EQUALS Z)] [(.int (1 : Int32))]) _
      refine XS.iconst X271.here hx rfl (hb hby at_401) ?_
      show oP p e below T271 (mkF m 402 #[oI p0, oR b7, oR b54, oI (16 : Int32), oR (a_DATE_NOT_EQUALS Z), oR (a_DATE_EQUALS Z)] [(.int (1 : Int32)), (.int (1 : Int32))]) _
      refine XS.goto X271.here hx rfl (pc0 := 402) (pc' := 406) rfl (hb hby at_402) (by decide) (by decide) ?_
      show oP p e below T271 (mkF m 406 #[oI p0, oR b7, oR b54, oI (16 : Int32), oR (a_DATE_NOT_EQUALS Z), oR (a_DATE_EQUALS Z)] [(.int (1 : Int32)), (.int (1 : Int32))]) _
      refine XS.icmpNo X271.here hx rfl (hb hby at_406) rfl (teq (by decide : (1 : Int32) = (1 : Int32))).2 ?_
      show oP p e below T271 (mkF m 409 #[oI p0, oR b7, oR b54, oI (16 : Int32), oR (a_DATE_NOT_EQUALS Z), oR (a_DATE_EQUALS Z)] []) _
      refine XS.iconst X271.here hx rfl (hb hby at_409) ?_
      show oP p e below T271 (mkF m 410 #[oI p0, oR b7, oR b54, oI (16 : Int32), oR (a_DATE_NOT_EQUALS Z), oR (a_DATE_EQUALS Z)] [(.int (1 : Int32))]) _
      refine XS.goto X271.here hx rfl (pc0 := 410) (pc' := 414) rfl (hb hby at_410) (by decide) (by decide) ?_
      show oP p e below T271 (mkF m 414 #[oI p0, oR b7, oR b54, oI (16 : Int32), oR (a_DATE_NOT_EQUALS Z), oR (a_DATE_EQUALS Z)] [(.int (1 : Int32))]) _
      exact retN X271 hx (t := .boolean) Bd.returns (by simp) (hb hby at_414) hr
    · show (some (.int (1 : Int32)) : Option Value) = some (.int (1 : Int32)) ∧ Fr n0 _ ∧ Keep h0 T271.heap []
      exact ⟨rfl, N271, Kc271⟩
  · have fx272 := ((((((((((((((((((((((((V53.ext E54).other W56 ne_b7_b54).other W58 ne_b7_b54).other W60 ne_b7_b54).other W62 ne_b7_b54).other W64 ne_b7_b54).other W66 ne_b7_b54).other W68 ne_b7_b54).other W70 ne_b7_b54).other W72 ne_b7_b54).other W74 ne_b7_b54).other W76 ne_b7_b54).other W78 ne_b7_b54).other W80 ne_b7_b54).other W82 ne_b7_b54).other W84 ne_b7_b54).other W86 ne_b7_b54).other W88 ne_b7_b54).other W90 ne_b7_b54).other W92 ne_b7_b54).other W94 ne_b7_b54).other W96 ne_b7_b54).other W98 ne_b7_b54).other W100 ne_b7_b54)
    obtain ⟨lo273, X273, N273⟩ := own_hide X100 N100
    obtain ⟨cq274, kq274, q274a, q274b, q274c⟩ := isOf hZ e100 ((e_a_DATE_LESS_THAN hS).ext O100.2)
    obtain ⟨_, _, ⟨T274, L274, k274, n274⟩, -, X274, ⟨Lc274, hQ274, l274, y274, z274⟩, st274⟩ := X273.virtualBack hx (y := (⟨"com/example/menshen/menshen/policy/ConditionOperator", "positive", "()Lcom/example/menshen/menshen/policy/ConditionOperator;"⟩ : MethodName)) (z := (⟨"com/example/menshen/menshen/policy/ConditionOperator", "positive", "()Lcom/example/menshen/menshen/policy/ConditionOperator;"⟩ : MethodName)) hown (mvT hZ (hw _ (List.mem_of_getElem? (i := 51) rfl))) (mvT hZ (hw _ (List.mem_of_getElem? (i := 52) rfl))) (notFace_of_selects (args := #[]) (mvT hZ (hw _ (List.mem_of_getElem? (i := 54) rfl)))) (mvT hZ (hw _ (List.mem_of_getElem? (i := 54) rfl))) (mvT hZ (hw _ (List.mem_of_getElem? (i := 53) rfl))) (by decide) (backOf (W := 0) (rm1n l Z a0 hw hS [] (a_DATE_LESS_THAN Z) h100 n0 O100 ((f_a_DATE_LESS_THAN_negationOf hS).ext O100.2)) hZ (hw _ (List.mem_of_getElem? (i := 55) rfl)) (hw _ (List.mem_of_getElem? (i := 3) rfl)) (by decide) (by decide)) q274a q274c (g := (mkF m 337 #[oI p0, oR b7, oR b54, oI (17 : Int32), oR (a_DATE_LESS_THAN Z), oU] [(.ref (a_DATE_LESS_THAN Z))])) rfl (by rw [hml]; rfl) (Steps.refl _) (argsL := []) (rest := []) (lenOf pd_0 rfl) rfl (by show 2 * 0 + _ ≤ _; exact Nat.le_of_eq rfl) (hb hby at_337) (fun _ _ => ⟨rfl, e100, (by decide : 2 + 0 ≤ _), (by decide : 46 + 0 ≤ _)⟩)
    dsimp only [Pt.U, Pt.locs, Pt.cells, Pt.slots] at X274 l274 y274 z274 st274 hQ274
    subst l274 y274 z274
    obtain ⟨v274, N274q, K274q⟩ := hQ274
    have w274 : (fn1n Z (a_DATE_LESS_THAN Z)) = (a_DATE_LESS_THAN Z) := rfl
    rw [w274] at v274
    subst v274
    have N274 := Fr.app N273 N274q
    have O274 := O100.keep K274q all0
    have Kc274 := Kc100.trans K274q all0
    have fx275 := (V100.keep K274q nin0)
    obtain ⟨cq276, kq276, q276a, q276b, q276c⟩ := isOf hZ rfl ((e_a_DATE_LESS_THAN hS).ext O274.2)
    obtain ⟨_, _, ⟨T276, L276, k276, n276⟩, -, X276, ⟨Lc276, hQ276, l276, y276, z276⟩, st276⟩ := X274.virtualBack hx (y := (⟨"com/example/menshen/menshen/policy/ConditionOperator", "isNegated", "()Z"⟩ : MethodName)) (z := (⟨"com/example/menshen/menshen/policy/ConditionOperator", "isNegated", "()Z"⟩ : MethodName)) hown (mvT hZ (hw _ (List.mem_of_getElem? (i := 58) rfl))) (mvT hZ (hw _ (List.mem_of_getElem? (i := 59) rfl))) (notFace_of_selects (args := #[]) (mvT hZ (hw _ (List.mem_of_getElem? (i := 61) rfl)))) (mvT hZ (hw _ (List.mem_of_getElem? (i := 61) rfl))) (mvT hZ (hw _ (List.mem_of_getElem? (i := 60) rfl))) (by decide) (backOf (W := 0) (rm2n l Z a0 hw hS [] (a_DATE_LESS_THAN Z) T274.heap n0 O274 ((f_a_DATE_LESS_THAN_negationOf hS).ext O274.2)) hZ (hw _ (List.mem_of_getElem? (i := 62) rfl)) (hw _ (List.mem_of_getElem? (i := 3) rfl)) (by decide) (by decide)) q276a q276c (g := (mkF m 354 #[oI p0, oR b7, oR b54, oI (17 : Int32), oR (a_DATE_LESS_THAN Z), oR (a_DATE_LESS_THAN Z)] [(.ref (a_DATE_LESS_THAN Z))])) rfl (by rw [hml]; rfl) (Steps.refl _) (argsL := []) (rest := []) (lenOf pd_1 rfl) rfl (by show 2 * 0 + _ ≤ _; exact Nat.le_of_eq rfl) (hb hby at_354) (fun _ _ => ⟨rfl, rfl, (by decide : 2 + 0 ≤ _), (by decide : 46 + 0 ≤ _)⟩)
    dsimp only [Pt.U, Pt.locs, Pt.cells, Pt.slots] at X276 l276 y276 z276 st276 hQ276
    subst l276 y276 z276
    obtain ⟨v276, N276q, K276q⟩ := hQ276
    have w276 : (fn2n Z (a_DATE_LESS_THAN Z)) = (0 : Int32) := rfl
    rw [w276] at v276
    subst v276
    have N276 := Fr.app N274 N276q
    have O276 := O274.keep K276q all0
    have Kc276 := Kc274.trans K276q all0
    obtain ⟨cq277, kq277, q277a, q277b, q277c⟩ := isOf hZ rfl ((e_a_DATE_LESS_THAN hS).ext O276.2)
    obtain ⟨_, _, ⟨T277, L277, k277, n277⟩, -, X277, ⟨Lc277, hQ277, l277, y277, z277⟩, st277⟩ := X276.virtualBack hx (y := (⟨"com/example/menshen/menshen/policy/ConditionOperator", "positive", "()Lcom/example/menshen/menshen/policy/ConditionOperator;"⟩ : MethodName)) (z := (⟨"com/example/menshen/menshen/policy/ConditionOperator", "positive", "()Lcom/example/menshen/menshen/policy/ConditionOperator;"⟩ : MethodName)) hown (mvT hZ (hw _ (List.mem_of_getElem? (i := 51) rfl))) (mvT hZ (hw _ (List.mem_of_getElem? (i := 52) rfl))) (notFace_of_selects (args := #[]) (mvT hZ (hw _ (List.mem_of_getElem? (i := 54) rfl)))) (mvT hZ (hw _ (List.mem_of_getElem? (i := 54) rfl))) (mvT hZ (hw _ (List.mem_of_getElem? (i := 53) rfl))) (by decide) (backOf (W := 0) (rm1n l Z a0 hw hS [] (a_DATE_LESS_THAN Z) T276.heap n0 O276 ((f_a_DATE_LESS_THAN_negationOf hS).ext O276.2)) hZ (hw _ (List.mem_of_getElem? (i := 55) rfl)) (hw _ (List.mem_of_getElem? (i := 3) rfl)) (by decide) (by decide)) q277a q277c (g := (mkF m 364 #[oI p0, oR b7, oR b54, oI (17 : Int32), oR (a_DATE_LESS_THAN Z), oR (a_DATE_LESS_THAN Z)] [(.ref (a_DATE_LESS_THAN Z))])) rfl (by rw [hml]; rfl) (Steps.refl _) (argsL := []) (rest := []) (lenOf pd_0 rfl) rfl (by show 2 * 0 + _ ≤ _; exact Nat.le_of_eq rfl) (hb hby at_364) (fun _ _ => ⟨rfl, rfl, (by decide : 2 + 0 ≤ _), (by decide : 46 + 0 ≤ _)⟩)
    dsimp only [Pt.U, Pt.locs, Pt.cells, Pt.slots] at X277 l277 y277 z277 st277 hQ277
    subst l277 y277 z277
    obtain ⟨v277, N277q, K277q⟩ := hQ277
    have w277 : (fn1n Z (a_DATE_LESS_THAN Z)) = (a_DATE_LESS_THAN Z) := rfl
    rw [w277] at v277
    subst v277
    have N277 := Fr.app N276 N277q
    have O277 := O276.keep K277q all0
    have Kc277 := Kc276.trans K277q all0
    obtain ⟨cq278, kq278, q278a, q278b, q278c⟩ := isOf hZ rfl ((e_a_DATE_LESS_THAN hS).ext O277.2)
    obtain ⟨_, _, ⟨T278, L278, k278, n278⟩, -, X278, ⟨Lc278, hQ278, l278, y278, z278⟩, st278⟩ := X277.virtualBack hx (y := (⟨"com/example/menshen/menshen/policy/ConditionOperator", "literals", "()Lcom/example/menshen/menshen/policy/ConditionOperator$Literals;"⟩ : MethodName)) (z := (⟨"com/example/menshen/menshen/policy/ConditionOperator", "literals", "()Lcom/example/menshen/menshen/policy/ConditionOperator$Literals;"⟩ : MethodName)) hown (mvT hZ (hw _ (List.mem_of_getElem? (i := 63) rfl))) (mvT hZ (hw _ (List.mem_of_getElem? (i := 64) rfl))) (notFace_of_selects (args := #[]) (mvT hZ (hw _ (List.mem_of_getElem? (i := 66) rfl)))) (mvT hZ (hw _ (List.mem_of_getElem? (i := 66) rfl))) (mvT hZ (hw _ (List.mem_of_getElem? (i := 65) rfl))) (by decide) (backOf (W := 0) (rm3 l Z a0 hw hS [] (a_DATE_LESS_THAN Z) (a_NUMBERS Z) T277.heap n0 O277 ((f_a_DATE_LESS_THAN_literals hS).ext O277.2)) hZ (hw _ (List.mem_of_getElem? (i := 67) rfl)) (hw _ (List.mem_of_getElem? (i := 3) rfl)) (by decide) (by decide)) q278a q278c (g := (mkF m 376 #[oI p0, oR b7, oR b54, oI (17 : Int32), oR (a_DATE_LESS_THAN Z), oR (a_DATE_LESS_THAN Z)] [(.ref (a_DATE_LESS_THAN Z))])) rfl (by rw [hml]; rfl) (Steps.refl _) (argsL := []) (rest := []) (lenOf pd_2 rfl) rfl (by show 2 * 0 + _ ≤ _; exact Nat.le_of_eq rfl) (hb hby at_376) (fun _ _ => ⟨rfl, rfl, (by decide : 2 + 0 ≤ _), (by decide : 46 + 0 ≤ _)⟩)
    dsimp only [Pt.U, Pt.locs, Pt.cells, Pt.slots] at X278 l278 y278 z278 st278 hQ278
    subst l278 y278 z278
    obtain ⟨v278, N278q, K278q⟩ := hQ278
    have w278 : (fn3 Z (a_DATE_LESS_THAN Z) (a_NUMBERS Z)) = (a_NUMBERS Z) := rfl
    rw [w278] at v278
    subst v278
    have N278 := Fr.app N277 N278q
    have O278 := O277.keep K278q all0
    have Kc278 := Kc277.trans K278q all0
    obtain ⟨cq279, kq279, q279a, q279b, q279c⟩ := isOf hZ rfl ((e_a_DATE_LESS_THAN hS).ext O278.2)
    obtain ⟨_, _, ⟨T279, L279, k279, n279⟩, -, X279, ⟨Lc279, hQ279, l279, y279, z279⟩, st279⟩ := X278.virtualBack hx (y := (⟨"com/example/menshen/menshen/policy/ConditionOperator", "literals", "()Lcom/example/menshen/menshen/policy/ConditionOperator$Literals;"⟩ : MethodName)) (z := (⟨"com/example/menshen/menshen/policy/ConditionOperator", "literals", "()Lcom/example/menshen/menshen/policy/ConditionOperator$Literals;"⟩ : MethodName)) hown (mvT hZ (hw _ (List.mem_of_getElem? (i := 63) rfl))) (mvT hZ (hw _ (List.mem_of_getElem? (i := 64) rfl))) (notFace_of_selects (args := #[]) (mvT hZ (hw _ (List.mem_of_getElem? (i := 66) rfl)))) (mvT hZ (hw _ (List.mem_of_getElem? (i := 66) rfl))) (mvT hZ (hw _ (List.mem_of_getElem? (i := 65) rfl))) (by decide) (backOf (W := 1) (rm3 l Z a0 hw hS [] (a_DATE_LESS_THAN Z) (a_NUMBERS Z) T278.heap n0 O278 ((f_a_DATE_LESS_THAN_literals hS).ext O278.2)) hZ (hw _ (List.mem_of_getElem? (i := 67) rfl)) (hw _ (List.mem_of_getElem? (i := 3) rfl)) (by decide) (by decide)) q279a q279c (g := (mkF m 381 #[oI p0, oR b7, oR b54, oI (17 : Int32), oR (a_DATE_LESS_THAN Z), oR (a_DATE_LESS_THAN Z)] [(.ref (a_DATE_LESS_THAN Z)), (.ref (a_NUMBERS Z))])) rfl (by rw [hml]; rfl) (Steps.refl _) (argsL := []) (rest := [(.ref (a_NUMBERS Z))]) (lenOf pd_2 rfl) rfl (by show 2 * 0 + _ ≤ _; exact Nat.le_of_eq rfl) (hb hby at_381) (fun _ _ => ⟨rfl, rfl, (by decide : 2 + 0 ≤ _), (by decide : 46 + 0 ≤ _)⟩)
    dsimp only [Pt.U, Pt.locs, Pt.cells, Pt.slots] at X279 l279 y279 z279 st279 hQ279
    subst l279 y279 z279
    obtain ⟨v279, N279q, K279q⟩ := hQ279
    have w279 : (fn3 Z (a_DATE_LESS_THAN Z) (a_NUMBERS Z)) = (a_NUMBERS Z) := rfl
    rw [w279] at v279
    subst v279
    have N279 := Fr.app N278 N279q
    have O279 := O278.keep K279q all0
    have Kc279 := Kc278.trans K279q all0
    obtain ⟨lo280, X280, N280⟩ := own_hide X279 N279
    obtain ⟨cq281, kq281, q281a, q281b, q281c⟩ := isOf hZ rfl ((e_a_DATE_LESS_THAN hS).ext O279.2)
    obtain ⟨_, _, ⟨T281, L281, k281, n281⟩, -, X281, ⟨Lc281, hQ281, l281, y281, z281⟩, st281⟩ := X280.virtualBack hx (y := (⟨"com/example/menshen/menshen/policy/ConditionOperator", "isNegated", "()Z"⟩ : MethodName)) (z := (⟨"com/example/menshen/menshen/policy/ConditionOperator", "isNegated", "()Z"⟩ : MethodName)) hown (mvT hZ (hw _ (List.mem_of_getElem? (i := 58) rfl))) (mvT hZ (hw _ (List.mem_of_getElem? (i := 59) rfl))) (notFace_of_selects (args := #[]) (mvT hZ (hw _ (List.mem_of_getElem? (i := 61) rfl)))) (mvT hZ (hw _ (List.mem_of_getElem? (i := 61) rfl))) (mvT hZ (hw _ (List.mem_of_getElem? (i := 60) rfl))) (by decide) (backOf (W := 0) (rm2n l Z a0 hw hS [] (a_DATE_LESS_THAN Z) T279.heap n0 O279 ((f_a_DATE_LESS_THAN_negationOf hS).ext O279.2)) hZ (hw _ (List.mem_of_getElem? (i := 62) rfl)) (hw _ (List.mem_of_getElem? (i := 3) rfl)) (by decide) (by decide)) q281a q281c (g := (mkF m 391 #[oI p0, oR b7, oR b54, oI (17 : Int32), oR (a_DATE_LESS_THAN Z), oR (a_DATE_LESS_THAN Z)] [(.ref (a_DATE_LESS_THAN Z))])) rfl (by rw [hml]; rfl) (Steps.refl _) (argsL := []) (rest := []) (lenOf pd_1 rfl) rfl (by show 2 * 0 + _ ≤ _; exact Nat.le_of_eq rfl) (hb hby at_391) (fun _ _ => ⟨rfl, rfl, (by decide : 2 + 0 ≤ _), (by decide : 46 + 0 ≤ _)⟩)
    dsimp only [Pt.U, Pt.locs, Pt.cells, Pt.slots] at X281 l281 y281 z281 st281 hQ281
    subst l281 y281 z281
    obtain ⟨v281, N281q, K281q⟩ := hQ281
    have w281 : (fn2n Z (a_DATE_LESS_THAN Z)) = (0 : Int32) := rfl
    rw [w281] at v281
    subst v281
    have N281 := Fr.app N280 N281q
    have O281 := O279.keep K281q all0
    have Kc281 := Kc279.trans K281q all0
    obtain ⟨fs, hr, hrun, hended, hW, hsame⟩ := X281.leave (v := some (.int (1 : Int32))) (fun h => by rw [Bd.returns] at h; cases h)
    refine ⟨_, _, pre101 _ ?_, hrun, hended, _, _, rfl, ?_, ⟨_, rfl⟩, hW, hsame.mono (by decide) (by decide)⟩
    · show oP p e below T100 (mkF m 329 #[oI p0, oR b7, oR b54, oU, oU, oU] [(.int (17 : Int32))]) _
      refine XS.istoreN X100.here hx rfl (hb hby at_329) rfl (l' := #[oI p0, oR b7, oR b54, oI (17 : Int32), oU, oU]) rfl ?_
      show oP p e below T100 (mkF m 330 #[oI p0, oR b7, oR b54, oI (17 : Int32), oU, oU] []) _
      refine XS.aloadN X100.here hx rfl (hb hby at_330) rfl rfl ?_
      show oP p e below T100 (mkF m 331 #[oI p0, oR b7, oR b54, oI (17 : Int32), oU, oU] [(.ref b7)]) _
      refine XS.iloadN X100.here hx rfl (hb hby at_331) rfl ?_
      show oP p e below T100 (mkF m 332 #[oI p0, oR b7, oR b54, oI (17 : Int32), oU, oU] [(.int (17 : Int32)), (.ref b7)]) _
      refine own_aaload X100 hx hZ e100 fx272 rfl (j := (17 : Int32)) ⟨by decide, by decide⟩ (v := (.ref (a_DATE_LESS_THAN Z))) rfl (g := (mkF m 332 #[oI p0, oR b7, oR b54, oI (17 : Int32), oU, oU] [(.int (17 : Int32)), (.ref b7)])) rfl rfl (hb hby at_332) _ ?_
      show oP p e below T100 (mkF m 333 #[oI p0, oR b7, oR b54, oI (17 : Int32), oU, oU] [(.ref (a_DATE_LESS_THAN Z))]) _
      refine XS.astore X100.here hx rfl (hb hby at_333) rfl rfl (l' := #[oI p0, oR b7, oR b54, oI (17 : Int32), oR (a_DATE_LESS_THAN Z), oU]) rfl ?_
      show oP p e below T100 (mkF m 335 #[oI p0, oR b7, oR b54, oI (17 : Int32), oR (a_DATE_LESS_THAN Z), oU] []) _
      refine XS.aload X100.here hx rfl (hb hby at_335) rfl rfl ?_
      show oP p e below T100 (mkF m 337 #[oI p0, oR b7, oR b54, oI (17 : Int32), oR (a_DATE_LESS_THAN Z), oU] [(.ref (a_DATE_LESS_THAN Z))]) _
      refine st274.trans ?_
      show oP p e below T274 (mkF m 340 #[oI p0, oR b7, oR b54, oI (17 : Int32), oR (a_DATE_LESS_THAN Z), oU] [(.ref (a_DATE_LESS_THAN Z))]) _
      refine XS.astore X274.here hx rfl (hb hby at_340) rfl rfl (l' := #[oI p0, oR b7, oR b54, oI (17 : Int32), oR (a_DATE_LESS_THAN Z), oR (a_DATE_LESS_THAN Z)]) rfl ?_
      show oP p e below T274 (mkF m 342 #[oI p0, oR b7, oR b54, oI (17 : Int32), oR (a_DATE_LESS_THAN Z), oR (a_DATE_LESS_THAN Z)] []) _
      refine XS.aload X274.here hx rfl (hb hby at_342) rfl rfl ?_
      show oP p e below T274 (mkF m 344 #[oI p0, oR b7, oR b54, oI (17 : Int32), oR (a_DATE_LESS_THAN Z), oR (a_DATE_LESS_THAN Z)] [(.ref (a_DATE_LESS_THAN Z))]) _
      refine XS.aloadN X274.here hx rfl (hb hby at_344) rfl rfl ?_
      show oP p e below T274 (mkF m 345 #[oI p0, oR b7, oR b54, oI (17 : Int32), oR (a_DATE_LESS_THAN Z), oR (a_DATE_LESS_THAN Z)] [(.ref b54), (.ref (a_DATE_LESS_THAN Z))]) _
      refine XS.iloadN X274.here hx rfl (hb hby at_345) rfl ?_
      show oP p e below T274 (mkF m 346 #[oI p0, oR b7, oR b54, oI (17 : Int32), oR (a_DATE_LESS_THAN Z), oR (a_DATE_LESS_THAN Z)] [(.int (17 : Int32)), (.ref b54), (.ref (a_DATE_LESS_THAN Z))]) _
      refine own_aaload X274 hx hZ rfl fx275 rfl (j := (17 : Int32)) ⟨by decide, by decide⟩ (v := (.ref (a_DATE_LESS_THAN Z))) rfl (g := (mkF m 346 #[oI p0, oR b7, oR b54, oI (17 : Int32), oR (a_DATE_LESS_THAN Z), oR (a_DATE_LESS_THAN Z)] [(.int (17 : Int32)), (.ref b54), (.ref (a_DATE_LESS_THAN Z))])) rfl rfl (hb hby at_346) _ ?_
      show oP p e below T274 (mkF m 347 #[oI p0, oR b7, oR b54, oI (17 : Int32), oR (a_DATE_LESS_THAN Z), oR (a_DATE_LESS_THAN Z)] [(.ref (a_DATE_LESS_THAN Z)), (.ref (a_DATE_LESS_THAN Z))]) _
      refine Jvm.RoadKit.acmp (g := (mkF m 347 #[oI p0, oR b7, oR b54, oI (17 : Int32), oR (a_DATE_LESS_THAN Z), oR (a_DATE_LESS_THAN Z)] [(.ref (a_DATE_LESS_THAN Z)), (.ref (a_DATE_LESS_THAN Z))])) X274 hx rfl rfl rfl (pc0 := 347) (pc' := 352) (same := true) rfl (hb hby at_347) rfl (decide_eq_true (congrArg Value.ref (rfl : (a_DATE_LESS_THAN Z) = (a_DATE_LESS_THAN Z)))) (by decide) (by decide) ?_
      show oP p e below T274 (mkF m 352 #[oI p0, oR b7, oR b54, oI (17 : Int32), oR (a_DATE_LESS_THAN Z), oR (a_DATE_LESS_THAN Z)] []) _
      refine XS.aload X274.here hx rfl (hb hby at_352) rfl rfl ?_
      show oP p e below T274 (mkF m 354 #[oI p0, oR b7, oR b54, oI (17 : Int32), oR (a_DATE_LESS_THAN Z), oR (a_DATE_LESS_THAN Z)] [(.ref (a_DATE_LESS_THAN Z))]) _
      refine st276.trans ?_
      show oP p e below T276 (mkF m 357 #[oI p0, oR b7, oR b54, oI (17 : Int32), oR (a_DATE_LESS_THAN Z), oR (a_DATE_LESS_THAN Z)] [(.int (0 : Int32))]) _
      refine XS.ifYes X276.here hx rfl (pc0 := 357) (pc' := 362) rfl (hb hby at_357) rfl ((if0 _ _).trans (teq (by decide : (0 : Int32) = (0 : Int32))).1) (by decide) (by decide) ?_
      show oP p e below T276 (mkF m 362 #[oI p0, oR b7, oR b54, oI (17 : Int32), oR (a_DATE_LESS_THAN Z), oR (a_DATE_LESS_THAN Z)] []) _
      refine XS.aload X276.here hx rfl (hb hby at_362) rfl rfl ?_
      show oP p e below T276 (mkF m 364 #[oI p0, oR b7, oR b54, oI (17 : Int32), oR (a_DATE_LESS_THAN Z), oR (a_DATE_LESS_THAN Z)] [(.ref (a_DATE_LESS_THAN Z))]) _
      refine st277.trans ?_
      show oP p e below T277 (mkF m 367 #[oI p0, oR b7, oR b54, oI (17 : Int32), oR (a_DATE_LESS_THAN Z), oR (a_DATE_LESS_THAN Z)] [(.ref (a_DATE_LESS_THAN Z))]) _
      refine XS.aload X277.here hx rfl (hb hby at_367) rfl rfl ?_
      show oP p e below T277 (mkF m 369 #[oI p0, oR b7, oR b54, oI (17 : Int32), oR (a_DATE_LESS_THAN Z), oR (a_DATE_LESS_THAN Z)] [(.ref (a_DATE_LESS_THAN Z)), (.ref (a_DATE_LESS_THAN Z))]) _
      refine Jvm.RoadKit.acmp (g := (mkF m 369 #[oI p0, oR b7, oR b54, oI (17 : Int32), oR (a_DATE_LESS_THAN Z), oR (a_DATE_LESS_THAN Z)] [(.ref (a_DATE_LESS_THAN Z)), (.ref (a_DATE_LESS_THAN Z))])) X277 hx rfl rfl rfl (pc0 := 369) (pc' := 374) (same := true) rfl (hb hby at_369) rfl (decide_eq_true (congrArg Value.ref (rfl : (a_DATE_LESS_THAN Z) = (a_DATE_LESS_THAN Z)))) (by decide) (by decide) ?_
      show oP p e below T277 (mkF m 374 #[oI p0, oR b7, oR b54, oI (17 : Int32), oR (a_DATE_LESS_THAN Z), oR (a_DATE_LESS_THAN Z)] []) _
      refine XS.aload X277.here hx rfl (hb hby at_374) rfl rfl ?_
      show oP p e below T277 (mkF m 376 #[oI p0, oR b7, oR b54, oI (17 : Int32), oR (a_DATE_LESS_THAN Z), oR (a_DATE_LESS_THAN Z)] [(.ref (a_DATE_LESS_THAN Z))]) _
      refine st278.trans ?_
      show oP p e below T278 (mkF m 379 #[oI p0, oR b7, oR b54, oI (17 : Int32), oR (a_DATE_LESS_THAN Z), oR (a_DATE_LESS_THAN Z)] [(.ref (a_NUMBERS Z))]) _
      refine XS.aload X278.here hx rfl (hb hby at_379) rfl rfl ?_
      show oP p e below T278 (mkF m 381 #[oI p0, oR b7, oR b54, oI (17 : Int32), oR (a_DATE_LESS_THAN Z), oR (a_DATE_LESS_THAN Z)] [(.ref (a_DATE_LESS_THAN Z)), (.ref (a_NUMBERS Z))]) _
      refine st279.trans ?_
      show oP p e below T279 (mkF m 384 #[oI p0, oR b7, oR b54, oI (17 : Int32), oR (a_DATE_LESS_THAN Z), oR (a_DATE_LESS_THAN Z)] [(.ref (a_NUMBERS Z)), (.ref (a_NUMBERS Z))]) _
      refine Jvm.RoadKit.acmp (g := (mkF m 384 #[oI p0, oR b7, oR b54, oI (17 : Int32), oR (a_DATE_LESS_THAN Z), oR (a_DATE_LESS_THAN Z)] [(.ref (a_NUMBERS Z)), (.ref (a_NUMBERS Z))])) X279 hx rfl rfl rfl (pc0 := 384) (pc' := 389) (same := true) rfl (hb hby at_384) rfl (decide_eq_true (congrArg Value.ref (rfl : (a_NUMBERS Z) = (a_NUMBERS Z)))) (by decide) (by decide) ?_
      show oP p e below T279 (mkF m 389 #[oI p0, oR b7, oR b54, oI (17 : Int32), oR (a_DATE_LESS_THAN Z), oR (a_DATE_LESS_THAN Z)] []) _
      refine XS.aload X279.here hx rfl (hb hby at_389) rfl rfl ?_
      show oP p e below T279 (mkF m 391 #[oI p0, oR b7, oR b54, oI (17 : Int32), oR (a_DATE_LESS_THAN Z), oR (a_DATE_LESS_THAN Z)] [(.ref (a_DATE_LESS_THAN Z))]) _
      refine st281.trans ?_
      show oP p e below T281 (mkF m 394 #[oI p0, oR b7, oR b54, oI (17 : Int32), oR (a_DATE_LESS_THAN Z), oR (a_DATE_LESS_THAN Z)] [(.int (0 : Int32))]) _
      refine XS.aload X281.here hx rfl (hb hby at_394) rfl rfl ?_
      show oP p e below T281 (mkF m 396 #[oI p0, oR b7, oR b54, oI (17 : Int32), oR (a_DATE_LESS_THAN Z), oR (a_DATE_LESS_THAN Z)] [(.ref (a_DATE_LESS_THAN Z)), (.int (0 : Int32))]) _
      refine XS.aload X281.here hx rfl (hb hby at_396) rfl rfl ?_
      show oP p e below T281 (mkF m 398 #[oI p0, oR b7, oR b54, oI (17 : Int32), oR (a_DATE_LESS_THAN Z), oR (a_DATE_LESS_THAN Z)] [(.ref (a_DATE_LESS_THAN Z)), (.ref (a_DATE_LESS_THAN Z)), (.int (0 : Int32))]) _
      refine Jvm.RoadKit.acmp (g := (mkF m 398 #[oI p0, oR b7, oR b54, oI (17 : Int32), oR (a_DATE_LESS_THAN Z), oR (a_DATE_LESS_THAN Z)] [(.ref (a_DATE_LESS_THAN Z)), (.ref (a_DATE_LESS_THAN Z)), (.int (0 : Int32))])) X281 hx rfl rfl rfl (pc0 := 398) (pc' := 405) (same := true) rfl (hb hby at_398) rfl (decide_eq_true (congrArg Value.ref (rfl : (a_DATE_LESS_THAN Z) = (a_DATE_LESS_THAN Z)))) (by decide) (by decide) ?_
      show oP p e below T281 (mkF m 405 #[oI p0, oR b7, oR b54, oI (17 : Int32), oR (a_DATE_LESS_THAN Z), oR (a_DATE_LESS_THAN Z)] [(.int (0 : Int32))]) _
      refine XS.iconst X281.here hx rfl (hb hby at_405) ?_
      show oP p e below T281 (mkF m 406 #[oI p0, oR b7, oR b54, oI (17 : Int32), oR (a_DATE_LESS_THAN Z), oR (a_DATE_LESS_THAN Z)] [(.int (0 : Int32)), (.int (0 : Int32))]) _
      refine XS.icmpNo X281.here hx rfl (hb hby at_406) rfl (teq (by decide : (0 : Int32) = (0 : Int32))).2 ?_
      show oP p e below T281 (mkF m 409 #[oI p0, oR b7, oR b54, oI (17 : Int32), oR (a_DATE_LESS_THAN Z), oR (a_DATE_LESS_THAN Z)] []) _
      refine XS.iconst X281.here hx rfl (hb hby at_409) ?_
      show oP p e below T281 (mkF m 410 #[oI p0, oR b7, oR b54, oI (17 : Int32), oR (a_DATE_LESS_THAN Z), oR (a_DATE_LESS_THAN Z)] [(.int (1 : Int32))]) _
      refine XS.goto X281.here hx rfl (pc0 := 410) (pc' := 414) rfl (hb hby at_410) (by decide) (by decide) ?_
      show oP p e below T281 (mkF m 414 #[oI p0, oR b7, oR b54, oI (17 : Int32), oR (a_DATE_LESS_THAN Z), oR (a_DATE_LESS_THAN Z)] [(.int (1 : Int32))]) _
      exact retN X281 hx (t := .boolean) Bd.returns (by simp) (hb hby at_414) hr
    · show (some (.int (1 : Int32)) : Option Value) = some (.int (1 : Int32)) ∧ Fr n0 _ ∧ Keep h0 T281.heap []
      exact ⟨rfl, N281, Kc281⟩
  · have fx282 := ((((((((((((((((((((((((V53.ext E54).other W56 ne_b7_b54).other W58 ne_b7_b54).other W60 ne_b7_b54).other W62 ne_b7_b54).other W64 ne_b7_b54).other W66 ne_b7_b54).other W68 ne_b7_b54).other W70 ne_b7_b54).other W72 ne_b7_b54).other W74 ne_b7_b54).other W76 ne_b7_b54).other W78 ne_b7_b54).other W80 ne_b7_b54).other W82 ne_b7_b54).other W84 ne_b7_b54).other W86 ne_b7_b54).other W88 ne_b7_b54).other W90 ne_b7_b54).other W92 ne_b7_b54).other W94 ne_b7_b54).other W96 ne_b7_b54).other W98 ne_b7_b54).other W100 ne_b7_b54)
    obtain ⟨lo283, X283, N283⟩ := own_hide X100 N100
    obtain ⟨cq284, kq284, q284a, q284b, q284c⟩ := isOf hZ e100 ((e_a_DATE_LESS_THAN_EQUALS hS).ext O100.2)
    obtain ⟨_, _, ⟨T284, L284, k284, n284⟩, -, X284, ⟨Lc284, hQ284, l284, y284, z284⟩, st284⟩ := X283.virtualBack hx (y := (⟨"com/example/menshen/menshen/policy/ConditionOperator", "positive", "()Lcom/example/menshen/menshen/policy/ConditionOperator;"⟩ : MethodName)) (z := (⟨"com/example/menshen/menshen/policy/ConditionOperator", "positive", "()Lcom/example/menshen/menshen/policy/ConditionOperator;"⟩ : MethodName)) hown (mvT hZ (hw _ (List.mem_of_getElem? (i := 51) rfl))) (mvT hZ (hw _ (List.mem_of_getElem? (i := 52) rfl))) (notFace_of_selects (args := #[]) (mvT hZ (hw _ (List.mem_of_getElem? (i := 54) rfl)))) (mvT hZ (hw _ (List.mem_of_getElem? (i := 54) rfl))) (mvT hZ (hw _ (List.mem_of_getElem? (i := 53) rfl))) (by decide) (backOf (W := 0) (rm1n l Z a0 hw hS [] (a_DATE_LESS_THAN_EQUALS Z) h100 n0 O100 ((f_a_DATE_LESS_THAN_EQUALS_negationOf hS).ext O100.2)) hZ (hw _ (List.mem_of_getElem? (i := 55) rfl)) (hw _ (List.mem_of_getElem? (i := 3) rfl)) (by decide) (by decide)) q284a q284c (g := (mkF m 337 #[oI p0, oR b7, oR b54, oI (18 : Int32), oR (a_DATE_LESS_THAN_EQUALS Z), oU] [(.ref (a_DATE_LESS_THAN_EQUALS Z))])) rfl (by rw [hml]; rfl) (Steps.refl _) (argsL := []) (rest := []) (lenOf pd_0 rfl) rfl (by show 2 * 0 + _ ≤ _; exact Nat.le_of_eq rfl) (hb hby at_337) (fun _ _ => ⟨rfl, e100, (by decide : 2 + 0 ≤ _), (by decide : 46 + 0 ≤ _)⟩)
    dsimp only [Pt.U, Pt.locs, Pt.cells, Pt.slots] at X284 l284 y284 z284 st284 hQ284
    subst l284 y284 z284
    obtain ⟨v284, N284q, K284q⟩ := hQ284
    have w284 : (fn1n Z (a_DATE_LESS_THAN_EQUALS Z)) = (a_DATE_LESS_THAN_EQUALS Z) := rfl
    rw [w284] at v284
    subst v284
    have N284 := Fr.app N283 N284q
    have O284 := O100.keep K284q all0
    have Kc284 := Kc100.trans K284q all0
    have fx285 := (V100.keep K284q nin0)
    obtain ⟨cq286, kq286, q286a, q286b, q286c⟩ := isOf hZ rfl ((e_a_DATE_LESS_THAN_EQUALS hS).ext O284.2)
    obtain ⟨_, _, ⟨T286, L286, k286, n286⟩, -, X286, ⟨Lc286, hQ286, l286, y286, z286⟩, st286⟩ := X284.virtualBack hx (y := (⟨"com/example/menshen/menshen/policy/ConditionOperator", "isNegated", "()Z"⟩ : MethodName)) (z := (⟨"com/example/menshen/menshen/policy/ConditionOperator", "isNegated", "()Z"⟩ : MethodName)) hown (mvT hZ (hw _ (List.mem_of_getElem? (i := 58) rfl))) (mvT hZ (hw _ (List.mem_of_getElem? (i := 59) rfl))) (notFace_of_selects (args := #[]) (mvT hZ (hw _ (List.mem_of_getElem? (i := 61) rfl)))) (mvT hZ (hw _ (List.mem_of_getElem? (i := 61) rfl))) (mvT hZ (hw _ (List.mem_of_getElem? (i := 60) rfl))) (by decide) (backOf (W := 0) (rm2n l Z a0 hw hS [] (a_DATE_LESS_THAN_EQUALS Z) T284.heap n0 O284 ((f_a_DATE_LESS_THAN_EQUALS_negationOf hS).ext O284.2)) hZ (hw _ (List.mem_of_getElem? (i := 62) rfl)) (hw _ (List.mem_of_getElem? (i := 3) rfl)) (by decide) (by decide)) q286a q286c (g := (mkF m 354 #[oI p0, oR b7, oR b54, oI (18 : Int32), oR (a_DATE_LESS_THAN_EQUALS Z), oR (a_DATE_LESS_THAN_EQUALS Z)] [(.ref (a_DATE_LESS_THAN_EQUALS Z))])) rfl (by rw [hml]; rfl) (Steps.refl _) (argsL := []) (rest := []) (lenOf pd_1 rfl) rfl (by show 2 * 0 + _ ≤ _; exact Nat.le_of_eq rfl) (hb hby at_354) (fun _ _ => ⟨rfl, rfl, (by decide : 2 + 0 ≤ _), (by decide : 46 + 0 ≤ _)⟩)
    dsimp only [Pt.U, Pt.locs, Pt.cells, Pt.slots] at X286 l286 y286 z286 st286 hQ286
    subst l286 y286 z286
    obtain ⟨v286, N286q, K286q⟩ := hQ286
    have w286 : (fn2n Z (a_DATE_LESS_THAN_EQUALS Z)) = (0 : Int32) := rfl
    rw [w286] at v286
    subst v286
    have N286 := Fr.app N284 N286q
    have O286 := O284.keep K286q all0
    have Kc286 := Kc284.trans K286q all0
    obtain ⟨cq287, kq287, q287a, q287b, q287c⟩ := isOf hZ rfl ((e_a_DATE_LESS_THAN_EQUALS hS).ext O286.2)
    obtain ⟨_, _, ⟨T287, L287, k287, n287⟩, -, X287, ⟨Lc287, hQ287, l287, y287, z287⟩, st287⟩ := X286.virtualBack hx (y := (⟨"com/example/menshen/menshen/policy/ConditionOperator", "positive", "()Lcom/example/menshen/menshen/policy/ConditionOperator;"⟩ : MethodName)) (z := (⟨"com/example/menshen/menshen/policy/ConditionOperator", "positive", "()Lcom/example/menshen/menshen/policy/ConditionOperator;"⟩ : MethodName)) hown (mvT hZ (hw _ (List.mem_of_getElem? (i := 51) rfl))) (mvT hZ (hw _ (List.mem_of_getElem? (i := 52) rfl))) (notFace_of_selects (args := #[]) (mvT hZ (hw _ (List.mem_of_getElem? (i := 54) rfl)))) (mvT hZ (hw _ (List.mem_of_getElem? (i := 54) rfl))) (mvT hZ (hw _ (List.mem_of_getElem? (i := 53) rfl))) (by decide) (backOf (W := 0) (rm1n l Z a0 hw hS [] (a_DATE_LESS_THAN_EQUALS Z) T286.heap n0 O286 ((f_a_DATE_LESS_THAN_EQUALS_negationOf hS).ext O286.2)) hZ (hw _ (List.mem_of_getElem? (i := 55) rfl)) (hw _ (List.mem_of_getElem? (i := 3) rfl)) (by decide) (by decide)) q287a q287c (g := (mkF m 364 #[oI p0, oR b7, oR b54, oI (18 : Int32), oR (a_DATE_LESS_THAN_EQUALS Z), oR (a_DATE_LESS_THAN_EQUALS Z)] [(.ref (a_DATE_LESS_THAN_EQUALS Z))])) rfl (by rw [hml]; rfl) (Steps.refl _) (argsL := []) (rest := []) (lenOf pd_0 rfl) rfl (by show 2 * 0 + _ ≤ _; exact Nat.le_of_eq rfl) (hb hby at_364) (fun _ _ => ⟨rfl, rfl, (by decide : 2 + 0 ≤ _), (by decide : 46 + 0 ≤ _)⟩)
    dsimp only [Pt.U, Pt.locs, Pt.cells, Pt.slots] at X287 l287 y287 z287 st287 hQ287
    subst l287 y287 z287
    obtain ⟨v287, N287q, K287q⟩ := hQ287
    have w287 : (fn1n Z (a_DATE_LESS_THAN_EQUALS Z)) = (a_DATE_LESS_THAN_EQUALS Z) := rfl
    rw [w287] at v287
    subst v287
    have N287 := Fr.app N286 N287q
    have O287 := O286.keep K287q all0
    have Kc287 := Kc286.trans K287q all0
    obtain ⟨cq288, kq288, q288a, q288b, q288c⟩ := isOf hZ rfl ((e_a_DATE_LESS_THAN_EQUALS hS).ext O287.2)
    obtain ⟨_, _, ⟨T288, L288, k288, n288⟩, -, X288, ⟨Lc288, hQ288, l288, y288, z288⟩, st288⟩ := X287.virtualBack hx (y := (⟨"com/example/menshen/menshen/policy/ConditionOperator", "literals", "()Lcom/example/menshen/menshen/policy/ConditionOperator$Literals;"⟩ : MethodName)) (z := (⟨"com/example/menshen/menshen/policy/ConditionOperator", "literals", "()Lcom/example/menshen/menshen/policy/ConditionOperator$Literals;"⟩ : MethodName)) hown (mvT hZ (hw _ (List.mem_of_getElem? (i := 63) rfl))) (mvT hZ (hw _ (List.mem_of_getElem? (i := 64) rfl))) (notFace_of_selects (args := #[]) (mvT hZ (hw _ (List.mem_of_getElem? (i := 66) rfl)))) (mvT hZ (hw _ (List.mem_of_getElem? (i := 66) rfl))) (mvT hZ (hw _ (List.mem_of_getElem? (i := 65) rfl))) (by decide) (backOf (W := 0) (rm3 l Z a0 hw hS [] (a_DATE_LESS_THAN_EQUALS Z) (a_NUMBERS Z) T287.heap n0 O287 ((f_a_DATE_LESS_THAN_EQUALS_literals hS).ext O287.2)) hZ (hw _ (List.mem_of_getElem? (i := 67) rfl)) (hw _ (List.mem_of_getElem? (i := 3) rfl)) (by decide) (by decide)) q288a q288c (g := (mkF m 376 #[oI p0, oR b7, oR b54, oI (18 : Int32), oR (a_DATE_LESS_THAN_EQUALS Z), oR (a_DATE_LESS_THAN_EQUALS Z)] [(.ref (a_DATE_LESS_THAN_EQUALS Z))])) rfl (by rw [hml]; rfl) (Steps.refl _) (argsL := []) (rest := []) (lenOf pd_2 rfl) rfl (by show 2 * 0 + _ ≤ _; exact Nat.le_of_eq rfl) (hb hby at_376) (fun _ _ => ⟨rfl, rfl, (by decide : 2 + 0 ≤ _), (by decide : 46 + 0 ≤ _)⟩)
    dsimp only [Pt.U, Pt.locs, Pt.cells, Pt.slots] at X288 l288 y288 z288 st288 hQ288
    subst l288 y288 z288
    obtain ⟨v288, N288q, K288q⟩ := hQ288
    have w288 : (fn3 Z (a_DATE_LESS_THAN_EQUALS Z) (a_NUMBERS Z)) = (a_NUMBERS Z) := rfl
    rw [w288] at v288
    subst v288
    have N288 := Fr.app N287 N288q
    have O288 := O287.keep K288q all0
    have Kc288 := Kc287.trans K288q all0
    obtain ⟨cq289, kq289, q289a, q289b, q289c⟩ := isOf hZ rfl ((e_a_DATE_LESS_THAN_EQUALS hS).ext O288.2)
    obtain ⟨_, _, ⟨T289, L289, k289, n289⟩, -, X289, ⟨Lc289, hQ289, l289, y289, z289⟩, st289⟩ := X288.virtualBack hx (y := (⟨"com/example/menshen/menshen/policy/ConditionOperator", "literals", "()Lcom/example/menshen/menshen/policy/ConditionOperator$Literals;"⟩ : MethodName)) (z := (⟨"com/example/menshen/menshen/policy/ConditionOperator", "literals", "()Lcom/example/menshen/menshen/policy/ConditionOperator$Literals;"⟩ : MethodName)) hown (mvT hZ (hw _ (List.mem_of_getElem? (i := 63) rfl))) (mvT hZ (hw _ (List.mem_of_getElem? (i := 64) rfl))) (notFace_of_selects (args := #[]) (mvT hZ (hw _ (List.mem_of_getElem? (i := 66) rfl)))) (mvT hZ (hw _ (List.mem_of_getElem? (i := 66) rfl))) (mvT hZ (hw _ (List.mem_of_getElem? (i := 65) rfl))) (by decide) (backOf (W := 1) (rm3 l Z a0 hw hS [] (a_DATE_LESS_THAN_EQUALS Z) (a_NUMBERS Z) T288.heap n0 O288 ((f_a_DATE_LESS_THAN_EQUALS_literals hS).ext O288.2)) hZ (hw _ (List.mem_of_getElem? (i := 67) rfl)) (hw _ (List.mem_of_getElem? (i := 3) rfl)) (by decide) (by decide)) q289a q289c (g := (mkF m 381 #[oI p0, oR b7, oR b54, oI (18 : Int32), oR (a_DATE_LESS_THAN_EQUALS Z), oR (a_DATE_LESS_THAN_EQUALS Z)] [(.ref (a_DATE_LESS_THAN_EQUALS Z)), (.ref (a_NUMBERS Z))])) rfl (by rw [hml]; rfl) (Steps.refl _) (argsL := []) (rest := [(.ref (a_NUMBERS Z))]) (lenOf pd_2 rfl) rfl (by show 2 * 0 + _ ≤ _; exact Nat.le_of_eq rfl) (hb hby at_381) (fun _ _ => ⟨rfl, rfl, (by decide : 2 + 0 ≤ _), (by decide : 46 + 0 ≤ _)⟩)
    dsimp only [Pt.U, Pt.locs, Pt.cells, Pt.slots] at X289 l289 y289 z289 st289 hQ289
    subst l289 y289 z289
    obtain ⟨v289, N289q, K289q⟩ := hQ289
    have w289 : (fn3 Z (a_DATE_LESS_THAN_EQUALS Z) (a_NUMBERS Z)) = (a_NUMBERS Z) := rfl
    rw [w289] at v289
    subst v289
    have N289 := Fr.app N288 N289q
    have O289 := O288.keep K289q all0
    have Kc289 := Kc288.trans K289q all0
    obtain ⟨lo290, X290, N290⟩ := own_hide X289 N289
    obtain ⟨cq291, kq291, q291a, q291b, q291c⟩ := isOf hZ rfl ((e_a_DATE_LESS_THAN_EQUALS hS).ext O289.2)
    obtain ⟨_, _, ⟨T291, L291, k291, n291⟩, -, X291, ⟨Lc291, hQ291, l291, y291, z291⟩, st291⟩ := X290.virtualBack hx (y := (⟨"com/example/menshen/menshen/policy/ConditionOperator", "isNegated", "()Z"⟩ : MethodName)) (z := (⟨"com/example/menshen/menshen/policy/ConditionOperator", "isNegated", "()Z"⟩ : MethodName)) hown (mvT hZ (hw _ (List.mem_of_getElem? (i := 58) rfl))) (mvT hZ (hw _ (List.mem_of_getElem? (i := 59) rfl))) (notFace_of_selects (args := #[]) (mvT hZ (hw _ (List.mem_of_getElem? (i := 61) rfl)))) (mvT hZ (hw _ (List.mem_of_getElem? (i := 61) rfl))) (mvT hZ (hw _ (List.mem_of_getElem? (i := 60) rfl))) (by decide) (backOf (W := 0) (rm2n l Z a0 hw hS [] (a_DATE_LESS_THAN_EQUALS Z) T289.heap n0 O289 ((f_a_DATE_LESS_THAN_EQUALS_negationOf hS).ext O289.2)) hZ (hw _ (List.mem_of_getElem? (i := 62) rfl)) (hw _ (List.mem_of_getElem? (i := 3) rfl)) (by decide) (by decide)) q291a q291c (g := (mkF m 391 #[oI p0, oR b7, oR b54, oI (18 : Int32), oR (a_DATE_LESS_THAN_EQUALS Z), oR (a_DATE_LESS_THAN_EQUALS Z)] [(.ref (a_DATE_LESS_THAN_EQUALS Z))])) rfl (by rw [hml]; rfl) (Steps.refl _) (argsL := []) (rest := []) (lenOf pd_1 rfl) rfl (by show 2 * 0 + _ ≤ _; exact Nat.le_of_eq rfl) (hb hby at_391) (fun _ _ => ⟨rfl, rfl, (by decide : 2 + 0 ≤ _), (by decide : 46 + 0 ≤ _)⟩)
    dsimp only [Pt.U, Pt.locs, Pt.cells, Pt.slots] at X291 l291 y291 z291 st291 hQ291
    subst l291 y291 z291
    obtain ⟨v291, N291q, K291q⟩ := hQ291
    have w291 : (fn2n Z (a_DATE_LESS_THAN_EQUALS Z)) = (0 : Int32) := rfl
    rw [w291] at v291
    subst v291
    have N291 := Fr.app N290 N291q
    have O291 := O289.keep K291q all0
    have Kc291 := Kc289.trans K291q all0
    obtain ⟨fs, hr, hrun, hended, hW, hsame⟩ := X291.leave (v := some (.int (1 : Int32))) (fun h => by rw [Bd.returns] at h; cases h)
    refine ⟨_, _, pre101 _ ?_, hrun, hended, _, _, rfl, ?_, ⟨_, rfl⟩, hW, hsame.mono (by decide) (by decide)⟩
    · show oP p e below T100 (mkF m 329 #[oI p0, oR b7, oR b54, oU, oU, oU] [(.int (18 : Int32))]) _
      refine XS.istoreN X100.here hx rfl (hb hby at_329) rfl (l' := #[oI p0, oR b7, oR b54, oI (18 : Int32), oU, oU]) rfl ?_
      show oP p e below T100 (mkF m 330 #[oI p0, oR b7, oR b54, oI (18 : Int32), oU, oU] []) _
      refine XS.aloadN X100.here hx rfl (hb hby at_330) rfl rfl ?_
      show oP p e below T100 (mkF m 331 #[oI p0, oR b7, oR b54, oI (18 : Int32), oU, oU] [(.ref b7)]) _
      refine XS.iloadN X100.here hx rfl (hb hby at_331) rfl ?_
      show oP p e below T100 (mkF m 332 #[oI p0, oR b7, oR b54, oI (18 : Int32), oU, oU] [(.int (18 : Int32)), (.ref b7)]) _
      refine own_aaload X100 hx hZ e100 fx282 rfl (j := (18 : Int32)) ⟨by decide, by decide⟩ (v := (.ref (a_DATE_LESS_THAN_EQUALS Z))) rfl (g := (mkF m 332 #[oI p0, oR b7, oR b54, oI (18 : Int32), oU, oU] [(.int (18 : Int32)), (.ref b7)])) rfl rfl (hb hby at_332) _ ?_
      show oP p e below T100 (mkF m 333 #[oI p0, oR b7, oR b54, oI (18 : Int32), oU, oU] [(.ref (a_DATE_LESS_THAN_EQUALS Z))]) _
      refine XS.astore X100.here hx rfl (hb hby at_333) rfl rfl (l' := #[oI p0, oR b7, oR b54, oI (18 : Int32), oR (a_DATE_LESS_THAN_EQUALS Z), oU]) rfl ?_
      show oP p e below T100 (mkF m 335 #[oI p0, oR b7, oR b54, oI (18 : Int32), oR (a_DATE_LESS_THAN_EQUALS Z), oU] []) _
      refine XS.aload X100.here hx rfl (hb hby at_335) rfl rfl ?_
      show oP p e below T100 (mkF m 337 #[oI p0, oR b7, oR b54, oI (18 : Int32), oR (a_DATE_LESS_THAN_EQUALS Z), oU] [(.ref (a_DATE_LESS_THAN_EQUALS Z))]) _
      refine st284.trans ?_
      show oP p e below T284 (mkF m 340 #[oI p0, oR b7, oR b54, oI (18 : Int32), oR (a_DATE_LESS_THAN_EQUALS Z), oU] [(.ref (a_DATE_LESS_THAN_EQUALS Z))]) _
      refine XS.astore X284.here hx rfl (hb hby at_340) rfl rfl (l' := #[oI p0, oR b7, oR b54, oI (18 : Int32), oR (a_DATE_LESS_THAN_EQUALS Z), oR (a_DATE_LESS_THAN_EQUALS Z)]) rfl ?_
      show oP p e below T284 (mkF m 342 #[oI p0, oR b7, oR b54, oI (18 : Int32), oR (a_DATE_LESS_THAN_EQUALS Z), oR (a_DATE_LESS_THAN_EQUALS Z)] []) _
      refine XS.aload X284.here hx rfl (hb hby at_342) rfl rfl ?_
      show oP p e below T284 (mkF m 344 #[oI p0, oR b7, oR b54, oI (18 : Int32), oR (a_DATE_LESS_THAN_EQUALS Z), oR (a_DATE_LESS_THAN_EQUALS Z)] [(.ref (a_DATE_LESS_THAN_EQUALS Z))]) _
      refine XS.aloadN X284.here hx rfl (hb hby at_344) rfl rfl ?_
      show oP p e below T284 (mkF m 345 #[oI p0, oR b7, oR b54, oI (18 : Int32), oR (a_DATE_LESS_THAN_EQUALS Z), oR (a_DATE_LESS_THAN_EQUALS Z)] [(.ref b54), (.ref (a_DATE_LESS_THAN_EQUALS Z))]) _
      refine XS.iloadN X284.here hx rfl (hb hby at_345) rfl ?_
      show oP p e below T284 (mkF m 346 #[oI p0, oR b7, oR b54, oI (18 : Int32), oR (a_DATE_LESS_THAN_EQUALS Z), oR (a_DATE_LESS_THAN_EQUALS Z)] [(.int (18 : Int32)), (.ref b54), (.ref (a_DATE_LESS_THAN_EQUALS Z))]) _
      refine own_aaload X284 hx hZ rfl fx285 rfl (j := (18 : Int32)) ⟨by decide, by decide⟩ (v := (.ref (a_DATE_LESS_THAN_EQUALS Z))) rfl (g := (mkF m 346 #[oI p0, oR b7, oR b54, oI (18 : Int32), oR (a_DATE_LESS_THAN_EQUALS Z), oR (a_DATE_LESS_THAN_EQUALS Z)] [(.int (18 : Int32)), (.ref b54), (.ref (a_DATE_LESS_THAN_EQUALS Z))])) rfl rfl (hb hby at_346) _ ?_
      show oP p e below T284 (mkF m 347 #[oI p0, oR b7, oR b54, oI (18 : Int32), oR (a_DATE_LESS_THAN_EQUALS Z), oR (a_DATE_LESS_THAN_EQUALS Z)] [(.ref (a_DATE_LESS_THAN_EQUALS Z)), (.ref (a_DATE_LESS_THAN_EQUALS Z))]) _
      refine Jvm.RoadKit.acmp (g := (mkF m 347 #[oI p0, oR b7, oR b54, oI (18 : Int32), oR (a_DATE_LESS_THAN_EQUALS Z), oR (a_DATE_LESS_THAN_EQUALS Z)] [(.ref (a_DATE_LESS_THAN_EQUALS Z)), (.ref (a_DATE_LESS_THAN_EQUALS Z))])) X284 hx rfl rfl rfl (pc0 := 347) (pc' := 352) (same := true) rfl (hb hby at_347) rfl (decide_eq_true (congrArg Value.ref (rfl : (a_DATE_LESS_THAN_EQUALS Z) = (a_DATE_LESS_THAN_EQUALS Z)))) (by decide) (by decide) ?_
      show oP p e below T284 (mkF m 352 #[oI p0, oR b7, oR b54, oI (18 : Int32), oR (a_DATE_LESS_THAN_EQUALS Z), oR (a_DATE_LESS_THAN_EQUALS Z)] []) _
      refine XS.aload X284.here hx rfl (hb hby at_352) rfl rfl ?_
      show oP p e below T284 (mkF m 354 #[oI p0, oR b7, oR b54, oI (18 : Int32), oR (a_DATE_LESS_THAN_EQUALS Z), oR (a_DATE_LESS_THAN_EQUALS Z)] [(.ref (a_DATE_LESS_THAN_EQUALS Z))]) _
      refine st286.trans ?_
      show oP p e below T286 (mkF m 357 #[oI p0, oR b7, oR b54, oI (18 : Int32), oR (a_DATE_LESS_THAN_EQUALS Z), oR (a_DATE_LESS_THAN_EQUALS Z)] [(.int (0 : Int32))]) _
      refine XS.ifYes X286.here hx rfl (pc0 := 357) (pc' := 362) rfl (hb hby at_357) rfl ((if0 _ _).trans (teq (by decide : (0 : Int32) = (0 : Int32))).1) (by decide) (by decide) ?_
      show oP p e below T286 (mkF m 362 #[oI p0, oR b7, oR b54, oI (18 : Int32), oR (a_DATE_LESS_THAN_EQUALS Z), oR (a_DATE_LESS_THAN_EQUALS Z)] []) _
      refine XS.aload X286.here hx rfl (hb hby at_362) rfl rfl ?_
      show oP p e below T286 (mkF m 364 #[oI p0, oR b7, oR b54, oI (18 : Int32), oR (a_DATE_LESS_THAN_EQUALS Z), oR (a_DATE_LESS_THAN_EQUALS Z)] [(.ref (a_DATE_LESS_THAN_EQUALS Z))]) _
      refine st287.trans ?_
      show oP p e below T287 (mkF m 367 #[oI p0, oR b7, oR b54, oI (18 : Int32), oR (a_DATE_LESS_THAN_EQUALS Z), oR (a_DATE_LESS_THAN_EQUALS Z)] [(.ref (a_DATE_LESS_THAN_EQUALS Z))]) _
      refine XS.aload X287.here hx rfl (hb hby at_367) rfl rfl ?_
      show oP p e below T287 (mkF m 369 #[oI p0, oR b7, oR b54, oI (18 : Int32), oR (a_DATE_LESS_THAN_EQUALS Z), oR (a_DATE_LESS_THAN_EQUALS Z)] [(.ref (a_DATE_LESS_THAN_EQUALS Z)), (.ref (a_DATE_LESS_THAN_EQUALS Z))]) _
      refine Jvm.RoadKit.acmp (g := (mkF m 369 #[oI p0, oR b7, oR b54, oI (18 : Int32), oR (a_DATE_LESS_THAN_EQUALS Z), oR (a_DATE_LESS_THAN_EQUALS Z)] [(.ref (a_DATE_LESS_THAN_EQUALS Z)), (.ref (a_DATE_LESS_THAN_EQUALS Z))])) X287 hx rfl rfl rfl (pc0 := 369) (pc' := 374) (same := true) rfl (hb hby at_369) rfl (decide_eq_true (congrArg Value.ref (rfl : (a_DATE_LESS_THAN_EQUALS Z) = (a_DATE_LESS_THAN_EQUALS Z)))) (by decide) (by decide) ?_
      show oP p e below T287 (mkF m 374 #[oI p0, oR b7, oR b54, oI (18 : Int32), oR (a_DATE_LESS_THAN_EQUALS Z), oR (a_DATE_LESS_THAN_EQUALS Z)] []) _
      refine XS.aload X287.here hx rfl (hb hby at_374) rfl rfl ?_
      show oP p e below T287 (mkF m 376 #[oI p0, oR b7, oR b54, oI (18 : Int32), oR (a_DATE_LESS_THAN_EQUALS Z), oR (a_DATE_LESS_THAN_EQUALS Z)] [(.ref (a_DATE_LESS_THAN_EQUALS Z))]) _
      refine st288.trans ?_
      show oP p e below T288 (mkF m 379 #[oI p0, oR b7, oR b54, oI (18 : Int32), oR (a_DATE_LESS_THAN_EQUALS Z), oR (a_DATE_LESS_THAN_EQUALS Z)] [(.ref (a_NUMBERS Z))]) _
      refine XS.aload X288.here hx rfl (hb hby at_379) rfl rfl ?_
      show oP p e below T288 (mkF m 381 #[oI p0, oR b7, oR b54, oI (18 : Int32), oR (a_DATE_LESS_THAN_EQUALS Z), oR (a_DATE_LESS_THAN_EQUALS Z)] [(.ref (a_DATE_LESS_THAN_EQUALS Z)), (.ref (a_NUMBERS Z))]) _
      refine st289.trans ?_
      show oP p e below T289 (mkF m 384 #[oI p0, oR b7, oR b54, oI (18 : Int32), oR (a_DATE_LESS_THAN_EQUALS Z), oR (a_DATE_LESS_THAN_EQUALS Z)] [(.ref (a_NUMBERS Z)), (.ref (a_NUMBERS Z))]) _
      refine Jvm.RoadKit.acmp (g := (mkF m 384 #[oI p0, oR b7, oR b54, oI (18 : Int32), oR (a_DATE_LESS_THAN_EQUALS Z), oR (a_DATE_LESS_THAN_EQUALS Z)] [(.ref (a_NUMBERS Z)), (.ref (a_NUMBERS Z))])) X289 hx rfl rfl rfl (pc0 := 384) (pc' := 389) (same := true) rfl (hb hby at_384) rfl (decide_eq_true (congrArg Value.ref (rfl : (a_NUMBERS Z) = (a_NUMBERS Z)))) (by decide) (by decide) ?_
      show oP p e below T289 (mkF m 389 #[oI p0, oR b7, oR b54, oI (18 : Int32), oR (a_DATE_LESS_THAN_EQUALS Z), oR (a_DATE_LESS_THAN_EQUALS Z)] []) _
      refine XS.aload X289.here hx rfl (hb hby at_389) rfl rfl ?_
      show oP p e below T289 (mkF m 391 #[oI p0, oR b7, oR b54, oI (18 : Int32), oR (a_DATE_LESS_THAN_EQUALS Z), oR (a_DATE_LESS_THAN_EQUALS Z)] [(.ref (a_DATE_LESS_THAN_EQUALS Z))]) _
      refine st291.trans ?_
      show oP p e below T291 (mkF m 394 #[oI p0, oR b7, oR b54, oI (18 : Int32), oR (a_DATE_LESS_THAN_EQUALS Z), oR (a_DATE_LESS_THAN_EQUALS Z)] [(.int (0 : Int32))]) _
      refine XS.aload X291.here hx rfl (hb hby at_394) rfl rfl ?_
      show oP p e below T291 (mkF m 396 #[oI p0, oR b7, oR b54, oI (18 : Int32), oR (a_DATE_LESS_THAN_EQUALS Z), oR (a_DATE_LESS_THAN_EQUALS Z)] [(.ref (a_DATE_LESS_THAN_EQUALS Z)), (.int (0 : Int32))]) _
      refine XS.aload X291.here hx rfl (hb hby at_396) rfl rfl ?_
      show oP p e below T291 (mkF m 398 #[oI p0, oR b7, oR b54, oI (18 : Int32), oR (a_DATE_LESS_THAN_EQUALS Z), oR (a_DATE_LESS_THAN_EQUALS Z)] [(.ref (a_DATE_LESS_THAN_EQUALS Z)), (.ref (a_DATE_LESS_THAN_EQUALS Z)), (.int (0 : Int32))]) _
      refine Jvm.RoadKit.acmp (g := (mkF m 398 #[oI p0, oR b7, oR b54, oI (18 : Int32), oR (a_DATE_LESS_THAN_EQUALS Z), oR (a_DATE_LESS_THAN_EQUALS Z)] [(.ref (a_DATE_LESS_THAN_EQUALS Z)), (.ref (a_DATE_LESS_THAN_EQUALS Z)), (.int (0 : Int32))])) X291 hx rfl rfl rfl (pc0 := 398) (pc' := 405) (same := true) rfl (hb hby at_398) rfl (decide_eq_true (congrArg Value.ref (rfl : (a_DATE_LESS_THAN_EQUALS Z) = (a_DATE_LESS_THAN_EQUALS Z)))) (by decide) (by decide) ?_
      show oP p e below T291 (mkF m 405 #[oI p0, oR b7, oR b54, oI (18 : Int32), oR (a_DATE_LESS_THAN_EQUALS Z), oR (a_DATE_LESS_THAN_EQUALS Z)] [(.int (0 : Int32))]) _
      refine XS.iconst X291.here hx rfl (hb hby at_405) ?_
      show oP p e below T291 (mkF m 406 #[oI p0, oR b7, oR b54, oI (18 : Int32), oR (a_DATE_LESS_THAN_EQUALS Z), oR (a_DATE_LESS_THAN_EQUALS Z)] [(.int (0 : Int32)), (.int (0 : Int32))]) _
      refine XS.icmpNo X291.here hx rfl (hb hby at_406) rfl (teq (by decide : (0 : Int32) = (0 : Int32))).2 ?_
      show oP p e below T291 (mkF m 409 #[oI p0, oR b7, oR b54, oI (18 : Int32), oR (a_DATE_LESS_THAN_EQUALS Z), oR (a_DATE_LESS_THAN_EQUALS Z)] []) _
      refine XS.iconst X291.here hx rfl (hb hby at_409) ?_
      show oP p e below T291 (mkF m 410 #[oI p0, oR b7, oR b54, oI (18 : Int32), oR (a_DATE_LESS_THAN_EQUALS Z), oR (a_DATE_LESS_THAN_EQUALS Z)] [(.int (1 : Int32))]) _
      refine XS.goto X291.here hx rfl (pc0 := 410) (pc' := 414) rfl (hb hby at_410) (by decide) (by decide) ?_
      show oP p e below T291 (mkF m 414 #[oI p0, oR b7, oR b54, oI (18 : Int32), oR (a_DATE_LESS_THAN_EQUALS Z), oR (a_DATE_LESS_THAN_EQUALS Z)] [(.int (1 : Int32))]) _
      exact retN X291 hx (t := .boolean) Bd.returns (by simp) (hb hby at_414) hr
    · show (some (.int (1 : Int32)) : Option Value) = some (.int (1 : Int32)) ∧ Fr n0 _ ∧ Keep h0 T291.heap []
      exact ⟨rfl, N291, Kc291⟩
  · have fx292 := ((((((((((((((((((((((((V53.ext E54).other W56 ne_b7_b54).other W58 ne_b7_b54).other W60 ne_b7_b54).other W62 ne_b7_b54).other W64 ne_b7_b54).other W66 ne_b7_b54).other W68 ne_b7_b54).other W70 ne_b7_b54).other W72 ne_b7_b54).other W74 ne_b7_b54).other W76 ne_b7_b54).other W78 ne_b7_b54).other W80 ne_b7_b54).other W82 ne_b7_b54).other W84 ne_b7_b54).other W86 ne_b7_b54).other W88 ne_b7_b54).other W90 ne_b7_b54).other W92 ne_b7_b54).other W94 ne_b7_b54).other W96 ne_b7_b54).other W98 ne_b7_b54).other W100 ne_b7_b54)
    obtain ⟨lo293, X293, N293⟩ := own_hide X100 N100
    obtain ⟨cq294, kq294, q294a, q294b, q294c⟩ := isOf hZ e100 ((e_a_DATE_GREATER_THAN hS).ext O100.2)
    obtain ⟨_, _, ⟨T294, L294, k294, n294⟩, -, X294, ⟨Lc294, hQ294, l294, y294, z294⟩, st294⟩ := X293.virtualBack hx (y := (⟨"com/example/menshen/menshen/policy/ConditionOperator", "positive", "()Lcom/example/menshen/menshen/policy/ConditionOperator;"⟩ : MethodName)) (z := (⟨"com/example/menshen/menshen/policy/ConditionOperator", "positive", "()Lcom/example/menshen/menshen/policy/ConditionOperator;"⟩ : MethodName)) hown (mvT hZ (hw _ (List.mem_of_getElem? (i := 51) rfl))) (mvT hZ (hw _ (List.mem_of_getElem? (i := 52) rfl))) (notFace_of_selects (args := #[]) (mvT hZ (hw _ (List.mem_of_getElem? (i := 54) rfl)))) (mvT hZ (hw _ (List.mem_of_getElem? (i := 54) rfl))) (mvT hZ (hw _ (List.mem_of_getElem? (i := 53) rfl))) (by decide) (backOf (W := 0) (rm1n l Z a0 hw hS [] (a_DATE_GREATER_THAN Z) h100 n0 O100 ((f_a_DATE_GREATER_THAN_negationOf hS).ext O100.2)) hZ (hw _ (List.mem_of_getElem? (i := 55) rfl)) (hw _ (List.mem_of_getElem? (i := 3) rfl)) (by decide) (by decide)) q294a q294c (g := (mkF m 337 #[oI p0, oR b7, oR b54, oI (19 : Int32), oR (a_DATE_GREATER_THAN Z), oU] [(.ref (a_DATE_GREATER_THAN Z))])) rfl (by rw [hml]; rfl) (Steps.refl _) (argsL := []) (rest := []) (lenOf pd_0 rfl) rfl (by show 2 * 0 + _ ≤ _; exact Nat.le_of_eq rfl) (hb hby at_337) (fun _ _ => ⟨rfl, e100, (by decide : 2 + 0 ≤ _), (by decide : 46 + 0 ≤ _)⟩)
    dsimp only [Pt.U, Pt.locs, Pt.cells, Pt.slots] at X294 l294 y294 z294 st294 hQ294
    subst l294 y294 z294
    obtain ⟨v294, N294q, K294q⟩ := hQ294
    have w294 : (fn1n Z (a_DATE_GREATER_THAN Z)) = (a_DATE_GREATER_THAN Z) := rfl
    rw [w294] at v294
    subst v294
    have N294 := Fr.app N293 N294q
    have O294 := O100.keep K294q all0
    have Kc294 := Kc100.trans K294q all0
    have fx295 := (V100.keep K294q nin0)
    obtain ⟨cq296, kq296, q296a, q296b, q296c⟩ := isOf hZ rfl ((e_a_DATE_GREATER_THAN hS).ext O294.2)
    obtain ⟨_, _, ⟨T296, L296, k296, n296⟩, -, X296, ⟨Lc296, hQ296, l296, y296, z296⟩, st296⟩ := X294.virtualBack hx (y := (⟨"com/example/menshen/menshen/policy/ConditionOperator", "isNegated", "()Z"⟩ : MethodName)) (z := (⟨"com/example/menshen/menshen/policy/ConditionOperator", "isNegated", "()Z"⟩ : MethodName)) hown (mvT hZ (hw _ (List.mem_of_getElem? (i := 58) rfl))) (mvT hZ (hw _ (List.mem_of_getElem? (i := 59) rfl))) (notFace_of_selects (args := #[]) (mvT hZ (hw _ (List.mem_of_getElem? (i := 61) rfl)))) (mvT hZ (hw _ (List.mem_of_getElem? (i := 61) rfl))) (mvT hZ (hw _ (List.mem_of_getElem? (i := 60) rfl))) (by decide) (backOf (W := 0) (rm2n l Z a0 hw hS [] (a_DATE_GREATER_THAN Z) T294.heap n0 O294 ((f_a_DATE_GREATER_THAN_negationOf hS).ext O294.2)) hZ (hw _ (List.mem_of_getElem? (i := 62) rfl)) (hw _ (List.mem_of_getElem? (i := 3) rfl)) (by decide) (by decide)) q296a q296c (g := (mkF m 354 #[oI p0, oR b7, oR b54, oI (19 : Int32), oR (a_DATE_GREATER_THAN Z), oR (a_DATE_GREATER_THAN Z)] [(.ref (a_DATE_GREATER_THAN Z))])) rfl (by rw [hml]; rfl) (Steps.refl _) (argsL := []) (rest := []) (lenOf pd_1 rfl) rfl (by show 2 * 0 + _ ≤ _; exact Nat.le_of_eq rfl) (hb hby at_354) (fun _ _ => ⟨rfl, rfl, (by decide : 2 + 0 ≤ _), (by decide : 46 + 0 ≤ _)⟩)
    dsimp only [Pt.U, Pt.locs, Pt.cells, Pt.slots] at X296 l296 y296 z296 st296 hQ296
    subst l296 y296 z296
    obtain ⟨v296, N296q, K296q⟩ := hQ296
    have w296 : (fn2n Z (a_DATE_GREATER_THAN Z)) = (0 : Int32) := rfl
    rw [w296] at v296
    subst v296
    have N296 := Fr.app N294 N296q
    have O296 := O294.keep K296q all0
    have Kc296 := Kc294.trans K296q all0
    obtain ⟨cq297, kq297, q297a, q297b, q297c⟩ := isOf hZ rfl ((e_a_DATE_GREATER_THAN hS).ext O296.2)
    obtain ⟨_, _, ⟨T297, L297, k297, n297⟩, -, X297, ⟨Lc297, hQ297, l297, y297, z297⟩, st297⟩ := X296.virtualBack hx (y := (⟨"com/example/menshen/menshen/policy/ConditionOperator", "positive", "()Lcom/example/menshen/menshen/policy/ConditionOperator;"⟩ : MethodName)) (z := (⟨"com/example/menshen/menshen/policy/ConditionOperator", "positive", "()Lcom/example/menshen/menshen/policy/ConditionOperator;"⟩ : MethodName)) hown (mvT hZ (hw _ (List.mem_of_getElem? (i := 51) rfl))) (mvT hZ (hw _ (List.mem_of_getElem? (i := 52) rfl))) (notFace_of_selects (args := #[]) (mvT hZ (hw _ (List.mem_of_getElem? (i := 54) rfl)))) (mvT hZ (hw _ (List.mem_of_getElem? (i := 54) rfl))) (mvT hZ (hw _ (List.mem_of_getElem? (i := 53) rfl))) (by decide) (backOf (W := 0) (rm1n l Z a0 hw hS [] (a_DATE_GREATER_THAN Z) T296.heap n0 O296 ((f_a_DATE_GREATER_THAN_negationOf hS).ext O296.2)) hZ (hw _ (List.mem_of_getElem? (i := 55) rfl)) (hw _ (List.mem_of_getElem? (i := 3) rfl)) (by decide) (by decide)) q297a q297c (g := (mkF m 364 #[oI p0, oR b7, oR b54, oI (19 : Int32), oR (a_DATE_GREATER_THAN Z), oR (a_DATE_GREATER_THAN Z)] [(.ref (a_DATE_GREATER_THAN Z))])) rfl (by rw [hml]; rfl) (Steps.refl _) (argsL := []) (rest := []) (lenOf pd_0 rfl) rfl (by show 2 * 0 + _ ≤ _; exact Nat.le_of_eq rfl) (hb hby at_364) (fun _ _ => ⟨rfl, rfl, (by decide : 2 + 0 ≤ _), (by decide : 46 + 0 ≤ _)⟩)
    dsimp only [Pt.U, Pt.locs, Pt.cells, Pt.slots] at X297 l297 y297 z297 st297 hQ297
    subst l297 y297 z297
    obtain ⟨v297, N297q, K297q⟩ := hQ297
    have w297 : (fn1n Z (a_DATE_GREATER_THAN Z)) = (a_DATE_GREATER_THAN Z) := rfl
    rw [w297] at v297
    subst v297
    have N297 := Fr.app N296 N297q
    have O297 := O296.keep K297q all0
    have Kc297 := Kc296.trans K297q all0
    obtain ⟨cq298, kq298, q298a, q298b, q298c⟩ := isOf hZ rfl ((e_a_DATE_GREATER_THAN hS).ext O297.2)
    obtain ⟨_, _, ⟨T298, L298, k298, n298⟩, -, X298, ⟨Lc298, hQ298, l298, y298, z298⟩, st298⟩ := X297.virtualBack hx (y := (⟨"com/example/menshen/menshen/policy/ConditionOperator", "literals", "()Lcom/example/menshen/menshen/policy/ConditionOperator$Literals;"⟩ : MethodName)) (z := (⟨"com/example/menshen/menshen/policy/ConditionOperator", "literals", "()Lcom/example/menshen/menshen/policy/ConditionOperator$Literals;"⟩ : MethodName)) hown (mvT hZ (hw _ (List.mem_of_getElem? (i := 63) rfl))) (mvT hZ (hw _ (List.mem_of_getElem? (i := 64) rfl))) (notFace_of_selects (args := #[]) (mvT hZ (hw _ (List.mem_of_getElem? (i := 66) rfl)))) (mvT hZ (hw _ (List.mem_of_getElem? (i := 66) rfl))) (mvT hZ (hw _ (List.mem_of_getElem? (i := 65) rfl))) (by decide) (backOf (W := 0) (rm3 l Z a0 hw hS [] (a_DATE_GREATER_THAN Z) (a_NUMBERS Z) T297.heap n0 O297 ((f_a_DATE_GREATER_THAN_literals hS).ext O297.2)) hZ (hw _ (List.mem_of_getElem? (i := 67) rfl)) (hw _ (List.mem_of_getElem? (i := 3) rfl)) (by decide) (by decide)) q298a q298c (g := (mkF m 376 #[oI p0, oR b7, oR b54, oI (19 : Int32), oR (a_DATE_GREATER_THAN Z), oR (a_DATE_GREATER_THAN Z)] [(.ref (a_DATE_GREATER_THAN Z))])) rfl (by rw [hml]; rfl) (Steps.refl _) (argsL := []) (rest := []) (lenOf pd_2 rfl) rfl (by show 2 * 0 + _ ≤ _; exact Nat.le_of_eq rfl) (hb hby at_376) (fun _ _ => ⟨rfl, rfl, (by decide : 2 + 0 ≤ _), (by decide : 46 + 0 ≤ _)⟩)
    dsimp only [Pt.U, Pt.locs, Pt.cells, Pt.slots] at X298 l298 y298 z298 st298 hQ298
    subst l298 y298 z298
    obtain ⟨v298, N298q, K298q⟩ := hQ298
    have w298 : (fn3 Z (a_DATE_GREATER_THAN Z) (a_NUMBERS Z)) = (a_NUMBERS Z) := rfl
    rw [w298] at v298
    subst v298
    have N298 := Fr.app N297 N298q
    have O298 := O297.keep K298q all0
    have Kc298 := Kc297.trans K298q all0
    obtain ⟨cq299, kq299, q299a, q299b, q299c⟩ := isOf hZ rfl ((e_a_DATE_GREATER_THAN hS).ext O298.2)
    obtain ⟨_, _, ⟨T299, L299, k299, n299⟩, -, X299, ⟨Lc299, hQ299, l299, y299, z299⟩, st299⟩ := X298.virtualBack hx (y := (⟨"com/example/menshen/menshen/policy/ConditionOperator", "literals", "()Lcom/example/menshen/menshen/policy/ConditionOperator$Literals;"⟩ : MethodName)) (z := (⟨"com/example/menshen/menshen/policy/ConditionOperator", "literals", "()Lcom/example/menshen/menshen/policy/ConditionOperator$Literals;"⟩ : MethodName)) hown (mvT hZ (hw _ (List.mem_of_getElem? (i := 63) rfl))) (mvT hZ (hw _ (List.mem_of_getElem? (i := 64) rfl))) (notFace_of_selects (args := #[]) (mvT hZ (hw _ (List.mem_of_getElem? (i := 66) rfl)))) (mvT hZ (hw _ (List.mem_of_getElem? (i := 66) rfl))) (mvT hZ (hw _ (List.mem_of_getElem? (i := 65) rfl))) (by decide) (backOf (W := 1) (rm3 l Z a0 hw hS [] (a_DATE_GREATER_THAN Z) (a_NUMBERS Z) T298.heap n0 O298 ((f_a_DATE_GREATER_THAN_literals hS).ext O298.2)) hZ (hw _ (List.mem_of_getElem? (i := 67) rfl)) (hw _ (List.mem_of_getElem? (i := 3) rfl)) (by decide) (by decide)) q299a q299c (g := (mkF m 381 #[oI p0, oR b7, oR b54, oI (19 : Int32), oR (a_DATE_GREATER_THAN Z), oR (a_DATE_GREATER_THAN Z)] [(.ref (a_DATE_GREATER_THAN Z)), (.ref (a_NUMBERS Z))])) rfl (by rw [hml]; rfl) (Steps.refl _) (argsL := []) (rest := [(.ref (a_NUMBERS Z))]) (lenOf pd_2 rfl) rfl (by show 2 * 0 + _ ≤ _; exact Nat.le_of_eq rfl) (hb hby at_381) (fun _ _ => ⟨rfl, rfl, (by decide : 2 + 0 ≤ _), (by decide : 46 + 0 ≤ _)⟩)
    dsimp only [Pt.U, Pt.locs, Pt.cells, Pt.slots] at X299 l299 y299 z299 st299 hQ299
    subst l299 y299 z299
    obtain ⟨v299, N299q, K299q⟩ := hQ299
    have w299 : (fn3 Z (a_DATE_GREATER_THAN Z) (a_NUMBERS Z)) = (a_NUMBERS Z) := rfl
    rw [w299] at v299
    subst v299
    have N299 := Fr.app N298 N299q
    have O299 := O298.keep K299q all0
    have Kc299 := Kc298.trans K299q all0
    obtain ⟨lo300, X300, N300⟩ := own_hide X299 N299
    obtain ⟨cq301, kq301, q301a, q301b, q301c⟩ := isOf hZ rfl ((e_a_DATE_GREATER_THAN hS).ext O299.2)
    obtain ⟨_, _, ⟨T301, L301, k301, n301⟩, -, X301, ⟨Lc301, hQ301, l301, y301, z301⟩, st301⟩ := X300.virtualBack hx (y := (⟨"com/example/menshen/menshen/policy/ConditionOperator", "isNegated", "()Z"⟩ : MethodName)) (z := (⟨"com/example/menshen/menshen/policy/ConditionOperator", "isNegated", "()Z"⟩ : MethodName)) hown (mvT hZ (hw _ (List.mem_of_getElem? (i := 58) rfl))) (mvT hZ (hw _ (List.mem_of_getElem? (i := 59) rfl))) (notFace_of_selects (args := #[]) (mvT hZ (hw _ (List.mem_of_getElem? (i := 61) rfl)))) (mvT hZ (hw _ (List.mem_of_getElem? (i := 61) rfl))) (mvT hZ (hw _ (List.mem_of_getElem? (i := 60) rfl))) (by decide) (backOf (W := 0) (rm2n l Z a0 hw hS [] (a_DATE_GREATER_THAN Z) T299.heap n0 O299 ((f_a_DATE_GREATER_THAN_negationOf hS).ext O299.2)) hZ (hw _ (List.mem_of_getElem? (i := 62) rfl)) (hw _ (List.mem_of_getElem? (i := 3) rfl)) (by decide) (by decide)) q301a q301c (g := (mkF m 391 #[oI p0, oR b7, oR b54, oI (19 : Int32), oR (a_DATE_GREATER_THAN Z), oR (a_DATE_GREATER_THAN Z)] [(.ref (a_DATE_GREATER_THAN Z))])) rfl (by rw [hml]; rfl) (Steps.refl _) (argsL := []) (rest := []) (lenOf pd_1 rfl) rfl (by show 2 * 0 + _ ≤ _; exact Nat.le_of_eq rfl) (hb hby at_391) (fun _ _ => ⟨rfl, rfl, (by decide : 2 + 0 ≤ _), (by decide : 46 + 0 ≤ _)⟩)
    dsimp only [Pt.U, Pt.locs, Pt.cells, Pt.slots] at X301 l301 y301 z301 st301 hQ301
    subst l301 y301 z301
    obtain ⟨v301, N301q, K301q⟩ := hQ301
    have w301 : (fn2n Z (a_DATE_GREATER_THAN Z)) = (0 : Int32) := rfl
    rw [w301] at v301
    subst v301
    have N301 := Fr.app N300 N301q
    have O301 := O299.keep K301q all0
    have Kc301 := Kc299.trans K301q all0
    obtain ⟨fs, hr, hrun, hended, hW, hsame⟩ := X301.leave (v := some (.int (1 : Int32))) (fun h => by rw [Bd.returns] at h; cases h)
    refine ⟨_, _, pre101 _ ?_, hrun, hended, _, _, rfl, ?_, ⟨_, rfl⟩, hW, hsame.mono (by decide) (by decide)⟩
    · show oP p e below T100 (mkF m 329 #[oI p0, oR b7, oR b54, oU, oU, oU] [(.int (19 : Int32))]) _
      refine XS.istoreN X100.here hx rfl (hb hby at_329) rfl (l' := #[oI p0, oR b7, oR b54, oI (19 : Int32), oU, oU]) rfl ?_
      show oP p e below T100 (mkF m 330 #[oI p0, oR b7, oR b54, oI (19 : Int32), oU, oU] []) _
      refine XS.aloadN X100.here hx rfl (hb hby at_330) rfl rfl ?_
      show oP p e below T100 (mkF m 331 #[oI p0, oR b7, oR b54, oI (19 : Int32), oU, oU] [(.ref b7)]) _
      refine XS.iloadN X100.here hx rfl (hb hby at_331) rfl ?_
      show oP p e below T100 (mkF m 332 #[oI p0, oR b7, oR b54, oI (19 : Int32), oU, oU] [(.int (19 : Int32)), (.ref b7)]) _
      refine own_aaload X100 hx hZ e100 fx292 rfl (j := (19 : Int32)) ⟨by decide, by decide⟩ (v := (.ref (a_DATE_GREATER_THAN Z))) rfl (g := (mkF m 332 #[oI p0, oR b7, oR b54, oI (19 : Int32), oU, oU] [(.int (19 : Int32)), (.ref b7)])) rfl rfl (hb hby at_332) _ ?_
      show oP p e below T100 (mkF m 333 #[oI p0, oR b7, oR b54, oI (19 : Int32), oU, oU] [(.ref (a_DATE_GREATER_THAN Z))]) _
      refine XS.astore X100.here hx rfl (hb hby at_333) rfl rfl (l' := #[oI p0, oR b7, oR b54, oI (19 : Int32), oR (a_DATE_GREATER_THAN Z), oU]) rfl ?_
      show oP p e below T100 (mkF m 335 #[oI p0, oR b7, oR b54, oI (19 : Int32), oR (a_DATE_GREATER_THAN Z), oU] []) _
      refine XS.aload X100.here hx rfl (hb hby at_335) rfl rfl ?_
      show oP p e below T100 (mkF m 337 #[oI p0, oR b7, oR b54, oI (19 : Int32), oR (a_DATE_GREATER_THAN Z), oU] [(.ref (a_DATE_GREATER_THAN Z))]) _
      refine st294.trans ?_
      show oP p e below T294 (mkF m 340 #[oI p0, oR b7, oR b54, oI (19 : Int32), oR (a_DATE_GREATER_THAN Z), oU] [(.ref (a_DATE_GREATER_THAN Z))]) _
      refine XS.astore X294.here hx rfl (hb hby at_340) rfl rfl (l' := #[oI p0, oR b7, oR b54, oI (19 : Int32), oR (a_DATE_GREATER_THAN Z), oR (a_DATE_GREATER_THAN Z)]) rfl ?_
      show oP p e below T294 (mkF m 342 #[oI p0, oR b7, oR b54, oI (19 : Int32), oR (a_DATE_GREATER_THAN Z), oR (a_DATE_GREATER_THAN Z)] []) _
      refine XS.aload X294.here hx rfl (hb hby at_342) rfl rfl ?_
      show oP p e below T294 (mkF m 344 #[oI p0, oR b7, oR b54, oI (19 : Int32), oR (a_DATE_GREATER_THAN Z), oR (a_DATE_GREATER_THAN Z)] [(.ref (a_DATE_GREATER_THAN Z))]) _
      refine XS.aloadN X294.here hx rfl (hb hby at_344) rfl rfl ?_
      show oP p e below T294 (mkF m 345 #[oI p0, oR b7, oR b54, oI (19 : Int32), oR (a_DATE_GREATER_THAN Z), oR (a_DATE_GREATER_THAN Z)] [(.ref b54), (.ref (a_DATE_GREATER_THAN Z))]) _
      refine XS.iloadN X294.here hx rfl (hb hby at_345) rfl ?_
      show oP p e below T294 (mkF m 346 #[oI p0, oR b7, oR b54, oI (19 : Int32), oR (a_DATE_GREATER_THAN Z), oR (a_DATE_GREATER_THAN Z)] [(.int (19 : Int32)), (.ref b54), (.ref (a_DATE_GREATER_THAN Z))]) _
      refine own_aaload X294 hx hZ rfl fx295 rfl (j := (19 : Int32)) ⟨by decide, by decide⟩ (v := (.ref (a_DATE_GREATER_THAN Z))) rfl (g := (mkF m 346 #[oI p0, oR b7, oR b54, oI (19 : Int32), oR (a_DATE_GREATER_THAN Z), oR (a_DATE_GREATER_THAN Z)] [(.int (19 : Int32)), (.ref b54), (.ref (a_DATE_GREATER_THAN Z))])) rfl rfl (hb hby at_346) _ ?_
      show oP p e below T294 (mkF m 347 #[oI p0, oR b7, oR b54, oI (19 : Int32), oR (a_DATE_GREATER_THAN Z), oR (a_DATE_GREATER_THAN Z)] [(.ref (a_DATE_GREATER_THAN Z)), (.ref (a_DATE_GREATER_THAN Z))]) _
      refine Jvm.RoadKit.acmp (g := (mkF m 347 #[oI p0, oR b7, oR b54, oI (19 : Int32), oR (a_DATE_GREATER_THAN Z), oR (a_DATE_GREATER_THAN Z)] [(.ref (a_DATE_GREATER_THAN Z)), (.ref (a_DATE_GREATER_THAN Z))])) X294 hx rfl rfl rfl (pc0 := 347) (pc' := 352) (same := true) rfl (hb hby at_347) rfl (decide_eq_true (congrArg Value.ref (rfl : (a_DATE_GREATER_THAN Z) = (a_DATE_GREATER_THAN Z)))) (by decide) (by decide) ?_
      show oP p e below T294 (mkF m 352 #[oI p0, oR b7, oR b54, oI (19 : Int32), oR (a_DATE_GREATER_THAN Z), oR (a_DATE_GREATER_THAN Z)] []) _
      refine XS.aload X294.here hx rfl (hb hby at_352) rfl rfl ?_
      show oP p e below T294 (mkF m 354 #[oI p0, oR b7, oR b54, oI (19 : Int32), oR (a_DATE_GREATER_THAN Z), oR (a_DATE_GREATER_THAN Z)] [(.ref (a_DATE_GREATER_THAN Z))]) _
      refine st296.trans ?_
      show oP p e below T296 (mkF m 357 #[oI p0, oR b7, oR b54, oI (19 : Int32), oR (a_DATE_GREATER_THAN Z), oR (a_DATE_GREATER_THAN Z)] [(.int (0 : Int32))]) _
      refine XS.ifYes X296.here hx rfl (pc0 := 357) (pc' := 362) rfl (hb hby at_357) rfl ((if0 _ _).trans (teq (by decide : (0 : Int32) = (0 : Int32))).1) (by decide) (by decide) ?_
      show oP p e below T296 (mkF m 362 #[oI p0, oR b7, oR b54, oI (19 : Int32), oR (a_DATE_GREATER_THAN Z), oR (a_DATE_GREATER_THAN Z)] []) _
      refine XS.aload X296.here hx rfl (hb hby at_362) rfl rfl ?_
      show oP p e below T296 (mkF m 364 #[oI p0, oR b7, oR b54, oI (19 : Int32), oR (a_DATE_GREATER_THAN Z), oR (a_DATE_GREATER_THAN Z)] [(.ref (a_DATE_GREATER_THAN Z))]) _
      refine st297.trans ?_
      show oP p e below T297 (mkF m 367 #[oI p0, oR b7, oR b54, oI (19 : Int32), oR (a_DATE_GREATER_THAN Z), oR (a_DATE_GREATER_THAN Z)] [(.ref (a_DATE_GREATER_THAN Z))]) _
      refine XS.aload X297.here hx rfl (hb hby at_367) rfl rfl ?_
      show oP p e below T297 (mkF m 369 #[oI p0, oR b7, oR b54, oI (19 : Int32), oR (a_DATE_GREATER_THAN Z), oR (a_DATE_GREATER_THAN Z)] [(.ref (a_DATE_GREATER_THAN Z)), (.ref (a_DATE_GREATER_THAN Z))]) _
      refine Jvm.RoadKit.acmp (g := (mkF m 369 #[oI p0, oR b7, oR b54, oI (19 : Int32), oR (a_DATE_GREATER_THAN Z), oR (a_DATE_GREATER_THAN Z)] [(.ref (a_DATE_GREATER_THAN Z)), (.ref (a_DATE_GREATER_THAN Z))])) X297 hx rfl rfl rfl (pc0 := 369) (pc' := 374) (same := true) rfl (hb hby at_369) rfl (decide_eq_true (congrArg Value.ref (rfl : (a_DATE_GREATER_THAN Z) = (a_DATE_GREATER_THAN Z)))) (by decide) (by decide) ?_
      show oP p e below T297 (mkF m 374 #[oI p0, oR b7, oR b54, oI (19 : Int32), oR (a_DATE_GREATER_THAN Z), oR (a_DATE_GREATER_THAN Z)] []) _
      refine XS.aload X297.here hx rfl (hb hby at_374) rfl rfl ?_
      show oP p e below T297 (mkF m 376 #[oI p0, oR b7, oR b54, oI (19 : Int32), oR (a_DATE_GREATER_THAN Z), oR (a_DATE_GREATER_THAN Z)] [(.ref (a_DATE_GREATER_THAN Z))]) _
      refine st298.trans ?_
      show oP p e below T298 (mkF m 379 #[oI p0, oR b7, oR b54, oI (19 : Int32), oR (a_DATE_GREATER_THAN Z), oR (a_DATE_GREATER_THAN Z)] [(.ref (a_NUMBERS Z))]) _
      refine XS.aload X298.here hx rfl (hb hby at_379) rfl rfl ?_
      show oP p e below T298 (mkF m 381 #[oI p0, oR b7, oR b54, oI (19 : Int32), oR (a_DATE_GREATER_THAN Z), oR (a_DATE_GREATER_THAN Z)] [(.ref (a_DATE_GREATER_THAN Z)), (.ref (a_NUMBERS Z))]) _
      refine st299.trans ?_
      show oP p e below T299 (mkF m 384 #[oI p0, oR b7, oR b54, oI (19 : Int32), oR (a_DATE_GREATER_THAN Z), oR (a_DATE_GREATER_THAN Z)] [(.ref (a_NUMBERS Z)), (.ref (a_NUMBERS Z))]) _
      refine Jvm.RoadKit.acmp (g := (mkF m 384 #[oI p0, oR b7, oR b54, oI (19 : Int32), oR (a_DATE_GREATER_THAN Z), oR (a_DATE_GREATER_THAN Z)] [(.ref (a_NUMBERS Z)), (.ref (a_NUMBERS Z))])) X299 hx rfl rfl rfl (pc0 := 384) (pc' := 389) (same := true) rfl (hb hby at_384) rfl (decide_eq_true (congrArg Value.ref (rfl : (a_NUMBERS Z) = (a_NUMBERS Z)))) (by decide) (by decide) ?_
      show oP p e below T299 (mkF m 389 #[oI p0, oR b7, oR b54, oI (19 : Int32), oR (a_DATE_GREATER_THAN Z), oR (a_DATE_GREATER_THAN Z)] []) _
      refine XS.aload X299.here hx rfl (hb hby at_389) rfl rfl ?_
      show oP p e below T299 (mkF m 391 #[oI p0, oR b7, oR b54, oI (19 : Int32), oR (a_DATE_GREATER_THAN Z), oR (a_DATE_GREATER_THAN Z)] [(.ref (a_DATE_GREATER_THAN Z))]) _
      refine st301.trans ?_
      show oP p e below T301 (mkF m 394 #[oI p0, oR b7, oR b54, oI (19 : Int32), oR (a_DATE_GREATER_THAN Z), oR (a_DATE_GREATER_THAN Z)] [(.int (0 : Int32))]) _
      refine XS.aload X301.here hx rfl (hb hby at_394) rfl rfl ?_
      show oP p e below T301 (mkF m 396 #[oI p0, oR b7, oR b54, oI (19 : Int32), oR (a_DATE_GREATER_THAN Z), oR (a_DATE_GREATER_THAN Z)] [(.ref (a_DATE_GREATER_THAN Z)), (.int (0 : Int32))]) _
      refine XS.aload X301.here hx rfl (hb hby at_396) rfl rfl ?_
      show oP p e below T301 (mkF m 398 #[oI p0, oR b7, oR b54, oI (19 : Int32), oR (a_DATE_GREATER_THAN Z), oR (a_DATE_GREATER_THAN Z)] [(.ref (a_DATE_GREATER_THAN Z)), (.ref (a_DATE_GREATER_THAN Z)), (.int (0 : Int32))]) _
      refine Jvm.RoadKit.acmp (g := (mkF m 398 #[oI p0, oR b7, oR b54, oI (19 : Int32), oR (a_DATE_GREATER_THAN Z), oR (a_DATE_GREATER_THAN Z)] [(.ref (a_DATE_GREATER_THAN Z)), (.ref (a_DATE_GREATER_THAN Z)), (.int (0 : Int32))])) X301 hx rfl rfl rfl (pc0 := 398) (pc' := 405) (same := true) rfl (hb hby at_398) rfl (decide_eq_true (congrArg Value.ref (rfl : (a_DATE_GREATER_THAN Z) = (a_DATE_GREATER_THAN Z)))) (by decide) (by decide) ?_
      show oP p e below T301 (mkF m 405 #[oI p0, oR b7, oR b54, oI (19 : Int32), oR (a_DATE_GREATER_THAN Z), oR (a_DATE_GREATER_THAN Z)] [(.int (0 : Int32))]) _
      refine XS.iconst X301.here hx rfl (hb hby at_405) ?_
      show oP p e below T301 (mkF m 406 #[oI p0, oR b7, oR b54, oI (19 : Int32), oR (a_DATE_GREATER_THAN Z), oR (a_DATE_GREATER_THAN Z)] [(.int (0 : Int32)), (.int (0 : Int32))]) _
      refine XS.icmpNo X301.here hx rfl (hb hby at_406) rfl (teq (by decide : (0 : Int32) = (0 : Int32))).2 ?_
      show oP p e below T301 (mkF m 409 #[oI p0, oR b7, oR b54, oI (19 : Int32), oR (a_DATE_GREATER_THAN Z), oR (a_DATE_GREATER_THAN Z)] []) _
      refine XS.iconst X301.here hx rfl (hb hby at_409) ?_
      show oP p e below T301 (mkF m 410 #[oI p0, oR b7, oR b54, oI (19 : Int32), oR (a_DATE_GREATER_THAN Z), oR (a_DATE_GREATER_THAN Z)] [(.int (1 : Int32))]) _
      refine XS.goto X301.here hx rfl (pc0 := 410) (pc' := 414) rfl (hb hby at_410) (by decide) (by decide) ?_
      show oP p e below T301 (mkF m 414 #[oI p0, oR b7, oR b54, oI (19 : Int32), oR (a_DATE_GREATER_THAN Z), oR (a_DATE_GREATER_THAN Z)] [(.int (1 : Int32))]) _
      exact retN X301 hx (t := .boolean) Bd.returns (by simp) (hb hby at_414) hr
    · show (some (.int (1 : Int32)) : Option Value) = some (.int (1 : Int32)) ∧ Fr n0 _ ∧ Keep h0 T301.heap []
      exact ⟨rfl, N301, Kc301⟩
  · have fx302 := ((((((((((((((((((((((((V53.ext E54).other W56 ne_b7_b54).other W58 ne_b7_b54).other W60 ne_b7_b54).other W62 ne_b7_b54).other W64 ne_b7_b54).other W66 ne_b7_b54).other W68 ne_b7_b54).other W70 ne_b7_b54).other W72 ne_b7_b54).other W74 ne_b7_b54).other W76 ne_b7_b54).other W78 ne_b7_b54).other W80 ne_b7_b54).other W82 ne_b7_b54).other W84 ne_b7_b54).other W86 ne_b7_b54).other W88 ne_b7_b54).other W90 ne_b7_b54).other W92 ne_b7_b54).other W94 ne_b7_b54).other W96 ne_b7_b54).other W98 ne_b7_b54).other W100 ne_b7_b54)
    obtain ⟨lo303, X303, N303⟩ := own_hide X100 N100
    obtain ⟨cq304, kq304, q304a, q304b, q304c⟩ := isOf hZ e100 ((e_a_DATE_GREATER_THAN_EQUALS hS).ext O100.2)
    obtain ⟨_, _, ⟨T304, L304, k304, n304⟩, -, X304, ⟨Lc304, hQ304, l304, y304, z304⟩, st304⟩ := X303.virtualBack hx (y := (⟨"com/example/menshen/menshen/policy/ConditionOperator", "positive", "()Lcom/example/menshen/menshen/policy/ConditionOperator;"⟩ : MethodName)) (z := (⟨"com/example/menshen/menshen/policy/ConditionOperator", "positive", "()Lcom/example/menshen/menshen/policy/ConditionOperator;"⟩ : MethodName)) hown (mvT hZ (hw _ (List.mem_of_getElem? (i := 51) rfl))) (mvT hZ (hw _ (List.mem_of_getElem? (i := 52) rfl))) (notFace_of_selects (args := #[]) (mvT hZ (hw _ (List.mem_of_getElem? (i := 54) rfl)))) (mvT hZ (hw _ (List.mem_of_getElem? (i := 54) rfl))) (mvT hZ (hw _ (List.mem_of_getElem? (i := 53) rfl))) (by decide) (backOf (W := 0) (rm1n l Z a0 hw hS [] (a_DATE_GREATER_THAN_EQUALS Z) h100 n0 O100 ((f_a_DATE_GREATER_THAN_EQUALS_negationOf hS).ext O100.2)) hZ (hw _ (List.mem_of_getElem? (i := 55) rfl)) (hw _ (List.mem_of_getElem? (i := 3) rfl)) (by decide) (by decide)) q304a q304c (g := (mkF m 337 #[oI p0, oR b7, oR b54, oI (20 : Int32), oR (a_DATE_GREATER_THAN_EQUALS Z), oU] [(.ref (a_DATE_GREATER_THAN_EQUALS Z))])) rfl (by rw [hml]; rfl) (Steps.refl _) (argsL := []) (rest := []) (lenOf pd_0 rfl) rfl (by show 2 * 0 + _ ≤ _; exact Nat.le_of_eq rfl) (hb hby at_337) (fun _ _ => ⟨rfl, e100, (by decide : 2 + 0 ≤ _), (by decide : 46 + 0 ≤ _)⟩)
    dsimp only [Pt.U, Pt.locs, Pt.cells, Pt.slots] at X304 l304 y304 z304 st304 hQ304
    subst l304 y304 z304
    obtain ⟨v304, N304q, K304q⟩ := hQ304
    have w304 : (fn1n Z (a_DATE_GREATER_THAN_EQUALS Z)) = (a_DATE_GREATER_THAN_EQUALS Z) := rfl
    rw [w304] at v304
    subst v304
    have N304 := Fr.app N303 N304q
    have O304 := O100.keep K304q all0
    have Kc304 := Kc100.trans K304q all0
    have fx305 := (V100.keep K304q nin0)
    obtain ⟨cq306, kq306, q306a, q306b, q306c⟩ := isOf hZ rfl ((e_a_DATE_GREATER_THAN_EQUALS hS).ext O304.2)
    obtain ⟨_, _, ⟨T306, L306, k306, n306⟩, -, X306, ⟨Lc306, hQ306, l306, y306, z306⟩, st306⟩ := X304.virtualBack hx (y := (⟨"com/example/menshen/menshen/policy/ConditionOperator", "isNegated", "()Z"⟩ : MethodName)) (z := (⟨"com/example/menshen/menshen/policy/ConditionOperator", "isNegated", "()Z"⟩ : MethodName)) hown (mvT hZ (hw _ (List.mem_of_getElem? (i := 58) rfl))) (mvT hZ (hw _ (List.mem_of_getElem? (i := 59) rfl))) (notFace_of_selects (args := #[]) (mvT hZ (hw _ (List.mem_of_getElem? (i := 61) rfl)))) (mvT hZ (hw _ (List.mem_of_getElem? (i := 61) rfl))) (mvT hZ (hw _ (List.mem_of_getElem? (i := 60) rfl))) (by decide) (backOf (W := 0) (rm2n l Z a0 hw hS [] (a_DATE_GREATER_THAN_EQUALS Z) T304.heap n0 O304 ((f_a_DATE_GREATER_THAN_EQUALS_negationOf hS).ext O304.2)) hZ (hw _ (List.mem_of_getElem? (i := 62) rfl)) (hw _ (List.mem_of_getElem? (i := 3) rfl)) (by decide) (by decide)) q306a q306c (g := (mkF m 354 #[oI p0, oR b7, oR b54, oI (20 : Int32), oR (a_DATE_GREATER_THAN_EQUALS Z), oR (a_DATE_GREATER_THAN_EQUALS Z)] [(.ref (a_DATE_GREATER_THAN_EQUALS Z))])) rfl (by rw [hml]; rfl) (Steps.refl _) (argsL := []) (rest := []) (lenOf pd_1 rfl) rfl (by show 2 * 0 + _ ≤ _; exact Nat.le_of_eq rfl) (hb hby at_354) (fun _ _ => ⟨rfl, rfl, (by decide : 2 + 0 ≤ _), (by decide : 46 + 0 ≤ _)⟩)
    dsimp only [Pt.U, Pt.locs, Pt.cells, Pt.slots] at X306 l306 y306 z306 st306 hQ306
    subst l306 y306 z306
    obtain ⟨v306, N306q, K306q⟩ := hQ306
    have w306 : (fn2n Z (a_DATE_GREATER_THAN_EQUALS Z)) = (0 : Int32) := rfl
    rw [w306] at v306
    subst v306
    have N306 := Fr.app N304 N306q
    have O306 := O304.keep K306q all0
    have Kc306 := Kc304.trans K306q all0
    obtain ⟨cq307, kq307, q307a, q307b, q307c⟩ := isOf hZ rfl ((e_a_DATE_GREATER_THAN_EQUALS hS).ext O306.2)
    obtain ⟨_, _, ⟨T307, L307, k307, n307⟩, -, X307, ⟨Lc307, hQ307, l307, y307, z307⟩, st307⟩ := X306.virtualBack hx (y := (⟨"com/example/menshen/menshen/policy/ConditionOperator", "positive", "()Lcom/example/menshen/menshen/policy/ConditionOperator;"⟩ : MethodName)) (z := (⟨"com/example/menshen/menshen/policy/ConditionOperator", "positive", "()Lcom/example/menshen/menshen/policy/ConditionOperator;"⟩ : MethodName)) hown (mvT hZ (hw _ (List.mem_of_getElem? (i := 51) rfl))) (mvT hZ (hw _ (List.mem_of_getElem? (i := 52) rfl))) (notFace_of_selects (args := #[]) (mvT hZ (hw _ (List.mem_of_getElem? (i := 54) rfl)))) (mvT hZ (hw _ (List.mem_of_getElem? (i := 54) rfl))) (mvT hZ (hw _ (List.mem_of_getElem? (i := 53) rfl))) (by decide) (backOf (W := 0) (rm1n l Z a0 hw hS [] (a_DATE_GREATER_THAN_EQUALS Z) T306.heap n0 O306 ((f_a_DATE_GREATER_THAN_EQUALS_negationOf hS).ext O306.2)) hZ (hw _ (List.mem_of_getElem? (i := 55) rfl)) (hw _ (List.mem_of_getElem? (i := 3) rfl)) (by decide) (by decide)) q307a q307c (g := (mkF m 364 #[oI p0, oR b7, oR b54, oI (20 : Int32), oR (a_DATE_GREATER_THAN_EQUALS Z), oR (a_DATE_GREATER_THAN_EQUALS Z)] [(.ref (a_DATE_GREATER_THAN_EQUALS Z))])) rfl (by rw [hml]; rfl) (Steps.refl _) (argsL := []) (rest := []) (lenOf pd_0 rfl) rfl (by show 2 * 0 + _ ≤ _; exact Nat.le_of_eq rfl) (hb hby at_364) (fun _ _ => ⟨rfl, rfl, (by decide : 2 + 0 ≤ _), (by decide : 46 + 0 ≤ _)⟩)
    dsimp only [Pt.U, Pt.locs, Pt.cells, Pt.slots] at X307 l307 y307 z307 st307 hQ307
    subst l307 y307 z307
    obtain ⟨v307, N307q, K307q⟩ := hQ307
    have w307 : (fn1n Z (a_DATE_GREATER_THAN_EQUALS Z)) = (a_DATE_GREATER_THAN_EQUALS Z) := rfl
    rw [w307] at v307
    subst v307
    have N307 := Fr.app N306 N307q
    have O307 := O306.keep K307q all0
    have Kc307 := Kc306.trans K307q all0
    obtain ⟨cq308, kq308, q308a, q308b, q308c⟩ := isOf hZ rfl ((e_a_DATE_GREATER_THAN_EQUALS hS).ext O307.2)
    obtain ⟨_, _, ⟨T308, L308, k308, n308⟩, -, X308, ⟨Lc308, hQ308, l308, y308, z308⟩, st308⟩ := X307.virtualBack hx (y := (⟨"com/example/menshen/menshen/policy/ConditionOperator", "literals", "()Lcom/example/menshen/menshen/policy/ConditionOperator$Literals;"⟩ : MethodName)) (z := (⟨"com/example/menshen/menshen/policy/ConditionOperator", "literals", "()Lcom/example/menshen/menshen/policy/ConditionOperator$Literals;"⟩ : MethodName)) hown (mvT hZ (hw _ (List.mem_of_getElem? (i := 63) rfl))) (mvT hZ (hw _ (List.mem_of_getElem? (i := 64) rfl))) (notFace_of_selects (args := #[]) (mvT hZ (hw _ (List.mem_of_getElem? (i := 66) rfl)))) (mvT hZ (hw _ (List.mem_of_getElem? (i := 66) rfl))) (mvT hZ (hw _ (List.mem_of_getElem? (i := 65) rfl))) (by decide) (backOf (W := 0) (rm3 l Z a0 hw hS [] (a_DATE_GREATER_THAN_EQUALS Z) (a_NUMBERS Z) T307.heap n0 O307 ((f_a_DATE_GREATER_THAN_EQUALS_literals hS).ext O307.2)) hZ (hw _ (List.mem_of_getElem? (i := 67) rfl)) (hw _ (List.mem_of_getElem? (i := 3) rfl)) (by decide) (by decide)) q308a q308c (g := (mkF m 376 #[oI p0, oR b7, oR b54, oI (20 : Int32), oR (a_DATE_GREATER_THAN_EQUALS Z), oR (a_DATE_GREATER_THAN_EQUALS Z)] [(.ref (a_DATE_GREATER_THAN_EQUALS Z))])) rfl (by rw [hml]; rfl) (Steps.refl _) (argsL := []) (rest := []) (lenOf pd_2 rfl) rfl (by show 2 * 0 + _ ≤ _; exact Nat.le_of_eq rfl) (hb hby at_376) (fun _ _ => ⟨rfl, rfl, (by decide : 2 + 0 ≤ _), (by decide : 46 + 0 ≤ _)⟩)
    dsimp only [Pt.U, Pt.locs, Pt.cells, Pt.slots] at X308 l308 y308 z308 st308 hQ308
    subst l308 y308 z308
    obtain ⟨v308, N308q, K308q⟩ := hQ308
    have w308 : (fn3 Z (a_DATE_GREATER_THAN_EQUALS Z) (a_NUMBERS Z)) = (a_NUMBERS Z) := rfl
    rw [w308] at v308
    subst v308
    have N308 := Fr.app N307 N308q
    have O308 := O307.keep K308q all0
    have Kc308 := Kc307.trans K308q all0
    obtain ⟨cq309, kq309, q309a, q309b, q309c⟩ := isOf hZ rfl ((e_a_DATE_GREATER_THAN_EQUALS hS).ext O308.2)
    obtain ⟨_, _, ⟨T309, L309, k309, n309⟩, -, X309, ⟨Lc309, hQ309, l309, y309, z309⟩, st309⟩ := X308.virtualBack hx (y := (⟨"com/example/menshen/menshen/policy/ConditionOperator", "literals", "()Lcom/example/menshen/menshen/policy/ConditionOperator$Literals;"⟩ : MethodName)) (z := (⟨"com/example/menshen/menshen/policy/ConditionOperator", "literals", "()Lcom/example/menshen/menshen/policy/ConditionOperator$Literals;"⟩ : MethodName)) hown (mvT hZ (hw _ (List.mem_of_getElem? (i := 63) rfl))) (mvT hZ (hw _ (List.mem_of_getElem? (i := 64) rfl))) (notFace_of_selects (args := #[]) (mvT hZ (hw _ (List.mem_of_getElem? (i := 66) rfl)))) (mvT hZ (hw _ (List.mem_of_getElem? (i := 66) rfl))) (mvT hZ (hw _ (List.mem_of_getElem? (i := 65) rfl))) (by decide) (backOf (W := 1) (rm3 l Z a0 hw hS [] (a_DATE_GREATER_THAN_EQUALS Z) (a_NUMBERS Z) T308.heap n0 O308 ((f_a_DATE_GREATER_THAN_EQUALS_literals hS).ext O308.2)) hZ (hw _ (List.mem_of_getElem? (i := 67) rfl)) (hw _ (List.mem_of_getElem? (i := 3) rfl)) (by decide) (by decide)) q309a q309c (g := (mkF m 381 #[oI p0, oR b7, oR b54, oI (20 : Int32), oR (a_DATE_GREATER_THAN_EQUALS Z), oR (a_DATE_GREATER_THAN_EQUALS Z)] [(.ref (a_DATE_GREATER_THAN_EQUALS Z)), (.ref (a_NUMBERS Z))])) rfl (by rw [hml]; rfl) (Steps.refl _) (argsL := []) (rest := [(.ref (a_NUMBERS Z))]) (lenOf pd_2 rfl) rfl (by show 2 * 0 + _ ≤ _; exact Nat.le_of_eq rfl) (hb hby at_381) (fun _ _ => ⟨rfl, rfl, (by decide : 2 + 0 ≤ _), (by decide : 46 + 0 ≤ _)⟩)
    dsimp only [Pt.U, Pt.locs, Pt.cells, Pt.slots] at X309 l309 y309 z309 st309 hQ309
    subst l309 y309 z309
    obtain ⟨v309, N309q, K309q⟩ := hQ309
    have w309 : (fn3 Z (a_DATE_GREATER_THAN_EQUALS Z) (a_NUMBERS Z)) = (a_NUMBERS Z) := rfl
    rw [w309] at v309
    subst v309
    have N309 := Fr.app N308 N309q
    have O309 := O308.keep K309q all0
    have Kc309 := Kc308.trans K309q all0
    obtain ⟨lo310, X310, N310⟩ := own_hide X309 N309
    obtain ⟨cq311, kq311, q311a, q311b, q311c⟩ := isOf hZ rfl ((e_a_DATE_GREATER_THAN_EQUALS hS).ext O309.2)
    obtain ⟨_, _, ⟨T311, L311, k311, n311⟩, -, X311, ⟨Lc311, hQ311, l311, y311, z311⟩, st311⟩ := X310.virtualBack hx (y := (⟨"com/example/menshen/menshen/policy/ConditionOperator", "isNegated", "()Z"⟩ : MethodName)) (z := (⟨"com/example/menshen/menshen/policy/ConditionOperator", "isNegated", "()Z"⟩ : MethodName)) hown (mvT hZ (hw _ (List.mem_of_getElem? (i := 58) rfl))) (mvT hZ (hw _ (List.mem_of_getElem? (i := 59) rfl))) (notFace_of_selects (args := #[]) (mvT hZ (hw _ (List.mem_of_getElem? (i := 61) rfl)))) (mvT hZ (hw _ (List.mem_of_getElem? (i := 61) rfl))) (mvT hZ (hw _ (List.mem_of_getElem? (i := 60) rfl))) (by decide) (backOf (W := 0) (rm2n l Z a0 hw hS [] (a_DATE_GREATER_THAN_EQUALS Z) T309.heap n0 O309 ((f_a_DATE_GREATER_THAN_EQUALS_negationOf hS).ext O309.2)) hZ (hw _ (List.mem_of_getElem? (i := 62) rfl)) (hw _ (List.mem_of_getElem? (i := 3) rfl)) (by decide) (by decide)) q311a q311c (g := (mkF m 391 #[oI p0, oR b7, oR b54, oI (20 : Int32), oR (a_DATE_GREATER_THAN_EQUALS Z), oR (a_DATE_GREATER_THAN_EQUALS Z)] [(.ref (a_DATE_GREATER_THAN_EQUALS Z))])) rfl (by rw [hml]; rfl) (Steps.refl _) (argsL := []) (rest := []) (lenOf pd_1 rfl) rfl (by show 2 * 0 + _ ≤ _; exact Nat.le_of_eq rfl) (hb hby at_391) (fun _ _ => ⟨rfl, rfl, (by decide : 2 + 0 ≤ _), (by decide : 46 + 0 ≤ _)⟩)
    dsimp only [Pt.U, Pt.locs, Pt.cells, Pt.slots] at X311 l311 y311 z311 st311 hQ311
    subst l311 y311 z311
    obtain ⟨v311, N311q, K311q⟩ := hQ311
    have w311 : (fn2n Z (a_DATE_GREATER_THAN_EQUALS Z)) = (0 : Int32) := rfl
    rw [w311] at v311
    subst v311
    have N311 := Fr.app N310 N311q
    have O311 := O309.keep K311q all0
    have Kc311 := Kc309.trans K311q all0
    obtain ⟨fs, hr, hrun, hended, hW, hsame⟩ := X311.leave (v := some (.int (1 : Int32))) (fun h => by rw [Bd.returns] at h; cases h)
    refine ⟨_, _, pre101 _ ?_, hrun, hended, _, _, rfl, ?_, ⟨_, rfl⟩, hW, hsame.mono (by decide) (by decide)⟩
    · show oP p e below T100 (mkF m 329 #[oI p0, oR b7, oR b54, oU, oU, oU] [(.int (20 : Int32))]) _
      refine XS.istoreN X100.here hx rfl (hb hby at_329) rfl (l' := #[oI p0, oR b7, oR b54, oI (20 : Int32), oU, oU]) rfl ?_
      show oP p e below T100 (mkF m 330 #[oI p0, oR b7, oR b54, oI (20 : Int32), oU, oU] []) _
      refine XS.aloadN X100.here hx rfl (hb hby at_330) rfl rfl ?_
      show oP p e below T100 (mkF m 331 #[oI p0, oR b7, oR b54, oI (20 : Int32), oU, oU] [(.ref b7)]) _
      refine XS.iloadN X100.here hx rfl (hb hby at_331) rfl ?_
      show oP p e below T100 (mkF m 332 #[oI p0, oR b7, oR b54, oI (20 : Int32), oU, oU] [(.int (20 : Int32)), (.ref b7)]) _
      refine own_aaload X100 hx hZ e100 fx302 rfl (j := (20 : Int32)) ⟨by decide, by decide⟩ (v := (.ref (a_DATE_GREATER_THAN_EQUALS Z))) rfl (g := (mkF m 332 #[oI p0, oR b7, oR b54, oI (20 : Int32), oU, oU] [(.int (20 : Int32)), (.ref b7)])) rfl rfl (hb hby at_332) _ ?_
      show oP p e below T100 (mkF m 333 #[oI p0, oR b7, oR b54, oI (20 : Int32), oU, oU] [(.ref (a_DATE_GREATER_THAN_EQUALS Z))]) _
      refine XS.astore X100.here hx rfl (hb hby at_333) rfl rfl (l' := #[oI p0, oR b7, oR b54, oI (20 : Int32), oR (a_DATE_GREATER_THAN_EQUALS Z), oU]) rfl ?_
      show oP p e below T100 (mkF m 335 #[oI p0, oR b7, oR b54, oI (20 : Int32), oR (a_DATE_GREATER_THAN_EQUALS Z), oU] []) _
      refine XS.aload X100.here hx rfl (hb hby at_335) rfl rfl ?_
      show oP p e below T100 (mkF m 337 #[oI p0, oR b7, oR b54, oI (20 : Int32), oR (a_DATE_GREATER_THAN_EQUALS Z), oU] [(.ref (a_DATE_GREATER_THAN_EQUALS Z))]) _
      refine st304.trans ?_
      show oP p e below T304 (mkF m 340 #[oI p0, oR b7, oR b54, oI (20 : Int32), oR (a_DATE_GREATER_THAN_EQUALS Z), oU] [(.ref (a_DATE_GREATER_THAN_EQUALS Z))]) _
      refine XS.astore X304.here hx rfl (hb hby at_340) rfl rfl (l' := #[oI p0, oR b7, oR b54, oI (20 : Int32), oR (a_DATE_GREATER_THAN_EQUALS Z), oR (a_DATE_GREATER_THAN_EQUALS Z)]) rfl ?_
      show oP p e below T304 (mkF m 342 #[oI p0, oR b7, oR b54, oI (20 : Int32), oR (a_DATE_GREATER_THAN_EQUALS Z), oR (a_DATE_GREATER_THAN_EQUALS Z)] []) _
      refine XS.aload X304.here hx rfl (hb hby at_342) rfl rfl ?_
      show oP p e below T304 (mkF m 344 #[oI p0, oR b7, oR b54, oI (20 : Int32), oR (a_DATE_GREATER_THAN_EQUALS Z), oR (a_DATE_GREATER_THAN_EQUALS Z)] [(.ref (a_DATE_GREATER_THAN_EQUALS Z))]) _
      refine XS.aloadN X304.here hx rfl (hb hby at_344) rfl rfl ?_
      show oP p e below T304 (mkF m 345 #[oI p0, oR b7, oR b54, oI (20 : Int32), oR (a_DATE_GREATER_THAN_EQUALS Z), oR (a_DATE_GREATER_THAN_EQUALS Z)] [(.ref b54), (.ref (a_DATE_GREATER_THAN_EQUALS Z))]) _
      refine XS.iloadN X304.here hx rfl (hb hby at_345) rfl ?_
      show oP p e below T304 (mkF m 346 #[oI p0, oR b7, oR b54, oI (20 : Int32), oR (a_DATE_GREATER_THAN_EQUALS Z), oR (a_DATE_GREATER_THAN_EQUALS Z)] [(.int (20 : Int32)), (.ref b54), (.ref (a_DATE_GREATER_THAN_EQUALS Z))]) _
      refine own_aaload X304 hx hZ rfl fx305 rfl (j := (20 : Int32)) ⟨by decide, by decide⟩ (v := (.ref (a_DATE_GREATER_THAN_EQUALS Z))) rfl (g := (mkF m 346 #[oI p0, oR b7, oR b54, oI (20 : Int32), oR (a_DATE_GREATER_THAN_EQUALS Z), oR (a_DATE_GREATER_THAN_EQUALS Z)] [(.int (20 : Int32)), (.ref b54), (.ref (a_DATE_GREATER_THAN_EQUALS Z))])) rfl rfl (hb hby at_346) _ ?_
      show oP p e below T304 (mkF m 347 #[oI p0, oR b7, oR b54, oI (20 : Int32), oR (a_DATE_GREATER_THAN_EQUALS Z), oR (a_DATE_GREATER_THAN_EQUALS Z)] [(.ref (a_DATE_GREATER_THAN_EQUALS Z)), (.ref (a_DATE_GREATER_THAN_EQUALS Z))]) _
      refine Jvm.RoadKit.acmp (g := (mkF m 347 #[oI p0, oR b7, oR b54, oI (20 : Int32), oR (a_DATE_GREATER_THAN_EQUALS Z), oR (a_DATE_GREATER_THAN_EQUALS Z)] [(.ref (a_DATE_GREATER_THAN_EQUALS Z)), (.ref (a_DATE_GREATER_THAN_EQUALS Z))])) X304 hx rfl rfl rfl (pc0 := 347) (pc' := 352) (same := true) rfl (hb hby at_347) rfl (decide_eq_true (congrArg Value.ref (rfl : (a_DATE_GREATER_THAN_EQUALS Z) = (a_DATE_GREATER_THAN_EQUALS Z)))) (by decide) (by decide) ?_
      show oP p e below T304 (mkF m 352 #[oI p0, oR b7, oR b54, oI (20 : Int32), oR (a_DATE_GREATER_THAN_EQUALS Z), oR (a_DATE_GREATER_THAN_EQUALS Z)] []) _
      refine XS.aload X304.here hx rfl (hb hby at_352) rfl rfl ?_
      show oP p e below T304 (mkF m 354 #[oI p0, oR b7, oR b54, oI (20 : Int32), oR (a_DATE_GREATER_THAN_EQUALS Z), oR (a_DATE_GREATER_THAN_EQUALS Z)] [(.ref (a_DATE_GREATER_THAN_EQUALS Z))]) _
      refine st306.trans ?_
      show oP p e below T306 (mkF m 357 #[oI p0, oR b7, oR b54, oI (20 : Int32), oR (a_DATE_GREATER_THAN_EQUALS Z), oR (a_DATE_GREATER_THAN_EQUALS Z)] [(.int (0 : Int32))]) _
      refine XS.ifYes X306.here hx rfl (pc0 := 357) (pc' := 362) rfl (hb hby at_357) rfl ((if0 _ _).trans (teq (by decide : (0 : Int32) = (0 : Int32))).1) (by decide) (by decide) ?_
      show oP p e below T306 (mkF m 362 #[oI p0, oR b7, oR b54, oI (20 : Int32), oR (a_DATE_GREATER_THAN_EQUALS Z), oR (a_DATE_GREATER_THAN_EQUALS Z)] []) _
      refine XS.aload X306.here hx rfl (hb hby at_362) rfl rfl ?_
      show oP p e below T306 (mkF m 364 #[oI p0, oR b7, oR b54, oI (20 : Int32), oR (a_DATE_GREATER_THAN_EQUALS Z), oR (a_DATE_GREATER_THAN_EQUALS Z)] [(.ref (a_DATE_GREATER_THAN_EQUALS Z))]) _
      refine st307.trans ?_
      show oP p e below T307 (mkF m 367 #[oI p0, oR b7, oR b54, oI (20 : Int32), oR (a_DATE_GREATER_THAN_EQUALS Z), oR (a_DATE_GREATER_THAN_EQUALS Z)] [(.ref (a_DATE_GREATER_THAN_EQUALS Z))]) _
      refine XS.aload X307.here hx rfl (hb hby at_367) rfl rfl ?_
      show oP p e below T307 (mkF m 369 #[oI p0, oR b7, oR b54, oI (20 : Int32), oR (a_DATE_GREATER_THAN_EQUALS Z), oR (a_DATE_GREATER_THAN_EQUALS Z)] [(.ref (a_DATE_GREATER_THAN_EQUALS Z)), (.ref (a_DATE_GREATER_THAN_EQUALS Z))]) _
      refine Jvm.RoadKit.acmp (g := (mkF m 369 #[oI p0, oR b7, oR b54, oI (20 : Int32), oR (a_DATE_GREATER_THAN_EQUALS Z), oR (a_DATE_GREATER_THAN_EQUALS Z)] [(.ref (a_DATE_GREATER_THAN_EQUALS Z)), (.ref (a_DATE_GREATER_THAN_EQUALS Z))])) X307 hx rfl rfl rfl (pc0 := 369) (pc' := 374) (same := true) rfl (hb hby at_369) rfl (decide_eq_true (congrArg Value.ref (rfl : (a_DATE_GREATER_THAN_EQUALS Z) = (a_DATE_GREATER_THAN_EQUALS Z)))) (by decide) (by decide) ?_
      show oP p e below T307 (mkF m 374 #[oI p0, oR b7, oR b54, oI (20 : Int32), oR (a_DATE_GREATER_THAN_EQUALS Z), oR (a_DATE_GREATER_THAN_EQUALS Z)] []) _
      refine XS.aload X307.here hx rfl (hb hby at_374) rfl rfl ?_
      show oP p e below T307 (mkF m 376 #[oI p0, oR b7, oR b54, oI (20 : Int32), oR (a_DATE_GREATER_THAN_EQUALS Z), oR (a_DATE_GREATER_THAN_EQUALS Z)] [(.ref (a_DATE_GREATER_THAN_EQUALS Z))]) _
      refine st308.trans ?_
      show oP p e below T308 (mkF m 379 #[oI p0, oR b7, oR b54, oI (20 : Int32), oR (a_DATE_GREATER_THAN_EQUALS Z), oR (a_DATE_GREATER_THAN_EQUALS Z)] [(.ref (a_NUMBERS Z))]) _
      refine XS.aload X308.here hx rfl (hb hby at_379) rfl rfl ?_
      show oP p e below T308 (mkF m 381 #[oI p0, oR b7, oR b54, oI (20 : Int32), oR (a_DATE_GREATER_THAN_EQUALS Z), oR (a_DATE_GREATER_THAN_EQUALS Z)] [(.ref (a_DATE_GREATER_THAN_EQUALS Z)), (.ref (a_NUMBERS Z))]) _
      refine st309.trans ?_
      show oP p e below T309 (mkF m 384 #[oI p0, oR b7, oR b54, oI (20 : Int32), oR (a_DATE_GREATER_THAN_EQUALS Z), oR (a_DATE_GREATER_THAN_EQUALS Z)] [(.ref (a_NUMBERS Z)), (.ref (a_NUMBERS Z))]) _
      refine Jvm.RoadKit.acmp (g := (mkF m 384 #[oI p0, oR b7, oR b54, oI (20 : Int32), oR (a_DATE_GREATER_THAN_EQUALS Z), oR (a_DATE_GREATER_THAN_EQUALS Z)] [(.ref (a_NUMBERS Z)), (.ref (a_NUMBERS Z))])) X309 hx rfl rfl rfl (pc0 := 384) (pc' := 389) (same := true) rfl (hb hby at_384) rfl (decide_eq_true (congrArg Value.ref (rfl : (a_NUMBERS Z) = (a_NUMBERS Z)))) (by decide) (by decide) ?_
      show oP p e below T309 (mkF m 389 #[oI p0, oR b7, oR b54, oI (20 : Int32), oR (a_DATE_GREATER_THAN_EQUALS Z), oR (a_DATE_GREATER_THAN_EQUALS Z)] []) _
      refine XS.aload X309.here hx rfl (hb hby at_389) rfl rfl ?_
      show oP p e below T309 (mkF m 391 #[oI p0, oR b7, oR b54, oI (20 : Int32), oR (a_DATE_GREATER_THAN_EQUALS Z), oR (a_DATE_GREATER_THAN_EQUALS Z)] [(.ref (a_DATE_GREATER_THAN_EQUALS Z))]) _
      refine st311.trans ?_
      show oP p e below T311 (mkF m 394 #[oI p0, oR b7, oR b54, oI (20 : Int32), oR (a_DATE_GREATER_THAN_EQUALS Z), oR (a_DATE_GREATER_THAN_EQUALS Z)] [(.int (0 : Int32))]) _
      refine XS.aload X311.here hx rfl (hb hby at_394) rfl rfl ?_
      show oP p e below T311 (mkF m 396 #[oI p0, oR b7, oR b54, oI (20 : Int32), oR (a_DATE_GREATER_THAN_EQUALS Z), oR (a_DATE_GREATER_THAN_EQUALS Z)] [(.ref (a_DATE_GREATER_THAN_EQUALS Z)), (.int (0 : Int32))]) _
      refine XS.aload X311.here hx rfl (hb hby at_396) rfl rfl ?_
      show oP p e below T311 (mkF m 398 #[oI p0, oR b7, oR b54, oI (20 : Int32), oR (a_DATE_GREATER_THAN_EQUALS Z), oR (a_DATE_GREATER_THAN_EQUALS Z)] [(.ref (a_DATE_GREATER_THAN_EQUALS Z)), (.ref (a_DATE_GREATER_THAN_EQUALS Z)), (.int (0 : Int32))]) _
      refine Jvm.RoadKit.acmp (g := (mkF m 398 #[oI p0, oR b7, oR b54, oI (20 : Int32), oR (a_DATE_GREATER_THAN_EQUALS Z), oR (a_DATE_GREATER_THAN_EQUALS Z)] [(.ref (a_DATE_GREATER_THAN_EQUALS Z)), (.ref (a_DATE_GREATER_THAN_EQUALS Z)), (.int (0 : Int32))])) X311 hx rfl rfl rfl (pc0 := 398) (pc' := 405) (same := true) rfl (hb hby at_398) rfl (decide_eq_true (congrArg Value.ref (rfl : (a_DATE_GREATER_THAN_EQUALS Z) = (a_DATE_GREATER_THAN_EQUALS Z)))) (by decide) (by decide) ?_
      show oP p e below T311 (mkF m 405 #[oI p0, oR b7, oR b54, oI (20 : Int32), oR (a_DATE_GREATER_THAN_EQUALS Z), oR (a_DATE_GREATER_THAN_EQUALS Z)] [(.int (0 : Int32))]) _
      refine XS.iconst X311.here hx rfl (hb hby at_405) ?_
      show oP p e below T311 (mkF m 406 #[oI p0, oR b7, oR b54, oI (20 : Int32), oR (a_DATE_GREATER_THAN_EQUALS Z), oR (a_DATE_GREATER_THAN_EQUALS Z)] [(.int (0 : Int32)), (.int (0 : Int32))]) _
      refine XS.icmpNo X311.here hx rfl (hb hby at_406) rfl (teq (by decide : (0 : Int32) = (0 : Int32))).2 ?_
      show oP p e below T311 (mkF m 409 #[oI p0, oR b7, oR b54, oI (20 : Int32), oR (a_DATE_GREATER_THAN_EQUALS Z), oR (a_DATE_GREATER_THAN_EQUALS Z)] []) _
      refine XS.iconst X311.here hx rfl (hb hby at_409) ?_
      show oP p e below T311 (mkF m 410 #[oI p0, oR b7, oR b54, oI (20 : Int32), oR (a_DATE_GREATER_THAN_EQUALS Z), oR (a_DATE_GREATER_THAN_EQUALS Z)] [(.int (1 : Int32))]) _
      refine XS.goto X311.here hx rfl (pc0 := 410) (pc' := 414) rfl (hb hby at_410) (by decide) (by decide) ?_
      show oP p e below T311 (mkF m 414 #[oI p0, oR b7, oR b54, oI (20 : Int32), oR (a_DATE_GREATER_THAN_EQUALS Z), oR (a_DATE_GREATER_THAN_EQUALS Z)] [(.int (1 : Int32))]) _
      exact retN X311 hx (t := .boolean) Bd.returns (by simp) (hb hby at_414) hr
    · show (some (.int (1 : Int32)) : Option Value) = some (.int (1 : Int32)) ∧ Fr n0 _ ∧ Keep h0 T311.heap []
      exact ⟨rfl, N311, Kc311⟩
  · have fx312 := ((((((((((((((((((((((((V53.ext E54).other W56 ne_b7_b54).other W58 ne_b7_b54).other W60 ne_b7_b54).other W62 ne_b7_b54).other W64 ne_b7_b54).other W66 ne_b7_b54).other W68 ne_b7_b54).other W70 ne_b7_b54).other W72 ne_b7_b54).other W74 ne_b7_b54).other W76 ne_b7_b54).other W78 ne_b7_b54).other W80 ne_b7_b54).other W82 ne_b7_b54).other W84 ne_b7_b54).other W86 ne_b7_b54).other W88 ne_b7_b54).other W90 ne_b7_b54).other W92 ne_b7_b54).other W94 ne_b7_b54).other W96 ne_b7_b54).other W98 ne_b7_b54).other W100 ne_b7_b54)
    obtain ⟨lo313, X313, N313⟩ := own_hide X100 N100
    obtain ⟨cq314, kq314, q314a, q314b, q314c⟩ := isOf hZ e100 ((e_a_BOOL hS).ext O100.2)
    obtain ⟨_, _, ⟨T314, L314, k314, n314⟩, -, X314, ⟨Lc314, hQ314, l314, y314, z314⟩, st314⟩ := X313.virtualBack hx (y := (⟨"com/example/menshen/menshen/policy/ConditionOperator", "positive", "()Lcom/example/menshen/menshen/policy/ConditionOperator;"⟩ : MethodName)) (z := (⟨"com/example/menshen/menshen/policy/ConditionOperator", "positive", "()Lcom/example/menshen/menshen/policy/ConditionOperator;"⟩ : MethodName)) hown (mvT hZ (hw _ (List.mem_of_getElem? (i := 51) rfl))) (mvT hZ (hw _ (List.mem_of_getElem? (i := 52) rfl))) (notFace_of_selects (args := #[]) (mvT hZ (hw _ (List.mem_of_getElem? (i := 54) rfl)))) (mvT hZ (hw _ (List.mem_of_getElem? (i := 54) rfl))) (mvT hZ (hw _ (List.mem_of_getElem? (i := 53) rfl))) (by decide) (backOf (W := 0) (rm1n l Z a0 hw hS [] (a_BOOL Z) h100 n0 O100 ((f_a_BOOL_negationOf hS).ext O100.2)) hZ (hw _ (List.mem_of_getElem? (i := 55) rfl)) (hw _ (List.mem_of_getElem? (i := 3) rfl)) (by decide) (by decide)) q314a q314c (g := (mkF m 337 #[oI p0, oR b7, oR b54, oI (21 : Int32), oR (a_BOOL Z), oU] [(.ref (a_BOOL Z))])) rfl (by rw [hml]; rfl) (Steps.refl _) (argsL := []) (rest := []) (lenOf pd_0 rfl) rfl (by show 2 * 0 + _ ≤ _; exact Nat.le_of_eq rfl) (hb hby at_337) (fun _ _ => ⟨rfl, e100, (by decide : 2 + 0 ≤ _), (by decide : 46 + 0 ≤ _)⟩)
    dsimp only [Pt.U, Pt.locs, Pt.cells, Pt.slots] at X314 l314 y314 z314 st314 hQ314
    subst l314 y314 z314
    obtain ⟨v314, N314q, K314q⟩ := hQ314
    have w314 : (fn1n Z (a_BOOL Z)) = (a_BOOL Z) := rfl
    rw [w314] at v314
    subst v314
    have N314 := Fr.app N313 N314q
    have O314 := O100.keep K314q all0
    have Kc314 := Kc100.trans K314q all0
    have fx315 := (V100.keep K314q nin0)
    obtain ⟨cq316, kq316, q316a, q316b, q316c⟩ := isOf hZ rfl ((e_a_BOOL hS).ext O314.2)
    obtain ⟨_, _, ⟨T316, L316, k316, n316⟩, -, X316, ⟨Lc316, hQ316, l316, y316, z316⟩, st316⟩ := X314.virtualBack hx (y := (⟨"com/example/menshen/menshen/policy/ConditionOperator", "isNegated", "()Z"⟩ : MethodName)) (z := (⟨"com/example/menshen/menshen/policy/ConditionOperator", "isNegated", "()Z"⟩ : MethodName)) hown (mvT hZ (hw _ (List.mem_of_getElem? (i := 58) rfl))) (mvT hZ (hw _ (List.mem_of_getElem? (i := 59) rfl))) (notFace_of_selects (args := #[]) (mvT hZ (hw _ (List.mem_of_getElem? (i := 61) rfl)))) (mvT hZ (hw _ (List.mem_of_getElem? (i := 61) rfl))) (mvT hZ (hw _ (List.mem_of_getElem? (i := 60) rfl))) (by decide) (backOf (W := 0) (rm2n l Z a0 hw hS [] (a_BOOL Z) T314.heap n0 O314 ((f_a_BOOL_negationOf hS).ext O314.2)) hZ (hw _ (List.mem_of_getElem? (i := 62) rfl)) (hw _ (List.mem_of_getElem? (i := 3) rfl)) (by decide) (by decide)) q316a q316c (g := (mkF m 354 #[oI p0, oR b7, oR b54, oI (21 : Int32), oR (a_BOOL Z), oR (a_BOOL Z)] [(.ref (a_BOOL Z))])) rfl (by rw [hml]; rfl) (Steps.refl _) (argsL := []) (rest := []) (lenOf pd_1 rfl) rfl (by show 2 * 0 + _ ≤ _; exact Nat.le_of_eq rfl) (hb hby at_354) (fun _ _ => ⟨rfl, rfl, (by decide : 2 + 0 ≤ _), (by decide : 46 + 0 ≤ _)⟩)
    dsimp only [Pt.U, Pt.locs, Pt.cells, Pt.slots] at X316 l316 y316 z316 st316 hQ316
    subst l316 y316 z316
    obtain ⟨v316, N316q, K316q⟩ := hQ316
    have w316 : (fn2n Z (a_BOOL Z)) = (0 : Int32) := rfl
    rw [w316] at v316
    subst v316
    have N316 := Fr.app N314 N316q
    have O316 := O314.keep K316q all0
    have Kc316 := Kc314.trans K316q all0
    obtain ⟨cq317, kq317, q317a, q317b, q317c⟩ := isOf hZ rfl ((e_a_BOOL hS).ext O316.2)
    obtain ⟨_, _, ⟨T317, L317, k317, n317⟩, -, X317, ⟨Lc317, hQ317, l317, y317, z317⟩, st317⟩ := X316.virtualBack hx (y := (⟨"com/example/menshen/menshen/policy/ConditionOperator", "positive", "()Lcom/example/menshen/menshen/policy/ConditionOperator;"⟩ : MethodName)) (z := (⟨"com/example/menshen/menshen/policy/ConditionOperator", "positive", "()Lcom/example/menshen/menshen/policy/ConditionOperator;"⟩ : MethodName)) hown (mvT hZ (hw _ (List.mem_of_getElem? (i := 51) rfl))) (mvT hZ (hw _ (List.mem_of_getElem? (i := 52) rfl))) (notFace_of_selects (args := #[]) (mvT hZ (hw _ (List.mem_of_getElem? (i := 54) rfl)))) (mvT hZ (hw _ (List.mem_of_getElem? (i := 54) rfl))) (mvT hZ (hw _ (List.mem_of_getElem? (i := 53) rfl))) (by decide) (backOf (W := 0) (rm1n l Z a0 hw hS [] (a_BOOL Z) T316.heap n0 O316 ((f_a_BOOL_negationOf hS).ext O316.2)) hZ (hw _ (List.mem_of_getElem? (i := 55) rfl)) (hw _ (List.mem_of_getElem? (i := 3) rfl)) (by decide) (by decide)) q317a q317c (g := (mkF m 364 #[oI p0, oR b7, oR b54, oI (21 : Int32), oR (a_BOOL Z), oR (a_BOOL Z)] [(.ref (a_BOOL Z))])) rfl (by rw [hml]; rfl) (Steps.refl _) (argsL := []) (rest := []) (lenOf pd_0 rfl) rfl (by show 2 * 0 + _ ≤ _; exact Nat.le_of_eq rfl) (hb hby at_364) (fun _ _ => ⟨rfl, rfl, (by decide : 2 + 0 ≤ _), (by decide : 46 + 0 ≤ _)⟩)
    dsimp only [Pt.U, Pt.locs, Pt.cells, Pt.slots] at X317 l317 y317 z317 st317 hQ317
    subst l317 y317 z317
    obtain ⟨v317, N317q, K317q⟩ := hQ317
    have w317 : (fn1n Z (a_BOOL Z)) = (a_BOOL Z) := rfl
    rw [w317] at v317
    subst v317
    have N317 := Fr.app N316 N317q
    have O317 := O316.keep K317q all0
    have Kc317 := Kc316.trans K317q all0
    obtain ⟨cq318, kq318, q318a, q318b, q318c⟩ := isOf hZ rfl ((e_a_BOOL hS).ext O317.2)
    obtain ⟨_, _, ⟨T318, L318, k318, n318⟩, -, X318, ⟨Lc318, hQ318, l318, y318, z318⟩, st318⟩ := X317.virtualBack hx (y := (⟨"com/example/menshen/menshen/policy/ConditionOperator", "literals", "()Lcom/example/menshen/menshen/policy/ConditionOperator$Literals;"⟩ : MethodName)) (z := (⟨"com/example/menshen/menshen/policy/ConditionOperator", "literals", "()Lcom/example/menshen/menshen/policy/ConditionOperator$Literals;"⟩ : MethodName)) hown (mvT hZ (hw _ (List.mem_of_getElem? (i := 63) rfl))) (mvT hZ (hw _ (List.mem_of_getElem? (i := 64) rfl))) (notFace_of_selects (args := #[]) (mvT hZ (hw _ (List.mem_of_getElem? (i := 66) rfl)))) (mvT hZ (hw _ (List.mem_of_getElem? (i := 66) rfl))) (mvT hZ (hw _ (List.mem_of_getElem? (i := 65) rfl))) (by decide) (backOf (W := 0) (rm3 l Z a0 hw hS [] (a_BOOL Z) (a_BOOLEANS Z) T317.heap n0 O317 ((f_a_BOOL_literals hS).ext O317.2)) hZ (hw _ (List.mem_of_getElem? (i := 67) rfl)) (hw _ (List.mem_of_getElem? (i := 3) rfl)) (by decide) (by decide)) q318a q318c (g := (mkF m 376 #[oI p0, oR b7, oR b54, oI (21 : Int32), oR (a_BOOL Z), oR (a_BOOL Z)] [(.ref (a_BOOL Z))])) rfl (by rw [hml]; rfl) (Steps.refl _) (argsL := []) (rest := []) (lenOf pd_2 rfl) rfl (by show 2 * 0 + _ ≤ _; exact Nat.le_of_eq rfl) (hb hby at_376) (fun _ _ => ⟨rfl, rfl, (by decide : 2 + 0 ≤ _), (by decide : 46 + 0 ≤ _)⟩)
    dsimp only [Pt.U, Pt.locs, Pt.cells, Pt.slots] at X318 l318 y318 z318 st318 hQ318
    subst l318 y318 z318
    obtain ⟨v318, N318q, K318q⟩ := hQ318
    have w318 : (fn3 Z (a_BOOL Z) (a_BOOLEANS Z)) = (a_BOOLEANS Z) := rfl
    rw [w318] at v318
    subst v318
    have N318 := Fr.app N317 N318q
    have O318 := O317.keep K318q all0
    have Kc318 := Kc317.trans K318q all0
    obtain ⟨cq319, kq319, q319a, q319b, q319c⟩ := isOf hZ rfl ((e_a_BOOL hS).ext O318.2)
    obtain ⟨_, _, ⟨T319, L319, k319, n319⟩, -, X319, ⟨Lc319, hQ319, l319, y319, z319⟩, st319⟩ := X318.virtualBack hx (y := (⟨"com/example/menshen/menshen/policy/ConditionOperator", "literals", "()Lcom/example/menshen/menshen/policy/ConditionOperator$Literals;"⟩ : MethodName)) (z := (⟨"com/example/menshen/menshen/policy/ConditionOperator", "literals", "()Lcom/example/menshen/menshen/policy/ConditionOperator$Literals;"⟩ : MethodName)) hown (mvT hZ (hw _ (List.mem_of_getElem? (i := 63) rfl))) (mvT hZ (hw _ (List.mem_of_getElem? (i := 64) rfl))) (notFace_of_selects (args := #[]) (mvT hZ (hw _ (List.mem_of_getElem? (i := 66) rfl)))) (mvT hZ (hw _ (List.mem_of_getElem? (i := 66) rfl))) (mvT hZ (hw _ (List.mem_of_getElem? (i := 65) rfl))) (by decide) (backOf (W := 1) (rm3 l Z a0 hw hS [] (a_BOOL Z) (a_BOOLEANS Z) T318.heap n0 O318 ((f_a_BOOL_literals hS).ext O318.2)) hZ (hw _ (List.mem_of_getElem? (i := 67) rfl)) (hw _ (List.mem_of_getElem? (i := 3) rfl)) (by decide) (by decide)) q319a q319c (g := (mkF m 381 #[oI p0, oR b7, oR b54, oI (21 : Int32), oR (a_BOOL Z), oR (a_BOOL Z)] [(.ref (a_BOOL Z)), (.ref (a_BOOLEANS Z))])) rfl (by rw [hml]; rfl) (Steps.refl _) (argsL := []) (rest := [(.ref (a_BOOLEANS Z))]) (lenOf pd_2 rfl) rfl (by show 2 * 0 + _ ≤ _; exact Nat.le_of_eq rfl) (hb hby at_381) (fun _ _ => ⟨rfl, rfl, (by decide : 2 + 0 ≤ _), (by decide : 46 + 0 ≤ _)⟩)
    dsimp only [Pt.U, Pt.locs, Pt.cells, Pt.slots] at X319 l319 y319 z319 st319 hQ319
    subst l319 y319 z319
    obtain ⟨v319, N319q, K319q⟩ := hQ319
    have w319 : (fn3 Z (a_BOOL Z) (a_BOOLEANS Z)) = (a_BOOLEANS Z) := rfl
    rw [w319] at v319
    subst v319
    have N319 := Fr.app N318 N319q
    have O319 := O318.keep K319q all0
    have Kc319 := Kc318.trans K319q all0
    obtain ⟨lo320, X320, N320⟩ := own_hide X319 N319
    obtain ⟨cq321, kq321, q321a, q321b, q321c⟩ := isOf hZ rfl ((e_a_BOOL hS).ext O319.2)
    obtain ⟨_, _, ⟨T321, L321, k321, n321⟩, -, X321, ⟨Lc321, hQ321, l321, y321, z321⟩, st321⟩ := X320.virtualBack hx (y := (⟨"com/example/menshen/menshen/policy/ConditionOperator", "isNegated", "()Z"⟩ : MethodName)) (z := (⟨"com/example/menshen/menshen/policy/ConditionOperator", "isNegated", "()Z"⟩ : MethodName)) hown (mvT hZ (hw _ (List.mem_of_getElem? (i := 58) rfl))) (mvT hZ (hw _ (List.mem_of_getElem? (i := 59) rfl))) (notFace_of_selects (args := #[]) (mvT hZ (hw _ (List.mem_of_getElem? (i := 61) rfl)))) (mvT hZ (hw _ (List.mem_of_getElem? (i := 61) rfl))) (mvT hZ (hw _ (List.mem_of_getElem? (i := 60) rfl))) (by decide) (backOf (W := 0) (rm2n l Z a0 hw hS [] (a_BOOL Z) T319.heap n0 O319 ((f_a_BOOL_negationOf hS).ext O319.2)) hZ (hw _ (List.mem_of_getElem? (i := 62) rfl)) (hw _ (List.mem_of_getElem? (i := 3) rfl)) (by decide) (by decide)) q321a q321c (g := (mkF m 391 #[oI p0, oR b7, oR b54, oI (21 : Int32), oR (a_BOOL Z), oR (a_BOOL Z)] [(.ref (a_BOOL Z))])) rfl (by rw [hml]; rfl) (Steps.refl _) (argsL := []) (rest := []) (lenOf pd_1 rfl) rfl (by show 2 * 0 + _ ≤ _; exact Nat.le_of_eq rfl) (hb hby at_391) (fun _ _ => ⟨rfl, rfl, (by decide : 2 + 0 ≤ _), (by decide : 46 + 0 ≤ _)⟩)
    dsimp only [Pt.U, Pt.locs, Pt.cells, Pt.slots] at X321 l321 y321 z321 st321 hQ321
    subst l321 y321 z321
    obtain ⟨v321, N321q, K321q⟩ := hQ321
    have w321 : (fn2n Z (a_BOOL Z)) = (0 : Int32) := rfl
    rw [w321] at v321
    subst v321
    have N321 := Fr.app N320 N321q
    have O321 := O319.keep K321q all0
    have Kc321 := Kc319.trans K321q all0
    obtain ⟨fs, hr, hrun, hended, hW, hsame⟩ := X321.leave (v := some (.int (1 : Int32))) (fun h => by rw [Bd.returns] at h; cases h)
    refine ⟨_, _, pre101 _ ?_, hrun, hended, _, _, rfl, ?_, ⟨_, rfl⟩, hW, hsame.mono (by decide) (by decide)⟩
    · show oP p e below T100 (mkF m 329 #[oI p0, oR b7, oR b54, oU, oU, oU] [(.int (21 : Int32))]) _
      refine XS.istoreN X100.here hx rfl (hb hby at_329) rfl (l' := #[oI p0, oR b7, oR b54, oI (21 : Int32), oU, oU]) rfl ?_
      show oP p e below T100 (mkF m 330 #[oI p0, oR b7, oR b54, oI (21 : Int32), oU, oU] []) _
      refine XS.aloadN X100.here hx rfl (hb hby at_330) rfl rfl ?_
      show oP p e below T100 (mkF m 331 #[oI p0, oR b7, oR b54, oI (21 : Int32), oU, oU] [(.ref b7)]) _
      refine XS.iloadN X100.here hx rfl (hb hby at_331) rfl ?_
      show oP p e below T100 (mkF m 332 #[oI p0, oR b7, oR b54, oI (21 : Int32), oU, oU] [(.int (21 : Int32)), (.ref b7)]) _
      refine own_aaload X100 hx hZ e100 fx312 rfl (j := (21 : Int32)) ⟨by decide, by decide⟩ (v := (.ref (a_BOOL Z))) rfl (g := (mkF m 332 #[oI p0, oR b7, oR b54, oI (21 : Int32), oU, oU] [(.int (21 : Int32)), (.ref b7)])) rfl rfl (hb hby at_332) _ ?_
      show oP p e below T100 (mkF m 333 #[oI p0, oR b7, oR b54, oI (21 : Int32), oU, oU] [(.ref (a_BOOL Z))]) _
      refine XS.astore X100.here hx rfl (hb hby at_333) rfl rfl (l' := #[oI p0, oR b7, oR b54, oI (21 : Int32), oR (a_BOOL Z), oU]) rfl ?_
      show oP p e below T100 (mkF m 335 #[oI p0, oR b7, oR b54, oI (21 : Int32), oR (a_BOOL Z), oU] []) _
      refine XS.aload X100.here hx rfl (hb hby at_335) rfl rfl ?_
      show oP p e below T100 (mkF m 337 #[oI p0, oR b7, oR b54, oI (21 : Int32), oR (a_BOOL Z), oU] [(.ref (a_BOOL Z))]) _
      refine st314.trans ?_
      show oP p e below T314 (mkF m 340 #[oI p0, oR b7, oR b54, oI (21 : Int32), oR (a_BOOL Z), oU] [(.ref (a_BOOL Z))]) _
      refine XS.astore X314.here hx rfl (hb hby at_340) rfl rfl (l' := #[oI p0, oR b7, oR b54, oI (21 : Int32), oR (a_BOOL Z), oR (a_BOOL Z)]) rfl ?_
      show oP p e below T314 (mkF m 342 #[oI p0, oR b7, oR b54, oI (21 : Int32), oR (a_BOOL Z), oR (a_BOOL Z)] []) _
      refine XS.aload X314.here hx rfl (hb hby at_342) rfl rfl ?_
      show oP p e below T314 (mkF m 344 #[oI p0, oR b7, oR b54, oI (21 : Int32), oR (a_BOOL Z), oR (a_BOOL Z)] [(.ref (a_BOOL Z))]) _
      refine XS.aloadN X314.here hx rfl (hb hby at_344) rfl rfl ?_
      show oP p e below T314 (mkF m 345 #[oI p0, oR b7, oR b54, oI (21 : Int32), oR (a_BOOL Z), oR (a_BOOL Z)] [(.ref b54), (.ref (a_BOOL Z))]) _
      refine XS.iloadN X314.here hx rfl (hb hby at_345) rfl ?_
      show oP p e below T314 (mkF m 346 #[oI p0, oR b7, oR b54, oI (21 : Int32), oR (a_BOOL Z), oR (a_BOOL Z)] [(.int (21 : Int32)), (.ref b54), (.ref (a_BOOL Z))]) _
      refine own_aaload X314 hx hZ rfl fx315 rfl (j := (21 : Int32)) ⟨by decide, by decide⟩ (v := (.ref (a_BOOL Z))) rfl (g := (mkF m 346 #[oI p0, oR b7, oR b54, oI (21 : Int32), oR (a_BOOL Z), oR (a_BOOL Z)] [(.int (21 : Int32)), (.ref b54), (.ref (a_BOOL Z))])) rfl rfl (hb hby at_346) _ ?_
      show oP p e below T314 (mkF m 347 #[oI p0, oR b7, oR b54, oI (21 : Int32), oR (a_BOOL Z), oR (a_BOOL Z)] [(.ref (a_BOOL Z)), (.ref (a_BOOL Z))]) _
      refine Jvm.RoadKit.acmp (g := (mkF m 347 #[oI p0, oR b7, oR b54, oI (21 : Int32), oR (a_BOOL Z), oR (a_BOOL Z)] [(.ref (a_BOOL Z)), (.ref (a_BOOL Z))])) X314 hx rfl rfl rfl (pc0 := 347) (pc' := 352) (same := true) rfl (hb hby at_347) rfl (decide_eq_true (congrArg Value.ref (rfl : (a_BOOL Z) = (a_BOOL Z)))) (by decide) (by decide) ?_
      show oP p e below T314 (mkF m 352 #[oI p0, oR b7, oR b54, oI (21 : Int32), oR (a_BOOL Z), oR (a_BOOL Z)] []) _
      refine XS.aload X314.here hx rfl (hb hby at_352) rfl rfl ?_
      show oP p e below T314 (mkF m 354 #[oI p0, oR b7, oR b54, oI (21 : Int32), oR (a_BOOL Z), oR (a_BOOL Z)] [(.ref (a_BOOL Z))]) _
      refine st316.trans ?_
      show oP p e below T316 (mkF m 357 #[oI p0, oR b7, oR b54, oI (21 : Int32), oR (a_BOOL Z), oR (a_BOOL Z)] [(.int (0 : Int32))]) _
      refine XS.ifYes X316.here hx rfl (pc0 := 357) (pc' := 362) rfl (hb hby at_357) rfl ((if0 _ _).trans (teq (by decide : (0 : Int32) = (0 : Int32))).1) (by decide) (by decide) ?_
      show oP p e below T316 (mkF m 362 #[oI p0, oR b7, oR b54, oI (21 : Int32), oR (a_BOOL Z), oR (a_BOOL Z)] []) _
      refine XS.aload X316.here hx rfl (hb hby at_362) rfl rfl ?_
      show oP p e below T316 (mkF m 364 #[oI p0, oR b7, oR b54, oI (21 : Int32), oR (a_BOOL Z), oR (a_BOOL Z)] [(.ref (a_BOOL Z))]) _
      refine st317.trans ?_
      show oP p e below T317 (mkF m 367 #[oI p0, oR b7, oR b54, oI (21 : Int32), oR (a_BOOL Z), oR (a_BOOL Z)] [(.ref (a_BOOL Z))]) _
      refine XS.aload X317.here hx rfl (hb hby at_367) rfl rfl ?_
      show oP p e below T317 (mkF m 369 #[oI p0, oR b7, oR b54, oI (21 : Int32), oR (a_BOOL Z), oR (a_BOOL Z)] [(.ref (a_BOOL Z)), (.ref (a_BOOL Z))]) _
      refine Jvm.RoadKit.acmp (g := (mkF m 369 #[oI p0, oR b7, oR b54, oI (21 : Int32), oR (a_BOOL Z), oR (a_BOOL Z)] [(.ref (a_BOOL Z)), (.ref (a_BOOL Z))])) X317 hx rfl rfl rfl (pc0 := 369) (pc' := 374) (same := true) rfl (hb hby at_369) rfl (decide_eq_true (congrArg Value.ref (rfl : (a_BOOL Z) = (a_BOOL Z)))) (by decide) (by decide) ?_
      show oP p e below T317 (mkF m 374 #[oI p0, oR b7, oR b54, oI (21 : Int32), oR (a_BOOL Z), oR (a_BOOL Z)] []) _
      refine XS.aload X317.here hx rfl (hb hby at_374) rfl rfl ?_
      show oP p e below T317 (mkF m 376 #[oI p0, oR b7, oR b54, oI (21 : Int32), oR (a_BOOL Z), oR (a_BOOL Z)] [(.ref (a_BOOL Z))]) _
      refine st318.trans ?_
      show oP p e below T318 (mkF m 379 #[oI p0, oR b7, oR b54, oI (21 : Int32), oR (a_BOOL Z), oR (a_BOOL Z)] [(.ref (a_BOOLEANS Z))]) _
      refine XS.aload X318.here hx rfl (hb hby at_379) rfl rfl ?_
      show oP p e below T318 (mkF m 381 #[oI p0, oR b7, oR b54, oI (21 : Int32), oR (a_BOOL Z), oR (a_BOOL Z)] [(.ref (a_BOOL Z)), (.ref (a_BOOLEANS Z))]) _
      refine st319.trans ?_
      show oP p e below T319 (mkF m 384 #[oI p0, oR b7, oR b54, oI (21 : Int32), oR (a_BOOL Z), oR (a_BOOL Z)] [(.ref (a_BOOLEANS Z)), (.ref (a_BOOLEANS Z))]) _
      refine Jvm.RoadKit.acmp (g := (mkF m 384 #[oI p0, oR b7, oR b54, oI (21 : Int32), oR (a_BOOL Z), oR (a_BOOL Z)] [(.ref (a_BOOLEANS Z)), (.ref (a_BOOLEANS Z))])) X319 hx rfl rfl rfl (pc0 := 384) (pc' := 389) (same := true) rfl (hb hby at_384) rfl (decide_eq_true (congrArg Value.ref (rfl : (a_BOOLEANS Z) = (a_BOOLEANS Z)))) (by decide) (by decide) ?_
      show oP p e below T319 (mkF m 389 #[oI p0, oR b7, oR b54, oI (21 : Int32), oR (a_BOOL Z), oR (a_BOOL Z)] []) _
      refine XS.aload X319.here hx rfl (hb hby at_389) rfl rfl ?_
      show oP p e below T319 (mkF m 391 #[oI p0, oR b7, oR b54, oI (21 : Int32), oR (a_BOOL Z), oR (a_BOOL Z)] [(.ref (a_BOOL Z))]) _
      refine st321.trans ?_
      show oP p e below T321 (mkF m 394 #[oI p0, oR b7, oR b54, oI (21 : Int32), oR (a_BOOL Z), oR (a_BOOL Z)] [(.int (0 : Int32))]) _
      refine XS.aload X321.here hx rfl (hb hby at_394) rfl rfl ?_
      show oP p e below T321 (mkF m 396 #[oI p0, oR b7, oR b54, oI (21 : Int32), oR (a_BOOL Z), oR (a_BOOL Z)] [(.ref (a_BOOL Z)), (.int (0 : Int32))]) _
      refine XS.aload X321.here hx rfl (hb hby at_396) rfl rfl ?_
      show oP p e below T321 (mkF m 398 #[oI p0, oR b7, oR b54, oI (21 : Int32), oR (a_BOOL Z), oR (a_BOOL Z)] [(.ref (a_BOOL Z)), (.ref (a_BOOL Z)), (.int (0 : Int32))]) _
      refine Jvm.RoadKit.acmp (g := (mkF m 398 #[oI p0, oR b7, oR b54, oI (21 : Int32), oR (a_BOOL Z), oR (a_BOOL Z)] [(.ref (a_BOOL Z)), (.ref (a_BOOL Z)), (.int (0 : Int32))])) X321 hx rfl rfl rfl (pc0 := 398) (pc' := 405) (same := true) rfl (hb hby at_398) rfl (decide_eq_true (congrArg Value.ref (rfl : (a_BOOL Z) = (a_BOOL Z)))) (by decide) (by decide) ?_
      show oP p e below T321 (mkF m 405 #[oI p0, oR b7, oR b54, oI (21 : Int32), oR (a_BOOL Z), oR (a_BOOL Z)] [(.int (0 : Int32))]) _
      refine XS.iconst X321.here hx rfl (hb hby at_405) ?_
      show oP p e below T321 (mkF m 406 #[oI p0, oR b7, oR b54, oI (21 : Int32), oR (a_BOOL Z), oR (a_BOOL Z)] [(.int (0 : Int32)), (.int (0 : Int32))]) _
      refine XS.icmpNo X321.here hx rfl (hb hby at_406) rfl (teq (by decide : (0 : Int32) = (0 : Int32))).2 ?_
      show oP p e below T321 (mkF m 409 #[oI p0, oR b7, oR b54, oI (21 : Int32), oR (a_BOOL Z), oR (a_BOOL Z)] []) _
      refine XS.iconst X321.here hx rfl (hb hby at_409) ?_
      show oP p e below T321 (mkF m 410 #[oI p0, oR b7, oR b54, oI (21 : Int32), oR (a_BOOL Z), oR (a_BOOL Z)] [(.int (1 : Int32))]) _
      refine XS.goto X321.here hx rfl (pc0 := 410) (pc' := 414) rfl (hb hby at_410) (by decide) (by decide) ?_
      show oP p e below T321 (mkF m 414 #[oI p0, oR b7, oR b54, oI (21 : Int32), oR (a_BOOL Z), oR (a_BOOL Z)] [(.int (1 : Int32))]) _
      exact retN X321 hx (t := .boolean) Bd.returns (by simp) (hb hby at_414) hr
    · show (some (.int (1 : Int32)) : Option Value) = some (.int (1 : Int32)) ∧ Fr n0 _ ∧ Keep h0 T321.heap []
      exact ⟨rfl, N321, Kc321⟩
  · have fx322 := ((((((((((((((((((((((((V53.ext E54).other W56 ne_b7_b54).other W58 ne_b7_b54).other W60 ne_b7_b54).other W62 ne_b7_b54).other W64 ne_b7_b54).other W66 ne_b7_b54).other W68 ne_b7_b54).other W70 ne_b7_b54).other W72 ne_b7_b54).other W74 ne_b7_b54).other W76 ne_b7_b54).other W78 ne_b7_b54).other W80 ne_b7_b54).other W82 ne_b7_b54).other W84 ne_b7_b54).other W86 ne_b7_b54).other W88 ne_b7_b54).other W90 ne_b7_b54).other W92 ne_b7_b54).other W94 ne_b7_b54).other W96 ne_b7_b54).other W98 ne_b7_b54).other W100 ne_b7_b54)
    obtain ⟨lo323, X323, N323⟩ := own_hide X100 N100
    obtain ⟨cq324, kq324, q324a, q324b, q324c⟩ := isOf hZ e100 ((e_a_NULL hS).ext O100.2)
    obtain ⟨_, _, ⟨T324, L324, k324, n324⟩, -, X324, ⟨Lc324, hQ324, l324, y324, z324⟩, st324⟩ := X323.virtualBack hx (y := (⟨"com/example/menshen/menshen/policy/ConditionOperator", "positive", "()Lcom/example/menshen/menshen/policy/ConditionOperator;"⟩ : MethodName)) (z := (⟨"com/example/menshen/menshen/policy/ConditionOperator", "positive", "()Lcom/example/menshen/menshen/policy/ConditionOperator;"⟩ : MethodName)) hown (mvT hZ (hw _ (List.mem_of_getElem? (i := 51) rfl))) (mvT hZ (hw _ (List.mem_of_getElem? (i := 52) rfl))) (notFace_of_selects (args := #[]) (mvT hZ (hw _ (List.mem_of_getElem? (i := 54) rfl)))) (mvT hZ (hw _ (List.mem_of_getElem? (i := 54) rfl))) (mvT hZ (hw _ (List.mem_of_getElem? (i := 53) rfl))) (by decide) (backOf (W := 0) (rm1n l Z a0 hw hS [] (a_NULL Z) h100 n0 O100 ((f_a_NULL_negationOf hS).ext O100.2)) hZ (hw _ (List.mem_of_getElem? (i := 55) rfl)) (hw _ (List.mem_of_getElem? (i := 3) rfl)) (by decide) (by decide)) q324a q324c (g := (mkF m 337 #[oI p0, oR b7, oR b54, oI (22 : Int32), oR (a_NULL Z), oU] [(.ref (a_NULL Z))])) rfl (by rw [hml]; rfl) (Steps.refl _) (argsL := []) (rest := []) (lenOf pd_0 rfl) rfl (by show 2 * 0 + _ ≤ _; exact Nat.le_of_eq rfl) (hb hby at_337) (fun _ _ => ⟨rfl, e100, (by decide : 2 + 0 ≤ _), (by decide : 46 + 0 ≤ _)⟩)
    dsimp only [Pt.U, Pt.locs, Pt.cells, Pt.slots] at X324 l324 y324 z324 st324 hQ324
    subst l324 y324 z324
    obtain ⟨v324, N324q, K324q⟩ := hQ324
    have w324 : (fn1n Z (a_NULL Z)) = (a_NULL Z) := rfl
    rw [w324] at v324
    subst v324
    have N324 := Fr.app N323 N324q
    have O324 := O100.keep K324q all0
    have Kc324 := Kc100.trans K324q all0
    have fx325 := (V100.keep K324q nin0)
    obtain ⟨cq326, kq326, q326a, q326b, q326c⟩ := isOf hZ rfl ((e_a_NULL hS).ext O324.2)
    obtain ⟨_, _, ⟨T326, L326, k326, n326⟩, -, X326, ⟨Lc326, hQ326, l326, y326, z326⟩, st326⟩ := X324.virtualBack hx (y := (⟨"com/example/menshen/menshen/policy/ConditionOperator", "isNegated", "()Z"⟩ : MethodName)) (z := (⟨"com/example/menshen/menshen/policy/ConditionOperator", "isNegated", "()Z"⟩ : MethodName)) hown (mvT hZ (hw _ (List.mem_of_getElem? (i := 58) rfl))) (mvT hZ (hw _ (List.mem_of_getElem? (i := 59) rfl))) (notFace_of_selects (args := #[]) (mvT hZ (hw _ (List.mem_of_getElem? (i := 61) rfl)))) (mvT hZ (hw _ (List.mem_of_getElem? (i := 61) rfl))) (mvT hZ (hw _ (List.mem_of_getElem? (i := 60) rfl))) (by decide) (backOf (W := 0) (rm2n l Z a0 hw hS [] (a_NULL Z) T324.heap n0 O324 ((f_a_NULL_negationOf hS).ext O324.2)) hZ (hw _ (List.mem_of_getElem? (i := 62) rfl)) (hw _ (List.mem_of_getElem? (i := 3) rfl)) (by decide) (by decide)) q326a q326c (g := (mkF m 354 #[oI p0, oR b7, oR b54, oI (22 : Int32), oR (a_NULL Z), oR (a_NULL Z)] [(.ref (a_NULL Z))])) rfl (by rw [hml]; rfl) (Steps.refl _) (argsL := []) (rest := []) (lenOf pd_1 rfl) rfl (by show 2 * 0 + _ ≤ _; exact Nat.le_of_eq rfl) (hb hby at_354) (fun _ _ => ⟨rfl, rfl, (by decide : 2 + 0 ≤ _), (by decide : 46 + 0 ≤ _)⟩)
    dsimp only [Pt.U, Pt.locs, Pt.cells, Pt.slots] at X326 l326 y326 z326 st326 hQ326
    subst l326 y326 z326
    obtain ⟨v326, N326q, K326q⟩ := hQ326
    have w326 : (fn2n Z (a_NULL Z)) = (0 : Int32) := rfl
    rw [w326] at v326
    subst v326
    have N326 := Fr.app N324 N326q
    have O326 := O324.keep K326q all0
    have Kc326 := Kc324.trans K326q all0
    obtain ⟨cq327, kq327, q327a, q327b, q327c⟩ := isOf hZ rfl ((e_a_NULL hS).ext O326.2)
    obtain ⟨_, _, ⟨T327, L327, k327, n327⟩, -, X327, ⟨Lc327, hQ327, l327, y327, z327⟩, st327⟩ := X326.virtualBack hx (y := (⟨"com/example/menshen/menshen/policy/ConditionOperator", "positive", "()Lcom/example/menshen/menshen/policy/ConditionOperator;"⟩ : MethodName)) (z := (⟨"com/example/menshen/menshen/policy/ConditionOperator", "positive", "()Lcom/example/menshen/menshen/policy/ConditionOperator;"⟩ : MethodName)) hown (mvT hZ (hw _ (List.mem_of_getElem? (i := 51) rfl))) (mvT hZ (hw _ (List.mem_of_getElem? (i := 52) rfl))) (notFace_of_selects (args := #[]) (mvT hZ (hw _ (List.mem_of_getElem? (i := 54) rfl)))) (mvT hZ (hw _ (List.mem_of_getElem? (i := 54) rfl))) (mvT hZ (hw _ (List.mem_of_getElem? (i := 53) rfl))) (by decide) (backOf (W := 0) (rm1n l Z a0 hw hS [] (a_NULL Z) T326.heap n0 O326 ((f_a_NULL_negationOf hS).ext O326.2)) hZ (hw _ (List.mem_of_getElem? (i := 55) rfl)) (hw _ (List.mem_of_getElem? (i := 3) rfl)) (by decide) (by decide)) q327a q327c (g := (mkF m 364 #[oI p0, oR b7, oR b54, oI (22 : Int32), oR (a_NULL Z), oR (a_NULL Z)] [(.ref (a_NULL Z))])) rfl (by rw [hml]; rfl) (Steps.refl _) (argsL := []) (rest := []) (lenOf pd_0 rfl) rfl (by show 2 * 0 + _ ≤ _; exact Nat.le_of_eq rfl) (hb hby at_364) (fun _ _ => ⟨rfl, rfl, (by decide : 2 + 0 ≤ _), (by decide : 46 + 0 ≤ _)⟩)
    dsimp only [Pt.U, Pt.locs, Pt.cells, Pt.slots] at X327 l327 y327 z327 st327 hQ327
    subst l327 y327 z327
    obtain ⟨v327, N327q, K327q⟩ := hQ327
    have w327 : (fn1n Z (a_NULL Z)) = (a_NULL Z) := rfl
    rw [w327] at v327
    subst v327
    have N327 := Fr.app N326 N327q
    have O327 := O326.keep K327q all0
    have Kc327 := Kc326.trans K327q all0
    obtain ⟨cq328, kq328, q328a, q328b, q328c⟩ := isOf hZ rfl ((e_a_NULL hS).ext O327.2)
    obtain ⟨_, _, ⟨T328, L328, k328, n328⟩, -, X328, ⟨Lc328, hQ328, l328, y328, z328⟩, st328⟩ := X327.virtualBack hx (y := (⟨"com/example/menshen/menshen/policy/ConditionOperator", "literals", "()Lcom/example/menshen/menshen/policy/ConditionOperator$Literals;"⟩ : MethodName)) (z := (⟨"com/example/menshen/menshen/policy/ConditionOperator", "literals", "()Lcom/example/menshen/menshen/policy/ConditionOperator$Literals;"⟩ : MethodName)) hown (mvT hZ (hw _ (List.mem_of_getElem? (i := 63) rfl))) (mvT hZ (hw _ (List.mem_of_getElem? (i := 64) rfl))) (notFace_of_selects (args := #[]) (mvT hZ (hw _ (List.mem_of_getElem? (i := 66) rfl)))) (mvT hZ (hw _ (List.mem_of_getElem? (i := 66) rfl))) (mvT hZ (hw _ (List.mem_of_getElem? (i := 65) rfl))) (by decide) (backOf (W := 0) (rm3 l Z a0 hw hS [] (a_NULL Z) (a_BOOLEANS Z) T327.heap n0 O327 ((f_a_NULL_literals hS).ext O327.2)) hZ (hw _ (List.mem_of_getElem? (i := 67) rfl)) (hw _ (List.mem_of_getElem? (i := 3) rfl)) (by decide) (by decide)) q328a q328c (g := (mkF m 376 #[oI p0, oR b7, oR b54, oI (22 : Int32), oR (a_NULL Z), oR (a_NULL Z)] [(.ref (a_NULL Z))])) rfl (by rw [hml]; rfl) (Steps.refl _) (argsL := []) (rest := []) (lenOf pd_2 rfl) rfl (by show 2 * 0 + _ ≤ _; exact Nat.le_of_eq rfl) (hb hby at_376) (fun _ _ => ⟨rfl, rfl, (by decide : 2 + 0 ≤ _), (by decide : 46 + 0 ≤ _)⟩)
    dsimp only [Pt.U, Pt.locs, Pt.cells, Pt.slots] at X328 l328 y328 z328 st328 hQ328
    subst l328 y328 z328
    obtain ⟨v328, N328q, K328q⟩ := hQ328
    have w328 : (fn3 Z (a_NULL Z) (a_BOOLEANS Z)) = (a_BOOLEANS Z) := rfl
    rw [w328] at v328
    subst v328
    have N328 := Fr.app N327 N328q
    have O328 := O327.keep K328q all0
    have Kc328 := Kc327.trans K328q all0
    obtain ⟨cq329, kq329, q329a, q329b, q329c⟩ := isOf hZ rfl ((e_a_NULL hS).ext O328.2)
    obtain ⟨_, _, ⟨T329, L329, k329, n329⟩, -, X329, ⟨Lc329, hQ329, l329, y329, z329⟩, st329⟩ := X328.virtualBack hx (y := (⟨"com/example/menshen/menshen/policy/ConditionOperator", "literals", "()Lcom/example/menshen/menshen/policy/ConditionOperator$Literals;"⟩ : MethodName)) (z := (⟨"com/example/menshen/menshen/policy/ConditionOperator", "literals", "()Lcom/example/menshen/menshen/policy/ConditionOperator$Literals;"⟩ : MethodName)) hown (mvT hZ (hw _ (List.mem_of_getElem? (i := 63) rfl))) (mvT hZ (hw _ (List.mem_of_getElem? (i := 64) rfl))) (notFace_of_selects (args := #[]) (mvT hZ (hw _ (List.mem_of_getElem? (i := 66) rfl)))) (mvT hZ (hw _ (List.mem_of_getElem? (i := 66) rfl))) (mvT hZ (hw _ (List.mem_of_getElem? (i := 65) rfl))) (by decide) (backOf (W := 1) (rm3 l Z a0 hw hS [] (a_NULL Z) (a_BOOLEANS Z) T328.heap n0 O328 ((f_a_NULL_literals hS).ext O328.2)) hZ (hw _ (List.mem_of_getElem? (i := 67) rfl)) (hw _ (List.mem_of_getElem? (i := 3) rfl)) (by decide) (by decide)) q329a q329c (g := (mkF m 381 #[oI p0, oR b7, oR b54, oI (22 : Int32), oR (a_NULL Z), oR (a_NULL Z)] [(.ref (a_NULL Z)), (.ref (a_BOOLEANS Z))])) rfl (by rw [hml]; rfl) (Steps.refl _) (argsL := []) (rest := [(.ref (a_BOOLEANS Z))]) (lenOf pd_2 rfl) rfl (by show 2 * 0 + _ ≤ _; exact Nat.le_of_eq rfl) (hb hby at_381) (fun _ _ => ⟨rfl, rfl, (by decide : 2 + 0 ≤ _), (by decide : 46 + 0 ≤ _)⟩)
    dsimp only [Pt.U, Pt.locs, Pt.cells, Pt.slots] at X329 l329 y329 z329 st329 hQ329
    subst l329 y329 z329
    obtain ⟨v329, N329q, K329q⟩ := hQ329
    have w329 : (fn3 Z (a_NULL Z) (a_BOOLEANS Z)) = (a_BOOLEANS Z) := rfl
    rw [w329] at v329
    subst v329
    have N329 := Fr.app N328 N329q
    have O329 := O328.keep K329q all0
    have Kc329 := Kc328.trans K329q all0
    obtain ⟨lo330, X330, N330⟩ := own_hide X329 N329
    obtain ⟨cq331, kq331, q331a, q331b, q331c⟩ := isOf hZ rfl ((e_a_NULL hS).ext O329.2)
    obtain ⟨_, _, ⟨T331, L331, k331, n331⟩, -, X331, ⟨Lc331, hQ331, l331, y331, z331⟩, st331⟩ := X330.virtualBack hx (y := (⟨"com/example/menshen/menshen/policy/ConditionOperator", "isNegated", "()Z"⟩ : MethodName)) (z := (⟨"com/example/menshen/menshen/policy/ConditionOperator", "isNegated", "()Z"⟩ : MethodName)) hown (mvT hZ (hw _ (List.mem_of_getElem? (i := 58) rfl))) (mvT hZ (hw _ (List.mem_of_getElem? (i := 59) rfl))) (notFace_of_selects (args := #[]) (mvT hZ (hw _ (List.mem_of_getElem? (i := 61) rfl)))) (mvT hZ (hw _ (List.mem_of_getElem? (i := 61) rfl))) (mvT hZ (hw _ (List.mem_of_getElem? (i := 60) rfl))) (by decide) (backOf (W := 0) (rm2n l Z a0 hw hS [] (a_NULL Z) T329.heap n0 O329 ((f_a_NULL_negationOf hS).ext O329.2)) hZ (hw _ (List.mem_of_getElem? (i := 62) rfl)) (hw _ (List.mem_of_getElem? (i := 3) rfl)) (by decide) (by decide)) q331a q331c (g := (mkF m 391 #[oI p0, oR b7, oR b54, oI (22 : Int32), oR (a_NULL Z), oR (a_NULL Z)] [(.ref (a_NULL Z))])) rfl (by rw [hml]; rfl) (Steps.refl _) (argsL := []) (rest := []) (lenOf pd_1 rfl) rfl (by show 2 * 0 + _ ≤ _; exact Nat.le_of_eq rfl) (hb hby at_391) (fun _ _ => ⟨rfl, rfl, (by decide : 2 + 0 ≤ _), (by decide : 46 + 0 ≤ _)⟩)
    dsimp only [Pt.U, Pt.locs, Pt.cells, Pt.slots] at X331 l331 y331 z331 st331 hQ331
    subst l331 y331 z331
    obtain ⟨v331, N331q, K331q⟩ := hQ331
    have w331 : (fn2n Z (a_NULL Z)) = (0 : Int32) := rfl
    rw [w331] at v331
    subst v331
    have N331 := Fr.app N330 N331q
    have O331 := O329.keep K331q all0
    have Kc331 := Kc329.trans K331q all0
    obtain ⟨fs, hr, hrun, hended, hW, hsame⟩ := X331.leave (v := some (.int (1 : Int32))) (fun h => by rw [Bd.returns] at h; cases h)
    refine ⟨_, _, pre101 _ ?_, hrun, hended, _, _, rfl, ?_, ⟨_, rfl⟩, hW, hsame.mono (by decide) (by decide)⟩
    · show oP p e below T100 (mkF m 329 #[oI p0, oR b7, oR b54, oU, oU, oU] [(.int (22 : Int32))]) _
      refine XS.istoreN X100.here hx rfl (hb hby at_329) rfl (l' := #[oI p0, oR b7, oR b54, oI (22 : Int32), oU, oU]) rfl ?_
      show oP p e below T100 (mkF m 330 #[oI p0, oR b7, oR b54, oI (22 : Int32), oU, oU] []) _
      refine XS.aloadN X100.here hx rfl (hb hby at_330) rfl rfl ?_
      show oP p e below T100 (mkF m 331 #[oI p0, oR b7, oR b54, oI (22 : Int32), oU, oU] [(.ref b7)]) _
      refine XS.iloadN X100.here hx rfl (hb hby at_331) rfl ?_
      show oP p e below T100 (mkF m 332 #[oI p0, oR b7, oR b54, oI (22 : Int32), oU, oU] [(.int (22 : Int32)), (.ref b7)]) _
      refine own_aaload X100 hx hZ e100 fx322 rfl (j := (22 : Int32)) ⟨by decide, by decide⟩ (v := (.ref (a_NULL Z))) rfl (g := (mkF m 332 #[oI p0, oR b7, oR b54, oI (22 : Int32), oU, oU] [(.int (22 : Int32)), (.ref b7)])) rfl rfl (hb hby at_332) _ ?_
      show oP p e below T100 (mkF m 333 #[oI p0, oR b7, oR b54, oI (22 : Int32), oU, oU] [(.ref (a_NULL Z))]) _
      refine XS.astore X100.here hx rfl (hb hby at_333) rfl rfl (l' := #[oI p0, oR b7, oR b54, oI (22 : Int32), oR (a_NULL Z), oU]) rfl ?_
      show oP p e below T100 (mkF m 335 #[oI p0, oR b7, oR b54, oI (22 : Int32), oR (a_NULL Z), oU] []) _
      refine XS.aload X100.here hx rfl (hb hby at_335) rfl rfl ?_
      show oP p e below T100 (mkF m 337 #[oI p0, oR b7, oR b54, oI (22 : Int32), oR (a_NULL Z), oU] [(.ref (a_NULL Z))]) _
      refine st324.trans ?_
      show oP p e below T324 (mkF m 340 #[oI p0, oR b7, oR b54, oI (22 : Int32), oR (a_NULL Z), oU] [(.ref (a_NULL Z))]) _
      refine XS.astore X324.here hx rfl (hb hby at_340) rfl rfl (l' := #[oI p0, oR b7, oR b54, oI (22 : Int32), oR (a_NULL Z), oR (a_NULL Z)]) rfl ?_
      show oP p e below T324 (mkF m 342 #[oI p0, oR b7, oR b54, oI (22 : Int32), oR (a_NULL Z), oR (a_NULL Z)] []) _
      refine XS.aload X324.here hx rfl (hb hby at_342) rfl rfl ?_
      show oP p e below T324 (mkF m 344 #[oI p0, oR b7, oR b54, oI (22 : Int32), oR (a_NULL Z), oR (a_NULL Z)] [(.ref (a_NULL Z))]) _
      refine XS.aloadN X324.here hx rfl (hb hby at_344) rfl rfl ?_
      show oP p e below T324 (mkF m 345 #[oI p0, oR b7, oR b54, oI (22 : Int32), oR (a_NULL Z), oR (a_NULL Z)] [(.ref b54), (.ref (a_NULL Z))]) _
      refine XS.iloadN X324.here hx rfl (hb hby at_345) rfl ?_
      show oP p e below T324 (mkF m 346 #[oI p0, oR b7, oR b54, oI (22 : Int32), oR (a_NULL Z), oR (a_NULL Z)] [(.int (22 : Int32)), (.ref b54), (.ref (a_NULL Z))]) _
      refine own_aaload X324 hx hZ rfl fx325 rfl (j := (22 : Int32)) ⟨by decide, by decide⟩ (v := (.ref (a_NULL Z))) rfl (g := (mkF m 346 #[oI p0, oR b7, oR b54, oI (22 : Int32), oR (a_NULL Z), oR (a_NULL Z)] [(.int (22 : Int32)), (.ref b54), (.ref (a_NULL Z))])) rfl rfl (hb hby at_346) _ ?_
      show oP p e below T324 (mkF m 347 #[oI p0, oR b7, oR b54, oI (22 : Int32), oR (a_NULL Z), oR (a_NULL Z)] [(.ref (a_NULL Z)), (.ref (a_NULL Z))]) _
      refine Jvm.RoadKit.acmp (g := (mkF m 347 #[oI p0, oR b7, oR b54, oI (22 : Int32), oR (a_NULL Z), oR (a_NULL Z)] [(.ref (a_NULL Z)), (.ref (a_NULL Z))])) X324 hx rfl rfl rfl (pc0 := 347) (pc' := 352) (same := true) rfl (hb hby at_347) rfl (decide_eq_true (congrArg Value.ref (rfl : (a_NULL Z) = (a_NULL Z)))) (by decide) (by decide) ?_
      show oP p e below T324 (mkF m 352 #[oI p0, oR b7, oR b54, oI (22 : Int32), oR (a_NULL Z), oR (a_NULL Z)] []) _
      refine XS.aload X324.here hx rfl (hb hby at_352) rfl rfl ?_
      show oP p e below T324 (mkF m 354 #[oI p0, oR b7, oR b54, oI (22 : Int32), oR (a_NULL Z), oR (a_NULL Z)] [(.ref (a_NULL Z))]) _
      refine st326.trans ?_
      show oP p e below T326 (mkF m 357 #[oI p0, oR b7, oR b54, oI (22 : Int32), oR (a_NULL Z), oR (a_NULL Z)] [(.int (0 : Int32))]) _
      refine XS.ifYes X326.here hx rfl (pc0 := 357) (pc' := 362) rfl (hb hby at_357) rfl ((if0 _ _).trans (teq (by decide : (0 : Int32) = (0 : Int32))).1) (by decide) (by decide) ?_
      show oP p e below T326 (mkF m 362 #[oI p0, oR b7, oR b54, oI (22 : Int32), oR (a_NULL Z), oR (a_NULL Z)] []) _
      refine XS.aload X326.here hx rfl (hb hby at_362) rfl rfl ?_
      show oP p e below T326 (mkF m 364 #[oI p0, oR b7, oR b54, oI (22 : Int32), oR (a_NULL Z), oR (a_NULL Z)] [(.ref (a_NULL Z))]) _
      refine st327.trans ?_
      show oP p e below T327 (mkF m 367 #[oI p0, oR b7, oR b54, oI (22 : Int32), oR (a_NULL Z), oR (a_NULL Z)] [(.ref (a_NULL Z))]) _
      refine XS.aload X327.here hx rfl (hb hby at_367) rfl rfl ?_
      show oP p e below T327 (mkF m 369 #[oI p0, oR b7, oR b54, oI (22 : Int32), oR (a_NULL Z), oR (a_NULL Z)] [(.ref (a_NULL Z)), (.ref (a_NULL Z))]) _
      refine Jvm.RoadKit.acmp (g := (mkF m 369 #[oI p0, oR b7, oR b54, oI (22 : Int32), oR (a_NULL Z), oR (a_NULL Z)] [(.ref (a_NULL Z)), (.ref (a_NULL Z))])) X327 hx rfl rfl rfl (pc0 := 369) (pc' := 374) (same := true) rfl (hb hby at_369) rfl (decide_eq_true (congrArg Value.ref (rfl : (a_NULL Z) = (a_NULL Z)))) (by decide) (by decide) ?_
      show oP p e below T327 (mkF m 374 #[oI p0, oR b7, oR b54, oI (22 : Int32), oR (a_NULL Z), oR (a_NULL Z)] []) _
      refine XS.aload X327.here hx rfl (hb hby at_374) rfl rfl ?_
      show oP p e below T327 (mkF m 376 #[oI p0, oR b7, oR b54, oI (22 : Int32), oR (a_NULL Z), oR (a_NULL Z)] [(.ref (a_NULL Z))]) _
      refine st328.trans ?_
      show oP p e below T328 (mkF m 379 #[oI p0, oR b7, oR b54, oI (22 : Int32), oR (a_NULL Z), oR (a_NULL Z)] [(.ref (a_BOOLEANS Z))]) _
      refine XS.aload X328.here hx rfl (hb hby at_379) rfl rfl ?_
      show oP p e below T328 (mkF m 381 #[oI p0, oR b7, oR b54, oI (22 : Int32), oR (a_NULL Z), oR (a_NULL Z)] [(.ref (a_NULL Z)), (.ref (a_BOOLEANS Z))]) _
      refine st329.trans ?_
      show oP p e below T329 (mkF m 384 #[oI p0, oR b7, oR b54, oI (22 : Int32), oR (a_NULL Z), oR (a_NULL Z)] [(.ref (a_BOOLEANS Z)), (.ref (a_BOOLEANS Z))]) _
      refine Jvm.RoadKit.acmp (g := (mkF m 384 #[oI p0, oR b7, oR b54, oI (22 : Int32), oR (a_NULL Z), oR (a_NULL Z)] [(.ref (a_BOOLEANS Z)), (.ref (a_BOOLEANS Z))])) X329 hx rfl rfl rfl (pc0 := 384) (pc' := 389) (same := true) rfl (hb hby at_384) rfl (decide_eq_true (congrArg Value.ref (rfl : (a_BOOLEANS Z) = (a_BOOLEANS Z)))) (by decide) (by decide) ?_
      show oP p e below T329 (mkF m 389 #[oI p0, oR b7, oR b54, oI (22 : Int32), oR (a_NULL Z), oR (a_NULL Z)] []) _
      refine XS.aload X329.here hx rfl (hb hby at_389) rfl rfl ?_
      show oP p e below T329 (mkF m 391 #[oI p0, oR b7, oR b54, oI (22 : Int32), oR (a_NULL Z), oR (a_NULL Z)] [(.ref (a_NULL Z))]) _
      refine st331.trans ?_
      show oP p e below T331 (mkF m 394 #[oI p0, oR b7, oR b54, oI (22 : Int32), oR (a_NULL Z), oR (a_NULL Z)] [(.int (0 : Int32))]) _
      refine XS.aload X331.here hx rfl (hb hby at_394) rfl rfl ?_
      show oP p e below T331 (mkF m 396 #[oI p0, oR b7, oR b54, oI (22 : Int32), oR (a_NULL Z), oR (a_NULL Z)] [(.ref (a_NULL Z)), (.int (0 : Int32))]) _
      refine XS.aload X331.here hx rfl (hb hby at_396) rfl rfl ?_
      show oP p e below T331 (mkF m 398 #[oI p0, oR b7, oR b54, oI (22 : Int32), oR (a_NULL Z), oR (a_NULL Z)] [(.ref (a_NULL Z)), (.ref (a_NULL Z)), (.int (0 : Int32))]) _
      refine Jvm.RoadKit.acmp (g := (mkF m 398 #[oI p0, oR b7, oR b54, oI (22 : Int32), oR (a_NULL Z), oR (a_NULL Z)] [(.ref (a_NULL Z)), (.ref (a_NULL Z)), (.int (0 : Int32))])) X331 hx rfl rfl rfl (pc0 := 398) (pc' := 405) (same := true) rfl (hb hby at_398) rfl (decide_eq_true (congrArg Value.ref (rfl : (a_NULL Z) = (a_NULL Z)))) (by decide) (by decide) ?_
      show oP p e below T331 (mkF m 405 #[oI p0, oR b7, oR b54, oI (22 : Int32), oR (a_NULL Z), oR (a_NULL Z)] [(.int (0 : Int32))]) _
      refine XS.iconst X331.here hx rfl (hb hby at_405) ?_
      show oP p e below T331 (mkF m 406 #[oI p0, oR b7, oR b54, oI (22 : Int32), oR (a_NULL Z), oR (a_NULL Z)] [(.int (0 : Int32)), (.int (0 : Int32))]) _
      refine XS.icmpNo X331.here hx rfl (hb hby at_406) rfl (teq (by decide : (0 : Int32) = (0 : Int32))).2 ?_
      show oP p e below T331 (mkF m 409 #[oI p0, oR b7, oR b54, oI (22 : Int32), oR (a_NULL Z), oR (a_NULL Z)] []) _
      refine XS.iconst X331.here hx rfl (hb hby at_409) ?_
      show oP p e below T331 (mkF m 410 #[oI p0, oR b7, oR b54, oI (22 : Int32), oR (a_NULL Z), oR (a_NULL Z)] [(.int (1 : Int32))]) _
      refine XS.goto X331.here hx rfl (pc0 := 410) (pc' := 414) rfl (hb hby at_410) (by decide) (by decide) ?_
      show oP p e below T331 (mkF m 414 #[oI p0, oR b7, oR b54, oI (22 : Int32), oR (a_NULL Z), oR (a_NULL Z)] [(.int (1 : Int32))]) _
      exact retN X331 hx (t := .boolean) Bd.returns (by simp) (hb hby at_414) hr
    · show (some (.int (1 : Int32)) : Option Value) = some (.int (1 : Int32)) ∧ Fr n0 _ ∧ Keep h0 T331.heap []
      exact ⟨rfl, N331, Kc331⟩
set_option maxRecDepth 65536 in
set_option maxHeartbeats 40000000 in
theorem comes_1 {Post : Tables → Env → Array Value → State → Outcome → State → Prop} (hpost : ∀ tb e args s v u, (limb_1_1.after args s (.returned v) u = true ∧ limb_1_2.after args s (.returned v) u = true ∧ True) → FrameEnd s (.returned v) u (Jvm.fieldLocs frame_1_writes args s ++ Jvm.arrayLocs frame_1_arrays args s ++ Jvm.staticLocs frame_1_statics s) 16 192 → Post tb e args s (.returned v) u) :
    ArmFor flags0 classFile x code maxLocals ret World_1 tables_1 room_1 Calls_1 rest_1 Pre_1 Post := by
  intro l hfl _ _ p e ha hc hk s m args below hf hA hF happ hP
  obtain ⟨hcalls, hrest, hpre⟩ := hP
  obtain ⟨-, -, -, hnamed, -, -, -, hat⟩ := (Spec.applies_iff hf).mp happ
  obtain ⟨hg, hn⟩ := and_e (Cond.before_iff.mp (show (Jvm.Cond.and given_1 narrow_1).before args s = true from hpre))
  obtain ⟨g1, g2⟩ := and_e hg
  obtain ⟨w0, rfl⟩ : ∃ w0 : Value, args = #[w0] := by
    have hs : args.size = 1 := by simpa [Cond.value, given_1] using g1
    obtain ⟨L⟩ := args
    match L, hs with
    | [w0], _ => exact ⟨w0, rfl⟩
  have hw := fun d (hd : d ∈ tables_1) => atoms_spec (ws := Jvm.Cond.code x code maxLocals ret :: tables_1) hat d (List.mem_cons_of_mem _ hd)
  have hfit : Fit s := fun {y c} hc i hi => by
    obtain ⟨ha, rfl⟩ := Array.getElem?_eq_some_iff.mp hc
    have q := List.all_eq_true.mp ((Array.all_eq_true_iff_forall_mem.mp hF) _ (Array.getElem_mem ha)) i (List.mem_range.mpr hi)
    simpa [Array.getElem?_eq_getElem hi] using q
  obtain ⟨i0, ei0⟩ := is_v g2
  obtain rfl : w0 = (.int i0) := Option.some.inj ei0
  obtain ⟨q0, hn0⟩ := and_e hn
  obtain ⟨q1, hn1⟩ := and_e hn0
  obtain ⟨q2, hn2⟩ := and_e hn1
  obtain ⟨q3, hn3⟩ := and_e hn2
  obtain ⟨q4, hn4⟩ := and_e hn3
  obtain ⟨q5, hn5⟩ := and_e hn4
  obtain ⟨q6, hn6⟩ := and_e hn5
  obtain ⟨q7, hn7⟩ := and_e hn6
  obtain ⟨q8, hn8⟩ := and_e hn7
  obtain ⟨q9, hn9⟩ := and_e hn8
  obtain ⟨q10, hn10⟩ := and_e hn9
  obtain ⟨q11, hn11⟩ := and_e hn10
  obtain ⟨q12, hn12⟩ := and_e hn11
  obtain ⟨q13, hn13⟩ := and_e hn12
  obtain ⟨q14, hn14⟩ := and_e hn13
  obtain ⟨q15, hn15⟩ := and_e hn14
  obtain ⟨q16, hn16⟩ := and_e hn15
  obtain ⟨q17, hn17⟩ := and_e hn16
  obtain ⟨q18, hn18⟩ := and_e hn17
  obtain ⟨q19, hn19⟩ := and_e hn18
  obtain ⟨q20, hn20⟩ := and_e hn19
  obtain ⟨q21, hn21⟩ := and_e hn20
  obtain ⟨q22, hn22⟩ := and_e hn21
  obtain ⟨q23, hn23⟩ := and_e hn22
  obtain ⟨q24, hn24⟩ := and_e hn23
  obtain ⟨q25, hn25⟩ := and_e hn24
  obtain ⟨q26, hn26⟩ := and_e hn25
  obtain ⟨q27, hn27⟩ := and_e hn26
  obtain ⟨q28, hn28⟩ := and_e hn27
  obtain ⟨q29, hn29⟩ := and_e hn28
  obtain ⟨q30, hn30⟩ := and_e hn29
  obtain ⟨q31, hn31⟩ := and_e hn30
  obtain ⟨q32, hn32⟩ := and_e hn31
  obtain ⟨q33, hn33⟩ := and_e hn32
  obtain ⟨q34, hn34⟩ := and_e hn33
  obtain ⟨q35, hn35⟩ := and_e hn34
  obtain ⟨q36, hn36⟩ := and_e hn35
  obtain ⟨q37, hn37⟩ := and_e hn36
  obtain ⟨q38, hn38⟩ := and_e hn37
  obtain ⟨q39, hn39⟩ := and_e hn38
  obtain ⟨q40, hn40⟩ := and_e hn39
  obtain ⟨q41, hn41⟩ := and_e hn40
  obtain ⟨q42, hn42⟩ := and_e hn41
  obtain ⟨q43, hn43⟩ := and_e hn42
  obtain ⟨q44, hn44⟩ := and_e hn43
  obtain ⟨q45, hn45⟩ := and_e hn44
  obtain ⟨q46, hn46⟩ := and_e hn45
  obtain ⟨q47, hn47⟩ := and_e hn46
  obtain ⟨q48, hn48⟩ := and_e hn47
  obtain ⟨q49, hn49⟩ := and_e hn48
  obtain ⟨q50, hn50⟩ := and_e hn49
  obtain ⟨q51, hn51⟩ := and_e hn50
  obtain ⟨q52, hn52⟩ := and_e hn51
  obtain ⟨q53, hn53⟩ := and_e hn52
  obtain ⟨q54, hn54⟩ := and_e hn53
  obtain ⟨q55, hn55⟩ := and_e hn54
  obtain ⟨q56, hn56⟩ := and_e hn55
  obtain ⟨q57, hn57⟩ := and_e hn56
  obtain ⟨q58, hn58⟩ := and_e hn57
  obtain ⟨q59, hn59⟩ := and_e hn58
  obtain ⟨q60, hn60⟩ := and_e hn59
  obtain ⟨q61, hn61⟩ := and_e hn60
  obtain ⟨q62, hn62⟩ := and_e hn61
  obtain ⟨q63, hn63⟩ := and_e hn62
  obtain ⟨q64, hn64⟩ := and_e hn63
  obtain ⟨q65, hn65⟩ := and_e hn64
  obtain ⟨q66, hn66⟩ := and_e hn65
  obtain ⟨q67, hn67⟩ := and_e hn66
  obtain ⟨q68, hn68⟩ := and_e hn67
  obtain ⟨q69, hn69⟩ := and_e hn68
  obtain ⟨q70, hn70⟩ := and_e hn69
  obtain ⟨q71, hn71⟩ := and_e hn70
  obtain ⟨q72, hn72⟩ := and_e hn71
  obtain ⟨q73, hn73⟩ := and_e hn72
  obtain ⟨q74, hn74⟩ := and_e hn73
  obtain ⟨q75, hn75⟩ := and_e hn74
  obtain ⟨q76, hn76⟩ := and_e hn75
  obtain ⟨q77, hn77⟩ := and_e hn76
  obtain ⟨q78, hn78⟩ := and_e hn77
  obtain ⟨q79, hn79⟩ := and_e hn78
  obtain ⟨q80, hn80⟩ := and_e hn79
  obtain ⟨q81, hn81⟩ := and_e hn80
  obtain ⟨q82, hn82⟩ := and_e hn81
  obtain ⟨q83, hn83⟩ := and_e hn82
  have q84 := hn83
  have hS : St s := ⟨(own_sta q0 (Or.inr ⟨(hw _ (List.mem_of_getElem? (i := 3) rfl)), (hw _ (List.mem_of_getElem? (i := 4) rfl))⟩)), (own_exa q0), (own_sta q1 (Or.inr ⟨(hw _ (List.mem_of_getElem? (i := 3) rfl)), (hw _ (List.mem_of_getElem? (i := 7) rfl))⟩)), (own_exa q1), (own_sta q2 (Or.inr ⟨(hw _ (List.mem_of_getElem? (i := 3) rfl)), (hw _ (List.mem_of_getElem? (i := 9) rfl))⟩)), (own_exa q2), (own_sta q3 (Or.inr ⟨(hw _ (List.mem_of_getElem? (i := 3) rfl)), (hw _ (List.mem_of_getElem? (i := 11) rfl))⟩)), (own_exa q3), (own_sta q4 (Or.inr ⟨(hw _ (List.mem_of_getElem? (i := 3) rfl)), (hw _ (List.mem_of_getElem? (i := 13) rfl))⟩)), (own_exa q4), (own_sta q5 (Or.inr ⟨(hw _ (List.mem_of_getElem? (i := 3) rfl)), (hw _ (List.mem_of_getElem? (i := 15) rfl))⟩)), (own_exa q5), (own_sta q6 (Or.inr ⟨(hw _ (List.mem_of_getElem? (i := 3) rfl)), (hw _ (List.mem_of_getElem? (i := 17) rfl))⟩)), (own_exa q6), (own_sta q7 (Or.inr ⟨(hw _ (List.mem_of_getElem? (i := 3) rfl)), (hw _ (List.mem_of_getElem? (i := 19) rfl))⟩)), (own_exa q7), (own_sta q8 (Or.inr ⟨(hw _ (List.mem_of_getElem? (i := 3) rfl)), (hw _ (List.mem_of_getElem? (i := 21) rfl))⟩)), (own_exa q8), (own_sta q9 (Or.inr ⟨(hw _ (List.mem_of_getElem? (i := 3) rfl)), (hw _ (List.mem_of_getElem? (i := 23) rfl))⟩)), (own_exa q9), (own_sta q10 (Or.inr ⟨(hw _ (List.mem_of_getElem? (i := 3) rfl)), (hw _ (List.mem_of_getElem? (i := 25) rfl))⟩)), (own_exa q10), (own_sta q11 (Or.inr ⟨(hw _ (List.mem_of_getElem? (i := 3) rfl)), (hw _ (List.mem_of_getElem? (i := 27) rfl))⟩)), (own_exa q11), (own_sta q12 (Or.inr ⟨(hw _ (List.mem_of_getElem? (i := 3) rfl)), (hw _ (List.mem_of_getElem? (i := 29) rfl))⟩)), (own_exa q12), (own_sta q13 (Or.inr ⟨(hw _ (List.mem_of_getElem? (i := 3) rfl)), (hw _ (List.mem_of_getElem? (i := 31) rfl))⟩)), (own_exa q13), (own_sta q14 (Or.inr ⟨(hw _ (List.mem_of_getElem? (i := 3) rfl)), (hw _ (List.mem_of_getElem? (i := 33) rfl))⟩)), (own_exa q14), (own_sta q15 (Or.inr ⟨(hw _ (List.mem_of_getElem? (i := 3) rfl)), (hw _ (List.mem_of_getElem? (i := 35) rfl))⟩)), (own_exa q15), (own_sta q16 (Or.inr ⟨(hw _ (List.mem_of_getElem? (i := 3) rfl)), (hw _ (List.mem_of_getElem? (i := 37) rfl))⟩)), (own_exa q16), (own_sta q17 (Or.inr ⟨(hw _ (List.mem_of_getElem? (i := 3) rfl)), (hw _ (List.mem_of_getElem? (i := 39) rfl))⟩)), (own_exa q17), (own_sta q18 (Or.inr ⟨(hw _ (List.mem_of_getElem? (i := 3) rfl)), (hw _ (List.mem_of_getElem? (i := 41) rfl))⟩)), (own_exa q18), (own_sta q19 (Or.inr ⟨(hw _ (List.mem_of_getElem? (i := 3) rfl)), (hw _ (List.mem_of_getElem? (i := 43) rfl))⟩)), (own_exa q19), (own_sta q20 (Or.inr ⟨(hw _ (List.mem_of_getElem? (i := 3) rfl)), (hw _ (List.mem_of_getElem? (i := 45) rfl))⟩)), (own_exa q20), (own_sta q21 (Or.inr ⟨(hw _ (List.mem_of_getElem? (i := 3) rfl)), (hw _ (List.mem_of_getElem? (i := 47) rfl))⟩)), (own_exa q21), (own_sta q22 (Or.inr ⟨(hw _ (List.mem_of_getElem? (i := 3) rfl)), (hw _ (List.mem_of_getElem? (i := 49) rfl))⟩)), (own_exa q22), (own_fldN q23), (own_sta q24 (Or.inr ⟨(hw _ (List.mem_of_getElem? (i := 70) rfl)), (hw _ (List.mem_of_getElem? (i := 71) rfl))⟩)), (own_exa q24), (own_fldS q25 (q24)), (own_fldN q26), (own_fldS q27 (q24)), (own_fldN q28), (own_sta q29 (Or.inr ⟨(hw _ (List.mem_of_getElem? (i := 70) rfl)), (hw _ (List.mem_of_getElem? (i := 72) rfl))⟩)), (own_exa q29), (own_fldS q30 (q29)), (own_fldN q31), (own_fldS q32 (q29)), (own_fldN q33), (own_fldS q34 (q29)), (own_fldN q35), (own_fldS q36 (q24)), (own_fldN q37), (own_fldS q38 (q24)), (own_fldS q39 (q0)), (own_fldS q40 (q24)), (own_fldI q41), (own_fldI q42), (own_fldS q43 (q3)), (own_fldS q44 (q24)), (own_fldI q45), (own_fldI q46), (own_fldS q47 (q7)), (own_fldS q48 (q24)), (own_fldI q49), (own_fldI q50), (own_fldS q51 (q0)), (own_fldS q52 (q24)), (own_fldI q53), (own_fldN q54), (own_sta q55 (Or.inr ⟨(hw _ (List.mem_of_getElem? (i := 70) rfl)), (hw _ (List.mem_of_getElem? (i := 73) rfl))⟩)), (own_exa q55), (own_fldS q56 (q55)), (own_fldS q57 (q15)), (own_fldN q58), (own_fldS q59 (q29)), (own_fldS q60 (q29)), (own_fldI q61), (own_fldI q62), (own_fldS q63 (q9)), (own_fldN q64), (own_fldS q65 (q29)), (own_fldS q66 (q29)), (own_fldI q67), (own_fldI q68), (own_fldN q69), (own_fldS q70 (q55)), (own_fldN q71), (own_fldS q72 (q29)), (own_fldN q73), (own_fldS q74 (q29)), (own_fldN q75), (own_fldS q76 (q29)), (own_fldN q77), (own_fldS q78 (q29)), (own_fldS q79 (q5)), (own_fldS q80 (q24)), (own_fldI q81), (own_fldI q82), (own_fldN q83), (own_fldS q84 (q29))⟩
  obtain ⟨n, o, h1, h2, h3, _, L, rfl, ⟨rfl, N, -⟩, hq⟩ := rm0 l s _ hw hS tables_1 i0 s.heap s.heap.size (Old.start s) p e ha hc hk s m _ below hf ((Spec.applies_iff_loose hf).mp happ).1 ⟨rfl, State.Warmed39.refl s, rfl⟩ trivial
  refine ⟨n, _, h1, h2, h3, hpost _ _ _ _ _ _ ⟨Cond.after_iff.mpr rfl, Cond.after_iff.mpr (eq_i res_at (Term.int_eval (1)) rfl), trivial⟩ ⟨hq.1, hq.2.1, (hq.2.2.sift fun y hy => Or.inr (N y hy)).mono (by decide) (by decide)⟩⟩
theorem main_1_1 : Claimed_1_1 := comes_1 fun _ _ _ _ _ _ h hF => ⟨h.1, hF⟩
theorem main_1_2 : Claimed_1_2 := comes_1 fun _ _ _ _ _ _ h hF => ⟨h.2.1, hF⟩
end Jvm.Pilot.@@N@@
namespace Jvm.Pilot.@@N@@
open Jvm Jvm.ClassFile Sem Op Lib Jvm.Free Jvm.Stand Jvm.Pilot.@@N@@.Jvm.D
/-! MADE BY PROGRAM (witnessworld.py) out of the Statement's table words and the real class files: 14 classes; the members and pool entries that the words name. The judged class is class 1, her method 1. -/
namespace start1
open Jvm.ClassFile
def u (s : String) : CpInfo := .utf8 (stringToUtf16 s)
/-- a pool by its gaps: so many unusable entries, then the entry; so many at the end -/
def gap : Nat → List CpInfo → List CpInfo
  | 0, r => r
  | n + 1, r => .unusable :: gap n r
def poolList (es : List (Nat × CpInfo)) (last : Nat) : List CpInfo := es.foldr (fun e r => gap e.1 (e.2 :: r)) (gap last [])
def pool (es : List (Nat × CpInfo)) (last : Nat) : Array CpInfo := ⟨poolList es last⟩
def fileOf (pool : Array CpInfo) (this : Nat) (attrs : Array Attribute := #[]) (ms : Array MethodInfo := #[]) (fl : Nat := 33) (sup : Nat := 0) (ifs : Array Nat := #[]) (fds : Array FieldInfo := #[]) : ClassFile where
  minorVersion := 0
  majorVersion := 65
  constantPool := pool
  accessFlags := fl
  thisClass := this
  superClass := sup
  interfaces := ifs
  fields := fds
  methods := ms
  attributes := attrs
def plain (name : String) (sup : Option ClassId) : Class where
  name := name
  kind := .ordinary
  loader := none
  accessFlags := 33
  super := sup
  interfaces := #[]
  cf := none
  fields := #[]
  methods := #[]
  instanceTypes := #[]
  staticTypes := #[]
  resolved := #[]
  callSites := []
  init := .initialized
  statics := none
  mirror := none

def pool0 : Array CpInfo := pool [(5, u "<init>"), (0, u "()V"), (1, .class_ 10), (1, u "java/lang/Object")] 113

def k0m0 : Method := { name := "<init>", desc := "()V", sig := { parameters := [], returnType := none }, accessFlags := 1, code := none }
/-- java/lang/Object -/
def k0 : Class := { plain "java/lang/Object" none with
  accessFlags := 33
  interfaces := #[]
  cf := some (fileOf pool0 8 #[] #[{ accessFlags := 1, nameIndex := 5, descriptorIndex := 6, attributes := #[] }] 33 0 #[] #[])
  fields := #[]
  methods := #[k0m0]
  instanceTypes := #[]
  staticTypes := #[]
  resolved := Array.replicate 124 none
  statics := none }

def pool1 : Array CpInfo := pool [(2, .class_ 4), (1, u "java/lang/Object"), (0, u "<init>"), (0, u "()V"), (0, .class_ 8), (0, u "com/example/menshen/menshen/policy/ConditionOperator"), (0, .fieldref 7 10), (0, .nameAndType 11 12), (0, u "STRING_EQUALS"), (0, u "Lcom/example/menshen/menshen/policy/ConditionOperator;"), (0, .fieldref 7 14), (0, .nameAndType 15 12), (0, u "STRING_NOT_EQUALS"), (0, .fieldref 7 17), (0, .nameAndType 18 12), (0, u "NOT_STRING_EQUALS"), (0, .fieldref 7 20), (0, .nameAndType 21 12), (0, u "STRING_EQUALS_IGNORE_CASE"), (0, .fieldref 7 23), (0, .nameAndType 24 12), (0, u "STRING_NOT_EQUALS_IGNORE_CASE"), (0, .fieldref 7 26), (0, .nameAndType 27 12), (0, u "STRING_LIKE"), (0, .fieldref 7 29), (0, .nameAndType 30 12), (0, u "STRING_NOT_LIKE"), (0, .fieldref 7 32), (0, .nameAndType 33 12), (0, u "IP_ADDRESS"), (0, .fieldref 7 35), (0, .nameAndType 36 12), (0, u "NOT_IP_ADDRESS"), (0, .fieldref 7 38), (0, .nameAndType 39 12), (0, u "NUMERIC_EQUALS"), (0, .fieldref 7 41), (0, .nameAndType 42 12), (0, u "NUMERIC_NOT_EQUALS"), (0, .fieldref 7 44), (0, .nameAndType 45 12), (0, u "NUMERIC_LESS_THAN"), (0, .fieldref 7 47), (0, .nameAndType 48 12), (0, u "NUMERIC_LESS_THAN_EQUALS"), (0, .fieldref 7 50), (0, .nameAndType 51 12), (0, u "NUMERIC_GREATER_THAN"), (0, .fieldref 7 53), (0, .nameAndType 54 12), (0, u "NUMERIC_GREATER_THAN_EQUALS"), (0, .fieldref 7 56), (0, .nameAndType 57 12), (0, u "DATE_EQUALS"), (0, .fieldref 7 59), (0, .nameAndType 60 12), (0, u "DATE_NOT_EQUALS"), (0, .fieldref 7 62), (0, .nameAndType 63 12), (0, u "DATE_LESS_THAN"), (0, .fieldref 7 65), (0, .nameAndType 66 12), (0, u "DATE_LESS_THAN_EQUALS"), (0, .fieldref 7 68), (0, .nameAndType 69 12), (0, u "DATE_GREATER_THAN"), (0, .fieldref 7 71), (0, .nameAndType 72 12), (0, u "DATE_GREATER_THAN_EQUALS"), (0, .fieldref 7 74), (0, .nameAndType 75 12), (0, u "BOOL"), (0, .fieldref 7 77), (0, .nameAndType 78 12), (0, u "NULL"), (0, .integer 2147483647), (0, .methodref 7 81), (0, .nameAndType 82 83), (0, u "positive"), (0, u "()Lcom/example/menshen/menshen/policy/ConditionOperator;"), (0, .methodref 7 85), (0, .nameAndType 86 87), (0, u "isNegated"), (0, u "()Z"), (0, .methodref 7 89), (0, .nameAndType 90 91), (0, u "literals"), (0, u "()Lcom/example/menshen/menshen/policy/ConditionOperator$Literals;"), (0, .class_ 93), (0, u "com/example/menshen/menshen/policy/ConditionOperatorPositivePinLaw"), (2, u "law"), (0, u "(I)Z")] 9

def k1m0 : Method := { name := "<init>", desc := "()V", sig := { parameters := [], returnType := none }, accessFlags := 1, code := none }
def k1c1 : Code := { maxStack := 4, maxLocals := 6, code := code, exceptionTable := #[], attributes := #[] }
def k1m1 : Method := { name := "law", desc := "(I)Z", sig := { parameters := [.int], returnType := some .boolean }, accessFlags := 9, code := some k1c1 }
/-- com/example/menshen/menshen/policy/ConditionOperatorPositivePinLaw -/
def k1 : Class := { plain "com/example/menshen/menshen/policy/ConditionOperatorPositivePinLaw" (some 0) with
  accessFlags := 49
  interfaces := #[]
  cf := some (fileOf pool1 92 #[] #[{ accessFlags := 1, nameIndex := 5, descriptorIndex := 6, attributes := #[] }, { accessFlags := 9, nameIndex := 96, descriptorIndex := 97, attributes := #[] }] 49 2 #[] #[])
  fields := #[]
  methods := #[k1m0, k1m1]
  instanceTypes := #[]
  staticTypes := #[]
  resolved := Array.replicate 107 none
  statics := none }

def pool2 : Array CpInfo := pool [(1, .class_ 2), (0, u "java/lang/constant/Constable"), (0, .class_ 4), (0, u "java/lang/Object")] 6

/-- java/lang/constant/Constable -/
def k2 : Class := { plain "java/lang/constant/Constable" (some 0) with
  accessFlags := 1537
  interfaces := #[]
  cf := some (fileOf pool2 1 #[] #[] 1537 3 #[] #[])
  fields := #[]
  methods := #[]
  instanceTypes := #[]
  staticTypes := #[]
  resolved := Array.replicate 11 none
  statics := none }

def pool3 : Array CpInfo := pool [(1, .class_ 2), (0, u "java/lang/Comparable"), (0, .class_ 4), (0, u "java/lang/Object")] 7

/-- java/lang/Comparable -/
def k3 : Class := { plain "java/lang/Comparable" (some 0) with
  accessFlags := 1537
  interfaces := #[]
  cf := some (fileOf pool3 1 #[] #[] 1537 3 #[] #[])
  fields := #[]
  methods := #[]
  instanceTypes := #[]
  staticTypes := #[]
  resolved := Array.replicate 12 none
  statics := none }

def pool4 : Array CpInfo := pool [(1, .class_ 2), (0, u "java/io/Serializable"), (0, .class_ 4), (0, u "java/lang/Object")] 2

/-- java/io/Serializable -/
def k4 : Class := { plain "java/io/Serializable" (some 0) with
  accessFlags := 1537
  interfaces := #[]
  cf := some (fileOf pool4 1 #[] #[] 1537 3 #[] #[])
  fields := #[]
  methods := #[]
  instanceTypes := #[]
  staticTypes := #[]
  resolved := Array.replicate 7 none
  statics := none }

def pool5 : Array CpInfo := pool [(2, .class_ 4), (1, u "java/lang/Enum"), (0, u "name"), (0, u "Ljava/lang/String;"), (2, u "ordinal"), (0, u "I"), (1, .class_ 14), (1, u "java/lang/Object"), (4, u "hash"), (86, .class_ 108), (1, u "java/lang/Enum$EnumDesc"), (2, .class_ 112), (0, u "java/lang/constant/Constable"), (0, .class_ 114), (0, u "java/lang/Comparable"), (0, .class_ 116), (0, u "java/io/Serializable")] 87

/-- java/lang/Enum -/
def k5 : Class := { plain "java/lang/Enum" (some 0) with
  accessFlags := 1057
  interfaces := #[2, 3, 4]
  cf := some (fileOf pool5 2 #[.nestMembers #[106]] #[] 1057 12 #[111, 113, 115] #[{ accessFlags := 18, nameIndex := 5, descriptorIndex := 6, attributes := #[] }, { accessFlags := 18, nameIndex := 9, descriptorIndex := 10, attributes := #[] }, { accessFlags := 2, nameIndex := 19, descriptorIndex := 10, attributes := #[] }])
  fields := #[{ name := "name", type := (.object "java/lang/String"), accessFlags := 18, slot := 0, constantValue := 0 }, { name := "ordinal", type := .int, accessFlags := 18, slot := 1, constantValue := 0 }, { name := "hash", type := .int, accessFlags := 2, slot := 2, constantValue := 0 }]
  methods := #[]
  instanceTypes := #[(.object "java/lang/String"), .int, .int]
  staticTypes := #[]
  resolved := Array.replicate 204 none
  statics := none }

def pool6 : Array CpInfo := pool [(1, .class_ 2), (0, u "com/example/menshen/menshen/policy/ConditionOperator"), (2, u "STRING_EQUALS"), (0, u "Lcom/example/menshen/menshen/policy/ConditionOperator;"), (2, u "STRING_NOT_EQUALS"), (2, u "NOT_STRING_EQUALS"), (2, u "STRING_EQUALS_IGNORE_CASE"), (2, u "STRING_NOT_EQUALS_IGNORE_CASE"), (2, u "STRING_LIKE"), (2, u "STRING_NOT_LIKE"), (2, u "IP_ADDRESS"), (2, u "NOT_IP_ADDRESS"), (2, u "NUMERIC_EQUALS"), (2, u "NUMERIC_NOT_EQUALS"), (2, u "NUMERIC_LESS_THAN"), (2, u "NUMERIC_LESS_THAN_EQUALS"), (2, u "NUMERIC_GREATER_THAN"), (2, u "NUMERIC_GREATER_THAN_EQUALS"), (2, u "DATE_EQUALS"), (2, u "DATE_NOT_EQUALS"), (2, u "DATE_LESS_THAN"), (2, u "DATE_LESS_THAN_EQUALS"), (2, u "DATE_GREATER_THAN"), (2, u "DATE_GREATER_THAN_EQUALS"), (2, u "BOOL"), (2, u "NULL"), (2, u "$VALUES"), (0, u "[Lcom/example/menshen/menshen/policy/ConditionOperator;"), (6, .class_ 85), (1, u "java/lang/Enum"), (8, u "writtenName"), (0, u "Ljava/lang/String;"), (0, .fieldref 1 97), (0, .nameAndType 98 6), (0, u "negationOf"), (0, .fieldref 1 100), (0, .nameAndType 101 102), (0, u "literals"), (0, u "Lcom/example/menshen/menshen/policy/ConditionOperator$Literals;"), (24, .class_ 129), (1, u "com/example/menshen/menshen/policy/ConditionOperator$Literals"), (94, u "isNegated"), (0, u "()Z"), (0, u "()Lcom/example/menshen/menshen/policy/ConditionOperator$Literals;"), (0, u "positive"), (0, u "()Lcom/example/menshen/menshen/policy/ConditionOperator;")] 8

def k6c0 : Code := { maxStack := 1, maxLocals := 1, code := prog_22_method_7_code, exceptionTable := #[], attributes := #[] }
def k6m0 : Method := { name := "isNegated", desc := "()Z", sig := { parameters := [], returnType := some .boolean }, accessFlags := 1, code := some k6c0 }
def k6c1 : Code := { maxStack := 1, maxLocals := 1, code := prog_22_method_8_code, exceptionTable := #[], attributes := #[] }
def k6m1 : Method := { name := "literals", desc := "()Lcom/example/menshen/menshen/policy/ConditionOperator$Literals;", sig := { parameters := [], returnType := some (.object "com/example/menshen/menshen/policy/ConditionOperator$Literals") }, accessFlags := 1, code := some k6c1 }
def k6c2 : Code := { maxStack := 1, maxLocals := 1, code := prog_22_method_9_code, exceptionTable := #[], attributes := #[] }
def k6m2 : Method := { name := "positive", desc := "()Lcom/example/menshen/menshen/policy/ConditionOperator;", sig := { parameters := [], returnType := some (.object "com/example/menshen/menshen/policy/ConditionOperator") }, accessFlags := 1, code := some k6c2 }
/-- com/example/menshen/menshen/policy/ConditionOperator -/
def k6 : Class := { plain "com/example/menshen/menshen/policy/ConditionOperator" (some 5) with
  accessFlags := 16433
  interfaces := #[]
  cf := some (fileOf pool6 1 #[.nestMembers #[127]] #[{ accessFlags := 1, nameIndex := 224, descriptorIndex := 225, attributes := #[] }, { accessFlags := 1, nameIndex := 101, descriptorIndex := 226, attributes := #[] }, { accessFlags := 1, nameIndex := 227, descriptorIndex := 228, attributes := #[] }] 16433 83 #[] #[{ accessFlags := 16409, nameIndex := 5, descriptorIndex := 6, attributes := #[] }, { accessFlags := 16409, nameIndex := 9, descriptorIndex := 6, attributes := #[] }, { accessFlags := 16409, nameIndex := 12, descriptorIndex := 6, attributes := #[] }, { accessFlags := 16409, nameIndex := 15, descriptorIndex := 6, attributes := #[] }, { accessFlags := 16409, nameIndex := 18, descriptorIndex := 6, attributes := #[] }, { accessFlags := 16409, nameIndex := 21, descriptorIndex := 6, attributes := #[] }, { accessFlags := 16409, nameIndex := 24, descriptorIndex := 6, attributes := #[] }, { accessFlags := 16409, nameIndex := 27, descriptorIndex := 6, attributes := #[] }, { accessFlags := 16409, nameIndex := 30, descriptorIndex := 6, attributes := #[] }, { accessFlags := 16409, nameIndex := 33, descriptorIndex := 6, attributes := #[] }, { accessFlags := 16409, nameIndex := 36, descriptorIndex := 6, attributes := #[] }, { accessFlags := 16409, nameIndex := 39, descriptorIndex := 6, attributes := #[] }, { accessFlags := 16409, nameIndex := 42, descriptorIndex := 6, attributes := #[] }, { accessFlags := 16409, nameIndex := 45, descriptorIndex := 6, attributes := #[] }, { accessFlags := 16409, nameIndex := 48, descriptorIndex := 6, attributes := #[] }, { accessFlags := 16409, nameIndex := 51, descriptorIndex := 6, attributes := #[] }, { accessFlags := 16409, nameIndex := 54, descriptorIndex := 6, attributes := #[] }, { accessFlags := 16409, nameIndex := 57, descriptorIndex := 6, attributes := #[] }, { accessFlags := 16409, nameIndex := 60, descriptorIndex := 6, attributes := #[] }, { accessFlags := 16409, nameIndex := 63, descriptorIndex := 6, attributes := #[] }, { accessFlags := 16409, nameIndex := 66, descriptorIndex := 6, attributes := #[] }, { accessFlags := 16409, nameIndex := 69, descriptorIndex := 6, attributes := #[] }, { accessFlags := 16409, nameIndex := 72, descriptorIndex := 6, attributes := #[] }, { accessFlags := 18, nameIndex := 94, descriptorIndex := 95, attributes := #[] }, { accessFlags := 18, nameIndex := 98, descriptorIndex := 6, attributes := #[] }, { accessFlags := 18, nameIndex := 101, descriptorIndex := 102, attributes := #[] }, { accessFlags := 4122, nameIndex := 75, descriptorIndex := 76, attributes := #[] }])
  fields := #[{ name := "STRING_EQUALS", type := (.object "com/example/menshen/menshen/policy/ConditionOperator"), accessFlags := 16409, slot := 0, constantValue := 0 }, { name := "STRING_NOT_EQUALS", type := (.object "com/example/menshen/menshen/policy/ConditionOperator"), accessFlags := 16409, slot := 1, constantValue := 0 }, { name := "NOT_STRING_EQUALS", type := (.object "com/example/menshen/menshen/policy/ConditionOperator"), accessFlags := 16409, slot := 2, constantValue := 0 }, { name := "STRING_EQUALS_IGNORE_CASE", type := (.object "com/example/menshen/menshen/policy/ConditionOperator"), accessFlags := 16409, slot := 3, constantValue := 0 }, { name := "STRING_NOT_EQUALS_IGNORE_CASE", type := (.object "com/example/menshen/menshen/policy/ConditionOperator"), accessFlags := 16409, slot := 4, constantValue := 0 }, { name := "STRING_LIKE", type := (.object "com/example/menshen/menshen/policy/ConditionOperator"), accessFlags := 16409, slot := 5, constantValue := 0 }, { name := "STRING_NOT_LIKE", type := (.object "com/example/menshen/menshen/policy/ConditionOperator"), accessFlags := 16409, slot := 6, constantValue := 0 }, { name := "IP_ADDRESS", type := (.object "com/example/menshen/menshen/policy/ConditionOperator"), accessFlags := 16409, slot := 7, constantValue := 0 }, { name := "NOT_IP_ADDRESS", type := (.object "com/example/menshen/menshen/policy/ConditionOperator"), accessFlags := 16409, slot := 8, constantValue := 0 }, { name := "NUMERIC_EQUALS", type := (.object "com/example/menshen/menshen/policy/ConditionOperator"), accessFlags := 16409, slot := 9, constantValue := 0 }, { name := "NUMERIC_NOT_EQUALS", type := (.object "com/example/menshen/menshen/policy/ConditionOperator"), accessFlags := 16409, slot := 10, constantValue := 0 }, { name := "NUMERIC_LESS_THAN", type := (.object "com/example/menshen/menshen/policy/ConditionOperator"), accessFlags := 16409, slot := 11, constantValue := 0 }, { name := "NUMERIC_LESS_THAN_EQUALS", type := (.object "com/example/menshen/menshen/policy/ConditionOperator"), accessFlags := 16409, slot := 12, constantValue := 0 }, { name := "NUMERIC_GREATER_THAN", type := (.object "com/example/menshen/menshen/policy/ConditionOperator"), accessFlags := 16409, slot := 13, constantValue := 0 }, { name := "NUMERIC_GREATER_THAN_EQUALS", type := (.object "com/example/menshen/menshen/policy/ConditionOperator"), accessFlags := 16409, slot := 14, constantValue := 0 }, { name := "DATE_EQUALS", type := (.object "com/example/menshen/menshen/policy/ConditionOperator"), accessFlags := 16409, slot := 15, constantValue := 0 }, { name := "DATE_NOT_EQUALS", type := (.object "com/example/menshen/menshen/policy/ConditionOperator"), accessFlags := 16409, slot := 16, constantValue := 0 }, { name := "DATE_LESS_THAN", type := (.object "com/example/menshen/menshen/policy/ConditionOperator"), accessFlags := 16409, slot := 17, constantValue := 0 }, { name := "DATE_LESS_THAN_EQUALS", type := (.object "com/example/menshen/menshen/policy/ConditionOperator"), accessFlags := 16409, slot := 18, constantValue := 0 }, { name := "DATE_GREATER_THAN", type := (.object "com/example/menshen/menshen/policy/ConditionOperator"), accessFlags := 16409, slot := 19, constantValue := 0 }, { name := "DATE_GREATER_THAN_EQUALS", type := (.object "com/example/menshen/menshen/policy/ConditionOperator"), accessFlags := 16409, slot := 20, constantValue := 0 }, { name := "BOOL", type := (.object "com/example/menshen/menshen/policy/ConditionOperator"), accessFlags := 16409, slot := 21, constantValue := 0 }, { name := "NULL", type := (.object "com/example/menshen/menshen/policy/ConditionOperator"), accessFlags := 16409, slot := 22, constantValue := 0 }, { name := "writtenName", type := (.object "java/lang/String"), accessFlags := 18, slot := 3, constantValue := 0 }, { name := "negationOf", type := (.object "com/example/menshen/menshen/policy/ConditionOperator"), accessFlags := 18, slot := 4, constantValue := 0 }, { name := "literals", type := (.object "com/example/menshen/menshen/policy/ConditionOperator$Literals"), accessFlags := 18, slot := 5, constantValue := 0 }, { name := "$VALUES", type := (.array (.object "com/example/menshen/menshen/policy/ConditionOperator")), accessFlags := 4122, slot := 23, constantValue := 0 }]
  methods := #[k6m0, k6m1, k6m2]
  instanceTypes := #[(.object "java/lang/String"), .int, .int, (.object "java/lang/String"), (.object "com/example/menshen/menshen/policy/ConditionOperator"), (.object "com/example/menshen/menshen/policy/ConditionOperator$Literals")]
  staticTypes := #[(.object "com/example/menshen/menshen/policy/ConditionOperator"), (.object "com/example/menshen/menshen/policy/ConditionOperator"), (.object "com/example/menshen/menshen/policy/ConditionOperator"), (.object "com/example/menshen/menshen/policy/ConditionOperator"), (.object "com/example/menshen/menshen/policy/ConditionOperator"), (.object "com/example/menshen/menshen/policy/ConditionOperator"), (.object "com/example/menshen/menshen/policy/ConditionOperator"), (.object "com/example/menshen/menshen/policy/ConditionOperator"), (.object "com/example/menshen/menshen/policy/ConditionOperator"), (.object "com/example/menshen/menshen/policy/ConditionOperator"), (.object "com/example/menshen/menshen/policy/ConditionOperator"), (.object "com/example/menshen/menshen/policy/ConditionOperator"), (.object "com/example/menshen/menshen/policy/ConditionOperator"), (.object "com/example/menshen/menshen/policy/ConditionOperator"), (.object "com/example/menshen/menshen/policy/ConditionOperator"), (.object "com/example/menshen/menshen/policy/ConditionOperator"), (.object "com/example/menshen/menshen/policy/ConditionOperator"), (.object "com/example/menshen/menshen/policy/ConditionOperator"), (.object "com/example/menshen/menshen/policy/ConditionOperator"), (.object "com/example/menshen/menshen/policy/ConditionOperator"), (.object "com/example/menshen/menshen/policy/ConditionOperator"), (.object "com/example/menshen/menshen/policy/ConditionOperator"), (.object "com/example/menshen/menshen/policy/ConditionOperator"), (.array (.object "com/example/menshen/menshen/policy/ConditionOperator"))]
  resolved := Array.replicate 237 none
  statics := some 0 }

def pool7 : Array CpInfo := pool [(1, .class_ 2), (0, u "com/example/menshen/menshen/policy/ConditionOperator$Literals"), (2, u "NONE"), (0, u "Lcom/example/menshen/menshen/policy/ConditionOperator$Literals;"), (2, u "BOOLEANS"), (2, u "NUMBERS"), (2, u "$VALUES"), (0, u "[Lcom/example/menshen/menshen/policy/ConditionOperator$Literals;"), (6, .class_ 25), (1, u "java/lang/Enum"), (8, u "description"), (0, u "Ljava/lang/String;"), (30, .class_ 67), (0, u "com/example/menshen/menshen/policy/ConditionOperator")] 2

/-- com/example/menshen/menshen/policy/ConditionOperator$Literals -/
def k7 : Class := { plain "com/example/menshen/menshen/policy/ConditionOperator$Literals" (some 5) with
  accessFlags := 16433
  interfaces := #[]
  cf := some (fileOf pool7 1 #[.nestHost 66] #[] 16433 23 #[] #[{ accessFlags := 16409, nameIndex := 5, descriptorIndex := 6, attributes := #[] }, { accessFlags := 16409, nameIndex := 9, descriptorIndex := 6, attributes := #[] }, { accessFlags := 16409, nameIndex := 12, descriptorIndex := 6, attributes := #[] }, { accessFlags := 18, nameIndex := 34, descriptorIndex := 35, attributes := #[] }, { accessFlags := 4122, nameIndex := 15, descriptorIndex := 16, attributes := #[] }])
  fields := #[{ name := "NONE", type := (.object "com/example/menshen/menshen/policy/ConditionOperator$Literals"), accessFlags := 16409, slot := 0, constantValue := 0 }, { name := "BOOLEANS", type := (.object "com/example/menshen/menshen/policy/ConditionOperator$Literals"), accessFlags := 16409, slot := 1, constantValue := 0 }, { name := "NUMBERS", type := (.object "com/example/menshen/menshen/policy/ConditionOperator$Literals"), accessFlags := 16409, slot := 2, constantValue := 0 }, { name := "description", type := (.object "java/lang/String"), accessFlags := 18, slot := 3, constantValue := 0 }, { name := "$VALUES", type := (.array (.object "com/example/menshen/menshen/policy/ConditionOperator$Literals")), accessFlags := 4122, slot := 3, constantValue := 0 }]
  methods := #[]
  instanceTypes := #[(.object "java/lang/String"), .int, .int, (.object "java/lang/String")]
  staticTypes := #[(.object "com/example/menshen/menshen/policy/ConditionOperator$Literals"), (.object "com/example/menshen/menshen/policy/ConditionOperator$Literals"), (.object "com/example/menshen/menshen/policy/ConditionOperator$Literals"), (.array (.object "com/example/menshen/menshen/policy/ConditionOperator$Literals"))]
  resolved := Array.replicate 70 none
  statics := some 1 }

def pool8 : Array CpInfo := pool [(1, u "java/lang/Cloneable"), (0, .class_ 1), (0, u "java/lang/Object"), (0, .class_ 3)] 3

/-- java/lang/Cloneable -/
def k8 : Class := { plain "java/lang/Cloneable" (some 0) with
  accessFlags := 1537
  interfaces := #[]
  cf := some (fileOf pool8 2 #[] #[] 1537 4 #[] #[])
  fields := #[]
  methods := #[]
  instanceTypes := #[]
  staticTypes := #[]
  resolved := Array.replicate 8 none
  statics := none }

/-- the primitive byte -/
def k9 : Class := { plain "byte" none with kind := .primitive 'B', accessFlags := 0x411 }
/-- [B -/
def k10 : Class := { plain "[B" (some 0) with kind := .array 9 .byte, interfaces := #[8, 4], accessFlags := 1041 }

/-- the primitive int -/
def k11 : Class := { plain "int" none with kind := .primitive 'I', accessFlags := 0x411 }
/-- [I -/
def k12 : Class := { plain "[I" (some 0) with kind := .array 11 .int, interfaces := #[8, 4], accessFlags := 1041 }

/-- [Lcom/example/menshen/menshen/policy/ConditionOperator; -/
def k13 : Class := { plain "[Lcom/example/menshen/menshen/policy/ConditionOperator;" (some 0) with kind := .array 6 (.object "com/example/menshen/menshen/policy/ConditionOperator"), interfaces := #[8, 4], accessFlags := 1041 }

def heap : Heap := #[{ cls := 6, slots := #[.ref 2, .ref 3, .ref 4, .ref 5, .ref 6, .ref 7, .ref 8, .ref 9, .ref 10, .ref 11, .ref 12, .ref 13, .ref 14, .ref 15, .ref 16, .ref 17, .ref 18, .ref 19, .ref 20, .ref 21, .ref 22, .ref 23, .ref 24, .null], vm := .statics 6 },
  { cls := 7, slots := #[.ref 25, .ref 27, .ref 26, .null], vm := .statics 7 },
  { cls := 6, slots := #[.null, .int 0, .int 0, .null, .null, .ref 25], vm := .none },
  { cls := 6, slots := #[.null, .int 1, .int 0, .null, .ref 2, .ref 25], vm := .none },
  { cls := 6, slots := #[.null, .int 2, .int 0, .null, .ref 2, .ref 25], vm := .none },
  { cls := 6, slots := #[.null, .int 3, .int 0, .null, .null, .ref 25], vm := .none },
  { cls := 6, slots := #[.null, .int 4, .int 0, .null, .ref 5, .ref 25], vm := .none },
  { cls := 6, slots := #[.null, .int 5, .int 0, .null, .null, .ref 25], vm := .none },
  { cls := 6, slots := #[.null, .int 6, .int 0, .null, .ref 7, .ref 25], vm := .none },
  { cls := 6, slots := #[.null, .int 7, .int 0, .null, .null, .ref 25], vm := .none },
  { cls := 6, slots := #[.null, .int 8, .int 0, .null, .ref 9, .ref 25], vm := .none },
  { cls := 6, slots := #[.null, .int 9, .int 0, .null, .null, .ref 26], vm := .none },
  { cls := 6, slots := #[.null, .int 10, .int 0, .null, .ref 11, .ref 26], vm := .none },
  { cls := 6, slots := #[.null, .int 0, .int 0, .null, .null, .ref 26], vm := .none },
  { cls := 6, slots := #[.null, .int 0, .int 0, .null, .null, .ref 26], vm := .none },
  { cls := 6, slots := #[.null, .int 0, .int 0, .null, .null, .ref 26], vm := .none },
  { cls := 6, slots := #[.null, .int 0, .int 0, .null, .null, .ref 26], vm := .none },
  { cls := 6, slots := #[.null, .int 15, .int 0, .null, .null, .ref 26], vm := .none },
  { cls := 6, slots := #[.null, .int 16, .int 0, .null, .ref 17, .ref 26], vm := .none },
  { cls := 6, slots := #[.null, .int 0, .int 0, .null, .null, .ref 26], vm := .none },
  { cls := 6, slots := #[.null, .int 0, .int 0, .null, .null, .ref 26], vm := .none },
  { cls := 6, slots := #[.null, .int 0, .int 0, .null, .null, .ref 26], vm := .none },
  { cls := 6, slots := #[.null, .int 0, .int 0, .null, .null, .ref 26], vm := .none },
  { cls := 6, slots := #[.null, .int 0, .int 0, .null, .null, .ref 27], vm := .none },
  { cls := 6, slots := #[.null, .int 0, .int 0, .null, .null, .ref 27], vm := .none },
  { cls := 7, slots := #[.null, .int 0, .int 0, .null], vm := .none },
  { cls := 7, slots := #[.null, .int 0, .int 0, .null], vm := .none },
  { cls := 7, slots := #[.null, .int 0, .int 0, .null], vm := .none }]
def classes : Array Class := #[k0, k1, k2, k3, k4, k5, k6, k7, k8, k9, k10, k11, k12, k13]
def interned : List (Array UInt16 × Addr) := []
def slotsUsed : Nat := 178
def theMethod : MethodId := ⟨1, 1⟩
def args0 : Array Value := #[.int 5]
def aboutOver (below : List Frame) : State where
  vm := { classes := classes, interned := interned.toArray }
  heap := heap
  slotsUsed := slotsUsed
  threads := #[{ frames := .invoking theMethod args0 :: below }]
def below0 : List Frame := [.native { method := ⟨0, 0⟩, args := #[] }]
def about1 : State := aboutOver below0
def p0 : Program := .bare "" "" ""
def e0 : Env := launch0.env 0 0 0
theorem w_frames : about1.frames = Frame.invoking theMethod args0 :: below0 := rfl
set_option maxRecDepth 65536 in
theorem w_args : argsFit about1.vm theMethod args0 = true := by decide +kernel
set_option maxRecDepth 65536 in
theorem w_heap : heapFits about1 = true := by decide +kernel
set_option maxRecDepth 65536 in
theorem w_runnable : about1.curStatus? = some .runnable := by decide +kernel
set_option maxRecDepth 65536 in
theorem w_alone : about1.alone = true := by decide +kernel
set_option maxRecDepth 65536 in
theorem w_named : about1.methodNamed? x = some theMethod := by decide +kernel
set_option maxRecDepth 65536 in
theorem w_hears : about1.hears theMethod below0 = true := by decide +kernel
set_option maxRecDepth 65536 in
theorem w_ripe : about1.ripe theMethod args0 below0 = true := by decide +kernel
theorem w_running : about1.status = .running := rfl
set_option maxRecDepth 65536 in
theorem w_room : about1.hasRoom e0.platform room_1 = true :=
  launch0.hasRoom_least _ room_1 (by decide +kernel) (by decide +kernel) (by decide +kernel) (by decide +kernel) (by decide +kernel) (by decide +kernel)
theorem allAtoms_all (ts : List Jvm.Cond) (a : Array Jvm.Value) (st : Jvm.State) : (allAtoms ts).before a st = ts.all (fun c => c.before a st) := by
  induction ts with
  | nil => rfl
  | cons c t ih =>
    show (Jvm.Cond.and c (allAtoms t)).before a st = _
    rw [Jvm.Cond.before_and, ih, List.all_cons]
def words1 : List Jvm.Cond := Jvm.Cond.code x code maxLocals ret :: tables_1
/-- a 'code' word, met by the world's own term for the bytes: nothing is compared byte by byte -/
theorem code_word {y : MethodName} {bytes : ByteArray} {mx : Nat} {rt : Option FieldType} {a : Array Value} {s : State} {m : MethodId} {meth : Method} {c : Code} (h1 : s.methodNamed? y = some m) (h2 : s.vm.method? m = some meth) (h3 : meth.code = some c) (h4 : c.code = bytes)
    (h5 : (c.maxLocals == mx && c.exceptionTable.isEmpty && decide (c.maxStack ≤ mostOperands) && decide (meth.sig.returnType = rt) && !meth.locks && decide (parseMethodDescriptor y.desc = some meth.sig)) = true) : (Jvm.Cond.code y bytes mx rt).before a s = true := by
  simp only [Bool.and_eq_true, beq_iff_eq, Bool.not_eq_true', decide_eq_true_eq] at h5
  obtain ⟨⟨⟨⟨⟨g1, g2⟩, g3⟩, g4⟩, g5⟩, g6⟩ := h5
  simp [Cond.before, Cond.holds, Cond.value, h1, h2, h3, h4, g1, g2, g3, g4, g5, g6]
def isCode : Jvm.Cond → Bool
  | .code _ _ _ _ => true
  | _ => false
theorem all_split {L : List Jvm.Cond} {P : Jvm.Cond → Bool} (h1 : L.all (fun c => isCode c || P c) = true) (h2 : ∀ c ∈ L.filter isCode, P c = true) : L.all P = true := by
  refine List.all_eq_true.mpr fun c hc => ?_
  have h := List.all_eq_true.mp h1 c hc
  rcases Bool.eq_false_or_eq_true (isCode c) with hi | hi
  · exact h2 c (List.mem_filter.mpr ⟨hc, hi⟩)
  · simpa [hi] using h
set_option maxRecDepth 65536 in
theorem w_c0 : (Jvm.Cond.code x code maxLocals ret).before args0 about1 = true := code_word (m := ⟨1, 1⟩) (meth := k1m1) (c := k1c1) (by decide +kernel) rfl rfl rfl (by decide +kernel)
set_option maxRecDepth 65536 in
theorem w_c1 : (Jvm.Cond.code ({ cls := "com/example/menshen/menshen/policy/ConditionOperator", name := "positive", desc := "()Lcom/example/menshen/menshen/policy/ConditionOperator;" } : Jvm.MethodName) prog_22_method_9_code (1 : Nat) (Option.some (Jvm.ClassFile.FieldType.object "com/example/menshen/menshen/policy/ConditionOperator"))).before args0 about1 = true := code_word (m := ⟨6, 2⟩) (meth := k6m2) (c := k6c2) (by decide +kernel) rfl rfl rfl (by decide +kernel)
set_option maxRecDepth 65536 in
theorem w_c2 : (Jvm.Cond.code ({ cls := "com/example/menshen/menshen/policy/ConditionOperator", name := "isNegated", desc := "()Z" } : Jvm.MethodName) prog_22_method_7_code (1 : Nat) (Option.some Jvm.ClassFile.FieldType.boolean)).before args0 about1 = true := code_word (m := ⟨6, 0⟩) (meth := k6m0) (c := k6c0) (by decide +kernel) rfl rfl rfl (by decide +kernel)
set_option maxRecDepth 65536 in
theorem w_c3 : (Jvm.Cond.code ({ cls := "com/example/menshen/menshen/policy/ConditionOperator", name := "literals", desc := "()Lcom/example/menshen/menshen/policy/ConditionOperator$Literals;" } : Jvm.MethodName) prog_22_method_8_code (1 : Nat) (Option.some (Jvm.ClassFile.FieldType.object "com/example/menshen/menshen/policy/ConditionOperator$Literals"))).before args0 about1 = true := code_word (m := ⟨6, 1⟩) (meth := k6m1) (c := k6c1) (by decide +kernel) rfl rfl rfl (by decide +kernel)
def codes1 : List Jvm.Cond := [Jvm.Cond.code x code maxLocals ret, Jvm.Cond.code ({ cls := "com/example/menshen/menshen/policy/ConditionOperator", name := "positive", desc := "()Lcom/example/menshen/menshen/policy/ConditionOperator;" } : Jvm.MethodName) prog_22_method_9_code (1 : Nat) (Option.some (Jvm.ClassFile.FieldType.object "com/example/menshen/menshen/policy/ConditionOperator")), Jvm.Cond.code ({ cls := "com/example/menshen/menshen/policy/ConditionOperator", name := "isNegated", desc := "()Z" } : Jvm.MethodName) prog_22_method_7_code (1 : Nat) (Option.some Jvm.ClassFile.FieldType.boolean), Jvm.Cond.code ({ cls := "com/example/menshen/menshen/policy/ConditionOperator", name := "literals", desc := "()Lcom/example/menshen/menshen/policy/ConditionOperator$Literals;" } : Jvm.MethodName) prog_22_method_8_code (1 : Nat) (Option.some (Jvm.ClassFile.FieldType.object "com/example/menshen/menshen/policy/ConditionOperator$Literals"))]
set_option maxRecDepth 65536 in
theorem codes_eq : words1.filter isCode = codes1 := rfl
theorem w_codes : ∀ c ∈ words1.filter isCode, c.before args0 about1 = true := by
  rw [codes_eq]
  intro c hc
  simp only [codes1, List.mem_cons, List.not_mem_nil, or_false] at hc
  rcases hc with rfl | rfl | rfl | rfl
  · exact w_c0
  · exact w_c1
  · exact w_c2
  · exact w_c3
set_option maxRecDepth 65536 in
theorem w_t1 : (words1.take 24).all (fun c => isCode c || c.before args0 about1) = true := by decide +kernel
set_option maxRecDepth 65536 in
theorem w_t2 : ((words1.drop 24).take 24).all (fun c => isCode c || c.before args0 about1) = true := by decide +kernel
set_option maxRecDepth 65536 in
theorem w_t3 : (((words1.drop 24).drop 24).take 24).all (fun c => isCode c || c.before args0 about1) = true := by decide +kernel
set_option maxRecDepth 65536 in
theorem w_t4 : (((words1.drop 24).drop 24).drop 24).all (fun c => isCode c || c.before args0 about1) = true := by decide +kernel
theorem w_tables : (allAtoms (Jvm.Cond.code x code maxLocals ret :: tables_1)).before args0 about1 = true := by
  rw [allAtoms_all]
  show words1.all (fun c => c.before args0 about1) = true
  refine all_split ?_ w_codes
  rw [← List.take_append_drop 24 words1, List.all_append, w_t1, ← List.take_append_drop 24 (words1.drop 24), List.all_append, w_t2, ← List.take_append_drop 24 ((words1.drop 24).drop 24), List.all_append, w_t3, w_t4]
  rfl
set_option maxRecDepth 65536 in
theorem w_case : (Jvm.Cond.and given_1 narrow_1).before args0 about1 = true := by decide +kernel
theorem w_applies : (headSpec (Jvm.Cond.code x code maxLocals ret :: tables_1) room_1).applies x e0.platform about1 = true :=
  (Spec.applies_iff w_frames).mpr ⟨w_running, w_runnable, w_alone, w_named, w_hears, w_ripe, w_room, w_tables⟩
theorem atStart : AtStart classFile x code maxLocals ret World_1 tables_1 room_1 Calls_1 rest_1 Pre_1 launch0 p0 e0 about1 theMethod args0 below0 :=
  ⟨lists_1, trivial, launch0.admits_env _ _ _, launch0.least_env, fairChoices_fair.cas, fairChoices_fair.clock, w_frames, w_args, w_heap, w_applies, trivial, trivial, w_case⟩
end start1
theorem witness_1 : WitnessClaimed_1 := ⟨start1.p0, start1.e0, start1.about1, start1.theMethod, start1.args0, start1.below0, start1.atStart⟩
end Jvm.Pilot.@@N@@
