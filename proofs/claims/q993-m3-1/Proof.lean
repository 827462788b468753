import JvmDerived
import JvmDerived.Pilot.@@N@@Statement
import JvmDerived.Pilot.@@N@@Code
set_option linter.unusedVariables false
set_option linter.unusedSimpArgs false
namespace Jvm.RoadKit
open Sem ClassFile Op Lib Jvm.Stand Jvm.Free Jvm.LawKit
section New
variable {p : Program} {l : Launch} {e : Env} {R : Room} {s : State} {m : MethodId} {args : Array Value} {below : List Frame} {meth : Method} {c : Code} {T : State} {locs : List Loc} {cells slots : Nat}
theorem retI (X : Stand p l e R s m args below meth c T locs cells slots) (hx : p.tables.exec = Jvm.exec) {pc : Nat} {Ls : Array Slot} {z : Int32} {rest : List Value} (hret : meth.sig.returnType = some .int) (hd : decode c.code pc = .ok (.ireturn, 1)) {fs : List Frame}
    (hl : ∀ (f : JFrame) (acts : List Action), f.method = m → f.locked = none → f.entered = [] → (doReturn e (T.setTop f) acts (some (.int z))).1 = T.setFrames fs) : Steps p.tables e below (T.setTop (mkF m pc Ls (.int z :: rest))) (T.setFrames fs) := by
  have hm' : T.vm.method? m = some meth := X.method'
  have hn : narrow .int (.int z) = .int z := rfl
  show Steps p.tables e below (T.setTop { method := m, pc := pc, locals := Ls, stack := _ :: rest, locked := none }) _
  jvm_step X.here [X.here.top, hx, hd, hm', hret, hn]
  first | (intro acts; rw [hl _ acts rfl rfl rfl]) | rw [hl _ _ rfl rfl rfl]
  exact Steps.refl _
theorem own_retJ (X : Stand p l e R s m args below meth c T locs cells slots) (hx : p.tables.exec = Jvm.exec) {pc : Nat} {Ls : Array Slot} {z : Int64} {rest : List Value} (hret : meth.sig.returnType = some .long) (hd : decode c.code pc = .ok (.lreturn, 1)) {fs : List Frame}
    (hl : ∀ (f : JFrame) (acts : List Action), f.method = m → f.locked = none → f.entered = [] → (doReturn e (T.setTop f) acts (some (.long z))).1 = T.setFrames fs) : Steps p.tables e below (T.setTop (mkF m pc Ls (.long z :: rest))) (T.setFrames fs) := by
  have hm' : T.vm.method? m = some meth := X.method'
  have hn : narrow .long (.long z) = .long z := rfl
  show Steps p.tables e below (T.setTop { method := m, pc := pc, locals := Ls, stack := _ :: rest, locked := none }) _
  jvm_step X.here [X.here.top, hx, hd, hm', hret, hn]
  first | (intro acts; rw [hl _ acts rfl rfl rfl]) | rw [hl _ _ rfl rfl rfl]
  exact Steps.refl _
theorem own_cR (a : Addr) : (Value.ref a).category = 1 := rfl
theorem own_cI (a : Int32) : (Value.int a).category = 1 := rfl
theorem own_cJ (a : Int64) : (Value.long a).category = 2 := rfl
theorem own_cN : Value.null.category = 1 := rfl
theorem own_hide (X : Stand p l e R s m args below meth c T locs cells slots) {n0 : Nat} (N : Fr n0 locs) : ∃ lo, Stand p l e R s m args below meth c T lo cells slots ∧ Fr n0 lo := ⟨locs, X, N⟩
theorem own_catV {v : Value} (h : v.isRef = true) : v.category = 1 := by cases v <;> first | rfl | cases h
theorem own_retA (X : Stand p l e R s m args below meth c T locs cells slots) (hx : p.tables.exec = Jvm.exec) {pc : Nat} {Ls : Array Slot} {w : Value} {t : FieldType} {rest : List Value} (hret : meth.sig.returnType = some t) (ht : t.isReference = true) (hw : w.isRef = true) (hd : decode c.code pc = .ok (.areturn, 1)) {fs : List Frame}
    (hl : ∀ (f : JFrame) (acts : List Action), f.method = m → f.locked = none → f.entered = [] → (doReturn e (T.setTop f) acts (some w)).1 = T.setFrames fs) : Steps p.tables e below (T.setTop (mkF m pc Ls (w :: rest))) (T.setFrames fs) := by
  have hm' : T.vm.method? m = some meth := X.method'
  show Steps p.tables e below (T.setTop { method := m, pc := pc, locals := Ls, stack := w :: rest, locked := none }) _
  jvm_step X.here [X.here.top, hx, hd, hm', hret, ht, hw]
  first | (intro acts; rw [hl _ acts rfl rfl rfl]) | rw [hl _ _ rfl rfl rfl]
  exact Steps.refl _
variable {Z : State} {h : Heap}
theorem own_len (X : Stand p l e R s m args below meth c T locs cells slots) (hx : p.tables.exec = Jvm.exec) (hZ : Z.Warmed39 s.vm) (eT : T.heap = h) {a : Addr} {k : ClassId} {ty : FieldType} {z : Int32} {vs : List Value} {dv : Value} (F : Arv Z h a k ty z vs dv) {g : JFrame} (hg : g.method = m) {rest : List Value} (hs : g.stack = .ref a :: rest) (hd : decode c.code g.pc = .ok (.arraylength, 1)) (target : State)
    (hr : Steps p.tables e below (T.setTop { g with pc := g.pc + 1, stack := .int z :: rest }) target) : Steps p.tables e below (T.setTop g) target := by
  obtain ⟨cl, A, -, S, N, -, -⟩ := F
  refine X.arraylength hx (by rw [eT]; exact A.1) (State.isArrayOf_alike hZ.alike A.2.1) hg hs hd _ ?_
  rw [len_of S N]; exact hr
theorem own_aaload (X : Stand p l e R s m args below meth c T locs cells slots) (hx : p.tables.exec = Jvm.exec) (hZ : Z.Warmed39 s.vm) (eT : T.heap = h) {a : Addr} {k : ClassId} {ty : FieldType} {z : Int32} {vs : List Value} {dv : Value} (F : Arv Z h a k ty z vs dv) (hty : ty.isReference = true) {j : Int32} (hj : ¬ j < 0 ∧ j < z) {v : Value} (hv : vs.getD j.toNatClampNeg dv = v) {g : JFrame} (hg : g.method = m) {rest : List Value} (hs : g.stack = .int j :: .ref a :: rest) (hd : decode c.code g.pc = .ok (.aaload, 1)) (target : State)
    (hr : Steps p.tables e below (T.setTop { g with pc := g.pc + 1, stack := v :: rest }) target) : Steps p.tables e below (T.setTop g) target := by
  obtain ⟨cl, A, -, S, N, H, -⟩ := F
  have hin := inb_of S hj
  exact X.aaload hx (by rw [eT]; exact A.1) (State.isArrayOf_alike hZ.alike A.2.1) hty A.2.2 hin (H.at hin hv) hg hs hd _ hr
theorem own_baload (X : Stand p l e R s m args below meth c T locs cells slots) (hx : p.tables.exec = Jvm.exec) (hZ : Z.Warmed39 s.vm) (eT : T.heap = h) {a : Addr} {k : ClassId} {z : Int32} {vs : List Value} {dv : Value} (F : Arv Z h a k .byte z vs dv) {j : Int32} (hj : ¬ j < 0 ∧ j < z) {v : Value} (hv : vs.getD j.toNatClampNeg dv = v) {g : JFrame} (hg : g.method = m) {rest : List Value} (hs : g.stack = .int j :: .ref a :: rest) (hd : decode c.code g.pc = .ok (.baload, 1)) (target : State)
    (hr : Steps p.tables e below (T.setTop { g with pc := g.pc + 1, stack := v :: rest }) target) : Steps p.tables e below (T.setTop g) target := by
  obtain ⟨cl, A, -, S, N, H, -⟩ := F
  have hin := inb_of S hj
  exact X.baloadBytes hx (by rw [eT]; exact A.1) (State.isArrayOf_alike hZ.alike A.2.1) A.2.2 hin (H.at hin hv) hg hs hd _ hr
theorem own_stR (X : Stand p l e R s m args below meth c T locs cells slots) (hx : p.tables.exec = Jvm.exec) (hZ : Z.Warmed39 s.vm) (eT : T.heap = h) {a y : Addr} {k : ClassId} {C : String} {z : Int32} {vs : List Value} {dv : Value} (F : Arv Z h a k (.object C) z vs dv) (O : Ovr Z k C) (I : Ins Z h y C true) {j : Int32} (hj : ¬ j < 0 ∧ j < z) {i : Nat} (hi : j.toNatClampNeg = i) (hl : i < vs.length) {g : JFrame} (hg : g.method = m) {rest : List Value} (hs : g.stack = .ref y :: .int j :: .ref a :: rest) (hd : decode c.code g.pc = .ok (.aastore, 1)) :
    ∃ T' h', Stand p l e R s m args below meth c T' (locs ++ [⟨a, j.toNatClampNeg⟩]) cells slots ∧ T'.heap = h' ∧ Wr h h' a j.toNatClampNeg (.ref y) ∧ Arv Z h' a k (.object C) z (vs.set i (.ref y)) dv ∧ ∀ target, Steps p.tables e below (T'.setTop { g with pc := g.pc + 1, stack := rest }) target → Steps p.tables e below (T.setTop g) target := by
  obtain ⟨cl, A, q, S, N, H, G⟩ := F
  obtain ⟨T', h', X', e', W, st⟩ := stR X hx hZ eT A (inb_of S hj) rfl (Sto.ofV A q O I) hg hs hd
  exact ⟨T', h', X', e', W, Arv.set A q S N H G rfl W i hi hl, st⟩
theorem own_stC (X : Stand p l e R s m args below meth c T locs cells slots) (hx : p.tables.exec = Jvm.exec) (hZ : Z.Warmed39 s.vm) (eT : T.heap = h) {a : Addr} {k : ClassId} {z x : Int32} {vs : List Value} {dv : Value} (F : Arv Z h a k .char z vs dv) {j : Int32} (hj : ¬ j < 0 ∧ j < z) {i : Nat} (hi : j.toNatClampNeg = i) (hl : i < vs.length) {g : JFrame} (hg : g.method = m) {rest : List Value} (hs : g.stack = .int x :: .int j :: .ref a :: rest) (hd : decode c.code g.pc = .ok (.castore, 1)) :
    ∃ T' h', Stand p l e R s m args below meth c T' (locs ++ [⟨a, j.toNatClampNeg⟩]) cells slots ∧ T'.heap = h' ∧ Wr h h' a j.toNatClampNeg (.int (nar .char x)) ∧ Arv Z h' a k .char z (vs.set i (.int (nar .char x))) dv ∧ ∀ target, Steps p.tables e below (T'.setTop { g with pc := g.pc + 1, stack := rest }) target → Steps p.tables e below (T.setTop g) target := by
  obtain ⟨cl, A, q, S, N, H, G⟩ := F
  obtain ⟨T', h', X', e', W, st⟩ := stC X hx hZ eT A (inb_of S hj) hg hs hd
  exact ⟨T', h', X', e', W, Arv.set A q S N H G (fits_nar_char _) W i hi hl, st⟩
theorem own_stB (X : Stand p l e R s m args below meth c T locs cells slots) (hx : p.tables.exec = Jvm.exec) (hZ : Z.Warmed39 s.vm) (eT : T.heap = h) {a : Addr} {k : ClassId} {z x : Int32} {vs : List Value} {dv : Value} (F : Arv Z h a k .byte z vs dv) {j : Int32} (hj : ¬ j < 0 ∧ j < z) {i : Nat} (hi : j.toNatClampNeg = i) (hl : i < vs.length) {g : JFrame} (hg : g.method = m) {rest : List Value} (hs : g.stack = .int x :: .int j :: .ref a :: rest) (hd : decode c.code g.pc = .ok (.bastore, 1)) :
    ∃ T' h', Stand p l e R s m args below meth c T' (locs ++ [⟨a, j.toNatClampNeg⟩]) cells slots ∧ T'.heap = h' ∧ Wr h h' a j.toNatClampNeg (.int (nar .byte x)) ∧ Arv Z h' a k .byte z (vs.set i (.int (nar .byte x))) dv ∧ ∀ target, Steps p.tables e below (T'.setTop { g with pc := g.pc + 1, stack := rest }) target → Steps p.tables e below (T.setTop g) target := by
  obtain ⟨cl, A, q, S, N, H, G⟩ := F
  obtain ⟨T', h', X', e', W, st⟩ := stB X hx hZ eT A (inb_of S hj) hg hs hd
  exact ⟨T', h', X', e', W, Arv.set A q S N H G (fits_nar_byte _) W i hi hl, st⟩
end New
end Jvm.RoadKit
namespace Jvm.Pilot.@@N@@
open Jvm Jvm.ClassFile Sem Op Lib Jvm.Free Jvm.Stand Jvm.LawKit Jvm.RoadKit Bundle Jvm.Pilot.@@N@@.Jvm.D
abbrev oI (x : Int32) : Slot := .val (.int x)
abbrev oJ (x : Int64) : Slot := .val (.long x)
abbrev oR (a : Addr) : Slot := .val (.ref a)
abbrev oN : Slot := .val .null
abbrev oV (v : Value) : Slot := .val v
abbrev oU : Slot := .unset
abbrev oS : Slot := .second
abbrev oP (p : Program) (e : Env) (below : List Frame) (T : State) (g : JFrame) (t : State) : Prop := Steps p.tables e below (T.setTop g) t
def own_svW (Z : State) (C n d : String) (k : Nat) : Addr :=
  match k with
  | 0 => match (Term.static C n d).eval #[] Z none [] Z with | some (.ref a) => a | _ => 0
  | j + 1 => own_svW Z C n d j
termination_by k
def own_sv (Z : State) (C n d : String) : Addr := own_svW Z C n d 0
theorem own_sv_eq (Z : State) (C n d : String) : own_sv Z C n d = match (Term.static C n d).eval #[] Z none [] Z with | some (.ref a) => a | _ => 0 := by
  unfold own_sv own_svW
  rfl
theorem own_sv_of {Z : State} {args : Array Value} {C n d : String} {a : Addr} (h : (Term.static C n d).eval args Z none [] Z = some (.ref a)) : (Term.static C n d).eval args Z none [] Z = some (.ref (own_sv Z C n d)) := by
  have h' : (Term.static C n d).eval #[] Z none [] Z = some (.ref a) := h
  rw [h, own_sv_eq, h']
theorem own_at {Z : State} {args : Array Value} {C n d K : String} (h : (Cond.exactly (Term.static C n d) K).value args Z none Z [] = some true) : (Term.static C n d).eval args Z none [] Z = some (.ref (own_sv Z C n d)) := by
  obtain ⟨a, ha⟩ := exa_v h
  exact own_sv_of ha
theorem own_sta {Z : State} {args : Array Value} {C n d K : String} (h : (Cond.exactly (Term.static C n d) K).value args Z none Z [] = some true) (hi : (Cond.initializedFor C n d).before args Z = true ∨ ((Cond.initialized C).before args Z = true ∧ (Cond.laysStatic C n d).before args Z = true)) : Sta Z Z.heap C n d (.ref (own_sv Z C n d)) := Sta.start (own_at h) hi
theorem own_exa {Z : State} {args : Array Value} {C n d K : String} (h : (Cond.exactly (Term.static C n d) K).value args Z none Z [] = some true) : Exa Z Z.heap (own_sv Z C n d) K := Exa.start (own_at h) h
theorem own_fldV {Z : State} {args : Array Value} {C n d O f fd : String} {v : Value} (h : (Term.field (Term.static C n d) O f fd).eval args Z none [] Z = some v) : Fld Z Z.heap (own_sv Z C n d) O f fd v := by
  obtain ⟨a, ha⟩ := fld_v h
  rw [fld_at (own_sv_of ha)] at h
  exact Fld.start h
theorem own_fldI {Z : State} {args : Array Value} {C n d O f fd : String} {k : Int32} (h : (Cond.eq (Term.field (Term.static C n d) O f fd) (Term.int k)).value args Z none Z [] = some true) : Fld Z Z.heap (own_sv Z C n d) O f fd (.int k) := by
  refine own_fldV (args := args) ?_
  cases hv : (Term.field (Term.static C n d) O f fd).eval args Z none [] Z with
  | none => simp [Cond.value, hv] at h
  | some v => cases v <;> simp_all [Cond.value, Term.eval]
abbrev own_Q (Q : Option Value → Heap → List Loc → Prop) (v : Option Value) (h : Heap) (L : List Loc) : Prop := Q v h L
theorem own_ite {P : Addr → Prop} {c : Prop} [Decidable c] {a b : Addr} (ha : P a) (hb : P b) : P (if c then a else b) := by split <;> assumption
theorem own_clamp (x : Int32) : x.toNatClampNeg = x.toInt.toNat := rfl
theorem own_and_le (x c : Int32) (hc : 0 ≤ c.toInt) : 0 ≤ (x &&& c).toInt ∧ (x &&& c).toInt ≤ c.toInt := by
  have hm : c.toBitVec.msb = false := by
    cases h : c.toBitVec.msb with
    | false => rfl
    | true =>
      have := BitVec.toInt_neg_of_msb_true h
      rw [Int32.toInt_toBitVec] at this
      omega
  have h : (x &&& c).toBitVec.msb = false := by
    rw [Int32.toBitVec_and, BitVec.msb_and, hm]; simp
  have e1 : (x &&& c).toInt = ((x &&& c).toBitVec.toNat : Int) := by
    rw [← Int32.toInt_toBitVec, BitVec.toInt_eq_toNat_of_msb h]
  have e2 : c.toInt = (c.toBitVec.toNat : Int) := by
    rw [← Int32.toInt_toBitVec, BitVec.toInt_eq_toNat_of_msb hm]
  have h3 : (x &&& c).toBitVec.toNat ≤ c.toBitVec.toNat := by
    rw [Int32.toBitVec_and, BitVec.toNat_and]; exact Nat.and_le_right
  omega
theorem own_rem {x y : Int32} (hx : 0 ≤ x.toInt) (hy : 0 < y.toInt) : (x - (x / y) * y).toInt = x.toInt % y.toInt := by
  have h1 : (x / y).toInt = x.toInt / y.toInt := by
    rw [Int32.toInt_div]
    rw [Int.tdiv_eq_ediv_of_nonneg hx]
    have := Int32.toInt_lt x
    have h2 : 0 ≤ x.toInt / y.toInt := Int.ediv_nonneg hx (by omega)
    have h3 : x.toInt / y.toInt ≤ x.toInt := Int.ediv_le_self _ hx
    apply Int.bmod_eq_of_le <;> omega
  rw [Int32.toInt_sub, Int32.toInt_mul, h1]
  have h2 : 0 ≤ x.toInt / y.toInt * y.toInt := Int.mul_nonneg (Int.ediv_nonneg hx (by omega)) (by omega)
  have h3 : x.toInt / y.toInt * y.toInt ≤ x.toInt := Int.ediv_mul_le _ (by omega)
  have h4 := Int32.toInt_lt x
  rw [Int.bmod_eq_of_le (n := x.toInt / y.toInt * y.toInt) (by omega) (by omega)]
  have h5 : x.toInt - x.toInt / y.toInt * y.toInt = x.toInt % y.toInt := by
    have := Int.emod_add_mul_ediv x.toInt y.toInt
    have h6 : x.toInt / y.toInt * y.toInt = y.toInt * (x.toInt / y.toInt) := Int.mul_comm _ _
    omega
  rw [h5]
  have h6 := Int.emod_nonneg x.toInt (b := y.toInt) (by omega)
  have h7 := Int.emod_lt_of_pos x.toInt hy
  have h8 := Int32.toInt_lt y
  apply Int.bmod_eq_of_le <;> omega
theorem own_mem {i : Int32} {n : Nat} (h0 : 0 ≤ i.toInt) (h1 : i.toInt < n) : ∃ k, k < n ∧ i = Int32.ofNat k := by
  refine ⟨i.toInt.toNat, by omega, ?_⟩
  apply Int32.toInt_inj.mp
  have := Int32.toInt_lt i
  rw [Int32.toInt_ofNat_of_lt (by omega)]
  omega
theorem own_old_le {Z : State} {n0 : Nat} {h : Heap} (O : Old Z n0 h) : n0 ≤ h.size := O.1 ▸ O.2.1
def own_Vals (Z : State) (a : Addr) (ty : FieldType) (z : Int32) (vs : List Value) (dv : Value) : Prop := ∃ cl : Cell, Arr Z Z.heap a cl ty ∧ FitC Z cl ∧ cl.slots.size = z.toNatClampNeg ∧ Has cl vs dv ∧ ∀ i, i < cl.slots.size → fits ty (vs.getD i dv) = true
theorem own_clone {Z : State} {h : Heap} {b : Addr} {cl : Cell} {ty : FieldType} {z : Int32} {vs : List Value} {dv : Value} (A : Arr Z h b (cloneOf cl) ty) (S : cl.slots.size = z.toNatClampNeg) (hz : ¬ z < 0) (H : Has cl vs dv) (G : ∀ i, i < cl.slots.size → fits ty (vs.getD i dv) = true) : Arv Z h b cl.cls ty z vs dv := ⟨_, A, rfl, S, hz, H, G⟩
theorem own_elem {Z : State} {args : Array Value} {C n d C2 n2 d2 : String} {i : Int32} {cl : Cell} {ty : FieldType} {j : Nat} (h : (Cond.eq (Term.elem (Term.static C n d) (Term.int i)) (Term.static C2 n2 d2)).value args Z none Z [] = some true) (ht : (Term.static C2 n2 d2).eval args Z none [] Z = some (.ref (own_sv Z C2 n2 d2))) (A : Arr Z Z.heap (own_sv Z C n d) cl ty) (hj : i.toNatClampNeg = j) : cl.slots[j]? = some (.ref (own_sv Z C2 n2 d2)) := by
  subst hj
  have hi : (Term.int i).eval args Z none [] Z = some (.int i) := Term.int_eval i
  cases hv : (Term.elem (Term.static C n d) (Term.int i)).eval args Z none [] Z with
  | none => simp [Cond.value, hv] at h
  | some w =>
    obtain ⟨⟨x, hx⟩, -⟩ := elem_v hv
    have h2 := (elem_in hv (own_sv_of hx) hi A.1).2
    rw [h2]
    cases w <;> simp_all [Cond.value]
theorem own_getD {P : Value → Prop} {dv : Value} (hd : P dv) : ∀ (vs : List Value) (h : ∀ v ∈ vs, P v) (i : Nat), P (vs.getD i dv)
  | [], _, _ => by simpa using hd
  | v :: vs, h, 0 => h v (List.mem_cons_self ..)
  | v :: vs, h, i + 1 => own_getD hd vs (fun w hw => h w (List.mem_cons_of_mem _ hw)) i
theorem own_vals {Z : State} {args : Array Value} {C n d C2 : String} {k : Int32} {vs : List Value} (hf : Fit Z) (h1 : (Cond.arrayOf (Term.static C n d) (.object C2)).value args Z none Z [] = some true) (h2 : (Cond.eq (Term.length (Term.static C n d)) (Term.int k)).value args Z none Z [] = some true) (hl : k.toNatClampNeg = vs.length) (hk : ¬ k < 0)
    (h3 : ∀ cl, Arr Z Z.heap (own_sv Z C n d) cl (.object C2) → HasL cl 0 vs) (h4 : ∀ v ∈ vs, fits (.object C2) v = true) : own_Vals Z (own_sv Z C n d) (.object C2) k vs .null := by
  obtain ⟨x, hx⟩ := arr_v h1
  have ev := own_sv_of hx
  obtain ⟨cl, A⟩ := Arr.start ev h1
  have hs : cl.slots.size = k.toNatClampNeg := by
    cases hv : (Term.length (Term.static C n d)).eval args Z none [] Z with
    | none => simp [Cond.value, hv] at h2
    | some w =>
      obtain ⟨a, cell, e1, e2, e3⟩ := Term.length_spec hv
      cases ev.symm.trans e1
      have e4 := A.fin (Vm.Alike.refl _)
      cases e4.symm.trans e2
      have hlt : cl.slots.size < 2 ^ 31 := SBG.length_lt ev e4 hv
      subst e3
      have e5 : cl.slots.size.toInt32 = k := by
        have hi : (Term.int k).eval args Z none [] Z = some (.int k) := Term.int_eval k
        simpa [Cond.value, hv, hi] using h2
      rw [← e5]
      have e6 := len_toInt hlt
      simp only [own_clamp]
      omega
  have H := h3 cl A
  refine ⟨cl, A, FitC.start hf A, hs, fun i hi => ?_, fun i _ => own_getD (P := fun v => fits (.object C2) v = true) rfl vs h4 i⟩
  have := HasL.at (dv := .null) vs 0 H i (by omega)
  simpa using this
theorem own_fldN {Z : State} {args : Array Value} {C n d O f fd : String} (h : (Cond.eq (Term.field (Term.static C n d) O f fd) Term.null).value args Z none Z [] = some true) : Fld Z Z.heap (own_sv Z C n d) O f fd .null := own_fldV (args := args) (null_v h)
theorem own_fldS {Z : State} {args : Array Value} {C n d O f fd C2 n2 d2 K2 : String} (h : (Cond.eq (Term.field (Term.static C n d) O f fd) (Term.static C2 n2 d2)).value args Z none Z [] = some true) (h2 : (Cond.exactly (Term.static C2 n2 d2) K2).value args Z none Z [] = some true) : Fld Z Z.heap (own_sv Z C n d) O f fd (.ref (own_sv Z C2 n2 d2)) := by
  refine own_fldV (args := args) ?_
  have e2 := own_at h2
  cases hv : (Term.field (Term.static C n d) O f fd).eval args Z none [] Z with
  | none => simp [Cond.value, hv] at h
  | some v => cases v <;> simp_all [Cond.value]
theorem own_fldL {Z : State} {args : Array Value} {C n d O f fd : String} {k : Int64} (h : (Cond.eq (Term.field (Term.static C n d) O f fd) (Term.long k)).value args Z none Z [] = some true) : Fld Z Z.heap (own_sv Z C n d) O f fd (.long k) := by
  refine own_fldV (args := args) ?_
  cases hv : (Term.field (Term.static C n d) O f fd).eval args Z none [] Z with
  | none => simp [Cond.value, hv] at h
  | some v => cases v <;> simp_all [Cond.value, Term.eval]
theorem own_staI {Z : State} {args : Array Value} {C n d : String} {k : Int32} (h : (Cond.eq (Term.static C n d) (Term.int k)).value args Z none Z [] = some true) (hi : (Cond.initializedFor C n d).before args Z = true ∨ ((Cond.initialized C).before args Z = true ∧ (Cond.laysStatic C n d).before args Z = true)) : Sta Z Z.heap C n d (.int k) := by
  refine Sta.start (args := args) ?_ hi
  cases hv : (Term.static C n d).eval args Z none [] Z with
  | none => simp [Cond.value, hv] at h
  | some v =>
    have hk : (Term.int k).eval args Z none [] Z = some (.int k) := Term.int_eval k
    cases v <;> simp_all [Cond.value]
def own_Cache (Z : State) (a : Addr) (C : String) (n : Nat) : Prop := ∃ cl : Cell, Arr Z Z.heap a cl (.object C) ∧ cl.slots.size = n ∧ ∀ j, j < n → ∃ x, cl.slots[j]? = some (.ref x) ∧ Exa Z Z.heap x C
theorem own_nsroot {Z : State} {a0 : Array Value} {O K : String} {n : Nat} (w : (Cond.noSuperclass O).before a0 Z = true) (wk : (Cond.instantiable K n).before a0 Z = true) (hn : O ≠ K) : NS Z O K := by
  obtain ⟨c, k, h1, h2, h3, -, -⟩ := Cond.noSuperclass_spec w
  obtain ⟨t, kt, g1, -⟩ := Cond.instantiable_spec wk
  have ne := ids_ne h1 g1 hn
  refine ⟨c, t, h1, g1, fun fuel => ?_⟩
  cases fuel with
  | zero => rfl
  | succ f => simp [Vm.isSubclassAux, ne, h2, h3]
theorem own_nsno {Z : State} {a0 : Array Value} {C S K : String} {n : Nat} (w : (Cond.superclass C S).before a0 Z = true) (wk : (Cond.instantiable K n).before a0 Z = true) (m : NS Z C K) (hn : C ≠ K) : ∃ c t, Z.vm.findClass C = some c ∧ Z.vm.findClass K = some t ∧ Z.vm.assignable c t = false := by
  obtain ⟨c, t, h0, g0, n3⟩ := m
  obtain ⟨p, k, kp, h1, h2, h3, h4, h5, -, h7⟩ := Cond.superclass_spec h0 w
  obtain ⟨t', k', g1, g2, g3, g4, -⟩ := Cond.instantiable_spec wk
  cases g0.symm.trans g1
  have g5 : k'.isInterface = false := by
    cases hq : k'.isInterface with
    | false => rfl
    | true => simp [hq] at g4
  have ne := ids_ne h0 g0 hn
  refine ⟨c, t, h0, g0, ?_⟩
  show Z.vm.assignableAux (255 + 1) c t = false
  simp [Vm.assignableAux, ne, h2, g2, h5, g3, g5, Vm.isSubclass, n3]
theorem own_fitsR {v : Value} {C : String} (h : v.isRef = true) : fits (.object C) v = true := by cases v <;> simp_all [Value.isRef, fits]
def own_si (Z : State) (C n d : String) : Int32 := match (Term.static C n d).eval #[] Z none [] Z with | some (.int a) => a | _ => 0
theorem own_si_of {Z : State} {args : Array Value} {C n d : String} (h : (Cond.isInt (Term.static C n d)).value args Z none Z [] = some true) : (Term.static C n d).eval args Z none [] Z = some (.int (own_si Z C n d)) := by
  obtain ⟨x, hx⟩ := is_v h
  have h' : (Term.static C n d).eval #[] Z none [] Z = some (.int x) := hx
  rw [hx]; unfold own_si; rw [h']
theorem own_sti {Z : State} {args : Array Value} {C n d : String} (h : (Cond.isInt (Term.static C n d)).value args Z none Z [] = some true) (hi : (Cond.initializedFor C n d).before args Z = true ∨ ((Cond.initialized C).before args Z = true ∧ (Cond.laysStatic C n d).before args Z = true)) : Sta Z Z.heap C n d (.int (own_si Z C n d)) := Sta.start (own_si_of h) hi
theorem own_stn {Z : State} {args : Array Value} {C n d : String} (h : (Cond.isInt (Term.static C n d)).value args Z none Z [] = some true) (hn : (Cond.not (Cond.eq (Term.static C n d) (Term.int 0))).value args Z none Z [] = some true) : ¬ own_si Z C n d = 0 := by
  have e := own_si_of h
  have h0 : (Term.int 0).eval args Z none [] Z = some (.int 0) := Term.int_eval 0
  have q := not_v hn
  intro z
  rw [z] at e
  simp [Cond.value, e, h0] at q
theorem own_char {c x : Int32} (h : c = (x &&& (255 : Int32))) : ¬ c < 0 ∧ ¬ (255 : Int32) < c := by
  have q := own_and_le x 255 (by decide)
  rw [← h] at q
  have e : (255 : Int32).toInt = 255 := by decide
  have e0 : (0 : Int32).toInt = 0 := by decide
  rw [Int32.lt_iff_toInt_lt, Int32.lt_iff_toInt_lt, e, e0]
  omega
theorem own_narc {c : Int32} (h : ¬ c < 0 ∧ ¬ (255 : Int32) < c) : nar .char c = c := by
  rw [Int32.lt_iff_toInt_lt, Int32.lt_iff_toInt_lt] at h
  have e : (255 : Int32).toInt = 255 := by decide
  have e0 : (0 : Int32).toInt = 0 := by decide
  rw [e, e0] at h
  obtain ⟨k, hk, rfl⟩ := own_mem (i := c) (n := 256) (by omega) (by omega)
  have t : ∀ k : Fin 256, nar .char (Int32.ofNat k.val) = Int32.ofNat k.val := by decide +kernel
  exact t ⟨k, hk⟩
theorem own_hb {cs : List Int32} (h : ∀ c ∈ cs, ¬ c < 0 ∧ ¬ (255 : Int32) < c) : ∀ c ∈ cs, ¬ c < 0 ∧ ¬ (65535 : Int32) < c := fun c hc => by
  have q := h c hc
  refine ⟨q.1, fun z => q.2 ?_⟩
  rw [Int32.lt_iff_toInt_lt] at z ⊢
  have e : (255 : Int32).toInt = 255 := by decide
  have e0 : (65535 : Int32).toInt = 65535 := by decide
  omega
theorem own_eqv {v : Option Value} {cs ds : List Int32} (h : (v = some (.int 1) ∧ cs = ds) ∨ (v = some (.int 0) ∧ ¬ cs = ds)) : v = some (.int (if cs = ds then (1 : Int32) else (0 : Int32))) := by
  rcases h with ⟨h1, h2⟩ | ⟨h1, h2⟩
  · rw [if_pos h2]; exact h1
  · rw [if_neg h2]; exact h1
theorem own_since (s : State) : s.Since s.vm 0 := (State.WarmedH.refl s).since 0
theorem own_rwmono {s t : State} {o : Outcome} {L : List Loc} {k n k' n' : Nat} (h : ReturnedEndW s o t L k n) (hk : k ≤ k') (hn : n ≤ n') : ReturnedEndW s o t L k' n' := ⟨h.1, h.2.1, h.2.2.1, h.2.2.2.mono hk hn⟩
theorem own_cache {Z : State} {args : Array Value} {C n d K : String} {k : Int32} {N : Nat} {rest : Cond} (h1 : (Cond.arrayOf (Term.static C n d) (.object K)).value args Z none Z [] = some true) (h2 : (Cond.eq (Term.length (Term.static C n d)) (Term.int k)).value args Z none Z [] = some true)
    (h3 : (Cond.all (Term.static C n d) (.and (.exactly (.elem (Term.static C n d) (.index 0)) K) rest)).value args Z none Z [] = some true) (hN : k.toNatClampNeg = N) : own_Cache Z (own_sv Z C n d) K N := by
  obtain ⟨x, hx⟩ := arr_v h1
  have ev := own_sv_of hx
  obtain ⟨cl, A⟩ := Arr.start ev h1
  have e4 := A.fin (Vm.Alike.refl _)
  have hs : cl.slots.size = k.toNatClampNeg ∧ cl.slots.size < 2 ^ 31 := by
    cases hv : (Term.length (Term.static C n d)).eval args Z none [] Z with
    | none => simp [Cond.value, hv] at h2
    | some w =>
      obtain ⟨a, cell, e1, e2, e3⟩ := Term.length_spec hv
      cases ev.symm.trans e1
      cases e4.symm.trans e2
      have hlt : cl.slots.size < 2 ^ 31 := SBG.length_lt ev e4 hv
      subst e3
      have e5 : cl.slots.size.toInt32 = k := by
        have hi : (Term.int k).eval args Z none [] Z = some (.int k) := Term.int_eval k
        simpa [Cond.value, hv, hi] using h2
      rw [← e5]
      have e6 := len_toInt hlt
      refine ⟨?_, hlt⟩
      simp only [own_clamp]
      omega
  refine ⟨cl, A, hs.1.trans hN, fun j hj => ?_⟩
  have q := Cond.all_elim ev e4 h3 j (by omega)
  obtain ⟨q1, -⟩ := and_e q
  obtain ⟨y, hy⟩ := exa_v q1
  have ev' : (Term.static C n d).eval args Z none [j] Z = some (.ref (own_sv Z C n d)) := ev
  have hj' : (Term.index 0).eval args Z none [j] Z = some (.int (Int32.ofNat j)) := Term.index_eval _
  have r := (elem_in hy ev' hj' A.1).2
  have e6 : (Int32.ofNat j).toNatClampNeg = j := by
    have := len_toInt (n := j) (by omega)
    simp only [own_clamp]
    have e7 : (Int32.ofNat j).toInt = j := this
    omega
  rw [e6] at r
  exact ⟨y, r, exa_at hy q1⟩
theorem own_cacheix {p : Int32} {cl : Cell} (h1 : ¬ p < (-128 : Int32)) (h2 : ¬ (127 : Int32) < p) (S : cl.slots.size = 256) : ¬ (p + (128 : Int32) < 0 ∨ cl.slots.size ≤ (p + (128 : Int32)).toNatClampNeg) ∧ (p + (128 : Int32)).toNatClampNeg < 256 := by
  rw [Int32.lt_iff_toInt_lt] at h1 h2 ⊢
  have e1 : (-128 : Int32).toInt = -128 := by decide
  have e2 : (127 : Int32).toInt = 127 := by decide
  have e3 : (0 : Int32).toInt = 0 := by decide
  have e4 : (128 : Int32).toInt = 128 := by decide
  have e5 : (p + (128 : Int32)).toInt = p.toInt + 128 := by
    rw [Int32.toInt_add, e4]
    apply Int.bmod_eq_of_le <;> omega
  simp only [own_clamp]
  omega
theorem own_staA {Z : State} {args : Array Value} {C n d : String} {ty : FieldType} (h : (Cond.arrayOf (Term.static C n d) ty).value args Z none Z [] = some true) (hi : (Cond.initializedFor C n d).before args Z = true ∨ ((Cond.initialized C).before args Z = true ∧ (Cond.laysStatic C n d).before args Z = true)) : Sta Z Z.heap C n d (.ref (own_sv Z C n d)) := by
  obtain ⟨a, ha⟩ := arr_v h
  exact Sta.start (own_sv_of ha) hi
end Jvm.Pilot.@@N@@
namespace Jvm.Pilot.@@N@@
open Jvm Jvm.ClassFile Sem Op Lib Jvm.Free Jvm.Stand Jvm.LawKit Jvm.RoadKit Bundle Jvm.Pilot.@@N@@.Jvm.D
def a_STRING_EQUALS (Z : State) : Addr := own_sv Z "com/example/menshen/menshen/policy/ConditionOperator" "STRING_EQUALS" "Lcom/example/menshen/menshen/policy/ConditionOperator;"
def a_STRING_NOT_EQUALS (Z : State) : Addr := own_sv Z "com/example/menshen/menshen/policy/ConditionOperator" "STRING_NOT_EQUALS" "Lcom/example/menshen/menshen/policy/ConditionOperator;"
def a_NOT_STRING_EQUALS (Z : State) : Addr := own_sv Z "com/example/menshen/menshen/policy/ConditionOperator" "NOT_STRING_EQUALS" "Lcom/example/menshen/menshen/policy/ConditionOperator;"
def a_STRING_EQUALS_IGNORE_CASE (Z : State) : Addr := own_sv Z "com/example/menshen/menshen/policy/ConditionOperator" "STRING_EQUALS_IGNORE_CASE" "Lcom/example/menshen/menshen/policy/ConditionOperator;"
def a_STRING_NOT_EQUALS_IGNORE_CASE (Z : State) : Addr := own_sv Z "com/example/menshen/menshen/policy/ConditionOperator" "STRING_NOT_EQUALS_IGNORE_CASE" "Lcom/example/menshen/menshen/policy/ConditionOperator;"
def a_STRING_LIKE (Z : State) : Addr := own_sv Z "com/example/menshen/menshen/policy/ConditionOperator" "STRING_LIKE" "Lcom/example/menshen/menshen/policy/ConditionOperator;"
def a_STRING_NOT_LIKE (Z : State) : Addr := own_sv Z "com/example/menshen/menshen/policy/ConditionOperator" "STRING_NOT_LIKE" "Lcom/example/menshen/menshen/policy/ConditionOperator;"
def a_IP_ADDRESS (Z : State) : Addr := own_sv Z "com/example/menshen/menshen/policy/ConditionOperator" "IP_ADDRESS" "Lcom/example/menshen/menshen/policy/ConditionOperator;"
def a_NOT_IP_ADDRESS (Z : State) : Addr := own_sv Z "com/example/menshen/menshen/policy/ConditionOperator" "NOT_IP_ADDRESS" "Lcom/example/menshen/menshen/policy/ConditionOperator;"
def a_NUMERIC_EQUALS (Z : State) : Addr := own_sv Z "com/example/menshen/menshen/policy/ConditionOperator" "NUMERIC_EQUALS" "Lcom/example/menshen/menshen/policy/ConditionOperator;"
def a_NUMERIC_NOT_EQUALS (Z : State) : Addr := own_sv Z "com/example/menshen/menshen/policy/ConditionOperator" "NUMERIC_NOT_EQUALS" "Lcom/example/menshen/menshen/policy/ConditionOperator;"
def a_NUMERIC_LESS_THAN (Z : State) : Addr := own_sv Z "com/example/menshen/menshen/policy/ConditionOperator" "NUMERIC_LESS_THAN" "Lcom/example/menshen/menshen/policy/ConditionOperator;"
def a_NUMERIC_LESS_THAN_EQUALS (Z : State) : Addr := own_sv Z "com/example/menshen/menshen/policy/ConditionOperator" "NUMERIC_LESS_THAN_EQUALS" "Lcom/example/menshen/menshen/policy/ConditionOperator;"
def a_NUMERIC_GREATER_THAN (Z : State) : Addr := own_sv Z "com/example/menshen/menshen/policy/ConditionOperator" "NUMERIC_GREATER_THAN" "Lcom/example/menshen/menshen/policy/ConditionOperator;"
def a_NUMERIC_GREATER_THAN_EQUALS (Z : State) : Addr := own_sv Z "com/example/menshen/menshen/policy/ConditionOperator" "NUMERIC_GREATER_THAN_EQUALS" "Lcom/example/menshen/menshen/policy/ConditionOperator;"
def a_DATE_EQUALS (Z : State) : Addr := own_sv Z "com/example/menshen/menshen/policy/ConditionOperator" "DATE_EQUALS" "Lcom/example/menshen/menshen/policy/ConditionOperator;"
def a_DATE_NOT_EQUALS (Z : State) : Addr := own_sv Z "com/example/menshen/menshen/policy/ConditionOperator" "DATE_NOT_EQUALS" "Lcom/example/menshen/menshen/policy/ConditionOperator;"
def a_DATE_LESS_THAN (Z : State) : Addr := own_sv Z "com/example/menshen/menshen/policy/ConditionOperator" "DATE_LESS_THAN" "Lcom/example/menshen/menshen/policy/ConditionOperator;"
def a_DATE_LESS_THAN_EQUALS (Z : State) : Addr := own_sv Z "com/example/menshen/menshen/policy/ConditionOperator" "DATE_LESS_THAN_EQUALS" "Lcom/example/menshen/menshen/policy/ConditionOperator;"
def a_DATE_GREATER_THAN (Z : State) : Addr := own_sv Z "com/example/menshen/menshen/policy/ConditionOperator" "DATE_GREATER_THAN" "Lcom/example/menshen/menshen/policy/ConditionOperator;"
def a_DATE_GREATER_THAN_EQUALS (Z : State) : Addr := own_sv Z "com/example/menshen/menshen/policy/ConditionOperator" "DATE_GREATER_THAN_EQUALS" "Lcom/example/menshen/menshen/policy/ConditionOperator;"
def a_BOOL (Z : State) : Addr := own_sv Z "com/example/menshen/menshen/policy/ConditionOperator" "BOOL" "Lcom/example/menshen/menshen/policy/ConditionOperator;"
def a_NULL (Z : State) : Addr := own_sv Z "com/example/menshen/menshen/policy/ConditionOperator" "NULL" "Lcom/example/menshen/menshen/policy/ConditionOperator;"
def St (Z : State) : Prop := (Sta Z Z.heap "com/example/menshen/menshen/policy/ConditionOperator" "STRING_EQUALS" "Lcom/example/menshen/menshen/policy/ConditionOperator;" (.ref (a_STRING_EQUALS Z))) ∧ (Exa Z Z.heap (a_STRING_EQUALS Z) "com/example/menshen/menshen/policy/ConditionOperator") ∧ (Sta Z Z.heap "com/example/menshen/menshen/policy/ConditionOperator" "STRING_NOT_EQUALS" "Lcom/example/menshen/menshen/policy/ConditionOperator;" (.ref (a_STRING_NOT_EQUALS Z))) ∧ (Exa Z Z.heap (a_STRING_NOT_EQUALS Z) "com/example/menshen/menshen/policy/ConditionOperator") ∧ (Sta Z Z.heap "com/example/menshen/menshen/policy/ConditionOperator" "NOT_STRING_EQUALS" "Lcom/example/menshen/menshen/policy/ConditionOperator;" (.ref (a_NOT_STRING_EQUALS Z))) ∧ (Exa Z Z.heap (a_NOT_STRING_EQUALS Z) "com/example/menshen/menshen/policy/ConditionOperator") ∧ (Sta Z Z.heap "com/example/menshen/menshen/policy/ConditionOperator" "STRING_EQUALS_IGNORE_CASE" "Lcom/example/menshen/menshen/policy/ConditionOperator;" (.ref (a_STRING_EQUALS_IGNORE_CASE Z))) ∧ (Exa Z Z.heap (a_STRING_EQUALS_IGNORE_CASE Z) "com/example/menshen/menshen/policy/ConditionOperator") ∧ (Sta Z Z.heap "com/example/menshen/menshen/policy/ConditionOperator" "STRING_NOT_EQUALS_IGNORE_CASE" "Lcom/example/menshen/menshen/policy/ConditionOperator;" (.ref (a_STRING_NOT_EQUALS_IGNORE_CASE Z))) ∧ (Exa Z Z.heap (a_STRING_NOT_EQUALS_IGNORE_CASE Z) "com/example/menshen/menshen/policy/ConditionOperator") ∧ (Sta Z Z.heap "com/example/menshen/menshen/policy/ConditionOperator" "STRING_LIKE" "Lcom/example/menshen/menshen/policy/ConditionOperator;" (.ref (a_STRING_LIKE Z))) ∧ (Exa Z Z.heap (a_STRING_LIKE Z) "com/example/menshen/menshen/policy/ConditionOperator") ∧ (Sta Z Z.heap "com/example/menshen/menshen/policy/ConditionOperator" "STRING_NOT_LIKE" "Lcom/example/menshen/menshen/policy/ConditionOperator;" (.ref (a_STRING_NOT_LIKE Z))) ∧ (Exa Z Z.heap (a_STRING_NOT_LIKE Z) "com/example/menshen/menshen/policy/ConditionOperator") ∧ (Sta Z Z.heap "com/example/menshen/menshen/policy/ConditionOperator" "IP_ADDRESS" "Lcom/example/menshen/menshen/policy/ConditionOperator;" (.ref (a_IP_ADDRESS Z))) ∧ (Exa Z Z.heap (a_IP_ADDRESS Z) "com/example/menshen/menshen/policy/ConditionOperator") ∧ (Sta Z Z.heap "com/example/menshen/menshen/policy/ConditionOperator" "NOT_IP_ADDRESS" "Lcom/example/menshen/menshen/policy/ConditionOperator;" (.ref (a_NOT_IP_ADDRESS Z))) ∧ (Exa Z Z.heap (a_NOT_IP_ADDRESS Z) "com/example/menshen/menshen/policy/ConditionOperator") ∧ (Sta Z Z.heap "com/example/menshen/menshen/policy/ConditionOperator" "NUMERIC_EQUALS" "Lcom/example/menshen/menshen/policy/ConditionOperator;" (.ref (a_NUMERIC_EQUALS Z))) ∧ (Exa Z Z.heap (a_NUMERIC_EQUALS Z) "com/example/menshen/menshen/policy/ConditionOperator") ∧ (Sta Z Z.heap "com/example/menshen/menshen/policy/ConditionOperator" "NUMERIC_NOT_EQUALS" "Lcom/example/menshen/menshen/policy/ConditionOperator;" (.ref (a_NUMERIC_NOT_EQUALS Z))) ∧ (Exa Z Z.heap (a_NUMERIC_NOT_EQUALS Z) "com/example/menshen/menshen/policy/ConditionOperator") ∧ (Sta Z Z.heap "com/example/menshen/menshen/policy/ConditionOperator" "NUMERIC_LESS_THAN" "Lcom/example/menshen/menshen/policy/ConditionOperator;" (.ref (a_NUMERIC_LESS_THAN Z))) ∧ (Exa Z Z.heap (a_NUMERIC_LESS_THAN Z) "com/example/menshen/menshen/policy/ConditionOperator") ∧ (Sta Z Z.heap "com/example/menshen/menshen/policy/ConditionOperator" "NUMERIC_LESS_THAN_EQUALS" "Lcom/example/menshen/menshen/policy/ConditionOperator;" (.ref (a_NUMERIC_LESS_THAN_EQUALS Z))) ∧ (Exa Z Z.heap (a_NUMERIC_LESS_THAN_EQUALS Z) "com/example/menshen/menshen/policy/ConditionOperator") ∧ (Sta Z Z.heap "com/example/menshen/menshen/policy/ConditionOperator" "NUMERIC_GREATER_THAN" "Lcom/example/menshen/menshen/policy/ConditionOperator;" (.ref (a_NUMERIC_GREATER_THAN Z))) ∧ (Exa Z Z.heap (a_NUMERIC_GREATER_THAN Z) "com/example/menshen/menshen/policy/ConditionOperator") ∧ (Sta Z Z.heap "com/example/menshen/menshen/policy/ConditionOperator" "NUMERIC_GREATER_THAN_EQUALS" "Lcom/example/menshen/menshen/policy/ConditionOperator;" (.ref (a_NUMERIC_GREATER_THAN_EQUALS Z))) ∧ (Exa Z Z.heap (a_NUMERIC_GREATER_THAN_EQUALS Z) "com/example/menshen/menshen/policy/ConditionOperator") ∧ (Sta Z Z.heap "com/example/menshen/menshen/policy/ConditionOperator" "DATE_EQUALS" "Lcom/example/menshen/menshen/policy/ConditionOperator;" (.ref (a_DATE_EQUALS Z))) ∧ (Exa Z Z.heap (a_DATE_EQUALS Z) "com/example/menshen/menshen/policy/ConditionOperator") ∧ (Sta Z Z.heap "com/example/menshen/menshen/policy/ConditionOperator" "DATE_NOT_EQUALS" "Lcom/example/menshen/menshen/policy/ConditionOperator;" (.ref (a_DATE_NOT_EQUALS Z))) ∧ (Exa Z Z.heap (a_DATE_NOT_EQUALS Z) "com/example/menshen/menshen/policy/ConditionOperator") ∧ (Sta Z Z.heap "com/example/menshen/menshen/policy/ConditionOperator" "DATE_LESS_THAN" "Lcom/example/menshen/menshen/policy/ConditionOperator;" (.ref (a_DATE_LESS_THAN Z))) ∧ (Exa Z Z.heap (a_DATE_LESS_THAN Z) "com/example/menshen/menshen/policy/ConditionOperator") ∧ (Sta Z Z.heap "com/example/menshen/menshen/policy/ConditionOperator" "DATE_LESS_THAN_EQUALS" "Lcom/example/menshen/menshen/policy/ConditionOperator;" (.ref (a_DATE_LESS_THAN_EQUALS Z))) ∧ (Exa Z Z.heap (a_DATE_LESS_THAN_EQUALS Z) "com/example/menshen/menshen/policy/ConditionOperator") ∧ (Sta Z Z.heap "com/example/menshen/menshen/policy/ConditionOperator" "DATE_GREATER_THAN" "Lcom/example/menshen/menshen/policy/ConditionOperator;" (.ref (a_DATE_GREATER_THAN Z))) ∧ (Exa Z Z.heap (a_DATE_GREATER_THAN Z) "com/example/menshen/menshen/policy/ConditionOperator") ∧ (Sta Z Z.heap "com/example/menshen/menshen/policy/ConditionOperator" "DATE_GREATER_THAN_EQUALS" "Lcom/example/menshen/menshen/policy/ConditionOperator;" (.ref (a_DATE_GREATER_THAN_EQUALS Z))) ∧ (Exa Z Z.heap (a_DATE_GREATER_THAN_EQUALS Z) "com/example/menshen/menshen/policy/ConditionOperator") ∧ (Sta Z Z.heap "com/example/menshen/menshen/policy/ConditionOperator" "BOOL" "Lcom/example/menshen/menshen/policy/ConditionOperator;" (.ref (a_BOOL Z))) ∧ (Exa Z Z.heap (a_BOOL Z) "com/example/menshen/menshen/policy/ConditionOperator") ∧ (Sta Z Z.heap "com/example/menshen/menshen/policy/ConditionOperator" "NULL" "Lcom/example/menshen/menshen/policy/ConditionOperator;" (.ref (a_NULL Z))) ∧ (Exa Z Z.heap (a_NULL Z) "com/example/menshen/menshen/policy/ConditionOperator") ∧ (Fld Z Z.heap (a_STRING_EQUALS Z) "com/example/menshen/menshen/policy/ConditionOperator" "negationOf" "Lcom/example/menshen/menshen/policy/ConditionOperator;" .null) ∧ (Fld Z Z.heap (a_STRING_EQUALS_IGNORE_CASE Z) "com/example/menshen/menshen/policy/ConditionOperator" "negationOf" "Lcom/example/menshen/menshen/policy/ConditionOperator;" .null) ∧ (Fld Z Z.heap (a_DATE_LESS_THAN_EQUALS Z) "com/example/menshen/menshen/policy/ConditionOperator" "negationOf" "Lcom/example/menshen/menshen/policy/ConditionOperator;" .null) ∧ (Fld Z Z.heap (a_NUMERIC_LESS_THAN Z) "com/example/menshen/menshen/policy/ConditionOperator" "negationOf" "Lcom/example/menshen/menshen/policy/ConditionOperator;" .null) ∧ (Fld Z Z.heap (a_NUMERIC_LESS_THAN_EQUALS Z) "com/example/menshen/menshen/policy/ConditionOperator" "negationOf" "Lcom/example/menshen/menshen/policy/ConditionOperator;" .null) ∧ (Fld Z Z.heap (a_STRING_LIKE Z) "com/example/menshen/menshen/policy/ConditionOperator" "negationOf" "Lcom/example/menshen/menshen/policy/ConditionOperator;" .null) ∧ (Fld Z Z.heap (a_IP_ADDRESS Z) "com/example/menshen/menshen/policy/ConditionOperator" "negationOf" "Lcom/example/menshen/menshen/policy/ConditionOperator;" .null) ∧ (Fld Z Z.heap (a_NOT_STRING_EQUALS Z) "com/example/menshen/menshen/policy/ConditionOperator" "negationOf" "Lcom/example/menshen/menshen/policy/ConditionOperator;" (.ref (a_STRING_EQUALS Z))) ∧ (Fld Z Z.heap (a_STRING_EQUALS Z) "java/lang/Enum" "ordinal" "I" (.int (0 : Int32))) ∧ (Fld Z Z.heap (a_NOT_STRING_EQUALS Z) "java/lang/Enum" "ordinal" "I" (.int (2 : Int32))) ∧ (Fld Z Z.heap (a_STRING_NOT_EQUALS_IGNORE_CASE Z) "com/example/menshen/menshen/policy/ConditionOperator" "negationOf" "Lcom/example/menshen/menshen/policy/ConditionOperator;" (.ref (a_STRING_EQUALS_IGNORE_CASE Z))) ∧ (Fld Z Z.heap (a_STRING_EQUALS_IGNORE_CASE Z) "java/lang/Enum" "ordinal" "I" (.int (3 : Int32))) ∧ (Fld Z Z.heap (a_STRING_NOT_EQUALS_IGNORE_CASE Z) "java/lang/Enum" "ordinal" "I" (.int (4 : Int32))) ∧ (Fld Z Z.heap (a_NOT_IP_ADDRESS Z) "com/example/menshen/menshen/policy/ConditionOperator" "negationOf" "Lcom/example/menshen/menshen/policy/ConditionOperator;" (.ref (a_IP_ADDRESS Z))) ∧ (Fld Z Z.heap (a_IP_ADDRESS Z) "java/lang/Enum" "ordinal" "I" (.int (7 : Int32))) ∧ (Fld Z Z.heap (a_NOT_IP_ADDRESS Z) "java/lang/Enum" "ordinal" "I" (.int (8 : Int32))) ∧ (Fld Z Z.heap (a_STRING_NOT_EQUALS Z) "com/example/menshen/menshen/policy/ConditionOperator" "negationOf" "Lcom/example/menshen/menshen/policy/ConditionOperator;" (.ref (a_STRING_EQUALS Z))) ∧ (Fld Z Z.heap (a_STRING_NOT_EQUALS Z) "java/lang/Enum" "ordinal" "I" (.int (1 : Int32))) ∧ (Fld Z Z.heap (a_BOOL Z) "com/example/menshen/menshen/policy/ConditionOperator" "negationOf" "Lcom/example/menshen/menshen/policy/ConditionOperator;" .null) ∧ (Fld Z Z.heap (a_DATE_NOT_EQUALS Z) "com/example/menshen/menshen/policy/ConditionOperator" "negationOf" "Lcom/example/menshen/menshen/policy/ConditionOperator;" (.ref (a_DATE_EQUALS Z))) ∧ (Fld Z Z.heap (a_DATE_EQUALS Z) "java/lang/Enum" "ordinal" "I" (.int (15 : Int32))) ∧ (Fld Z Z.heap (a_DATE_NOT_EQUALS Z) "java/lang/Enum" "ordinal" "I" (.int (16 : Int32))) ∧ (Fld Z Z.heap (a_DATE_EQUALS Z) "com/example/menshen/menshen/policy/ConditionOperator" "negationOf" "Lcom/example/menshen/menshen/policy/ConditionOperator;" .null) ∧ (Fld Z Z.heap (a_NUMERIC_NOT_EQUALS Z) "com/example/menshen/menshen/policy/ConditionOperator" "negationOf" "Lcom/example/menshen/menshen/policy/ConditionOperator;" (.ref (a_NUMERIC_EQUALS Z))) ∧ (Fld Z Z.heap (a_NUMERIC_EQUALS Z) "java/lang/Enum" "ordinal" "I" (.int (9 : Int32))) ∧ (Fld Z Z.heap (a_NUMERIC_NOT_EQUALS Z) "java/lang/Enum" "ordinal" "I" (.int (10 : Int32))) ∧ (Fld Z Z.heap (a_NUMERIC_EQUALS Z) "com/example/menshen/menshen/policy/ConditionOperator" "negationOf" "Lcom/example/menshen/menshen/policy/ConditionOperator;" .null) ∧ (Fld Z Z.heap (a_NULL Z) "com/example/menshen/menshen/policy/ConditionOperator" "negationOf" "Lcom/example/menshen/menshen/policy/ConditionOperator;" .null) ∧ (Fld Z Z.heap (a_DATE_GREATER_THAN Z) "com/example/menshen/menshen/policy/ConditionOperator" "negationOf" "Lcom/example/menshen/menshen/policy/ConditionOperator;" .null) ∧ (Fld Z Z.heap (a_DATE_LESS_THAN Z) "com/example/menshen/menshen/policy/ConditionOperator" "negationOf" "Lcom/example/menshen/menshen/policy/ConditionOperator;" .null) ∧ (Fld Z Z.heap (a_DATE_GREATER_THAN_EQUALS Z) "com/example/menshen/menshen/policy/ConditionOperator" "negationOf" "Lcom/example/menshen/menshen/policy/ConditionOperator;" .null) ∧ (Fld Z Z.heap (a_NUMERIC_GREATER_THAN_EQUALS Z) "com/example/menshen/menshen/policy/ConditionOperator" "negationOf" "Lcom/example/menshen/menshen/policy/ConditionOperator;" .null) ∧ (Fld Z Z.heap (a_STRING_NOT_LIKE Z) "com/example/menshen/menshen/policy/ConditionOperator" "negationOf" "Lcom/example/menshen/menshen/policy/ConditionOperator;" (.ref (a_STRING_LIKE Z))) ∧ (Fld Z Z.heap (a_STRING_LIKE Z) "java/lang/Enum" "ordinal" "I" (.int (5 : Int32))) ∧ (Fld Z Z.heap (a_STRING_NOT_LIKE Z) "java/lang/Enum" "ordinal" "I" (.int (6 : Int32))) ∧ (Fld Z Z.heap (a_NUMERIC_GREATER_THAN Z) "com/example/menshen/menshen/policy/ConditionOperator" "negationOf" "Lcom/example/menshen/menshen/policy/ConditionOperator;" .null)
theorem s_a_STRING_EQUALS {Z : State} (h : St Z) : Sta Z Z.heap "com/example/menshen/menshen/policy/ConditionOperator" "STRING_EQUALS" "Lcom/example/menshen/menshen/policy/ConditionOperator;" (.ref (a_STRING_EQUALS Z)) := h.1
theorem e_a_STRING_EQUALS {Z : State} (h : St Z) : Exa Z Z.heap (a_STRING_EQUALS Z) "com/example/menshen/menshen/policy/ConditionOperator" := h.2.1
theorem s_a_STRING_NOT_EQUALS {Z : State} (h : St Z) : Sta Z Z.heap "com/example/menshen/menshen/policy/ConditionOperator" "STRING_NOT_EQUALS" "Lcom/example/menshen/menshen/policy/ConditionOperator;" (.ref (a_STRING_NOT_EQUALS Z)) := h.2.2.1
theorem e_a_STRING_NOT_EQUALS {Z : State} (h : St Z) : Exa Z Z.heap (a_STRING_NOT_EQUALS Z) "com/example/menshen/menshen/policy/ConditionOperator" := h.2.2.2.1
theorem s_a_NOT_STRING_EQUALS {Z : State} (h : St Z) : Sta Z Z.heap "com/example/menshen/menshen/policy/ConditionOperator" "NOT_STRING_EQUALS" "Lcom/example/menshen/menshen/policy/ConditionOperator;" (.ref (a_NOT_STRING_EQUALS Z)) := h.2.2.2.2.1
theorem e_a_NOT_STRING_EQUALS {Z : State} (h : St Z) : Exa Z Z.heap (a_NOT_STRING_EQUALS Z) "com/example/menshen/menshen/policy/ConditionOperator" := h.2.2.2.2.2.1
theorem s_a_STRING_EQUALS_IGNORE_CASE {Z : State} (h : St Z) : Sta Z Z.heap "com/example/menshen/menshen/policy/ConditionOperator" "STRING_EQUALS_IGNORE_CASE" "Lcom/example/menshen/menshen/policy/ConditionOperator;" (.ref (a_STRING_EQUALS_IGNORE_CASE Z)) := h.2.2.2.2.2.2.1
theorem e_a_STRING_EQUALS_IGNORE_CASE {Z : State} (h : St Z) : Exa Z Z.heap (a_STRING_EQUALS_IGNORE_CASE Z) "com/example/menshen/menshen/policy/ConditionOperator" := h.2.2.2.2.2.2.2.1
theorem s_a_STRING_NOT_EQUALS_IGNORE_CASE {Z : State} (h : St Z) : Sta Z Z.heap "com/example/menshen/menshen/policy/ConditionOperator" "STRING_NOT_EQUALS_IGNORE_CASE" "Lcom/example/menshen/menshen/policy/ConditionOperator;" (.ref (a_STRING_NOT_EQUALS_IGNORE_CASE Z)) := h.2.2.2.2.2.2.2.2.1
theorem e_a_STRING_NOT_EQUALS_IGNORE_CASE {Z : State} (h : St Z) : Exa Z Z.heap (a_STRING_NOT_EQUALS_IGNORE_CASE Z) "com/example/menshen/menshen/policy/ConditionOperator" := h.2.2.2.2.2.2.2.2.2.1
theorem s_a_STRING_LIKE {Z : State} (h : St Z) : Sta Z Z.heap "com/example/menshen/menshen/policy/ConditionOperator" "STRING_LIKE" "Lcom/example/menshen/menshen/policy/ConditionOperator;" (.ref (a_STRING_LIKE Z)) := h.2.2.2.2.2.2.2.2.2.2.1
theorem e_a_STRING_LIKE {Z : State} (h : St Z) : Exa Z Z.heap (a_STRING_LIKE Z) "com/example/menshen/menshen/policy/ConditionOperator" := h.2.2.2.2.2.2.2.2.2.2.2.1
theorem s_a_STRING_NOT_LIKE {Z : State} (h : St Z) : Sta Z Z.heap "com/example/menshen/menshen/policy/ConditionOperator" "STRING_NOT_LIKE" "Lcom/example/menshen/menshen/policy/ConditionOperator;" (.ref (a_STRING_NOT_LIKE Z)) := h.2.2.2.2.2.2.2.2.2.2.2.2.1
theorem e_a_STRING_NOT_LIKE {Z : State} (h : St Z) : Exa Z Z.heap (a_STRING_NOT_LIKE Z) "com/example/menshen/menshen/policy/ConditionOperator" := h.2.2.2.2.2.2.2.2.2.2.2.2.2.1
theorem s_a_IP_ADDRESS {Z : State} (h : St Z) : Sta Z Z.heap "com/example/menshen/menshen/policy/ConditionOperator" "IP_ADDRESS" "Lcom/example/menshen/menshen/policy/ConditionOperator;" (.ref (a_IP_ADDRESS Z)) := h.2.2.2.2.2.2.2.2.2.2.2.2.2.2.1
theorem e_a_IP_ADDRESS {Z : State} (h : St Z) : Exa Z Z.heap (a_IP_ADDRESS Z) "com/example/menshen/menshen/policy/ConditionOperator" := h.2.2.2.2.2.2.2.2.2.2.2.2.2.2.2.1
theorem s_a_NOT_IP_ADDRESS {Z : State} (h : St Z) : Sta Z Z.heap "com/example/menshen/menshen/policy/ConditionOperator" "NOT_IP_ADDRESS" "Lcom/example/menshen/menshen/policy/ConditionOperator;" (.ref (a_NOT_IP_ADDRESS Z)) := h.2.2.2.2.2.2.2.2.2.2.2.2.2.2.2.2.1
theorem e_a_NOT_IP_ADDRESS {Z : State} (h : St Z) : Exa Z Z.heap (a_NOT_IP_ADDRESS Z) "com/example/menshen/menshen/policy/ConditionOperator" := h.2.2.2.2.2.2.2.2.2.2.2.2.2.2.2.2.2.1
theorem s_a_NUMERIC_EQUALS {Z : State} (h : St Z) : Sta Z Z.heap "com/example/menshen/menshen/policy/ConditionOperator" "NUMERIC_EQUALS" "Lcom/example/menshen/menshen/policy/ConditionOperator;" (.ref (a_NUMERIC_EQUALS Z)) := h.2.2.2.2.2.2.2.2.2.2.2.2.2.2.2.2.2.2.1
theorem e_a_NUMERIC_EQUALS {Z : State} (h : St Z) : Exa Z Z.heap (a_NUMERIC_EQUALS Z) "com/example/menshen/menshen/policy/ConditionOperator" := h.2.2.2.2.2.2.2.2.2.2.2.2.2.2.2.2.2.2.2.1
theorem s_a_NUMERIC_NOT_EQUALS {Z : State} (h : St Z) : Sta Z Z.heap "com/example/menshen/menshen/policy/ConditionOperator" "NUMERIC_NOT_EQUALS" "Lcom/example/menshen/menshen/policy/ConditionOperator;" (.ref (a_NUMERIC_NOT_EQUALS Z)) := h.2.2.2.2.2.2.2.2.2.2.2.2.2.2.2.2.2.2.2.2.1
theorem e_a_NUMERIC_NOT_EQUALS {Z : State} (h : St Z) : Exa Z Z.heap (a_NUMERIC_NOT_EQUALS Z) "com/example/menshen/menshen/policy/ConditionOperator" := h.2.2.2.2.2.2.2.2.2.2.2.2.2.2.2.2.2.2.2.2.2.1
theorem s_a_NUMERIC_LESS_THAN {Z : State} (h : St Z) : Sta Z Z.heap "com/example/menshen/menshen/policy/ConditionOperator" "NUMERIC_LESS_THAN" "Lcom/example/menshen/menshen/policy/ConditionOperator;" (.ref (a_NUMERIC_LESS_THAN Z)) := h.2.2.2.2.2.2.2.2.2.2.2.2.2.2.2.2.2.2.2.2.2.2.1
theorem e_a_NUMERIC_LESS_THAN {Z : State} (h : St Z) : Exa Z Z.heap (a_NUMERIC_LESS_THAN Z) "com/example/menshen/menshen/policy/ConditionOperator" := h.2.2.2.2.2.2.2.2.2.2.2.2.2.2.2.2.2.2.2.2.2.2.2.1
theorem s_a_NUMERIC_LESS_THAN_EQUALS {Z : State} (h : St Z) : Sta Z Z.heap "com/example/menshen/menshen/policy/ConditionOperator" "NUMERIC_LESS_THAN_EQUALS" "Lcom/example/menshen/menshen/policy/ConditionOperator;" (.ref (a_NUMERIC_LESS_THAN_EQUALS Z)) := h.2.2.2.2.2.2.2.2.2.2.2.2.2.2.2.2.2.2.2.2.2.2.2.2.1
theorem e_a_NUMERIC_LESS_THAN_EQUALS {Z : State} (h : St Z) : Exa Z Z.heap (a_NUMERIC_LESS_THAN_EQUALS Z) "com/example/menshen/menshen/policy/ConditionOperator" := h.2.2.2.2.2.2.2.2.2.2.2.2.2.2.2.2.2.2.2.2.2.2.2.2.2.1
theorem s_a_NUMERIC_GREATER_THAN {Z : State} (h : St Z) : Sta Z Z.heap "com/example/menshen/menshen/policy/ConditionOperator" "NUMERIC_GREATER_THAN" "Lcom/example/menshen/menshen/policy/ConditionOperator;" (.ref (a_NUMERIC_GREATER_THAN Z)) := h.2.2.2.2.2.2.2.2.2.2.2.2.2.2.2.2.2.2.2.2.2.2.2.2.2.2.1
theorem e_a_NUMERIC_GREATER_THAN {Z : State} (h : St Z) : Exa Z Z.heap (a_NUMERIC_GREATER_THAN Z) "com/example/menshen/menshen/policy/ConditionOperator" := h.2.2.2.2.2.2.2.2.2.2.2.2.2.2.2.2.2.2.2.2.2.2.2.2.2.2.2.1
theorem s_a_NUMERIC_GREATER_THAN_EQUALS {Z : State} (h : St Z) : Sta Z Z.heap "com/example/menshen/menshen/policy/ConditionOperator" "NUMERIC_GREATER_THAN_EQUALS" "Lcom/example/menshen/menshen/policy/ConditionOperator;" (.ref (a_NUMERIC_GREATER_THAN_EQUALS Z)) := h.2.2.2.2.2.2.2.2.2.2.2.2.2.2.2.2.2.2.2.2.2.2.2.2.2.2.2.2.1
theorem e_a_NUMERIC_GREATER_THAN_EQUALS {Z : State} (h : St Z) : Exa Z Z.heap (a_NUMERIC_GREATER_THAN_EQUALS Z) "com/example/menshen/menshen/policy/ConditionOperator" := h.2.2.2.2.2.2.2.2.2.2.2.2.2.2.2.2.2.2.2.2.2.2.2.2.2.2.2.2.2.1
theorem s_a_DATE_EQUALS {Z : State} (h : St Z) : Sta Z Z.heap "com/example/menshen/menshen/policy/ConditionOperator" "DATE_EQUALS" "Lcom/example/menshen/menshen/policy/ConditionOperator;" (.ref (a_DATE_EQUALS Z)) := h.2.2.2.2.2.2.2.2.2.2.2.2.2.2.2.2.2.2.2.2.2.2.2.2.2.2.2.2.2.2.1
theorem e_a_DATE_EQUALS {Z : State} (h : St Z) : Exa Z Z.heap (a_DATE_EQUALS Z) "com/example/menshen/menshen/policy/ConditionOperator" := h.2.2.2.2.2.2.2.2.2.2.2.2.2.2.2.2.2.2.2.2.2.2.2.2.2.2.2.2.2.2.2.1
theorem s_a_DATE_NOT_EQUALS {Z : State} (h : St Z) : Sta Z Z.heap "com/example/menshen/menshen/policy/ConditionOperator" "DATE_NOT_EQUALS" "Lcom/example/menshen/menshen/policy/ConditionOperator;" (.ref (a_DATE_NOT_EQUALS Z)) := h.2.2.2.2.2.2.2.2.2.2.2.2.2.2.2.2.2.2.2.2.2.2.2.2.2.2.2.2.2.2.2.2.1
theorem e_a_DATE_NOT_EQUALS {Z : State} (h : St Z) : Exa Z Z.heap (a_DATE_NOT_EQUALS Z) "com/example/menshen/menshen/policy/ConditionOperator" := h.2.2.2.2.2.2.2.2.2.2.2.2.2.2.2.2.2.2.2.2.2.2.2.2.2.2.2.2.2.2.2.2.2.1
theorem s_a_DATE_LESS_THAN {Z : State} (h : St Z) : Sta Z Z.heap "com/example/menshen/menshen/policy/ConditionOperator" "DATE_LESS_THAN" "Lcom/example/menshen/menshen/policy/ConditionOperator;" (.ref (a_DATE_LESS_THAN Z)) := h.2.2.2.2.2.2.2.2.2.2.2.2.2.2.2.2.2.2.2.2.2.2.2.2.2.2.2.2.2.2.2.2.2.2.1
theorem e_a_DATE_LESS_THAN {Z : State} (h : St Z) : Exa Z Z.heap (a_DATE_LESS_THAN Z) "com/example/menshen/menshen/policy/ConditionOperator" := h.2.2.2.2.2.2.2.2.2.2.2.2.2.2.2.2.2.2.2.2.2.2.2.2.2.2.2.2.2.2.2.2.2.2.2.1
theorem s_a_DATE_LESS_THAN_EQUALS {Z : State} (h : St Z) : Sta Z Z.heap "com/example/menshen/menshen/policy/ConditionOperator" "DATE_LESS_THAN_EQUALS" "Lcom/example/menshen/menshen/policy/ConditionOperator;" (.ref (a_DATE_LESS_THAN_EQUALS Z)) := h.2.2.2.2.2.2.2.2.2.2.2.2.2.2.2.2.2.2.2.2.2.2.2.2.2.2.2.2.2.2.2.2.2.2.2.2.1
theorem e_a_DATE_LESS_THAN_EQUALS {Z : State} (h : St Z) : Exa Z Z.heap (a_DATE_LESS_THAN_EQUALS Z) "com/example/menshen/menshen/policy/ConditionOperator" := h.2.2.2.2.2.2.2.2.2.2.2.2.2.2.2.2.2.2.2.2.2.2.2.2.2.2.2.2.2.2.2.2.2.2.2.2.2.1
theorem s_a_DATE_GREATER_THAN {Z : State} (h : St Z) : Sta Z Z.heap "com/example/menshen/menshen/policy/ConditionOperator" "DATE_GREATER_THAN" "Lcom/example/menshen/menshen/policy/ConditionOperator;" (.ref (a_DATE_GREATER_THAN Z)) := h.2.2.2.2.2.2.2.2.2.2.2.2.2.2.2.2.2.2.2.2.2.2.2.2.2.2.2.2.2.2.2.2.2.2.2.2.2.2.1
theorem e_a_DATE_GREATER_THAN {Z : State} (h : St Z) : Exa Z Z.heap (a_DATE_GREATER_THAN Z) "com/example/menshen/menshen/policy/ConditionOperator" := h.2.2.2.2.2.2.2.2.2.2.2.2.2.2.2.2.2.2.2.2.2.2.2.2.2.2.2.2.2.2.2.2.2.2.2.2.2.2.2.1
theorem s_a_DATE_GREATER_THAN_EQUALS {Z : State} (h : St Z) : Sta Z Z.heap "com/example/menshen/menshen/policy/ConditionOperator" "DATE_GREATER_THAN_EQUALS" "Lcom/example/menshen/menshen/policy/ConditionOperator;" (.ref (a_DATE_GREATER_THAN_EQUALS Z)) := h.2.2.2.2.2.2.2.2.2.2.2.2.2.2.2.2.2.2.2.2.2.2.2.2.2.2.2.2.2.2.2.2.2.2.2.2.2.2.2.2.1
theorem e_a_DATE_GREATER_THAN_EQUALS {Z : State} (h : St Z) : Exa Z Z.heap (a_DATE_GREATER_THAN_EQUALS Z) "com/example/menshen/menshen/policy/ConditionOperator" := h.2.2.2.2.2.2.2.2.2.2.2.2.2.2.2.2.2.2.2.2.2.2.2.2.2.2.2.2.2.2.2.2.2.2.2.2.2.2.2.2.2.1
theorem s_a_BOOL {Z : State} (h : St Z) : Sta Z Z.heap "com/example/menshen/menshen/policy/ConditionOperator" "BOOL" "Lcom/example/menshen/menshen/policy/ConditionOperator;" (.ref (a_BOOL Z)) := h.2.2.2.2.2.2.2.2.2.2.2.2.2.2.2.2.2.2.2.2.2.2.2.2.2.2.2.2.2.2.2.2.2.2.2.2.2.2.2.2.2.2.1
theorem e_a_BOOL {Z : State} (h : St Z) : Exa Z Z.heap (a_BOOL Z) "com/example/menshen/menshen/policy/ConditionOperator" := h.2.2.2.2.2.2.2.2.2.2.2.2.2.2.2.2.2.2.2.2.2.2.2.2.2.2.2.2.2.2.2.2.2.2.2.2.2.2.2.2.2.2.2.1
theorem s_a_NULL {Z : State} (h : St Z) : Sta Z Z.heap "com/example/menshen/menshen/policy/ConditionOperator" "NULL" "Lcom/example/menshen/menshen/policy/ConditionOperator;" (.ref (a_NULL Z)) := h.2.2.2.2.2.2.2.2.2.2.2.2.2.2.2.2.2.2.2.2.2.2.2.2.2.2.2.2.2.2.2.2.2.2.2.2.2.2.2.2.2.2.2.2.1
theorem e_a_NULL {Z : State} (h : St Z) : Exa Z Z.heap (a_NULL Z) "com/example/menshen/menshen/policy/ConditionOperator" := h.2.2.2.2.2.2.2.2.2.2.2.2.2.2.2.2.2.2.2.2.2.2.2.2.2.2.2.2.2.2.2.2.2.2.2.2.2.2.2.2.2.2.2.2.2.1
theorem f_a_STRING_EQUALS_negationOf {Z : State} (h : St Z) : Fld Z Z.heap (a_STRING_EQUALS Z) "com/example/menshen/menshen/policy/ConditionOperator" "negationOf" "Lcom/example/menshen/menshen/policy/ConditionOperator;" .null := h.2.2.2.2.2.2.2.2.2.2.2.2.2.2.2.2.2.2.2.2.2.2.2.2.2.2.2.2.2.2.2.2.2.2.2.2.2.2.2.2.2.2.2.2.2.2.1
theorem f_a_STRING_EQUALS_IGNORE_CASE_negationOf {Z : State} (h : St Z) : Fld Z Z.heap (a_STRING_EQUALS_IGNORE_CASE Z) "com/example/menshen/menshen/policy/ConditionOperator" "negationOf" "Lcom/example/menshen/menshen/policy/ConditionOperator;" .null := h.2.2.2.2.2.2.2.2.2.2.2.2.2.2.2.2.2.2.2.2.2.2.2.2.2.2.2.2.2.2.2.2.2.2.2.2.2.2.2.2.2.2.2.2.2.2.2.1
theorem f_a_DATE_LESS_THAN_EQUALS_negationOf {Z : State} (h : St Z) : Fld Z Z.heap (a_DATE_LESS_THAN_EQUALS Z) "com/example/menshen/menshen/policy/ConditionOperator" "negationOf" "Lcom/example/menshen/menshen/policy/ConditionOperator;" .null := h.2.2.2.2.2.2.2.2.2.2.2.2.2.2.2.2.2.2.2.2.2.2.2.2.2.2.2.2.2.2.2.2.2.2.2.2.2.2.2.2.2.2.2.2.2.2.2.2.1
theorem f_a_NUMERIC_LESS_THAN_negationOf {Z : State} (h : St Z) : Fld Z Z.heap (a_NUMERIC_LESS_THAN Z) "com/example/menshen/menshen/policy/ConditionOperator" "negationOf" "Lcom/example/menshen/menshen/policy/ConditionOperator;" .null := h.2.2.2.2.2.2.2.2.2.2.2.2.2.2.2.2.2.2.2.2.2.2.2.2.2.2.2.2.2.2.2.2.2.2.2.2.2.2.2.2.2.2.2.2.2.2.2.2.2.1
theorem f_a_NUMERIC_LESS_THAN_EQUALS_negationOf {Z : State} (h : St Z) : Fld Z Z.heap (a_NUMERIC_LESS_THAN_EQUALS Z) "com/example/menshen/menshen/policy/ConditionOperator" "negationOf" "Lcom/example/menshen/menshen/policy/ConditionOperator;" .null := h.2.2.2.2.2.2.2.2.2.2.2.2.2.2.2.2.2.2.2.2.2.2.2.2.2.2.2.2.2.2.2.2.2.2.2.2.2.2.2.2.2.2.2.2.2.2.2.2.2.2.1
theorem f_a_STRING_LIKE_negationOf {Z : State} (h : St Z) : Fld Z Z.heap (a_STRING_LIKE Z) "com/example/menshen/menshen/policy/ConditionOperator" "negationOf" "Lcom/example/menshen/menshen/policy/ConditionOperator;" .null := h.2.2.2.2.2.2.2.2.2.2.2.2.2.2.2.2.2.2.2.2.2.2.2.2.2.2.2.2.2.2.2.2.2.2.2.2.2.2.2.2.2.2.2.2.2.2.2.2.2.2.2.1
theorem f_a_IP_ADDRESS_negationOf {Z : State} (h : St Z) : Fld Z Z.heap (a_IP_ADDRESS Z) "com/example/menshen/menshen/policy/ConditionOperator" "negationOf" "Lcom/example/menshen/menshen/policy/ConditionOperator;" .null := h.2.2.2.2.2.2.2.2.2.2.2.2.2.2.2.2.2.2.2.2.2.2.2.2.2.2.2.2.2.2.2.2.2.2.2.2.2.2.2.2.2.2.2.2.2.2.2.2.2.2.2.2.1
theorem f_a_NOT_STRING_EQUALS_negationOf {Z : State} (h : St Z) : Fld Z Z.heap (a_NOT_STRING_EQUALS Z) "com/example/menshen/menshen/policy/ConditionOperator" "negationOf" "Lcom/example/menshen/menshen/policy/ConditionOperator;" (.ref (a_STRING_EQUALS Z)) := h.2.2.2.2.2.2.2.2.2.2.2.2.2.2.2.2.2.2.2.2.2.2.2.2.2.2.2.2.2.2.2.2.2.2.2.2.2.2.2.2.2.2.2.2.2.2.2.2.2.2.2.2.2.1
theorem f_a_STRING_EQUALS_ordinal {Z : State} (h : St Z) : Fld Z Z.heap (a_STRING_EQUALS Z) "java/lang/Enum" "ordinal" "I" (.int (0 : Int32)) := h.2.2.2.2.2.2.2.2.2.2.2.2.2.2.2.2.2.2.2.2.2.2.2.2.2.2.2.2.2.2.2.2.2.2.2.2.2.2.2.2.2.2.2.2.2.2.2.2.2.2.2.2.2.2.1
theorem f_a_NOT_STRING_EQUALS_ordinal {Z : State} (h : St Z) : Fld Z Z.heap (a_NOT_STRING_EQUALS Z) "java/lang/Enum" "ordinal" "I" (.int (2 : Int32)) := h.2.2.2.2.2.2.2.2.2.2.2.2.2.2.2.2.2.2.2.2.2.2.2.2.2.2.2.2.2.2.2.2.2.2.2.2.2.2.2.2.2.2.2.2.2.2.2.2.2.2.2.2.2.2.2.1
theorem f_a_STRING_NOT_EQUALS_IGNORE_CASE_negationOf {Z : State} (h : St Z) : Fld Z Z.heap (a_STRING_NOT_EQUALS_IGNORE_CASE Z) "com/example/menshen/menshen/policy/ConditionOperator" "negationOf" "Lcom/example/menshen/menshen/policy/ConditionOperator;" (.ref (a_STRING_EQUALS_IGNORE_CASE Z)) := h.2.2.2.2.2.2.2.2.2.2.2.2.2.2.2.2.2.2.2.2.2.2.2.2.2.2.2.2.2.2.2.2.2.2.2.2.2.2.2.2.2.2.2.2.2.2.2.2.2.2.2.2.2.2.2.2.1
theorem f_a_STRING_EQUALS_IGNORE_CASE_ordinal {Z : State} (h : St Z) : Fld Z Z.heap (a_STRING_EQUALS_IGNORE_CASE Z) "java/lang/Enum" "ordinal" "I" (.int (3 : Int32)) := h.2.2.2.2.2.2.2.2.2.2.2.2.2.2.2.2.2.2.2.2.2.2.2.2.2.2.2.2.2.2.2.2.2.2.2.2.2.2.2.2.2.2.2.2.2.2.2.2.2.2.2.2.2.2.2.2.2.1
theorem f_a_STRING_NOT_EQUALS_IGNORE_CASE_ordinal {Z : State} (h : St Z) : Fld Z Z.heap (a_STRING_NOT_EQUALS_IGNORE_CASE Z) "java/lang/Enum" "ordinal" "I" (.int (4 : Int32)) := h.2.2.2.2.2.2.2.2.2.2.2.2.2.2.2.2.2.2.2.2.2.2.2.2.2.2.2.2.2.2.2.2.2.2.2.2.2.2.2.2.2.2.2.2.2.2.2.2.2.2.2.2.2.2.2.2.2.2.1
theorem f_a_NOT_IP_ADDRESS_negationOf {Z : State} (h : St Z) : Fld Z Z.heap (a_NOT_IP_ADDRESS Z) "com/example/menshen/menshen/policy/ConditionOperator" "negationOf" "Lcom/example/menshen/menshen/policy/ConditionOperator;" (.ref (a_IP_ADDRESS Z)) := h.2.2.2.2.2.2.2.2.2.2.2.2.2.2.2.2.2.2.2.2.2.2.2.2.2.2.2.2.2.2.2.2.2.2.2.2.2.2.2.2.2.2.2.2.2.2.2.2.2.2.2.2.2.2.2.2.2.2.2.1
theorem f_a_IP_ADDRESS_ordinal {Z : State} (h : St Z) : Fld Z Z.heap (a_IP_ADDRESS Z) "java/lang/Enum" "ordinal" "I" (.int (7 : Int32)) := h.2.2.2.2.2.2.2.2.2.2.2.2.2.2.2.2.2.2.2.2.2.2.2.2.2.2.2.2.2.2.2.2.2.2.2.2.2.2.2.2.2.2.2.2.2.2.2.2.2.2.2.2.2.2.2.2.2.2.2.2.1
theorem f_a_NOT_IP_ADDRESS_ordinal {Z : State} (h : St Z) : Fld Z Z.heap (a_NOT_IP_ADDRESS Z) "java/lang/Enum" "ordinal" "I" (.int (8 : Int32)) := h.2.2.2.2.2.2.2.2.2.2.2.2.2.2.2.2.2.2.2.2.2.2.2.2.2.2.2.2.2.2.2.2.2.2.2.2.2.2.2.2.2.2.2.2.2.2.2.2.2.2.2.2.2.2.2.2.2.2.2.2.2.1
theorem f_a_STRING_NOT_EQUALS_negationOf {Z : State} (h : St Z) : Fld Z Z.heap (a_STRING_NOT_EQUALS Z) "com/example/menshen/menshen/policy/ConditionOperator" "negationOf" "Lcom/example/menshen/menshen/policy/ConditionOperator;" (.ref (a_STRING_EQUALS Z)) := h.2.2.2.2.2.2.2.2.2.2.2.2.2.2.2.2.2.2.2.2.2.2.2.2.2.2.2.2.2.2.2.2.2.2.2.2.2.2.2.2.2.2.2.2.2.2.2.2.2.2.2.2.2.2.2.2.2.2.2.2.2.2.1
theorem f_a_STRING_NOT_EQUALS_ordinal {Z : State} (h : St Z) : Fld Z Z.heap (a_STRING_NOT_EQUALS Z) "java/lang/Enum" "ordinal" "I" (.int (1 : Int32)) := h.2.2.2.2.2.2.2.2.2.2.2.2.2.2.2.2.2.2.2.2.2.2.2.2.2.2.2.2.2.2.2.2.2.2.2.2.2.2.2.2.2.2.2.2.2.2.2.2.2.2.2.2.2.2.2.2.2.2.2.2.2.2.2.1
theorem f_a_BOOL_negationOf {Z : State} (h : St Z) : Fld Z Z.heap (a_BOOL Z) "com/example/menshen/menshen/policy/ConditionOperator" "negationOf" "Lcom/example/menshen/menshen/policy/ConditionOperator;" .null := h.2.2.2.2.2.2.2.2.2.2.2.2.2.2.2.2.2.2.2.2.2.2.2.2.2.2.2.2.2.2.2.2.2.2.2.2.2.2.2.2.2.2.2.2.2.2.2.2.2.2.2.2.2.2.2.2.2.2.2.2.2.2.2.2.1
theorem f_a_DATE_NOT_EQUALS_negationOf {Z : State} (h : St Z) : Fld Z Z.heap (a_DATE_NOT_EQUALS Z) "com/example/menshen/menshen/policy/ConditionOperator" "negationOf" "Lcom/example/menshen/menshen/policy/ConditionOperator;" (.ref (a_DATE_EQUALS Z)) := h.2.2.2.2.2.2.2.2.2.2.2.2.2.2.2.2.2.2.2.2.2.2.2.2.2.2.2.2.2.2.2.2.2.2.2.2.2.2.2.2.2.2.2.2.2.2.2.2.2.2.2.2.2.2.2.2.2.2.2.2.2.2.2.2.2.1
theorem f_a_DATE_EQUALS_ordinal {Z : State} (h : St Z) : Fld Z Z.heap (a_DATE_EQUALS Z) "java/lang/Enum" "ordinal" "I" (.int (15 : Int32)) := h.2.2.2.2.2.2.2.2.2.2.2.2.2.2.2.2.2.2.2.2.2.2.2.2.2.2.2.2.2.2.2.2.2.2.2.2.2.2.2.2.2.2.2.2.2.2.2.2.2.2.2.2.2.2.2.2.2.2.2.2.2.2.2.2.2.2.1
theorem f_a_DATE_NOT_EQUALS_ordinal {Z : State} (h : St Z) : Fld Z Z.heap (a_DATE_NOT_EQUALS Z) "java/lang/Enum" "ordinal" "I" (.int (16 : Int32)) := h.2.2.2.2.2.2.2.2.2.2.2.2.2.2.2.2.2.2.2.2.2.2.2.2.2.2.2.2.2.2.2.2.2.2.2.2.2.2.2.2.2.2.2.2.2.2.2.2.2.2.2.2.2.2.2.2.2.2.2.2.2.2.2.2.2.2.2.1
theorem f_a_DATE_EQUALS_negationOf {Z : State} (h : St Z) : Fld Z Z.heap (a_DATE_EQUALS Z) "com/example/menshen/menshen/policy/ConditionOperator" "negationOf" "Lcom/example/menshen/menshen/policy/ConditionOperator;" .null := h.2.2.2.2.2.2.2.2.2.2.2.2.2.2.2.2.2.2.2.2.2.2.2.2.2.2.2.2.2.2.2.2.2.2.2.2.2.2.2.2.2.2.2.2.2.2.2.2.2.2.2.2.2.2.2.2.2.2.2.2.2.2.2.2.2.2.2.2.1
theorem f_a_NUMERIC_NOT_EQUALS_negationOf {Z : State} (h : St Z) : Fld Z Z.heap (a_NUMERIC_NOT_EQUALS Z) "com/example/menshen/menshen/policy/ConditionOperator" "negationOf" "Lcom/example/menshen/menshen/policy/ConditionOperator;" (.ref (a_NUMERIC_EQUALS Z)) := h.2.2.2.2.2.2.2.2.2.2.2.2.2.2.2.2.2.2.2.2.2.2.2.2.2.2.2.2.2.2.2.2.2.2.2.2.2.2.2.2.2.2.2.2.2.2.2.2.2.2.2.2.2.2.2.2.2.2.2.2.2.2.2.2.2.2.2.2.2.1
theorem f_a_NUMERIC_EQUALS_ordinal {Z : State} (h : St Z) : Fld Z Z.heap (a_NUMERIC_EQUALS Z) "java/lang/Enum" "ordinal" "I" (.int (9 : Int32)) := h.2.2.2.2.2.2.2.2.2.2.2.2.2.2.2.2.2.2.2.2.2.2.2.2.2.2.2.2.2.2.2.2.2.2.2.2.2.2.2.2.2.2.2.2.2.2.2.2.2.2.2.2.2.2.2.2.2.2.2.2.2.2.2.2.2.2.2.2.2.2.1
theorem f_a_NUMERIC_NOT_EQUALS_ordinal {Z : State} (h : St Z) : Fld Z Z.heap (a_NUMERIC_NOT_EQUALS Z) "java/lang/Enum" "ordinal" "I" (.int (10 : Int32)) := h.2.2.2.2.2.2.2.2.2.2.2.2.2.2.2.2.2.2.2.2.2.2.2.2.2.2.2.2.2.2.2.2.2.2.2.2.2.2.2.2.2.2.2.2.2.2.2.2.2.2.2.2.2.2.2.2.2.2.2.2.2.2.2.2.2.2.2.2.2.2.2.1
theorem f_a_NUMERIC_EQUALS_negationOf {Z : State} (h : St Z) : Fld Z Z.heap (a_NUMERIC_EQUALS Z) "com/example/menshen/menshen/policy/ConditionOperator" "negationOf" "Lcom/example/menshen/menshen/policy/ConditionOperator;" .null := h.2.2.2.2.2.2.2.2.2.2.2.2.2.2.2.2.2.2.2.2.2.2.2.2.2.2.2.2.2.2.2.2.2.2.2.2.2.2.2.2.2.2.2.2.2.2.2.2.2.2.2.2.2.2.2.2.2.2.2.2.2.2.2.2.2.2.2.2.2.2.2.2.1
theorem f_a_NULL_negationOf {Z : State} (h : St Z) : Fld Z Z.heap (a_NULL Z) "com/example/menshen/menshen/policy/ConditionOperator" "negationOf" "Lcom/example/menshen/menshen/policy/ConditionOperator;" .null := h.2.2.2.2.2.2.2.2.2.2.2.2.2.2.2.2.2.2.2.2.2.2.2.2.2.2.2.2.2.2.2.2.2.2.2.2.2.2.2.2.2.2.2.2.2.2.2.2.2.2.2.2.2.2.2.2.2.2.2.2.2.2.2.2.2.2.2.2.2.2.2.2.2.1
theorem f_a_DATE_GREATER_THAN_negationOf {Z : State} (h : St Z) : Fld Z Z.heap (a_DATE_GREATER_THAN Z) "com/example/menshen/menshen/policy/ConditionOperator" "negationOf" "Lcom/example/menshen/menshen/policy/ConditionOperator;" .null := h.2.2.2.2.2.2.2.2.2.2.2.2.2.2.2.2.2.2.2.2.2.2.2.2.2.2.2.2.2.2.2.2.2.2.2.2.2.2.2.2.2.2.2.2.2.2.2.2.2.2.2.2.2.2.2.2.2.2.2.2.2.2.2.2.2.2.2.2.2.2.2.2.2.2.1
theorem f_a_DATE_LESS_THAN_negationOf {Z : State} (h : St Z) : Fld Z Z.heap (a_DATE_LESS_THAN Z) "com/example/menshen/menshen/policy/ConditionOperator" "negationOf" "Lcom/example/menshen/menshen/policy/ConditionOperator;" .null := h.2.2.2.2.2.2.2.2.2.2.2.2.2.2.2.2.2.2.2.2.2.2.2.2.2.2.2.2.2.2.2.2.2.2.2.2.2.2.2.2.2.2.2.2.2.2.2.2.2.2.2.2.2.2.2.2.2.2.2.2.2.2.2.2.2.2.2.2.2.2.2.2.2.2.2.1
theorem f_a_DATE_GREATER_THAN_EQUALS_negationOf {Z : State} (h : St Z) : Fld Z Z.heap (a_DATE_GREATER_THAN_EQUALS Z) "com/example/menshen/menshen/policy/ConditionOperator" "negationOf" "Lcom/example/menshen/menshen/policy/ConditionOperator;" .null := h.2.2.2.2.2.2.2.2.2.2.2.2.2.2.2.2.2.2.2.2.2.2.2.2.2.2.2.2.2.2.2.2.2.2.2.2.2.2.2.2.2.2.2.2.2.2.2.2.2.2.2.2.2.2.2.2.2.2.2.2.2.2.2.2.2.2.2.2.2.2.2.2.2.2.2.2.1
theorem f_a_NUMERIC_GREATER_THAN_EQUALS_negationOf {Z : State} (h : St Z) : Fld Z Z.heap (a_NUMERIC_GREATER_THAN_EQUALS Z) "com/example/menshen/menshen/policy/ConditionOperator" "negationOf" "Lcom/example/menshen/menshen/policy/ConditionOperator;" .null := h.2.2.2.2.2.2.2.2.2.2.2.2.2.2.2.2.2.2.2.2.2.2.2.2.2.2.2.2.2.2.2.2.2.2.2.2.2.2.2.2.2.2.2.2.2.2.2.2.2.2.2.2.2.2.2.2.2.2.2.2.2.2.2.2.2.2.2.2.2.2.2.2.2.2.2.2.2.1
theorem f_a_STRING_NOT_LIKE_negationOf {Z : State} (h : St Z) : Fld Z Z.heap (a_STRING_NOT_LIKE Z) "com/example/menshen/menshen/policy/ConditionOperator" "negationOf" "Lcom/example/menshen/menshen/policy/ConditionOperator;" (.ref (a_STRING_LIKE Z)) := h.2.2.2.2.2.2.2.2.2.2.2.2.2.2.2.2.2.2.2.2.2.2.2.2.2.2.2.2.2.2.2.2.2.2.2.2.2.2.2.2.2.2.2.2.2.2.2.2.2.2.2.2.2.2.2.2.2.2.2.2.2.2.2.2.2.2.2.2.2.2.2.2.2.2.2.2.2.2.1
theorem f_a_STRING_LIKE_ordinal {Z : State} (h : St Z) : Fld Z Z.heap (a_STRING_LIKE Z) "java/lang/Enum" "ordinal" "I" (.int (5 : Int32)) := h.2.2.2.2.2.2.2.2.2.2.2.2.2.2.2.2.2.2.2.2.2.2.2.2.2.2.2.2.2.2.2.2.2.2.2.2.2.2.2.2.2.2.2.2.2.2.2.2.2.2.2.2.2.2.2.2.2.2.2.2.2.2.2.2.2.2.2.2.2.2.2.2.2.2.2.2.2.2.2.1
theorem f_a_STRING_NOT_LIKE_ordinal {Z : State} (h : St Z) : Fld Z Z.heap (a_STRING_NOT_LIKE Z) "java/lang/Enum" "ordinal" "I" (.int (6 : Int32)) := h.2.2.2.2.2.2.2.2.2.2.2.2.2.2.2.2.2.2.2.2.2.2.2.2.2.2.2.2.2.2.2.2.2.2.2.2.2.2.2.2.2.2.2.2.2.2.2.2.2.2.2.2.2.2.2.2.2.2.2.2.2.2.2.2.2.2.2.2.2.2.2.2.2.2.2.2.2.2.2.2.1
theorem f_a_NUMERIC_GREATER_THAN_negationOf {Z : State} (h : St Z) : Fld Z Z.heap (a_NUMERIC_GREATER_THAN Z) "com/example/menshen/menshen/policy/ConditionOperator" "negationOf" "Lcom/example/menshen/menshen/policy/ConditionOperator;" .null := h.2.2.2.2.2.2.2.2.2.2.2.2.2.2.2.2.2.2.2.2.2.2.2.2.2.2.2.2.2.2.2.2.2.2.2.2.2.2.2.2.2.2.2.2.2.2.2.2.2.2.2.2.2.2.2.2.2.2.2.2.2.2.2.2.2.2.2.2.2.2.2.2.2.2.2.2.2.2.2.2.2
theorem d1_0 : decode prog_22_method_7_code 0 = .ok (.aload_n 0, 1) := by decide +kernel
theorem d1_1 : decode prog_22_method_7_code 1 = .ok (.getfield 96, 3) := by decide +kernel
theorem d1_4 : decode prog_22_method_7_code 4 = .ok (.ifnull 7, 3) := by decide +kernel
theorem d1_11 : decode prog_22_method_7_code 11 = .ok (.iconst 0, 1) := by decide +kernel
theorem d1_12 : decode prog_22_method_7_code 12 = .ok (.ireturn, 1) := by decide +kernel
def fn1n (Z : State) (r0 : Addr) : Int32 :=
  (0 : Int32)
theorem ef_1n (m : MethodId) (x0 : Addr) : entryFrame m #[(.ref x0)] 1 = mkF m 0 #[.val (.ref x0)] [] := by first | (simp [entryFrame, mkF, argsToLocals, Value.category]; done) | rfl
theorem pn_0 : plainName "com/example/menshen/menshen/policy/ConditionOperator" = true := by first | (simp [plainName, overriddenIn]; done) | decide +kernel
set_option maxRecDepth 65536 in
set_option maxHeartbeats 40000000 in
theorem rm1n (l : Launch) (Z : State) (a0 : Array Value) (hw : ∀ d ∈ tables_1, d.before a0 Z = true) (hS : St Z) (ws : List Jvm.Cond) (r0 : Addr) (h0 : Heap) (n0 : Nat) (O0 : Old Z n0 h0) (F_negationOf_r0 : Fld Z h0 r0 "com/example/menshen/menshen/policy/ConditionOperator" "negationOf" "Lcom/example/menshen/menshen/policy/ConditionOperator;" .null) :
    MetFree l (⟨"com/example/menshen/menshen/policy/ConditionOperator", "isNegated", "()Z"⟩ : MethodName) (head1 (Jvm.Cond.code (⟨"com/example/menshen/menshen/policy/ConditionOperator", "isNegated", "()Z"⟩ : MethodName) prog_22_method_7_code 1 (some .boolean) :: ws) ({ frames := 0, cells := 0, slots := 0, locals := 0 } : Room)) (fun a U => a = #[(.ref r0)] ∧ Z.Warmed39 U.vm ∧ U.heap = h0) (fun _ _ _ _ _ => True) (fun _ U o U' => ∃ v L, o = .returned v ∧ own_Q (fun v hE L => v = some (.int (fn1n Z r0)) ∧ Fr n0 L ∧ Keep h0 hE []) v U'.heap L ∧ FrameEnd U o U' L ({ frames := 0, cells := 0, slots := 0, locals := 0 } : Room).cells ({ frames := 0, cells := 0, slots := 0, locals := 0 } : Room).slots) := by
  refine MetFree.of_bodySF (plainFor_of_name pn_0) hisR ?_
  intro p e s m args below meth c s₁ Bd hml0 hP hK
  obtain ⟨rfl, hZ, hh⟩ := hP
  have hx := Bd.exec
  have hby := Bd.bytes
  have hml : c.maxLocals = 1 := hml0
  have hown : s.vm.findClass "com/example/menshen/menshen/policy/ConditionOperator" = some m.cls := findClass_of_methodNamed Bd.named
  have hnm := (name_of_methodNamed Bd.named Bd.method).1
  have X0 : Stand p l e ({ frames := 0, cells := 0, slots := 0, locals := 0 } : Room) s m #[(.ref r0)] below meth c s₁ [] 0 0 := Stand.of_body Bd
  have e0 : s₁.heap = h0 := by rw [← hh, Bd.state]; rfl
  have N0 := Fr.nil n0
  have pre0 : ∀ t, Steps p.tables e below (s₁.setTop (mkF m 0 #[oR r0] [])) t → Steps p.tables e below (s₁.setTop (entryFrame m #[(.ref r0)] 1)) t := fun t k => castTop (ef_1n m r0) k
  obtain ⟨T1, X1, e1, st1⟩ := getF X0 hx hZ hown (host := "") (Or.inl (hw _ (List.mem_of_getElem? (i := 56) rfl))) Via.refl e0 F_negationOf_r0 (g := (mkF m 1 #[oR r0] [(.ref r0)])) rfl rfl (hb hby d1_1)
  obtain ⟨fs, hr, hrun, hended, hW, hsame⟩ := X1.leave (v := some (.int (0 : Int32))) (fun h => by rw [Bd.returns] at h; cases h)
  refine ⟨_, _, pre0 _ ?_, hrun, hended, _, _, rfl, ?_, ⟨_, rfl⟩, hW, hsame.mono (by decide) (by decide)⟩
  · show oP p e below s₁ (mkF m 0 #[oR r0] []) _
    refine XS.aloadN X0.here hx rfl (hb hby d1_0) rfl rfl ?_
    show oP p e below s₁ (mkF m 1 #[oR r0] [(.ref r0)]) _
    refine st1 _ ?_
    show oP p e below T1 (mkF m 4 #[oR r0] [.null]) _
    refine XS.ifnullYes X1.here hx rfl (pc0 := 4) (pc' := 11) rfl (hb hby d1_4) rfl (by decide) (by decide) ?_
    show oP p e below T1 (mkF m 11 #[oR r0] []) _
    refine XS.iconst X1.here hx rfl (hb hby d1_11) ?_
    show oP p e below T1 (mkF m 12 #[oR r0] [(.int (0 : Int32))]) _
    exact retN X1 hx (t := .boolean) Bd.returns (by simp) (hb hby d1_12) hr
  · show (some (.int (0 : Int32)) : Option Value) = some (.int (fn1n Z r0)) ∧ Fr n0 _ ∧ Keep h0 T1.heap []
    rw [e1]
    refine ⟨?_, N0, (Keep.refl h0 [])⟩
    rfl
theorem d1_7 : decode prog_22_method_7_code 7 = .ok (.iconst 1, 1) := by decide +kernel
theorem d1_8 : decode prog_22_method_7_code 8 = .ok (.goto 4, 3) := by decide +kernel
def fn1r (Z : State) (r0 : Addr) (u : Addr) : Int32 :=
  (1 : Int32)
theorem ef_1r (m : MethodId) (x0 : Addr) : entryFrame m #[(.ref x0)] 1 = mkF m 0 #[.val (.ref x0)] [] := by first | (simp [entryFrame, mkF, argsToLocals, Value.category]; done) | rfl
set_option maxRecDepth 65536 in
set_option maxHeartbeats 40000000 in
theorem rm1r (l : Launch) (Z : State) (a0 : Array Value) (hw : ∀ d ∈ tables_1, d.before a0 Z = true) (hS : St Z) (ws : List Jvm.Cond) (r0 : Addr) (u : Addr) (h0 : Heap) (n0 : Nat) (O0 : Old Z n0 h0) (F_negationOf_r0 : Fld Z h0 r0 "com/example/menshen/menshen/policy/ConditionOperator" "negationOf" "Lcom/example/menshen/menshen/policy/ConditionOperator;" (.ref u)) :
    MetFree l (⟨"com/example/menshen/menshen/policy/ConditionOperator", "isNegated", "()Z"⟩ : MethodName) (head1 (Jvm.Cond.code (⟨"com/example/menshen/menshen/policy/ConditionOperator", "isNegated", "()Z"⟩ : MethodName) prog_22_method_7_code 1 (some .boolean) :: ws) ({ frames := 0, cells := 0, slots := 0, locals := 0 } : Room)) (fun a U => a = #[(.ref r0)] ∧ Z.Warmed39 U.vm ∧ U.heap = h0) (fun _ _ _ _ _ => True) (fun _ U o U' => ∃ v L, o = .returned v ∧ own_Q (fun v hE L => v = some (.int (fn1r Z r0 u)) ∧ Fr n0 L ∧ Keep h0 hE []) v U'.heap L ∧ FrameEnd U o U' L ({ frames := 0, cells := 0, slots := 0, locals := 0 } : Room).cells ({ frames := 0, cells := 0, slots := 0, locals := 0 } : Room).slots) := by
  refine MetFree.of_bodySF (plainFor_of_name pn_0) hisR ?_
  intro p e s m args below meth c s₁ Bd hml0 hP hK
  obtain ⟨rfl, hZ, hh⟩ := hP
  have hx := Bd.exec
  have hby := Bd.bytes
  have hml : c.maxLocals = 1 := hml0
  have hown : s.vm.findClass "com/example/menshen/menshen/policy/ConditionOperator" = some m.cls := findClass_of_methodNamed Bd.named
  have hnm := (name_of_methodNamed Bd.named Bd.method).1
  have X0 : Stand p l e ({ frames := 0, cells := 0, slots := 0, locals := 0 } : Room) s m #[(.ref r0)] below meth c s₁ [] 0 0 := Stand.of_body Bd
  have e0 : s₁.heap = h0 := by rw [← hh, Bd.state]; rfl
  have N0 := Fr.nil n0
  have pre0 : ∀ t, Steps p.tables e below (s₁.setTop (mkF m 0 #[oR r0] [])) t → Steps p.tables e below (s₁.setTop (entryFrame m #[(.ref r0)] 1)) t := fun t k => castTop (ef_1r m r0) k
  obtain ⟨T2, X2, e2, st2⟩ := getF X0 hx hZ hown (host := "") (Or.inl (hw _ (List.mem_of_getElem? (i := 56) rfl))) Via.refl e0 F_negationOf_r0 (g := (mkF m 1 #[oR r0] [(.ref r0)])) rfl rfl (hb hby d1_1)
  obtain ⟨fs, hr, hrun, hended, hW, hsame⟩ := X2.leave (v := some (.int (1 : Int32))) (fun h => by rw [Bd.returns] at h; cases h)
  refine ⟨_, _, pre0 _ ?_, hrun, hended, _, _, rfl, ?_, ⟨_, rfl⟩, hW, hsame.mono (by decide) (by decide)⟩
  · show oP p e below s₁ (mkF m 0 #[oR r0] []) _
    refine XS.aloadN X0.here hx rfl (hb hby d1_0) rfl rfl ?_
    show oP p e below s₁ (mkF m 1 #[oR r0] [(.ref r0)]) _
    refine st2 _ ?_
    show oP p e below T2 (mkF m 4 #[oR r0] [(.ref u)]) _
    refine XS.ifnullNo X2.here hx rfl (hb hby d1_4) rfl ?_
    show oP p e below T2 (mkF m 7 #[oR r0] []) _
    refine XS.iconst X2.here hx rfl (hb hby d1_7) ?_
    show oP p e below T2 (mkF m 8 #[oR r0] [(.int (1 : Int32))]) _
    refine XS.goto X2.here hx rfl (pc0 := 8) (pc' := 12) rfl (hb hby d1_8) (by decide) (by decide) ?_
    show oP p e below T2 (mkF m 12 #[oR r0] [(.int (1 : Int32))]) _
    exact retN X2 hx (t := .boolean) Bd.returns (by simp) (hb hby d1_12) hr
  · show (some (.int (1 : Int32)) : Option Value) = some (.int (fn1r Z r0 u)) ∧ Fr n0 _ ∧ Keep h0 T2.heap []
    rw [e2]
    refine ⟨?_, N0, (Keep.refl h0 [])⟩
    rfl
theorem d2_0 : decode prog_22_method_9_code 0 = .ok (.aload_n 0, 1) := by decide +kernel
theorem d2_1 : decode prog_22_method_9_code 1 = .ok (.getfield 96, 3) := by decide +kernel
theorem d2_4 : decode prog_22_method_9_code 4 = .ok (.ifnonnull 7, 3) := by decide +kernel
theorem d2_7 : decode prog_22_method_9_code 7 = .ok (.aload_n 0, 1) := by decide +kernel
theorem d2_8 : decode prog_22_method_9_code 8 = .ok (.goto 7, 3) := by decide +kernel
theorem d2_15 : decode prog_22_method_9_code 15 = .ok (.areturn, 1) := by decide +kernel
def fn2n (Z : State) (r0 : Addr) : Addr :=
  r0
theorem ef_2n (m : MethodId) (x0 : Addr) : entryFrame m #[(.ref x0)] 1 = mkF m 0 #[.val (.ref x0)] [] := by first | (simp [entryFrame, mkF, argsToLocals, Value.category]; done) | rfl
set_option maxRecDepth 65536 in
set_option maxHeartbeats 40000000 in
theorem rm2n (l : Launch) (Z : State) (a0 : Array Value) (hw : ∀ d ∈ tables_1, d.before a0 Z = true) (hS : St Z) (ws : List Jvm.Cond) (r0 : Addr) (h0 : Heap) (n0 : Nat) (O0 : Old Z n0 h0) (F_negationOf_r0 : Fld Z h0 r0 "com/example/menshen/menshen/policy/ConditionOperator" "negationOf" "Lcom/example/menshen/menshen/policy/ConditionOperator;" .null) :
    MetFree l (⟨"com/example/menshen/menshen/policy/ConditionOperator", "positive", "()Lcom/example/menshen/menshen/policy/ConditionOperator;"⟩ : MethodName) (head1 (Jvm.Cond.code (⟨"com/example/menshen/menshen/policy/ConditionOperator", "positive", "()Lcom/example/menshen/menshen/policy/ConditionOperator;"⟩ : MethodName) prog_22_method_9_code 1 (some (.object "com/example/menshen/menshen/policy/ConditionOperator")) :: ws) ({ frames := 0, cells := 0, slots := 0, locals := 0 } : Room)) (fun a U => a = #[(.ref r0)] ∧ Z.Warmed39 U.vm ∧ U.heap = h0) (fun _ _ _ _ _ => True) (fun _ U o U' => ∃ v L, o = .returned v ∧ own_Q (fun v hE L => v = some (.ref (fn2n Z r0)) ∧ Fr n0 L ∧ Keep h0 hE []) v U'.heap L ∧ FrameEnd U o U' L ({ frames := 0, cells := 0, slots := 0, locals := 0 } : Room).cells ({ frames := 0, cells := 0, slots := 0, locals := 0 } : Room).slots) := by
  refine MetFree.of_bodySF (plainFor_of_name pn_0) hisR ?_
  intro p e s m args below meth c s₁ Bd hml0 hP hK
  obtain ⟨rfl, hZ, hh⟩ := hP
  have hx := Bd.exec
  have hby := Bd.bytes
  have hml : c.maxLocals = 1 := hml0
  have hown : s.vm.findClass "com/example/menshen/menshen/policy/ConditionOperator" = some m.cls := findClass_of_methodNamed Bd.named
  have hnm := (name_of_methodNamed Bd.named Bd.method).1
  have X0 : Stand p l e ({ frames := 0, cells := 0, slots := 0, locals := 0 } : Room) s m #[(.ref r0)] below meth c s₁ [] 0 0 := Stand.of_body Bd
  have e0 : s₁.heap = h0 := by rw [← hh, Bd.state]; rfl
  have N0 := Fr.nil n0
  have pre0 : ∀ t, Steps p.tables e below (s₁.setTop (mkF m 0 #[oR r0] [])) t → Steps p.tables e below (s₁.setTop (entryFrame m #[(.ref r0)] 1)) t := fun t k => castTop (ef_2n m r0) k
  obtain ⟨T3, X3, e3, st3⟩ := getF X0 hx hZ hown (host := "") (Or.inl (hw _ (List.mem_of_getElem? (i := 56) rfl))) Via.refl e0 F_negationOf_r0 (g := (mkF m 1 #[oR r0] [(.ref r0)])) rfl rfl (hb hby d2_1)
  obtain ⟨fs, hr, hrun, hended, hW, hsame⟩ := X3.leave (v := some (.ref r0)) (fun h => by rw [Bd.returns] at h; cases h)
  refine ⟨_, _, pre0 _ ?_, hrun, hended, _, _, rfl, ?_, ⟨_, rfl⟩, hW, hsame.mono (by decide) (by decide)⟩
  · show oP p e below s₁ (mkF m 0 #[oR r0] []) _
    refine XS.aloadN X0.here hx rfl (hb hby d2_0) rfl rfl ?_
    show oP p e below s₁ (mkF m 1 #[oR r0] [(.ref r0)]) _
    refine st3 _ ?_
    show oP p e below T3 (mkF m 4 #[oR r0] [.null]) _
    refine XS.ifnonnullNo X3.here hx rfl (hb hby d2_4) rfl ?_
    show oP p e below T3 (mkF m 7 #[oR r0] []) _
    refine XS.aloadN X3.here hx rfl (hb hby d2_7) rfl rfl ?_
    show oP p e below T3 (mkF m 8 #[oR r0] [(.ref r0)]) _
    refine XS.goto X3.here hx rfl (pc0 := 8) (pc' := 15) rfl (hb hby d2_8) (by decide) (by decide) ?_
    show oP p e below T3 (mkF m 15 #[oR r0] [(.ref r0)]) _
    exact own_retA X3 hx Bd.returns rfl rfl (hb hby d2_15) hr
  · show (some (.ref r0) : Option Value) = some (.ref (fn2n Z r0)) ∧ Fr n0 _ ∧ Keep h0 T3.heap []
    rw [e3]
    refine ⟨?_, N0, (Keep.refl h0 [])⟩
    rfl
theorem d2_11 : decode prog_22_method_9_code 11 = .ok (.aload_n 0, 1) := by decide +kernel
theorem d2_12 : decode prog_22_method_9_code 12 = .ok (.getfield 96, 3) := by decide +kernel
def fn2r (Z : State) (r0 : Addr) (u : Addr) : Addr :=
  u
theorem ef_2r (m : MethodId) (x0 : Addr) : entryFrame m #[(.ref x0)] 1 = mkF m 0 #[.val (.ref x0)] [] := by first | (simp [entryFrame, mkF, argsToLocals, Value.category]; done) | rfl
set_option maxRecDepth 65536 in
set_option maxHeartbeats 40000000 in
theorem rm2r (l : Launch) (Z : State) (a0 : Array Value) (hw : ∀ d ∈ tables_1, d.before a0 Z = true) (hS : St Z) (ws : List Jvm.Cond) (r0 : Addr) (u : Addr) (h0 : Heap) (n0 : Nat) (O0 : Old Z n0 h0) (F_negationOf_r0 : Fld Z h0 r0 "com/example/menshen/menshen/policy/ConditionOperator" "negationOf" "Lcom/example/menshen/menshen/policy/ConditionOperator;" (.ref u)) :
    MetFree l (⟨"com/example/menshen/menshen/policy/ConditionOperator", "positive", "()Lcom/example/menshen/menshen/policy/ConditionOperator;"⟩ : MethodName) (head1 (Jvm.Cond.code (⟨"com/example/menshen/menshen/policy/ConditionOperator", "positive", "()Lcom/example/menshen/menshen/policy/ConditionOperator;"⟩ : MethodName) prog_22_method_9_code 1 (some (.object "com/example/menshen/menshen/policy/ConditionOperator")) :: ws) ({ frames := 0, cells := 0, slots := 0, locals := 0 } : Room)) (fun a U => a = #[(.ref r0)] ∧ Z.Warmed39 U.vm ∧ U.heap = h0) (fun _ _ _ _ _ => True) (fun _ U o U' => ∃ v L, o = .returned v ∧ own_Q (fun v hE L => v = some (.ref (fn2r Z r0 u)) ∧ Fr n0 L ∧ Keep h0 hE []) v U'.heap L ∧ FrameEnd U o U' L ({ frames := 0, cells := 0, slots := 0, locals := 0 } : Room).cells ({ frames := 0, cells := 0, slots := 0, locals := 0 } : Room).slots) := by
  refine MetFree.of_bodySF (plainFor_of_name pn_0) hisR ?_
  intro p e s m args below meth c s₁ Bd hml0 hP hK
  obtain ⟨rfl, hZ, hh⟩ := hP
  have hx := Bd.exec
  have hby := Bd.bytes
  have hml : c.maxLocals = 1 := hml0
  have hown : s.vm.findClass "com/example/menshen/menshen/policy/ConditionOperator" = some m.cls := findClass_of_methodNamed Bd.named
  have hnm := (name_of_methodNamed Bd.named Bd.method).1
  have X0 : Stand p l e ({ frames := 0, cells := 0, slots := 0, locals := 0 } : Room) s m #[(.ref r0)] below meth c s₁ [] 0 0 := Stand.of_body Bd
  have e0 : s₁.heap = h0 := by rw [← hh, Bd.state]; rfl
  have N0 := Fr.nil n0
  have pre0 : ∀ t, Steps p.tables e below (s₁.setTop (mkF m 0 #[oR r0] [])) t → Steps p.tables e below (s₁.setTop (entryFrame m #[(.ref r0)] 1)) t := fun t k => castTop (ef_2r m r0) k
  obtain ⟨T4, X4, e4, st4⟩ := getF X0 hx hZ hown (host := "") (Or.inl (hw _ (List.mem_of_getElem? (i := 56) rfl))) Via.refl e0 F_negationOf_r0 (g := (mkF m 1 #[oR r0] [(.ref r0)])) rfl rfl (hb hby d2_1)
  obtain ⟨T5, X5, e5, st5⟩ := getF X4 hx hZ hown (host := "") (Or.inl (hw _ (List.mem_of_getElem? (i := 56) rfl))) Via.refl e4 F_negationOf_r0 (g := (mkF m 12 #[oR r0] [(.ref r0)])) rfl rfl (hb hby d2_12)
  obtain ⟨fs, hr, hrun, hended, hW, hsame⟩ := X5.leave (v := some (.ref u)) (fun h => by rw [Bd.returns] at h; cases h)
  refine ⟨_, _, pre0 _ ?_, hrun, hended, _, _, rfl, ?_, ⟨_, rfl⟩, hW, hsame.mono (by decide) (by decide)⟩
  · show oP p e below s₁ (mkF m 0 #[oR r0] []) _
    refine XS.aloadN X0.here hx rfl (hb hby d2_0) rfl rfl ?_
    show oP p e below s₁ (mkF m 1 #[oR r0] [(.ref r0)]) _
    refine st4 _ ?_
    show oP p e below T4 (mkF m 4 #[oR r0] [(.ref u)]) _
    refine XS.ifnonnullYes X4.here hx rfl (pc0 := 4) (pc' := 11) rfl (hb hby d2_4) rfl (by decide) (by decide) ?_
    show oP p e below T4 (mkF m 11 #[oR r0] []) _
    refine XS.aloadN X4.here hx rfl (hb hby d2_11) rfl rfl ?_
    show oP p e below T4 (mkF m 12 #[oR r0] [(.ref r0)]) _
    refine st5 _ ?_
    show oP p e below T5 (mkF m 15 #[oR r0] [(.ref u)]) _
    exact own_retA X5 hx Bd.returns rfl rfl (hb hby d2_15) hr
  · show (some (.ref u) : Option Value) = some (.ref (fn2r Z r0 u)) ∧ Fr n0 _ ∧ Keep h0 T5.heap []
    rw [e5]
    refine ⟨?_, N0, (Keep.refl h0 [])⟩
    rfl
theorem rng_rem23 (k : Int32) : ((k &&& (2147483647 : Int32)) - ((k &&& (2147483647 : Int32)) / (23 : Int32)) * (23 : Int32)) = (0 : Int32) ∨ ((k &&& (2147483647 : Int32)) - ((k &&& (2147483647 : Int32)) / (23 : Int32)) * (23 : Int32)) = (1 : Int32) ∨ ((k &&& (2147483647 : Int32)) - ((k &&& (2147483647 : Int32)) / (23 : Int32)) * (23 : Int32)) = (2 : Int32) ∨ ((k &&& (2147483647 : Int32)) - ((k &&& (2147483647 : Int32)) / (23 : Int32)) * (23 : Int32)) = (3 : Int32) ∨ ((k &&& (2147483647 : Int32)) - ((k &&& (2147483647 : Int32)) / (23 : Int32)) * (23 : Int32)) = (4 : Int32) ∨ ((k &&& (2147483647 : Int32)) - ((k &&& (2147483647 : Int32)) / (23 : Int32)) * (23 : Int32)) = (5 : Int32) ∨ ((k &&& (2147483647 : Int32)) - ((k &&& (2147483647 : Int32)) / (23 : Int32)) * (23 : Int32)) = (6 : Int32) ∨ ((k &&& (2147483647 : Int32)) - ((k &&& (2147483647 : Int32)) / (23 : Int32)) * (23 : Int32)) = (7 : Int32) ∨ ((k &&& (2147483647 : Int32)) - ((k &&& (2147483647 : Int32)) / (23 : Int32)) * (23 : Int32)) = (8 : Int32) ∨ ((k &&& (2147483647 : Int32)) - ((k &&& (2147483647 : Int32)) / (23 : Int32)) * (23 : Int32)) = (9 : Int32) ∨ ((k &&& (2147483647 : Int32)) - ((k &&& (2147483647 : Int32)) / (23 : Int32)) * (23 : Int32)) = (10 : Int32) ∨ ((k &&& (2147483647 : Int32)) - ((k &&& (2147483647 : Int32)) / (23 : Int32)) * (23 : Int32)) = (11 : Int32) ∨ ((k &&& (2147483647 : Int32)) - ((k &&& (2147483647 : Int32)) / (23 : Int32)) * (23 : Int32)) = (12 : Int32) ∨ ((k &&& (2147483647 : Int32)) - ((k &&& (2147483647 : Int32)) / (23 : Int32)) * (23 : Int32)) = (13 : Int32) ∨ ((k &&& (2147483647 : Int32)) - ((k &&& (2147483647 : Int32)) / (23 : Int32)) * (23 : Int32)) = (14 : Int32) ∨ ((k &&& (2147483647 : Int32)) - ((k &&& (2147483647 : Int32)) / (23 : Int32)) * (23 : Int32)) = (15 : Int32) ∨ ((k &&& (2147483647 : Int32)) - ((k &&& (2147483647 : Int32)) / (23 : Int32)) * (23 : Int32)) = (16 : Int32) ∨ ((k &&& (2147483647 : Int32)) - ((k &&& (2147483647 : Int32)) / (23 : Int32)) * (23 : Int32)) = (17 : Int32) ∨ ((k &&& (2147483647 : Int32)) - ((k &&& (2147483647 : Int32)) / (23 : Int32)) * (23 : Int32)) = (18 : Int32) ∨ ((k &&& (2147483647 : Int32)) - ((k &&& (2147483647 : Int32)) / (23 : Int32)) * (23 : Int32)) = (19 : Int32) ∨ ((k &&& (2147483647 : Int32)) - ((k &&& (2147483647 : Int32)) / (23 : Int32)) * (23 : Int32)) = (20 : Int32) ∨ ((k &&& (2147483647 : Int32)) - ((k &&& (2147483647 : Int32)) / (23 : Int32)) * (23 : Int32)) = (21 : Int32) ∨ ((k &&& (2147483647 : Int32)) - ((k &&& (2147483647 : Int32)) / (23 : Int32)) * (23 : Int32)) = (22 : Int32) := by
  have h := own_rem (own_and_le k 2147483647 (by decide)).1 (y := 23) (by decide)
  have h5 : (23 : Int32).toInt = 23 := by decide
  rw [h5] at h
  obtain ⟨j, hj, e⟩ := own_mem (n := 23) (i := ((k &&& (2147483647 : Int32)) - ((k &&& (2147483647 : Int32)) / (23 : Int32)) * (23 : Int32))) (by omega) (by omega)
  rw [e]
  have t : ∀ k : Fin 23, Int32.ofNat k.val = (0 : Int32) ∨ Int32.ofNat k.val = (1 : Int32) ∨ Int32.ofNat k.val = (2 : Int32) ∨ Int32.ofNat k.val = (3 : Int32) ∨ Int32.ofNat k.val = (4 : Int32) ∨ Int32.ofNat k.val = (5 : Int32) ∨ Int32.ofNat k.val = (6 : Int32) ∨ Int32.ofNat k.val = (7 : Int32) ∨ Int32.ofNat k.val = (8 : Int32) ∨ Int32.ofNat k.val = (9 : Int32) ∨ Int32.ofNat k.val = (10 : Int32) ∨ Int32.ofNat k.val = (11 : Int32) ∨ Int32.ofNat k.val = (12 : Int32) ∨ Int32.ofNat k.val = (13 : Int32) ∨ Int32.ofNat k.val = (14 : Int32) ∨ Int32.ofNat k.val = (15 : Int32) ∨ Int32.ofNat k.val = (16 : Int32) ∨ Int32.ofNat k.val = (17 : Int32) ∨ Int32.ofNat k.val = (18 : Int32) ∨ Int32.ofNat k.val = (19 : Int32) ∨ Int32.ofNat k.val = (20 : Int32) ∨ Int32.ofNat k.val = (21 : Int32) ∨ Int32.ofNat k.val = (22 : Int32) := by decide +kernel
  exact t ⟨j, hj⟩
theorem pd_0 : parseMethodDescriptor "()Z" = some ⟨[], some .boolean⟩ := by decide +kernel
theorem pd_1 : parseMethodDescriptor "()Lcom/example/menshen/menshen/policy/ConditionOperator;" = some ⟨[], some (.object "com/example/menshen/menshen/policy/ConditionOperator")⟩ := by decide +kernel
theorem ef_0 (m : MethodId) (x0 : Int32) : entryFrame m #[(.int x0)] maxLocals = mkF m 0 #[.val (.int x0), .unset, .unset, .unset, .unset, .unset, .unset] [] := by first | (simp [entryFrame, mkF, argsToLocals, Value.category, maxLocals]; done) | rfl
theorem pn_1 : plainName "com/example/menshen/menshen/policy/ConditionOperatorIsNegatedPinLaw" = true := by first | (simp [plainName, overriddenIn]; done) | decide +kernel
set_option maxRecDepth 65536 in
set_option maxHeartbeats 40000000 in
theorem rm0 (l : Launch) (Z : State) (a0 : Array Value) (hw : ∀ d ∈ tables_1, d.before a0 Z = true) (hS : St Z) (ws : List Jvm.Cond) (p0 : Int32) (h0 : Heap) (n0 : Nat) (O0 : Old Z n0 h0) :
    MetFree l x (head1 (Jvm.Cond.code x code maxLocals ret :: ws) room_1) (fun a U => a = #[(.int p0)] ∧ Z.Warmed39 U.vm ∧ U.heap = h0) (fun _ _ _ _ _ => True) (fun _ U o U' => ∃ v L, o = .returned v ∧ own_Q (fun v hE L => v = some (.int (1 : Int32)) ∧ Fr n0 L ∧ Keep h0 hE []) v U'.heap L ∧ FrameEnd U o U' L room_1.cells room_1.slots) := by
  refine MetFree.of_bodySF (plainFor_of_name pn_1) hisR ?_
  intro p e s m args below meth c s₁ Bd hml0 hP hK
  obtain ⟨rfl, hZ, hh⟩ := hP
  have hx := Bd.exec
  have hby := Bd.bytes
  have hml : c.maxLocals = 7 := hml0
  have hown : s.vm.findClass "com/example/menshen/menshen/policy/ConditionOperatorIsNegatedPinLaw" = some m.cls := findClass_of_methodNamed Bd.named
  have hnm := (name_of_methodNamed Bd.named Bd.method).1
  have X0 : Stand p l e room_1 s m #[(.int p0)] below meth c s₁ [] 0 0 := Stand.of_body Bd
  have e0 : s₁.heap = h0 := by rw [← hh, Bd.state]; rfl
  have N0 := Fr.nil n0
  have pre0 : ∀ t, Steps p.tables e below (s₁.setTop (mkF m 0 #[oI p0, oU, oU, oU, oU, oU, oU] [])) t → Steps p.tables e below (s₁.setTop (entryFrame m #[(.int p0)] maxLocals)) t := fun t k => castTop (ef_0 m p0) k
  obtain ⟨T6, h6, k6, X6, e6, E6, A6, Ov6, st6⟩ := newR X0 hx hZ hown (hw _ (List.mem_of_getElem? (i := 0) rfl)) (hw _ (List.mem_of_getElem? (i := 1) rfl)) e0 (g := (mkF m 2 #[oI p0, oU, oU, oU, oU, oU, oU] [(.int (23 : Int32))])) rfl (hb hby at_2) rfl (by decide) (cap := 23) (by decide) (by decide) (by decide) (by decide)
  obtain ⟨b6, g6⟩ : ∃ z, z = h0.size := ⟨_, rfl⟩
  have g_b6 : n0 ≤ b6 := Nat.le_trans (own_old_le O0) (Nat.le_of_eq g6.symm)
  have sz_b6 : h0.size ≤ b6 := Nat.le_trans (Keep.refl h0 []).1 (Nat.le_of_eq g6.symm)
  rw [← g6] at A6 st6
  have O6 := O0.ext E6
  have Kc6 := (Keep.refl h0 []).ext E6
  have V6 : Arv Z h6 b6 k6 (.object "com/example/menshen/menshen/policy/ConditionOperator") (23 : Int32) [.null, .null, .null, .null, .null, .null, .null, .null, .null, .null, .null, .null, .null, .null, .null, .null, .null, .null, .null, .null, .null, .null, .null] .null := (Arv.new A6 (by decide)).pad (pad_rep [] .null 23)
  obtain ⟨T7, X7, e7, st7⟩ := getS2 X6 hx hZ hown (host := "") (Or.inl (hw _ (List.mem_of_getElem? (i := 2) rfl))) Via.refl e6 ((s_a_STRING_EQUALS hS).ext O6.2) (g := (mkF m 7 #[oI p0, oU, oU, oU, oU, oU, oU] [(.int (0 : Int32)), (.ref b6), (.ref b6)])) rfl (hb hby at_7)
  obtain ⟨T8, h8, X8, e8, W8, V8', st8⟩ := own_stR X7 hx hZ e7 V6 Ov6 (Ins.of_exa ((e_a_STRING_EQUALS hS).ext O6.2) (hw _ (List.mem_of_getElem? (i := 5) rfl))) (j := (0 : Int32)) ⟨by decide, by decide⟩ rfl (by decide : ((0 : Int32) : Int32).toNatClampNeg < 23) (g := (mkF m 10 #[oI p0, oU, oU, oU, oU, oU, oU] [(.ref (a_STRING_EQUALS Z)), (.int (0 : Int32)), (.ref b6), (.ref b6)])) rfl rfl (hb hby at_10)
  have N8 := Fr.snoc X8 N0 g_b6
  have O8 := O6.wr W8 g_b6
  have Kc8 := Kc6.wr W8 (Or.inr sz_b6)
  have V8 : Arv Z h8 b6 k6 (.object "com/example/menshen/menshen/policy/ConditionOperator") (23 : Int32) [(.ref (a_STRING_EQUALS Z)), .null, .null, .null, .null, .null, .null, .null, .null, .null, .null, .null, .null, .null, .null, .null, .null, .null, .null, .null, .null, .null, .null] .null := V8'
  obtain ⟨T9, X9, e9, st9⟩ := getS2 X8 hx hZ hown (host := "") (Or.inl (hw _ (List.mem_of_getElem? (i := 6) rfl))) Via.refl e8 ((s_a_STRING_NOT_EQUALS hS).ext O8.2) (g := (mkF m 13 #[oI p0, oU, oU, oU, oU, oU, oU] [(.int (1 : Int32)), (.ref b6), (.ref b6)])) rfl (hb hby at_13)
  obtain ⟨T10, h10, X10, e10, W10, V10', st10⟩ := own_stR X9 hx hZ e9 V8 Ov6 (Ins.of_exa ((e_a_STRING_NOT_EQUALS hS).ext O8.2) (hw _ (List.mem_of_getElem? (i := 5) rfl))) (j := (1 : Int32)) ⟨by decide, by decide⟩ rfl (by decide : ((1 : Int32) : Int32).toNatClampNeg < 23) (g := (mkF m 16 #[oI p0, oU, oU, oU, oU, oU, oU] [(.ref (a_STRING_NOT_EQUALS Z)), (.int (1 : Int32)), (.ref b6), (.ref b6)])) rfl rfl (hb hby at_16)
  have N10 := Fr.snoc X10 N8 g_b6
  have O10 := O8.wr W10 g_b6
  have Kc10 := Kc8.wr W10 (Or.inr sz_b6)
  have V10 : Arv Z h10 b6 k6 (.object "com/example/menshen/menshen/policy/ConditionOperator") (23 : Int32) [(.ref (a_STRING_EQUALS Z)), (.ref (a_STRING_NOT_EQUALS Z)), .null, .null, .null, .null, .null, .null, .null, .null, .null, .null, .null, .null, .null, .null, .null, .null, .null, .null, .null, .null, .null] .null := V10'
  obtain ⟨T11, X11, e11, st11⟩ := getS2 X10 hx hZ hown (host := "") (Or.inl (hw _ (List.mem_of_getElem? (i := 8) rfl))) Via.refl e10 ((s_a_NOT_STRING_EQUALS hS).ext O10.2) (g := (mkF m 19 #[oI p0, oU, oU, oU, oU, oU, oU] [(.int (2 : Int32)), (.ref b6), (.ref b6)])) rfl (hb hby at_19)
  obtain ⟨T12, h12, X12, e12, W12, V12', st12⟩ := own_stR X11 hx hZ e11 V10 Ov6 (Ins.of_exa ((e_a_NOT_STRING_EQUALS hS).ext O10.2) (hw _ (List.mem_of_getElem? (i := 5) rfl))) (j := (2 : Int32)) ⟨by decide, by decide⟩ rfl (by decide : ((2 : Int32) : Int32).toNatClampNeg < 23) (g := (mkF m 22 #[oI p0, oU, oU, oU, oU, oU, oU] [(.ref (a_NOT_STRING_EQUALS Z)), (.int (2 : Int32)), (.ref b6), (.ref b6)])) rfl rfl (hb hby at_22)
  have N12 := Fr.snoc X12 N10 g_b6
  have O12 := O10.wr W12 g_b6
  have Kc12 := Kc10.wr W12 (Or.inr sz_b6)
  have V12 : Arv Z h12 b6 k6 (.object "com/example/menshen/menshen/policy/ConditionOperator") (23 : Int32) [(.ref (a_STRING_EQUALS Z)), (.ref (a_STRING_NOT_EQUALS Z)), (.ref (a_NOT_STRING_EQUALS Z)), .null, .null, .null, .null, .null, .null, .null, .null, .null, .null, .null, .null, .null, .null, .null, .null, .null, .null, .null, .null] .null := V12'
  obtain ⟨T13, X13, e13, st13⟩ := getS2 X12 hx hZ hown (host := "") (Or.inl (hw _ (List.mem_of_getElem? (i := 10) rfl))) Via.refl e12 ((s_a_STRING_EQUALS_IGNORE_CASE hS).ext O12.2) (g := (mkF m 25 #[oI p0, oU, oU, oU, oU, oU, oU] [(.int (3 : Int32)), (.ref b6), (.ref b6)])) rfl (hb hby at_25)
  obtain ⟨T14, h14, X14, e14, W14, V14', st14⟩ := own_stR X13 hx hZ e13 V12 Ov6 (Ins.of_exa ((e_a_STRING_EQUALS_IGNORE_CASE hS).ext O12.2) (hw _ (List.mem_of_getElem? (i := 5) rfl))) (j := (3 : Int32)) ⟨by decide, by decide⟩ rfl (by decide : ((3 : Int32) : Int32).toNatClampNeg < 23) (g := (mkF m 28 #[oI p0, oU, oU, oU, oU, oU, oU] [(.ref (a_STRING_EQUALS_IGNORE_CASE Z)), (.int (3 : Int32)), (.ref b6), (.ref b6)])) rfl rfl (hb hby at_28)
  have N14 := Fr.snoc X14 N12 g_b6
  have O14 := O12.wr W14 g_b6
  have Kc14 := Kc12.wr W14 (Or.inr sz_b6)
  have V14 : Arv Z h14 b6 k6 (.object "com/example/menshen/menshen/policy/ConditionOperator") (23 : Int32) [(.ref (a_STRING_EQUALS Z)), (.ref (a_STRING_NOT_EQUALS Z)), (.ref (a_NOT_STRING_EQUALS Z)), (.ref (a_STRING_EQUALS_IGNORE_CASE Z)), .null, .null, .null, .null, .null, .null, .null, .null, .null, .null, .null, .null, .null, .null, .null, .null, .null, .null, .null] .null := V14'
  obtain ⟨T15, X15, e15, st15⟩ := getS2 X14 hx hZ hown (host := "") (Or.inl (hw _ (List.mem_of_getElem? (i := 12) rfl))) Via.refl e14 ((s_a_STRING_NOT_EQUALS_IGNORE_CASE hS).ext O14.2) (g := (mkF m 31 #[oI p0, oU, oU, oU, oU, oU, oU] [(.int (4 : Int32)), (.ref b6), (.ref b6)])) rfl (hb hby at_31)
  obtain ⟨T16, h16, X16, e16, W16, V16', st16⟩ := own_stR X15 hx hZ e15 V14 Ov6 (Ins.of_exa ((e_a_STRING_NOT_EQUALS_IGNORE_CASE hS).ext O14.2) (hw _ (List.mem_of_getElem? (i := 5) rfl))) (j := (4 : Int32)) ⟨by decide, by decide⟩ rfl (by decide : ((4 : Int32) : Int32).toNatClampNeg < 23) (g := (mkF m 34 #[oI p0, oU, oU, oU, oU, oU, oU] [(.ref (a_STRING_NOT_EQUALS_IGNORE_CASE Z)), (.int (4 : Int32)), (.ref b6), (.ref b6)])) rfl rfl (hb hby at_34)
  have N16 := Fr.snoc X16 N14 g_b6
  have O16 := O14.wr W16 g_b6
  have Kc16 := Kc14.wr W16 (Or.inr sz_b6)
  have V16 : Arv Z h16 b6 k6 (.object "com/example/menshen/menshen/policy/ConditionOperator") (23 : Int32) [(.ref (a_STRING_EQUALS Z)), (.ref (a_STRING_NOT_EQUALS Z)), (.ref (a_NOT_STRING_EQUALS Z)), (.ref (a_STRING_EQUALS_IGNORE_CASE Z)), (.ref (a_STRING_NOT_EQUALS_IGNORE_CASE Z)), .null, .null, .null, .null, .null, .null, .null, .null, .null, .null, .null, .null, .null, .null, .null, .null, .null, .null] .null := V16'
  obtain ⟨T17, X17, e17, st17⟩ := getS2 X16 hx hZ hown (host := "") (Or.inl (hw _ (List.mem_of_getElem? (i := 14) rfl))) Via.refl e16 ((s_a_STRING_LIKE hS).ext O16.2) (g := (mkF m 37 #[oI p0, oU, oU, oU, oU, oU, oU] [(.int (5 : Int32)), (.ref b6), (.ref b6)])) rfl (hb hby at_37)
  obtain ⟨T18, h18, X18, e18, W18, V18', st18⟩ := own_stR X17 hx hZ e17 V16 Ov6 (Ins.of_exa ((e_a_STRING_LIKE hS).ext O16.2) (hw _ (List.mem_of_getElem? (i := 5) rfl))) (j := (5 : Int32)) ⟨by decide, by decide⟩ rfl (by decide : ((5 : Int32) : Int32).toNatClampNeg < 23) (g := (mkF m 40 #[oI p0, oU, oU, oU, oU, oU, oU] [(.ref (a_STRING_LIKE Z)), (.int (5 : Int32)), (.ref b6), (.ref b6)])) rfl rfl (hb hby at_40)
  have N18 := Fr.snoc X18 N16 g_b6
  have O18 := O16.wr W18 g_b6
  have Kc18 := Kc16.wr W18 (Or.inr sz_b6)
  have V18 : Arv Z h18 b6 k6 (.object "com/example/menshen/menshen/policy/ConditionOperator") (23 : Int32) [(.ref (a_STRING_EQUALS Z)), (.ref (a_STRING_NOT_EQUALS Z)), (.ref (a_NOT_STRING_EQUALS Z)), (.ref (a_STRING_EQUALS_IGNORE_CASE Z)), (.ref (a_STRING_NOT_EQUALS_IGNORE_CASE Z)), (.ref (a_STRING_LIKE Z)), .null, .null, .null, .null, .null, .null, .null, .null, .null, .null, .null, .null, .null, .null, .null, .null, .null] .null := V18'
  obtain ⟨T19, X19, e19, st19⟩ := getS2 X18 hx hZ hown (host := "") (Or.inl (hw _ (List.mem_of_getElem? (i := 16) rfl))) Via.refl e18 ((s_a_STRING_NOT_LIKE hS).ext O18.2) (g := (mkF m 44 #[oI p0, oU, oU, oU, oU, oU, oU] [(.int (6 : Int32)), (.ref b6), (.ref b6)])) rfl (hb hby at_44)
  obtain ⟨T20, h20, X20, e20, W20, V20', st20⟩ := own_stR X19 hx hZ e19 V18 Ov6 (Ins.of_exa ((e_a_STRING_NOT_LIKE hS).ext O18.2) (hw _ (List.mem_of_getElem? (i := 5) rfl))) (j := (6 : Int32)) ⟨by decide, by decide⟩ rfl (by decide : ((6 : Int32) : Int32).toNatClampNeg < 23) (g := (mkF m 47 #[oI p0, oU, oU, oU, oU, oU, oU] [(.ref (a_STRING_NOT_LIKE Z)), (.int (6 : Int32)), (.ref b6), (.ref b6)])) rfl rfl (hb hby at_47)
  have N20 := Fr.snoc X20 N18 g_b6
  have O20 := O18.wr W20 g_b6
  have Kc20 := Kc18.wr W20 (Or.inr sz_b6)
  have V20 : Arv Z h20 b6 k6 (.object "com/example/menshen/menshen/policy/ConditionOperator") (23 : Int32) [(.ref (a_STRING_EQUALS Z)), (.ref (a_STRING_NOT_EQUALS Z)), (.ref (a_NOT_STRING_EQUALS Z)), (.ref (a_STRING_EQUALS_IGNORE_CASE Z)), (.ref (a_STRING_NOT_EQUALS_IGNORE_CASE Z)), (.ref (a_STRING_LIKE Z)), (.ref (a_STRING_NOT_LIKE Z)), .null, .null, .null, .null, .null, .null, .null, .null, .null, .null, .null, .null, .null, .null, .null, .null] .null := V20'
  obtain ⟨T21, X21, e21, st21⟩ := getS2 X20 hx hZ hown (host := "") (Or.inl (hw _ (List.mem_of_getElem? (i := 18) rfl))) Via.refl e20 ((s_a_IP_ADDRESS hS).ext O20.2) (g := (mkF m 51 #[oI p0, oU, oU, oU, oU, oU, oU] [(.int (7 : Int32)), (.ref b6), (.ref b6)])) rfl (hb hby at_51)
  obtain ⟨T22, h22, X22, e22, W22, V22', st22⟩ := own_stR X21 hx hZ e21 V20 Ov6 (Ins.of_exa ((e_a_IP_ADDRESS hS).ext O20.2) (hw _ (List.mem_of_getElem? (i := 5) rfl))) (j := (7 : Int32)) ⟨by decide, by decide⟩ rfl (by decide : ((7 : Int32) : Int32).toNatClampNeg < 23) (g := (mkF m 54 #[oI p0, oU, oU, oU, oU, oU, oU] [(.ref (a_IP_ADDRESS Z)), (.int (7 : Int32)), (.ref b6), (.ref b6)])) rfl rfl (hb hby at_54)
  have N22 := Fr.snoc X22 N20 g_b6
  have O22 := O20.wr W22 g_b6
  have Kc22 := Kc20.wr W22 (Or.inr sz_b6)
  have V22 : Arv Z h22 b6 k6 (.object "com/example/menshen/menshen/policy/ConditionOperator") (23 : Int32) [(.ref (a_STRING_EQUALS Z)), (.ref (a_STRING_NOT_EQUALS Z)), (.ref (a_NOT_STRING_EQUALS Z)), (.ref (a_STRING_EQUALS_IGNORE_CASE Z)), (.ref (a_STRING_NOT_EQUALS_IGNORE_CASE Z)), (.ref (a_STRING_LIKE Z)), (.ref (a_STRING_NOT_LIKE Z)), (.ref (a_IP_ADDRESS Z)), .null, .null, .null, .null, .null, .null, .null, .null, .null, .null, .null, .null, .null, .null, .null] .null := V22'
  obtain ⟨T23, X23, e23, st23⟩ := getS2 X22 hx hZ hown (host := "") (Or.inl (hw _ (List.mem_of_getElem? (i := 20) rfl))) Via.refl e22 ((s_a_NOT_IP_ADDRESS hS).ext O22.2) (g := (mkF m 58 #[oI p0, oU, oU, oU, oU, oU, oU] [(.int (8 : Int32)), (.ref b6), (.ref b6)])) rfl (hb hby at_58)
  obtain ⟨T24, h24, X24, e24, W24, V24', st24⟩ := own_stR X23 hx hZ e23 V22 Ov6 (Ins.of_exa ((e_a_NOT_IP_ADDRESS hS).ext O22.2) (hw _ (List.mem_of_getElem? (i := 5) rfl))) (j := (8 : Int32)) ⟨by decide, by decide⟩ rfl (by decide : ((8 : Int32) : Int32).toNatClampNeg < 23) (g := (mkF m 61 #[oI p0, oU, oU, oU, oU, oU, oU] [(.ref (a_NOT_IP_ADDRESS Z)), (.int (8 : Int32)), (.ref b6), (.ref b6)])) rfl rfl (hb hby at_61)
  have N24 := Fr.snoc X24 N22 g_b6
  have O24 := O22.wr W24 g_b6
  have Kc24 := Kc22.wr W24 (Or.inr sz_b6)
  have V24 : Arv Z h24 b6 k6 (.object "com/example/menshen/menshen/policy/ConditionOperator") (23 : Int32) [(.ref (a_STRING_EQUALS Z)), (.ref (a_STRING_NOT_EQUALS Z)), (.ref (a_NOT_STRING_EQUALS Z)), (.ref (a_STRING_EQUALS_IGNORE_CASE Z)), (.ref (a_STRING_NOT_EQUALS_IGNORE_CASE Z)), (.ref (a_STRING_LIKE Z)), (.ref (a_STRING_NOT_LIKE Z)), (.ref (a_IP_ADDRESS Z)), (.ref (a_NOT_IP_ADDRESS Z)), .null, .null, .null, .null, .null, .null, .null, .null, .null, .null, .null, .null, .null, .null] .null := V24'
  obtain ⟨T25, X25, e25, st25⟩ := getS2 X24 hx hZ hown (host := "") (Or.inl (hw _ (List.mem_of_getElem? (i := 22) rfl))) Via.refl e24 ((s_a_NUMERIC_EQUALS hS).ext O24.2) (g := (mkF m 65 #[oI p0, oU, oU, oU, oU, oU, oU] [(.int (9 : Int32)), (.ref b6), (.ref b6)])) rfl (hb hby at_65)
  obtain ⟨T26, h26, X26, e26, W26, V26', st26⟩ := own_stR X25 hx hZ e25 V24 Ov6 (Ins.of_exa ((e_a_NUMERIC_EQUALS hS).ext O24.2) (hw _ (List.mem_of_getElem? (i := 5) rfl))) (j := (9 : Int32)) ⟨by decide, by decide⟩ rfl (by decide : ((9 : Int32) : Int32).toNatClampNeg < 23) (g := (mkF m 68 #[oI p0, oU, oU, oU, oU, oU, oU] [(.ref (a_NUMERIC_EQUALS Z)), (.int (9 : Int32)), (.ref b6), (.ref b6)])) rfl rfl (hb hby at_68)
  have N26 := Fr.snoc X26 N24 g_b6
  have O26 := O24.wr W26 g_b6
  have Kc26 := Kc24.wr W26 (Or.inr sz_b6)
  have V26 : Arv Z h26 b6 k6 (.object "com/example/menshen/menshen/policy/ConditionOperator") (23 : Int32) [(.ref (a_STRING_EQUALS Z)), (.ref (a_STRING_NOT_EQUALS Z)), (.ref (a_NOT_STRING_EQUALS Z)), (.ref (a_STRING_EQUALS_IGNORE_CASE Z)), (.ref (a_STRING_NOT_EQUALS_IGNORE_CASE Z)), (.ref (a_STRING_LIKE Z)), (.ref (a_STRING_NOT_LIKE Z)), (.ref (a_IP_ADDRESS Z)), (.ref (a_NOT_IP_ADDRESS Z)), (.ref (a_NUMERIC_EQUALS Z)), .null, .null, .null, .null, .null, .null, .null, .null, .null, .null, .null, .null, .null] .null := V26'
  obtain ⟨T27, X27, e27, st27⟩ := getS2 X26 hx hZ hown (host := "") (Or.inl (hw _ (List.mem_of_getElem? (i := 24) rfl))) Via.refl e26 ((s_a_NUMERIC_NOT_EQUALS hS).ext O26.2) (g := (mkF m 72 #[oI p0, oU, oU, oU, oU, oU, oU] [(.int (10 : Int32)), (.ref b6), (.ref b6)])) rfl (hb hby at_72)
  obtain ⟨T28, h28, X28, e28, W28, V28', st28⟩ := own_stR X27 hx hZ e27 V26 Ov6 (Ins.of_exa ((e_a_NUMERIC_NOT_EQUALS hS).ext O26.2) (hw _ (List.mem_of_getElem? (i := 5) rfl))) (j := (10 : Int32)) ⟨by decide, by decide⟩ rfl (by decide : ((10 : Int32) : Int32).toNatClampNeg < 23) (g := (mkF m 75 #[oI p0, oU, oU, oU, oU, oU, oU] [(.ref (a_NUMERIC_NOT_EQUALS Z)), (.int (10 : Int32)), (.ref b6), (.ref b6)])) rfl rfl (hb hby at_75)
  have N28 := Fr.snoc X28 N26 g_b6
  have O28 := O26.wr W28 g_b6
  have Kc28 := Kc26.wr W28 (Or.inr sz_b6)
  have V28 : Arv Z h28 b6 k6 (.object "com/example/menshen/menshen/policy/ConditionOperator") (23 : Int32) [(.ref (a_STRING_EQUALS Z)), (.ref (a_STRING_NOT_EQUALS Z)), (.ref (a_NOT_STRING_EQUALS Z)), (.ref (a_STRING_EQUALS_IGNORE_CASE Z)), (.ref (a_STRING_NOT_EQUALS_IGNORE_CASE Z)), (.ref (a_STRING_LIKE Z)), (.ref (a_STRING_NOT_LIKE Z)), (.ref (a_IP_ADDRESS Z)), (.ref (a_NOT_IP_ADDRESS Z)), (.ref (a_NUMERIC_EQUALS Z)), (.ref (a_NUMERIC_NOT_EQUALS Z)), .null, .null, .null, .null, .null, .null, .null, .null, .null, .null, .null, .null] .null := V28'
  obtain ⟨T29, X29, e29, st29⟩ := getS2 X28 hx hZ hown (host := "") (Or.inl (hw _ (List.mem_of_getElem? (i := 26) rfl))) Via.refl e28 ((s_a_NUMERIC_LESS_THAN hS).ext O28.2) (g := (mkF m 79 #[oI p0, oU, oU, oU, oU, oU, oU] [(.int (11 : Int32)), (.ref b6), (.ref b6)])) rfl (hb hby at_79)
  obtain ⟨T30, h30, X30, e30, W30, V30', st30⟩ := own_stR X29 hx hZ e29 V28 Ov6 (Ins.of_exa ((e_a_NUMERIC_LESS_THAN hS).ext O28.2) (hw _ (List.mem_of_getElem? (i := 5) rfl))) (j := (11 : Int32)) ⟨by decide, by decide⟩ rfl (by decide : ((11 : Int32) : Int32).toNatClampNeg < 23) (g := (mkF m 82 #[oI p0, oU, oU, oU, oU, oU, oU] [(.ref (a_NUMERIC_LESS_THAN Z)), (.int (11 : Int32)), (.ref b6), (.ref b6)])) rfl rfl (hb hby at_82)
  have N30 := Fr.snoc X30 N28 g_b6
  have O30 := O28.wr W30 g_b6
  have Kc30 := Kc28.wr W30 (Or.inr sz_b6)
  have V30 : Arv Z h30 b6 k6 (.object "com/example/menshen/menshen/policy/ConditionOperator") (23 : Int32) [(.ref (a_STRING_EQUALS Z)), (.ref (a_STRING_NOT_EQUALS Z)), (.ref (a_NOT_STRING_EQUALS Z)), (.ref (a_STRING_EQUALS_IGNORE_CASE Z)), (.ref (a_STRING_NOT_EQUALS_IGNORE_CASE Z)), (.ref (a_STRING_LIKE Z)), (.ref (a_STRING_NOT_LIKE Z)), (.ref (a_IP_ADDRESS Z)), (.ref (a_NOT_IP_ADDRESS Z)), (.ref (a_NUMERIC_EQUALS Z)), (.ref (a_NUMERIC_NOT_EQUALS Z)), (.ref (a_NUMERIC_LESS_THAN Z)), .null, .null, .null, .null, .null, .null, .null, .null, .null, .null, .null] .null := V30'
  obtain ⟨T31, X31, e31, st31⟩ := getS2 X30 hx hZ hown (host := "") (Or.inl (hw _ (List.mem_of_getElem? (i := 28) rfl))) Via.refl e30 ((s_a_NUMERIC_LESS_THAN_EQUALS hS).ext O30.2) (g := (mkF m 86 #[oI p0, oU, oU, oU, oU, oU, oU] [(.int (12 : Int32)), (.ref b6), (.ref b6)])) rfl (hb hby at_86)
  obtain ⟨T32, h32, X32, e32, W32, V32', st32⟩ := own_stR X31 hx hZ e31 V30 Ov6 (Ins.of_exa ((e_a_NUMERIC_LESS_THAN_EQUALS hS).ext O30.2) (hw _ (List.mem_of_getElem? (i := 5) rfl))) (j := (12 : Int32)) ⟨by decide, by decide⟩ rfl (by decide : ((12 : Int32) : Int32).toNatClampNeg < 23) (g := (mkF m 89 #[oI p0, oU, oU, oU, oU, oU, oU] [(.ref (a_NUMERIC_LESS_THAN_EQUALS Z)), (.int (12 : Int32)), (.ref b6), (.ref b6)])) rfl rfl (hb hby at_89)
  have N32 := Fr.snoc X32 N30 g_b6
  have O32 := O30.wr W32 g_b6
  have Kc32 := Kc30.wr W32 (Or.inr sz_b6)
  have V32 : Arv Z h32 b6 k6 (.object "com/example/menshen/menshen/policy/ConditionOperator") (23 : Int32) [(.ref (a_STRING_EQUALS Z)), (.ref (a_STRING_NOT_EQUALS Z)), (.ref (a_NOT_STRING_EQUALS Z)), (.ref (a_STRING_EQUALS_IGNORE_CASE Z)), (.ref (a_STRING_NOT_EQUALS_IGNORE_CASE Z)), (.ref (a_STRING_LIKE Z)), (.ref (a_STRING_NOT_LIKE Z)), (.ref (a_IP_ADDRESS Z)), (.ref (a_NOT_IP_ADDRESS Z)), (.ref (a_NUMERIC_EQUALS Z)), (.ref (a_NUMERIC_NOT_EQUALS Z)), (.ref (a_NUMERIC_LESS_THAN Z)), (.ref (a_NUMERIC_LESS_THAN_EQUALS Z)), .null, .null, .null, .null, .null, .null, .null, .null, .null, .null] .null := V32'
  obtain ⟨T33, X33, e33, st33⟩ := getS2 X32 hx hZ hown (host := "") (Or.inl (hw _ (List.mem_of_getElem? (i := 30) rfl))) Via.refl e32 ((s_a_NUMERIC_GREATER_THAN hS).ext O32.2) (g := (mkF m 93 #[oI p0, oU, oU, oU, oU, oU, oU] [(.int (13 : Int32)), (.ref b6), (.ref b6)])) rfl (hb hby at_93)
  obtain ⟨T34, h34, X34, e34, W34, V34', st34⟩ := own_stR X33 hx hZ e33 V32 Ov6 (Ins.of_exa ((e_a_NUMERIC_GREATER_THAN hS).ext O32.2) (hw _ (List.mem_of_getElem? (i := 5) rfl))) (j := (13 : Int32)) ⟨by decide, by decide⟩ rfl (by decide : ((13 : Int32) : Int32).toNatClampNeg < 23) (g := (mkF m 96 #[oI p0, oU, oU, oU, oU, oU, oU] [(.ref (a_NUMERIC_GREATER_THAN Z)), (.int (13 : Int32)), (.ref b6), (.ref b6)])) rfl rfl (hb hby at_96)
  have N34 := Fr.snoc X34 N32 g_b6
  have O34 := O32.wr W34 g_b6
  have Kc34 := Kc32.wr W34 (Or.inr sz_b6)
  have V34 : Arv Z h34 b6 k6 (.object "com/example/menshen/menshen/policy/ConditionOperator") (23 : Int32) [(.ref (a_STRING_EQUALS Z)), (.ref (a_STRING_NOT_EQUALS Z)), (.ref (a_NOT_STRING_EQUALS Z)), (.ref (a_STRING_EQUALS_IGNORE_CASE Z)), (.ref (a_STRING_NOT_EQUALS_IGNORE_CASE Z)), (.ref (a_STRING_LIKE Z)), (.ref (a_STRING_NOT_LIKE Z)), (.ref (a_IP_ADDRESS Z)), (.ref (a_NOT_IP_ADDRESS Z)), (.ref (a_NUMERIC_EQUALS Z)), (.ref (a_NUMERIC_NOT_EQUALS Z)), (.ref (a_NUMERIC_LESS_THAN Z)), (.ref (a_NUMERIC_LESS_THAN_EQUALS Z)), (.ref (a_NUMERIC_GREATER_THAN Z)), .null, .null, .null, .null, .null, .null, .null, .null, .null] .null := V34'
  obtain ⟨T35, X35, e35, st35⟩ := getS2 X34 hx hZ hown (host := "") (Or.inl (hw _ (List.mem_of_getElem? (i := 32) rfl))) Via.refl e34 ((s_a_NUMERIC_GREATER_THAN_EQUALS hS).ext O34.2) (g := (mkF m 100 #[oI p0, oU, oU, oU, oU, oU, oU] [(.int (14 : Int32)), (.ref b6), (.ref b6)])) rfl (hb hby at_100)
  obtain ⟨T36, h36, X36, e36, W36, V36', st36⟩ := own_stR X35 hx hZ e35 V34 Ov6 (Ins.of_exa ((e_a_NUMERIC_GREATER_THAN_EQUALS hS).ext O34.2) (hw _ (List.mem_of_getElem? (i := 5) rfl))) (j := (14 : Int32)) ⟨by decide, by decide⟩ rfl (by decide : ((14 : Int32) : Int32).toNatClampNeg < 23) (g := (mkF m 103 #[oI p0, oU, oU, oU, oU, oU, oU] [(.ref (a_NUMERIC_GREATER_THAN_EQUALS Z)), (.int (14 : Int32)), (.ref b6), (.ref b6)])) rfl rfl (hb hby at_103)
  have N36 := Fr.snoc X36 N34 g_b6
  have O36 := O34.wr W36 g_b6
  have Kc36 := Kc34.wr W36 (Or.inr sz_b6)
  have V36 : Arv Z h36 b6 k6 (.object "com/example/menshen/menshen/policy/ConditionOperator") (23 : Int32) [(.ref (a_STRING_EQUALS Z)), (.ref (a_STRING_NOT_EQUALS Z)), (.ref (a_NOT_STRING_EQUALS Z)), (.ref (a_STRING_EQUALS_IGNORE_CASE Z)), (.ref (a_STRING_NOT_EQUALS_IGNORE_CASE Z)), (.ref (a_STRING_LIKE Z)), (.ref (a_STRING_NOT_LIKE Z)), (.ref (a_IP_ADDRESS Z)), (.ref (a_NOT_IP_ADDRESS Z)), (.ref (a_NUMERIC_EQUALS Z)), (.ref (a_NUMERIC_NOT_EQUALS Z)), (.ref (a_NUMERIC_LESS_THAN Z)), (.ref (a_NUMERIC_LESS_THAN_EQUALS Z)), (.ref (a_NUMERIC_GREATER_THAN Z)), (.ref (a_NUMERIC_GREATER_THAN_EQUALS Z)), .null, .null, .null, .null, .null, .null, .null, .null] .null := V36'
  obtain ⟨T37, X37, e37, st37⟩ := getS2 X36 hx hZ hown (host := "") (Or.inl (hw _ (List.mem_of_getElem? (i := 34) rfl))) Via.refl e36 ((s_a_DATE_EQUALS hS).ext O36.2) (g := (mkF m 107 #[oI p0, oU, oU, oU, oU, oU, oU] [(.int (15 : Int32)), (.ref b6), (.ref b6)])) rfl (hb hby at_107)
  obtain ⟨T38, h38, X38, e38, W38, V38', st38⟩ := own_stR X37 hx hZ e37 V36 Ov6 (Ins.of_exa ((e_a_DATE_EQUALS hS).ext O36.2) (hw _ (List.mem_of_getElem? (i := 5) rfl))) (j := (15 : Int32)) ⟨by decide, by decide⟩ rfl (by decide : ((15 : Int32) : Int32).toNatClampNeg < 23) (g := (mkF m 110 #[oI p0, oU, oU, oU, oU, oU, oU] [(.ref (a_DATE_EQUALS Z)), (.int (15 : Int32)), (.ref b6), (.ref b6)])) rfl rfl (hb hby at_110)
  have N38 := Fr.snoc X38 N36 g_b6
  have O38 := O36.wr W38 g_b6
  have Kc38 := Kc36.wr W38 (Or.inr sz_b6)
  have V38 : Arv Z h38 b6 k6 (.object "com/example/menshen/menshen/policy/ConditionOperator") (23 : Int32) [(.ref (a_STRING_EQUALS Z)), (.ref (a_STRING_NOT_EQUALS Z)), (.ref (a_NOT_STRING_EQUALS Z)), (.ref (a_STRING_EQUALS_IGNORE_CASE Z)), (.ref (a_STRING_NOT_EQUALS_IGNORE_CASE Z)), (.ref (a_STRING_LIKE Z)), (.ref (a_STRING_NOT_LIKE Z)), (.ref (a_IP_ADDRESS Z)), (.ref (a_NOT_IP_ADDRESS Z)), (.ref (a_NUMERIC_EQUALS Z)), (.ref (a_NUMERIC_NOT_EQUALS Z)), (.ref (a_NUMERIC_LESS_THAN Z)), (.ref (a_NUMERIC_LESS_THAN_EQUALS Z)), (.ref (a_NUMERIC_GREATER_THAN Z)), (.ref (a_NUMERIC_GREATER_THAN_EQUALS Z)), (.ref (a_DATE_EQUALS Z)), .null, .null, .null, .null, .null, .null, .null] .null := V38'
  obtain ⟨T39, X39, e39, st39⟩ := getS2 X38 hx hZ hown (host := "") (Or.inl (hw _ (List.mem_of_getElem? (i := 36) rfl))) Via.refl e38 ((s_a_DATE_NOT_EQUALS hS).ext O38.2) (g := (mkF m 114 #[oI p0, oU, oU, oU, oU, oU, oU] [(.int (16 : Int32)), (.ref b6), (.ref b6)])) rfl (hb hby at_114)
  obtain ⟨T40, h40, X40, e40, W40, V40', st40⟩ := own_stR X39 hx hZ e39 V38 Ov6 (Ins.of_exa ((e_a_DATE_NOT_EQUALS hS).ext O38.2) (hw _ (List.mem_of_getElem? (i := 5) rfl))) (j := (16 : Int32)) ⟨by decide, by decide⟩ rfl (by decide : ((16 : Int32) : Int32).toNatClampNeg < 23) (g := (mkF m 117 #[oI p0, oU, oU, oU, oU, oU, oU] [(.ref (a_DATE_NOT_EQUALS Z)), (.int (16 : Int32)), (.ref b6), (.ref b6)])) rfl rfl (hb hby at_117)
  have N40 := Fr.snoc X40 N38 g_b6
  have O40 := O38.wr W40 g_b6
  have Kc40 := Kc38.wr W40 (Or.inr sz_b6)
  have V40 : Arv Z h40 b6 k6 (.object "com/example/menshen/menshen/policy/ConditionOperator") (23 : Int32) [(.ref (a_STRING_EQUALS Z)), (.ref (a_STRING_NOT_EQUALS Z)), (.ref (a_NOT_STRING_EQUALS Z)), (.ref (a_STRING_EQUALS_IGNORE_CASE Z)), (.ref (a_STRING_NOT_EQUALS_IGNORE_CASE Z)), (.ref (a_STRING_LIKE Z)), (.ref (a_STRING_NOT_LIKE Z)), (.ref (a_IP_ADDRESS Z)), (.ref (a_NOT_IP_ADDRESS Z)), (.ref (a_NUMERIC_EQUALS Z)), (.ref (a_NUMERIC_NOT_EQUALS Z)), (.ref (a_NUMERIC_LESS_THAN Z)), (.ref (a_NUMERIC_LESS_THAN_EQUALS Z)), (.ref (a_NUMERIC_GREATER_THAN Z)), (.ref (a_NUMERIC_GREATER_THAN_EQUALS Z)), (.ref (a_DATE_EQUALS Z)), (.ref (a_DATE_NOT_EQUALS Z)), .null, .null, .null, .null, .null, .null] .null := V40'
  obtain ⟨T41, X41, e41, st41⟩ := getS2 X40 hx hZ hown (host := "") (Or.inl (hw _ (List.mem_of_getElem? (i := 38) rfl))) Via.refl e40 ((s_a_DATE_LESS_THAN hS).ext O40.2) (g := (mkF m 121 #[oI p0, oU, oU, oU, oU, oU, oU] [(.int (17 : Int32)), (.ref b6), (.ref b6)])) rfl (hb hby at_121)
  obtain ⟨T42, h42, X42, e42, W42, V42', st42⟩ := own_stR X41 hx hZ e41 V40 Ov6 (Ins.of_exa ((e_a_DATE_LESS_THAN hS).ext O40.2) (hw _ (List.mem_of_getElem? (i := 5) rfl))) (j := (17 : Int32)) ⟨by decide, by decide⟩ rfl (by decide : ((17 : Int32) : Int32).toNatClampNeg < 23) (g := (mkF m 124 #[oI p0, oU, oU, oU, oU, oU, oU] [(.ref (a_DATE_LESS_THAN Z)), (.int (17 : Int32)), (.ref b6), (.ref b6)])) rfl rfl (hb hby at_124)
  have N42 := Fr.snoc X42 N40 g_b6
  have O42 := O40.wr W42 g_b6
  have Kc42 := Kc40.wr W42 (Or.inr sz_b6)
  have V42 : Arv Z h42 b6 k6 (.object "com/example/menshen/menshen/policy/ConditionOperator") (23 : Int32) [(.ref (a_STRING_EQUALS Z)), (.ref (a_STRING_NOT_EQUALS Z)), (.ref (a_NOT_STRING_EQUALS Z)), (.ref (a_STRING_EQUALS_IGNORE_CASE Z)), (.ref (a_STRING_NOT_EQUALS_IGNORE_CASE Z)), (.ref (a_STRING_LIKE Z)), (.ref (a_STRING_NOT_LIKE Z)), (.ref (a_IP_ADDRESS Z)), (.ref (a_NOT_IP_ADDRESS Z)), (.ref (a_NUMERIC_EQUALS Z)), (.ref (a_NUMERIC_NOT_EQUALS Z)), (.ref (a_NUMERIC_LESS_THAN Z)), (.ref (a_NUMERIC_LESS_THAN_EQUALS Z)), (.ref (a_NUMERIC_GREATER_THAN Z)), (.ref (a_NUMERIC_GREATER_THAN_EQUALS Z)), (.ref (a_DATE_EQUALS Z)), (.ref (a_DATE_NOT_EQUALS Z)), (.ref (a_DATE_LESS_THAN Z)), .null, .null, .null, .null, .null] .null := V42'
  obtain ⟨T43, X43, e43, st43⟩ := getS2 X42 hx hZ hown (host := "") (Or.inl (hw _ (List.mem_of_getElem? (i := 40) rfl))) Via.refl e42 ((s_a_DATE_LESS_THAN_EQUALS hS).ext O42.2) (g := (mkF m 128 #[oI p0, oU, oU, oU, oU, oU, oU] [(.int (18 : Int32)), (.ref b6), (.ref b6)])) rfl (hb hby at_128)
  obtain ⟨T44, h44, X44, e44, W44, V44', st44⟩ := own_stR X43 hx hZ e43 V42 Ov6 (Ins.of_exa ((e_a_DATE_LESS_THAN_EQUALS hS).ext O42.2) (hw _ (List.mem_of_getElem? (i := 5) rfl))) (j := (18 : Int32)) ⟨by decide, by decide⟩ rfl (by decide : ((18 : Int32) : Int32).toNatClampNeg < 23) (g := (mkF m 131 #[oI p0, oU, oU, oU, oU, oU, oU] [(.ref (a_DATE_LESS_THAN_EQUALS Z)), (.int (18 : Int32)), (.ref b6), (.ref b6)])) rfl rfl (hb hby at_131)
  have N44 := Fr.snoc X44 N42 g_b6
  have O44 := O42.wr W44 g_b6
  have Kc44 := Kc42.wr W44 (Or.inr sz_b6)
  have V44 : Arv Z h44 b6 k6 (.object "com/example/menshen/menshen/policy/ConditionOperator") (23 : Int32) [(.ref (a_STRING_EQUALS Z)), (.ref (a_STRING_NOT_EQUALS Z)), (.ref (a_NOT_STRING_EQUALS Z)), (.ref (a_STRING_EQUALS_IGNORE_CASE Z)), (.ref (a_STRING_NOT_EQUALS_IGNORE_CASE Z)), (.ref (a_STRING_LIKE Z)), (.ref (a_STRING_NOT_LIKE Z)), (.ref (a_IP_ADDRESS Z)), (.ref (a_NOT_IP_ADDRESS Z)), (.ref (a_NUMERIC_EQUALS Z)), (.ref (a_NUMERIC_NOT_EQUALS Z)), (.ref (a_NUMERIC_LESS_THAN Z)), (.ref (a_NUMERIC_LESS_THAN_EQUALS Z)), (.ref (a_NUMERIC_GREATER_THAN Z)), (.ref (a_NUMERIC_GREATER_THAN_EQUALS Z)), (.ref (a_DATE_EQUALS Z)), (.ref (a_DATE_NOT_EQUALS Z)), (.ref (a_DATE_LESS_THAN Z)), (.ref (a_DATE_LESS_THAN_EQUALS Z)), .null, .null, .null, .null] .null := V44'
  obtain ⟨T45, X45, e45, st45⟩ := getS2 X44 hx hZ hown (host := "") (Or.inl (hw _ (List.mem_of_getElem? (i := 42) rfl))) Via.refl e44 ((s_a_DATE_GREATER_THAN hS).ext O44.2) (g := (mkF m 135 #[oI p0, oU, oU, oU, oU, oU, oU] [(.int (19 : Int32)), (.ref b6), (.ref b6)])) rfl (hb hby at_135)
  obtain ⟨T46, h46, X46, e46, W46, V46', st46⟩ := own_stR X45 hx hZ e45 V44 Ov6 (Ins.of_exa ((e_a_DATE_GREATER_THAN hS).ext O44.2) (hw _ (List.mem_of_getElem? (i := 5) rfl))) (j := (19 : Int32)) ⟨by decide, by decide⟩ rfl (by decide : ((19 : Int32) : Int32).toNatClampNeg < 23) (g := (mkF m 138 #[oI p0, oU, oU, oU, oU, oU, oU] [(.ref (a_DATE_GREATER_THAN Z)), (.int (19 : Int32)), (.ref b6), (.ref b6)])) rfl rfl (hb hby at_138)
  have N46 := Fr.snoc X46 N44 g_b6
  have O46 := O44.wr W46 g_b6
  have Kc46 := Kc44.wr W46 (Or.inr sz_b6)
  have V46 : Arv Z h46 b6 k6 (.object "com/example/menshen/menshen/policy/ConditionOperator") (23 : Int32) [(.ref (a_STRING_EQUALS Z)), (.ref (a_STRING_NOT_EQUALS Z)), (.ref (a_NOT_STRING_EQUALS Z)), (.ref (a_STRING_EQUALS_IGNORE_CASE Z)), (.ref (a_STRING_NOT_EQUALS_IGNORE_CASE Z)), (.ref (a_STRING_LIKE Z)), (.ref (a_STRING_NOT_LIKE Z)), (.ref (a_IP_ADDRESS Z)), (.ref (a_NOT_IP_ADDRESS Z)), (.ref (a_NUMERIC_EQUALS Z)), (.ref (a_NUMERIC_NOT_EQUALS Z)), (.ref (a_NUMERIC_LESS_THAN Z)), (.ref (a_NUMERIC_LESS_THAN_EQUALS Z)), (.ref (a_NUMERIC_GREATER_THAN Z)), (.ref (a_NUMERIC_GREATER_THAN_EQUALS Z)), (.ref (a_DATE_EQUALS Z)), (.ref (a_DATE_NOT_EQUALS Z)), (.ref (a_DATE_LESS_THAN Z)), (.ref (a_DATE_LESS_THAN_EQUALS Z)), (.ref (a_DATE_GREATER_THAN Z)), .null, .null, .null] .null := V46'
  obtain ⟨T47, X47, e47, st47⟩ := getS2 X46 hx hZ hown (host := "") (Or.inl (hw _ (List.mem_of_getElem? (i := 44) rfl))) Via.refl e46 ((s_a_DATE_GREATER_THAN_EQUALS hS).ext O46.2) (g := (mkF m 142 #[oI p0, oU, oU, oU, oU, oU, oU] [(.int (20 : Int32)), (.ref b6), (.ref b6)])) rfl (hb hby at_142)
  obtain ⟨T48, h48, X48, e48, W48, V48', st48⟩ := own_stR X47 hx hZ e47 V46 Ov6 (Ins.of_exa ((e_a_DATE_GREATER_THAN_EQUALS hS).ext O46.2) (hw _ (List.mem_of_getElem? (i := 5) rfl))) (j := (20 : Int32)) ⟨by decide, by decide⟩ rfl (by decide : ((20 : Int32) : Int32).toNatClampNeg < 23) (g := (mkF m 145 #[oI p0, oU, oU, oU, oU, oU, oU] [(.ref (a_DATE_GREATER_THAN_EQUALS Z)), (.int (20 : Int32)), (.ref b6), (.ref b6)])) rfl rfl (hb hby at_145)
  have N48 := Fr.snoc X48 N46 g_b6
  have O48 := O46.wr W48 g_b6
  have Kc48 := Kc46.wr W48 (Or.inr sz_b6)
  have V48 : Arv Z h48 b6 k6 (.object "com/example/menshen/menshen/policy/ConditionOperator") (23 : Int32) [(.ref (a_STRING_EQUALS Z)), (.ref (a_STRING_NOT_EQUALS Z)), (.ref (a_NOT_STRING_EQUALS Z)), (.ref (a_STRING_EQUALS_IGNORE_CASE Z)), (.ref (a_STRING_NOT_EQUALS_IGNORE_CASE Z)), (.ref (a_STRING_LIKE Z)), (.ref (a_STRING_NOT_LIKE Z)), (.ref (a_IP_ADDRESS Z)), (.ref (a_NOT_IP_ADDRESS Z)), (.ref (a_NUMERIC_EQUALS Z)), (.ref (a_NUMERIC_NOT_EQUALS Z)), (.ref (a_NUMERIC_LESS_THAN Z)), (.ref (a_NUMERIC_LESS_THAN_EQUALS Z)), (.ref (a_NUMERIC_GREATER_THAN Z)), (.ref (a_NUMERIC_GREATER_THAN_EQUALS Z)), (.ref (a_DATE_EQUALS Z)), (.ref (a_DATE_NOT_EQUALS Z)), (.ref (a_DATE_LESS_THAN Z)), (.ref (a_DATE_LESS_THAN_EQUALS Z)), (.ref (a_DATE_GREATER_THAN Z)), (.ref (a_DATE_GREATER_THAN_EQUALS Z)), .null, .null] .null := V48'
  obtain ⟨T49, X49, e49, st49⟩ := getS2 X48 hx hZ hown (host := "") (Or.inl (hw _ (List.mem_of_getElem? (i := 46) rfl))) Via.refl e48 ((s_a_BOOL hS).ext O48.2) (g := (mkF m 149 #[oI p0, oU, oU, oU, oU, oU, oU] [(.int (21 : Int32)), (.ref b6), (.ref b6)])) rfl (hb hby at_149)
  obtain ⟨T50, h50, X50, e50, W50, V50', st50⟩ := own_stR X49 hx hZ e49 V48 Ov6 (Ins.of_exa ((e_a_BOOL hS).ext O48.2) (hw _ (List.mem_of_getElem? (i := 5) rfl))) (j := (21 : Int32)) ⟨by decide, by decide⟩ rfl (by decide : ((21 : Int32) : Int32).toNatClampNeg < 23) (g := (mkF m 152 #[oI p0, oU, oU, oU, oU, oU, oU] [(.ref (a_BOOL Z)), (.int (21 : Int32)), (.ref b6), (.ref b6)])) rfl rfl (hb hby at_152)
  have N50 := Fr.snoc X50 N48 g_b6
  have O50 := O48.wr W50 g_b6
  have Kc50 := Kc48.wr W50 (Or.inr sz_b6)
  have V50 : Arv Z h50 b6 k6 (.object "com/example/menshen/menshen/policy/ConditionOperator") (23 : Int32) [(.ref (a_STRING_EQUALS Z)), (.ref (a_STRING_NOT_EQUALS Z)), (.ref (a_NOT_STRING_EQUALS Z)), (.ref (a_STRING_EQUALS_IGNORE_CASE Z)), (.ref (a_STRING_NOT_EQUALS_IGNORE_CASE Z)), (.ref (a_STRING_LIKE Z)), (.ref (a_STRING_NOT_LIKE Z)), (.ref (a_IP_ADDRESS Z)), (.ref (a_NOT_IP_ADDRESS Z)), (.ref (a_NUMERIC_EQUALS Z)), (.ref (a_NUMERIC_NOT_EQUALS Z)), (.ref (a_NUMERIC_LESS_THAN Z)), (.ref (a_NUMERIC_LESS_THAN_EQUALS Z)), (.ref (a_NUMERIC_GREATER_THAN Z)), (.ref (a_NUMERIC_GREATER_THAN_EQUALS Z)), (.ref (a_DATE_EQUALS Z)), (.ref (a_DATE_NOT_EQUALS Z)), (.ref (a_DATE_LESS_THAN Z)), (.ref (a_DATE_LESS_THAN_EQUALS Z)), (.ref (a_DATE_GREATER_THAN Z)), (.ref (a_DATE_GREATER_THAN_EQUALS Z)), (.ref (a_BOOL Z)), .null] .null := V50'
  obtain ⟨T51, X51, e51, st51⟩ := getS2 X50 hx hZ hown (host := "") (Or.inl (hw _ (List.mem_of_getElem? (i := 48) rfl))) Via.refl e50 ((s_a_NULL hS).ext O50.2) (g := (mkF m 156 #[oI p0, oU, oU, oU, oU, oU, oU] [(.int (22 : Int32)), (.ref b6), (.ref b6)])) rfl (hb hby at_156)
  obtain ⟨T52, h52, X52, e52, W52, V52', st52⟩ := own_stR X51 hx hZ e51 V50 Ov6 (Ins.of_exa ((e_a_NULL hS).ext O50.2) (hw _ (List.mem_of_getElem? (i := 5) rfl))) (j := (22 : Int32)) ⟨by decide, by decide⟩ rfl (by decide : ((22 : Int32) : Int32).toNatClampNeg < 23) (g := (mkF m 159 #[oI p0, oU, oU, oU, oU, oU, oU] [(.ref (a_NULL Z)), (.int (22 : Int32)), (.ref b6), (.ref b6)])) rfl rfl (hb hby at_159)
  have N52 := Fr.snoc X52 N50 g_b6
  have O52 := O50.wr W52 g_b6
  have Kc52 := Kc50.wr W52 (Or.inr sz_b6)
  have V52 : Arv Z h52 b6 k6 (.object "com/example/menshen/menshen/policy/ConditionOperator") (23 : Int32) [(.ref (a_STRING_EQUALS Z)), (.ref (a_STRING_NOT_EQUALS Z)), (.ref (a_NOT_STRING_EQUALS Z)), (.ref (a_STRING_EQUALS_IGNORE_CASE Z)), (.ref (a_STRING_NOT_EQUALS_IGNORE_CASE Z)), (.ref (a_STRING_LIKE Z)), (.ref (a_STRING_NOT_LIKE Z)), (.ref (a_IP_ADDRESS Z)), (.ref (a_NOT_IP_ADDRESS Z)), (.ref (a_NUMERIC_EQUALS Z)), (.ref (a_NUMERIC_NOT_EQUALS Z)), (.ref (a_NUMERIC_LESS_THAN Z)), (.ref (a_NUMERIC_LESS_THAN_EQUALS Z)), (.ref (a_NUMERIC_GREATER_THAN Z)), (.ref (a_NUMERIC_GREATER_THAN_EQUALS Z)), (.ref (a_DATE_EQUALS Z)), (.ref (a_DATE_NOT_EQUALS Z)), (.ref (a_DATE_LESS_THAN Z)), (.ref (a_DATE_LESS_THAN_EQUALS Z)), (.ref (a_DATE_GREATER_THAN Z)), (.ref (a_DATE_GREATER_THAN_EQUALS Z)), (.ref (a_BOOL Z)), (.ref (a_NULL Z))] .null := V52'
  obtain ⟨i, hi⟩ : ∃ z, z = ((p0 &&& (2147483647 : Int32)) - ((p0 &&& (2147483647 : Int32)) / (23 : Int32)) * (23 : Int32)) := ⟨_, rfl⟩
  have ri : i = (0 : Int32) ∨ i = (1 : Int32) ∨ i = (2 : Int32) ∨ i = (3 : Int32) ∨ i = (4 : Int32) ∨ i = (5 : Int32) ∨ i = (6 : Int32) ∨ i = (7 : Int32) ∨ i = (8 : Int32) ∨ i = (9 : Int32) ∨ i = (10 : Int32) ∨ i = (11 : Int32) ∨ i = (12 : Int32) ∨ i = (13 : Int32) ∨ i = (14 : Int32) ∨ i = (15 : Int32) ∨ i = (16 : Int32) ∨ i = (17 : Int32) ∨ i = (18 : Int32) ∨ i = (19 : Int32) ∨ i = (20 : Int32) ∨ i = (21 : Int32) ∨ i = (22 : Int32) := by rw [hi]; exact rng_rem23 p0
  have pre53 : ∀ t, oP p e below T52 (mkF m 168 #[oI p0, oR b6, oU, oU, oU, oU, oU] [(.int i)]) t → oP p e below s₁ (entryFrame m #[(.int p0)] maxLocals) t := fun t k => pre0 t (by
    show oP p e below s₁ (mkF m 0 #[oI p0, oU, oU, oU, oU, oU, oU] []) _
    refine XS.bipush X0.here hx rfl (hb hby at_0) ?_
    show oP p e below s₁ (mkF m 2 #[oI p0, oU, oU, oU, oU, oU, oU] [(.int (23 : Int32))]) _
    refine st6 _ ?_
    show oP p e below T6 (mkF m 5 #[oI p0, oU, oU, oU, oU, oU, oU] [(.ref b6)]) _
    refine XS.dup X6.here hx rfl (hb hby at_5) rfl rfl ?_
    show oP p e below T6 (mkF m 6 #[oI p0, oU, oU, oU, oU, oU, oU] [(.ref b6), (.ref b6)]) _
    refine XS.iconst X6.here hx rfl (hb hby at_6) ?_
    show oP p e below T6 (mkF m 7 #[oI p0, oU, oU, oU, oU, oU, oU] [(.int (0 : Int32)), (.ref b6), (.ref b6)]) _
    refine st7 _ ?_
    show oP p e below T7 (mkF m 10 #[oI p0, oU, oU, oU, oU, oU, oU] [(.ref (a_STRING_EQUALS Z)), (.int (0 : Int32)), (.ref b6), (.ref b6)]) _
    refine st8 _ ?_
    show oP p e below T8 (mkF m 11 #[oI p0, oU, oU, oU, oU, oU, oU] [(.ref b6)]) _
    refine XS.dup X8.here hx rfl (hb hby at_11) rfl rfl ?_
    show oP p e below T8 (mkF m 12 #[oI p0, oU, oU, oU, oU, oU, oU] [(.ref b6), (.ref b6)]) _
    refine XS.iconst X8.here hx rfl (hb hby at_12) ?_
    show oP p e below T8 (mkF m 13 #[oI p0, oU, oU, oU, oU, oU, oU] [(.int (1 : Int32)), (.ref b6), (.ref b6)]) _
    refine st9 _ ?_
    show oP p e below T9 (mkF m 16 #[oI p0, oU, oU, oU, oU, oU, oU] [(.ref (a_STRING_NOT_EQUALS Z)), (.int (1 : Int32)), (.ref b6), (.ref b6)]) _
    refine st10 _ ?_
    show oP p e below T10 (mkF m 17 #[oI p0, oU, oU, oU, oU, oU, oU] [(.ref b6)]) _
    refine XS.dup X10.here hx rfl (hb hby at_17) rfl rfl ?_
    show oP p e below T10 (mkF m 18 #[oI p0, oU, oU, oU, oU, oU, oU] [(.ref b6), (.ref b6)]) _
    refine XS.iconst X10.here hx rfl (hb hby at_18) ?_
    show oP p e below T10 (mkF m 19 #[oI p0, oU, oU, oU, oU, oU, oU] [(.int (2 : Int32)), (.ref b6), (.ref b6)]) _
    refine st11 _ ?_
    show oP p e below T11 (mkF m 22 #[oI p0, oU, oU, oU, oU, oU, oU] [(.ref (a_NOT_STRING_EQUALS Z)), (.int (2 : Int32)), (.ref b6), (.ref b6)]) _
    refine st12 _ ?_
    show oP p e below T12 (mkF m 23 #[oI p0, oU, oU, oU, oU, oU, oU] [(.ref b6)]) _
    refine XS.dup X12.here hx rfl (hb hby at_23) rfl rfl ?_
    show oP p e below T12 (mkF m 24 #[oI p0, oU, oU, oU, oU, oU, oU] [(.ref b6), (.ref b6)]) _
    refine XS.iconst X12.here hx rfl (hb hby at_24) ?_
    show oP p e below T12 (mkF m 25 #[oI p0, oU, oU, oU, oU, oU, oU] [(.int (3 : Int32)), (.ref b6), (.ref b6)]) _
    refine st13 _ ?_
    show oP p e below T13 (mkF m 28 #[oI p0, oU, oU, oU, oU, oU, oU] [(.ref (a_STRING_EQUALS_IGNORE_CASE Z)), (.int (3 : Int32)), (.ref b6), (.ref b6)]) _
    refine st14 _ ?_
    show oP p e below T14 (mkF m 29 #[oI p0, oU, oU, oU, oU, oU, oU] [(.ref b6)]) _
    refine XS.dup X14.here hx rfl (hb hby at_29) rfl rfl ?_
    show oP p e below T14 (mkF m 30 #[oI p0, oU, oU, oU, oU, oU, oU] [(.ref b6), (.ref b6)]) _
    refine XS.iconst X14.here hx rfl (hb hby at_30) ?_
    show oP p e below T14 (mkF m 31 #[oI p0, oU, oU, oU, oU, oU, oU] [(.int (4 : Int32)), (.ref b6), (.ref b6)]) _
    refine st15 _ ?_
    show oP p e below T15 (mkF m 34 #[oI p0, oU, oU, oU, oU, oU, oU] [(.ref (a_STRING_NOT_EQUALS_IGNORE_CASE Z)), (.int (4 : Int32)), (.ref b6), (.ref b6)]) _
    refine st16 _ ?_
    show oP p e below T16 (mkF m 35 #[oI p0, oU, oU, oU, oU, oU, oU] [(.ref b6)]) _
    refine XS.dup X16.here hx rfl (hb hby at_35) rfl rfl ?_
    show oP p e below T16 (mkF m 36 #[oI p0, oU, oU, oU, oU, oU, oU] [(.ref b6), (.ref b6)]) _
    refine XS.iconst X16.here hx rfl (hb hby at_36) ?_
    show oP p e below T16 (mkF m 37 #[oI p0, oU, oU, oU, oU, oU, oU] [(.int (5 : Int32)), (.ref b6), (.ref b6)]) _
    refine st17 _ ?_
    show oP p e below T17 (mkF m 40 #[oI p0, oU, oU, oU, oU, oU, oU] [(.ref (a_STRING_LIKE Z)), (.int (5 : Int32)), (.ref b6), (.ref b6)]) _
    refine st18 _ ?_
    show oP p e below T18 (mkF m 41 #[oI p0, oU, oU, oU, oU, oU, oU] [(.ref b6)]) _
    refine XS.dup X18.here hx rfl (hb hby at_41) rfl rfl ?_
    show oP p e below T18 (mkF m 42 #[oI p0, oU, oU, oU, oU, oU, oU] [(.ref b6), (.ref b6)]) _
    refine XS.bipush X18.here hx rfl (hb hby at_42) ?_
    show oP p e below T18 (mkF m 44 #[oI p0, oU, oU, oU, oU, oU, oU] [(.int (6 : Int32)), (.ref b6), (.ref b6)]) _
    refine st19 _ ?_
    show oP p e below T19 (mkF m 47 #[oI p0, oU, oU, oU, oU, oU, oU] [(.ref (a_STRING_NOT_LIKE Z)), (.int (6 : Int32)), (.ref b6), (.ref b6)]) _
    refine st20 _ ?_
    show oP p e below T20 (mkF m 48 #[oI p0, oU, oU, oU, oU, oU, oU] [(.ref b6)]) _
    refine XS.dup X20.here hx rfl (hb hby at_48) rfl rfl ?_
    show oP p e below T20 (mkF m 49 #[oI p0, oU, oU, oU, oU, oU, oU] [(.ref b6), (.ref b6)]) _
    refine XS.bipush X20.here hx rfl (hb hby at_49) ?_
    show oP p e below T20 (mkF m 51 #[oI p0, oU, oU, oU, oU, oU, oU] [(.int (7 : Int32)), (.ref b6), (.ref b6)]) _
    refine st21 _ ?_
    show oP p e below T21 (mkF m 54 #[oI p0, oU, oU, oU, oU, oU, oU] [(.ref (a_IP_ADDRESS Z)), (.int (7 : Int32)), (.ref b6), (.ref b6)]) _
    refine st22 _ ?_
    show oP p e below T22 (mkF m 55 #[oI p0, oU, oU, oU, oU, oU, oU] [(.ref b6)]) _
    refine XS.dup X22.here hx rfl (hb hby at_55) rfl rfl ?_
    show oP p e below T22 (mkF m 56 #[oI p0, oU, oU, oU, oU, oU, oU] [(.ref b6), (.ref b6)]) _
    refine XS.bipush X22.here hx rfl (hb hby at_56) ?_
    show oP p e below T22 (mkF m 58 #[oI p0, oU, oU, oU, oU, oU, oU] [(.int (8 : Int32)), (.ref b6), (.ref b6)]) _
    refine st23 _ ?_
    show oP p e below T23 (mkF m 61 #[oI p0, oU, oU, oU, oU, oU, oU] [(.ref (a_NOT_IP_ADDRESS Z)), (.int (8 : Int32)), (.ref b6), (.ref b6)]) _
    refine st24 _ ?_
    show oP p e below T24 (mkF m 62 #[oI p0, oU, oU, oU, oU, oU, oU] [(.ref b6)]) _
    refine XS.dup X24.here hx rfl (hb hby at_62) rfl rfl ?_
    show oP p e below T24 (mkF m 63 #[oI p0, oU, oU, oU, oU, oU, oU] [(.ref b6), (.ref b6)]) _
    refine XS.bipush X24.here hx rfl (hb hby at_63) ?_
    show oP p e below T24 (mkF m 65 #[oI p0, oU, oU, oU, oU, oU, oU] [(.int (9 : Int32)), (.ref b6), (.ref b6)]) _
    refine st25 _ ?_
    show oP p e below T25 (mkF m 68 #[oI p0, oU, oU, oU, oU, oU, oU] [(.ref (a_NUMERIC_EQUALS Z)), (.int (9 : Int32)), (.ref b6), (.ref b6)]) _
    refine st26 _ ?_
    show oP p e below T26 (mkF m 69 #[oI p0, oU, oU, oU, oU, oU, oU] [(.ref b6)]) _
    refine XS.dup X26.here hx rfl (hb hby at_69) rfl rfl ?_
    show oP p e below T26 (mkF m 70 #[oI p0, oU, oU, oU, oU, oU, oU] [(.ref b6), (.ref b6)]) _
    refine XS.bipush X26.here hx rfl (hb hby at_70) ?_
    show oP p e below T26 (mkF m 72 #[oI p0, oU, oU, oU, oU, oU, oU] [(.int (10 : Int32)), (.ref b6), (.ref b6)]) _
    refine st27 _ ?_
    show oP p e below T27 (mkF m 75 #[oI p0, oU, oU, oU, oU, oU, oU] [(.ref (a_NUMERIC_NOT_EQUALS Z)), (.int (10 : Int32)), (.ref b6), (.ref b6)]) _
    refine st28 _ ?_
    show oP p e below T28 (mkF m 76 #[oI p0, oU, oU, oU, oU, oU, oU] [(.ref b6)]) _
    refine XS.dup X28.here hx rfl (hb hby at_76) rfl rfl ?_
    show oP p e below T28 (mkF m 77 #[oI p0, oU, oU, oU, oU, oU, oU] [(.ref b6), (.ref b6)]) _
    refine XS.bipush X28.here hx rfl (hb hby at_77) ?_
    show oP p e below T28 (mkF m 79 #[oI p0, oU, oU, oU, oU, oU, oU] [(.int (11 : Int32)), (.ref b6), (.ref b6)]) _
    refine st29 _ ?_
    show oP p e below T29 (mkF m 82 #[oI p0, oU, oU, oU, oU, oU, oU] [(.ref (a_NUMERIC_LESS_THAN Z)), (.int (11 : Int32)), (.ref b6), (.ref b6)]) _
    refine st30 _ ?_
    show oP p e below T30 (mkF m 83 #[oI p0, oU, oU, oU, oU, oU, oU] [(.ref b6)]) _
    refine XS.dup X30.here hx rfl (hb hby at_83) rfl rfl ?_
    show oP p e below T30 (mkF m 84 #[oI p0, oU, oU, oU, oU, oU, oU] [(.ref b6), (.ref b6)]) _
    refine XS.bipush X30.here hx rfl (hb hby at_84) ?_
    show oP p e below T30 (mkF m 86 #[oI p0, oU, oU, oU, oU, oU, oU] [(.int (12 : Int32)), (.ref b6), (.ref b6)]) _
    refine st31 _ ?_
    show oP p e below T31 (mkF m 89 #[oI p0, oU, oU, oU, oU, oU, oU] [(.ref (a_NUMERIC_LESS_THAN_EQUALS Z)), (.int (12 : Int32)), (.ref b6), (.ref b6)]) _
    refine st32 _ ?_
    show oP p e below T32 (mkF m 90 #[oI p0, oU, oU, oU, oU, oU, oU] [(.ref b6)]) _
    refine XS.dup X32.here hx rfl (hb hby at_90) rfl rfl ?_
    show oP p e below T32 (mkF m 91 #[oI p0, oU, oU, oU, oU, oU, oU] [(.ref b6), (.ref b6)]) _
    refine XS.bipush X32.here hx rfl (hb hby at_91) ?_
    show oP p e below T32 (mkF m 93 #[oI p0, oU, oU, oU, oU, oU, oU] [(.int (13 : Int32)), (.ref b6), (.ref b6)]) _
    refine st33 _ ?_
    show oP p e below T33 (mkF m 96 #[oI p0, oU, oU, oU, oU, oU, oU] [(.ref (a_NUMERIC_GREATER_THAN Z)), (.int (13 : Int32)), (.ref b6), (.ref b6)]) _
    refine st34 _ ?_
    show oP p e below T34 (mkF m 97 #[oI p0, oU, oU, oU, oU, oU, oU] [(.ref b6)]) _
    refine XS.dup X34.here hx rfl (hb hby at_97) rfl rfl ?_
    show oP p e below T34 (mkF m 98 #[oI p0, oU, oU, oU, oU, oU, oU] [(.ref b6), (.ref b6)]) _
    refine XS.bipush X34.here hx rfl (hb hby at_98) ?_
    show oP p e below T34 (mkF m 100 #[oI p0, oU, oU, oU, oU, oU, oU] [(.int (14 : Int32)), (.ref b6), (.ref b6)]) _
    refine st35 _ ?_
    show oP p e below T35 (mkF m 103 #[oI p0, oU, oU, oU, oU, oU, oU] [(.ref (a_NUMERIC_GREATER_THAN_EQUALS Z)), (.int (14 : Int32)), (.ref b6), (.ref b6)]) _
    refine st36 _ ?_
    show oP p e below T36 (mkF m 104 #[oI p0, oU, oU, oU, oU, oU, oU] [(.ref b6)]) _
    refine XS.dup X36.here hx rfl (hb hby at_104) rfl rfl ?_
    show oP p e below T36 (mkF m 105 #[oI p0, oU, oU, oU, oU, oU, oU] [(.ref b6), (.ref b6)]) _
    refine XS.bipush X36.here hx rfl (hb hby at_105) ?_
    show oP p e below T36 (mkF m 107 #[oI p0, oU, oU, oU, oU, oU, oU] [(.int (15 : Int32)), (.ref b6), (.ref b6)]) _
    refine st37 _ ?_
    show oP p e below T37 (mkF m 110 #[oI p0, oU, oU, oU, oU, oU, oU] [(.ref (a_DATE_EQUALS Z)), (.int (15 : Int32)), (.ref b6), (.ref b6)]) _
    refine st38 _ ?_
    show oP p e below T38 (mkF m 111 #[oI p0, oU, oU, oU, oU, oU, oU] [(.ref b6)]) _
    refine XS.dup X38.here hx rfl (hb hby at_111) rfl rfl ?_
    show oP p e below T38 (mkF m 112 #[oI p0, oU, oU, oU, oU, oU, oU] [(.ref b6), (.ref b6)]) _
    refine XS.bipush X38.here hx rfl (hb hby at_112) ?_
    show oP p e below T38 (mkF m 114 #[oI p0, oU, oU, oU, oU, oU, oU] [(.int (16 : Int32)), (.ref b6), (.ref b6)]) _
    refine st39 _ ?_
    show oP p e below T39 (mkF m 117 #[oI p0, oU, oU, oU, oU, oU, oU] [(.ref (a_DATE_NOT_EQUALS Z)), (.int (16 : Int32)), (.ref b6), (.ref b6)]) _
    refine st40 _ ?_
    show oP p e below T40 (mkF m 118 #[oI p0, oU, oU, oU, oU, oU, oU] [(.ref b6)]) _
    refine XS.dup X40.here hx rfl (hb hby at_118) rfl rfl ?_
    show oP p e below T40 (mkF m 119 #[oI p0, oU, oU, oU, oU, oU, oU] [(.ref b6), (.ref b6)]) _
    refine XS.bipush X40.here hx rfl (hb hby at_119) ?_
    show oP p e below T40 (mkF m 121 #[oI p0, oU, oU, oU, oU, oU, oU] [(.int (17 : Int32)), (.ref b6), (.ref b6)]) _
    refine st41 _ ?_
    show oP p e below T41 (mkF m 124 #[oI p0, oU, oU, oU, oU, oU, oU] [(.ref (a_DATE_LESS_THAN Z)), (.int (17 : Int32)), (.ref b6), (.ref b6)]) _
    refine st42 _ ?_
    show oP p e below T42 (mkF m 125 #[oI p0, oU, oU, oU, oU, oU, oU] [(.ref b6)]) _
    refine XS.dup X42.here hx rfl (hb hby at_125) rfl rfl ?_
    show oP p e below T42 (mkF m 126 #[oI p0, oU, oU, oU, oU, oU, oU] [(.ref b6), (.ref b6)]) _
    refine XS.bipush X42.here hx rfl (hb hby at_126) ?_
    show oP p e below T42 (mkF m 128 #[oI p0, oU, oU, oU, oU, oU, oU] [(.int (18 : Int32)), (.ref b6), (.ref b6)]) _
    refine st43 _ ?_
    show oP p e below T43 (mkF m 131 #[oI p0, oU, oU, oU, oU, oU, oU] [(.ref (a_DATE_LESS_THAN_EQUALS Z)), (.int (18 : Int32)), (.ref b6), (.ref b6)]) _
    refine st44 _ ?_
    show oP p e below T44 (mkF m 132 #[oI p0, oU, oU, oU, oU, oU, oU] [(.ref b6)]) _
    refine XS.dup X44.here hx rfl (hb hby at_132) rfl rfl ?_
    show oP p e below T44 (mkF m 133 #[oI p0, oU, oU, oU, oU, oU, oU] [(.ref b6), (.ref b6)]) _
    refine XS.bipush X44.here hx rfl (hb hby at_133) ?_
    show oP p e below T44 (mkF m 135 #[oI p0, oU, oU, oU, oU, oU, oU] [(.int (19 : Int32)), (.ref b6), (.ref b6)]) _
    refine st45 _ ?_
    show oP p e below T45 (mkF m 138 #[oI p0, oU, oU, oU, oU, oU, oU] [(.ref (a_DATE_GREATER_THAN Z)), (.int (19 : Int32)), (.ref b6), (.ref b6)]) _
    refine st46 _ ?_
    show oP p e below T46 (mkF m 139 #[oI p0, oU, oU, oU, oU, oU, oU] [(.ref b6)]) _
    refine XS.dup X46.here hx rfl (hb hby at_139) rfl rfl ?_
    show oP p e below T46 (mkF m 140 #[oI p0, oU, oU, oU, oU, oU, oU] [(.ref b6), (.ref b6)]) _
    refine XS.bipush X46.here hx rfl (hb hby at_140) ?_
    show oP p e below T46 (mkF m 142 #[oI p0, oU, oU, oU, oU, oU, oU] [(.int (20 : Int32)), (.ref b6), (.ref b6)]) _
    refine st47 _ ?_
    show oP p e below T47 (mkF m 145 #[oI p0, oU, oU, oU, oU, oU, oU] [(.ref (a_DATE_GREATER_THAN_EQUALS Z)), (.int (20 : Int32)), (.ref b6), (.ref b6)]) _
    refine st48 _ ?_
    show oP p e below T48 (mkF m 146 #[oI p0, oU, oU, oU, oU, oU, oU] [(.ref b6)]) _
    refine XS.dup X48.here hx rfl (hb hby at_146) rfl rfl ?_
    show oP p e below T48 (mkF m 147 #[oI p0, oU, oU, oU, oU, oU, oU] [(.ref b6), (.ref b6)]) _
    refine XS.bipush X48.here hx rfl (hb hby at_147) ?_
    show oP p e below T48 (mkF m 149 #[oI p0, oU, oU, oU, oU, oU, oU] [(.int (21 : Int32)), (.ref b6), (.ref b6)]) _
    refine st49 _ ?_
    show oP p e below T49 (mkF m 152 #[oI p0, oU, oU, oU, oU, oU, oU] [(.ref (a_BOOL Z)), (.int (21 : Int32)), (.ref b6), (.ref b6)]) _
    refine st50 _ ?_
    show oP p e below T50 (mkF m 153 #[oI p0, oU, oU, oU, oU, oU, oU] [(.ref b6)]) _
    refine XS.dup X50.here hx rfl (hb hby at_153) rfl rfl ?_
    show oP p e below T50 (mkF m 154 #[oI p0, oU, oU, oU, oU, oU, oU] [(.ref b6), (.ref b6)]) _
    refine XS.bipush X50.here hx rfl (hb hby at_154) ?_
    show oP p e below T50 (mkF m 156 #[oI p0, oU, oU, oU, oU, oU, oU] [(.int (22 : Int32)), (.ref b6), (.ref b6)]) _
    refine st51 _ ?_
    show oP p e below T51 (mkF m 159 #[oI p0, oU, oU, oU, oU, oU, oU] [(.ref (a_NULL Z)), (.int (22 : Int32)), (.ref b6), (.ref b6)]) _
    refine st52 _ ?_
    show oP p e below T52 (mkF m 160 #[oI p0, oU, oU, oU, oU, oU, oU] [(.ref b6)]) _
    refine XS.astoreN X52.here hx rfl (hb hby at_160) rfl rfl (l' := #[oI p0, oR b6, oU, oU, oU, oU, oU]) rfl ?_
    show oP p e below T52 (mkF m 161 #[oI p0, oR b6, oU, oU, oU, oU, oU] []) _
    refine XS.iloadN X52.here hx rfl (hb hby at_161) rfl ?_
    show oP p e below T52 (mkF m 162 #[oI p0, oR b6, oU, oU, oU, oU, oU] [(.int p0)]) _
    refine X52.ldcInt hx hown (mvT hZ (hw _ (List.mem_of_getElem? (i := 50) rfl))) (g := (mkF m 162 #[oI p0, oR b6, oU, oU, oU, oU, oU] [(.int p0)])) rfl (hb hby at_162) _ ?_
    show oP p e below T52 (mkF m 164 #[oI p0, oR b6, oU, oU, oU, oU, oU] [(.int (2147483647 : Int32)), (.int p0)]) _
    refine XS.iand X52.here hx rfl (hb hby at_164) rfl ?_
    show oP p e below T52 (mkF m 165 #[oI p0, oR b6, oU, oU, oU, oU, oU] [(.int (p0 &&& (2147483647 : Int32)))]) _
    refine XS.bipush X52.here hx rfl (hb hby at_165) ?_
    show oP p e below T52 (mkF m 167 #[oI p0, oR b6, oU, oU, oU, oU, oU] [(.int (23 : Int32)), (.int (p0 &&& (2147483647 : Int32)))]) _
    refine XS.irem X52.here hx rfl (hb hby at_167) rfl (by decide) ?_
    show oP p e below T52 (mkF m 168 #[oI p0, oR b6, oU, oU, oU, oU, oU] [(.int ((p0 &&& (2147483647 : Int32)) - ((p0 &&& (2147483647 : Int32)) / (23 : Int32)) * (23 : Int32)))]) _
    rw [← hi]
    exact k)
  rcases ri with rfl | rfl | rfl | rfl | rfl | rfl | rfl | rfl | rfl | rfl | rfl | rfl | rfl | rfl | rfl | rfl | rfl | rfl | rfl | rfl | rfl | rfl | rfl
  · obtain ⟨lo54, X54, N54⟩ := own_hide X52 N52
    obtain ⟨cq55, kq55, q55a, q55b, q55c⟩ := isOf hZ e52 ((e_a_STRING_EQUALS hS).ext O52.2)
    obtain ⟨_, _, ⟨T55, L55, k55, n55⟩, -, X55, ⟨Lc55, hQ55, l55, y55, z55⟩, st55⟩ := X54.virtualBack hx (y := (⟨"com/example/menshen/menshen/policy/ConditionOperator", "isNegated", "()Z"⟩ : MethodName)) (z := (⟨"com/example/menshen/menshen/policy/ConditionOperator", "isNegated", "()Z"⟩ : MethodName)) hown (mvT hZ (hw _ (List.mem_of_getElem? (i := 51) rfl))) (mvT hZ (hw _ (List.mem_of_getElem? (i := 52) rfl))) (notFace_of_selects (args := #[]) (mvT hZ (hw _ (List.mem_of_getElem? (i := 54) rfl)))) (mvT hZ (hw _ (List.mem_of_getElem? (i := 54) rfl))) (mvT hZ (hw _ (List.mem_of_getElem? (i := 53) rfl))) (by decide) (backOf (W := 0) (rm1n l Z a0 hw hS [] (a_STRING_EQUALS Z) h52 n0 O52 ((f_a_STRING_EQUALS_negationOf hS).ext O52.2)) hZ (hw _ (List.mem_of_getElem? (i := 55) rfl)) (hw _ (List.mem_of_getElem? (i := 3) rfl)) (by decide) (by decide)) q55a q55c (g := (mkF m 220 #[oI p0, oR b6, oI (0 : Int32), oR (a_STRING_EQUALS Z), oI (0 : Int32), oU, oU] [(.ref (a_STRING_EQUALS Z))])) rfl (by rw [hml]; rfl) (Steps.refl _) (argsL := []) (rest := []) (lenOf pd_0 rfl) rfl (by show 2 * 0 + _ ≤ _; exact Nat.le_of_eq rfl) (hb hby at_220) (fun _ _ => ⟨rfl, e52, (by decide : 1 + 0 ≤ _), (by decide : 23 + 0 ≤ _)⟩)
    dsimp only [Pt.U, Pt.locs, Pt.cells, Pt.slots] at X55 l55 y55 z55 st55 hQ55
    subst l55 y55 z55
    obtain ⟨v55, N55q, K55q⟩ := hQ55
    have w55 : (fn1n Z (a_STRING_EQUALS Z)) = (0 : Int32) := rfl
    rw [w55] at v55
    subst v55
    have N55 := Fr.app N54 N55q
    have O55 := O52.keep K55q all0
    have Kc55 := Kc52.trans K55q all0
    obtain ⟨cq56, kq56, q56a, q56b, q56c⟩ := isOf hZ rfl ((e_a_STRING_EQUALS hS).ext O55.2)
    obtain ⟨_, _, ⟨T56, L56, k56, n56⟩, -, X56, ⟨Lc56, hQ56, l56, y56, z56⟩, st56⟩ := X55.virtualBack hx (y := (⟨"com/example/menshen/menshen/policy/ConditionOperator", "positive", "()Lcom/example/menshen/menshen/policy/ConditionOperator;"⟩ : MethodName)) (z := (⟨"com/example/menshen/menshen/policy/ConditionOperator", "positive", "()Lcom/example/menshen/menshen/policy/ConditionOperator;"⟩ : MethodName)) hown (mvT hZ (hw _ (List.mem_of_getElem? (i := 58) rfl))) (mvT hZ (hw _ (List.mem_of_getElem? (i := 59) rfl))) (notFace_of_selects (args := #[]) (mvT hZ (hw _ (List.mem_of_getElem? (i := 61) rfl)))) (mvT hZ (hw _ (List.mem_of_getElem? (i := 61) rfl))) (mvT hZ (hw _ (List.mem_of_getElem? (i := 60) rfl))) (by decide) (backOf (W := 0) (rm2n l Z a0 hw hS [] (a_STRING_EQUALS Z) T55.heap n0 O55 ((f_a_STRING_EQUALS_negationOf hS).ext O55.2)) hZ (hw _ (List.mem_of_getElem? (i := 62) rfl)) (hw _ (List.mem_of_getElem? (i := 3) rfl)) (by decide) (by decide)) q56a q56c (g := (mkF m 226 #[oI p0, oR b6, oI (0 : Int32), oR (a_STRING_EQUALS Z), oI (0 : Int32), oI (0 : Int32), oU] [(.ref (a_STRING_EQUALS Z))])) rfl (by rw [hml]; rfl) (Steps.refl _) (argsL := []) (rest := []) (lenOf pd_1 rfl) rfl (by show 2 * 0 + _ ≤ _; exact Nat.le_of_eq rfl) (hb hby at_226) (fun _ _ => ⟨rfl, rfl, (by decide : 1 + 0 ≤ _), (by decide : 23 + 0 ≤ _)⟩)
    dsimp only [Pt.U, Pt.locs, Pt.cells, Pt.slots] at X56 l56 y56 z56 st56 hQ56
    subst l56 y56 z56
    obtain ⟨v56, N56q, K56q⟩ := hQ56
    have w56 : (fn2n Z (a_STRING_EQUALS Z)) = (a_STRING_EQUALS Z) := rfl
    rw [w56] at v56
    subst v56
    have N56 := Fr.app N55 N56q
    have O56 := O55.keep K56q all0
    have Kc56 := Kc55.trans K56q all0
    obtain ⟨cq57, kq57, q57a, q57b, q57c⟩ := isOf hZ rfl ((e_a_STRING_EQUALS hS).ext O56.2)
    obtain ⟨_, _, ⟨T57, L57, k57, n57⟩, -, X57, ⟨Lc57, hQ57, l57, y57, z57⟩, st57⟩ := X56.virtualBack hx (y := (⟨"com/example/menshen/menshen/policy/ConditionOperator", "isNegated", "()Z"⟩ : MethodName)) (z := (⟨"com/example/menshen/menshen/policy/ConditionOperator", "isNegated", "()Z"⟩ : MethodName)) hown (mvT hZ (hw _ (List.mem_of_getElem? (i := 51) rfl))) (mvT hZ (hw _ (List.mem_of_getElem? (i := 52) rfl))) (notFace_of_selects (args := #[]) (mvT hZ (hw _ (List.mem_of_getElem? (i := 54) rfl)))) (mvT hZ (hw _ (List.mem_of_getElem? (i := 54) rfl))) (mvT hZ (hw _ (List.mem_of_getElem? (i := 53) rfl))) (by decide) (backOf (W := 0) (rm1n l Z a0 hw hS [] (a_STRING_EQUALS Z) T56.heap n0 O56 ((f_a_STRING_EQUALS_negationOf hS).ext O56.2)) hZ (hw _ (List.mem_of_getElem? (i := 55) rfl)) (hw _ (List.mem_of_getElem? (i := 3) rfl)) (by decide) (by decide)) q57a q57c (g := (mkF m 256 #[oI p0, oR b6, oI (0 : Int32), oR (a_STRING_EQUALS Z), oI (0 : Int32), oI (0 : Int32), oR (a_STRING_EQUALS Z)] [(.ref (a_STRING_EQUALS Z))])) rfl (by rw [hml]; rfl) (Steps.refl _) (argsL := []) (rest := []) (lenOf pd_0 rfl) rfl (by show 2 * 0 + _ ≤ _; exact Nat.le_of_eq rfl) (hb hby at_256) (fun _ _ => ⟨rfl, rfl, (by decide : 1 + 0 ≤ _), (by decide : 23 + 0 ≤ _)⟩)
    dsimp only [Pt.U, Pt.locs, Pt.cells, Pt.slots] at X57 l57 y57 z57 st57 hQ57
    subst l57 y57 z57
    obtain ⟨v57, N57q, K57q⟩ := hQ57
    have w57 : (fn1n Z (a_STRING_EQUALS Z)) = (0 : Int32) := rfl
    rw [w57] at v57
    subst v57
    have N57 := Fr.app N56 N57q
    have O57 := O56.keep K57q all0
    have Kc57 := Kc56.trans K57q all0
    obtain ⟨fs, hr, hrun, hended, hW, hsame⟩ := X57.leave (v := some (.int (1 : Int32))) (fun h => by rw [Bd.returns] at h; cases h)
    refine ⟨_, _, pre53 _ ?_, hrun, hended, _, _, rfl, ?_, ⟨_, rfl⟩, hW, hsame.mono (by decide) (by decide)⟩
    · show oP p e below T52 (mkF m 168 #[oI p0, oR b6, oU, oU, oU, oU, oU] [(.int (0 : Int32))]) _
      refine XS.istoreN X52.here hx rfl (hb hby at_168) rfl (l' := #[oI p0, oR b6, oI (0 : Int32), oU, oU, oU, oU]) rfl ?_
      show oP p e below T52 (mkF m 169 #[oI p0, oR b6, oI (0 : Int32), oU, oU, oU, oU] []) _
      refine XS.aloadN X52.here hx rfl (hb hby at_169) rfl rfl ?_
      show oP p e below T52 (mkF m 170 #[oI p0, oR b6, oI (0 : Int32), oU, oU, oU, oU] [(.ref b6)]) _
      refine XS.iloadN X52.here hx rfl (hb hby at_170) rfl ?_
      show oP p e below T52 (mkF m 171 #[oI p0, oR b6, oI (0 : Int32), oU, oU, oU, oU] [(.int (0 : Int32)), (.ref b6)]) _
      refine own_aaload X52 hx hZ e52 V52 rfl (j := (0 : Int32)) ⟨by decide, by decide⟩ (v := (.ref (a_STRING_EQUALS Z))) rfl (g := (mkF m 171 #[oI p0, oR b6, oI (0 : Int32), oU, oU, oU, oU] [(.int (0 : Int32)), (.ref b6)])) rfl rfl (hb hby at_171) _ ?_
      show oP p e below T52 (mkF m 172 #[oI p0, oR b6, oI (0 : Int32), oU, oU, oU, oU] [(.ref (a_STRING_EQUALS Z))]) _
      refine XS.astoreN X52.here hx rfl (hb hby at_172) rfl rfl (l' := #[oI p0, oR b6, oI (0 : Int32), oR (a_STRING_EQUALS Z), oU, oU, oU]) rfl ?_
      show oP p e below T52 (mkF m 173 #[oI p0, oR b6, oI (0 : Int32), oR (a_STRING_EQUALS Z), oU, oU, oU] []) _
      refine XS.iloadN X52.here hx rfl (hb hby at_173) rfl ?_
      show oP p e below T52 (mkF m 174 #[oI p0, oR b6, oI (0 : Int32), oR (a_STRING_EQUALS Z), oU, oU, oU] [(.int (0 : Int32))]) _
      refine XS.iconst X52.here hx rfl (hb hby at_174) ?_
      show oP p e below T52 (mkF m 175 #[oI p0, oR b6, oI (0 : Int32), oR (a_STRING_EQUALS Z), oU, oU, oU] [(.int (1 : Int32)), (.int (0 : Int32))]) _
      refine XS.icmpNo X52.here hx rfl (hb hby at_175) rfl (feq (by decide : ¬ ((0 : Int32) = (1 : Int32)))).1 ?_
      show oP p e below T52 (mkF m 178 #[oI p0, oR b6, oI (0 : Int32), oR (a_STRING_EQUALS Z), oU, oU, oU] []) _
      refine XS.iloadN X52.here hx rfl (hb hby at_178) rfl ?_
      show oP p e below T52 (mkF m 179 #[oI p0, oR b6, oI (0 : Int32), oR (a_STRING_EQUALS Z), oU, oU, oU] [(.int (0 : Int32))]) _
      refine XS.iconst X52.here hx rfl (hb hby at_179) ?_
      show oP p e below T52 (mkF m 180 #[oI p0, oR b6, oI (0 : Int32), oR (a_STRING_EQUALS Z), oU, oU, oU] [(.int (2 : Int32)), (.int (0 : Int32))]) _
      refine XS.icmpNo X52.here hx rfl (hb hby at_180) rfl (feq (by decide : ¬ ((0 : Int32) = (2 : Int32)))).1 ?_
      show oP p e below T52 (mkF m 183 #[oI p0, oR b6, oI (0 : Int32), oR (a_STRING_EQUALS Z), oU, oU, oU] []) _
      refine XS.iloadN X52.here hx rfl (hb hby at_183) rfl ?_
      show oP p e below T52 (mkF m 184 #[oI p0, oR b6, oI (0 : Int32), oR (a_STRING_EQUALS Z), oU, oU, oU] [(.int (0 : Int32))]) _
      refine XS.iconst X52.here hx rfl (hb hby at_184) ?_
      show oP p e below T52 (mkF m 185 #[oI p0, oR b6, oI (0 : Int32), oR (a_STRING_EQUALS Z), oU, oU, oU] [(.int (4 : Int32)), (.int (0 : Int32))]) _
      refine XS.icmpNo X52.here hx rfl (hb hby at_185) rfl (feq (by decide : ¬ ((0 : Int32) = (4 : Int32)))).1 ?_
      show oP p e below T52 (mkF m 188 #[oI p0, oR b6, oI (0 : Int32), oR (a_STRING_EQUALS Z), oU, oU, oU] []) _
      refine XS.iloadN X52.here hx rfl (hb hby at_188) rfl ?_
      show oP p e below T52 (mkF m 189 #[oI p0, oR b6, oI (0 : Int32), oR (a_STRING_EQUALS Z), oU, oU, oU] [(.int (0 : Int32))]) _
      refine XS.bipush X52.here hx rfl (hb hby at_189) ?_
      show oP p e below T52 (mkF m 191 #[oI p0, oR b6, oI (0 : Int32), oR (a_STRING_EQUALS Z), oU, oU, oU] [(.int (6 : Int32)), (.int (0 : Int32))]) _
      refine XS.icmpNo X52.here hx rfl (hb hby at_191) rfl (feq (by decide : ¬ ((0 : Int32) = (6 : Int32)))).1 ?_
      show oP p e below T52 (mkF m 194 #[oI p0, oR b6, oI (0 : Int32), oR (a_STRING_EQUALS Z), oU, oU, oU] []) _
      refine XS.iloadN X52.here hx rfl (hb hby at_194) rfl ?_
      show oP p e below T52 (mkF m 195 #[oI p0, oR b6, oI (0 : Int32), oR (a_STRING_EQUALS Z), oU, oU, oU] [(.int (0 : Int32))]) _
      refine XS.bipush X52.here hx rfl (hb hby at_195) ?_
      show oP p e below T52 (mkF m 197 #[oI p0, oR b6, oI (0 : Int32), oR (a_STRING_EQUALS Z), oU, oU, oU] [(.int (8 : Int32)), (.int (0 : Int32))]) _
      refine XS.icmpNo X52.here hx rfl (hb hby at_197) rfl (feq (by decide : ¬ ((0 : Int32) = (8 : Int32)))).1 ?_
      show oP p e below T52 (mkF m 200 #[oI p0, oR b6, oI (0 : Int32), oR (a_STRING_EQUALS Z), oU, oU, oU] []) _
      refine XS.iloadN X52.here hx rfl (hb hby at_200) rfl ?_
      show oP p e below T52 (mkF m 201 #[oI p0, oR b6, oI (0 : Int32), oR (a_STRING_EQUALS Z), oU, oU, oU] [(.int (0 : Int32))]) _
      refine XS.bipush X52.here hx rfl (hb hby at_201) ?_
      show oP p e below T52 (mkF m 203 #[oI p0, oR b6, oI (0 : Int32), oR (a_STRING_EQUALS Z), oU, oU, oU] [(.int (10 : Int32)), (.int (0 : Int32))]) _
      refine XS.icmpNo X52.here hx rfl (hb hby at_203) rfl (feq (by decide : ¬ ((0 : Int32) = (10 : Int32)))).1 ?_
      show oP p e below T52 (mkF m 206 #[oI p0, oR b6, oI (0 : Int32), oR (a_STRING_EQUALS Z), oU, oU, oU] []) _
      refine XS.iloadN X52.here hx rfl (hb hby at_206) rfl ?_
      show oP p e below T52 (mkF m 207 #[oI p0, oR b6, oI (0 : Int32), oR (a_STRING_EQUALS Z), oU, oU, oU] [(.int (0 : Int32))]) _
      refine XS.bipush X52.here hx rfl (hb hby at_207) ?_
      show oP p e below T52 (mkF m 209 #[oI p0, oR b6, oI (0 : Int32), oR (a_STRING_EQUALS Z), oU, oU, oU] [(.int (16 : Int32)), (.int (0 : Int32))]) _
      refine XS.icmpYes X52.here hx rfl (pc0 := 209) (pc' := 216) rfl (hb hby at_209) rfl (feq (by decide : ¬ ((0 : Int32) = (16 : Int32)))).2 (by decide) (by decide) ?_
      show oP p e below T52 (mkF m 216 #[oI p0, oR b6, oI (0 : Int32), oR (a_STRING_EQUALS Z), oU, oU, oU] []) _
      refine XS.iconst X52.here hx rfl (hb hby at_216) ?_
      show oP p e below T52 (mkF m 217 #[oI p0, oR b6, oI (0 : Int32), oR (a_STRING_EQUALS Z), oU, oU, oU] [(.int (0 : Int32))]) _
      refine XS.istore X52.here hx rfl (hb hby at_217) rfl (l' := #[oI p0, oR b6, oI (0 : Int32), oR (a_STRING_EQUALS Z), oI (0 : Int32), oU, oU]) rfl ?_
      show oP p e below T52 (mkF m 219 #[oI p0, oR b6, oI (0 : Int32), oR (a_STRING_EQUALS Z), oI (0 : Int32), oU, oU] []) _
      refine XS.aloadN X52.here hx rfl (hb hby at_219) rfl rfl ?_
      show oP p e below T52 (mkF m 220 #[oI p0, oR b6, oI (0 : Int32), oR (a_STRING_EQUALS Z), oI (0 : Int32), oU, oU] [(.ref (a_STRING_EQUALS Z))]) _
      refine st55.trans ?_
      show oP p e below T55 (mkF m 223 #[oI p0, oR b6, oI (0 : Int32), oR (a_STRING_EQUALS Z), oI (0 : Int32), oU, oU] [(.int (0 : Int32))]) _
      refine XS.istore X55.here hx rfl (hb hby at_223) rfl (l' := #[oI p0, oR b6, oI (0 : Int32), oR (a_STRING_EQUALS Z), oI (0 : Int32), oI (0 : Int32), oU]) rfl ?_
      show oP p e below T55 (mkF m 225 #[oI p0, oR b6, oI (0 : Int32), oR (a_STRING_EQUALS Z), oI (0 : Int32), oI (0 : Int32), oU] []) _
      refine XS.aloadN X55.here hx rfl (hb hby at_225) rfl rfl ?_
      show oP p e below T55 (mkF m 226 #[oI p0, oR b6, oI (0 : Int32), oR (a_STRING_EQUALS Z), oI (0 : Int32), oI (0 : Int32), oU] [(.ref (a_STRING_EQUALS Z))]) _
      refine st56.trans ?_
      show oP p e below T56 (mkF m 229 #[oI p0, oR b6, oI (0 : Int32), oR (a_STRING_EQUALS Z), oI (0 : Int32), oI (0 : Int32), oU] [(.ref (a_STRING_EQUALS Z))]) _
      refine XS.astore X56.here hx rfl (hb hby at_229) rfl rfl (l' := #[oI p0, oR b6, oI (0 : Int32), oR (a_STRING_EQUALS Z), oI (0 : Int32), oI (0 : Int32), oR (a_STRING_EQUALS Z)]) rfl ?_
      show oP p e below T56 (mkF m 231 #[oI p0, oR b6, oI (0 : Int32), oR (a_STRING_EQUALS Z), oI (0 : Int32), oI (0 : Int32), oR (a_STRING_EQUALS Z)] []) _
      refine XS.iload X56.here hx rfl (hb hby at_231) rfl ?_
      show oP p e below T56 (mkF m 233 #[oI p0, oR b6, oI (0 : Int32), oR (a_STRING_EQUALS Z), oI (0 : Int32), oI (0 : Int32), oR (a_STRING_EQUALS Z)] [(.int (0 : Int32))]) _
      refine XS.iload X56.here hx rfl (hb hby at_233) rfl ?_
      show oP p e below T56 (mkF m 235 #[oI p0, oR b6, oI (0 : Int32), oR (a_STRING_EQUALS Z), oI (0 : Int32), oI (0 : Int32), oR (a_STRING_EQUALS Z)] [(.int (0 : Int32)), (.int (0 : Int32))]) _
      refine XS.icmpNo X56.here hx rfl (hb hby at_235) rfl (teq (by decide : (0 : Int32) = (0 : Int32))).2 ?_
      show oP p e below T56 (mkF m 238 #[oI p0, oR b6, oI (0 : Int32), oR (a_STRING_EQUALS Z), oI (0 : Int32), oI (0 : Int32), oR (a_STRING_EQUALS Z)] []) _
      refine XS.iload X56.here hx rfl (hb hby at_238) rfl ?_
      show oP p e below T56 (mkF m 240 #[oI p0, oR b6, oI (0 : Int32), oR (a_STRING_EQUALS Z), oI (0 : Int32), oI (0 : Int32), oR (a_STRING_EQUALS Z)] [(.int (0 : Int32))]) _
      refine XS.aload X56.here hx rfl (hb hby at_240) rfl rfl ?_
      show oP p e below T56 (mkF m 242 #[oI p0, oR b6, oI (0 : Int32), oR (a_STRING_EQUALS Z), oI (0 : Int32), oI (0 : Int32), oR (a_STRING_EQUALS Z)] [(.ref (a_STRING_EQUALS Z)), (.int (0 : Int32))]) _
      refine XS.aloadN X56.here hx rfl (hb hby at_242) rfl rfl ?_
      show oP p e below T56 (mkF m 243 #[oI p0, oR b6, oI (0 : Int32), oR (a_STRING_EQUALS Z), oI (0 : Int32), oI (0 : Int32), oR (a_STRING_EQUALS Z)] [(.ref (a_STRING_EQUALS Z)), (.ref (a_STRING_EQUALS Z)), (.int (0 : Int32))]) _
      refine Jvm.RoadKit.acmp (g := (mkF m 243 #[oI p0, oR b6, oI (0 : Int32), oR (a_STRING_EQUALS Z), oI (0 : Int32), oI (0 : Int32), oR (a_STRING_EQUALS Z)] [(.ref (a_STRING_EQUALS Z)), (.ref (a_STRING_EQUALS Z)), (.int (0 : Int32))])) X56 hx rfl rfl rfl (pc0 := 243) (pc' := 250) (same := true) rfl (hb hby at_243) rfl (decide_eq_true (congrArg Value.ref (rfl : (a_STRING_EQUALS Z) = (a_STRING_EQUALS Z)))) (by decide) (by decide) ?_
      show oP p e below T56 (mkF m 250 #[oI p0, oR b6, oI (0 : Int32), oR (a_STRING_EQUALS Z), oI (0 : Int32), oI (0 : Int32), oR (a_STRING_EQUALS Z)] [(.int (0 : Int32))]) _
      refine XS.iconst X56.here hx rfl (hb hby at_250) ?_
      show oP p e below T56 (mkF m 251 #[oI p0, oR b6, oI (0 : Int32), oR (a_STRING_EQUALS Z), oI (0 : Int32), oI (0 : Int32), oR (a_STRING_EQUALS Z)] [(.int (0 : Int32)), (.int (0 : Int32))]) _
      refine XS.icmpNo X56.here hx rfl (hb hby at_251) rfl (teq (by decide : (0 : Int32) = (0 : Int32))).2 ?_
      show oP p e below T56 (mkF m 254 #[oI p0, oR b6, oI (0 : Int32), oR (a_STRING_EQUALS Z), oI (0 : Int32), oI (0 : Int32), oR (a_STRING_EQUALS Z)] []) _
      refine XS.aload X56.here hx rfl (hb hby at_254) rfl rfl ?_
      show oP p e below T56 (mkF m 256 #[oI p0, oR b6, oI (0 : Int32), oR (a_STRING_EQUALS Z), oI (0 : Int32), oI (0 : Int32), oR (a_STRING_EQUALS Z)] [(.ref (a_STRING_EQUALS Z))]) _
      refine st57.trans ?_
      show oP p e below T57 (mkF m 259 #[oI p0, oR b6, oI (0 : Int32), oR (a_STRING_EQUALS Z), oI (0 : Int32), oI (0 : Int32), oR (a_STRING_EQUALS Z)] [(.int (0 : Int32))]) _
      refine XS.ifNo X57.here hx rfl (hb hby at_259) rfl ((if0 _ _).trans (teq (by decide : (0 : Int32) = (0 : Int32))).2) ?_
      show oP p e below T57 (mkF m 262 #[oI p0, oR b6, oI (0 : Int32), oR (a_STRING_EQUALS Z), oI (0 : Int32), oI (0 : Int32), oR (a_STRING_EQUALS Z)] []) _
      refine XS.iconst X57.here hx rfl (hb hby at_262) ?_
      show oP p e below T57 (mkF m 263 #[oI p0, oR b6, oI (0 : Int32), oR (a_STRING_EQUALS Z), oI (0 : Int32), oI (0 : Int32), oR (a_STRING_EQUALS Z)] [(.int (1 : Int32))]) _
      refine XS.goto X57.here hx rfl (pc0 := 263) (pc' := 267) rfl (hb hby at_263) (by decide) (by decide) ?_
      show oP p e below T57 (mkF m 267 #[oI p0, oR b6, oI (0 : Int32), oR (a_STRING_EQUALS Z), oI (0 : Int32), oI (0 : Int32), oR (a_STRING_EQUALS Z)] [(.int (1 : Int32))]) _
      exact retN X57 hx (t := .boolean) Bd.returns (by simp) (hb hby at_267) hr
    · show (some (.int (1 : Int32)) : Option Value) = some (.int (1 : Int32)) ∧ Fr n0 _ ∧ Keep h0 T57.heap []
      exact ⟨rfl, N57, Kc57⟩
  · obtain ⟨lo58, X58, N58⟩ := own_hide X52 N52
    obtain ⟨cq59, kq59, q59a, q59b, q59c⟩ := isOf hZ e52 ((e_a_STRING_NOT_EQUALS hS).ext O52.2)
    obtain ⟨_, _, ⟨T59, L59, k59, n59⟩, -, X59, ⟨Lc59, hQ59, l59, y59, z59⟩, st59⟩ := X58.virtualBack hx (y := (⟨"com/example/menshen/menshen/policy/ConditionOperator", "isNegated", "()Z"⟩ : MethodName)) (z := (⟨"com/example/menshen/menshen/policy/ConditionOperator", "isNegated", "()Z"⟩ : MethodName)) hown (mvT hZ (hw _ (List.mem_of_getElem? (i := 51) rfl))) (mvT hZ (hw _ (List.mem_of_getElem? (i := 52) rfl))) (notFace_of_selects (args := #[]) (mvT hZ (hw _ (List.mem_of_getElem? (i := 54) rfl)))) (mvT hZ (hw _ (List.mem_of_getElem? (i := 54) rfl))) (mvT hZ (hw _ (List.mem_of_getElem? (i := 53) rfl))) (by decide) (backOf (W := 0) (rm1r l Z a0 hw hS [] (a_STRING_NOT_EQUALS Z) (a_STRING_EQUALS Z) h52 n0 O52 ((f_a_STRING_NOT_EQUALS_negationOf hS).ext O52.2)) hZ (hw _ (List.mem_of_getElem? (i := 55) rfl)) (hw _ (List.mem_of_getElem? (i := 3) rfl)) (by decide) (by decide)) q59a q59c (g := (mkF m 220 #[oI p0, oR b6, oI (1 : Int32), oR (a_STRING_NOT_EQUALS Z), oI (1 : Int32), oU, oU] [(.ref (a_STRING_NOT_EQUALS Z))])) rfl (by rw [hml]; rfl) (Steps.refl _) (argsL := []) (rest := []) (lenOf pd_0 rfl) rfl (by show 2 * 0 + _ ≤ _; exact Nat.le_of_eq rfl) (hb hby at_220) (fun _ _ => ⟨rfl, e52, (by decide : 1 + 0 ≤ _), (by decide : 23 + 0 ≤ _)⟩)
    dsimp only [Pt.U, Pt.locs, Pt.cells, Pt.slots] at X59 l59 y59 z59 st59 hQ59
    subst l59 y59 z59
    obtain ⟨v59, N59q, K59q⟩ := hQ59
    have w59 : (fn1r Z (a_STRING_NOT_EQUALS Z) (a_STRING_EQUALS Z)) = (1 : Int32) := rfl
    rw [w59] at v59
    subst v59
    have N59 := Fr.app N58 N59q
    have O59 := O52.keep K59q all0
    have Kc59 := Kc52.trans K59q all0
    obtain ⟨cq60, kq60, q60a, q60b, q60c⟩ := isOf hZ rfl ((e_a_STRING_NOT_EQUALS hS).ext O59.2)
    obtain ⟨_, _, ⟨T60, L60, k60, n60⟩, -, X60, ⟨Lc60, hQ60, l60, y60, z60⟩, st60⟩ := X59.virtualBack hx (y := (⟨"com/example/menshen/menshen/policy/ConditionOperator", "positive", "()Lcom/example/menshen/menshen/policy/ConditionOperator;"⟩ : MethodName)) (z := (⟨"com/example/menshen/menshen/policy/ConditionOperator", "positive", "()Lcom/example/menshen/menshen/policy/ConditionOperator;"⟩ : MethodName)) hown (mvT hZ (hw _ (List.mem_of_getElem? (i := 58) rfl))) (mvT hZ (hw _ (List.mem_of_getElem? (i := 59) rfl))) (notFace_of_selects (args := #[]) (mvT hZ (hw _ (List.mem_of_getElem? (i := 61) rfl)))) (mvT hZ (hw _ (List.mem_of_getElem? (i := 61) rfl))) (mvT hZ (hw _ (List.mem_of_getElem? (i := 60) rfl))) (by decide) (backOf (W := 0) (rm2r l Z a0 hw hS [] (a_STRING_NOT_EQUALS Z) (a_STRING_EQUALS Z) T59.heap n0 O59 ((f_a_STRING_NOT_EQUALS_negationOf hS).ext O59.2)) hZ (hw _ (List.mem_of_getElem? (i := 62) rfl)) (hw _ (List.mem_of_getElem? (i := 3) rfl)) (by decide) (by decide)) q60a q60c (g := (mkF m 226 #[oI p0, oR b6, oI (1 : Int32), oR (a_STRING_NOT_EQUALS Z), oI (1 : Int32), oI (1 : Int32), oU] [(.ref (a_STRING_NOT_EQUALS Z))])) rfl (by rw [hml]; rfl) (Steps.refl _) (argsL := []) (rest := []) (lenOf pd_1 rfl) rfl (by show 2 * 0 + _ ≤ _; exact Nat.le_of_eq rfl) (hb hby at_226) (fun _ _ => ⟨rfl, rfl, (by decide : 1 + 0 ≤ _), (by decide : 23 + 0 ≤ _)⟩)
    dsimp only [Pt.U, Pt.locs, Pt.cells, Pt.slots] at X60 l60 y60 z60 st60 hQ60
    subst l60 y60 z60
    obtain ⟨v60, N60q, K60q⟩ := hQ60
    have w60 : (fn2r Z (a_STRING_NOT_EQUALS Z) (a_STRING_EQUALS Z)) = (a_STRING_EQUALS Z) := rfl
    rw [w60] at v60
    subst v60
    have N60 := Fr.app N59 N60q
    have O60 := O59.keep K60q all0
    have Kc60 := Kc59.trans K60q all0
    obtain ⟨cq61, kq61, q61a, q61b, q61c⟩ := isOf hZ rfl ((e_a_STRING_EQUALS hS).ext O60.2)
    obtain ⟨_, _, ⟨T61, L61, k61, n61⟩, -, X61, ⟨Lc61, hQ61, l61, y61, z61⟩, st61⟩ := X60.virtualBack hx (y := (⟨"com/example/menshen/menshen/policy/ConditionOperator", "isNegated", "()Z"⟩ : MethodName)) (z := (⟨"com/example/menshen/menshen/policy/ConditionOperator", "isNegated", "()Z"⟩ : MethodName)) hown (mvT hZ (hw _ (List.mem_of_getElem? (i := 51) rfl))) (mvT hZ (hw _ (List.mem_of_getElem? (i := 52) rfl))) (notFace_of_selects (args := #[]) (mvT hZ (hw _ (List.mem_of_getElem? (i := 54) rfl)))) (mvT hZ (hw _ (List.mem_of_getElem? (i := 54) rfl))) (mvT hZ (hw _ (List.mem_of_getElem? (i := 53) rfl))) (by decide) (backOf (W := 0) (rm1n l Z a0 hw hS [] (a_STRING_EQUALS Z) T60.heap n0 O60 ((f_a_STRING_EQUALS_negationOf hS).ext O60.2)) hZ (hw _ (List.mem_of_getElem? (i := 55) rfl)) (hw _ (List.mem_of_getElem? (i := 3) rfl)) (by decide) (by decide)) q61a q61c (g := (mkF m 256 #[oI p0, oR b6, oI (1 : Int32), oR (a_STRING_NOT_EQUALS Z), oI (1 : Int32), oI (1 : Int32), oR (a_STRING_EQUALS Z)] [(.ref (a_STRING_EQUALS Z))])) rfl (by rw [hml]; rfl) (Steps.refl _) (argsL := []) (rest := []) (lenOf pd_0 rfl) rfl (by show 2 * 0 + _ ≤ _; exact Nat.le_of_eq rfl) (hb hby at_256) (fun _ _ => ⟨rfl, rfl, (by decide : 1 + 0 ≤ _), (by decide : 23 + 0 ≤ _)⟩)
    dsimp only [Pt.U, Pt.locs, Pt.cells, Pt.slots] at X61 l61 y61 z61 st61 hQ61
    subst l61 y61 z61
    obtain ⟨v61, N61q, K61q⟩ := hQ61
    have w61 : (fn1n Z (a_STRING_EQUALS Z)) = (0 : Int32) := rfl
    rw [w61] at v61
    subst v61
    have N61 := Fr.app N60 N61q
    have O61 := O60.keep K61q all0
    have Kc61 := Kc60.trans K61q all0
    obtain ⟨fs, hr, hrun, hended, hW, hsame⟩ := X61.leave (v := some (.int (1 : Int32))) (fun h => by rw [Bd.returns] at h; cases h)
    refine ⟨_, _, pre53 _ ?_, hrun, hended, _, _, rfl, ?_, ⟨_, rfl⟩, hW, hsame.mono (by decide) (by decide)⟩
    · show oP p e below T52 (mkF m 168 #[oI p0, oR b6, oU, oU, oU, oU, oU] [(.int (1 : Int32))]) _
      refine XS.istoreN X52.here hx rfl (hb hby at_168) rfl (l' := #[oI p0, oR b6, oI (1 : Int32), oU, oU, oU, oU]) rfl ?_
      show oP p e below T52 (mkF m 169 #[oI p0, oR b6, oI (1 : Int32), oU, oU, oU, oU] []) _
      refine XS.aloadN X52.here hx rfl (hb hby at_169) rfl rfl ?_
      show oP p e below T52 (mkF m 170 #[oI p0, oR b6, oI (1 : Int32), oU, oU, oU, oU] [(.ref b6)]) _
      refine XS.iloadN X52.here hx rfl (hb hby at_170) rfl ?_
      show oP p e below T52 (mkF m 171 #[oI p0, oR b6, oI (1 : Int32), oU, oU, oU, oU] [(.int (1 : Int32)), (.ref b6)]) _
      refine own_aaload X52 hx hZ e52 V52 rfl (j := (1 : Int32)) ⟨by decide, by decide⟩ (v := (.ref (a_STRING_NOT_EQUALS Z))) rfl (g := (mkF m 171 #[oI p0, oR b6, oI (1 : Int32), oU, oU, oU, oU] [(.int (1 : Int32)), (.ref b6)])) rfl rfl (hb hby at_171) _ ?_
      show oP p e below T52 (mkF m 172 #[oI p0, oR b6, oI (1 : Int32), oU, oU, oU, oU] [(.ref (a_STRING_NOT_EQUALS Z))]) _
      refine XS.astoreN X52.here hx rfl (hb hby at_172) rfl rfl (l' := #[oI p0, oR b6, oI (1 : Int32), oR (a_STRING_NOT_EQUALS Z), oU, oU, oU]) rfl ?_
      show oP p e below T52 (mkF m 173 #[oI p0, oR b6, oI (1 : Int32), oR (a_STRING_NOT_EQUALS Z), oU, oU, oU] []) _
      refine XS.iloadN X52.here hx rfl (hb hby at_173) rfl ?_
      show oP p e below T52 (mkF m 174 #[oI p0, oR b6, oI (1 : Int32), oR (a_STRING_NOT_EQUALS Z), oU, oU, oU] [(.int (1 : Int32))]) _
      refine XS.iconst X52.here hx rfl (hb hby at_174) ?_
      show oP p e below T52 (mkF m 175 #[oI p0, oR b6, oI (1 : Int32), oR (a_STRING_NOT_EQUALS Z), oU, oU, oU] [(.int (1 : Int32)), (.int (1 : Int32))]) _
      refine XS.icmpYes X52.here hx rfl (pc0 := 175) (pc' := 212) rfl (hb hby at_175) rfl (teq (by decide : (1 : Int32) = (1 : Int32))).1 (by decide) (by decide) ?_
      show oP p e below T52 (mkF m 212 #[oI p0, oR b6, oI (1 : Int32), oR (a_STRING_NOT_EQUALS Z), oU, oU, oU] []) _
      refine XS.iconst X52.here hx rfl (hb hby at_212) ?_
      show oP p e below T52 (mkF m 213 #[oI p0, oR b6, oI (1 : Int32), oR (a_STRING_NOT_EQUALS Z), oU, oU, oU] [(.int (1 : Int32))]) _
      refine XS.goto X52.here hx rfl (pc0 := 213) (pc' := 217) rfl (hb hby at_213) (by decide) (by decide) ?_
      show oP p e below T52 (mkF m 217 #[oI p0, oR b6, oI (1 : Int32), oR (a_STRING_NOT_EQUALS Z), oU, oU, oU] [(.int (1 : Int32))]) _
      refine XS.istore X52.here hx rfl (hb hby at_217) rfl (l' := #[oI p0, oR b6, oI (1 : Int32), oR (a_STRING_NOT_EQUALS Z), oI (1 : Int32), oU, oU]) rfl ?_
      show oP p e below T52 (mkF m 219 #[oI p0, oR b6, oI (1 : Int32), oR (a_STRING_NOT_EQUALS Z), oI (1 : Int32), oU, oU] []) _
      refine XS.aloadN X52.here hx rfl (hb hby at_219) rfl rfl ?_
      show oP p e below T52 (mkF m 220 #[oI p0, oR b6, oI (1 : Int32), oR (a_STRING_NOT_EQUALS Z), oI (1 : Int32), oU, oU] [(.ref (a_STRING_NOT_EQUALS Z))]) _
      refine st59.trans ?_
      show oP p e below T59 (mkF m 223 #[oI p0, oR b6, oI (1 : Int32), oR (a_STRING_NOT_EQUALS Z), oI (1 : Int32), oU, oU] [(.int (1 : Int32))]) _
      refine XS.istore X59.here hx rfl (hb hby at_223) rfl (l' := #[oI p0, oR b6, oI (1 : Int32), oR (a_STRING_NOT_EQUALS Z), oI (1 : Int32), oI (1 : Int32), oU]) rfl ?_
      show oP p e below T59 (mkF m 225 #[oI p0, oR b6, oI (1 : Int32), oR (a_STRING_NOT_EQUALS Z), oI (1 : Int32), oI (1 : Int32), oU] []) _
      refine XS.aloadN X59.here hx rfl (hb hby at_225) rfl rfl ?_
      show oP p e below T59 (mkF m 226 #[oI p0, oR b6, oI (1 : Int32), oR (a_STRING_NOT_EQUALS Z), oI (1 : Int32), oI (1 : Int32), oU] [(.ref (a_STRING_NOT_EQUALS Z))]) _
      refine st60.trans ?_
      show oP p e below T60 (mkF m 229 #[oI p0, oR b6, oI (1 : Int32), oR (a_STRING_NOT_EQUALS Z), oI (1 : Int32), oI (1 : Int32), oU] [(.ref (a_STRING_EQUALS Z))]) _
      refine XS.astore X60.here hx rfl (hb hby at_229) rfl rfl (l' := #[oI p0, oR b6, oI (1 : Int32), oR (a_STRING_NOT_EQUALS Z), oI (1 : Int32), oI (1 : Int32), oR (a_STRING_EQUALS Z)]) rfl ?_
      show oP p e below T60 (mkF m 231 #[oI p0, oR b6, oI (1 : Int32), oR (a_STRING_NOT_EQUALS Z), oI (1 : Int32), oI (1 : Int32), oR (a_STRING_EQUALS Z)] []) _
      refine XS.iload X60.here hx rfl (hb hby at_231) rfl ?_
      show oP p e below T60 (mkF m 233 #[oI p0, oR b6, oI (1 : Int32), oR (a_STRING_NOT_EQUALS Z), oI (1 : Int32), oI (1 : Int32), oR (a_STRING_EQUALS Z)] [(.int (1 : Int32))]) _
      refine XS.iload X60.here hx rfl (hb hby at_233) rfl ?_
      show oP p e below T60 (mkF m 235 #[oI p0, oR b6, oI (1 : Int32), oR (a_STRING_NOT_EQUALS Z), oI (1 : Int32), oI (1 : Int32), oR (a_STRING_EQUALS Z)] [(.int (1 : Int32)), (.int (1 : Int32))]) _
      refine XS.icmpNo X60.here hx rfl (hb hby at_235) rfl (teq (by decide : (1 : Int32) = (1 : Int32))).2 ?_
      show oP p e below T60 (mkF m 238 #[oI p0, oR b6, oI (1 : Int32), oR (a_STRING_NOT_EQUALS Z), oI (1 : Int32), oI (1 : Int32), oR (a_STRING_EQUALS Z)] []) _
      refine XS.iload X60.here hx rfl (hb hby at_238) rfl ?_
      show oP p e below T60 (mkF m 240 #[oI p0, oR b6, oI (1 : Int32), oR (a_STRING_NOT_EQUALS Z), oI (1 : Int32), oI (1 : Int32), oR (a_STRING_EQUALS Z)] [(.int (1 : Int32))]) _
      refine XS.aload X60.here hx rfl (hb hby at_240) rfl rfl ?_
      show oP p e below T60 (mkF m 242 #[oI p0, oR b6, oI (1 : Int32), oR (a_STRING_NOT_EQUALS Z), oI (1 : Int32), oI (1 : Int32), oR (a_STRING_EQUALS Z)] [(.ref (a_STRING_EQUALS Z)), (.int (1 : Int32))]) _
      refine XS.aloadN X60.here hx rfl (hb hby at_242) rfl rfl ?_
      show oP p e below T60 (mkF m 243 #[oI p0, oR b6, oI (1 : Int32), oR (a_STRING_NOT_EQUALS Z), oI (1 : Int32), oI (1 : Int32), oR (a_STRING_EQUALS Z)] [(.ref (a_STRING_NOT_EQUALS Z)), (.ref (a_STRING_EQUALS Z)), (.int (1 : Int32))]) _
      refine Jvm.RoadKit.acmp (g := (mkF m 243 #[oI p0, oR b6, oI (1 : Int32), oR (a_STRING_NOT_EQUALS Z), oI (1 : Int32), oI (1 : Int32), oR (a_STRING_EQUALS Z)] [(.ref (a_STRING_NOT_EQUALS Z)), (.ref (a_STRING_EQUALS Z)), (.int (1 : Int32))])) X60 hx rfl rfl rfl (pc0 := 243) (pc' := 246) (same := false) rfl (hb hby at_243) rfl (decide_eq_false fun q => ((f_a_STRING_EQUALS_ordinal hS).ne (f_a_STRING_NOT_EQUALS_ordinal hS) (by decide)) (Value.ref.inj q)) (by decide) (by decide) ?_
      show oP p e below T60 (mkF m 246 #[oI p0, oR b6, oI (1 : Int32), oR (a_STRING_NOT_EQUALS Z), oI (1 : Int32), oI (1 : Int32), oR (a_STRING_EQUALS Z)] [(.int (1 : Int32))]) _
      refine XS.iconst X60.here hx rfl (hb hby at_246) ?_
      show oP p e below T60 (mkF m 247 #[oI p0, oR b6, oI (1 : Int32), oR (a_STRING_NOT_EQUALS Z), oI (1 : Int32), oI (1 : Int32), oR (a_STRING_EQUALS Z)] [(.int (1 : Int32)), (.int (1 : Int32))]) _
      refine XS.goto X60.here hx rfl (pc0 := 247) (pc' := 251) rfl (hb hby at_247) (by decide) (by decide) ?_
      show oP p e below T60 (mkF m 251 #[oI p0, oR b6, oI (1 : Int32), oR (a_STRING_NOT_EQUALS Z), oI (1 : Int32), oI (1 : Int32), oR (a_STRING_EQUALS Z)] [(.int (1 : Int32)), (.int (1 : Int32))]) _
      refine XS.icmpNo X60.here hx rfl (hb hby at_251) rfl (teq (by decide : (1 : Int32) = (1 : Int32))).2 ?_
      show oP p e below T60 (mkF m 254 #[oI p0, oR b6, oI (1 : Int32), oR (a_STRING_NOT_EQUALS Z), oI (1 : Int32), oI (1 : Int32), oR (a_STRING_EQUALS Z)] []) _
      refine XS.aload X60.here hx rfl (hb hby at_254) rfl rfl ?_
      show oP p e below T60 (mkF m 256 #[oI p0, oR b6, oI (1 : Int32), oR (a_STRING_NOT_EQUALS Z), oI (1 : Int32), oI (1 : Int32), oR (a_STRING_EQUALS Z)] [(.ref (a_STRING_EQUALS Z))]) _
      refine st61.trans ?_
      show oP p e below T61 (mkF m 259 #[oI p0, oR b6, oI (1 : Int32), oR (a_STRING_NOT_EQUALS Z), oI (1 : Int32), oI (1 : Int32), oR (a_STRING_EQUALS Z)] [(.int (0 : Int32))]) _
      refine XS.ifNo X61.here hx rfl (hb hby at_259) rfl ((if0 _ _).trans (teq (by decide : (0 : Int32) = (0 : Int32))).2) ?_
      show oP p e below T61 (mkF m 262 #[oI p0, oR b6, oI (1 : Int32), oR (a_STRING_NOT_EQUALS Z), oI (1 : Int32), oI (1 : Int32), oR (a_STRING_EQUALS Z)] []) _
      refine XS.iconst X61.here hx rfl (hb hby at_262) ?_
      show oP p e below T61 (mkF m 263 #[oI p0, oR b6, oI (1 : Int32), oR (a_STRING_NOT_EQUALS Z), oI (1 : Int32), oI (1 : Int32), oR (a_STRING_EQUALS Z)] [(.int (1 : Int32))]) _
      refine XS.goto X61.here hx rfl (pc0 := 263) (pc' := 267) rfl (hb hby at_263) (by decide) (by decide) ?_
      show oP p e below T61 (mkF m 267 #[oI p0, oR b6, oI (1 : Int32), oR (a_STRING_NOT_EQUALS Z), oI (1 : Int32), oI (1 : Int32), oR (a_STRING_EQUALS Z)] [(.int (1 : Int32))]) _
      exact retN X61 hx (t := .boolean) Bd.returns (by simp) (hb hby at_267) hr
    · show (some (.int (1 : Int32)) : Option Value) = some (.int (1 : Int32)) ∧ Fr n0 _ ∧ Keep h0 T61.heap []
      exact ⟨rfl, N61, Kc61⟩
  · obtain ⟨lo62, X62, N62⟩ := own_hide X52 N52
    obtain ⟨cq63, kq63, q63a, q63b, q63c⟩ := isOf hZ e52 ((e_a_NOT_STRING_EQUALS hS).ext O52.2)
    obtain ⟨_, _, ⟨T63, L63, k63, n63⟩, -, X63, ⟨Lc63, hQ63, l63, y63, z63⟩, st63⟩ := X62.virtualBack hx (y := (⟨"com/example/menshen/menshen/policy/ConditionOperator", "isNegated", "()Z"⟩ : MethodName)) (z := (⟨"com/example/menshen/menshen/policy/ConditionOperator", "isNegated", "()Z"⟩ : MethodName)) hown (mvT hZ (hw _ (List.mem_of_getElem? (i := 51) rfl))) (mvT hZ (hw _ (List.mem_of_getElem? (i := 52) rfl))) (notFace_of_selects (args := #[]) (mvT hZ (hw _ (List.mem_of_getElem? (i := 54) rfl)))) (mvT hZ (hw _ (List.mem_of_getElem? (i := 54) rfl))) (mvT hZ (hw _ (List.mem_of_getElem? (i := 53) rfl))) (by decide) (backOf (W := 0) (rm1r l Z a0 hw hS [] (a_NOT_STRING_EQUALS Z) (a_STRING_EQUALS Z) h52 n0 O52 ((f_a_NOT_STRING_EQUALS_negationOf hS).ext O52.2)) hZ (hw _ (List.mem_of_getElem? (i := 55) rfl)) (hw _ (List.mem_of_getElem? (i := 3) rfl)) (by decide) (by decide)) q63a q63c (g := (mkF m 220 #[oI p0, oR b6, oI (2 : Int32), oR (a_NOT_STRING_EQUALS Z), oI (1 : Int32), oU, oU] [(.ref (a_NOT_STRING_EQUALS Z))])) rfl (by rw [hml]; rfl) (Steps.refl _) (argsL := []) (rest := []) (lenOf pd_0 rfl) rfl (by show 2 * 0 + _ ≤ _; exact Nat.le_of_eq rfl) (hb hby at_220) (fun _ _ => ⟨rfl, e52, (by decide : 1 + 0 ≤ _), (by decide : 23 + 0 ≤ _)⟩)
    dsimp only [Pt.U, Pt.locs, Pt.cells, Pt.slots] at X63 l63 y63 z63 st63 hQ63
    subst l63 y63 z63
    obtain ⟨v63, N63q, K63q⟩ := hQ63
    have w63 : (fn1r Z (a_NOT_STRING_EQUALS Z) (a_STRING_EQUALS Z)) = (1 : Int32) := rfl
    rw [w63] at v63
    subst v63
    have N63 := Fr.app N62 N63q
    have O63 := O52.keep K63q all0
    have Kc63 := Kc52.trans K63q all0
    obtain ⟨cq64, kq64, q64a, q64b, q64c⟩ := isOf hZ rfl ((e_a_NOT_STRING_EQUALS hS).ext O63.2)
    obtain ⟨_, _, ⟨T64, L64, k64, n64⟩, -, X64, ⟨Lc64, hQ64, l64, y64, z64⟩, st64⟩ := X63.virtualBack hx (y := (⟨"com/example/menshen/menshen/policy/ConditionOperator", "positive", "()Lcom/example/menshen/menshen/policy/ConditionOperator;"⟩ : MethodName)) (z := (⟨"com/example/menshen/menshen/policy/ConditionOperator", "positive", "()Lcom/example/menshen/menshen/policy/ConditionOperator;"⟩ : MethodName)) hown (mvT hZ (hw _ (List.mem_of_getElem? (i := 58) rfl))) (mvT hZ (hw _ (List.mem_of_getElem? (i := 59) rfl))) (notFace_of_selects (args := #[]) (mvT hZ (hw _ (List.mem_of_getElem? (i := 61) rfl)))) (mvT hZ (hw _ (List.mem_of_getElem? (i := 61) rfl))) (mvT hZ (hw _ (List.mem_of_getElem? (i := 60) rfl))) (by decide) (backOf (W := 0) (rm2r l Z a0 hw hS [] (a_NOT_STRING_EQUALS Z) (a_STRING_EQUALS Z) T63.heap n0 O63 ((f_a_NOT_STRING_EQUALS_negationOf hS).ext O63.2)) hZ (hw _ (List.mem_of_getElem? (i := 62) rfl)) (hw _ (List.mem_of_getElem? (i := 3) rfl)) (by decide) (by decide)) q64a q64c (g := (mkF m 226 #[oI p0, oR b6, oI (2 : Int32), oR (a_NOT_STRING_EQUALS Z), oI (1 : Int32), oI (1 : Int32), oU] [(.ref (a_NOT_STRING_EQUALS Z))])) rfl (by rw [hml]; rfl) (Steps.refl _) (argsL := []) (rest := []) (lenOf pd_1 rfl) rfl (by show 2 * 0 + _ ≤ _; exact Nat.le_of_eq rfl) (hb hby at_226) (fun _ _ => ⟨rfl, rfl, (by decide : 1 + 0 ≤ _), (by decide : 23 + 0 ≤ _)⟩)
    dsimp only [Pt.U, Pt.locs, Pt.cells, Pt.slots] at X64 l64 y64 z64 st64 hQ64
    subst l64 y64 z64
    obtain ⟨v64, N64q, K64q⟩ := hQ64
    have w64 : (fn2r Z (a_NOT_STRING_EQUALS Z) (a_STRING_EQUALS Z)) = (a_STRING_EQUALS Z) := rfl
    rw [w64] at v64
    subst v64
    have N64 := Fr.app N63 N64q
    have O64 := O63.keep K64q all0
    have Kc64 := Kc63.trans K64q all0
    obtain ⟨cq65, kq65, q65a, q65b, q65c⟩ := isOf hZ rfl ((e_a_STRING_EQUALS hS).ext O64.2)
    obtain ⟨_, _, ⟨T65, L65, k65, n65⟩, -, X65, ⟨Lc65, hQ65, l65, y65, z65⟩, st65⟩ := X64.virtualBack hx (y := (⟨"com/example/menshen/menshen/policy/ConditionOperator", "isNegated", "()Z"⟩ : MethodName)) (z := (⟨"com/example/menshen/menshen/policy/ConditionOperator", "isNegated", "()Z"⟩ : MethodName)) hown (mvT hZ (hw _ (List.mem_of_getElem? (i := 51) rfl))) (mvT hZ (hw _ (List.mem_of_getElem? (i := 52) rfl))) (notFace_of_selects (args := #[]) (mvT hZ (hw _ (List.mem_of_getElem? (i := 54) rfl)))) (mvT hZ (hw _ (List.mem_of_getElem? (i := 54) rfl))) (mvT hZ (hw _ (List.mem_of_getElem? (i := 53) rfl))) (by decide) (backOf (W := 0) (rm1n l Z a0 hw hS [] (a_STRING_EQUALS Z) T64.heap n0 O64 ((f_a_STRING_EQUALS_negationOf hS).ext O64.2)) hZ (hw _ (List.mem_of_getElem? (i := 55) rfl)) (hw _ (List.mem_of_getElem? (i := 3) rfl)) (by decide) (by decide)) q65a q65c (g := (mkF m 256 #[oI p0, oR b6, oI (2 : Int32), oR (a_NOT_STRING_EQUALS Z), oI (1 : Int32), oI (1 : Int32), oR (a_STRING_EQUALS Z)] [(.ref (a_STRING_EQUALS Z))])) rfl (by rw [hml]; rfl) (Steps.refl _) (argsL := []) (rest := []) (lenOf pd_0 rfl) rfl (by show 2 * 0 + _ ≤ _; exact Nat.le_of_eq rfl) (hb hby at_256) (fun _ _ => ⟨rfl, rfl, (by decide : 1 + 0 ≤ _), (by decide : 23 + 0 ≤ _)⟩)
    dsimp only [Pt.U, Pt.locs, Pt.cells, Pt.slots] at X65 l65 y65 z65 st65 hQ65
    subst l65 y65 z65
    obtain ⟨v65, N65q, K65q⟩ := hQ65
    have w65 : (fn1n Z (a_STRING_EQUALS Z)) = (0 : Int32) := rfl
    rw [w65] at v65
    subst v65
    have N65 := Fr.app N64 N65q
    have O65 := O64.keep K65q all0
    have Kc65 := Kc64.trans K65q all0
    obtain ⟨fs, hr, hrun, hended, hW, hsame⟩ := X65.leave (v := some (.int (1 : Int32))) (fun h => by rw [Bd.returns] at h; cases h)
    refine ⟨_, _, pre53 _ ?_, hrun, hended, _, _, rfl, ?_, ⟨_, rfl⟩, hW, hsame.mono (by decide) (by decide)⟩
    · show oP p e below T52 (mkF m 168 #[oI p0, oR b6, oU, oU, oU, oU, oU] [(.int (2 : Int32))]) _
      refine XS.istoreN X52.here hx rfl (hb hby at_168) rfl (l' := #[oI p0, oR b6, oI (2 : Int32), oU, oU, oU, oU]) rfl ?_
      show oP p e below T52 (mkF m 169 #[oI p0, oR b6, oI (2 : Int32), oU, oU, oU, oU] []) _
      refine XS.aloadN X52.here hx rfl (hb hby at_169) rfl rfl ?_
      show oP p e below T52 (mkF m 170 #[oI p0, oR b6, oI (2 : Int32), oU, oU, oU, oU] [(.ref b6)]) _
      refine XS.iloadN X52.here hx rfl (hb hby at_170) rfl ?_
      show oP p e below T52 (mkF m 171 #[oI p0, oR b6, oI (2 : Int32), oU, oU, oU, oU] [(.int (2 : Int32)), (.ref b6)]) _
      refine own_aaload X52 hx hZ e52 V52 rfl (j := (2 : Int32)) ⟨by decide, by decide⟩ (v := (.ref (a_NOT_STRING_EQUALS Z))) rfl (g := (mkF m 171 #[oI p0, oR b6, oI (2 : Int32), oU, oU, oU, oU] [(.int (2 : Int32)), (.ref b6)])) rfl rfl (hb hby at_171) _ ?_
      show oP p e below T52 (mkF m 172 #[oI p0, oR b6, oI (2 : Int32), oU, oU, oU, oU] [(.ref (a_NOT_STRING_EQUALS Z))]) _
      refine XS.astoreN X52.here hx rfl (hb hby at_172) rfl rfl (l' := #[oI p0, oR b6, oI (2 : Int32), oR (a_NOT_STRING_EQUALS Z), oU, oU, oU]) rfl ?_
      show oP p e below T52 (mkF m 173 #[oI p0, oR b6, oI (2 : Int32), oR (a_NOT_STRING_EQUALS Z), oU, oU, oU] []) _
      refine XS.iloadN X52.here hx rfl (hb hby at_173) rfl ?_
      show oP p e below T52 (mkF m 174 #[oI p0, oR b6, oI (2 : Int32), oR (a_NOT_STRING_EQUALS Z), oU, oU, oU] [(.int (2 : Int32))]) _
      refine XS.iconst X52.here hx rfl (hb hby at_174) ?_
      show oP p e below T52 (mkF m 175 #[oI p0, oR b6, oI (2 : Int32), oR (a_NOT_STRING_EQUALS Z), oU, oU, oU] [(.int (1 : Int32)), (.int (2 : Int32))]) _
      refine XS.icmpNo X52.here hx rfl (hb hby at_175) rfl (feq (by decide : ¬ ((2 : Int32) = (1 : Int32)))).1 ?_
      show oP p e below T52 (mkF m 178 #[oI p0, oR b6, oI (2 : Int32), oR (a_NOT_STRING_EQUALS Z), oU, oU, oU] []) _
      refine XS.iloadN X52.here hx rfl (hb hby at_178) rfl ?_
      show oP p e below T52 (mkF m 179 #[oI p0, oR b6, oI (2 : Int32), oR (a_NOT_STRING_EQUALS Z), oU, oU, oU] [(.int (2 : Int32))]) _
      refine XS.iconst X52.here hx rfl (hb hby at_179) ?_
      show oP p e below T52 (mkF m 180 #[oI p0, oR b6, oI (2 : Int32), oR (a_NOT_STRING_EQUALS Z), oU, oU, oU] [(.int (2 : Int32)), (.int (2 : Int32))]) _
      refine XS.icmpYes X52.here hx rfl (pc0 := 180) (pc' := 212) rfl (hb hby at_180) rfl (teq (by decide : (2 : Int32) = (2 : Int32))).1 (by decide) (by decide) ?_
      show oP p e below T52 (mkF m 212 #[oI p0, oR b6, oI (2 : Int32), oR (a_NOT_STRING_EQUALS Z), oU, oU, oU] []) _
      refine XS.iconst X52.here hx rfl (hb hby at_212) ?_
      show oP p e below T52 (mkF m 213 #[oI p0, oR b6, oI (2 : Int32), oR (a_NOT_STRING_EQUALS Z), oU, oU, oU] [(.int (1 : Int32))]) _
      refine XS.goto X52.here hx rfl (pc0 := 213) (pc' := 217) rfl (hb hby at_213) (by decide) (by decide) ?_
      show oP p e below T52 (mkF m 217 #[oI p0, oR b6, oI (2 : Int32), oR (a_NOT_STRING_EQUALS Z), oU, oU, oU] [(.int (1 : Int32))]) _
      refine XS.istore X52.here hx rfl (hb hby at_217) rfl (l' := #[oI p0, oR b6, oI (2 : Int32), oR (a_NOT_STRING_EQUALS Z), oI (1 : Int32), oU, oU]) rfl ?_
      show oP p e below T52 (mkF m 219 #[oI p0, oR b6, oI (2 : Int32), oR (a_NOT_STRING_EQUALS Z), oI (1 : Int32), oU, oU] []) _
      refine XS.aloadN X52.here hx rfl (hb hby at_219) rfl rfl ?_
      show oP p e below T52 (mkF m 220 #[oI p0, oR b6, oI (2 : Int32), oR (a_NOT_STRING_EQUALS Z), oI (1 : Int32), oU, oU] [(.ref (a_NOT_STRING_EQUALS Z))]) _
      refine st63.trans ?_
      show oP p e below T63 (mkF m 223 #[oI p0, oR b6, oI (2 : Int32), oR (a_NOT_STRING_EQUALS Z), oI (1 : Int32), oU, oU] [(.int (1 : Int32))]) _
      refine XS.istore X63.here hx rfl (hb hby at_223) rfl (l' := #[oI p0, oR b6, oI (2 : Int32), oR (a_NOT_STRING_EQUALS Z), oI (1 : Int32), oI (1 : Int32), oU]) rfl ?_
      show oP p e below T63 (mkF m 225 #[oI p0, oR b6, oI (2 : Int32), oR (a_NOT_STRING_EQUALS Z), oI (1 : Int32), oI (1 : Int32), oU] []) _
      refine XS.aloadN X63.here hx rfl (hb hby at_225) rfl rfl ?_
      show oP p e below T63 (mkF m 226 #[oI p0, oR b6, oI (2 : Int32), oR (a_NOT_STRING_EQUALS Z), oI (1 : Int32), oI (1 : Int32), oU] [(.ref (a_NOT_STRING_EQUALS Z))]) _
      refine st64.trans ?_
      show oP p e below T64 (mkF m 229 #[oI p0, oR b6, oI (2 : Int32), oR (a_NOT_STRING_EQUALS Z), oI (1 : Int32), oI (1 : Int32), oU] [(.ref (a_STRING_EQUALS Z))]) _
      refine XS.astore X64.here hx rfl (hb hby at_229) rfl rfl (l' := #[oI p0, oR b6, oI (2 : Int32), oR (a_NOT_STRING_EQUALS Z), oI (1 : Int32), oI (1 : Int32), oR (a_STRING_EQUALS Z)]) rfl ?_
      show oP p e below T64 (mkF m 231 #[oI p0, oR b6, oI (2 : Int32), oR (a_NOT_STRING_EQUALS Z), oI (1 : Int32), oI (1 : Int32), oR (a_STRING_EQUALS Z)] []) _
      refine XS.iload X64.here hx rfl (hb hby at_231) rfl ?_
      show oP p e below T64 (mkF m 233 #[oI p0, oR b6, oI (2 : Int32), oR (a_NOT_STRING_EQUALS Z), oI (1 : Int32), oI (1 : Int32), oR (a_STRING_EQUALS Z)] [(.int (1 : Int32))]) _
      refine XS.iload X64.here hx rfl (hb hby at_233) rfl ?_
      show oP p e below T64 (mkF m 235 #[oI p0, oR b6, oI (2 : Int32), oR (a_NOT_STRING_EQUALS Z), oI (1 : Int32), oI (1 : Int32), oR (a_STRING_EQUALS Z)] [(.int (1 : Int32)), (.int (1 : Int32))]) _
      refine XS.icmpNo X64.here hx rfl (hb hby at_235) rfl (teq (by decide : (1 : Int32) = (1 : Int32))).2 ?_
      show oP p e below T64 (mkF m 238 #[oI p0, oR b6, oI (2 : Int32), oR (a_NOT_STRING_EQUALS Z), oI (1 : Int32), oI (1 : Int32), oR (a_STRING_EQUALS Z)] []) _
      refine XS.iload X64.here hx rfl (hb hby at_238) rfl ?_
      show oP p e below T64 (mkF m 240 #[oI p0, oR b6, oI (2 : Int32), oR (a_NOT_STRING_EQUALS Z), oI (1 : Int32), oI (1 : Int32), oR (a_STRING_EQUALS Z)] [(.int (1 : Int32))]) _
      refine XS.aload X64.here hx rfl (hb hby at_240) rfl rfl ?_
      show oP p e below T64 (mkF m 242 #[oI p0, oR b6, oI (2 : Int32), oR (a_NOT_STRING_EQUALS Z), oI (1 : Int32), oI (1 : Int32), oR (a_STRING_EQUALS Z)] [(.ref (a_STRING_EQUALS Z)), (.int (1 : Int32))]) _
      refine XS.aloadN X64.here hx rfl (hb hby at_242) rfl rfl ?_
      show oP p e below T64 (mkF m 243 #[oI p0, oR b6, oI (2 : Int32), oR (a_NOT_STRING_EQUALS Z), oI (1 : Int32), oI (1 : Int32), oR (a_STRING_EQUALS Z)] [(.ref (a_NOT_STRING_EQUALS Z)), (.ref (a_STRING_EQUALS Z)), (.int (1 : Int32))]) _
      refine Jvm.RoadKit.acmp (g := (mkF m 243 #[oI p0, oR b6, oI (2 : Int32), oR (a_NOT_STRING_EQUALS Z), oI (1 : Int32), oI (1 : Int32), oR (a_STRING_EQUALS Z)] [(.ref (a_NOT_STRING_EQUALS Z)), (.ref (a_STRING_EQUALS Z)), (.int (1 : Int32))])) X64 hx rfl rfl rfl (pc0 := 243) (pc' := 246) (same := false) rfl (hb hby at_243) rfl (decide_eq_false fun q => ((f_a_STRING_EQUALS_ordinal hS).ne (f_a_NOT_STRING_EQUALS_ordinal hS) (by decide)) (Value.ref.inj q)) (by decide) (by decide) ?_
      show oP p e below T64 (mkF m 246 #[oI p0, oR b6, oI (2 : Int32), oR (a_NOT_STRING_EQUALS Z), oI (1 : Int32), oI (1 : Int32), oR (a_STRING_EQUALS Z)] [(.int (1 : Int32))]) _
      refine XS.iconst X64.here hx rfl (hb hby at_246) ?_
      show oP p e below T64 (mkF m 247 #[oI p0, oR b6, oI (2 : Int32), oR (a_NOT_STRING_EQUALS Z), oI (1 : Int32), oI (1 : Int32), oR (a_STRING_EQUALS Z)] [(.int (1 : Int32)), (.int (1 : Int32))]) _
      refine XS.goto X64.here hx rfl (pc0 := 247) (pc' := 251) rfl (hb hby at_247) (by decide) (by decide) ?_
      show oP p e below T64 (mkF m 251 #[oI p0, oR b6, oI (2 : Int32), oR (a_NOT_STRING_EQUALS Z), oI (1 : Int32), oI (1 : Int32), oR (a_STRING_EQUALS Z)] [(.int (1 : Int32)), (.int (1 : Int32))]) _
      refine XS.icmpNo X64.here hx rfl (hb hby at_251) rfl (teq (by decide : (1 : Int32) = (1 : Int32))).2 ?_
      show oP p e below T64 (mkF m 254 #[oI p0, oR b6, oI (2 : Int32), oR (a_NOT_STRING_EQUALS Z), oI (1 : Int32), oI (1 : Int32), oR (a_STRING_EQUALS Z)] []) _
      refine XS.aload X64.here hx rfl (hb hby at_254) rfl rfl ?_
      show oP p e below T64 (mkF m 256 #[oI p0, oR b6, oI (2 : Int32), oR (a_NOT_STRING_EQUALS Z), oI (1 : Int32), oI (1 : Int32), oR (a_STRING_EQUALS Z)] [(.ref (a_STRING_EQUALS Z))]) _
      refine st65.trans ?_
      show oP p e below T65 (mkF m 259 #[oI p0, oR b6, oI (2 : Int32), oR (a_NOT_STRING_EQUALS Z), oI (1 : Int32), oI (1 : Int32), oR (a_STRING_EQUALS Z)] [(.int (0 : Int32))]) _
      refine XS.ifNo X65.here hx rfl (hb hby at_259) rfl ((if0 _ _).trans (teq (by decide : (0 : Int32) = (0 : Int32))).2) ?_
      show oP p e below T65 (mkF m 262 #[oI p0, oR b6, oI (2 : Int32), oR (a_NOT_STRING_EQUALS Z), oI (1 : Int32), oI (1 : Int32), oR (a_STRING_EQUALS Z)] []) _
      refine XS.iconst X65.here hx rfl (hb hby at_262) ?_
      show oP p e below T65 (mkF m 263 #[oI p0, oR b6, oI (2 : Int32), oR (a_NOT_STRING_EQUALS Z), oI (1 : Int32), oI (1 : Int32), oR (a_STRING_EQUALS Z)] [(.int (1 : Int32))]) _
      refine XS.goto X65.here hx rfl (pc0 := 263) (pc' := 267) rfl (hb hby at_263) (by decide) (by decide) ?_
      show oP p e below T65 (mkF m 267 #[oI p0, oR b6, oI (2 : Int32), oR (a_NOT_STRING_EQUALS Z), oI (1 : Int32), oI (1 : Int32), oR (a_STRING_EQUALS Z)] [(.int (1 : Int32))]) _
      exact retN X65 hx (t := .boolean) Bd.returns (by simp) (hb hby at_267) hr
    · show (some (.int (1 : Int32)) : Option Value) = some (.int (1 : Int32)) ∧ Fr n0 _ ∧ Keep h0 T65.heap []
      exact ⟨rfl, N65, Kc65⟩
  · obtain ⟨lo66, X66, N66⟩ := own_hide X52 N52
    obtain ⟨cq67, kq67, q67a, q67b, q67c⟩ := isOf hZ e52 ((e_a_STRING_EQUALS_IGNORE_CASE hS).ext O52.2)
    obtain ⟨_, _, ⟨T67, L67, k67, n67⟩, -, X67, ⟨Lc67, hQ67, l67, y67, z67⟩, st67⟩ := X66.virtualBack hx (y := (⟨"com/example/menshen/menshen/policy/ConditionOperator", "isNegated", "()Z"⟩ : MethodName)) (z := (⟨"com/example/menshen/menshen/policy/ConditionOperator", "isNegated", "()Z"⟩ : MethodName)) hown (mvT hZ (hw _ (List.mem_of_getElem? (i := 51) rfl))) (mvT hZ (hw _ (List.mem_of_getElem? (i := 52) rfl))) (notFace_of_selects (args := #[]) (mvT hZ (hw _ (List.mem_of_getElem? (i := 54) rfl)))) (mvT hZ (hw _ (List.mem_of_getElem? (i := 54) rfl))) (mvT hZ (hw _ (List.mem_of_getElem? (i := 53) rfl))) (by decide) (backOf (W := 0) (rm1n l Z a0 hw hS [] (a_STRING_EQUALS_IGNORE_CASE Z) h52 n0 O52 ((f_a_STRING_EQUALS_IGNORE_CASE_negationOf hS).ext O52.2)) hZ (hw _ (List.mem_of_getElem? (i := 55) rfl)) (hw _ (List.mem_of_getElem? (i := 3) rfl)) (by decide) (by decide)) q67a q67c (g := (mkF m 220 #[oI p0, oR b6, oI (3 : Int32), oR (a_STRING_EQUALS_IGNORE_CASE Z), oI (0 : Int32), oU, oU] [(.ref (a_STRING_EQUALS_IGNORE_CASE Z))])) rfl (by rw [hml]; rfl) (Steps.refl _) (argsL := []) (rest := []) (lenOf pd_0 rfl) rfl (by show 2 * 0 + _ ≤ _; exact Nat.le_of_eq rfl) (hb hby at_220) (fun _ _ => ⟨rfl, e52, (by decide : 1 + 0 ≤ _), (by decide : 23 + 0 ≤ _)⟩)
    dsimp only [Pt.U, Pt.locs, Pt.cells, Pt.slots] at X67 l67 y67 z67 st67 hQ67
    subst l67 y67 z67
    obtain ⟨v67, N67q, K67q⟩ := hQ67
    have w67 : (fn1n Z (a_STRING_EQUALS_IGNORE_CASE Z)) = (0 : Int32) := rfl
    rw [w67] at v67
    subst v67
    have N67 := Fr.app N66 N67q
    have O67 := O52.keep K67q all0
    have Kc67 := Kc52.trans K67q all0
    obtain ⟨cq68, kq68, q68a, q68b, q68c⟩ := isOf hZ rfl ((e_a_STRING_EQUALS_IGNORE_CASE hS).ext O67.2)
    obtain ⟨_, _, ⟨T68, L68, k68, n68⟩, -, X68, ⟨Lc68, hQ68, l68, y68, z68⟩, st68⟩ := X67.virtualBack hx (y := (⟨"com/example/menshen/menshen/policy/ConditionOperator", "positive", "()Lcom/example/menshen/menshen/policy/ConditionOperator;"⟩ : MethodName)) (z := (⟨"com/example/menshen/menshen/policy/ConditionOperator", "positive", "()Lcom/example/menshen/menshen/policy/ConditionOperator;"⟩ : MethodName)) hown (mvT hZ (hw _ (List.mem_of_getElem? (i := 58) rfl))) (mvT hZ (hw _ (List.mem_of_getElem? (i := 59) rfl))) (notFace_of_selects (args := #[]) (mvT hZ (hw _ (List.mem_of_getElem? (i := 61) rfl)))) (mvT hZ (hw _ (List.mem_of_getElem? (i := 61) rfl))) (mvT hZ (hw _ (List.mem_of_getElem? (i := 60) rfl))) (by decide) (backOf (W := 0) (rm2n l Z a0 hw hS [] (a_STRING_EQUALS_IGNORE_CASE Z) T67.heap n0 O67 ((f_a_STRING_EQUALS_IGNORE_CASE_negationOf hS).ext O67.2)) hZ (hw _ (List.mem_of_getElem? (i := 62) rfl)) (hw _ (List.mem_of_getElem? (i := 3) rfl)) (by decide) (by decide)) q68a q68c (g := (mkF m 226 #[oI p0, oR b6, oI (3 : Int32), oR (a_STRING_EQUALS_IGNORE_CASE Z), oI (0 : Int32), oI (0 : Int32), oU] [(.ref (a_STRING_EQUALS_IGNORE_CASE Z))])) rfl (by rw [hml]; rfl) (Steps.refl _) (argsL := []) (rest := []) (lenOf pd_1 rfl) rfl (by show 2 * 0 + _ ≤ _; exact Nat.le_of_eq rfl) (hb hby at_226) (fun _ _ => ⟨rfl, rfl, (by decide : 1 + 0 ≤ _), (by decide : 23 + 0 ≤ _)⟩)
    dsimp only [Pt.U, Pt.locs, Pt.cells, Pt.slots] at X68 l68 y68 z68 st68 hQ68
    subst l68 y68 z68
    obtain ⟨v68, N68q, K68q⟩ := hQ68
    have w68 : (fn2n Z (a_STRING_EQUALS_IGNORE_CASE Z)) = (a_STRING_EQUALS_IGNORE_CASE Z) := rfl
    rw [w68] at v68
    subst v68
    have N68 := Fr.app N67 N68q
    have O68 := O67.keep K68q all0
    have Kc68 := Kc67.trans K68q all0
    obtain ⟨cq69, kq69, q69a, q69b, q69c⟩ := isOf hZ rfl ((e_a_STRING_EQUALS_IGNORE_CASE hS).ext O68.2)
    obtain ⟨_, _, ⟨T69, L69, k69, n69⟩, -, X69, ⟨Lc69, hQ69, l69, y69, z69⟩, st69⟩ := X68.virtualBack hx (y := (⟨"com/example/menshen/menshen/policy/ConditionOperator", "isNegated", "()Z"⟩ : MethodName)) (z := (⟨"com/example/menshen/menshen/policy/ConditionOperator", "isNegated", "()Z"⟩ : MethodName)) hown (mvT hZ (hw _ (List.mem_of_getElem? (i := 51) rfl))) (mvT hZ (hw _ (List.mem_of_getElem? (i := 52) rfl))) (notFace_of_selects (args := #[]) (mvT hZ (hw _ (List.mem_of_getElem? (i := 54) rfl)))) (mvT hZ (hw _ (List.mem_of_getElem? (i := 54) rfl))) (mvT hZ (hw _ (List.mem_of_getElem? (i := 53) rfl))) (by decide) (backOf (W := 0) (rm1n l Z a0 hw hS [] (a_STRING_EQUALS_IGNORE_CASE Z) T68.heap n0 O68 ((f_a_STRING_EQUALS_IGNORE_CASE_negationOf hS).ext O68.2)) hZ (hw _ (List.mem_of_getElem? (i := 55) rfl)) (hw _ (List.mem_of_getElem? (i := 3) rfl)) (by decide) (by decide)) q69a q69c (g := (mkF m 256 #[oI p0, oR b6, oI (3 : Int32), oR (a_STRING_EQUALS_IGNORE_CASE Z), oI (0 : Int32), oI (0 : Int32), oR (a_STRING_EQUALS_IGNORE_CASE Z)] [(.ref (a_STRING_EQUALS_IGNORE_CASE Z))])) rfl (by rw [hml]; rfl) (Steps.refl _) (argsL := []) (rest := []) (lenOf pd_0 rfl) rfl (by show 2 * 0 + _ ≤ _; exact Nat.le_of_eq rfl) (hb hby at_256) (fun _ _ => ⟨rfl, rfl, (by decide : 1 + 0 ≤ _), (by decide : 23 + 0 ≤ _)⟩)
    dsimp only [Pt.U, Pt.locs, Pt.cells, Pt.slots] at X69 l69 y69 z69 st69 hQ69
    subst l69 y69 z69
    obtain ⟨v69, N69q, K69q⟩ := hQ69
    have w69 : (fn1n Z (a_STRING_EQUALS_IGNORE_CASE Z)) = (0 : Int32) := rfl
    rw [w69] at v69
    subst v69
    have N69 := Fr.app N68 N69q
    have O69 := O68.keep K69q all0
    have Kc69 := Kc68.trans K69q all0
    obtain ⟨fs, hr, hrun, hended, hW, hsame⟩ := X69.leave (v := some (.int (1 : Int32))) (fun h => by rw [Bd.returns] at h; cases h)
    refine ⟨_, _, pre53 _ ?_, hrun, hended, _, _, rfl, ?_, ⟨_, rfl⟩, hW, hsame.mono (by decide) (by decide)⟩
    · show oP p e below T52 (mkF m 168 #[oI p0, oR b6, oU, oU, oU, oU, oU] [(.int (3 : Int32))]) _
      refine XS.istoreN X52.here hx rfl (hb hby at_168) rfl (l' := #[oI p0, oR b6, oI (3 : Int32), oU, oU, oU, oU]) rfl ?_
      show oP p e below T52 (mkF m 169 #[oI p0, oR b6, oI (3 : Int32), oU, oU, oU, oU] []) _
      refine XS.aloadN X52.here hx rfl (hb hby at_169) rfl rfl ?_
      show oP p e below T52 (mkF m 170 #[oI p0, oR b6, oI (3 : Int32), oU, oU, oU, oU] [(.ref b6)]) _
      refine XS.iloadN X52.here hx rfl (hb hby at_170) rfl ?_
      show oP p e below T52 (mkF m 171 #[oI p0, oR b6, oI (3 : Int32), oU, oU, oU, oU] [(.int (3 : Int32)), (.ref b6)]) _
      refine own_aaload X52 hx hZ e52 V52 rfl (j := (3 : Int32)) ⟨by decide, by decide⟩ (v := (.ref (a_STRING_EQUALS_IGNORE_CASE Z))) rfl (g := (mkF m 171 #[oI p0, oR b6, oI (3 : Int32), oU, oU, oU, oU] [(.int (3 : Int32)), (.ref b6)])) rfl rfl (hb hby at_171) _ ?_
      show oP p e below T52 (mkF m 172 #[oI p0, oR b6, oI (3 : Int32), oU, oU, oU, oU] [(.ref (a_STRING_EQUALS_IGNORE_CASE Z))]) _
      refine XS.astoreN X52.here hx rfl (hb hby at_172) rfl rfl (l' := #[oI p0, oR b6, oI (3 : Int32), oR (a_STRING_EQUALS_IGNORE_CASE Z), oU, oU, oU]) rfl ?_
      show oP p e below T52 (mkF m 173 #[oI p0, oR b6, oI (3 : Int32), oR (a_STRING_EQUALS_IGNORE_CASE Z), oU, oU, oU] []) _
      refine XS.iloadN X52.here hx rfl (hb hby at_173) rfl ?_
      show oP p e below T52 (mkF m 174 #[oI p0, oR b6, oI (3 : Int32), oR (a_STRING_EQUALS_IGNORE_CASE Z), oU, oU, oU] [(.int (3 : Int32))]) _
      refine XS.iconst X52.here hx rfl (hb hby at_174) ?_
      show oP p e below T52 (mkF m 175 #[oI p0, oR b6, oI (3 : Int32), oR (a_STRING_EQUALS_IGNORE_CASE Z), oU, oU, oU] [(.int (1 : Int32)), (.int (3 : Int32))]) _
      refine XS.icmpNo X52.here hx rfl (hb hby at_175) rfl (feq (by decide : ¬ ((3 : Int32) = (1 : Int32)))).1 ?_
      show oP p e below T52 (mkF m 178 #[oI p0, oR b6, oI (3 : Int32), oR (a_STRING_EQUALS_IGNORE_CASE Z), oU, oU, oU] []) _
      refine XS.iloadN X52.here hx rfl (hb hby at_178) rfl ?_
      show oP p e below T52 (mkF m 179 #[oI p0, oR b6, oI (3 : Int32), oR (a_STRING_EQUALS_IGNORE_CASE Z), oU, oU, oU] [(.int (3 : Int32))]) _
      refine XS.iconst X52.here hx rfl (hb hby at_179) ?_
      show oP p e below T52 (mkF m 180 #[oI p0, oR b6, oI (3 : Int32), oR (a_STRING_EQUALS_IGNORE_CASE Z), oU, oU, oU] [(.int (2 : Int32)), (.int (3 : Int32))]) _
      refine XS.icmpNo X52.here hx rfl (hb hby at_180) rfl (feq (by decide : ¬ ((3 : Int32) = (2 : Int32)))).1 ?_
      show oP p e below T52 (mkF m 183 #[oI p0, oR b6, oI (3 : Int32), oR (a_STRING_EQUALS_IGNORE_CASE Z), oU, oU, oU] []) _
      refine XS.iloadN X52.here hx rfl (hb hby at_183) rfl ?_
      show oP p e below T52 (mkF m 184 #[oI p0, oR b6, oI (3 : Int32), oR (a_STRING_EQUALS_IGNORE_CASE Z), oU, oU, oU] [(.int (3 : Int32))]) _
      refine XS.iconst X52.here hx rfl (hb hby at_184) ?_
      show oP p e below T52 (mkF m 185 #[oI p0, oR b6, oI (3 : Int32), oR (a_STRING_EQUALS_IGNORE_CASE Z), oU, oU, oU] [(.int (4 : Int32)), (.int (3 : Int32))]) _
      refine XS.icmpNo X52.here hx rfl (hb hby at_185) rfl (feq (by decide : ¬ ((3 : Int32) = (4 : Int32)))).1 ?_
      show oP p e below T52 (mkF m 188 #[oI p0, oR b6, oI (3 : Int32), oR (a_STRING_EQUALS_IGNORE_CASE Z), oU, oU, oU] []) _
      refine XS.iloadN X52.here hx rfl (hb hby at_188) rfl ?_
      show oP p e below T52 (mkF m 189 #[oI p0, oR b6, oI (3 : Int32), oR (a_STRING_EQUALS_IGNORE_CASE Z), oU, oU, oU] [(.int (3 : Int32))]) _
      refine XS.bipush X52.here hx rfl (hb hby at_189) ?_
      show oP p e below T52 (mkF m 191 #[oI p0, oR b6, oI (3 : Int32), oR (a_STRING_EQUALS_IGNORE_CASE Z), oU, oU, oU] [(.int (6 : Int32)), (.int (3 : Int32))]) _
      refine XS.icmpNo X52.here hx rfl (hb hby at_191) rfl (feq (by decide : ¬ ((3 : Int32) = (6 : Int32)))).1 ?_
      show oP p e below T52 (mkF m 194 #[oI p0, oR b6, oI (3 : Int32), oR (a_STRING_EQUALS_IGNORE_CASE Z), oU, oU, oU] []) _
      refine XS.iloadN X52.here hx rfl (hb hby at_194) rfl ?_
      show oP p e below T52 (mkF m 195 #[oI p0, oR b6, oI (3 : Int32), oR (a_STRING_EQUALS_IGNORE_CASE Z), oU, oU, oU] [(.int (3 : Int32))]) _
      refine XS.bipush X52.here hx rfl (hb hby at_195) ?_
      show oP p e below T52 (mkF m 197 #[oI p0, oR b6, oI (3 : Int32), oR (a_STRING_EQUALS_IGNORE_CASE Z), oU, oU, oU] [(.int (8 : Int32)), (.int (3 : Int32))]) _
      refine XS.icmpNo X52.here hx rfl (hb hby at_197) rfl (feq (by decide : ¬ ((3 : Int32) = (8 : Int32)))).1 ?_
      show oP p e below T52 (mkF m 200 #[oI p0, oR b6, oI (3 : Int32), oR (a_STRING_EQUALS_IGNORE_CASE Z), oU, oU, oU] []) _
      refine XS.iloadN X52.here hx rfl (hb hby at_200) rfl ?_
      show oP p e below T52 (mkF m 201 #[oI p0, oR b6, oI (3 : Int32), oR (a_STRING_EQUALS_IGNORE_CASE Z), oU, oU, oU] [(.int (3 : Int32))]) _
      refine XS.bipush X52.here hx rfl (hb hby at_201) ?_
      show oP p e below T52 (mkF m 203 #[oI p0, oR b6, oI (3 : Int32), oR (a_STRING_EQUALS_IGNORE_CASE Z), oU, oU, oU] [(.int (10 : Int32)), (.int (3 : Int32))]) _
      refine XS.icmpNo X52.here hx rfl (hb hby at_203) rfl (feq (by decide : ¬ ((3 : Int32) = (10 : Int32)))).1 ?_
      show oP p e below T52 (mkF m 206 #[oI p0, oR b6, oI (3 : Int32), oR (a_STRING_EQUALS_IGNORE_CASE Z), oU, oU, oU] []) _
      refine XS.iloadN X52.here hx rfl (hb hby at_206) rfl ?_
      show oP p e below T52 (mkF m 207 #[oI p0, oR b6, oI (3 : Int32), oR (a_STRING_EQUALS_IGNORE_CASE Z), oU, oU, oU] [(.int (3 : Int32))]) _
      refine XS.bipush X52.here hx rfl (hb hby at_207) ?_
      show oP p e below T52 (mkF m 209 #[oI p0, oR b6, oI (3 : Int32), oR (a_STRING_EQUALS_IGNORE_CASE Z), oU, oU, oU] [(.int (16 : Int32)), (.int (3 : Int32))]) _
      refine XS.icmpYes X52.here hx rfl (pc0 := 209) (pc' := 216) rfl (hb hby at_209) rfl (feq (by decide : ¬ ((3 : Int32) = (16 : Int32)))).2 (by decide) (by decide) ?_
      show oP p e below T52 (mkF m 216 #[oI p0, oR b6, oI (3 : Int32), oR (a_STRING_EQUALS_IGNORE_CASE Z), oU, oU, oU] []) _
      refine XS.iconst X52.here hx rfl (hb hby at_216) ?_
      show oP p e below T52 (mkF m 217 #[oI p0, oR b6, oI (3 : Int32), oR (a_STRING_EQUALS_IGNORE_CASE Z), oU, oU, oU] [(.int (0 : Int32))]) _
      refine XS.istore X52.here hx rfl (hb hby at_217) rfl (l' := #[oI p0, oR b6, oI (3 : Int32), oR (a_STRING_EQUALS_IGNORE_CASE Z), oI (0 : Int32), oU, oU]) rfl ?_
      show oP p e below T52 (mkF m 219 #[oI p0, oR b6, oI (3 : Int32), oR (a_STRING_EQUALS_IGNORE_CASE Z), oI (0 : Int32), oU, oU] []) _
      refine XS.aloadN X52.here hx rfl (hb hby at_219) rfl rfl ?_
      show oP p e below T52 (mkF m 220 #[oI p0, oR b6, oI (3 : Int32), oR (a_STRING_EQUALS_IGNORE_CASE Z), oI (0 : Int32), oU, oU] [(.ref (a_STRING_EQUALS_IGNORE_CASE Z))]) _
      refine st67.trans ?_
      show oP p e below T67 (mkF m 223 #[oI p0, oR b6, oI (3 : Int32), oR (a_STRING_EQUALS_IGNORE_CASE Z), oI (0 : Int32), oU, oU] [(.int (0 : Int32))]) _
      refine XS.istore X67.here hx rfl (hb hby at_223) rfl (l' := #[oI p0, oR b6, oI (3 : Int32), oR (a_STRING_EQUALS_IGNORE_CASE Z), oI (0 : Int32), oI (0 : Int32), oU]) rfl ?_
      show oP p e below T67 (mkF m 225 #[oI p0, oR b6, oI (3 : Int32), oR (a_STRING_EQUALS_IGNORE_CASE Z), oI (0 : Int32), oI (0 : Int32), oU] []) _
      refine XS.aloadN X67.here hx rfl (hb hby at_225) rfl rfl ?_
      show oP p e below T67 (mkF m 226 #[oI p0, oR b6, oI (3 : Int32), oR (a_STRING_EQUALS_IGNORE_CASE Z), oI (0 : Int32), oI (0 : Int32), oU] [(.ref (a_STRING_EQUALS_IGNORE_CASE Z))]) _
      refine st68.trans ?_
      show oP p e below T68 (mkF m 229 #[oI p0, oR b6, oI (3 : Int32), oR (a_STRING_EQUALS_IGNORE_CASE Z), oI (0 : Int32), oI (0 : Int32), oU] [(.ref (a_STRING_EQUALS_IGNORE_CASE Z))]) _
      refine XS.astore X68.here hx rfl (hb hby at_229) rfl rfl (l' := #[oI p0, oR b6, oI (3 : Int32), oR (a_STRING_EQUALS_IGNORE_CASE Z), oI (0 : Int32), oI (0 : Int32), oR (a_STRING_EQUALS_IGNORE_CASE Z)]) rfl ?_
      show oP p e below T68 (mkF m 231 #[oI p0, oR b6, oI (3 : Int32), oR (a_STRING_EQUALS_IGNORE_CASE Z), oI (0 : Int32), oI (0 : Int32), oR (a_STRING_EQUALS_IGNORE_CASE Z)] []) _
      refine XS.iload X68.here hx rfl (hb hby at_231) rfl ?_
      show oP p e below T68 (mkF m 233 #[oI p0, oR b6, oI (3 : Int32), oR (a_STRING_EQUALS_IGNORE_CASE Z), oI (0 : Int32), oI (0 : Int32), oR (a_STRING_EQUALS_IGNORE_CASE Z)] [(.int (0 : Int32))]) _
      refine XS.iload X68.here hx rfl (hb hby at_233) rfl ?_
      show oP p e below T68 (mkF m 235 #[oI p0, oR b6, oI (3 : Int32), oR (a_STRING_EQUALS_IGNORE_CASE Z), oI (0 : Int32), oI (0 : Int32), oR (a_STRING_EQUALS_IGNORE_CASE Z)] [(.int (0 : Int32)), (.int (0 : Int32))]) _
      refine XS.icmpNo X68.here hx rfl (hb hby at_235) rfl (teq (by decide : (0 : Int32) = (0 : Int32))).2 ?_
      show oP p e below T68 (mkF m 238 #[oI p0, oR b6, oI (3 : Int32), oR (a_STRING_EQUALS_IGNORE_CASE Z), oI (0 : Int32), oI (0 : Int32), oR (a_STRING_EQUALS_IGNORE_CASE Z)] []) _
      refine XS.iload X68.here hx rfl (hb hby at_238) rfl ?_
      show oP p e below T68 (mkF m 240 #[oI p0, oR b6, oI (3 : Int32), oR (a_STRING_EQUALS_IGNORE_CASE Z), oI (0 : Int32), oI (0 : Int32), oR (a_STRING_EQUALS_IGNORE_CASE Z)] [(.int (0 : Int32))]) _
      refine XS.aload X68.here hx rfl (hb hby at_240) rfl rfl ?_
      show oP p e below T68 (mkF m 242 #[oI p0, oR b6, oI (3 : Int32), oR (a_STRING_EQUALS_IGNORE_CASE Z), oI (0 : Int32), oI (0 : Int32), oR (a_STRING_EQUALS_IGNORE_CASE Z)] [(.ref (a_STRING_EQUALS_IGNORE_CASE Z)), (.int (0 : Int32))]) _
      refine XS.aloadN X68.here hx rfl (hb hby at_242) rfl rfl ?_
      show oP p e below T68 (mkF m 243 #[oI p0, oR b6, oI (3 : Int32), oR (a_STRING_EQUALS_IGNORE_CASE Z), oI (0 : Int32), oI (0 : Int32), oR (a_STRING_EQUALS_IGNORE_CASE Z)] [(.ref (a_STRING_EQUALS_IGNORE_CASE Z)), (.ref (a_STRING_EQUALS_IGNORE_CASE Z)), (.int (0 : Int32))]) _
      refine Jvm.RoadKit.acmp (g := (mkF m 243 #[oI p0, oR b6, oI (3 : Int32), oR (a_STRING_EQUALS_IGNORE_CASE Z), oI (0 : Int32), oI (0 : Int32), oR (a_STRING_EQUALS_IGNORE_CASE Z)] [(.ref (a_STRING_EQUALS_IGNORE_CASE Z)), (.ref (a_STRING_EQUALS_IGNORE_CASE Z)), (.int (0 : Int32))])) X68 hx rfl rfl rfl (pc0 := 243) (pc' := 250) (same := true) rfl (hb hby at_243) rfl (decide_eq_true (congrArg Value.ref (rfl : (a_STRING_EQUALS_IGNORE_CASE Z) = (a_STRING_EQUALS_IGNORE_CASE Z)))) (by decide) (by decide) ?_
      show oP p e below T68 (mkF m 250 #[oI p0, oR b6, oI (3 : Int32), oR (a_STRING_EQUALS_IGNORE_CASE Z), oI (0 : Int32), oI (0 : Int32), oR (a_STRING_EQUALS_IGNORE_CASE Z)] [(.int (0 : Int32))]) _
      refine XS.iconst X68.here hx rfl (hb hby at_250) ?_
      show oP p e below T68 (mkF m 251 #[oI p0, oR b6, oI (3 : Int32), oR (a_STRING_EQUALS_IGNORE_CASE Z), oI (0 : Int32), oI (0 : Int32), oR (a_STRING_EQUALS_IGNORE_CASE Z)] [(.int (0 : Int32)), (.int (0 : Int32))]) _
      refine XS.icmpNo X68.here hx rfl (hb hby at_251) rfl (teq (by decide : (0 : Int32) = (0 : Int32))).2 ?_
      show oP p e below T68 (mkF m 254 #[oI p0, oR b6, oI (3 : Int32), oR (a_STRING_EQUALS_IGNORE_CASE Z), oI (0 : Int32), oI (0 : Int32), oR (a_STRING_EQUALS_IGNORE_CASE Z)] []) _
      refine XS.aload X68.here hx rfl (hb hby at_254) rfl rfl ?_
      show oP p e below T68 (mkF m 256 #[oI p0, oR b6, oI (3 : Int32), oR (a_STRING_EQUALS_IGNORE_CASE Z), oI (0 : Int32), oI (0 : Int32), oR (a_STRING_EQUALS_IGNORE_CASE Z)] [(.ref (a_STRING_EQUALS_IGNORE_CASE Z))]) _
      refine st69.trans ?_
      show oP p e below T69 (mkF m 259 #[oI p0, oR b6, oI (3 : Int32), oR (a_STRING_EQUALS_IGNORE_CASE Z), oI (0 : Int32), oI (0 : Int32), oR (a_STRING_EQUALS_IGNORE_CASE Z)] [(.int (0 : Int32))]) _
      refine XS.ifNo X69.here hx rfl (hb hby at_259) rfl ((if0 _ _).trans (teq (by decide : (0 : Int32) = (0 : Int32))).2) ?_
      show oP p e below T69 (mkF m 262 #[oI p0, oR b6, oI (3 : Int32), oR (a_STRING_EQUALS_IGNORE_CASE Z), oI (0 : Int32), oI (0 : Int32), oR (a_STRING_EQUALS_IGNORE_CASE Z)] []) _
      refine XS.iconst X69.here hx rfl (hb hby at_262) ?_
      show oP p e below T69 (mkF m 263 #[oI p0, oR b6, oI (3 : Int32), oR (a_STRING_EQUALS_IGNORE_CASE Z), oI (0 : Int32), oI (0 : Int32), oR (a_STRING_EQUALS_IGNORE_CASE Z)] [(.int (1 : Int32))]) _
      refine XS.goto X69.here hx rfl (pc0 := 263) (pc' := 267) rfl (hb hby at_263) (by decide) (by decide) ?_
      show oP p e below T69 (mkF m 267 #[oI p0, oR b6, oI (3 : Int32), oR (a_STRING_EQUALS_IGNORE_CASE Z), oI (0 : Int32), oI (0 : Int32), oR (a_STRING_EQUALS_IGNORE_CASE Z)] [(.int (1 : Int32))]) _
      exact retN X69 hx (t := .boolean) Bd.returns (by simp) (hb hby at_267) hr
    · show (some (.int (1 : Int32)) : Option Value) = some (.int (1 : Int32)) ∧ Fr n0 _ ∧ Keep h0 T69.heap []
      exact ⟨rfl, N69, Kc69⟩
  · obtain ⟨lo70, X70, N70⟩ := own_hide X52 N52
    obtain ⟨cq71, kq71, q71a, q71b, q71c⟩ := isOf hZ e52 ((e_a_STRING_NOT_EQUALS_IGNORE_CASE hS).ext O52.2)
    obtain ⟨_, _, ⟨T71, L71, k71, n71⟩, -, X71, ⟨Lc71, hQ71, l71, y71, z71⟩, st71⟩ := X70.virtualBack hx (y := (⟨"com/example/menshen/menshen/policy/ConditionOperator", "isNegated", "()Z"⟩ : MethodName)) (z := (⟨"com/example/menshen/menshen/policy/ConditionOperator", "isNegated", "()Z"⟩ : MethodName)) hown (mvT hZ (hw _ (List.mem_of_getElem? (i := 51) rfl))) (mvT hZ (hw _ (List.mem_of_getElem? (i := 52) rfl))) (notFace_of_selects (args := #[]) (mvT hZ (hw _ (List.mem_of_getElem? (i := 54) rfl)))) (mvT hZ (hw _ (List.mem_of_getElem? (i := 54) rfl))) (mvT hZ (hw _ (List.mem_of_getElem? (i := 53) rfl))) (by decide) (backOf (W := 0) (rm1r l Z a0 hw hS [] (a_STRING_NOT_EQUALS_IGNORE_CASE Z) (a_STRING_EQUALS_IGNORE_CASE Z) h52 n0 O52 ((f_a_STRING_NOT_EQUALS_IGNORE_CASE_negationOf hS).ext O52.2)) hZ (hw _ (List.mem_of_getElem? (i := 55) rfl)) (hw _ (List.mem_of_getElem? (i := 3) rfl)) (by decide) (by decide)) q71a q71c (g := (mkF m 220 #[oI p0, oR b6, oI (4 : Int32), oR (a_STRING_NOT_EQUALS_IGNORE_CASE Z), oI (1 : Int32), oU, oU] [(.ref (a_STRING_NOT_EQUALS_IGNORE_CASE Z))])) rfl (by rw [hml]; rfl) (Steps.refl _) (argsL := []) (rest := []) (lenOf pd_0 rfl) rfl (by show 2 * 0 + _ ≤ _; exact Nat.le_of_eq rfl) (hb hby at_220) (fun _ _ => ⟨rfl, e52, (by decide : 1 + 0 ≤ _), (by decide : 23 + 0 ≤ _)⟩)
    dsimp only [Pt.U, Pt.locs, Pt.cells, Pt.slots] at X71 l71 y71 z71 st71 hQ71
    subst l71 y71 z71
    obtain ⟨v71, N71q, K71q⟩ := hQ71
    have w71 : (fn1r Z (a_STRING_NOT_EQUALS_IGNORE_CASE Z) (a_STRING_EQUALS_IGNORE_CASE Z)) = (1 : Int32) := rfl
    rw [w71] at v71
    subst v71
    have N71 := Fr.app N70 N71q
    have O71 := O52.keep K71q all0
    have Kc71 := Kc52.trans K71q all0
    obtain ⟨cq72, kq72, q72a, q72b, q72c⟩ := isOf hZ rfl ((e_a_STRING_NOT_EQUALS_IGNORE_CASE hS).ext O71.2)
    obtain ⟨_, _, ⟨T72, L72, k72, n72⟩, -, X72, ⟨Lc72, hQ72, l72, y72, z72⟩, st72⟩ := X71.virtualBack hx (y := (⟨"com/example/menshen/menshen/policy/ConditionOperator", "positive", "()Lcom/example/menshen/menshen/policy/ConditionOperator;"⟩ : MethodName)) (z := (⟨"com/example/menshen/menshen/policy/ConditionOperator", "positive", "()Lcom/example/menshen/menshen/policy/ConditionOperator;"⟩ : MethodName)) hown (mvT hZ (hw _ (List.mem_of_getElem? (i := 58) rfl))) (mvT hZ (hw _ (List.mem_of_getElem? (i := 59) rfl))) (notFace_of_selects (args := #[]) (mvT hZ (hw _ (List.mem_of_getElem? (i := 61) rfl)))) (mvT hZ (hw _ (List.mem_of_getElem? (i := 61) rfl))) (mvT hZ (hw _ (List.mem_of_getElem? (i := 60) rfl))) (by decide) (backOf (W := 0) (rm2r l Z a0 hw hS [] (a_STRING_NOT_EQUALS_IGNORE_CASE Z) (a_STRING_EQUALS_IGNORE_CASE Z) T71.heap n0 O71 ((f_a_STRING_NOT_EQUALS_IGNORE_CASE_negationOf hS).ext O71.2)) hZ (hw _ (List.mem_of_getElem? (i := 62) rfl)) (hw _ (List.mem_of_getElem? (i := 3) rfl)) (by decide) (by decide)) q72a q72c (g := (mkF m 226 #[oI p0, oR b6, oI (4 : Int32), oR (a_STRING_NOT_EQUALS_IGNORE_CASE Z), oI (1 : Int32), oI (1 : Int32), oU] [(.ref (a_STRING_NOT_EQUALS_IGNORE_CASE Z))])) rfl (by rw [hml]; rfl) (Steps.refl _) (argsL := []) (rest := []) (lenOf pd_1 rfl) rfl (by show 2 * 0 + _ ≤ _; exact Nat.le_of_eq rfl) (hb hby at_226) (fun _ _ => ⟨rfl, rfl, (by decide : 1 + 0 ≤ _), (by decide : 23 + 0 ≤ _)⟩)
    dsimp only [Pt.U, Pt.locs, Pt.cells, Pt.slots] at X72 l72 y72 z72 st72 hQ72
    subst l72 y72 z72
    obtain ⟨v72, N72q, K72q⟩ := hQ72
    have w72 : (fn2r Z (a_STRING_NOT_EQUALS_IGNORE_CASE Z) (a_STRING_EQUALS_IGNORE_CASE Z)) = (a_STRING_EQUALS_IGNORE_CASE Z) := rfl
    rw [w72] at v72
    subst v72
    have N72 := Fr.app N71 N72q
    have O72 := O71.keep K72q all0
    have Kc72 := Kc71.trans K72q all0
    obtain ⟨cq73, kq73, q73a, q73b, q73c⟩ := isOf hZ rfl ((e_a_STRING_EQUALS_IGNORE_CASE hS).ext O72.2)
    obtain ⟨_, _, ⟨T73, L73, k73, n73⟩, -, X73, ⟨Lc73, hQ73, l73, y73, z73⟩, st73⟩ := X72.virtualBack hx (y := (⟨"com/example/menshen/menshen/policy/ConditionOperator", "isNegated", "()Z"⟩ : MethodName)) (z := (⟨"com/example/menshen/menshen/policy/ConditionOperator", "isNegated", "()Z"⟩ : MethodName)) hown (mvT hZ (hw _ (List.mem_of_getElem? (i := 51) rfl))) (mvT hZ (hw _ (List.mem_of_getElem? (i := 52) rfl))) (notFace_of_selects (args := #[]) (mvT hZ (hw _ (List.mem_of_getElem? (i := 54) rfl)))) (mvT hZ (hw _ (List.mem_of_getElem? (i := 54) rfl))) (mvT hZ (hw _ (List.mem_of_getElem? (i := 53) rfl))) (by decide) (backOf (W := 0) (rm1n l Z a0 hw hS [] (a_STRING_EQUALS_IGNORE_CASE Z) T72.heap n0 O72 ((f_a_STRING_EQUALS_IGNORE_CASE_negationOf hS).ext O72.2)) hZ (hw _ (List.mem_of_getElem? (i := 55) rfl)) (hw _ (List.mem_of_getElem? (i := 3) rfl)) (by decide) (by decide)) q73a q73c (g := (mkF m 256 #[oI p0, oR b6, oI (4 : Int32), oR (a_STRING_NOT_EQUALS_IGNORE_CASE Z), oI (1 : Int32), oI (1 : Int32), oR (a_STRING_EQUALS_IGNORE_CASE Z)] [(.ref (a_STRING_EQUALS_IGNORE_CASE Z))])) rfl (by rw [hml]; rfl) (Steps.refl _) (argsL := []) (rest := []) (lenOf pd_0 rfl) rfl (by show 2 * 0 + _ ≤ _; exact Nat.le_of_eq rfl) (hb hby at_256) (fun _ _ => ⟨rfl, rfl, (by decide : 1 + 0 ≤ _), (by decide : 23 + 0 ≤ _)⟩)
    dsimp only [Pt.U, Pt.locs, Pt.cells, Pt.slots] at X73 l73 y73 z73 st73 hQ73
    subst l73 y73 z73
    obtain ⟨v73, N73q, K73q⟩ := hQ73
    have w73 : (fn1n Z (a_STRING_EQUALS_IGNORE_CASE Z)) = (0 : Int32) := rfl
    rw [w73] at v73
    subst v73
    have N73 := Fr.app N72 N73q
    have O73 := O72.keep K73q all0
    have Kc73 := Kc72.trans K73q all0
    obtain ⟨fs, hr, hrun, hended, hW, hsame⟩ := X73.leave (v := some (.int (1 : Int32))) (fun h => by rw [Bd.returns] at h; cases h)
    refine ⟨_, _, pre53 _ ?_, hrun, hended, _, _, rfl, ?_, ⟨_, rfl⟩, hW, hsame.mono (by decide) (by decide)⟩
    · show oP p e below T52 (mkF m 168 #[oI p0, oR b6, oU, oU, oU, oU, oU] [(.int (4 : Int32))]) _
      refine XS.istoreN X52.here hx rfl (hb hby at_168) rfl (l' := #[oI p0, oR b6, oI (4 : Int32), oU, oU, oU, oU]) rfl ?_
      show oP p e below T52 (mkF m 169 #[oI p0, oR b6, oI (4 : Int32), oU, oU, oU, oU] []) _
      refine XS.aloadN X52.here hx rfl (hb hby at_169) rfl rfl ?_
      show oP p e below T52 (mkF m 170 #[oI p0, oR b6, oI (4 : Int32), oU, oU, oU, oU] [(.ref b6)]) _
      refine XS.iloadN X52.here hx rfl (hb hby at_170) rfl ?_
      show oP p e below T52 (mkF m 171 #[oI p0, oR b6, oI (4 : Int32), oU, oU, oU, oU] [(.int (4 : Int32)), (.ref b6)]) _
      refine own_aaload X52 hx hZ e52 V52 rfl (j := (4 : Int32)) ⟨by decide, by decide⟩ (v := (.ref (a_STRING_NOT_EQUALS_IGNORE_CASE Z))) rfl (g := (mkF m 171 #[oI p0, oR b6, oI (4 : Int32), oU, oU, oU, oU] [(.int (4 : Int32)), (.ref b6)])) rfl rfl (hb hby at_171) _ ?_
      show oP p e below T52 (mkF m 172 #[oI p0, oR b6, oI (4 : Int32), oU, oU, oU, oU] [(.ref (a_STRING_NOT_EQUALS_IGNORE_CASE Z))]) _
      refine XS.astoreN X52.here hx rfl (hb hby at_172) rfl rfl (l' := #[oI p0, oR b6, oI (4 : Int32), oR (a_STRING_NOT_EQUALS_IGNORE_CASE Z), oU, oU, oU]) rfl ?_
      show oP p e below T52 (mkF m 173 #[oI p0, oR b6, oI (4 : Int32), oR (a_STRING_NOT_EQUALS_IGNORE_CASE Z), oU, oU, oU] []) _
      refine XS.iloadN X52.here hx rfl (hb hby at_173) rfl ?_
      show oP p e below T52 (mkF m 174 #[oI p0, oR b6, oI (4 : Int32), oR (a_STRING_NOT_EQUALS_IGNORE_CASE Z), oU, oU, oU] [(.int (4 : Int32))]) _
      refine XS.iconst X52.here hx rfl (hb hby at_174) ?_
      show oP p e below T52 (mkF m 175 #[oI p0, oR b6, oI (4 : Int32), oR (a_STRING_NOT_EQUALS_IGNORE_CASE Z), oU, oU, oU] [(.int (1 : Int32)), (.int (4 : Int32))]) _
      refine XS.icmpNo X52.here hx rfl (hb hby at_175) rfl (feq (by decide : ¬ ((4 : Int32) = (1 : Int32)))).1 ?_
      show oP p e below T52 (mkF m 178 #[oI p0, oR b6, oI (4 : Int32), oR (a_STRING_NOT_EQUALS_IGNORE_CASE Z), oU, oU, oU] []) _
      refine XS.iloadN X52.here hx rfl (hb hby at_178) rfl ?_
      show oP p e below T52 (mkF m 179 #[oI p0, oR b6, oI (4 : Int32), oR (a_STRING_NOT_EQUALS_IGNORE_CASE Z), oU, oU, oU] [(.int (4 : Int32))]) _
      refine XS.iconst X52.here hx rfl (hb hby at_179) ?_
      show oP p e below T52 (mkF m 180 #[oI p0, oR b6, oI (4 : Int32), oR (a_STRING_NOT_EQUALS_IGNORE_CASE Z), oU, oU, oU] [(.int (2 : Int32)), (.int (4 : Int32))]) _
      refine XS.icmpNo X52.here hx rfl (hb hby at_180) rfl (feq (by decide : ¬ ((4 : Int32) = (2 : Int32)))).1 ?_
      show oP p e below T52 (mkF m 183 #[oI p0, oR b6, oI (4 : Int32), oR (a_STRING_NOT_EQUALS_IGNORE_CASE Z), oU, oU, oU] []) _
      refine XS.iloadN X52.here hx rfl (hb hby at_183) rfl ?_
      show oP p e below T52 (mkF m 184 #[oI p0, oR b6, oI (4 : Int32), oR (a_STRING_NOT_EQUALS_IGNORE_CASE Z), oU, oU, oU] [(.int (4 : Int32))]) _
      refine XS.iconst X52.here hx rfl (hb hby at_184) ?_
      show oP p e below T52 (mkF m 185 #[oI p0, oR b6, oI (4 : Int32), oR (a_STRING_NOT_EQUALS_IGNORE_CASE Z), oU, oU, oU] [(.int (4 : Int32)), (.int (4 : Int32))]) _
      refine XS.icmpYes X52.here hx rfl (pc0 := 185) (pc' := 212) rfl (hb hby at_185) rfl (teq (by decide : (4 : Int32) = (4 : Int32))).1 (by decide) (by decide) ?_
      show oP p e below T52 (mkF m 212 #[oI p0, oR b6, oI (4 : Int32), oR (a_STRING_NOT_EQUALS_IGNORE_CASE Z), oU, oU, oU] []) _
      refine XS.iconst X52.here hx rfl (hb hby at_212) ?_
      show oP p e below T52 (mkF m 213 #[oI p0, oR b6, oI (4 : Int32), oR (a_STRING_NOT_EQUALS_IGNORE_CASE Z), oU, oU, oU] [(.int (1 : Int32))]) _
      refine XS.goto X52.here hx rfl (pc0 := 213) (pc' := 217) rfl (hb hby at_213) (by decide) (by decide) ?_
      show oP p e below T52 (mkF m 217 #[oI p0, oR b6, oI (4 : Int32), oR (a_STRING_NOT_EQUALS_IGNORE_CASE Z), oU, oU, oU] [(.int (1 : Int32))]) _
      refine XS.istore X52.here hx rfl (hb hby at_217) rfl (l' := #[oI p0, oR b6, oI (4 : Int32), oR (a_STRING_NOT_EQUALS_IGNORE_CASE Z), oI (1 : Int32), oU, oU]) rfl ?_
      show oP p e below T52 (mkF m 219 #[oI p0, oR b6, oI (4 : Int32), oR (a_STRING_NOT_EQUALS_IGNORE_CASE Z), oI (1 : Int32), oU, oU] []) _
      refine XS.aloadN X52.here hx rfl (hb hby at_219) rfl rfl ?_
      show oP p e below T52 (mkF m 220 #[oI p0, oR b6, oI (4 : Int32), oR (a_STRING_NOT_EQUALS_IGNORE_CASE Z), oI (1 : Int32), oU, oU] [(.ref (a_STRING_NOT_EQUALS_IGNORE_CASE Z))]) _
      refine st71.trans ?_
      show oP p e below T71 (mkF m 223 #[oI p0, oR b6, oI (4 : Int32), oR (a_STRING_NOT_EQUALS_IGNORE_CASE Z), oI (1 : Int32), oU, oU] [(.int (1 : Int32))]) _
      refine XS.istore X71.here hx rfl (hb hby at_223) rfl (l' := #[oI p0, oR b6, oI (4 : Int32), oR (a_STRING_NOT_EQUALS_IGNORE_CASE Z), oI (1 : Int32), oI (1 : Int32), oU]) rfl ?_
      show oP p e below T71 (mkF m 225 #[oI p0, oR b6, oI (4 : Int32), oR (a_STRING_NOT_EQUALS_IGNORE_CASE Z), oI (1 : Int32), oI (1 : Int32), oU] []) _
      refine XS.aloadN X71.here hx rfl (hb hby at_225) rfl rfl ?_
      show oP p e below T71 (mkF m 226 #[oI p0, oR b6, oI (4 : Int32), oR (a_STRING_NOT_EQUALS_IGNORE_CASE Z), oI (1 : Int32), oI (1 : Int32), oU] [(.ref (a_STRING_NOT_EQUALS_IGNORE_CASE Z))]) _
      refine st72.trans ?_
      show oP p e below T72 (mkF m 229 #[oI p0, oR b6, oI (4 : Int32), oR (a_STRING_NOT_EQUALS_IGNORE_CASE Z), oI (1 : Int32), oI (1 : Int32), oU] [(.ref (a_STRING_EQUALS_IGNORE_CASE Z))]) _
      refine XS.astore X72.here hx rfl (hb hby at_229) rfl rfl (l' := #[oI p0, oR b6, oI (4 : Int32), oR (a_STRING_NOT_EQUALS_IGNORE_CASE Z), oI (1 : Int32), oI (1 : Int32), oR (a_STRING_EQUALS_IGNORE_CASE Z)]) rfl ?_
      show oP p e below T72 (mkF m 231 #[oI p0, oR b6, oI (4 : Int32), oR (a_STRING_NOT_EQUALS_IGNORE_CASE Z), oI (1 : Int32), oI (1 : Int32), oR (a_STRING_EQUALS_IGNORE_CASE Z)] []) _
      refine XS.iload X72.here hx rfl (hb hby at_231) rfl ?_
      show oP p e below T72 (mkF m 233 #[oI p0, oR b6, oI (4 : Int32), oR (a_STRING_NOT_EQUALS_IGNORE_CASE Z), oI (1 : Int32), oI (1 : Int32), oR (a_STRING_EQUALS_IGNORE_CASE Z)] [(.int (1 : Int32))]) _
      refine XS.iload X72.here hx rfl (hb hby at_233) rfl ?_
      show oP p e below T72 (mkF m 235 #[oI p0, oR b6, oI (4 : Int32), oR (a_STRING_NOT_EQUALS_IGNORE_CASE Z), oI (1 : Int32), oI (1 : Int32), oR (a_STRING_EQUALS_IGNORE_CASE Z)] [(.int (1 : Int32)), (.int (1 : Int32))]) _
      refine XS.icmpNo X72.here hx rfl (hb hby at_235) rfl (teq (by decide : (1 : Int32) = (1 : Int32))).2 ?_
      show oP p e below T72 (mkF m 238 #[oI p0, oR b6, oI (4 : Int32), oR (a_STRING_NOT_EQUALS_IGNORE_CASE Z), oI (1 : Int32), oI (1 : Int32), oR (a_STRING_EQUALS_IGNORE_CASE Z)] []) _
      refine XS.iload X72.here hx rfl (hb hby at_238) rfl ?_
      show oP p e below T72 (mkF m 240 #[oI p0, oR b6, oI (4 : Int32), oR (a_STRING_NOT_EQUALS_IGNORE_CASE Z), oI (1 : Int32), oI (1 : Int32), oR (a_STRING_EQUALS_IGNORE_CASE Z)] [(.int (1 : Int32))]) _
      refine XS.aload X72.here hx rfl (hb hby at_240) rfl rfl ?_
      show oP p e below T72 (mkF m 242 #[oI p0, oR b6, oI (4 : Int32), oR (a_STRING_NOT_EQUALS_IGNORE_CASE Z), oI (1 : Int32), oI (1 : Int32), oR (a_STRING_EQUALS_IGNORE_CASE Z)] [(.ref (a_STRING_EQUALS_IGNORE_CASE Z)), (.int (1 : Int32))]) _
      refine XS.aloadN X72.here hx rfl (hb hby at_242) rfl rfl ?_
      show oP p e below T72 (mkF m 243 #[oI p0, oR b6, oI (4 : Int32), oR (a_STRING_NOT_EQUALS_IGNORE_CASE Z), oI (1 : Int32), oI (1 : Int32), oR (a_STRING_EQUALS_IGNORE_CASE Z)] [(.ref (a_STRING_NOT_EQUALS_IGNORE_CASE Z)), (.ref (a_STRING_EQUALS_IGNORE_CASE Z)), (.int (1 : Int32))]) _
      refine Jvm.RoadKit.acmp (g := (mkF m 243 #[oI p0, oR b6, oI (4 : Int32), oR (a_STRING_NOT_EQUALS_IGNORE_CASE Z), oI (1 : Int32), oI (1 : Int32), oR (a_STRING_EQUALS_IGNORE_CASE Z)] [(.ref (a_STRING_NOT_EQUALS_IGNORE_CASE Z)), (.ref (a_STRING_EQUALS_IGNORE_CASE Z)), (.int (1 : Int32))])) X72 hx rfl rfl rfl (pc0 := 243) (pc' := 246) (same := false) rfl (hb hby at_243) rfl (decide_eq_false fun q => ((f_a_STRING_EQUALS_IGNORE_CASE_ordinal hS).ne (f_a_STRING_NOT_EQUALS_IGNORE_CASE_ordinal hS) (by decide)) (Value.ref.inj q)) (by decide) (by decide) ?_
      show oP p e below T72 (mkF m 246 #[oI p0, oR b6, oI (4 : Int32), oR (a_STRING_NOT_EQUALS_IGNORE_CASE Z), oI (1 : Int32), oI (1 : Int32), oR (a_STRING_EQUALS_IGNORE_CASE Z)] [(.int (1 : Int32))]) _
      refine XS.iconst X72.here hx rfl (hb hby at_246) ?_
      show oP p e below T72 (mkF m 247 #[oI p0, oR b6, oI (4 : Int32), oR (a_STRING_NOT_EQUALS_IGNORE_CASE Z), oI (1 : Int32), oI (1 : Int32), oR (a_STRING_EQUALS_IGNORE_CASE Z)] [(.int (1 : Int32)), (.int (1 : Int32))]) _
      refine XS.goto X72.here hx rfl (pc0 := 247) (pc' := 251) rfl (hb hby at_247) (by decide) (by decide) ?_
      show oP p e below T72 (mkF m 251 #[oI p0, oR b6, oI (4 : Int32), oR (a_STRING_NOT_EQUALS_IGNORE_CASE Z), oI (1 : Int32), oI (1 : Int32), oR (a_STRING_EQUALS_IGNORE_CASE Z)] [(.int (1 : Int32)), (.int (1 : Int32))]) _
      refine XS.icmpNo X72.here hx rfl (hb hby at_251) rfl (teq (by decide : (1 : Int32) = (1 : Int32))).2 ?_
      show oP p e below T72 (mkF m 254 #[oI p0, oR b6, oI (4 : Int32), oR (a_STRING_NOT_EQUALS_IGNORE_CASE Z), oI (1 : Int32), oI (1 : Int32), oR (a_STRING_EQUALS_IGNORE_CASE Z)] []) _
      refine XS.aload X72.here hx rfl (hb hby at_254) rfl rfl ?_
      show oP p e below T72 (mkF m 256 #[oI p0, oR b6, oI (4 : Int32), oR (a_STRING_NOT_EQUALS_IGNORE_CASE Z), oI (1 : Int32), oI (1 : Int32), oR (a_STRING_EQUALS_IGNORE_CASE Z)] [(.ref (a_STRING_EQUALS_IGNORE_CASE Z))]) _
      refine st73.trans ?_
      show oP p e below T73 (mkF m 259 #[oI p0, oR b6, oI (4 : Int32), oR (a_STRING_NOT_EQUALS_IGNORE_CASE Z), oI (1 : Int32), oI (1 : Int32), oR (a_STRING_EQUALS_IGNORE_CASE Z)] [(.int (0 : Int32))]) _
      refine XS.ifNo X73.here hx rfl (hb hby at_259) rfl ((if0 _ _).trans (teq (by decide : (0 : Int32) = (0 : Int32))).2) ?_
      show oP p e below T73 (mkF m 262 #[oI p0, oR b6, oI (4 : Int32), oR (a_STRING_NOT_EQUALS_IGNORE_CASE Z), oI (1 : Int32), oI (1 : Int32), oR (a_STRING_EQUALS_IGNORE_CASE Z)] []) _
      refine XS.iconst X73.here hx rfl (hb hby at_262) ?_
      show oP p e below T73 (mkF m 263 #[oI p0, oR b6, oI (4 : Int32), oR (a_STRING_NOT_EQUALS_IGNORE_CASE Z), oI (1 : Int32), oI (1 : Int32), oR (a_STRING_EQUALS_IGNORE_CASE Z)] [(.int (1 : Int32))]) _
      refine XS.goto X73.here hx rfl (pc0 := 263) (pc' := 267) rfl (hb hby at_263) (by decide) (by decide) ?_
      show oP p e below T73 (mkF m 267 #[oI p0, oR b6, oI (4 : Int32), oR (a_STRING_NOT_EQUALS_IGNORE_CASE Z), oI (1 : Int32), oI (1 : Int32), oR (a_STRING_EQUALS_IGNORE_CASE Z)] [(.int (1 : Int32))]) _
      exact retN X73 hx (t := .boolean) Bd.returns (by simp) (hb hby at_267) hr
    · show (some (.int (1 : Int32)) : Option Value) = some (.int (1 : Int32)) ∧ Fr n0 _ ∧ Keep h0 T73.heap []
      exact ⟨rfl, N73, Kc73⟩
  · obtain ⟨lo74, X74, N74⟩ := own_hide X52 N52
    obtain ⟨cq75, kq75, q75a, q75b, q75c⟩ := isOf hZ e52 ((e_a_STRING_LIKE hS).ext O52.2)
    obtain ⟨_, _, ⟨T75, L75, k75, n75⟩, -, X75, ⟨Lc75, hQ75, l75, y75, z75⟩, st75⟩ := X74.virtualBack hx (y := (⟨"com/example/menshen/menshen/policy/ConditionOperator", "isNegated", "()Z"⟩ : MethodName)) (z := (⟨"com/example/menshen/menshen/policy/ConditionOperator", "isNegated", "()Z"⟩ : MethodName)) hown (mvT hZ (hw _ (List.mem_of_getElem? (i := 51) rfl))) (mvT hZ (hw _ (List.mem_of_getElem? (i := 52) rfl))) (notFace_of_selects (args := #[]) (mvT hZ (hw _ (List.mem_of_getElem? (i := 54) rfl)))) (mvT hZ (hw _ (List.mem_of_getElem? (i := 54) rfl))) (mvT hZ (hw _ (List.mem_of_getElem? (i := 53) rfl))) (by decide) (backOf (W := 0) (rm1n l Z a0 hw hS [] (a_STRING_LIKE Z) h52 n0 O52 ((f_a_STRING_LIKE_negationOf hS).ext O52.2)) hZ (hw _ (List.mem_of_getElem? (i := 55) rfl)) (hw _ (List.mem_of_getElem? (i := 3) rfl)) (by decide) (by decide)) q75a q75c (g := (mkF m 220 #[oI p0, oR b6, oI (5 : Int32), oR (a_STRING_LIKE Z), oI (0 : Int32), oU, oU] [(.ref (a_STRING_LIKE Z))])) rfl (by rw [hml]; rfl) (Steps.refl _) (argsL := []) (rest := []) (lenOf pd_0 rfl) rfl (by show 2 * 0 + _ ≤ _; exact Nat.le_of_eq rfl) (hb hby at_220) (fun _ _ => ⟨rfl, e52, (by decide : 1 + 0 ≤ _), (by decide : 23 + 0 ≤ _)⟩)
    dsimp only [Pt.U, Pt.locs, Pt.cells, Pt.slots] at X75 l75 y75 z75 st75 hQ75
    subst l75 y75 z75
    obtain ⟨v75, N75q, K75q⟩ := hQ75
    have w75 : (fn1n Z (a_STRING_LIKE Z)) = (0 : Int32) := rfl
    rw [w75] at v75
    subst v75
    have N75 := Fr.app N74 N75q
    have O75 := O52.keep K75q all0
    have Kc75 := Kc52.trans K75q all0
    obtain ⟨cq76, kq76, q76a, q76b, q76c⟩ := isOf hZ rfl ((e_a_STRING_LIKE hS).ext O75.2)
    obtain ⟨_, _, ⟨T76, L76, k76, n76⟩, -, X76, ⟨Lc76, hQ76, l76, y76, z76⟩, st76⟩ := X75.virtualBack hx (y := (⟨"com/example/menshen/menshen/policy/ConditionOperator", "positive", "()Lcom/example/menshen/menshen/policy/ConditionOperator;"⟩ : MethodName)) (z := (⟨"com/example/menshen/menshen/policy/ConditionOperator", "positive", "()Lcom/example/menshen/menshen/policy/ConditionOperator;"⟩ : MethodName)) hown (mvT hZ (hw _ (List.mem_of_getElem? (i := 58) rfl))) (mvT hZ (hw _ (List.mem_of_getElem? (i := 59) rfl))) (notFace_of_selects (args := #[]) (mvT hZ (hw _ (List.mem_of_getElem? (i := 61) rfl)))) (mvT hZ (hw _ (List.mem_of_getElem? (i := 61) rfl))) (mvT hZ (hw _ (List.mem_of_getElem? (i := 60) rfl))) (by decide) (backOf (W := 0) (rm2n l Z a0 hw hS [] (a_STRING_LIKE Z) T75.heap n0 O75 ((f_a_STRING_LIKE_negationOf hS).ext O75.2)) hZ (hw _ (List.mem_of_getElem? (i := 62) rfl)) (hw _ (List.mem_of_getElem? (i := 3) rfl)) (by decide) (by decide)) q76a q76c (g := (mkF m 226 #[oI p0, oR b6, oI (5 : Int32), oR (a_STRING_LIKE Z), oI (0 : Int32), oI (0 : Int32), oU] [(.ref (a_STRING_LIKE Z))])) rfl (by rw [hml]; rfl) (Steps.refl _) (argsL := []) (rest := []) (lenOf pd_1 rfl) rfl (by show 2 * 0 + _ ≤ _; exact Nat.le_of_eq rfl) (hb hby at_226) (fun _ _ => ⟨rfl, rfl, (by decide : 1 + 0 ≤ _), (by decide : 23 + 0 ≤ _)⟩)
    dsimp only [Pt.U, Pt.locs, Pt.cells, Pt.slots] at X76 l76 y76 z76 st76 hQ76
    subst l76 y76 z76
    obtain ⟨v76, N76q, K76q⟩ := hQ76
    have w76 : (fn2n Z (a_STRING_LIKE Z)) = (a_STRING_LIKE Z) := rfl
    rw [w76] at v76
    subst v76
    have N76 := Fr.app N75 N76q
    have O76 := O75.keep K76q all0
    have Kc76 := Kc75.trans K76q all0
    obtain ⟨cq77, kq77, q77a, q77b, q77c⟩ := isOf hZ rfl ((e_a_STRING_LIKE hS).ext O76.2)
    obtain ⟨_, _, ⟨T77, L77, k77, n77⟩, -, X77, ⟨Lc77, hQ77, l77, y77, z77⟩, st77⟩ := X76.virtualBack hx (y := (⟨"com/example/menshen/menshen/policy/ConditionOperator", "isNegated", "()Z"⟩ : MethodName)) (z := (⟨"com/example/menshen/menshen/policy/ConditionOperator", "isNegated", "()Z"⟩ : MethodName)) hown (mvT hZ (hw _ (List.mem_of_getElem? (i := 51) rfl))) (mvT hZ (hw _ (List.mem_of_getElem? (i := 52) rfl))) (notFace_of_selects (args := #[]) (mvT hZ (hw _ (List.mem_of_getElem? (i := 54) rfl)))) (mvT hZ (hw _ (List.mem_of_getElem? (i := 54) rfl))) (mvT hZ (hw _ (List.mem_of_getElem? (i := 53) rfl))) (by decide) (backOf (W := 0) (rm1n l Z a0 hw hS [] (a_STRING_LIKE Z) T76.heap n0 O76 ((f_a_STRING_LIKE_negationOf hS).ext O76.2)) hZ (hw _ (List.mem_of_getElem? (i := 55) rfl)) (hw _ (List.mem_of_getElem? (i := 3) rfl)) (by decide) (by decide)) q77a q77c (g := (mkF m 256 #[oI p0, oR b6, oI (5 : Int32), oR (a_STRING_LIKE Z), oI (0 : Int32), oI (0 : Int32), oR (a_STRING_LIKE Z)] [(.ref (a_STRING_LIKE Z))])) rfl (by rw [hml]; rfl) (Steps.refl _) (argsL := []) (rest := []) (lenOf pd_0 rfl) rfl (by show 2 * 0 + _ ≤ _; exact Nat.le_of_eq rfl) (hb hby at_256) (fun _ _ => ⟨rfl, rfl, (by decide : 1 + 0 ≤ _), (by decide : 23 + 0 ≤ _)⟩)
    dsimp only [Pt.U, Pt.locs, Pt.cells, Pt.slots] at X77 l77 y77 z77 st77 hQ77
    subst l77 y77 z77
    obtain ⟨v77, N77q, K77q⟩ := hQ77
    have w77 : (fn1n Z (a_STRING_LIKE Z)) = (0 : Int32) := rfl
    rw [w77] at v77
    subst v77
    have N77 := Fr.app N76 N77q
    have O77 := O76.keep K77q all0
    have Kc77 := Kc76.trans K77q all0
    obtain ⟨fs, hr, hrun, hended, hW, hsame⟩ := X77.leave (v := some (.int (1 : Int32))) (fun h => by rw [Bd.returns] at h; cases h)
    refine ⟨_, _, pre53 _ ?_, hrun, hended, _, _, rfl, ?_, ⟨_, rfl⟩, hW, hsame.mono (by decide) (by decide)⟩
    · show oP p e below T52 (mkF m 168 #[oI p0, oR b6, oU, oU, oU, oU, oU] [(.int (5 : Int32))]) _
      refine XS.istoreN X52.here hx rfl (hb hby at_168) rfl (l' := #[oI p0, oR b6, oI (5 : Int32), oU, oU, oU, oU]) rfl ?_
      show oP p e below T52 (mkF m 169 #[oI p0, oR b6, oI (5 : Int32), oU, oU, oU, oU] []) _
      refine XS.aloadN X52.here hx rfl (hb hby at_169) rfl rfl ?_
      show oP p e below T52 (mkF m 170 #[oI p0, oR b6, oI (5 : Int32), oU, oU, oU, oU] [(.ref b6)]) _
      refine XS.iloadN X52.here hx rfl (hb hby at_170) rfl ?_
      show oP p e below T52 (mkF m 171 #[oI p0, oR b6, oI (5 : Int32), oU, oU, oU, oU] [(.int (5 : Int32)), (.ref b6)]) _
      refine own_aaload X52 hx hZ e52 V52 rfl (j := (5 : Int32)) ⟨by decide, by decide⟩ (v := (.ref (a_STRING_LIKE Z))) rfl (g := (mkF m 171 #[oI p0, oR b6, oI (5 : Int32), oU, oU, oU, oU] [(.int (5 : Int32)), (.ref b6)])) rfl rfl (hb hby at_171) _ ?_
      show oP p e below T52 (mkF m 172 #[oI p0, oR b6, oI (5 : Int32), oU, oU, oU, oU] [(.ref (a_STRING_LIKE Z))]) _
      refine XS.astoreN X52.here hx rfl (hb hby at_172) rfl rfl (l' := #[oI p0, oR b6, oI (5 : Int32), oR (a_STRING_LIKE Z), oU, oU, oU]) rfl ?_
      show oP p e below T52 (mkF m 173 #[oI p0, oR b6, oI (5 : Int32), oR (a_STRING_LIKE Z), oU, oU, oU] []) _
      refine XS.iloadN X52.here hx rfl (hb hby at_173) rfl ?_
      show oP p e below T52 (mkF m 174 #[oI p0, oR b6, oI (5 : Int32), oR (a_STRING_LIKE Z), oU, oU, oU] [(.int (5 : Int32))]) _
      refine XS.iconst X52.here hx rfl (hb hby at_174) ?_
      show oP p e below T52 (mkF m 175 #[oI p0, oR b6, oI (5 : Int32), oR (a_STRING_LIKE Z), oU, oU, oU] [(.int (1 : Int32)), (.int (5 : Int32))]) _
      refine XS.icmpNo X52.here hx rfl (hb hby at_175) rfl (feq (by decide : ¬ ((5 : Int32) = (1 : Int32)))).1 ?_
      show oP p e below T52 (mkF m 178 #[oI p0, oR b6, oI (5 : Int32), oR (a_STRING_LIKE Z), oU, oU, oU] []) _
      refine XS.iloadN X52.here hx rfl (hb hby at_178) rfl ?_
      show oP p e below T52 (mkF m 179 #[oI p0, oR b6, oI (5 : Int32), oR (a_STRING_LIKE Z), oU, oU, oU] [(.int (5 : Int32))]) _
      refine XS.iconst X52.here hx rfl (hb hby at_179) ?_
      show oP p e below T52 (mkF m 180 #[oI p0, oR b6, oI (5 : Int32), oR (a_STRING_LIKE Z), oU, oU, oU] [(.int (2 : Int32)), (.int (5 : Int32))]) _
      refine XS.icmpNo X52.here hx rfl (hb hby at_180) rfl (feq (by decide : ¬ ((5 : Int32) = (2 : Int32)))).1 ?_
      show oP p e below T52 (mkF m 183 #[oI p0, oR b6, oI (5 : Int32), oR (a_STRING_LIKE Z), oU, oU, oU] []) _
      refine XS.iloadN X52.here hx rfl (hb hby at_183) rfl ?_
      show oP p e below T52 (mkF m 184 #[oI p0, oR b6, oI (5 : Int32), oR (a_STRING_LIKE Z), oU, oU, oU] [(.int (5 : Int32))]) _
      refine XS.iconst X52.here hx rfl (hb hby at_184) ?_
      show oP p e below T52 (mkF m 185 #[oI p0, oR b6, oI (5 : Int32), oR (a_STRING_LIKE Z), oU, oU, oU] [(.int (4 : Int32)), (.int (5 : Int32))]) _
      refine XS.icmpNo X52.here hx rfl (hb hby at_185) rfl (feq (by decide : ¬ ((5 : Int32) = (4 : Int32)))).1 ?_
      show oP p e below T52 (mkF m 188 #[oI p0, oR b6, oI (5 : Int32), oR (a_STRING_LIKE Z), oU, oU, oU] []) _
      refine XS.iloadN X52.here hx rfl (hb hby at_188) rfl ?_
      show oP p e below T52 (mkF m 189 #[oI p0, oR b6, oI (5 : Int32), oR (a_STRING_LIKE Z), oU, oU, oU] [(.int (5 : Int32))]) _
      refine XS.bipush X52.here hx rfl (hb hby at_189) ?_
      show oP p e below T52 (mkF m 191 #[oI p0, oR b6, oI (5 : Int32), oR (a_STRING_LIKE Z), oU, oU, oU] [(.int (6 : Int32)), (.int (5 : Int32))]) _
      refine XS.icmpNo X52.here hx rfl (hb hby at_191) rfl (feq (by decide : ¬ ((5 : Int32) = (6 : Int32)))).1 ?_
      show oP p e below T52 (mkF m 194 #[oI p0, oR b6, oI (5 : Int32), oR (a_STRING_LIKE Z), oU, oU, oU] []) _
      refine XS.iloadN X52.here hx rfl (hb hby at_194) rfl ?_
      show oP p e below T52 (mkF m 195 #[oI p0, oR b6, oI (5 : Int32), oR (a_STRING_LIKE Z), oU, oU, oU] [(.int (5 : Int32))]) _
      refine XS.bipush X52.here hx rfl (hb hby at_195) ?_
      show oP p e below T52 (mkF m 197 #[oI p0, oR b6, oI (5 : Int32), oR (a_STRING_LIKE Z), oU, oU, oU] [(.int (8 : Int32)), (.int (5 : Int32))]) _
      refine XS.icmpNo X52.here hx rfl (hb hby at_197) rfl (feq (by decide : ¬ ((5 : Int32) = (8 : Int32)))).1 ?_
      show oP p e below T52 (mkF m 200 #[oI p0, oR b6, oI (5 : Int32), oR (a_STRING_LIKE Z), oU, oU, oU] []) _
      refine XS.iloadN X52.here hx rfl (hb hby at_200) rfl ?_
      show oP p e below T52 (mkF m 201 #[oI p0, oR b6, oI (5 : Int32), oR (a_STRING_LIKE Z), oU, oU, oU] [(.int (5 : Int32))]) _
      refine XS.bipush X52.here hx rfl (hb hby at_201) ?_
      show oP p e below T52 (mkF m 203 #[oI p0, oR b6, oI (5 : Int32), oR (a_STRING_LIKE Z), oU, oU, oU] [(.int (10 : Int32)), (.int (5 : Int32))]) _
      refine XS.icmpNo X52.here hx rfl (hb hby at_203) rfl (feq (by decide : ¬ ((5 : Int32) = (10 : Int32)))).1 ?_
      show oP p e below T52 (mkF m 206 #[oI p0, oR b6, oI (5 : Int32), oR (a_STRING_LIKE Z), oU, oU, oU] []) _
      refine XS.iloadN X52.here hx rfl (hb hby at_206) rfl ?_
      show oP p e below T52 (mkF m 207 #[oI p0, oR b6, oI (5 : Int32), oR (a_STRING_LIKE Z), oU, oU, oU] [(.int (5 : Int32))]) _
      refine XS.bipush X52.here hx rfl (hb hby at_207) ?_
      show oP p e below T52 (mkF m 209 #[oI p0, oR b6, oI (5 : Int32), oR (a_STRING_LIKE Z), oU, oU, oU] [(.int (16 : Int32)), (.int (5 : Int32))]) _
      refine XS.icmpYes X52.here hx rfl (pc0 := 209) (pc' := 216) rfl (hb hby at_209) rfl (feq (by decide : ¬ ((5 : Int32) = (16 : Int32)))).2 (by decide) (by decide) ?_
      show oP p e below T52 (mkF m 216 #[oI p0, oR b6, oI (5 : Int32), oR (a_STRING_LIKE Z), oU, oU, oU] []) _
      refine XS.iconst X52.here hx rfl (hb hby at_216) ?_
      show oP p e below T52 (mkF m 217 #[oI p0, oR b6, oI (5 : Int32), oR (a_STRING_LIKE Z), oU, oU, oU] [(.int (0 : Int32))]) _
      refine XS.istore X52.here hx rfl (hb hby at_217) rfl (l' := #[oI p0, oR b6, oI (5 : Int32), oR (a_STRING_LIKE Z), oI (0 : Int32), oU, oU]) rfl ?_
      show oP p e below T52 (mkF m 219 #[oI p0, oR b6, oI (5 : Int32), oR (a_STRING_LIKE Z), oI (0 : Int32), oU, oU] []) _
      refine XS.aloadN X52.here hx rfl (hb hby at_219) rfl rfl ?_
      show oP p e below T52 (mkF m 220 #[oI p0, oR b6, oI (5 : Int32), oR (a_STRING_LIKE Z), oI (0 : Int32), oU, oU] [(.ref (a_STRING_LIKE Z))]) _
      refine st75.trans ?_
      show oP p e below T75 (mkF m 223 #[oI p0, oR b6, oI (5 : Int32), oR (a_STRING_LIKE Z), oI (0 : Int32), oU, oU] [(.int (0 : Int32))]) _
      refine XS.istore X75.here hx rfl (hb hby at_223) rfl (l' := #[oI p0, oR b6, oI (5 : Int32), oR (a_STRING_LIKE Z), oI (0 : Int32), oI (0 : Int32), oU]) rfl ?_
      show oP p e below T75 (mkF m 225 #[oI p0, oR b6, oI (5 : Int32), oR (a_STRING_LIKE Z), oI (0 : Int32), oI (0 : Int32), oU] []) _
      refine XS.aloadN X75.here hx rfl (hb hby at_225) rfl rfl ?_
      show oP p e below T75 (mkF m 226 #[oI p0, oR b6, oI (5 : Int32), oR (a_STRING_LIKE Z), oI (0 : Int32), oI (0 : Int32), oU] [(.ref (a_STRING_LIKE Z))]) _
      refine st76.trans ?_
      show oP p e below T76 (mkF m 229 #[oI p0, oR b6, oI (5 : Int32), oR (a_STRING_LIKE Z), oI (0 : Int32), oI (0 : Int32), oU] [(.ref (a_STRING_LIKE Z))]) _
      refine XS.astore X76.here hx rfl (hb hby at_229) rfl rfl (l' := #[oI p0, oR b6, oI (5 : Int32), oR (a_STRING_LIKE Z), oI (0 : Int32), oI (0 : Int32), oR (a_STRING_LIKE Z)]) rfl ?_
      show oP p e below T76 (mkF m 231 #[oI p0, oR b6, oI (5 : Int32), oR (a_STRING_LIKE Z), oI (0 : Int32), oI (0 : Int32), oR (a_STRING_LIKE Z)] []) _
      refine XS.iload X76.here hx rfl (hb hby at_231) rfl ?_
      show oP p e below T76 (mkF m 233 #[oI p0, oR b6, oI (5 : Int32), oR (a_STRING_LIKE Z), oI (0 : Int32), oI (0 : Int32), oR (a_STRING_LIKE Z)] [(.int (0 : Int32))]) _
      refine XS.iload X76.here hx rfl (hb hby at_233) rfl ?_
      show oP p e below T76 (mkF m 235 #[oI p0, oR b6, oI (5 : Int32), oR (a_STRING_LIKE Z), oI (0 : Int32), oI (0 : Int32), oR (a_STRING_LIKE Z)] [(.int (0 : Int32)), (.int (0 : Int32))]) _
      refine XS.icmpNo X76.here hx rfl (hb hby at_235) rfl (teq (by decide : (0 : Int32) = (0 : Int32))).2 ?_
      show oP p e below T76 (mkF m 238 #[oI p0, oR b6, oI (5 : Int32), oR (a_STRING_LIKE Z), oI (0 : Int32), oI (0 : Int32), oR (a_STRING_LIKE Z)] []) _
      refine XS.iload X76.here hx rfl (hb hby at_238) rfl ?_
      show oP p e below T76 (mkF m 240 #[oI p0, oR b6, oI (5 : Int32), oR (a_STRING_LIKE Z), oI (0 : Int32), oI (0 : Int32), oR (a_STRING_LIKE Z)] [(.int (0 : Int32))]) _
      refine XS.aload X76.here hx rfl (hb hby at_240) rfl rfl ?_
      show oP p e below T76 (mkF m 242 #[oI p0, oR b6, oI (5 : Int32), oR (a_STRING_LIKE Z), oI (0 : Int32), oI (0 : Int32), oR (a_STRING_LIKE Z)] [(.ref (a_STRING_LIKE Z)), (.int (0 : Int32))]) _
      refine XS.aloadN X76.here hx rfl (hb hby at_242) rfl rfl ?_
      show oP p e below T76 (mkF m 243 #[oI p0, oR b6, oI (5 : Int32), oR (a_STRING_LIKE Z), oI (0 : Int32), oI (0 : Int32), oR (a_STRING_LIKE Z)] [(.ref (a_STRING_LIKE Z)), (.ref (a_STRING_LIKE Z)), (.int (0 : Int32))]) _
      refine Jvm.RoadKit.acmp (g := (mkF m 243 #[oI p0, oR b6, oI (5 : Int32), oR (a_STRING_LIKE Z), oI (0 : Int32), oI (0 : Int32), oR (a_STRING_LIKE Z)] [(.ref (a_STRING_LIKE Z)), (.ref (a_STRING_LIKE Z)), (.int (0 : Int32))])) X76 hx rfl rfl rfl (pc0 := 243) (pc' := 250) (same := true) rfl (hb hby at_243) rfl (decide_eq_true (congrArg Value.ref (rfl : (a_STRING_LIKE Z) = (a_STRING_LIKE Z)))) (by decide) (by decide) ?_
      show oP p e below T76 (mkF m 250 #[oI p0, oR b6, oI (5 : Int32), oR (a_STRING_LIKE Z), oI (0 : Int32), oI (0 : Int32), oR (a_STRING_LIKE Z)] [(.int (0 : Int32))]) _
      refine XS.iconst X76.here hx rfl (hb hby at_250) ?_
      show oP p e below T76 (mkF m 251 #[oI p0, oR b6, oI (5 : Int32), oR (a_STRING_LIKE Z), oI (0 : Int32), oI (0 : Int32), oR (a_STRING_LIKE Z)] [(.int (0 : Int32)), (.int (0 : Int32))]) _
      refine XS.icmpNo X76.here hx rfl (hb hby at_251) rfl (teq (by decide : (0 : Int32) = (0 : Int32))).2 ?_
      show oP p e below T76 (mkF m 254 #[oI p0, oR b6, oI (5 : Int32), oR (a_STRING_LIKE Z), oI (0 : Int32), oI (0 : Int32), oR (a_STRING_LIKE Z)] []) _
      refine XS.aload X76.here hx rfl (hb hby at_254) rfl rfl ?_
      show oP p e below T76 (mkF m 256 #[oI p0, oR b6, oI (5 : Int32), oR (a_STRING_LIKE Z), oI (0 : Int32), oI (0 : Int32), oR (a_STRING_LIKE Z)] [(.ref (a_STRING_LIKE Z))]) _
      refine st77.trans ?_
      show oP p e below T77 (mkF m 259 #[oI p0, oR b6, oI (5 : Int32), oR (a_STRING_LIKE Z), oI (0 : Int32), oI (0 : Int32), oR (a_STRING_LIKE Z)] [(.int (0 : Int32))]) _
      refine XS.ifNo X77.here hx rfl (hb hby at_259) rfl ((if0 _ _).trans (teq (by decide : (0 : Int32) = (0 : Int32))).2) ?_
      show oP p e below T77 (mkF m 262 #[oI p0, oR b6, oI (5 : Int32), oR (a_STRING_LIKE Z), oI (0 : Int32), oI (0 : Int32), oR (a_STRING_LIKE Z)] []) _
      refine XS.iconst X77.here hx rfl (hb hby at_262) ?_
      show oP p e below T77 (mkF m 263 #[oI p0, oR b6, oI (5 : Int32), oR (a_STRING_LIKE Z), oI (0 : Int32), oI (0 : Int32), oR (a_STRING_LIKE Z)] [(.int (1 : Int32))]) _
      refine XS.goto X77.here hx rfl (pc0 := 263) (pc' := 267) rfl (hb hby at_263) (by decide) (by decide) ?_
      show oP p e below T77 (mkF m 267 #[oI p0, oR b6, oI (5 : Int32), oR (a_STRING_LIKE Z), oI (0 : Int32), oI (0 : Int32), oR (a_STRING_LIKE Z)] [(.int (1 : Int32))]) _
      exact retN X77 hx (t := .boolean) Bd.returns (by simp) (hb hby at_267) hr
    · show (some (.int (1 : Int32)) : Option Value) = some (.int (1 : Int32)) ∧ Fr n0 _ ∧ Keep h0 T77.heap []
      exact ⟨rfl, N77, Kc77⟩
  · obtain ⟨lo78, X78, N78⟩ := own_hide X52 N52
    obtain ⟨cq79, kq79, q79a, q79b, q79c⟩ := isOf hZ e52 ((e_a_STRING_NOT_LIKE hS).ext O52.2)
    obtain ⟨_, _, ⟨T79, L79, k79, n79⟩, -, X79, ⟨Lc79, hQ79, l79, y79, z79⟩, st79⟩ := X78.virtualBack hx (y := (⟨"com/example/menshen/menshen/policy/ConditionOperator", "isNegated", "()Z"⟩ : MethodName)) (z := (⟨"com/example/menshen/menshen/policy/ConditionOperator", "isNegated", "()Z"⟩ : MethodName)) hown (mvT hZ (hw _ (List.mem_of_getElem? (i := 51) rfl))) (mvT hZ (hw _ (List.mem_of_getElem? (i := 52) rfl))) (notFace_of_selects (args := #[]) (mvT hZ (hw _ (List.mem_of_getElem? (i := 54) rfl)))) (mvT hZ (hw _ (List.mem_of_getElem? (i := 54) rfl))) (mvT hZ (hw _ (List.mem_of_getElem? (i := 53) rfl))) (by decide) (backOf (W := 0) (rm1r l Z a0 hw hS [] (a_STRING_NOT_LIKE Z) (a_STRING_LIKE Z) h52 n0 O52 ((f_a_STRING_NOT_LIKE_negationOf hS).ext O52.2)) hZ (hw _ (List.mem_of_getElem? (i := 55) rfl)) (hw _ (List.mem_of_getElem? (i := 3) rfl)) (by decide) (by decide)) q79a q79c (g := (mkF m 220 #[oI p0, oR b6, oI (6 : Int32), oR (a_STRING_NOT_LIKE Z), oI (1 : Int32), oU, oU] [(.ref (a_STRING_NOT_LIKE Z))])) rfl (by rw [hml]; rfl) (Steps.refl _) (argsL := []) (rest := []) (lenOf pd_0 rfl) rfl (by show 2 * 0 + _ ≤ _; exact Nat.le_of_eq rfl) (hb hby at_220) (fun _ _ => ⟨rfl, e52, (by decide : 1 + 0 ≤ _), (by decide : 23 + 0 ≤ _)⟩)
    dsimp only [Pt.U, Pt.locs, Pt.cells, Pt.slots] at X79 l79 y79 z79 st79 hQ79
    subst l79 y79 z79
    obtain ⟨v79, N79q, K79q⟩ := hQ79
    have w79 : (fn1r Z (a_STRING_NOT_LIKE Z) (a_STRING_LIKE Z)) = (1 : Int32) := rfl
    rw [w79] at v79
    subst v79
    have N79 := Fr.app N78 N79q
    have O79 := O52.keep K79q all0
    have Kc79 := Kc52.trans K79q all0
    obtain ⟨cq80, kq80, q80a, q80b, q80c⟩ := isOf hZ rfl ((e_a_STRING_NOT_LIKE hS).ext O79.2)
    obtain ⟨_, _, ⟨T80, L80, k80, n80⟩, -, X80, ⟨Lc80, hQ80, l80, y80, z80⟩, st80⟩ := X79.virtualBack hx (y := (⟨"com/example/menshen/menshen/policy/ConditionOperator", "positive", "()Lcom/example/menshen/menshen/policy/ConditionOperator;"⟩ : MethodName)) (z := (⟨"com/example/menshen/menshen/policy/ConditionOperator", "positive", "()Lcom/example/menshen/menshen/policy/ConditionOperator;"⟩ : MethodName)) hown (mvT hZ (hw _ (List.mem_of_getElem? (i := 58) rfl))) (mvT hZ (hw _ (List.mem_of_getElem? (i := 59) rfl))) (notFace_of_selects (args := #[]) (mvT hZ (hw _ (List.mem_of_getElem? (i := 61) rfl)))) (mvT hZ (hw _ (List.mem_of_getElem? (i := 61) rfl))) (mvT hZ (hw _ (List.mem_of_getElem? (i := 60) rfl))) (by decide) (backOf (W := 0) (rm2r l Z a0 hw hS [] (a_STRING_NOT_LIKE Z) (a_STRING_LIKE Z) T79.heap n0 O79 ((f_a_STRING_NOT_LIKE_negationOf hS).ext O79.2)) hZ (hw _ (List.mem_of_getElem? (i := 62) rfl)) (hw _ (List.mem_of_getElem? (i := 3) rfl)) (by decide) (by decide)) q80a q80c (g := (mkF m 226 #[oI p0, oR b6, oI (6 : Int32), oR (a_STRING_NOT_LIKE Z), oI (1 : Int32), oI (1 : Int32), oU] [(.ref (a_STRING_NOT_LIKE Z))])) rfl (by rw [hml]; rfl) (Steps.refl _) (argsL := []) (rest := []) (lenOf pd_1 rfl) rfl (by show 2 * 0 + _ ≤ _; exact Nat.le_of_eq rfl) (hb hby at_226) (fun _ _ => ⟨rfl, rfl, (by decide : 1 + 0 ≤ _), (by decide : 23 + 0 ≤ _)⟩)
    dsimp only [Pt.U, Pt.locs, Pt.cells, Pt.slots] at X80 l80 y80 z80 st80 hQ80
    subst l80 y80 z80
    obtain ⟨v80, N80q, K80q⟩ := hQ80
    have w80 : (fn2r Z (a_STRING_NOT_LIKE Z) (a_STRING_LIKE Z)) = (a_STRING_LIKE Z) := rfl
    rw [w80] at v80
    subst v80
    have N80 := Fr.app N79 N80q
    have O80 := O79.keep K80q all0
    have Kc80 := Kc79.trans K80q all0
    obtain ⟨cq81, kq81, q81a, q81b, q81c⟩ := isOf hZ rfl ((e_a_STRING_LIKE hS).ext O80.2)
    obtain ⟨_, _, ⟨T81, L81, k81, n81⟩, -, X81, ⟨Lc81, hQ81, l81, y81, z81⟩, st81⟩ := X80.virtualBack hx (y := (⟨"com/example/menshen/menshen/policy/ConditionOperator", "isNegated", "()Z"⟩ : MethodName)) (z := (⟨"com/example/menshen/menshen/policy/ConditionOperator", "isNegated", "()Z"⟩ : MethodName)) hown (mvT hZ (hw _ (List.mem_of_getElem? (i := 51) rfl))) (mvT hZ (hw _ (List.mem_of_getElem? (i := 52) rfl))) (notFace_of_selects (args := #[]) (mvT hZ (hw _ (List.mem_of_getElem? (i := 54) rfl)))) (mvT hZ (hw _ (List.mem_of_getElem? (i := 54) rfl))) (mvT hZ (hw _ (List.mem_of_getElem? (i := 53) rfl))) (by decide) (backOf (W := 0) (rm1n l Z a0 hw hS [] (a_STRING_LIKE Z) T80.heap n0 O80 ((f_a_STRING_LIKE_negationOf hS).ext O80.2)) hZ (hw _ (List.mem_of_getElem? (i := 55) rfl)) (hw _ (List.mem_of_getElem? (i := 3) rfl)) (by decide) (by decide)) q81a q81c (g := (mkF m 256 #[oI p0, oR b6, oI (6 : Int32), oR (a_STRING_NOT_LIKE Z), oI (1 : Int32), oI (1 : Int32), oR (a_STRING_LIKE Z)] [(.ref (a_STRING_LIKE Z))])) rfl (by rw [hml]; rfl) (Steps.refl _) (argsL := []) (rest := []) (lenOf pd_0 rfl) rfl (by show 2 * 0 + _ ≤ _; exact Nat.le_of_eq rfl) (hb hby at_256) (fun _ _ => ⟨rfl, rfl, (by decide : 1 + 0 ≤ _), (by decide : 23 + 0 ≤ _)⟩)
    dsimp only [Pt.U, Pt.locs, Pt.cells, Pt.slots] at X81 l81 y81 z81 st81 hQ81
    subst l81 y81 z81
    obtain ⟨v81, N81q, K81q⟩ := hQ81
    have w81 : (fn1n Z (a_STRING_LIKE Z)) = (0 : Int32) := rfl
    rw [w81] at v81
    subst v81
    have N81 := Fr.app N80 N81q
    have O81 := O80.keep K81q all0
    have Kc81 := Kc80.trans K81q all0
    obtain ⟨fs, hr, hrun, hended, hW, hsame⟩ := X81.leave (v := some (.int (1 : Int32))) (fun h => by rw [Bd.returns] at h; cases h)
    refine ⟨_, _, pre53 _ ?_, hrun, hended, _, _, rfl, ?_, ⟨_, rfl⟩, hW, hsame.mono (by decide) (by decide)⟩
    · show oP p e below T52 (mkF m 168 #[oI p0, oR b6, oU, oU, oU, oU, oU] [(.int (6 : Int32))]) _
      refine XS.istoreN X52.here hx rfl (hb hby at_168) rfl (l' := #[oI p0, oR b6, oI (6 : Int32), oU, oU, oU, oU]) rfl ?_
      show oP p e below T52 (mkF m 169 #[oI p0, oR b6, oI (6 : Int32), oU, oU, oU, oU] []) _
      refine XS.aloadN X52.here hx rfl (hb hby at_169) rfl rfl ?_
      show oP p e below T52 (mkF m 170 #[oI p0, oR b6, oI (6 : Int32), oU, oU, oU, oU] [(.ref b6)]) _
      refine XS.iloadN X52.here hx rfl (hb hby at_170) rfl ?_
      show oP p e below T52 (mkF m 171 #[oI p0, oR b6, oI (6 : Int32), oU, oU, oU, oU] [(.int (6 : Int32)), (.ref b6)]) _
      refine own_aaload X52 hx hZ e52 V52 rfl (j := (6 : Int32)) ⟨by decide, by decide⟩ (v := (.ref (a_STRING_NOT_LIKE Z))) rfl (g := (mkF m 171 #[oI p0, oR b6, oI (6 : Int32), oU, oU, oU, oU] [(.int (6 : Int32)), (.ref b6)])) rfl rfl (hb hby at_171) _ ?_
      show oP p e below T52 (mkF m 172 #[oI p0, oR b6, oI (6 : Int32), oU, oU, oU, oU] [(.ref (a_STRING_NOT_LIKE Z))]) _
      refine XS.astoreN X52.here hx rfl (hb hby at_172) rfl rfl (l' := #[oI p0, oR b6, oI (6 : Int32), oR (a_STRING_NOT_LIKE Z), oU, oU, oU]) rfl ?_
      show oP p e below T52 (mkF m 173 #[oI p0, oR b6, oI (6 : Int32), oR (a_STRING_NOT_LIKE Z), oU, oU, oU] []) _
      refine XS.iloadN X52.here hx rfl (hb hby at_173) rfl ?_
      show oP p e below T52 (mkF m 174 #[oI p0, oR b6, oI (6 : Int32), oR (a_STRING_NOT_LIKE Z), oU, oU, oU] [(.int (6 : Int32))]) _
      refine XS.iconst X52.here hx rfl (hb hby at_174) ?_
      show oP p e below T52 (mkF m 175 #[oI p0, oR b6, oI (6 : Int32), oR (a_STRING_NOT_LIKE Z), oU, oU, oU] [(.int (1 : Int32)), (.int (6 : Int32))]) _
      refine XS.icmpNo X52.here hx rfl (hb hby at_175) rfl (feq (by decide : ¬ ((6 : Int32) = (1 : Int32)))).1 ?_
      show oP p e below T52 (mkF m 178 #[oI p0, oR b6, oI (6 : Int32), oR (a_STRING_NOT_LIKE Z), oU, oU, oU] []) _
      refine XS.iloadN X52.here hx rfl (hb hby at_178) rfl ?_
      show oP p e below T52 (mkF m 179 #[oI p0, oR b6, oI (6 : Int32), oR (a_STRING_NOT_LIKE Z), oU, oU, oU] [(.int (6 : Int32))]) _
      refine XS.iconst X52.here hx rfl (hb hby at_179) ?_
      show oP p e below T52 (mkF m 180 #[oI p0, oR b6, oI (6 : Int32), oR (a_STRING_NOT_LIKE Z), oU, oU, oU] [(.int (2 : Int32)), (.int (6 : Int32))]) _
      refine XS.icmpNo X52.here hx rfl (hb hby at_180) rfl (feq (by decide : ¬ ((6 : Int32) = (2 : Int32)))).1 ?_
      show oP p e below T52 (mkF m 183 #[oI p0, oR b6, oI (6 : Int32), oR (a_STRING_NOT_LIKE Z), oU, oU, oU] []) _
      refine XS.iloadN X52.here hx rfl (hb hby at_183) rfl ?_
      show oP p e below T52 (mkF m 184 #[oI p0, oR b6, oI (6 : Int32), oR (a_STRING_NOT_LIKE Z), oU, oU, oU] [(.int (6 : Int32))]) _
      refine XS.iconst X52.here hx rfl (hb hby at_184) ?_
      show oP p e below T52 (mkF m 185 #[oI p0, oR b6, oI (6 : Int32), oR (a_STRING_NOT_LIKE Z), oU, oU, oU] [(.int (4 : Int32)), (.int (6 : Int32))]) _
      refine XS.icmpNo X52.here hx rfl (hb hby at_185) rfl (feq (by decide : ¬ ((6 : Int32) = (4 : Int32)))).1 ?_
      show oP p e below T52 (mkF m 188 #[oI p0, oR b6, oI (6 : Int32), oR (a_STRING_NOT_LIKE Z), oU, oU, oU] []) _
      refine XS.iloadN X52.here hx rfl (hb hby at_188) rfl ?_
      show oP p e below T52 (mkF m 189 #[oI p0, oR b6, oI (6 : Int32), oR (a_STRING_NOT_LIKE Z), oU, oU, oU] [(.int (6 : Int32))]) _
      refine XS.bipush X52.here hx rfl (hb hby at_189) ?_
      show oP p e below T52 (mkF m 191 #[oI p0, oR b6, oI (6 : Int32), oR (a_STRING_NOT_LIKE Z), oU, oU, oU] [(.int (6 : Int32)), (.int (6 : Int32))]) _
      refine XS.icmpYes X52.here hx rfl (pc0 := 191) (pc' := 212) rfl (hb hby at_191) rfl (teq (by decide : (6 : Int32) = (6 : Int32))).1 (by decide) (by decide) ?_
      show oP p e below T52 (mkF m 212 #[oI p0, oR b6, oI (6 : Int32), oR (a_STRING_NOT_LIKE Z), oU, oU, oU] []) _
      refine XS.iconst X52.here hx rfl (hb hby at_212) ?_
      show oP p e below T52 (mkF m 213 #[oI p0, oR b6, oI (6 : Int32), oR (a_STRING_NOT_LIKE Z), oU, oU, oU] [(.int (1 : Int32))]) _
      refine XS.goto X52.here hx rfl (pc0 := 213) (pc' := 217) rfl (hb hby at_213) (by decide) (by decide) ?_
      show oP p e below T52 (mkF m 217 #[oI p0, oR b6, oI (6 : Int32), oR (a_STRING_NOT_LIKE Z), oU, oU, oU] [(.int (1 : Int32))]) _
      refine XS.istore X52.here hx rfl (hb hby at_217) rfl (l' := #[oI p0, oR b6, oI (6 : Int32), oR (a_STRING_NOT_LIKE Z), oI (1 : Int32), oU, oU]) rfl ?_
      show oP p e below T52 (mkF m 219 #[oI p0, oR b6, oI (6 : Int32), oR (a_STRING_NOT_LIKE Z), oI (1 : Int32), oU, oU] []) _
      refine XS.aloadN X52.here hx rfl (hb hby at_219) rfl rfl ?_
      show oP p e below T52 (mkF m 220 #[oI p0, oR b6, oI (6 : Int32), oR (a_STRING_NOT_LIKE Z), oI (1 : Int32), oU, oU] [(.ref (a_STRING_NOT_LIKE Z))]) _
      refine st79.trans ?_
      show oP p e below T79 (mkF m 223 #[oI p0, oR b6, oI (6 : Int32), oR (a_STRING_NOT_LIKE Z), oI (1 : Int32), oU, oU] [(.int (1 : Int32))]) _
      refine XS.istore X79.here hx rfl (hb hby at_223) rfl (l' := #[oI p0, oR b6, oI (6 : Int32), oR (a_STRING_NOT_LIKE Z), oI (1 : Int32), oI (1 : Int32), oU]) rfl ?_
      show oP p e below T79 (mkF m 225 #[oI p0, oR b6, oI (6 : Int32), oR (a_STRING_NOT_LIKE Z), oI (1 : Int32), oI (1 : Int32), oU] []) _
      refine XS.aloadN X79.here hx rfl (hb hby at_225) rfl rfl ?_
      show oP p e below T79 (mkF m 226 #[oI p0, oR b6, oI (6 : Int32), oR (a_STRING_NOT_LIKE Z), oI (1 : Int32), oI (1 : Int32), oU] [(.ref (a_STRING_NOT_LIKE Z))]) _
      refine st80.trans ?_
      show oP p e below T80 (mkF m 229 #[oI p0, oR b6, oI (6 : Int32), oR (a_STRING_NOT_LIKE Z), oI (1 : Int32), oI (1 : Int32), oU] [(.ref (a_STRING_LIKE Z))]) _
      refine XS.astore X80.here hx rfl (hb hby at_229) rfl rfl (l' := #[oI p0, oR b6, oI (6 : Int32), oR (a_STRING_NOT_LIKE Z), oI (1 : Int32), oI (1 : Int32), oR (a_STRING_LIKE Z)]) rfl ?_
      show oP p e below T80 (mkF m 231 #[oI p0, oR b6, oI (6 : Int32), oR (a_STRING_NOT_LIKE Z), oI (1 : Int32), oI (1 : Int32), oR (a_STRING_LIKE Z)] []) _
      refine XS.iload X80.here hx rfl (hb hby at_231) rfl ?_
      show oP p e below T80 (mkF m 233 #[oI p0, oR b6, oI (6 : Int32), oR (a_STRING_NOT_LIKE Z), oI (1 : Int32), oI (1 : Int32), oR (a_STRING_LIKE Z)] [(.int (1 : Int32))]) _
      refine XS.iload X80.here hx rfl (hb hby at_233) rfl ?_
      show oP p e below T80 (mkF m 235 #[oI p0, oR b6, oI (6 : Int32), oR (a_STRING_NOT_LIKE Z), oI (1 : Int32), oI (1 : Int32), oR (a_STRING_LIKE Z)] [(.int (1 : Int32)), (.int (1 : Int32))]) _
      refine XS.icmpNo X80.here hx rfl (hb hby at_235) rfl (teq (by decide : (1 : Int32) = (1 : Int32))).2 ?_
      show oP p e below T80 (mkF m 238 #[oI p0, oR b6, oI (6 : Int32), oR (a_STRING_NOT_LIKE Z), oI (1 : Int32), oI (1 : Int32), oR (a_STRING_LIKE Z)] []) _
      refine XS.iload X80.here hx rfl (hb hby at_238) rfl ?_
      show oP p e below T80 (mkF m 240 #[oI p0, oR b6, oI (6 : Int32), oR (a_STRING_NOT_LIKE Z), oI (1 : Int32), oI (1 : Int32), oR (a_STRING_LIKE Z)] [(.int (1 : Int32))]) _
      refine XS.aload X80.here hx rfl (hb hby at_240) rfl rfl ?_
      show oP p e below T80 (mkF m 242 #[oI p0, oR b6, oI (6 : Int32), oR (a_STRING_NOT_LIKE Z), oI (1 : Int32), oI (1 : Int32), oR (a_STRING_LIKE Z)] [(.ref (a_STRING_LIKE Z)), (.int (1 : Int32))]) _
      refine XS.aloadN X80.here hx rfl (hb hby at_242) rfl rfl ?_
      show oP p e below T80 (mkF m 243 #[oI p0, oR b6, oI (6 : Int32), oR (a_STRING_NOT_LIKE Z), oI (1 : Int32), oI (1 : Int32), oR (a_STRING_LIKE Z)] [(.ref (a_STRING_NOT_LIKE Z)), (.ref (a_STRING_LIKE Z)), (.int (1 : Int32))]) _
      refine Jvm.RoadKit.acmp (g := (mkF m 243 #[oI p0, oR b6, oI (6 : Int32), oR (a_STRING_NOT_LIKE Z), oI (1 : Int32), oI (1 : Int32), oR (a_STRING_LIKE Z)] [(.ref (a_STRING_NOT_LIKE Z)), (.ref (a_STRING_LIKE Z)), (.int (1 : Int32))])) X80 hx rfl rfl rfl (pc0 := 243) (pc' := 246) (same := false) rfl (hb hby at_243) rfl (decide_eq_false fun q => ((f_a_STRING_LIKE_ordinal hS).ne (f_a_STRING_NOT_LIKE_ordinal hS) (by decide)) (Value.ref.inj q)) (by decide) (by decide) ?_
      show oP p e below T80 (mkF m 246 #[oI p0, oR b6, oI (6 : Int32), oR (a_STRING_NOT_LIKE Z), oI (1 : Int32), oI (1 : Int32), oR (a_STRING_LIKE Z)] [(.int (1 : Int32))]) _
      refine XS.iconst X80.here hx rfl (hb hby at_246) ?_
      show oP p e below T80 (mkF m 247 #[oI p0, oR b6, oI (6 : Int32), oR (a_STRING_NOT_LIKE Z), oI (1 : Int32), oI (1 : Int32), oR (a_STRING_LIKE Z)] [(.int (1 : Int32)), (.int (1 : Int32))]) _
      refine XS.goto X80.here hx rfl (pc0 := 247) (pc' := 251) rfl (hb hby at_247) (by decide) (by decide) ?_
      show oP p e below T80 (mkF m 251 #[oI p0, oR b6, oI (6 : Int32), oR (a_STRING_NOT_LIKE Z), oI (1 : Int32), oI (1 : Int32), oR (a_STRING_LIKE Z)] [(.int (1 : Int32)), (.int (1 : Int32))]) _
      refine XS.icmpNo X80.here hx rfl (hb hby at_251) rfl (teq (by decide : (1 : Int32) = (1 : Int32))).2 ?_
      show oP p e below T80 (mkF m 254 #[oI p0, oR b6, oI (6 : Int32), oR (a_STRING_NOT_LIKE Z), oI (1 : Int32), oI (1 : Int32), oR (a_STRING_LIKE Z)] []) _
      refine XS.aload X80.here hx rfl (hb hby at_254) rfl rfl ?_
      show oP p e below T80 (mkF m 256 #[oI p0, oR b6, oI (6 : Int32), oR (a_STRING_NOT_LIKE Z), oI (1 : Int32), oI (1 : Int32), oR (a_STRING_LIKE Z)] [(.ref (a_STRING_LIKE Z))]) _
      refine st81.trans ?_
      show oP p e below T81 (mkF m 259 #[oI p0, oR b6, oI (6 : Int32), oR (a_STRING_NOT_LIKE Z), oI (1 : Int32), oI (1 : Int32), oR (a_STRING_LIKE Z)] [(.int (0 : Int32))]) _
      refine XS.ifNo X81.here hx rfl (hb hby at_259) rfl ((if0 _ _).trans (teq (by decide : (0 : Int32) = (0 : Int32))).2) ?_
      show oP p e below T81 (mkF m 262 #[oI p0, oR b6, oI (6 : Int32), oR (a_STRING_NOT_LIKE Z), oI (1 : Int32), oI (1 : Int32), oR (a_STRING_LIKE Z)] []) _
      refine XS.iconst X81.here hx rfl (hb hby at_262) ?_
      show oP p e below T81 (mkF m 263 #[oI p0, oR b6, oI (6 : Int32), oR (a_STRING_NOT_LIKE Z), oI (1 : Int32), oI (1 : Int32), oR (a_STRING_LIKE Z)] [(.int (1 : Int32))]) _
      refine XS.goto X81.here hx rfl (pc0 := 263) (pc' := 267) rfl (hb hby at_263) (by decide) (by decide) ?_
      show oP p e below T81 (mkF m 267 #[oI p0, oR b6, oI (6 : Int32), oR (a_STRING_NOT_LIKE Z), oI (1 : Int32), oI (1 : Int32), oR (a_STRING_LIKE Z)] [(.int (1 : Int32))]) _
      exact retN X81 hx (t := .boolean) Bd.returns (by simp) (hb hby at_267) hr
    · show (some (.int (1 : Int32)) : Option Value) = some (.int (1 : Int32)) ∧ Fr n0 _ ∧ Keep h0 T81.heap []
      exact ⟨rfl, N81, Kc81⟩
  · obtain ⟨lo82, X82, N82⟩ := own_hide X52 N52
    obtain ⟨cq83, kq83, q83a, q83b, q83c⟩ := isOf hZ e52 ((e_a_IP_ADDRESS hS).ext O52.2)
    obtain ⟨_, _, ⟨T83, L83, k83, n83⟩, -, X83, ⟨Lc83, hQ83, l83, y83, z83⟩, st83⟩ := X82.virtualBack hx (y := (⟨"com/example/menshen/menshen/policy/ConditionOperator", "isNegated", "()Z"⟩ : MethodName)) (z := (⟨"com/example/menshen/menshen/policy/ConditionOperator", "isNegated", "()Z"⟩ : MethodName)) hown (mvT hZ (hw _ (List.mem_of_getElem? (i := 51) rfl))) (mvT hZ (hw _ (List.mem_of_getElem? (i := 52) rfl))) (notFace_of_selects (args := #[]) (mvT hZ (hw _ (List.mem_of_getElem? (i := 54) rfl)))) (mvT hZ (hw _ (List.mem_of_getElem? (i := 54) rfl))) (mvT hZ (hw _ (List.mem_of_getElem? (i := 53) rfl))) (by decide) (backOf (W := 0) (rm1n l Z a0 hw hS [] (a_IP_ADDRESS Z) h52 n0 O52 ((f_a_IP_ADDRESS_negationOf hS).ext O52.2)) hZ (hw _ (List.mem_of_getElem? (i := 55) rfl)) (hw _ (List.mem_of_getElem? (i := 3) rfl)) (by decide) (by decide)) q83a q83c (g := (mkF m 220 #[oI p0, oR b6, oI (7 : Int32), oR (a_IP_ADDRESS Z), oI (0 : Int32), oU, oU] [(.ref (a_IP_ADDRESS Z))])) rfl (by rw [hml]; rfl) (Steps.refl _) (argsL := []) (rest := []) (lenOf pd_0 rfl) rfl (by show 2 * 0 + _ ≤ _; exact Nat.le_of_eq rfl) (hb hby at_220) (fun _ _ => ⟨rfl, e52, (by decide : 1 + 0 ≤ _), (by decide : 23 + 0 ≤ _)⟩)
    dsimp only [Pt.U, Pt.locs, Pt.cells, Pt.slots] at X83 l83 y83 z83 st83 hQ83
    subst l83 y83 z83
    obtain ⟨v83, N83q, K83q⟩ := hQ83
    have w83 : (fn1n Z (a_IP_ADDRESS Z)) = (0 : Int32) := rfl
    rw [w83] at v83
    subst v83
    have N83 := Fr.app N82 N83q
    have O83 := O52.keep K83q all0
    have Kc83 := Kc52.trans K83q all0
    obtain ⟨cq84, kq84, q84a, q84b, q84c⟩ := isOf hZ rfl ((e_a_IP_ADDRESS hS).ext O83.2)
    obtain ⟨_, _, ⟨T84, L84, k84, n84⟩, -, X84, ⟨Lc84, hQ84, l84, y84, z84⟩, st84⟩ := X83.virtualBack hx (y := (⟨"com/example/menshen/menshen/policy/ConditionOperator", "positive", "()Lcom/example/menshen/menshen/policy/ConditionOperator;"⟩ : MethodName)) (z := (⟨"com/example/menshen/menshen/policy/ConditionOperator", "positive", "()Lcom/example/menshen/menshen/policy/ConditionOperator;"⟩ : MethodName)) hown (mvT hZ (hw _ (List.mem_of_getElem? (i := 58) rfl))) (mvT hZ (hw _ (List.mem_of_getElem? (i := 59) rfl))) (notFace_of_selects (args := #[]) (mvT hZ (hw _ (List.mem_of_getElem? (i := 61) rfl)))) (mvT hZ (hw _ (List.mem_of_getElem? (i := 61) rfl))) (mvT hZ (hw _ (List.mem_of_getElem? (i := 60) rfl))) (by decide) (backOf (W := 0) (rm2n l Z a0 hw hS [] (a_IP_ADDRESS Z) T83.heap n0 O83 ((f_a_IP_ADDRESS_negationOf hS).ext O83.2)) hZ (hw _ (List.mem_of_getElem? (i := 62) rfl)) (hw _ (List.mem_of_getElem? (i := 3) rfl)) (by decide) (by decide)) q84a q84c (g := (mkF m 226 #[oI p0, oR b6, oI (7 : Int32), oR (a_IP_ADDRESS Z), oI (0 : Int32), oI (0 : Int32), oU] [(.ref (a_IP_ADDRESS Z))])) rfl (by rw [hml]; rfl) (Steps.refl _) (argsL := []) (rest := []) (lenOf pd_1 rfl) rfl (by show 2 * 0 + _ ≤ _; exact Nat.le_of_eq rfl) (hb hby at_226) (fun _ _ => ⟨rfl, rfl, (by decide : 1 + 0 ≤ _), (by decide : 23 + 0 ≤ _)⟩)
    dsimp only [Pt.U, Pt.locs, Pt.cells, Pt.slots] at X84 l84 y84 z84 st84 hQ84
    subst l84 y84 z84
    obtain ⟨v84, N84q, K84q⟩ := hQ84
    have w84 : (fn2n Z (a_IP_ADDRESS Z)) = (a_IP_ADDRESS Z) := rfl
    rw [w84] at v84
    subst v84
    have N84 := Fr.app N83 N84q
    have O84 := O83.keep K84q all0
    have Kc84 := Kc83.trans K84q all0
    obtain ⟨cq85, kq85, q85a, q85b, q85c⟩ := isOf hZ rfl ((e_a_IP_ADDRESS hS).ext O84.2)
    obtain ⟨_, _, ⟨T85, L85, k85, n85⟩, -, X85, ⟨Lc85, hQ85, l85, y85, z85⟩, st85⟩ := X84.virtualBack hx (y := (⟨"com/example/menshen/menshen/policy/ConditionOperator", "isNegated", "()Z"⟩ : MethodName)) (z := (⟨"com/example/menshen/menshen/policy/ConditionOperator", "isNegated", "()Z"⟩ : MethodName)) hown (mvT hZ (hw _ (List.mem_of_getElem? (i := 51) rfl))) (mvT hZ (hw _ (List.mem_of_getElem? (i := 52) rfl))) (notFace_of_selects (args := #[]) (mvT hZ (hw _ (List.mem_of_getElem? (i := 54) rfl)))) (mvT hZ (hw _ (List.mem_of_getElem? (i := 54) rfl))) (mvT hZ (hw _ (List.mem_of_getElem? (i := 53) rfl))) (by decide) (backOf (W := 0) (rm1n l Z a0 hw hS [] (a_IP_ADDRESS Z) T84.heap n0 O84 ((f_a_IP_ADDRESS_negationOf hS).ext O84.2)) hZ (hw _ (List.mem_of_getElem? (i := 55) rfl)) (hw _ (List.mem_of_getElem? (i := 3) rfl)) (by decide) (by decide)) q85a q85c (g := (mkF m 256 #[oI p0, oR b6, oI (7 : Int32), oR (a_IP_ADDRESS Z), oI (0 : Int32), oI (0 : Int32), oR (a_IP_ADDRESS Z)] [(.ref (a_IP_ADDRESS Z))])) rfl (by rw [hml]; rfl) (Steps.refl _) (argsL := []) (rest := []) (lenOf pd_0 rfl) rfl (by show 2 * 0 + _ ≤ _; exact Nat.le_of_eq rfl) (hb hby at_256) (fun _ _ => ⟨rfl, rfl, (by decide : 1 + 0 ≤ _), (by decide : 23 + 0 ≤ _)⟩)
    dsimp only [Pt.U, Pt.locs, Pt.cells, Pt.slots] at X85 l85 y85 z85 st85 hQ85
    subst l85 y85 z85
    obtain ⟨v85, N85q, K85q⟩ := hQ85
    have w85 : (fn1n Z (a_IP_ADDRESS Z)) = (0 : Int32) := rfl
    rw [w85] at v85
    subst v85
    have N85 := Fr.app N84 N85q
    have O85 := O84.keep K85q all0
    have Kc85 := Kc84.trans K85q all0
    obtain ⟨fs, hr, hrun, hended, hW, hsame⟩ := X85.leave (v := some (.int (1 : Int32))) (fun h => by rw [Bd.returns] at h; cases h)
    refine ⟨_, _, pre53 _ ?_, hrun, hended, _, _, rfl, ?_, ⟨_, rfl⟩, hW, hsame.mono (by decide) (by decide)⟩
    · show oP p e below T52 (mkF m 168 #[oI p0, oR b6, oU, oU, oU, oU, oU] [(.int (7 : Int32))]) _
      refine XS.istoreN X52.here hx rfl (hb hby at_168) rfl (l' := #[oI p0, oR b6, oI (7 : Int32), oU, oU, oU, oU]) rfl ?_
      show oP p e below T52 (mkF m 169 #[oI p0, oR b6, oI (7 : Int32), oU, oU, oU, oU] []) _
      refine XS.aloadN X52.here hx rfl (hb hby at_169) rfl rfl ?_
      show oP p e below T52 (mkF m 170 #[oI p0, oR b6, oI (7 : Int32), oU, oU, oU, oU] [(.ref b6)]) _
      refine XS.iloadN X52.here hx rfl (hb hby at_170) rfl ?_
      show oP p e below T52 (mkF m 171 #[oI p0, oR b6, oI (7 : Int32), oU, oU, oU, oU] [(.int (7 : Int32)), (.ref b6)]) _
      refine own_aaload X52 hx hZ e52 V52 rfl (j := (7 : Int32)) ⟨by decide, by decide⟩ (v := (.ref (a_IP_ADDRESS Z))) rfl (g := (mkF m 171 #[oI p0, oR b6, oI (7 : Int32), oU, oU, oU, oU] [(.int (7 : Int32)), (.ref b6)])) rfl rfl (hb hby at_171) _ ?_
      show oP p e below T52 (mkF m 172 #[oI p0, oR b6, oI (7 : Int32), oU, oU, oU, oU] [(.ref (a_IP_ADDRESS Z))]) _
      refine XS.astoreN X52.here hx rfl (hb hby at_172) rfl rfl (l' := #[oI p0, oR b6, oI (7 : Int32), oR (a_IP_ADDRESS Z), oU, oU, oU]) rfl ?_
      show oP p e below T52 (mkF m 173 #[oI p0, oR b6, oI (7 : Int32), oR (a_IP_ADDRESS Z), oU, oU, oU] []) _
      refine XS.iloadN X52.here hx rfl (hb hby at_173) rfl ?_
      show oP p e below T52 (mkF m 174 #[oI p0, oR b6, oI (7 : Int32), oR (a_IP_ADDRESS Z), oU, oU, oU] [(.int (7 : Int32))]) _
      refine XS.iconst X52.here hx rfl (hb hby at_174) ?_
      show oP p e below T52 (mkF m 175 #[oI p0, oR b6, oI (7 : Int32), oR (a_IP_ADDRESS Z), oU, oU, oU] [(.int (1 : Int32)), (.int (7 : Int32))]) _
      refine XS.icmpNo X52.here hx rfl (hb hby at_175) rfl (feq (by decide : ¬ ((7 : Int32) = (1 : Int32)))).1 ?_
      show oP p e below T52 (mkF m 178 #[oI p0, oR b6, oI (7 : Int32), oR (a_IP_ADDRESS Z), oU, oU, oU] []) _
      refine XS.iloadN X52.here hx rfl (hb hby at_178) rfl ?_
      show oP p e below T52 (mkF m 179 #[oI p0, oR b6, oI (7 : Int32), oR (a_IP_ADDRESS Z), oU, oU, oU] [(.int (7 : Int32))]) _
      refine XS.iconst X52.here hx rfl (hb hby at_179) ?_
      show oP p e below T52 (mkF m 180 #[oI p0, oR b6, oI (7 : Int32), oR (a_IP_ADDRESS Z), oU, oU, oU] [(.int (2 : Int32)), (.int (7 : Int32))]) _
      refine XS.icmpNo X52.here hx rfl (hb hby at_180) rfl (feq (by decide : ¬ ((7 : Int32) = (2 : Int32)))).1 ?_
      show oP p e below T52 (mkF m 183 #[oI p0, oR b6, oI (7 : Int32), oR (a_IP_ADDRESS Z), oU, oU, oU] []) _
      refine XS.iloadN X52.here hx rfl (hb hby at_183) rfl ?_
      show oP p e below T52 (mkF m 184 #[oI p0, oR b6, oI (7 : Int32), oR (a_IP_ADDRESS Z), oU, oU, oU] [(.int (7 : Int32))]) _
      refine XS.iconst X52.here hx rfl (hb hby at_184) ?_
      show oP p e below T52 (mkF m 185 #[oI p0, oR b6, oI (7 : Int32), oR (a_IP_ADDRESS Z), oU, oU, oU] [(.int (4 : Int32)), (.int (7 : Int32))]) _
      refine XS.icmpNo X52.here hx rfl (hb hby at_185) rfl (feq (by decide : ¬ ((7 : Int32) = (4 : Int32)))).1 ?_
      show oP p e below T52 (mkF m 188 #[oI p0, oR b6, oI (7 : Int32), oR (a_IP_ADDRESS Z), oU, oU, oU] []) _
      refine XS.iloadN X52.here hx rfl (hb hby at_188) rfl ?_
      show oP p e below T52 (mkF m 189 #[oI p0, oR b6, oI (7 : Int32), oR (a_IP_ADDRESS Z), oU, oU, oU] [(.int (7 : Int32))]) _
      refine XS.bipush X52.here hx rfl (hb hby at_189) ?_
      show oP p e below T52 (mkF m 191 #[oI p0, oR b6, oI (7 : Int32), oR (a_IP_ADDRESS Z), oU, oU, oU] [(.int (6 : Int32)), (.int (7 : Int32))]) _
      refine XS.icmpNo X52.here hx rfl (hb hby at_191) rfl (feq (by decide : ¬ ((7 : Int32) = (6 : Int32)))).1 ?_
      show oP p e below T52 (mkF m 194 #[oI p0, oR b6, oI (7 : Int32), oR (a_IP_ADDRESS Z), oU, oU, oU] []) _
      refine XS.iloadN X52.here hx rfl (hb hby at_194) rfl ?_
      show oP p e below T52 (mkF m 195 #[oI p0, oR b6, oI (7 : Int32), oR (a_IP_ADDRESS Z), oU, oU, oU] [(.int (7 : Int32))]) _
      refine XS.bipush X52.here hx rfl (hb hby at_195) ?_
      show oP p e below T52 (mkF m 197 #[oI p0, oR b6, oI (7 : Int32), oR (a_IP_ADDRESS Z), oU, oU, oU] [(.int (8 : Int32)), (.int (7 : Int32))]) _
      refine XS.icmpNo X52.here hx rfl (hb hby at_197) rfl (feq (by decide : ¬ ((7 : Int32) = (8 : Int32)))).1 ?_
      show oP p e below T52 (mkF m 200 #[oI p0, oR b6, oI (7 : Int32), oR (a_IP_ADDRESS Z), oU, oU, oU] []) _
      refine XS.iloadN X52.here hx rfl (hb hby at_200) rfl ?_
      show oP p e below T52 (mkF m 201 #[oI p0, oR b6, oI (7 : Int32), oR (a_IP_ADDRESS Z), oU, oU, oU] [(.int (7 : Int32))]) _
      refine XS.bipush X52.here hx rfl (hb hby at_201) ?_
      show oP p e below T52 (mkF m 203 #[oI p0, oR b6, oI (7 : Int32), oR (a_IP_ADDRESS Z), oU, oU, oU] [(.int (10 : Int32)), (.int (7 : Int32))]) _
      refine XS.icmpNo X52.here hx rfl (hb hby at_203) rfl (feq (by decide : ¬ ((7 : Int32) = (10 : Int32)))).1 ?_
      show oP p e below T52 (mkF m 206 #[oI p0, oR b6, oI (7 : Int32), oR (a_IP_ADDRESS Z), oU, oU, oU] []) _
      refine XS.iloadN X52.here hx rfl (hb hby at_206) rfl ?_
      show oP p e below T52 (mkF m 207 #[oI p0, oR b6, oI (7 : Int32), oR (a_IP_ADDRESS Z), oU, oU, oU] [(.int (7 : Int32))]) _
      refine XS.bipush X52.here hx rfl (hb hby at_207) ?_
      show oP p e below T52 (mkF m 209 #[oI p0, oR b6, oI (7 : Int32), oR (a_IP_ADDRESS Z), oU, oU, oU] [(.int (16 : Int32)), (.int (7 : Int32))]) _
      refine XS.icmpYes X52.here hx rfl (pc0 := 209) (pc' := 216) rfl (hb hby at_209) rfl (feq (by decide : ¬ ((7 : Int32) = (16 : Int32)))).2 (by decide) (by decide) ?_
      show oP p e below T52 (mkF m 216 #[oI p0, oR b6, oI (7 : Int32), oR (a_IP_ADDRESS Z), oU, oU, oU] []) _
      refine XS.iconst X52.here hx rfl (hb hby at_216) ?_
      show oP p e below T52 (mkF m 217 #[oI p0, oR b6, oI (7 : Int32), oR (a_IP_ADDRESS Z), oU, oU, oU] [(.int (0 : Int32))]) _
      refine XS.istore X52.here hx rfl (hb hby at_217) rfl (l' := #[oI p0, oR b6, oI (7 : Int32), oR (a_IP_ADDRESS Z), oI (0 : Int32), oU, oU]) rfl ?_
      show oP p e below T52 (mkF m 219 #[oI p0, oR b6, oI (7 : Int32), oR (a_IP_ADDRESS Z), oI (0 : Int32), oU, oU] []) _
      refine XS.aloadN X52.here hx rfl (hb hby at_219) rfl rfl ?_
      show oP p e below T52 (mkF m 220 #[oI p0, oR b6, oI (7 : Int32), oR (a_IP_ADDRESS Z), oI (0 : Int32), oU, oU] [(.ref (a_IP_ADDRESS Z))]) _
      refine st83.trans ?_
      show oP p e below T83 (mkF m 223 #[oI p0, oR b6, oI (7 : Int32), oR (a_IP_ADDRESS Z), oI (0 : Int32), oU, oU] [(.int (0 : Int32))]) _
      refine XS.istore X83.here hx rfl (hb hby at_223) rfl (l' := #[oI p0, oR b6, oI (7 : Int32), oR (a_IP_ADDRESS Z), oI (0 : Int32), oI (0 : Int32), oU]) rfl ?_
      show oP p e below T83 (mkF m 225 #[oI p0, oR b6, oI (7 : Int32), oR (a_IP_ADDRESS Z), oI (0 : Int32), oI (0 : Int32), oU] []) _
      refine XS.aloadN X83.here hx rfl (hb hby at_225) rfl rfl ?_
      show oP p e below T83 (mkF m 226 #[oI p0, oR b6, oI (7 : Int32), oR (a_IP_ADDRESS Z), oI (0 : Int32), oI (0 : Int32), oU] [(.ref (a_IP_ADDRESS Z))]) _
      refine st84.trans ?_
      show oP p e below T84 (mkF m 229 #[oI p0, oR b6, oI (7 : Int32), oR (a_IP_ADDRESS Z), oI (0 : Int32), oI (0 : Int32), oU] [(.ref (a_IP_ADDRESS Z))]) _
      refine XS.astore X84.here hx rfl (hb hby at_229) rfl rfl (l' := #[oI p0, oR b6, oI (7 : Int32), oR (a_IP_ADDRESS Z), oI (0 : Int32), oI (0 : Int32), oR (a_IP_ADDRESS Z)]) rfl ?_
      show oP p e below T84 (mkF m 231 #[oI p0, oR b6, oI (7 : Int32), oR (a_IP_ADDRESS Z), oI (0 : Int32), oI (0 : Int32), oR (a_IP_ADDRESS Z)] []) _
      refine XS.iload X84.here hx rfl (hb hby at_231) rfl ?_
      show oP p e below T84 (mkF m 233 #[oI p0, oR b6, oI (7 : Int32), oR (a_IP_ADDRESS Z), oI (0 : Int32), oI (0 : Int32), oR (a_IP_ADDRESS Z)] [(.int (0 : Int32))]) _
      refine XS.iload X84.here hx rfl (hb hby at_233) rfl ?_
      show oP p e below T84 (mkF m 235 #[oI p0, oR b6, oI (7 : Int32), oR (a_IP_ADDRESS Z), oI (0 : Int32), oI (0 : Int32), oR (a_IP_ADDRESS Z)] [(.int (0 : Int32)), (.int (0 : Int32))]) _
      refine XS.icmpNo X84.here hx rfl (hb hby at_235) rfl (teq (by decide : (0 : Int32) = (0 : Int32))).2 ?_
      show oP p e below T84 (mkF m 238 #[oI p0, oR b6, oI (7 : Int32), oR (a_IP_ADDRESS Z), oI (0 : Int32), oI (0 : Int32), oR (a_IP_ADDRESS Z)] []) _
      refine XS.iload X84.here hx rfl (hb hby at_238) rfl ?_
      show oP p e below T84 (mkF m 240 #[oI p0, oR b6, oI (7 : Int32), oR (a_IP_ADDRESS Z), oI (0 : Int32), oI (0 : Int32), oR (a_IP_ADDRESS Z)] [(.int (0 : Int32))]) _
      refine XS.aload X84.here hx rfl (hb hby at_240) rfl rfl ?_
      show oP p e below T84 (mkF m 242 #[oI p0, oR b6, oI (7 : Int32), oR (a_IP_ADDRESS Z), oI (0 : Int32), oI (0 : Int32), oR (a_IP_ADDRESS Z)] [(.ref (a_IP_ADDRESS Z)), (.int (0 : Int32))]) _
      refine XS.aloadN X84.here hx rfl (hb hby at_242) rfl rfl ?_
      show oP p e below T84 (mkF m 243 #[oI p0, oR b6, oI (7 : Int32), oR (a_IP_ADDRESS Z), oI (0 : Int32), oI (0 : Int32), oR (a_IP_ADDRESS Z)] [(.ref (a_IP_ADDRESS Z)), (.ref (a_IP_ADDRESS Z)), (.int (0 : Int32))]) _
      refine Jvm.RoadKit.acmp (g := (mkF m 243 #[oI p0, oR b6, oI (7 : Int32), oR (a_IP_ADDRESS Z), oI (0 : Int32), oI (0 : Int32), oR (a_IP_ADDRESS Z)] [(.ref (a_IP_ADDRESS Z)), (.ref (a_IP_ADDRESS Z)), (.int (0 : Int32))])) X84 hx rfl rfl rfl (pc0 := 243) (pc' := 250) (same := true) rfl (hb hby at_243) rfl (decide_eq_true (congrArg Value.ref (rfl : (a_IP_ADDRESS Z) = (a_IP_ADDRESS Z)))) (by decide) (by decide) ?_
      show oP p e below T84 (mkF m 250 #[oI p0, oR b6, oI (7 : Int32), oR (a_IP_ADDRESS Z), oI (0 : Int32), oI (0 : Int32), oR (a_IP_ADDRESS Z)] [(.int (0 : Int32))]) _
      refine XS.iconst X84.here hx rfl (hb hby at_250) ?_
      show oP p e below T84 (mkF m 251 #[oI p0, oR b6, oI (7 : Int32), oR (a_IP_ADDRESS Z), oI (0 : Int32), oI (0 : Int32), oR (a_IP_ADDRESS Z)] [(.int (0 : Int32)), (.int (0 : Int32))]) _
      refine XS.icmpNo X84.here hx rfl (hb hby at_251) rfl (teq (by decide : (0 : Int32) = (0 : Int32))).2 ?_
      show oP p e below T84 (mkF m 254 #[oI p0, oR b6, oI (7 : Int32), oR (a_IP_ADDRESS Z), oI (0 : Int32), oI (0 : Int32), oR (a_IP_ADDRESS Z)] []) _
      refine XS.aload X84.here hx rfl (hb hby at_254) rfl rfl ?_
      show oP p e below T84 (mkF m 256 #[oI p0, oR b6, oI (7 : Int32), oR (a_IP_ADDRESS Z), oI (0 : Int32), oI (0 : Int32), oR (a_IP_ADDRESS Z)] [(.ref (a_IP_ADDRESS Z))]) _
      refine st85.trans ?_
      show oP p e below T85 (mkF m 259 #[oI p0, oR b6, oI (7 : Int32), oR (a_IP_ADDRESS Z), oI (0 : Int32), oI (0 : Int32), oR (a_IP_ADDRESS Z)] [(.int (0 : Int32))]) _
      refine XS.ifNo X85.here hx rfl (hb hby at_259) rfl ((if0 _ _).trans (teq (by decide : (0 : Int32) = (0 : Int32))).2) ?_
      show oP p e below T85 (mkF m 262 #[oI p0, oR b6, oI (7 : Int32), oR (a_IP_ADDRESS Z), oI (0 : Int32), oI (0 : Int32), oR (a_IP_ADDRESS Z)] []) _
      refine XS.iconst X85.here hx rfl (hb hby at_262) ?_
      show oP p e below T85 (mkF m 263 #[oI p0, oR b6, oI (7 : Int32), oR (a_IP_ADDRESS Z), oI (0 : Int32), oI (0 : Int32), oR (a_IP_ADDRESS Z)] [(.int (1 : Int32))]) _
      refine XS.goto X85.here hx rfl (pc0 := 263) (pc' := 267) rfl (hb hby at_263) (by decide) (by decide) ?_
      show oP p e below T85 (mkF m 267 #[oI p0, oR b6, oI (7 : Int32), oR (a_IP_ADDRESS Z), oI (0 : Int32), oI (0 : Int32), oR (a_IP_ADDRESS Z)] [(.int (1 : Int32))]) _
      exact retN X85 hx (t := .boolean) Bd.returns (by simp) (hb hby at_267) hr
    · show (some (.int (1 : Int32)) : Option Value) = some (.int (1 : Int32)) ∧ Fr n0 _ ∧ Keep h0 T85.heap []
      exact ⟨rfl, N85, Kc85⟩
  · obtain ⟨lo86, X86, N86⟩ := own_hide X52 N52
    obtain ⟨cq87, kq87, q87a, q87b, q87c⟩ := isOf hZ e52 ((e_a_NOT_IP_ADDRESS hS).ext O52.2)
    obtain ⟨_, _, ⟨T87, L87, k87, n87⟩, -, X87, ⟨Lc87, hQ87, l87, y87, z87⟩, st87⟩ := X86.virtualBack hx (y := (⟨"com/example/menshen/menshen/policy/ConditionOperator", "isNegated", "()Z"⟩ : MethodName)) (z := (⟨"com/example/menshen/menshen/policy/ConditionOperator", "isNegated", "()Z"⟩ : MethodName)) hown (mvT hZ (hw _ (List.mem_of_getElem? (i := 51) rfl))) (mvT hZ (hw _ (List.mem_of_getElem? (i := 52) rfl))) (notFace_of_selects (args := #[]) (mvT hZ (hw _ (List.mem_of_getElem? (i := 54) rfl)))) (mvT hZ (hw _ (List.mem_of_getElem? (i := 54) rfl))) (mvT hZ (hw _ (List.mem_of_getElem? (i := 53) rfl))) (by decide) (backOf (W := 0) (rm1r l Z a0 hw hS [] (a_NOT_IP_ADDRESS Z) (a_IP_ADDRESS Z) h52 n0 O52 ((f_a_NOT_IP_ADDRESS_negationOf hS).ext O52.2)) hZ (hw _ (List.mem_of_getElem? (i := 55) rfl)) (hw _ (List.mem_of_getElem? (i := 3) rfl)) (by decide) (by decide)) q87a q87c (g := (mkF m 220 #[oI p0, oR b6, oI (8 : Int32), oR (a_NOT_IP_ADDRESS Z), oI (1 : Int32), oU, oU] [(.ref (a_NOT_IP_ADDRESS Z))])) rfl (by rw [hml]; rfl) (Steps.refl _) (argsL := []) (rest := []) (lenOf pd_0 rfl) rfl (by show 2 * 0 + _ ≤ _; exact Nat.le_of_eq rfl) (hb hby at_220) (fun _ _ => ⟨rfl, e52, (by decide : 1 + 0 ≤ _), (by decide : 23 + 0 ≤ _)⟩)
    dsimp only [Pt.U, Pt.locs, Pt.cells, Pt.slots] at X87 l87 y87 z87 st87 hQ87
    subst l87 y87 z87
    obtain ⟨v87, N87q, K87q⟩ := hQ87
    have w87 : (fn1r Z (a_NOT_IP_ADDRESS Z) (a_IP_ADDRESS Z)) = (1 : Int32) := rfl
    rw [w87] at v87
    subst v87
    have N87 := Fr.app N86 N87q
    have O87 := O52.keep K87q all0
    have Kc87 := Kc52.trans K87q all0
    obtain ⟨cq88, kq88, q88a, q88b, q88c⟩ := isOf hZ rfl ((e_a_NOT_IP_ADDRESS hS).ext O87.2)
    obtain ⟨_, _, ⟨T88, L88, k88, n88⟩, -, X88, ⟨Lc88, hQ88, l88, y88, z88⟩, st88⟩ := X87.virtualBack hx (y := (⟨"com/example/menshen/menshen/policy/ConditionOperator", "positive", "()Lcom/example/menshen/menshen/policy/ConditionOperator;"⟩ : MethodName)) (z := (⟨"com/example/menshen/menshen/policy/ConditionOperator", "positive", "()Lcom/example/menshen/menshen/policy/ConditionOperator;"⟩ : MethodName)) hown (mvT hZ (hw _ (List.mem_of_getElem? (i := 58) rfl))) (mvT hZ (hw _ (List.mem_of_getElem? (i := 59) rfl))) (notFace_of_selects (args := #[]) (mvT hZ (hw _ (List.mem_of_getElem? (i := 61) rfl)))) (mvT hZ (hw _ (List.mem_of_getElem? (i := 61) rfl))) (mvT hZ (hw _ (List.mem_of_getElem? (i := 60) rfl))) (by decide) (backOf (W := 0) (rm2r l Z a0 hw hS [] (a_NOT_IP_ADDRESS Z) (a_IP_ADDRESS Z) T87.heap n0 O87 ((f_a_NOT_IP_ADDRESS_negationOf hS).ext O87.2)) hZ (hw _ (List.mem_of_getElem? (i := 62) rfl)) (hw _ (List.mem_of_getElem? (i := 3) rfl)) (by decide) (by decide)) q88a q88c (g := (mkF m 226 #[oI p0, oR b6, oI (8 : Int32), oR (a_NOT_IP_ADDRESS Z), oI (1 : Int32), oI (1 : Int32), oU] [(.ref (a_NOT_IP_ADDRESS Z))])) rfl (by rw [hml]; rfl) (Steps.refl _) (argsL := []) (rest := []) (lenOf pd_1 rfl) rfl (by show 2 * 0 + _ ≤ _; exact Nat.le_of_eq rfl) (hb hby at_226) (fun _ _ => ⟨rfl, rfl, (by decide : 1 + 0 ≤ _), (by decide : 23 + 0 ≤ _)⟩)
    dsimp only [Pt.U, Pt.locs, Pt.cells, Pt.slots] at X88 l88 y88 z88 st88 hQ88
    subst l88 y88 z88
    obtain ⟨v88, N88q, K88q⟩ := hQ88
    have w88 : (fn2r Z (a_NOT_IP_ADDRESS Z) (a_IP_ADDRESS Z)) = (a_IP_ADDRESS Z) := rfl
    rw [w88] at v88
    subst v88
    have N88 := Fr.app N87 N88q
    have O88 := O87.keep K88q all0
    have Kc88 := Kc87.trans K88q all0
    obtain ⟨cq89, kq89, q89a, q89b, q89c⟩ := isOf hZ rfl ((e_a_IP_ADDRESS hS).ext O88.2)
    obtain ⟨_, _, ⟨T89, L89, k89, n89⟩, -, X89, ⟨Lc89, hQ89, l89, y89, z89⟩, st89⟩ := X88.virtualBack hx (y := (⟨"com/example/menshen/menshen/policy/ConditionOperator", "isNegated", "()Z"⟩ : MethodName)) (z := (⟨"com/example/menshen/menshen/policy/ConditionOperator", "isNegated", "()Z"⟩ : MethodName)) hown (mvT hZ (hw _ (List.mem_of_getElem? (i := 51) rfl))) (mvT hZ (hw _ (List.mem_of_getElem? (i := 52) rfl))) (notFace_of_selects (args := #[]) (mvT hZ (hw _ (List.mem_of_getElem? (i := 54) rfl)))) (mvT hZ (hw _ (List.mem_of_getElem? (i := 54) rfl))) (mvT hZ (hw _ (List.mem_of_getElem? (i := 53) rfl))) (by decide) (backOf (W := 0) (rm1n l Z a0 hw hS [] (a_IP_ADDRESS Z) T88.heap n0 O88 ((f_a_IP_ADDRESS_negationOf hS).ext O88.2)) hZ (hw _ (List.mem_of_getElem? (i := 55) rfl)) (hw _ (List.mem_of_getElem? (i := 3) rfl)) (by decide) (by decide)) q89a q89c (g := (mkF m 256 #[oI p0, oR b6, oI (8 : Int32), oR (a_NOT_IP_ADDRESS Z), oI (1 : Int32), oI (1 : Int32), oR (a_IP_ADDRESS Z)] [(.ref (a_IP_ADDRESS Z))])) rfl (by rw [hml]; rfl) (Steps.refl _) (argsL := []) (rest := []) (lenOf pd_0 rfl) rfl (by show 2 * 0 + _ ≤ _; exact Nat.le_of_eq rfl) (hb hby at_256) (fun _ _ => ⟨rfl, rfl, (by decide : 1 + 0 ≤ _), (by decide : 23 + 0 ≤ _)⟩)
    dsimp only [Pt.U, Pt.locs, Pt.cells, Pt.slots] at X89 l89 y89 z89 st89 hQ89
    subst l89 y89 z89
    obtain ⟨v89, N89q, K89q⟩ := hQ89
    have w89 : (fn1n Z (a_IP_ADDRESS Z)) = (0 : Int32) := rfl
    rw [w89] at v89
    subst v89
    have N89 := Fr.app N88 N89q
    have O89 := O88.keep K89q all0
    have Kc89 := Kc88.trans K89q all0
    obtain ⟨fs, hr, hrun, hended, hW, hsame⟩ := X89.leave (v := some (.int (1 : Int32))) (fun h => by rw [Bd.returns] at h; cases h)
    refine ⟨_, _, pre53 _ ?_, hrun, hended, _, _, rfl, ?_, ⟨_, rfl⟩, hW, hsame.mono (by decide) (by decide)⟩
    · show oP p e below T52 (mkF m 168 #[oI p0, oR b6, oU, oU, oU, oU, oU] [(.int (8 : Int32))]) _
      refine XS.istoreN X52.here hx rfl (hb hby at_168) rfl (l' := #[oI p0, oR b6, oI (8 : Int32), oU, oU, oU, oU]) rfl ?_
      show oP p e below T52 (mkF m 169 #[oI p0, oR b6, oI (8 : Int32), oU, oU, oU, oU] []) _
      refine XS.aloadN X52.here hx rfl (hb hby at_169) rfl rfl ?_
      show oP p e below T52 (mkF m 170 #[oI p0, oR b6, oI (8 : Int32), oU, oU, oU, oU] [(.ref b6)]) _
      refine XS.iloadN X52.here hx rfl (hb hby at_170) rfl ?_
      show oP p e below T52 (mkF m 171 #[oI p0, oR b6, oI (8 : Int32), oU, oU, oU, oU] [(.int (8 : Int32)), (.ref b6)]) _
      refine own_aaload X52 hx hZ e52 V52 rfl (j := (8 : Int32)) ⟨by decide, by decide⟩ (v := (.ref (a_NOT_IP_ADDRESS Z))) rfl (g := (mkF m 171 #[oI p0, oR b6, oI (8 : Int32), oU, oU, oU, oU] [(.int (8 : Int32)), (.ref b6)])) rfl rfl (hb hby at_171) _ ?_
      show oP p e below T52 (mkF m 172 #[oI p0, oR b6, oI (8 : Int32), oU, oU, oU, oU] [(.ref (a_NOT_IP_ADDRESS Z))]) _
      refine XS.astoreN X52.here hx rfl (hb hby at_172) rfl rfl (l' := #[oI p0, oR b6, oI (8 : Int32), oR (a_NOT_IP_ADDRESS Z), oU, oU, oU]) rfl ?_
      show oP p e below T52 (mkF m 173 #[oI p0, oR b6, oI (8 : Int32), oR (a_NOT_IP_ADDRESS Z), oU, oU, oU] []) _
      refine XS.iloadN X52.here hx rfl (hb hby at_173) rfl ?_
      show oP p e below T52 (mkF m 174 #[oI p0, oR b6, oI (8 : Int32), oR (a_NOT_IP_ADDRESS Z), oU, oU, oU] [(.int (8 : Int32))]) _
      refine XS.iconst X52.here hx rfl (hb hby at_174) ?_
      show oP p e below T52 (mkF m 175 #[oI p0, oR b6, oI (8 : Int32), oR (a_NOT_IP_ADDRESS Z), oU, oU, oU] [(.int (1 : Int32)), (.int (8 : Int32))]) _
      refine XS.icmpNo X52.here hx rfl (hb hby at_175) rfl (feq (by decide : ¬ ((8 : Int32) = (1 : Int32)))).1 ?_
      show oP p e below T52 (mkF m 178 #[oI p0, oR b6, oI (8 : Int32), oR (a_NOT_IP_ADDRESS Z), oU, oU, oU] []) _
      refine XS.iloadN X52.here hx rfl (hb hby at_178) rfl ?_
      show oP p e below T52 (mkF m 179 #[oI p0, oR b6, oI (8 : Int32), oR (a_NOT_IP_ADDRESS Z), oU, oU, oU] [(.int (8 : Int32))]) _
      refine XS.iconst X52.here hx rfl (hb hby at_179) ?_
      show oP p e below T52 (mkF m 180 #[oI p0, oR b6, oI (8 : Int32), oR (a_NOT_IP_ADDRESS Z), oU, oU, oU] [(.int (2 : Int32)), (.int (8 : Int32))]) _
      refine XS.icmpNo X52.here hx rfl (hb hby at_180) rfl (feq (by decide : ¬ ((8 : Int32) = (2 : Int32)))).1 ?_
      show oP p e below T52 (mkF m 183 #[oI p0, oR b6, oI (8 : Int32), oR (a_NOT_IP_ADDRESS Z), oU, oU, oU] []) _
      refine XS.iloadN X52.here hx rfl (hb hby at_183) rfl ?_
      show oP p e below T52 (mkF m 184 #[oI p0, oR b6, oI (8 : Int32), oR (a_NOT_IP_ADDRESS Z), oU, oU, oU] [(.int (8 : Int32))]) _
      refine XS.iconst X52.here hx rfl (hb hby at_184) ?_
      show oP p e below T52 (mkF m 185 #[oI p0, oR b6, oI (8 : Int32), oR (a_NOT_IP_ADDRESS Z), oU, oU, oU] [(.int (4 : Int32)), (.int (8 : Int32))]) _
      refine XS.icmpNo X52.here hx rfl (hb hby at_185) rfl (feq (by decide : ¬ ((8 : Int32) = (4 : Int32)))).1 ?_
      show oP p e below T52 (mkF m 188 #[oI p0, oR b6, oI (8 : Int32), oR (a_NOT_IP_ADDRESS Z), oU, oU, oU] []) _
      refine XS.iloadN X52.here hx rfl (hb hby at_188) rfl ?_
      show oP p e below T52 (mkF m 189 #[oI p0, oR b6, oI (8 : Int32), oR (a_NOT_IP_ADDRESS Z), oU, oU, oU] [(.int (8 : Int32))]) _
      refine XS.bipush X52.here hx rfl (hb hby at_189) ?_
      show oP p e below T52 (mkF m 191 #[oI p0, oR b6, oI (8 : Int32), oR (a_NOT_IP_ADDRESS Z), oU, oU, oU] [(.int (6 : Int32)), (.int (8 : Int32))]) _
      refine XS.icmpNo X52.here hx rfl (hb hby at_191) rfl (feq (by decide : ¬ ((8 : Int32) = (6 : Int32)))).1 ?_
      show oP p e below T52 (mkF m 194 #[oI p0, oR b6, oI (8 : Int32), oR (a_NOT_IP_ADDRESS Z), oU, oU, oU] []) _
      refine XS.iloadN X52.here hx rfl (hb hby at_194) rfl ?_
      show oP p e below T52 (mkF m 195 #[oI p0, oR b6, oI (8 : Int32), oR (a_NOT_IP_ADDRESS Z), oU, oU, oU] [(.int (8 : Int32))]) _
      refine XS.bipush X52.here hx rfl (hb hby at_195) ?_
      show oP p e below T52 (mkF m 197 #[oI p0, oR b6, oI (8 : Int32), oR (a_NOT_IP_ADDRESS Z), oU, oU, oU] [(.int (8 : Int32)), (.int (8 : Int32))]) _
      refine XS.icmpYes X52.here hx rfl (pc0 := 197) (pc' := 212) rfl (hb hby at_197) rfl (teq (by decide : (8 : Int32) = (8 : Int32))).1 (by decide) (by decide) ?_
      show oP p e below T52 (mkF m 212 #[oI p0, oR b6, oI (8 : Int32), oR (a_NOT_IP_ADDRESS Z), oU, oU, oU] []) _
      refine XS.iconst X52.here hx rfl (hb hby at_212) ?_
      show oP p e below T52 (mkF m 213 #[oI p0, oR b6, oI (8 : Int32), oR (a_NOT_IP_ADDRESS Z), oU, oU, oU] [(.int (1 : Int32))]) _
      refine XS.goto X52.here hx rfl (pc0 := 213) (pc' := 217) rfl (hb hby at_213) (by decide) (by decide) ?_
      show oP p e below T52 (mkF m 217 #[oI p0, oR b6, oI (8 : Int32), oR (a_NOT_IP_ADDRESS Z), oU, oU, oU] [(.int (1 : Int32))]) _
      refine XS.istore X52.here hx rfl (hb hby at_217) rfl (l' := #[oI p0, oR b6, oI (8 : Int32), oR (a_NOT_IP_ADDRESS Z), oI (1 : Int32), oU, oU]) rfl ?_
      show oP p e below T52 (mkF m 219 #[oI p0, oR b6, oI (8 : Int32), oR (a_NOT_IP_ADDRESS Z), oI (1 : Int32), oU, oU] []) _
      refine XS.aloadN X52.here hx rfl (hb hby at_219) rfl rfl ?_
      show oP p e below T52 (mkF m 220 #[oI p0, oR b6, oI (8 : Int32), oR (a_NOT_IP_ADDRESS Z), oI (1 : Int32), oU, oU] [(.ref (a_NOT_IP_ADDRESS Z))]) _
      refine st87.trans ?_
      show oP p e below T87 (mkF m 223 #[oI p0, oR b6, oI (8 : Int32), oR (a_NOT_IP_ADDRESS Z), oI (1 : Int32), oU, oU] [(.int (1 : Int32))]) _
      refine XS.istore X87.here hx rfl (hb hby at_223) rfl (l' := #[oI p0, oR b6, oI (8 : Int32), oR (a_NOT_IP_ADDRESS Z), oI (1 : Int32), oI (1 : Int32), oU]) rfl ?_
      show oP p e below T87 (mkF m 225 #[oI p0, oR b6, oI (8 : Int32), oR (a_NOT_IP_ADDRESS Z), oI (1 : Int32), oI (1 : Int32), oU] []) _
      refine XS.aloadN X87.here hx rfl (hb hby at_225) rfl rfl ?_
      show oP p e below T87 (mkF m 226 #[oI p0, oR b6, oI (8 : Int32), oR (a_NOT_IP_ADDRESS Z), oI (1 : Int32), oI (1 : Int32), oU] [(.ref (a_NOT_IP_ADDRESS Z))]) _
      refine st88.trans ?_
      show oP p e below T88 (mkF m 229 #[oI p0, oR b6, oI (8 : Int32), oR (a_NOT_IP_ADDRESS Z), oI (1 : Int32), oI (1 : Int32), oU] [(.ref (a_IP_ADDRESS Z))]) _
      refine XS.astore X88.here hx rfl (hb hby at_229) rfl rfl (l' := #[oI p0, oR b6, oI (8 : Int32), oR (a_NOT_IP_ADDRESS Z), oI (1 : Int32), oI (1 : Int32), oR (a_IP_ADDRESS Z)]) rfl ?_
      show oP p e below T88 (mkF m 231 #[oI p0, oR b6, oI (8 : Int32), oR (a_NOT_IP_ADDRESS Z), oI (1 : Int32), oI (1 : Int32), oR (a_IP_ADDRESS Z)] []) _
      refine XS.iload X88.here hx rfl (hb hby at_231) rfl ?_
      show oP p e below T88 (mkF m 233 #[oI p0, oR b6, oI (8 : Int32), oR (a_NOT_IP_ADDRESS Z), oI (1 : Int32), oI (1 : Int32), oR (a_IP_ADDRESS Z)] [(.int (1 : Int32))]) _
      refine XS.iload X88.here hx rfl (hb hby at_233) rfl ?_
      show oP p e below T88 (mkF m 235 #[oI p0, oR b6, oI (8 : Int32), oR (a_NOT_IP_ADDRESS Z), oI (1 : Int32), oI (1 : Int32), oR (a_IP_ADDRESS Z)] [(.int (1 : Int32)), (.int (1 : Int32))]) _
      refine XS.icmpNo X88.here hx rfl (hb hby at_235) rfl (teq (by decide : (1 : Int32) = (1 : Int32))).2 ?_
      show oP p e below T88 (mkF m 238 #[oI p0, oR b6, oI (8 : Int32), oR (a_NOT_IP_ADDRESS Z), oI (1 : Int32), oI (1 : Int32), oR (a_IP_ADDRESS Z)] []) _
      refine XS.iload X88.here hx rfl (hb hby at_238) rfl ?_
      show oP p e below T88 (mkF m 240 #[oI p0, oR b6, oI (8 : Int32), oR (a_NOT_IP_ADDRESS Z), oI (1 : Int32), oI (1 : Int32), oR (a_IP_ADDRESS Z)] [(.int (1 : Int32))]) _
      refine XS.aload X88.here hx rfl (hb hby at_240) rfl rfl ?_
      show oP p e below T88 (mkF m 242 #[oI p0, oR b6, oI (8 : Int32), oR (a_NOT_IP_ADDRESS Z), oI (1 : Int32), oI (1 : Int32), oR (a_IP_ADDRESS Z)] [(.ref (a_IP_ADDRESS Z)), (.int (1 : Int32))]) _
      refine XS.aloadN X88.here hx rfl (hb hby at_242) rfl rfl ?_
      show oP p e below T88 (mkF m 243 #[oI p0, oR b6, oI (8 : Int32), oR (a_NOT_IP_ADDRESS Z), oI (1 : Int32), oI (1 : Int32), oR (a_IP_ADDRESS Z)] [(.ref (a_NOT_IP_ADDRESS Z)), (.ref (a_IP_ADDRESS Z)), (.int (1 : Int32))]) _
      refine Jvm.RoadKit.acmp (g := (mkF m 243 #[oI p0, oR b6, oI (8 : Int32), oR (a_NOT_IP_ADDRESS Z), oI (1 : Int32), oI (1 : Int32), oR (a_IP_ADDRESS Z)] [(.ref (a_NOT_IP_ADDRESS Z)), (.ref (a_IP_ADDRESS Z)), (.int (1 : Int32))])) X88 hx rfl rfl rfl (pc0 := 243) (pc' := 246) (same := false) rfl (hb hby at_243) rfl (decide_eq_false fun q => ((f_a_IP_ADDRESS_ordinal hS).ne (f_a_NOT_IP_ADDRESS_ordinal hS) (by decide)) (Value.ref.inj q)) (by decide) (by decide) ?_
      show oP p e below T88 (mkF m 246 #[oI p0, oR b6, oI (8 : Int32), oR (a_NOT_IP_ADDRESS Z), oI (1 : Int32), oI (1 : Int32), oR (a_IP_ADDRESS Z)] [(.int (1 : Int32))]) _
      refine XS.iconst X88.here hx rfl (hb hby at_246) ?_
      show oP p e below T88 (mkF m 247 #[oI p0, oR b6, oI (8 : Int32), oR (a_NOT_IP_ADDRESS Z), oI (1 : Int32), oI (1 : Int32), oR (a_IP_ADDRESS Z)] [(.int (1 : Int32)), (.int (1 : Int32))]) _
      refine XS.goto X88.here hx rfl (pc0 := 247) (pc' := 251) rfl (hb hby at_247) (by decide) (by decide) ?_
      show oP p e below T88 (mkF m 251 #[oI p0, oR b6, oI (8 : Int32), oR (a_NOT_IP_ADDRESS Z), oI (1 : Int32), oI (1 : Int32), oR (a_IP_ADDRESS Z)] [(.int (1 : Int32)), (.int (1 : Int32))]) _
      refine XS.icmpNo X88.here hx rfl (hb hby at_251) rfl (teq (by decide : (1 : Int32) = (1 : Int32))).2 ?_
      show oP p e below T88 (mkF m 254 #[oI p0, oR b6, oI (8 : Int32), oR (a_NOT_IP_ADDRESS Z), oI (1 : Int32), oI (1 : Int32), oR (a_IP_ADDRESS Z)] []) _
      refine XS.aload X88.here hx rfl (hb hby at_254) rfl rfl ?_
      show oP p e below T88 (mkF m 256 #[oI p0, oR b6, oI (8 : Int32), oR (a_NOT_IP_ADDRESS Z), oI (1 : Int32), oI (1 : Int32), oR (a_IP_ADDRESS Z)] [(.ref (a_IP_ADDRESS Z))]) _
      refine st89.trans ?_
      show oP p e below T89 (mkF m 259 #[oI p0, oR b6, oI (8 : Int32), oR (a_NOT_IP_ADDRESS Z), oI (1 : Int32), oI (1 : Int32), oR (a_IP_ADDRESS Z)] [(.int (0 : Int32))]) _
      refine XS.ifNo X89.here hx rfl (hb hby at_259) rfl ((if0 _ _).trans (teq (by decide : (0 : Int32) = (0 : Int32))).2) ?_
      show oP p e below T89 (mkF m 262 #[oI p0, oR b6, oI (8 : Int32), oR (a_NOT_IP_ADDRESS Z), oI (1 : Int32), oI (1 : Int32), oR (a_IP_ADDRESS Z)] []) _
      refine XS.iconst X89.here hx rfl (hb hby at_262) ?_
      show oP p e below T89 (mkF m 263 #[oI p0, oR b6, oI (8 : Int32), oR (a_NOT_IP_ADDRESS Z), oI (1 : Int32), oI (1 : Int32), oR (a_IP_ADDRESS Z)] [(.int (1 : Int32))]) _
      refine XS.goto X89.here hx rfl (pc0 := 263) (pc' := 267) rfl (hb hby at_263) (by decide) (by decide) ?_
      show oP p e below T89 (mkF m 267 #[oI p0, oR b6, oI (8 : Int32), oR (a_NOT_IP_ADDRESS Z), oI (1 : Int32), oI (1 : Int32), oR (a_IP_ADDRESS Z)] [(.int (1 : Int32))]) _
      exact retN X89 hx (t := .boolean) Bd.returns (by simp) (hb hby at_267) hr
    · show (some (.int (1 : Int32)) : Option Value) = some (.int (1 : Int32)) ∧ Fr n0 _ ∧ Keep h0 T89.heap []
      exact ⟨rfl, N89, Kc89⟩
  · obtain ⟨lo90, X90, N90⟩ := own_hide X52 N52
    obtain ⟨cq91, kq91, q91a, q91b, q91c⟩ := isOf hZ e52 ((e_a_NUMERIC_EQUALS hS).ext O52.2)
    obtain ⟨_, _, ⟨T91, L91, k91, n91⟩, -, X91, ⟨Lc91, hQ91, l91, y91, z91⟩, st91⟩ := X90.virtualBack hx (y := (⟨"com/example/menshen/menshen/policy/ConditionOperator", "isNegated", "()Z"⟩ : MethodName)) (z := (⟨"com/example/menshen/menshen/policy/ConditionOperator", "isNegated", "()Z"⟩ : MethodName)) hown (mvT hZ (hw _ (List.mem_of_getElem? (i := 51) rfl))) (mvT hZ (hw _ (List.mem_of_getElem? (i := 52) rfl))) (notFace_of_selects (args := #[]) (mvT hZ (hw _ (List.mem_of_getElem? (i := 54) rfl)))) (mvT hZ (hw _ (List.mem_of_getElem? (i := 54) rfl))) (mvT hZ (hw _ (List.mem_of_getElem? (i := 53) rfl))) (by decide) (backOf (W := 0) (rm1n l Z a0 hw hS [] (a_NUMERIC_EQUALS Z) h52 n0 O52 ((f_a_NUMERIC_EQUALS_negationOf hS).ext O52.2)) hZ (hw _ (List.mem_of_getElem? (i := 55) rfl)) (hw _ (List.mem_of_getElem? (i := 3) rfl)) (by decide) (by decide)) q91a q91c (g := (mkF m 220 #[oI p0, oR b6, oI (9 : Int32), oR (a_NUMERIC_EQUALS Z), oI (0 : Int32), oU, oU] [(.ref (a_NUMERIC_EQUALS Z))])) rfl (by rw [hml]; rfl) (Steps.refl _) (argsL := []) (rest := []) (lenOf pd_0 rfl) rfl (by show 2 * 0 + _ ≤ _; exact Nat.le_of_eq rfl) (hb hby at_220) (fun _ _ => ⟨rfl, e52, (by decide : 1 + 0 ≤ _), (by decide : 23 + 0 ≤ _)⟩)
    dsimp only [Pt.U, Pt.locs, Pt.cells, Pt.slots] at X91 l91 y91 z91 st91 hQ91
    subst l91 y91 z91
    obtain ⟨v91, N91q, K91q⟩ := hQ91
    have w91 : (fn1n Z (a_NUMERIC_EQUALS Z)) = (0 : Int32) := rfl
    rw [w91] at v91
    subst v91
    have N91 := Fr.app N90 N91q
    have O91 := O52.keep K91q all0
    have Kc91 := Kc52.trans K91q all0
    obtain ⟨cq92, kq92, q92a, q92b, q92c⟩ := isOf hZ rfl ((e_a_NUMERIC_EQUALS hS).ext O91.2)
    obtain ⟨_, _, ⟨T92, L92, k92, n92⟩, -, X92, ⟨Lc92, hQ92, l92, y92, z92⟩, st92⟩ := X91.virtualBack hx (y := (⟨"com/example/menshen/menshen/policy/ConditionOperator", "positive", "()Lcom/example/menshen/menshen/policy/ConditionOperator;"⟩ : MethodName)) (z := (⟨"com/example/menshen/menshen/policy/ConditionOperator", "positive", "()Lcom/example/menshen/menshen/policy/ConditionOperator;"⟩ : MethodName)) hown (mvT hZ (hw _ (List.mem_of_getElem? (i := 58) rfl))) (mvT hZ (hw _ (List.mem_of_getElem? (i := 59) rfl))) (notFace_of_selects (args := #[]) (mvT hZ (hw _ (List.mem_of_getElem? (i := 61) rfl)))) (mvT hZ (hw _ (List.mem_of_getElem? (i := 61) rfl))) (mvT hZ (hw _ (List.mem_of_getElem? (i := 60) rfl))) (by decide) (backOf (W := 0) (rm2n l Z a0 hw hS [] (a_NUMERIC_EQUALS Z) T91.heap n0 O91 ((f_a_NUMERIC_EQUALS_negationOf hS).ext O91.2)) hZ (hw _ (List.mem_of_getElem? (i := 62) rfl)) (hw _ (List.mem_of_getElem? (i := 3) rfl)) (by decide) (by decide)) q92a q92c (g := (mkF m 226 #[oI p0, oR b6, oI (9 : Int32), oR (a_NUMERIC_EQUALS Z), oI (0 : Int32), oI (0 : Int32), oU] [(.ref (a_NUMERIC_EQUALS Z))])) rfl (by rw [hml]; rfl) (Steps.refl _) (argsL := []) (rest := []) (lenOf pd_1 rfl) rfl (by show 2 * 0 + _ ≤ _; exact Nat.le_of_eq rfl) (hb hby at_226) (fun _ _ => ⟨rfl, rfl, (by decide : 1 + 0 ≤ _), (by decide : 23 + 0 ≤ _)⟩)
    dsimp only [Pt.U, Pt.locs, Pt.cells, Pt.slots] at X92 l92 y92 z92 st92 hQ92
    subst l92 y92 z92
    obtain ⟨v92, N92q, K92q⟩ := hQ92
    have w92 : (fn2n Z (a_NUMERIC_EQUALS Z)) = (a_NUMERIC_EQUALS Z) := rfl
    rw [w92] at v92
    subst v92
    have N92 := Fr.app N91 N92q
    have O92 := O91.keep K92q all0
    have Kc92 := Kc91.trans K92q all0
    obtain ⟨cq93, kq93, q93a, q93b, q93c⟩ := isOf hZ rfl ((e_a_NUMERIC_EQUALS hS).ext O92.2)
    obtain ⟨_, _, ⟨T93, L93, k93, n93⟩, -, X93, ⟨Lc93, hQ93, l93, y93, z93⟩, st93⟩ := X92.virtualBack hx (y := (⟨"com/example/menshen/menshen/policy/ConditionOperator", "isNegated", "()Z"⟩ : MethodName)) (z := (⟨"com/example/menshen/menshen/policy/ConditionOperator", "isNegated", "()Z"⟩ : MethodName)) hown (mvT hZ (hw _ (List.mem_of_getElem? (i := 51) rfl))) (mvT hZ (hw _ (List.mem_of_getElem? (i := 52) rfl))) (notFace_of_selects (args := #[]) (mvT hZ (hw _ (List.mem_of_getElem? (i := 54) rfl)))) (mvT hZ (hw _ (List.mem_of_getElem? (i := 54) rfl))) (mvT hZ (hw _ (List.mem_of_getElem? (i := 53) rfl))) (by decide) (backOf (W := 0) (rm1n l Z a0 hw hS [] (a_NUMERIC_EQUALS Z) T92.heap n0 O92 ((f_a_NUMERIC_EQUALS_negationOf hS).ext O92.2)) hZ (hw _ (List.mem_of_getElem? (i := 55) rfl)) (hw _ (List.mem_of_getElem? (i := 3) rfl)) (by decide) (by decide)) q93a q93c (g := (mkF m 256 #[oI p0, oR b6, oI (9 : Int32), oR (a_NUMERIC_EQUALS Z), oI (0 : Int32), oI (0 : Int32), oR (a_NUMERIC_EQUALS Z)] [(.ref (a_NUMERIC_EQUALS Z))])) rfl (by rw [hml]; rfl) (Steps.refl _) (argsL := []) (rest := []) (lenOf pd_0 rfl) rfl (by show 2 * 0 + _ ≤ _; exact Nat.le_of_eq rfl) (hb hby at_256) (fun _ _ => ⟨rfl, rfl, (by decide : 1 + 0 ≤ _), (by decide : 23 + 0 ≤ _)⟩)
    dsimp only [Pt.U, Pt.locs, Pt.cells, Pt.slots] at X93 l93 y93 z93 st93 hQ93
    subst l93 y93 z93
    obtain ⟨v93, N93q, K93q⟩ := hQ93
    have w93 : (fn1n Z (a_NUMERIC_EQUALS Z)) = (0 : Int32) := rfl
    rw [w93] at v93
    subst v93
    have N93 := Fr.app N92 N93q
    have O93 := O92.keep K93q all0
    have Kc93 := Kc92.trans K93q all0
    obtain ⟨fs, hr, hrun, hended, hW, hsame⟩ := X93.leave (v := some (.int (1 : Int32))) (fun h => by rw [Bd.returns] at h; cases h)
    refine ⟨_, _, pre53 _ ?_, hrun, hended, _, _, rfl, ?_, ⟨_, rfl⟩, hW, hsame.mono (by decide) (by decide)⟩
    · show oP p e below T52 (mkF m 168 #[oI p0, oR b6, oU, oU, oU, oU, oU] [(.int (9 : Int32))]) _
      refine XS.istoreN X52.here hx rfl (hb hby at_168) rfl (l' := #[oI p0, oR b6, oI (9 : Int32), oU, oU, oU, oU]) rfl ?_
      show oP p e below T52 (mkF m 169 #[oI p0, oR b6, oI (9 : Int32), oU, oU, oU, oU] []) _
      refine XS.aloadN X52.here hx rfl (hb hby at_169) rfl rfl ?_
      show oP p e below T52 (mkF m 170 #[oI p0, oR b6, oI (9 : Int32), oU, oU, oU, oU] [(.ref b6)]) _
      refine XS.iloadN X52.here hx rfl (hb hby at_170) rfl ?_
      show oP p e below T52 (mkF m 171 #[oI p0, oR b6, oI (9 : Int32), oU, oU, oU, oU] [(.int (9 : Int32)), (.ref b6)]) _
      refine own_aaload X52 hx hZ e52 V52 rfl (j := (9 : Int32)) ⟨by decide, by decide⟩ (v := (.ref (a_NUMERIC_EQUALS Z))) rfl (g := (mkF m 171 #[oI p0, oR b6, oI (9 : Int32), oU, oU, oU, oU] [(.int (9 : Int32)), (.ref b6)])) rfl rfl (hb hby at_171) _ ?_
      show oP p e below T52 (mkF m 172 #[oI p0, oR b6, oI (9 : Int32), oU, oU, oU, oU] [(.ref (a_NUMERIC_EQUALS Z))]) _
      refine XS.astoreN X52.here hx rfl (hb hby at_172) rfl rfl (l' := #[oI p0, oR b6, oI (9 : Int32), oR (a_NUMERIC_EQUALS Z), oU, oU, oU]) rfl ?_
      show oP p e below T52 (mkF m 173 #[oI p0, oR b6, oI (9 : Int32), oR (a_NUMERIC_EQUALS Z), oU, oU, oU] []) _
      refine XS.iloadN X52.here hx rfl (hb hby at_173) rfl ?_
      show oP p e below T52 (mkF m 174 #[oI p0, oR b6, oI (9 : Int32), oR (a_NUMERIC_EQUALS Z), oU, oU, oU] [(.int (9 : Int32))]) _
      refine XS.iconst X52.here hx rfl (hb hby at_174) ?_
      show oP p e below T52 (mkF m 175 #[oI p0, oR b6, oI (9 : Int32), oR (a_NUMERIC_EQUALS Z), oU, oU, oU] [(.int (1 : Int32)), (.int (9 : Int32))]) _
      refine XS.icmpNo X52.here hx rfl (hb hby at_175) rfl (feq (by decide : ¬ ((9 : Int32) = (1 : Int32)))).1 ?_
      show oP p e below T52 (mkF m 178 #[oI p0, oR b6, oI (9 : Int32), oR (a_NUMERIC_EQUALS Z), oU, oU, oU] []) _
      refine XS.iloadN X52.here hx rfl (hb hby at_178) rfl ?_
      show oP p e below T52 (mkF m 179 #[oI p0, oR b6, oI (9 : Int32), oR (a_NUMERIC_EQUALS Z), oU, oU, oU] [(.int (9 : Int32))]) _
      refine XS.iconst X52.here hx rfl (hb hby at_179) ?_
      show oP p e below T52 (mkF m 180 #[oI p0, oR b6, oI (9 : Int32), oR (a_NUMERIC_EQUALS Z), oU, oU, oU] [(.int (2 : Int32)), (.int (9 : Int32))]) _
      refine XS.icmpNo X52.here hx rfl (hb hby at_180) rfl (feq (by decide : ¬ ((9 : Int32) = (2 : Int32)))).1 ?_
      show oP p e below T52 (mkF m 183 #[oI p0, oR b6, oI (9 : Int32), oR (a_NUMERIC_EQUALS Z), oU, oU, oU] []) _
      refine XS.iloadN X52.here hx rfl (hb hby at_183) rfl ?_
      show oP p e below T52 (mkF m 184 #[oI p0, oR b6, oI (9 : Int32), oR (a_NUMERIC_EQUALS Z), oU, oU, oU] [(.int (9 : Int32))]) _
      refine XS.iconst X52.here hx rfl (hb hby at_184) ?_
      show oP p e below T52 (mkF m 185 #[oI p0, oR b6, oI (9 : Int32), oR (a_NUMERIC_EQUALS Z), oU, oU, oU] [(.int (4 : Int32)), (.int (9 : Int32))]) _
      refine XS.icmpNo X52.here hx rfl (hb hby at_185) rfl (feq (by decide : ¬ ((9 : Int32) = (4 : Int32)))).1 ?_
      show oP p e below T52 (mkF m 188 #[oI p0, oR b6, oI (9 : Int32), oR (a_NUMERIC_EQUALS Z), oU, oU, oU] []) _
      refine XS.iloadN X52.here hx rfl (hb hby at_188) rfl ?_
      show oP p e below T52 (mkF m 189 #[oI p0, oR b6, oI (9 : Int32), oR (a_NUMERIC_EQUALS Z), oU, oU, oU] [(.int (9 : Int32))]) _
      refine XS.bipush X52.here hx rfl (hb hby at_189) ?_
      show oP p e below T52 (mkF m 191 #[oI p0, oR b6, oI (9 : Int32), oR (a_NUMERIC_EQUALS Z), oU, oU, oU] [(.int (6 : Int32)), (.int (9 : Int32))]) _
      refine XS.icmpNo X52.here hx rfl (hb hby at_191) rfl (feq (by decide : ¬ ((9 : Int32) = (6 : Int32)))).1 ?_
      show oP p e below T52 (mkF m 194 #[oI p0, oR b6, oI (9 : Int32), oR (a_NUMERIC_EQUALS Z), oU, oU, oU] []) _
      refine XS.iloadN X52.here hx rfl (hb hby at_194) rfl ?_
      show oP p e below T52 (mkF m 195 #[oI p0, oR b6, oI (9 : Int32), oR (a_NUMERIC_EQUALS Z), oU, oU, oU] [(.int (9 : Int32))]) _
      refine XS.bipush X52.here hx rfl (hb hby at_195) ?_
      show oP p e below T52 (mkF m 197 #[oI p0, oR b6, oI (9 : Int32), oR (a_NUMERIC_EQUALS Z), oU, oU, oU] [(.int (8 : Int32)), (.int (9 : Int32))]) _
      refine XS.icmpNo X52.here hx rfl (hb hby at_197) rfl (feq (by decide : ¬ ((9 : Int32) = (8 : Int32)))).1 ?_
      show oP p e below T52 (mkF m 200 #[oI p0, oR b6, oI (9 : Int32), oR (a_NUMERIC_EQUALS Z), oU, oU, oU] []) _
      refine XS.iloadN X52.here hx rfl (hb hby at_200) rfl ?_
      show oP p e below T52 (mkF m 201 #[oI p0, oR b6, oI (9 : Int32), oR (a_NUMERIC_EQUALS Z), oU, oU, oU] [(.int (9 : Int32))]) _
      refine XS.bipush X52.here hx rfl (hb hby at_201) ?_
      show oP p e below T52 (mkF m 203 #[oI p0, oR b6, oI (9 : Int32), oR (a_NUMERIC_EQUALS Z), oU, oU, oU] [(.int (10 : Int32)), (.int (9 : Int32))]) _
      refine XS.icmpNo X52.here hx rfl (hb hby at_203) rfl (feq (by decide : ¬ ((9 : Int32) = (10 : Int32)))).1 ?_
      show oP p e below T52 (mkF m 206 #[oI p0, oR b6, oI (9 : Int32), oR (a_NUMERIC_EQUALS Z), oU, oU, oU] []) _
      refine XS.iloadN X52.here hx rfl (hb hby at_206) rfl ?_
      show oP p e below T52 (mkF m 207 #[oI p0, oR b6, oI (9 : Int32), oR (a_NUMERIC_EQUALS Z), oU, oU, oU] [(.int (9 : Int32))]) _
      refine XS.bipush X52.here hx rfl (hb hby at_207) ?_
      show oP p e below T52 (mkF m 209 #[oI p0, oR b6, oI (9 : Int32), oR (a_NUMERIC_EQUALS Z), oU, oU, oU] [(.int (16 : Int32)), (.int (9 : Int32))]) _
      refine XS.icmpYes X52.here hx rfl (pc0 := 209) (pc' := 216) rfl (hb hby at_209) rfl (feq (by decide : ¬ ((9 : Int32) = (16 : Int32)))).2 (by decide) (by decide) ?_
      show oP p e below T52 (mkF m 216 #[oI p0, oR b6, oI (9 : Int32), oR (a_NUMERIC_EQUALS Z), oU, oU, oU] []) _
      refine XS.iconst X52.here hx rfl (hb hby at_216) ?_
      show oP p e below T52 (mkF m 217 #[oI p0, oR b6, oI (9 : Int32), oR (a_NUMERIC_EQUALS Z), oU, oU, oU] [(.int (0 : Int32))]) _
      refine XS.istore X52.here hx rfl (hb hby at_217) rfl (l' := #[oI p0, oR b6, oI (9 : Int32), oR (a_NUMERIC_EQUALS Z), oI (0 : Int32), oU, oU]) rfl ?_
      show oP p e below T52 (mkF m 219 #[oI p0, oR b6, oI (9 : Int32), oR (a_NUMERIC_EQUALS Z), oI (0 : Int32), oU, oU] []) _
      refine XS.aloadN X52.here hx rfl (hb hby at_219) rfl rfl ?_
      show oP p e below T52 (mkF m 220 #[oI p0, oR b6, oI (9 : Int32), oR (a_NUMERIC_EQUALS Z), oI (0 : Int32), oU, oU] [(.ref (a_NUMERIC_EQUALS Z))]) _
      refine st91.trans ?_
      show oP p e below T91 (mkF m 223 #[oI p0, oR b6, oI (9 : Int32), oR (a_NUMERIC_EQUALS Z), oI (0 : Int32), oU, oU] [(.int (0 : Int32))]) _
      refine XS.istore X91.here hx rfl (hb hby at_223) rfl (l' := #[oI p0, oR b6, oI (9 : Int32), oR (a_NUMERIC_EQUALS Z), oI (0 : Int32), oI (0 : Int32), oU]) rfl ?_
      show oP p e below T91 (mkF m 225 #[oI p0, oR b6, oI (9 : Int32), oR (a_NUMERIC_EQUALS Z), oI (0 : Int32), oI (0 : Int32), oU] []) _
      refine XS.aloadN X91.here hx rfl (hb hby at_225) rfl rfl ?_
      show oP p e below T91 (mkF m 226 #[oI p0, oR b6, oI (9 : Int32), oR (a_NUMERIC_EQUALS Z), oI (0 : Int32), oI (0 : Int32), oU] [(.ref (a_NUMERIC_EQUALS Z))]) _
      refine st92.trans ?_
      show oP p e below T92 (mkF m 229 #[oI p0, oR b6, oI (9 : Int32), oR (a_NUMERIC_EQUALS Z), oI (0 : Int32), oI (0 : Int32), oU] [(.ref (a_NUMERIC_EQUALS Z))]) _
      refine XS.astore X92.here hx rfl (hb hby at_229) rfl rfl (l' := #[oI p0, oR b6, oI (9 : Int32), oR (a_NUMERIC_EQUALS Z), oI (0 : Int32), oI (0 : Int32), oR (a_NUMERIC_EQUALS Z)]) rfl ?_
      show oP p e below T92 (mkF m 231 #[oI p0, oR b6, oI (9 : Int32), oR (a_NUMERIC_EQUALS Z), oI (0 : Int32), oI (0 : Int32), oR (a_NUMERIC_EQUALS Z)] []) _
      refine XS.iload X92.here hx rfl (hb hby at_231) rfl ?_
      show oP p e below T92 (mkF m 233 #[oI p0, oR b6, oI (9 : Int32), oR (a_NUMERIC_EQUALS Z), oI (0 : Int32), oI (0 : Int32), oR (a_NUMERIC_EQUALS Z)] [(.int (0 : Int32))]) _
      refine XS.iload X92.here hx rfl (hb hby at_233) rfl ?_
      show oP p e below T92 (mkF m 235 #[oI p0, oR b6, oI (9 : Int32), oR (a_NUMERIC_EQUALS Z), oI (0 : Int32), oI (0 : Int32), oR (a_NUMERIC_EQUALS Z)] [(.int (0 : Int32)), (.int (0 : Int32))]) _
      refine XS.icmpNo X92.here hx rfl (hb hby at_235) rfl (teq (by decide : (0 : Int32) = (0 : Int32))).2 ?_
      show oP p e below T92 (mkF m 238 #[oI p0, oR b6, oI (9 : Int32), oR (a_NUMERIC_EQUALS Z), oI (0 : Int32), oI (0 : Int32), oR (a_NUMERIC_EQUALS Z)] []) _
      refine XS.iload X92.here hx rfl (hb hby at_238) rfl ?_
      show oP p e below T92 (mkF m 240 #[oI p0, oR b6, oI (9 : Int32), oR (a_NUMERIC_EQUALS Z), oI (0 : Int32), oI (0 : Int32), oR (a_NUMERIC_EQUALS Z)] [(.int (0 : Int32))]) _
      refine XS.aload X92.here hx rfl (hb hby at_240) rfl rfl ?_
      show oP p e below T92 (mkF m 242 #[oI p0, oR b6, oI (9 : Int32), oR (a_NUMERIC_EQUALS Z), oI (0 : Int32), oI (0 : Int32), oR (a_NUMERIC_EQUALS Z)] [(.ref (a_NUMERIC_EQUALS Z)), (.int (0 : Int32))]) _
      refine XS.aloadN X92.here hx rfl (hb hby at_242) rfl rfl ?_
      show oP p e below T92 (mkF m 243 #[oI p0, oR b6, oI (9 : Int32), oR (a_NUMERIC_EQUALS Z), oI (0 : Int32), oI (0 : Int32), oR (a_NUMERIC_EQUALS Z)] [(.ref (a_NUMERIC_EQUALS Z)), (.ref (a_NUMERIC_EQUALS Z)), (.int (0 : Int32))]) _
      refine Jvm.RoadKit.acmp (g := (mkF m 243 #[oI p0, oR b6, oI (9 : Int32), oR (a_NUMERIC_EQUALS Z), oI (0 : Int32), oI (0 : Int32), oR (a_NUMERIC_EQUALS Z)] [(.ref (a_NUMERIC_EQUALS Z)), (.ref (a_NUMERIC_EQUALS Z)), (.int (0 : Int32))])) X92 hx rfl rfl rfl (pc0 := 243) (pc' := 250) (same := true) rfl (hb hby at_243) rfl (decide_eq_true (congrArg Value.ref (rfl : (a_NUMERIC_EQUALS Z) = (a_NUMERIC_EQUALS Z)))) (by decide) (by decide) ?_
      show oP p e below T92 (mkF m 250 #[oI p0, oR b6, oI (9 : Int32), oR (a_NUMERIC_EQUALS Z), oI (0 : Int32), oI (0 : Int32), oR (a_NUMERIC_EQUALS Z)] [(.int (0 : Int32))]) _
      refine XS.iconst X92.here hx rfl (hb hby at_250) ?_
      show oP p e below T92 (mkF m 251 #[oI p0, oR b6, oI (9 : Int32), oR (a_NUMERIC_EQUALS Z), oI (0 : Int32), oI (0 : Int32), oR (a_NUMERIC_EQUALS Z)] [(.int (0 : Int32)), (.int (0 : Int32))]) _
      refine XS.icmpNo X92.here hx rfl (hb hby at_251) rfl (teq (by decide : (0 : Int32) = (0 : Int32))).2 ?_
      show oP p e below T92 (mkF m 254 #[oI p0, oR b6, oI (9 : Int32), oR (a_NUMERIC_EQUALS Z), oI (0 : Int32), oI (0 : Int32), oR (a_NUMERIC_EQUALS Z)] []) _
      refine XS.aload X92.here hx rfl (hb hby at_254) rfl rfl ?_
      show oP p e below T92 (mkF m 256 #[oI p0, oR b6, oI (9 : Int32), oR (a_NUMERIC_EQUALS Z), oI (0 : Int32), oI (0 : Int32), oR (a_NUMERIC_EQUALS Z)] [(.ref (a_NUMERIC_EQUALS Z))]) _
      refine st93.trans ?_
      show oP p e below T93 (mkF m 259 #[oI p0, oR b6, oI (9 : Int32), oR (a_NUMERIC_EQUALS Z), oI (0 : Int32), oI (0 : Int32), oR (a_NUMERIC_EQUALS Z)] [(.int (0 : Int32))]) _
      refine XS.ifNo X93.here hx rfl (hb hby at_259) rfl ((if0 _ _).trans (teq (by decide : (0 : Int32) = (0 : Int32))).2) ?_
      show oP p e below T93 (mkF m 262 #[oI p0, oR b6, oI (9 : Int32), oR (a_NUMERIC_EQUALS Z), oI (0 : Int32), oI (0 : Int32), oR (a_NUMERIC_EQUALS Z)] []) _
      refine XS.iconst X93.here hx rfl (hb hby at_262) ?_
      show oP p e below T93 (mkF m 263 #[oI p0, oR b6, oI (9 : Int32), oR (a_NUMERIC_EQUALS Z), oI (0 : Int32), oI (0 : Int32), oR (a_NUMERIC_EQUALS Z)] [(.int (1 : Int32))]) _
      refine XS.goto X93.here hx rfl (pc0 := 263) (pc' := 267) rfl (hb hby at_263) (by decide) (by decide) ?_
      show oP p e below T93 (mkF m 267 #[oI p0, oR b6, oI (9 : Int32), oR (a_NUMERIC_EQUALS Z), oI (0 : Int32), oI (0 : Int32), oR (a_NUMERIC_EQUALS Z)] [(.int (1 : Int32))]) _
      exact retN X93 hx (t := .boolean) Bd.returns (by simp) (hb hby at_267) hr
    · show (some (.int (1 : Int32)) : Option Value) = some (.int (1 : Int32)) ∧ Fr n0 _ ∧ Keep h0 T93.heap []
      exact ⟨rfl, N93, Kc93⟩
  · obtain ⟨lo94, X94, N94⟩ := own_hide X52 N52
    obtain ⟨cq95, kq95, q95a, q95b, q95c⟩ := isOf hZ e52 ((e_a_NUMERIC_NOT_EQUALS hS).ext O52.2)
    obtain ⟨_, _, ⟨T95, L95, k95, n95⟩, -, X95, ⟨Lc95, hQ95, l95, y95, z95⟩, st95⟩ := X94.virtualBack hx (y := (⟨"com/example/menshen/menshen/policy/ConditionOperator", "isNegated", "()Z"⟩ : MethodName)) (z := (⟨"com/example/menshen/menshen/policy/ConditionOperator", "isNegated", "()Z"⟩ : MethodName)) hown (mvT hZ (hw _ (List.mem_of_getElem? (i := 51) rfl))) (mvT hZ (hw _ (List.mem_of_getElem? (i := 52) rfl))) (notFace_of_selects (args := #[]) (mvT hZ (hw _ (List.mem_of_getElem? (i := 54) rfl)))) (mvT hZ (hw _ (List.mem_of_getElem? (i := 54) rfl))) (mvT hZ (hw _ (List.mem_of_getElem? (i := 53) rfl))) (by decide) (backOf (W := 0) (rm1r l Z a0 hw hS [] (a_NUMERIC_NOT_EQUALS Z) (a_NUMERIC_EQUALS Z) h52 n0 O52 ((f_a_NUMERIC_NOT_EQUALS_negationOf hS).ext O52.2)) hZ (hw _ (List.mem_of_getElem? (i := 55) rfl)) (hw _ (List.mem_of_getElem? (i := 3) rfl)) (by decide) (by decide)) q95a q95c (g := (mkF m 220 #[oI p0, oR b6, oI (10 : Int32), oR (a_NUMERIC_NOT_EQUALS Z), oI (1 : Int32), oU, oU] [(.ref (a_NUMERIC_NOT_EQUALS Z))])) rfl (by rw [hml]; rfl) (Steps.refl _) (argsL := []) (rest := []) (lenOf pd_0 rfl) rfl (by show 2 * 0 + _ ≤ _; exact Nat.le_of_eq rfl) (hb hby at_220) (fun _ _ => ⟨rfl, e52, (by decide : 1 + 0 ≤ _), (by decide : 23 + 0 ≤ _)⟩)
    dsimp only [Pt.U, Pt.locs, Pt.cells, Pt.slots] at X95 l95 y95 z95 st95 hQ95
    subst l95 y95 z95
    obtain ⟨v95, N95q, K95q⟩ := hQ95
    have w95 : (fn1r Z (a_NUMERIC_NOT_EQUALS Z) (a_NUMERIC_EQUALS Z)) = (1 : Int32) := rfl
    rw [w95] at v95
    subst v95
    have N95 := Fr.app N94 N95q
    have O95 := O52.keep K95q all0
    have Kc95 := Kc52.trans K95q all0
    obtain ⟨cq96, kq96, q96a, q96b, q96c⟩ := isOf hZ rfl ((e_a_NUMERIC_NOT_EQUALS hS).ext O95.2)
    obtain ⟨_, _, ⟨T96, L96, k96, n96⟩, -, X96, ⟨Lc96, hQ96, l96, y96, z96⟩, st96⟩ := X95.virtualBack hx (y := (⟨"com/example/menshen/menshen/policy/ConditionOperator", "positive", "()Lcom/example/menshen/menshen/policy/ConditionOperator;"⟩ : MethodName)) (z := (⟨"com/example/menshen/menshen/policy/ConditionOperator", "positive", "()Lcom/example/menshen/menshen/policy/ConditionOperator;"⟩ : MethodName)) hown (mvT hZ (hw _ (List.mem_of_getElem? (i := 58) rfl))) (mvT hZ (hw _ (List.mem_of_getElem? (i := 59) rfl))) (notFace_of_selects (args := #[]) (mvT hZ (hw _ (List.mem_of_getElem? (i := 61) rfl)))) (mvT hZ (hw _ (List.mem_of_getElem? (i := 61) rfl))) (mvT hZ (hw _ (List.mem_of_getElem? (i := 60) rfl))) (by decide) (backOf (W := 0) (rm2r l Z a0 hw hS [] (a_NUMERIC_NOT_EQUALS Z) (a_NUMERIC_EQUALS Z) T95.heap n0 O95 ((f_a_NUMERIC_NOT_EQUALS_negationOf hS).ext O95.2)) hZ (hw _ (List.mem_of_getElem? (i := 62) rfl)) (hw _ (List.mem_of_getElem? (i := 3) rfl)) (by decide) (by decide)) q96a q96c (g := (mkF m 226 #[oI p0, oR b6, oI (10 : Int32), oR (a_NUMERIC_NOT_EQUALS Z), oI (1 : Int32), oI (1 : Int32), oU] [(.ref (a_NUMERIC_NOT_EQUALS Z))])) rfl (by rw [hml]; rfl) (Steps.refl _) (argsL := []) (rest := []) (lenOf pd_1 rfl) rfl (by show 2 * 0 + _ ≤ _; exact Nat.le_of_eq rfl) (hb hby at_226) (fun _ _ => ⟨rfl, rfl, (by decide : 1 + 0 ≤ _), (by decide : 23 + 0 ≤ _)⟩)
    dsimp only [Pt.U, Pt.locs, Pt.cells, Pt.slots] at X96 l96 y96 z96 st96 hQ96
    subst l96 y96 z96
    obtain ⟨v96, N96q, K96q⟩ := hQ96
    have w96 : (fn2r Z (a_NUMERIC_NOT_EQUALS Z) (a_NUMERIC_EQUALS Z)) = (a_NUMERIC_EQUALS Z) := rfl
    rw [w96] at v96
    subst v96
    have N96 := Fr.app N95 N96q
    have O96 := O95.keep K96q all0
    have Kc96 := Kc95.trans K96q all0
    obtain ⟨cq97, kq97, q97a, q97b, q97c⟩ := isOf hZ rfl ((e_a_NUMERIC_EQUALS hS).ext O96.2)
    obtain ⟨_, _, ⟨T97, L97, k97, n97⟩, -, X97, ⟨Lc97, hQ97, l97, y97, z97⟩, st97⟩ := X96.virtualBack hx (y := (⟨"com/example/menshen/menshen/policy/ConditionOperator", "isNegated", "()Z"⟩ : MethodName)) (z := (⟨"com/example/menshen/menshen/policy/ConditionOperator", "isNegated", "()Z"⟩ : MethodName)) hown (mvT hZ (hw _ (List.mem_of_getElem? (i := 51) rfl))) (mvT hZ (hw _ (List.mem_of_getElem? (i := 52) rfl))) (notFace_of_selects (args := #[]) (mvT hZ (hw _ (List.mem_of_getElem? (i := 54) rfl)))) (mvT hZ (hw _ (List.mem_of_getElem? (i := 54) rfl))) (mvT hZ (hw _ (List.mem_of_getElem? (i := 53) rfl))) (by decide) (backOf (W := 0) (rm1n l Z a0 hw hS [] (a_NUMERIC_EQUALS Z) T96.heap n0 O96 ((f_a_NUMERIC_EQUALS_negationOf hS).ext O96.2)) hZ (hw _ (List.mem_of_getElem? (i := 55) rfl)) (hw _ (List.mem_of_getElem? (i := 3) rfl)) (by decide) (by decide)) q97a q97c (g := (mkF m 256 #[oI p0, oR b6, oI (10 : Int32), oR (a_NUMERIC_NOT_EQUALS Z), oI (1 : Int32), oI (1 : Int32), oR (a_NUMERIC_EQUALS Z)] [(.ref (a_NUMERIC_EQUALS Z))])) rfl (by rw [hml]; rfl) (Steps.refl _) (argsL := []) (rest := []) (lenOf pd_0 rfl) rfl (by show 2 * 0 + _ ≤ _; exact Nat.le_of_eq rfl) (hb hby at_256) (fun _ _ => ⟨rfl, rfl, (by decide : 1 + 0 ≤ _), (by decide : 23 + 0 ≤ _)⟩)
    dsimp only [Pt.U, Pt.locs, Pt.cells, Pt.slots] at X97 l97 y97 z97 st97 hQ97
    subst l97 y97 z97
    obtain ⟨v97, N97q, K97q⟩ := hQ97
    have w97 : (fn1n Z (a_NUMERIC_EQUALS Z)) = (0 : Int32) := rfl
    rw [w97] at v97
    subst v97
    have N97 := Fr.app N96 N97q
    have O97 := O96.keep K97q all0
    have Kc97 := Kc96.trans K97q all0
    obtain ⟨fs, hr, hrun, hended, hW, hsame⟩ := X97.leave (v := some (.int (1 : Int32))) (fun h => by rw [Bd.returns] at h; cases h)
    refine ⟨_, _, pre53 _ ?_, hrun, hended, _, _, rfl, ?_, ⟨_, rfl⟩, hW, hsame.mono (by decide) (by decide)⟩
    · show oP p e below T52 (mkF m 168 #[oI p0, oR b6, oU, oU, oU, oU, oU] [(.int (10 : Int32))]) _
      refine XS.istoreN X52.here hx rfl (hb hby at_168) rfl (l' := #[oI p0, oR b6, oI (10 : Int32), oU, oU, oU, oU]) rfl ?_
      show oP p e below T52 (mkF m 169 #[oI p0, oR b6, oI (10 : Int32), oU, oU, oU, oU] []) _
      refine XS.aloadN X52.here hx rfl (hb hby at_169) rfl rfl ?_
      show oP p e below T52 (mkF m 170 #[oI p0, oR b6, oI (10 : Int32), oU, oU, oU, oU] [(.ref b6)]) _
      refine XS.iloadN X52.here hx rfl (hb hby at_170) rfl ?_
      show oP p e below T52 (mkF m 171 #[oI p0, oR b6, oI (10 : Int32), oU, oU, oU, oU] [(.int (10 : Int32)), (.ref b6)]) _
      refine own_aaload X52 hx hZ e52 V52 rfl (j := (10 : Int32)) ⟨by decide, by decide⟩ (v := (.ref (a_NUMERIC_NOT_EQUALS Z))) rfl (g := (mkF m 171 #[oI p0, oR b6, oI (10 : Int32), oU, oU, oU, oU] [(.int (10 : Int32)), (.ref b6)])) rfl rfl (hb hby at_171) _ ?_
      show oP p e below T52 (mkF m 172 #[oI p0, oR b6, oI (10 : Int32), oU, oU, oU, oU] [(.ref (a_NUMERIC_NOT_EQUALS Z))]) _
      refine XS.astoreN X52.here hx rfl (hb hby at_172) rfl rfl (l' := #[oI p0, oR b6, oI (10 : Int32), oR (a_NUMERIC_NOT_EQUALS Z), oU, oU, oU]) rfl ?_
      show oP p e below T52 (mkF m 173 #[oI p0, oR b6, oI (10 : Int32), oR (a_NUMERIC_NOT_EQUALS Z), oU, oU, oU] []) _
      refine XS.iloadN X52.here hx rfl (hb hby at_173) rfl ?_
      show oP p e below T52 (mkF m 174 #[oI p0, oR b6, oI (10 : Int32), oR (a_NUMERIC_NOT_EQUALS Z), oU, oU, oU] [(.int (10 : Int32))]) _
      refine XS.iconst X52.here hx rfl (hb hby at_174) ?_
      show oP p e below T52 (mkF m 175 #[oI p0, oR b6, oI (10 : Int32), oR (a_NUMERIC_NOT_EQUALS Z), oU, oU, oU] [(.int (1 : Int32)), (.int (10 : Int32))]) _
      refine XS.icmpNo X52.here hx rfl (hb hby at_175) rfl (feq (by decide : ¬ ((10 : Int32) = (1 : Int32)))).1 ?_
      show oP p e below T52 (mkF m 178 #[oI p0, oR b6, oI (10 : Int32), oR (a_NUMERIC_NOT_EQUALS Z), oU, oU, oU] []) _
      refine XS.iloadN X52.here hx rfl (hb hby at_178) rfl ?_
      show oP p e below T52 (mkF m 179 #[oI p0, oR b6, oI (10 : Int32), oR (a_NUMERIC_NOT_EQUALS Z), oU, oU, oU] [(.int (10 : Int32))]) _
      refine XS.iconst X52.here hx rfl (hb hby at_179) ?_
      show oP p e below T52 (mkF m 180 #[oI p0, oR b6, oI (10 : Int32), oR (a_NUMERIC_NOT_EQUALS Z), oU, oU, oU] [(.int (2 : Int32)), (.int (10 : Int32))]) _
      refine XS.icmpNo X52.here hx rfl (hb hby at_180) rfl (feq (by decide : ¬ ((10 : Int32) = (2 : Int32)))).1 ?_
      show oP p e below T52 (mkF m 183 #[oI p0, oR b6, oI (10 : Int32), oR (a_NUMERIC_NOT_EQUALS Z), oU, oU, oU] []) _
      refine XS.iloadN X52.here hx rfl (hb hby at_183) rfl ?_
      show oP p e below T52 (mkF m 184 #[oI p0, oR b6, oI (10 : Int32), oR (a_NUMERIC_NOT_EQUALS Z), oU, oU, oU] [(.int (10 : Int32))]) _
      refine XS.iconst X52.here hx rfl (hb hby at_184) ?_
      show oP p e below T52 (mkF m 185 #[oI p0, oR b6, oI (10 : Int32), oR (a_NUMERIC_NOT_EQUALS Z), oU, oU, oU] [(.int (4 : Int32)), (.int (10 : Int32))]) _
      refine XS.icmpNo X52.here hx rfl (hb hby at_185) rfl (feq (by decide : ¬ ((10 : Int32) = (4 : Int32)))).1 ?_
      show oP p e below T52 (mkF m 188 #[oI p0, oR b6, oI (10 : Int32), oR (a_NUMERIC_NOT_EQUALS Z), oU, oU, oU] []) _
      refine XS.iloadN X52.here hx rfl (hb hby at_188) rfl ?_
      show oP p e below T52 (mkF m 189 #[oI p0, oR b6, oI (10 : Int32), oR (a_NUMERIC_NOT_EQUALS Z), oU, oU, oU] [(.int (10 : Int32))]) _
      refine XS.bipush X52.here hx rfl (hb hby at_189) ?_
      show oP p e below T52 (mkF m 191 #[oI p0, oR b6, oI (10 : Int32), oR (a_NUMERIC_NOT_EQUALS Z), oU, oU, oU] [(.int (6 : Int32)), (.int (10 : Int32))]) _
      refine XS.icmpNo X52.here hx rfl (hb hby at_191) rfl (feq (by decide : ¬ ((10 : Int32) = (6 : Int32)))).1 ?_
      show oP p e below T52 (mkF m 194 #[oI p0, oR b6, oI (10 : Int32), oR (a_NUMERIC_NOT_EQUALS Z), oU, oU, oU] []) _
      refine XS.iloadN X52.here hx rfl (hb hby at_194) rfl ?_
      show oP p e below T52 (mkF m 195 #[oI p0, oR b6, oI (10 : Int32), oR (a_NUMERIC_NOT_EQUALS Z), oU, oU, oU] [(.int (10 : Int32))]) _
      refine XS.bipush X52.here hx rfl (hb hby at_195) ?_
      show oP p e below T52 (mkF m 197 #[oI p0, oR b6, oI (10 : Int32), oR (a_NUMERIC_NOT_EQUALS Z), oU, oU, oU] [(.int (8 : Int32)), (.int (10 : Int32))]) _
      refine XS.icmpNo X52.here hx rfl (hb hby at_197) rfl (feq (by decide : ¬ ((10 : Int32) = (8 : Int32)))).1 ?_
      show oP p e below T52 (mkF m 200 #[oI p0, oR b6, oI (10 : Int32), oR (a_NUMERIC_NOT_EQUALS Z), oU, oU, oU] []) _
      refine XS.iloadN X52.here hx rfl (hb hby at_200) rfl ?_
      show oP p e below T52 (mkF m 201 #[oI p0, oR b6, oI (10 : Int32), oR (a_NUMERIC_NOT_EQUALS Z), oU, oU, oU] [(.int (10 : Int32))]) _
      refine XS.bipush X52.here hx rfl (hb hby at_201) ?_
      show oP p e below T52 (mkF m 203 #[oI p0, oR b6, oI (10 : Int32), oR (a_NUMERIC_NOT_EQUALS Z), oU, oU, oU] [(.int (10 : Int32)), (.int (10 : Int32))]) _
      refine XS.icmpYes X52.here hx rfl (pc0 := 203) (pc' := 212) rfl (hb hby at_203) rfl (teq (by decide : (10 : Int32) = (10 : Int32))).1 (by decide) (by decide) ?_
      show oP p e below T52 (mkF m 212 #[oI p0, oR b6, oI (10 : Int32), oR (a_NUMERIC_NOT_EQUALS Z), oU, oU, oU] []) _
      refine XS.iconst X52.here hx rfl (hb hby at_212) ?_
      show oP p e below T52 (mkF m 213 #[oI p0, oR b6, oI (10 : Int32), oR (a_NUMERIC_NOT_EQUALS Z), oU, oU, oU] [(.int (1 : Int32))]) _
      refine XS.goto X52.here hx rfl (pc0 := 213) (pc' := 217) rfl (hb hby at_213) (by decide) (by decide) ?_
      show oP p e below T52 (mkF m 217 #[oI p0, oR b6, oI (10 : Int32), oR (a_NUMERIC_NOT_EQUALS Z), oU, oU, oU] [(.int (1 : Int32))]) _
      refine XS.istore X52.here hx rfl (hb hby at_217) rfl (l' := #[oI p0, oR b6, oI (10 : Int32), oR (a_NUMERIC_NOT_EQUALS Z), oI (1 : Int32), oU, oU]) rfl ?_
      show oP p e below T52 (mkF m 219 #[oI p0, oR b6, oI (10 : Int32), oR (a_NUMERIC_NOT_EQUALS Z), oI (1 : Int32), oU, oU] []) _
      refine XS.aloadN X52.here hx rfl (hb hby at_219) rfl rfl ?_
      show oP p e below T52 (mkF m 220 #[oI p0, oR b6, oI (10 : Int32), oR (a_NUMERIC_NOT_EQUALS Z), oI (1 : Int32), oU, oU] [(.ref (a_NUMERIC_NOT_EQUALS Z))]) _
      refine st95.trans ?_
      show oP p e below T95 (mkF m 223 #[oI p0, oR b6, oI (10 : Int32), oR (a_NUMERIC_NOT_EQUALS Z), oI (1 : Int32), oU, oU] [(.int (1 : Int32))]) _
      refine XS.istore X95.here hx rfl (hb hby at_223) rfl (l' := #[oI p0, oR b6, oI (10 : Int32), oR (a_NUMERIC_NOT_EQUALS Z), oI (1 : Int32), oI (1 : Int32), oU]) rfl ?_
      show oP p e below T95 (mkF m 225 #[oI p0, oR b6, oI (10 : Int32), oR (a_NUMERIC_NOT_EQUALS Z), oI (1 : Int32), oI (1 : Int32), oU] []) _
      refine XS.aloadN X95.here hx rfl (hb hby at_225) rfl rfl ?_
      show oP p e below T95 (mkF m 226 #[oI p0, oR b6, oI (10 : Int32), oR (a_NUMERIC_NOT_EQUALS Z), oI (1 : Int32), oI (1 : Int32), oU] [(.ref (a_NUMERIC_NOT_EQUALS Z))]) _
      refine st96.trans ?_
      show oP p e below T96 (mkF m 229 #[oI p0, oR b6, oI (10 : Int32), oR (a_NUMERIC_NOT_EQUALS Z), oI (1 : Int32), oI (1 : Int32), oU] [(.ref (a_NUMERIC_EQUALS Z))]) _
      refine XS.astore X96.here hx rfl (hb hby at_229) rfl rfl (l' := #[oI p0, oR b6, oI (10 : Int32), oR (a_NUMERIC_NOT_EQUALS Z), oI (1 : Int32), oI (1 : Int32), oR (a_NUMERIC_EQUALS Z)]) rfl ?_
      show oP p e below T96 (mkF m 231 #[oI p0, oR b6, oI (10 : Int32), oR (a_NUMERIC_NOT_EQUALS Z), oI (1 : Int32), oI (1 : Int32), oR (a_NUMERIC_EQUALS Z)] []) _
      refine XS.iload X96.here hx rfl (hb hby at_231) rfl ?_
      show oP p e below T96 (mkF m 233 #[oI p0, oR b6, oI (10 : Int32), oR (a_NUMERIC_NOT_EQUALS Z), oI (1 : Int32), oI (1 : Int32), oR (a_NUMERIC_EQUALS Z)] [(.int (1 : Int32))]) _
      refine XS.iload X96.here hx rfl (hb hby at_233) rfl ?_
      show oP p e below T96 (mkF m 235 #[oI p0, oR b6, oI (10 : Int32), oR (a_NUMERIC_NOT_EQUALS Z), oI (1 : Int32), oI (1 : Int32), oR (a_NUMERIC_EQUALS Z)] [(.int (1 : Int32)), (.int (1 : Int32))]) _
      refine XS.icmpNo X96.here hx rfl (hb hby at_235) rfl (teq (by decide : (1 : Int32) = (1 : Int32))).2 ?_
      show oP p e below T96 (mkF m 238 #[oI p0, oR b6, oI (10 : Int32), oR (a_NUMERIC_NOT_EQUALS Z), oI (1 : Int32), oI (1 : Int32), oR (a_NUMERIC_EQUALS Z)] []) _
      refine XS.iload X96.here hx rfl (hb hby at_238) rfl ?_
      show oP p e below T96 (mkF m 240 #[oI p0, oR b6, oI (10 : Int32), oR (a_NUMERIC_NOT_EQUALS Z), oI (1 : Int32), oI (1 : Int32), oR (a_NUMERIC_EQUALS Z)] [(.int (1 : Int32))]) _
      refine XS.aload X96.here hx rfl (hb hby at_240) rfl rfl ?_
      show oP p e below T96 (mkF m 242 #[oI p0, oR b6, oI (10 : Int32), oR (a_NUMERIC_NOT_EQUALS Z), oI (1 : Int32), oI (1 : Int32), oR (a_NUMERIC_EQUALS Z)] [(.ref (a_NUMERIC_EQUALS Z)), (.int (1 : Int32))]) _
      refine XS.aloadN X96.here hx rfl (hb hby at_242) rfl rfl ?_
      show oP p e below T96 (mkF m 243 #[oI p0, oR b6, oI (10 : Int32), oR (a_NUMERIC_NOT_EQUALS Z), oI (1 : Int32), oI (1 : Int32), oR (a_NUMERIC_EQUALS Z)] [(.ref (a_NUMERIC_NOT_EQUALS Z)), (.ref (a_NUMERIC_EQUALS Z)), (.int (1 : Int32))]) _
      refine Jvm.RoadKit.acmp (g := (mkF m 243 #[oI p0, oR b6, oI (10 : Int32), oR (a_NUMERIC_NOT_EQUALS Z), oI (1 : Int32), oI (1 : Int32), oR (a_NUMERIC_EQUALS Z)] [(.ref (a_NUMERIC_NOT_EQUALS Z)), (.ref (a_NUMERIC_EQUALS Z)), (.int (1 : Int32))])) X96 hx rfl rfl rfl (pc0 := 243) (pc' := 246) (same := false) rfl (hb hby at_243) rfl (decide_eq_false fun q => ((f_a_NUMERIC_EQUALS_ordinal hS).ne (f_a_NUMERIC_NOT_EQUALS_ordinal hS) (by decide)) (Value.ref.inj q)) (by decide) (by decide) ?_
      show oP p e below T96 (mkF m 246 #[oI p0, oR b6, oI (10 : Int32), oR (a_NUMERIC_NOT_EQUALS Z), oI (1 : Int32), oI (1 : Int32), oR (a_NUMERIC_EQUALS Z)] [(.int (1 : Int32))]) _
      refine XS.iconst X96.here hx rfl (hb hby at_246) ?_
      show oP p e below T96 (mkF m 247 #[oI p0, oR b6, oI (10 : Int32), oR (a_NUMERIC_NOT_EQUALS Z), oI (1 : Int32), oI (1 : Int32), oR (a_NUMERIC_EQUALS Z)] [(.int (1 : Int32)), (.int (1 : Int32))]) _
      refine XS.goto X96.here hx rfl (pc0 := 247) (pc' := 251) rfl (hb hby at_247) (by decide) (by decide) ?_
      show oP p e below T96 (mkF m 251 #[oI p0, oR b6, oI (10 : Int32), oR (a_NUMERIC_NOT_EQUALS Z), oI (1 : Int32), oI (1 : Int32), oR (a_NUMERIC_EQUALS Z)] [(.int (1 : Int32)), (.int (1 : Int32))]) _
      refine XS.icmpNo X96.here hx rfl (hb hby at_251) rfl (teq (by decide : (1 : Int32) = (1 : Int32))).2 ?_
      show oP p e below T96 (mkF m 254 #[oI p0, oR b6, oI (10 : Int32), oR (a_NUMERIC_NOT_EQUALS Z), oI (1 : Int32), oI (1 : Int32), oR (a_NUMERIC_EQUALS Z)] []) _
      refine XS.aload X96.here hx rfl (hb hby at_254) rfl rfl ?_
      show oP p e below T96 (mkF m 256 #[oI p0, oR b6, oI (10 : Int32), oR (a_NUMERIC_NOT_EQUALS Z), oI (1 : Int32), oI (1 : Int32), oR (a_NUMERIC_EQUALS Z)] [(.ref (a_NUMERIC_EQUALS Z))]) _
      refine st97.trans ?_
      show oP p e below T97 (mkF m 259 #[oI p0, oR b6, oI (10 : Int32), oR (a_NUMERIC_NOT_EQUALS Z), oI (1 : Int32), oI (1 : Int32), oR (a_NUMERIC_EQUALS Z)] [(.int (0 : Int32))]) _
      refine XS.ifNo X97.here hx rfl (hb hby at_259) rfl ((if0 _ _).trans (teq (by decide : (0 : Int32) = (0 : Int32))).2) ?_
      show oP p e below T97 (mkF m 262 #[oI p0, oR b6, oI (10 : Int32), oR (a_NUMERIC_NOT_EQUALS Z), oI (1 : Int32), oI (1 : Int32), oR (a_NUMERIC_EQUALS Z)] []) _
      refine XS.iconst X97.here hx rfl (hb hby at_262) ?_
      show oP p e below T97 (mkF m 263 #[oI p0, oR b6, oI (10 : Int32), oR (a_NUMERIC_NOT_EQUALS Z), oI (1 : Int32), oI (1 : Int32), oR (a_NUMERIC_EQUALS Z)] [(.int (1 : Int32))]) _
      refine XS.goto X97.here hx rfl (pc0 := 263) (pc' := 267) rfl (hb hby at_263) (by decide) (by decide) ?_
      show oP p e below T97 (mkF m 267 #[oI p0, oR b6, oI (10 : Int32), oR (a_NUMERIC_NOT_EQUALS Z), oI (1 : Int32), oI (1 : Int32), oR (a_NUMERIC_EQUALS Z)] [(.int (1 : Int32))]) _
      exact retN X97 hx (t := .boolean) Bd.returns (by simp) (hb hby at_267) hr
    · show (some (.int (1 : Int32)) : Option Value) = some (.int (1 : Int32)) ∧ Fr n0 _ ∧ Keep h0 T97.heap []
      exact ⟨rfl, N97, Kc97⟩
  · obtain ⟨lo98, X98, N98⟩ := own_hide X52 N52
    obtain ⟨cq99, kq99, q99a, q99b, q99c⟩ := isOf hZ e52 ((e_a_NUMERIC_LESS_THAN hS).ext O52.2)
    obtain ⟨_, _, ⟨T99, L99, k99, n99⟩, -, X99, ⟨Lc99, hQ99, l99, y99, z99⟩, st99⟩ := X98.virtualBack hx (y := (⟨"com/example/menshen/menshen/policy/ConditionOperator", "isNegated", "()Z"⟩ : MethodName)) (z := (⟨"com/example/menshen/menshen/policy/ConditionOperator", "isNegated", "()Z"⟩ : MethodName)) hown (mvT hZ (hw _ (List.mem_of_getElem? (i := 51) rfl))) (mvT hZ (hw _ (List.mem_of_getElem? (i := 52) rfl))) (notFace_of_selects (args := #[]) (mvT hZ (hw _ (List.mem_of_getElem? (i := 54) rfl)))) (mvT hZ (hw _ (List.mem_of_getElem? (i := 54) rfl))) (mvT hZ (hw _ (List.mem_of_getElem? (i := 53) rfl))) (by decide) (backOf (W := 0) (rm1n l Z a0 hw hS [] (a_NUMERIC_LESS_THAN Z) h52 n0 O52 ((f_a_NUMERIC_LESS_THAN_negationOf hS).ext O52.2)) hZ (hw _ (List.mem_of_getElem? (i := 55) rfl)) (hw _ (List.mem_of_getElem? (i := 3) rfl)) (by decide) (by decide)) q99a q99c (g := (mkF m 220 #[oI p0, oR b6, oI (11 : Int32), oR (a_NUMERIC_LESS_THAN Z), oI (0 : Int32), oU, oU] [(.ref (a_NUMERIC_LESS_THAN Z))])) rfl (by rw [hml]; rfl) (Steps.refl _) (argsL := []) (rest := []) (lenOf pd_0 rfl) rfl (by show 2 * 0 + _ ≤ _; exact Nat.le_of_eq rfl) (hb hby at_220) (fun _ _ => ⟨rfl, e52, (by decide : 1 + 0 ≤ _), (by decide : 23 + 0 ≤ _)⟩)
    dsimp only [Pt.U, Pt.locs, Pt.cells, Pt.slots] at X99 l99 y99 z99 st99 hQ99
    subst l99 y99 z99
    obtain ⟨v99, N99q, K99q⟩ := hQ99
    have w99 : (fn1n Z (a_NUMERIC_LESS_THAN Z)) = (0 : Int32) := rfl
    rw [w99] at v99
    subst v99
    have N99 := Fr.app N98 N99q
    have O99 := O52.keep K99q all0
    have Kc99 := Kc52.trans K99q all0
    obtain ⟨cq100, kq100, q100a, q100b, q100c⟩ := isOf hZ rfl ((e_a_NUMERIC_LESS_THAN hS).ext O99.2)
    obtain ⟨_, _, ⟨T100, L100, k100, n100⟩, -, X100, ⟨Lc100, hQ100, l100, y100, z100⟩, st100⟩ := X99.virtualBack hx (y := (⟨"com/example/menshen/menshen/policy/ConditionOperator", "positive", "()Lcom/example/menshen/menshen/policy/ConditionOperator;"⟩ : MethodName)) (z := (⟨"com/example/menshen/menshen/policy/ConditionOperator", "positive", "()Lcom/example/menshen/menshen/policy/ConditionOperator;"⟩ : MethodName)) hown (mvT hZ (hw _ (List.mem_of_getElem? (i := 58) rfl))) (mvT hZ (hw _ (List.mem_of_getElem? (i := 59) rfl))) (notFace_of_selects (args := #[]) (mvT hZ (hw _ (List.mem_of_getElem? (i := 61) rfl)))) (mvT hZ (hw _ (List.mem_of_getElem? (i := 61) rfl))) (mvT hZ (hw _ (List.mem_of_getElem? (i := 60) rfl))) (by decide) (backOf (W := 0) (rm2n l Z a0 hw hS [] (a_NUMERIC_LESS_THAN Z) T99.heap n0 O99 ((f_a_NUMERIC_LESS_THAN_negationOf hS).ext O99.2)) hZ (hw _ (List.mem_of_getElem? (i := 62) rfl)) (hw _ (List.mem_of_getElem? (i := 3) rfl)) (by decide) (by decide)) q100a q100c (g := (mkF m 226 #[oI p0, oR b6, oI (11 : Int32), oR (a_NUMERIC_LESS_THAN Z), oI (0 : Int32), oI (0 : Int32), oU] [(.ref (a_NUMERIC_LESS_THAN Z))])) rfl (by rw [hml]; rfl) (Steps.refl _) (argsL := []) (rest := []) (lenOf pd_1 rfl) rfl (by show 2 * 0 + _ ≤ _; exact Nat.le_of_eq rfl) (hb hby at_226) (fun _ _ => ⟨rfl, rfl, (by decide : 1 + 0 ≤ _), (by decide : 23 + 0 ≤ _)⟩)
    dsimp only [Pt.U, Pt.locs, Pt.cells, Pt.slots] at X100 l100 y100 z100 st100 hQ100
    subst l100 y100 z100
    obtain ⟨v100, N100q, K100q⟩ := hQ100
    have w100 : (fn2n Z (a_NUMERIC_LESS_THAN Z)) = (a_NUMERIC_LESS_THAN Z) := rfl
    rw [w100] at v100
    subst v100
    have N100 := Fr.app N99 N100q
    have O100 := O99.keep K100q all0
    have Kc100 := Kc99.trans K100q all0
    obtain ⟨cq101, kq101, q101a, q101b, q101c⟩ := isOf hZ rfl ((e_a_NUMERIC_LESS_THAN hS).ext O100.2)
    obtain ⟨_, _, ⟨T101, L101, k101, n101⟩, -, X101, ⟨Lc101, hQ101, l101, y101, z101⟩, st101⟩ := X100.virtualBack hx (y := (⟨"com/example/menshen/menshen/policy/ConditionOperator", "isNegated", "()Z"⟩ : MethodName)) (z := (⟨"com/example/menshen/menshen/policy/ConditionOperator", "isNegated", "()Z"⟩ : MethodName)) hown (mvT hZ (hw _ (List.mem_of_getElem? (i := 51) rfl))) (mvT hZ (hw _ (List.mem_of_getElem? (i := 52) rfl))) (notFace_of_selects (args := #[]) (mvT hZ (hw _ (List.mem_of_getElem? (i := 54) rfl)))) (mvT hZ (hw _ (List.mem_of_getElem? (i := 54) rfl))) (mvT hZ (hw _ (List.mem_of_getElem? (i := 53) rfl))) (by decide) (backOf (W := 0) (rm1n l Z a0 hw hS [] (a_NUMERIC_LESS_THAN Z) T100.heap n0 O100 ((f_a_NUMERIC_LESS_THAN_negationOf hS).ext O100.2)) hZ (hw _ (List.mem_of_getElem? (i := 55) rfl)) (hw _ (List.mem_of_getElem? (i := 3) rfl)) (by decide) (by decide)) q101a q101c (g := (mkF m 256 #[oI p0, oR b6, oI (11 : Int32), oR (a_NUMERIC_LESS_THAN Z), oI (0 : Int32), oI (0 : Int32), oR (a_NUMERIC_LESS_THAN Z)] [(.ref (a_NUMERIC_LESS_THAN Z))])) rfl (by rw [hml]; rfl) (Steps.refl _) (argsL := []) (rest := []) (lenOf pd_0 rfl) rfl (by show 2 * 0 + _ ≤ _; exact Nat.le_of_eq rfl) (hb hby at_256) (fun _ _ => ⟨rfl, rfl, (by decide : 1 + 0 ≤ _), (by decide : 23 + 0 ≤ _)⟩)
    dsimp only [Pt.U, Pt.locs, Pt.cells, Pt.slots] at X101 l101 y101 z101 st101 hQ101
    subst l101 y101 z101
    obtain ⟨v101, N101q, K101q⟩ := hQ101
    have w101 : (fn1n Z (a_NUMERIC_LESS_THAN Z)) = (0 : Int32) := rfl
    rw [w101] at v101
    subst v101
    have N101 := Fr.app N100 N101q
    have O101 := O100.keep K101q all0
    have Kc101 := Kc100.trans K101q all0
    obtain ⟨fs, hr, hrun, hended, hW, hsame⟩ := X101.leave (v := some (.int (1 : Int32))) (fun h => by rw [Bd.returns] at h; cases h)
    refine ⟨_, _, pre53 _ ?_, hrun, hended, _, _, rfl, ?_, ⟨_, rfl⟩, hW, hsame.mono (by decide) (by decide)⟩
    · show oP p e below T52 (mkF m 168 #[oI p0, oR b6, oU, oU, oU, oU, oU] [(.int (11 : Int32))]) _
      refine XS.istoreN X52.here hx rfl (hb hby at_168) rfl (l' := #[oI p0, oR b6, oI (11 : Int32), oU, oU, oU, oU]) rfl ?_
      show oP p e below T52 (mkF m 169 #[oI p0, oR b6, oI (11 : Int32), oU, oU, oU, oU] []) _
      refine XS.aloadN X52.here hx rfl (hb hby at_169) rfl rfl ?_
      show oP p e below T52 (mkF m 170 #[oI p0, oR b6, oI (11 : Int32), oU, oU, oU, oU] [(.ref b6)]) _
      refine XS.iloadN X52.here hx rfl (hb hby at_170) rfl ?_
      show oP p e below T52 (mkF m 171 #[oI p0, oR b6, oI (11 : Int32), oU, oU, oU, oU] [(.int (11 : Int32)), (.ref b6)]) _
      refine own_aaload X52 hx hZ e52 V52 rfl (j := (11 : Int32)) ⟨by decide, by decide⟩ (v := (.ref (a_NUMERIC_LESS_THAN Z))) rfl (g := (mkF m 171 #[oI p0, oR b6, oI (11 : Int32), oU, oU, oU, oU] [(.int (11 : Int32)), (.ref b6)])) rfl rfl (hb hby at_171) _ ?_
      show oP p e below T52 (mkF m 172 #[oI p0, oR b6, oI (11 : Int32), oU, oU, oU, oU] [(.ref (a_NUMERIC_LESS_THAN Z))]) _
      refine XS.astoreN X52.here hx rfl (hb hby at_172) rfl rfl (l' := #[oI p0, oR b6, oI (11 : Int32), oR (a_NUMERIC_LESS_THAN Z), oU, oU, oU]) rfl ?_
      show oP p e below T52 (mkF m 173 #[oI p0, oR b6, oI (11 : Int32), oR (a_NUMERIC_LESS_THAN Z), oU, oU, oU] []) _
      refine XS.iloadN X52.here hx rfl (hb hby at_173) rfl ?_
      show oP p e below T52 (mkF m 174 #[oI p0, oR b6, oI (11 : Int32), oR (a_NUMERIC_LESS_THAN Z), oU, oU, oU] [(.int (11 : Int32))]) _
      refine XS.iconst X52.here hx rfl (hb hby at_174) ?_
      show oP p e below T52 (mkF m 175 #[oI p0, oR b6, oI (11 : Int32), oR (a_NUMERIC_LESS_THAN Z), oU, oU, oU] [(.int (1 : Int32)), (.int (11 : Int32))]) _
      refine XS.icmpNo X52.here hx rfl (hb hby at_175) rfl (feq (by decide : ¬ ((11 : Int32) = (1 : Int32)))).1 ?_
      show oP p e below T52 (mkF m 178 #[oI p0, oR b6, oI (11 : Int32), oR (a_NUMERIC_LESS_THAN Z), oU, oU, oU] []) _
      refine XS.iloadN X52.here hx rfl (hb hby at_178) rfl ?_
      show oP p e below T52 (mkF m 179 #[oI p0, oR b6, oI (11 : Int32), oR (a_NUMERIC_LESS_THAN Z), oU, oU, oU] [(.int (11 : Int32))]) _
      refine XS.iconst X52.here hx rfl (hb hby at_179) ?_
      show oP p e below T52 (mkF m 180 #[oI p0, oR b6, oI (11 : Int32), oR (a_NUMERIC_LESS_THAN Z), oU, oU, oU] [(.int (2 : Int32)), (.int (11 : Int32))]) _
      refine XS.icmpNo X52.here hx rfl (hb hby at_180) rfl (feq (by decide : ¬ ((11 : Int32) = (2 : Int32)))).1 ?_
      show oP p e below T52 (mkF m 183 #[oI p0, oR b6, oI (11 : Int32), oR (a_NUMERIC_LESS_THAN Z), oU, oU, oU] []) _
      refine XS.iloadN X52.here hx rfl (hb hby at_183) rfl ?_
      show oP p e below T52 (mkF m 184 #[oI p0, oR b6, oI (11 : Int32), oR (a_NUMERIC_LESS_THAN Z), oU, oU, oU] [(.int (11 : Int32))]) _
      refine XS.iconst X52.here hx rfl (hb hby at_184) ?_
      show oP p e below T52 (mkF m 185 #[oI p0, oR b6, oI (11 : Int32), oR (a_NUMERIC_LESS_THAN Z), oU, oU, oU] [(.int (4 : Int32)), (.int (11 : Int32))]) _
      refine XS.icmpNo X52.here hx rfl (hb hby at_185) rfl (feq (by decide : ¬ ((11 : Int32) = (4 : Int32)))).1 ?_
      show oP p e below T52 (mkF m 188 #[oI p0, oR b6, oI (11 : Int32), oR (a_NUMERIC_LESS_THAN Z), oU, oU, oU] []) _
      refine XS.iloadN X52.here hx rfl (hb hby at_188) rfl ?_
      show oP p e below T52 (mkF m 189 #[oI p0, oR b6, oI (11 : Int32), oR (a_NUMERIC_LESS_THAN Z), oU, oU, oU] [(.int (11 : Int32))]) _
      refine XS.bipush X52.here hx rfl (hb hby at_189) ?_
      show oP p e below T52 (mkF m 191 #[oI p0, oR b6, oI (11 : Int32), oR (a_NUMERIC_LESS_THAN Z), oU, oU, oU] [(.int (6 : Int32)), (.int (11 : Int32))]) _
      refine XS.icmpNo X52.here hx rfl (hb hby at_191) rfl (feq (by decide : ¬ ((11 : Int32) = (6 : Int32)))).1 ?_
      show oP p e below T52 (mkF m 194 #[oI p0, oR b6, oI (11 : Int32), oR (a_NUMERIC_LESS_THAN Z), oU, oU, oU] []) _
      refine XS.iloadN X52.here hx rfl (hb hby at_194) rfl ?_
      show oP p e below T52 (mkF m 195 #[oI p0, oR b6, oI (11 : Int32), oR (a_NUMERIC_LESS_THAN Z), oU, oU, oU] [(.int (11 : Int32))]) _
      refine XS.bipush X52.here hx rfl (hb hby at_195) ?_
      show oP p e below T52 (mkF m 197 #[oI p0, oR b6, oI (11 : Int32), oR (a_NUMERIC_LESS_THAN Z), oU, oU, oU] [(.int (8 : Int32)), (.int (11 : Int32))]) _
      refine XS.icmpNo X52.here hx rfl (hb hby at_197) rfl (feq (by decide : ¬ ((11 : Int32) = (8 : Int32)))).1 ?_
      show oP p e below T52 (mkF m 200 #[oI p0, oR b6, oI (11 : Int32), oR (a_NUMERIC_LESS_THAN Z), oU, oU, oU] []) _
      refine XS.iloadN X52.here hx rfl (hb hby at_200) rfl ?_
      show oP p e below T52 (mkF m 201 #[oI p0, oR b6, oI (11 : Int32), oR (a_NUMERIC_LESS_THAN Z), oU, oU, oU] [(.int (11 : Int32))]) _
      refine XS.bipush X52.here hx rfl (hb hby at_201) ?_
      show oP p e below T52 (mkF m 203 #[oI p0, oR b6, oI (11 : Int32), oR (a_NUMERIC_LESS_THAN Z), oU, oU, oU] [(.int (10 : Int32)), (.int (11 : Int32))]) _
      refine XS.icmpNo X52.here hx rfl (hb hby at_203) rfl (feq (by decide : ¬ ((11 : Int32) = (10 : Int32)))).1 ?_
      show oP p e below T52 (mkF m 206 #[oI p0, oR b6, oI (11 : Int32), oR (a_NUMERIC_LESS_THAN Z), oU, oU, oU] []) _
      refine XS.iloadN X52.here hx rfl (hb hby at_206) rfl ?_
      show oP p e below T52 (mkF m 207 #[oI p0, oR b6, oI (11 : Int32), oR (a_NUMERIC_LESS_THAN Z), oU, oU, oU] [(.int (11 : Int32))]) _
      refine XS.bipush X52.here hx rfl (hb hby at_207) ?_
      show oP p e below T52 (mkF m 209 #[oI p0, oR b6, oI (11 : Int32), oR (a_NUMERIC_LESS_THAN Z), oU, oU, oU] [(.int (16 : Int32)), (.int (11 : Int32))]) _
      refine XS.icmpYes X52.here hx rfl (pc0 := 209) (pc' := 216) rfl (hb hby at_209) rfl (feq (by decide : ¬ ((11 : Int32) = (16 : Int32)))).2 (by decide) (by decide) ?_
      show oP p e below T52 (mkF m 216 #[oI p0, oR b6, oI (11 : Int32), oR (a_NUMERIC_LESS_THAN Z), oU, oU, oU] []) _
      refine XS.iconst X52.here hx rfl (hb hby at_216) ?_
      show oP p e below T52 (mkF m 217 #[oI p0, oR b6, oI (11 : Int32), oR (a_NUMERIC_LESS_THAN Z), oU, oU, oU] [(.int (0 : Int32))]) _
      refine XS.istore X52.here hx rfl (hb hby at_217) rfl (l' := #[oI p0, oR b6, oI (11 : Int32), oR (a_NUMERIC_LESS_THAN Z), oI (0 : Int32), oU, oU]) rfl ?_
      show oP p e below T52 (mkF m 219 #[oI p0, oR b6, oI (11 : Int32), oR (a_NUMERIC_LESS_THAN Z), oI (0 : Int32), oU, oU] []) _
      refine XS.aloadN X52.here hx rfl (hb hby at_219) rfl rfl ?_
      show oP p e below T52 (mkF m 220 #[oI p0, oR b6, oI (11 : Int32), oR (a_NUMERIC_LESS_THAN Z), oI (0 : Int32), oU, oU] [(.ref (a_NUMERIC_LESS_THAN Z))]) _
      refine st99.trans ?_
      show oP p e below T99 (mkF m 223 #[oI p0, oR b6, oI (11 : Int32), oR (a_NUMERIC_LESS_THAN Z), oI (0 : Int32), oU, oU] [(.int (0 : Int32))]) _
      refine XS.istore X99.here hx rfl (hb hby at_223) rfl (l' := #[oI p0, oR b6, oI (11 : Int32), oR (a_NUMERIC_LESS_THAN Z), oI (0 : Int32), oI (0 : Int32), oU]) rfl ?_
      show oP p e below T99 (mkF m 225 #[oI p0, oR b6, oI (11 : Int32), oR (a_NUMERIC_LESS_THAN Z), oI (0 : Int32), oI (0 : Int32), oU] []) _
      refine XS.aloadN X99.here hx rfl (hb hby at_225) rfl rfl ?_
      show oP p e below T99 (mkF m 226 #[oI p0, oR b6, oI (11 : Int32), oR (a_NUMERIC_LESS_THAN Z), oI (0 : Int32), oI (0 : Int32), oU] [(.ref (a_NUMERIC_LESS_THAN Z))]) _
      refine st100.trans ?_
      show oP p e below T100 (mkF m 229 #[oI p0, oR b6, oI (11 : Int32), oR (a_NUMERIC_LESS_THAN Z), oI (0 : Int32), oI (0 : Int32), oU] [(.ref (a_NUMERIC_LESS_THAN Z))]) _
      refine XS.astore X100.here hx rfl (hb hby at_229) rfl rfl (l' := #[oI p0, oR b6, oI (11 : Int32), oR (a_NUMERIC_LESS_THAN Z), oI (0 : Int32), oI (0 : Int32), oR (a_NUMERIC_LESS_THAN Z)]) rfl ?_
      show oP p e below T100 (mkF m 231 #[oI p0, oR b6, oI (11 : Int32), oR (a_NUMERIC_LESS_THAN Z), oI (0 : Int32), oI (0 : Int32), oR (a_NUMERIC_LESS_THAN Z)] []) _
      refine XS.iload X100.here hx rfl (hb hby at_231) rfl ?_
      show oP p e below T100 (mkF m 233 #[oI p0, oR b6, oI (11 : Int32), oR (a_NUMERIC_LESS_THAN Z), oI (0 : Int32), oI (0 : Int32), oR (a_NUMERIC_LESS_THAN Z)] [(.int (0 : Int32))]) _
      refine XS.iload X100.here hx rfl (hb hby at_233) rfl ?_
      show oP p e below T100 (mkF m 235 #[oI p0, oR b6, oI (11 : Int32), oR (a_NUMERIC_LESS_THAN Z), oI (0 : Int32), oI (0 : Int32), oR (a_NUMERIC_LESS_THAN Z)] [(.int (0 : Int32)), (.int (0 : Int32))]) _
      refine XS.icmpNo X100.here hx rfl (hb hby at_235) rfl (teq (by decide : (0 : Int32) = (0 : Int32))).2 ?_
      show oP p e below T100 (mkF m 238 #[oI p0, oR b6, oI (11 : Int32), oR (a_NUMERIC_LESS_THAN Z), oI (0 : Int32), oI (0 : Int32), oR (a_NUMERIC_LESS_THAN Z)] []) _
      refine XS.iload X100.here hx rfl (hb hby at_238) rfl ?_
      show oP p e below T100 (mkF m 240 #[oI p0, oR b6, oI (11 : Int32), oR (a_NUMERIC_LESS_THAN Z), oI (0 : Int32), oI (0 : Int32), oR (a_NUMERIC_LESS_THAN Z)] [(.int (0 : Int32))]) _
      refine XS.aload X100.here hx rfl (hb hby at_240) rfl rfl ?_
      show oP p e below T100 (mkF m 242 #[oI p0, oR b6, oI (11 : Int32), oR (a_NUMERIC_LESS_THAN Z), oI (0 : Int32), oI (0 : Int32), oR (a_NUMERIC_LESS_THAN Z)] [(.ref (a_NUMERIC_LESS_THAN Z)), (.int (0 : Int32))]) _
      refine XS.aloadN X100.here hx rfl (hb hby at_242) rfl rfl ?_
      show oP p e below T100 (mkF m 243 #[oI p0, oR b6, oI (11 : Int32), oR (a_NUMERIC_LESS_THAN Z), oI (0 : Int32), oI (0 : Int32), oR (a_NUMERIC_LESS_THAN Z)] [(.ref (a_NUMERIC_LESS_THAN Z)), (.ref (a_NUMERIC_LESS_THAN Z)), (.int (0 : Int32))]) _
      refine Jvm.RoadKit.acmp (g := (mkF m 243 #[oI p0, oR b6, oI (11 : Int32), oR (a_NUMERIC_LESS_THAN Z), oI (0 : Int32), oI (0 : Int32), oR (a_NUMERIC_LESS_THAN Z)] [(.ref (a_NUMERIC_LESS_THAN Z)), (.ref (a_NUMERIC_LESS_THAN Z)), (.int (0 : Int32))])) X100 hx rfl rfl rfl (pc0 := 243) (pc' := 250) (same := true) rfl (hb hby at_243) rfl (decide_eq_true (congrArg Value.ref (rfl : (a_NUMERIC_LESS_THAN Z) = (a_NUMERIC_LESS_THAN Z)))) (by decide) (by decide) ?_
      show oP p e below T100 (mkF m 250 #[oI p0, oR b6, oI (11 : Int32), oR (a_NUMERIC_LESS_THAN Z), oI (0 : Int32), oI (0 : Int32), oR (a_NUMERIC_LESS_THAN Z)] [(.int (0 : Int32))]) _
      refine XS.iconst X100.here hx rfl (hb hby at_250) ?_
      show oP p e below T100 (mkF m 251 #[oI p0, oR b6, oI (11 : Int32), oR (a_NUMERIC_LESS_THAN Z), oI (0 : Int32), oI (0 : Int32), oR (a_NUMERIC_LESS_THAN Z)] [(.int (0 : Int32)), (.int (0 : Int32))]) _
      refine XS.icmpNo X100.here hx rfl (hb hby at_251) rfl (teq (by decide : (0 : Int32) = (0 : Int32))).2 ?_
      show oP p e below T100 (mkF m 254 #[oI p0, oR b6, oI (11 : Int32), oR (a_NUMERIC_LESS_THAN Z), oI (0 : Int32), oI (0 : Int32), oR (a_NUMERIC_LESS_THAN Z)] []) _
      refine XS.aload X100.here hx rfl (hb hby at_254) rfl rfl ?_
      show oP p e below T100 (mkF m 256 #[oI p0, oR b6, oI (11 : Int32), oR (a_NUMERIC_LESS_THAN Z), oI (0 : Int32), oI (0 : Int32), oR (a_NUMERIC_LESS_THAN Z)] [(.ref (a_NUMERIC_LESS_THAN Z))]) _
      refine st101.trans ?_
      show oP p e below T101 (mkF m 259 #[oI p0, oR b6, oI (11 : Int32), oR (a_NUMERIC_LESS_THAN Z), oI (0 : Int32), oI (0 : Int32), oR (a_NUMERIC_LESS_THAN Z)] [(.int (0 : Int32))]) _
      refine XS.ifNo X101.here hx rfl (hb hby at_259) rfl ((if0 _ _).trans (teq (by decide : (0 : Int32) = (0 : Int32))).2) ?_
      show oP p e below T101 (mkF m 262 #[oI p0, oR b6, oI (11 : Int32), oR (a_NUMERIC_LESS_THAN Z), oI (0 : Int32), oI (0 : Int32), oR (a_NUMERIC_LESS_THAN Z)] []) _
      refine XS.iconst X101.here hx rfl (hb hby at_262) ?_
      show oP p e below T101 (mkF m 263 #[oI p0, oR b6, oI (11 : Int32), oR (a_NUMERIC_LESS_THAN Z), oI (0 : Int32), oI (0 : Int32), oR (a_NUMERIC_LESS_THAN Z)] [(.int (1 : Int32))]) _
      refine XS.goto X101.here hx rfl (pc0 := 263) (pc' := 267) rfl (hb hby at_263) (by decide) (by decide) ?_
      show oP p e below T101 (mkF m 267 #[oI p0, oR b6, oI (11 : Int32), oR (a_NUMERIC_LESS_THAN Z), oI (0 : Int32), oI (0 : Int32), oR (a_NUMERIC_LESS_THAN Z)] [(.int (1 : Int32))]) _
      exact retN X101 hx (t := .boolean) Bd.returns (by simp) (hb hby at_267) hr
    · show (some (.int (1 : Int32)) : Option Value) = some (.int (1 : Int32)) ∧ Fr n0 _ ∧ Keep h0 T101.heap []
      exact ⟨rfl, N101, Kc101⟩
  · obtain ⟨lo102, X102, N102⟩ := own_hide X52 N52
    obtain ⟨cq103, kq103, q103a, q103b, q103c⟩ := isOf hZ e52 ((e_a_NUMERIC_LESS_THAN_EQUALS hS).ext O52.2)
    obtain ⟨_, _, ⟨T103, L103, k103, n103⟩, -, X103, ⟨Lc103, hQ103, l103, y103, z103⟩, st103⟩ := X102.virtualBack hx (y := (⟨"com/example/menshen/menshen/policy/ConditionOperator", "isNegated", "()Z"⟩ : MethodName)) (z := (⟨"com/example/menshen/menshen/policy/ConditionOperator", "isNegated", "()Z"⟩ : MethodName)) hown (mvT hZ (hw _ (List.mem_of_getElem? (i := 51) rfl))) (mvT hZ (hw _ (List.mem_of_getElem? (i := 52) rfl))) (notFace_of_selects (args := #[]) (mvT hZ (hw _ (List.mem_of_getElem? (i := 54) rfl)))) (mvT hZ (hw _ (List.mem_of_getElem? (i := 54) rfl))) (mvT hZ (hw _ (List.mem_of_getElem? (i := 53) rfl))) (by decide) (backOf (W := 0) (rm1n l Z a0 hw hS [] (a_NUMERIC_LESS_THAN_EQUALS Z) h52 n0 O52 ((f_a_NUMERIC_LESS_THAN_EQUALS_negationOf hS).ext O52.2)) hZ (hw _ (List.mem_of_getElem? (i := 55) rfl)) (hw _ (List.mem_of_getElem? (i := 3) rfl)) (by decide) (by decide)) q103a q103c (g := (mkF m 220 #[oI p0, oR b6, oI (12 : Int32), oR (a_NUMERIC_LESS_THAN_EQUALS Z), oI (0 : Int32), oU, oU] [(.ref (a_NUMERIC_LESS_THAN_EQUALS Z))])) rfl (by rw [hml]; rfl) (Steps.refl _) (argsL := []) (rest := []) (lenOf pd_0 rfl) rfl (by show 2 * 0 + _ ≤ _; exact Nat.le_of_eq rfl) (hb hby at_220) (fun _ _ => ⟨rfl, e52, (by decide : 1 + 0 ≤ _), (by decide : 23 + 0 ≤ _)⟩)
    dsimp only [Pt.U, Pt.locs, Pt.cells, Pt.slots] at X103 l103 y103 z103 st103 hQ103
    subst l103 y103 z103
    obtain ⟨v103, N103q, K103q⟩ := hQ103
    have w103 : (fn1n Z (a_NUMERIC_LESS_THAN_EQUALS Z)) = (0 : Int32) := rfl
    rw [w103] at v103
    subst v103
    have N103 := Fr.app N102 N103q
    have O103 := O52.keep K103q all0
    have Kc103 := Kc52.trans K103q all0
    obtain ⟨cq104, kq104, q104a, q104b, q104c⟩ := isOf hZ rfl ((e_a_NUMERIC_LESS_THAN_EQUALS hS).ext O103.2)
    obtain ⟨_, _, ⟨T104, L104, k104, n104⟩, -, X104, ⟨Lc104, hQ104, l104, y104, z104⟩, st104⟩ := X103.virtualBack hx (y := (⟨"com/example/menshen/menshen/policy/ConditionOperator", "positive", "()Lcom/example/menshen/menshen/policy/ConditionOperator;"⟩ : MethodName)) (z := (⟨"com/example/menshen/menshen/policy/ConditionOperator", "positive", "()Lcom/example/menshen/menshen/policy/ConditionOperator;"⟩ : MethodName)) hown (mvT hZ (hw _ (List.mem_of_getElem? (i := 58) rfl))) (mvT hZ (hw _ (List.mem_of_getElem? (i := 59) rfl))) (notFace_of_selects (args := #[]) (mvT hZ (hw _ (List.mem_of_getElem? (i := 61) rfl)))) (mvT hZ (hw _ (List.mem_of_getElem? (i := 61) rfl))) (mvT hZ (hw _ (List.mem_of_getElem? (i := 60) rfl))) (by decide) (backOf (W := 0) (rm2n l Z a0 hw hS [] (a_NUMERIC_LESS_THAN_EQUALS Z) T103.heap n0 O103 ((f_a_NUMERIC_LESS_THAN_EQUALS_negationOf hS).ext O103.2)) hZ (hw _ (List.mem_of_getElem? (i := 62) rfl)) (hw _ (List.mem_of_getElem? (i := 3) rfl)) (by decide) (by decide)) q104a q104c (g := (mkF m 226 #[oI p0, oR b6, oI (12 : Int32), oR (a_NUMERIC_LESS_THAN_EQUALS Z), oI (0 : Int32), oI (0 : Int32), oU] [(.ref (a_NUMERIC_LESS_THAN_EQUALS Z))])) rfl (by rw [hml]; rfl) (Steps.refl _) (argsL := []) (rest := []) (lenOf pd_1 rfl) rfl (by show 2 * 0 + _ ≤ _; exact Nat.le_of_eq rfl) (hb hby at_226) (fun _ _ => ⟨rfl, rfl, (by decide : 1 + 0 ≤ _), (by decide : 23 + 0 ≤ _)⟩)
    dsimp only [Pt.U, Pt.locs, Pt.cells, Pt.slots] at X104 l104 y104 z104 st104 hQ104
    subst l104 y104 z104
    obtain ⟨v104, N104q, K104q⟩ := hQ104
    have w104 : (fn2n Z (a_NUMERIC_LESS_THAN_EQUALS Z)) = (a_NUMERIC_LESS_THAN_EQUALS Z) := rfl
    rw [w104] at v104
    subst v104
    have N104 := Fr.app N103 N104q
    have O104 := O103.keep K104q all0
    have Kc104 := Kc103.trans K104q all0
    obtain ⟨cq105, kq105, q105a, q105b, q105c⟩ := isOf hZ rfl ((e_a_NUMERIC_LESS_THAN_EQUALS hS).ext O104.2)
    obtain ⟨_, _, ⟨T105, L105, k105, n105⟩, -, X105, ⟨Lc105, hQ105, l105, y105, z105⟩, st105⟩ := X104.virtualBack hx (y := (⟨"com/example/menshen/menshen/policy/ConditionOperator", "isNegated", "()Z"⟩ : MethodName)) (z := (⟨"com/example/menshen/menshen/policy/ConditionOperator", "isNegated", "()Z"⟩ : MethodName)) hown (mvT hZ (hw _ (List.mem_of_getElem? (i := 51) rfl))) (mvT hZ (hw _ (List.mem_of_getElem? (i := 52) rfl))) (notFace_of_selects (args := #[]) (mvT hZ (hw _ (List.mem_of_getElem? (i := 54) rfl)))) (mvT hZ (hw _ (List.mem_of_getElem? (i := 54) rfl))) (mvT hZ (hw _ (List.mem_of_getElem? (i := 53) rfl))) (by decide) (backOf (W := 0) (rm1n l Z a0 hw hS [] (a_NUMERIC_LESS_THAN_EQUALS Z) T104.heap n0 O104 ((f_a_NUMERIC_LESS_THAN_EQUALS_negationOf hS).ext O104.2)) hZ (hw _ (List.mem_of_getElem? (i := 55) rfl)) (hw _ (List.mem_of_getElem? (i := 3) rfl)) (by decide) (by decide)) q105a q105c (g := (mkF m 256 #[oI p0, oR b6, oI (12 : Int32), oR (a_NUMERIC_LESS_THAN_EQUALS Z), oI (0 : Int32), oI (0 : Int32), oR (a_NUMERIC_LESS_THAN_EQUALS Z)] [(.ref (a_NUMERIC_LESS_THAN_EQUALS Z))])) rfl (by rw [hml]; rfl) (Steps.refl _) (argsL := []) (rest := []) (lenOf pd_0 rfl) rfl (by show 2 * 0 + _ ≤ _; exact Nat.le_of_eq rfl) (hb hby at_256) (fun _ _ => ⟨rfl, rfl, (by decide : 1 + 0 ≤ _), (by decide : 23 + 0 ≤ _)⟩)
    dsimp only [Pt.U, Pt.locs, Pt.cells, Pt.slots] at X105 l105 y105 z105 st105 hQ105
    subst l105 y105 z105
    obtain ⟨v105, N105q, K105q⟩ := hQ105
    have w105 : (fn1n Z (a_NUMERIC_LESS_THAN_EQUALS Z)) = (0 : Int32) := rfl
    rw [w105] at v105
    subst v105
    have N105 := Fr.app N104 N105q
    have O105 := O104.keep K105q all0
    have Kc105 := Kc104.trans K105q all0
    obtain ⟨fs, hr, hrun, hended, hW, hsame⟩ := X105.leave (v := some (.int (1 : Int32))) (fun h => by rw [Bd.returns] at h; cases h)
    refine ⟨_, _, pre53 _ ?_, hrun, hended, _, _, rfl, ?_, ⟨_, rfl⟩, hW, hsame.mono (by decide) (by decide)⟩
    · show oP p e below T52 (mkF m 168 #[oI p0, oR b6, oU, oU, oU, oU, oU] [(.int (12 : Int32))]) _
      refine XS.istoreN X52.here hx rfl (hb hby at_168) rfl (l' := #[oI p0, oR b6, oI (12 : Int32), oU, oU, oU, oU]) rfl ?_
      show oP p e below T52 (mkF m 169 #[oI p0, oR b6, oI (12 : Int32), oU, oU, oU, oU] []) _
      refine XS.aloadN X52.here hx rfl (hb hby at_169) rfl rfl ?_
      show oP p e below T52 (mkF m 170 #[oI p0, oR b6, oI (12 : Int32), oU, oU, oU, oU] [(.ref b6)]) _
      refine XS.iloadN X52.here hx rfl (hb hby at_170) rfl ?_
      show oP p e below T52 (mkF m 171 #[oI p0, oR b6, oI (12 : Int32), oU, oU, oU, oU] [(.int (12 : Int32)), (.ref b6)]) _
      refine own_aaload X52 hx hZ e52 V52 rfl (j := (12 : Int32)) ⟨by decide, by decide⟩ (v := (.ref (a_NUMERIC_LESS_THAN_EQUALS Z))) rfl (g := (mkF m 171 #[oI p0, oR b6, oI (12 : Int32), oU, oU, oU, oU] [(.int (12 : Int32)), (.ref b6)])) rfl rfl (hb hby at_171) _ ?_
      show oP p e below T52 (mkF m 172 #[oI p0, oR b6, oI (12 : Int32), oU, oU, oU, oU] [(.ref (a_NUMERIC_LESS_THAN_EQUALS Z))]) _
      refine XS.astoreN X52.here hx rfl (hb hby at_172) rfl rfl (l' := #[oI p0, oR b6, oI (12 : Int32), oR (a_NUMERIC_LESS_THAN_EQUALS Z), oU, oU, oU]) rfl ?_
      show oP p e below T52 (mkF m 173 #[oI p0, oR b6, oI (12 : Int32), oR (a_NUMERIC_LESS_THAN_EQUALS Z), oU, oU, oU] []) _
      refine XS.iloadN X52.here hx rfl (hb hby at_173) rfl ?_
      show oP p e below T52 (mkF m 174 #[oI p0, oR b6, oI (12 : Int32), oR (a_NUMERIC_LESS_THAN_EQUALS Z), oU, oU, oU] [(.int (12 : Int32))]) _
      refine XS.iconst X52.here hx rfl (hb hby at_174) ?_
      show oP p e below T52 (mkF m 175 #[oI p0, oR b6, oI (12 : Int32), oR (a_NUMERIC_LESS_THAN_EQUALS Z), oU, oU, oU] [(.int (1 : Int32)), (.int (12 : Int32))]) _
      refine XS.icmpNo X52.here hx rfl (hb hby at_175) rfl (feq (by decide : ¬ ((12 : Int32) = (1 : Int32)))).1 ?_
      show oP p e below T52 (mkF m 178 #[oI p0, oR b6, oI (12 : Int32), oR (a_NUMERIC_LESS_THAN_EQUALS Z), oU, oU, oU] []) _
      refine XS.iloadN X52.here hx rfl (hb hby at_178) rfl ?_
      show oP p e below T52 (mkF m 179 #[oI p0, oR b6, oI (12 : Int32), oR (a_NUMERIC_LESS_THAN_EQUALS Z), oU, oU, oU] [(.int (12 : Int32))]) _
      refine XS.iconst X52.here hx rfl (hb hby at_179) ?_
      show oP p e below T52 (mkF m 180 #[oI p0, oR b6, oI (12 : Int32), oR (a_NUMERIC_LESS_THAN_EQUALS Z), oU, oU, oU] [(.int (2 : Int32)), (.int (12 : Int32))]) _
      refine XS.icmpNo X52.here hx rfl (hb hby at_180) rfl (feq (by decide : ¬ ((12 : Int32) = (2 : Int32)))).1 ?_
      show oP p e below T52 (mkF m 183 #[oI p0, oR b6, oI (12 : Int32), oR (a_NUMERIC_LESS_THAN_EQUALS Z), oU, oU, oU] []) _
      refine XS.iloadN X52.here hx rfl (hb hby at_183) rfl ?_
      show oP p e below T52 (mkF m 184 #[oI p0, oR b6, oI (12 : Int32), oR (a_NUMERIC_LESS_THAN_EQUALS Z), oU, oU, oU] [(.int (12 : Int32))]) _
      refine XS.iconst X52.here hx rfl (hb hby at_184) ?_
      show oP p e below T52 (mkF m 185 #[oI p0, oR b6, oI (12 : Int32), oR (a_NUMERIC_LESS_THAN_EQUALS Z), oU, oU, oU] [(.int (4 : Int32)), (.int (12 : Int32))]) _
      refine XS.icmpNo X52.here hx rfl (hb hby at_185) rfl (feq (by decide : ¬ ((12 : Int32) = (4 : Int32)))).1 ?_
      show oP p e below T52 (mkF m 188 #[oI p0, oR b6, oI (12 : Int32), oR (a_NUMERIC_LESS_THAN_EQUALS Z), oU, oU, oU] []) _
      refine XS.iloadN X52.here hx rfl (hb hby at_188) rfl ?_
      show oP p e below T52 (mkF m 189 #[oI p0, oR b6, oI (12 : Int32), oR (a_NUMERIC_LESS_THAN_EQUALS Z), oU, oU, oU] [(.int (12 : Int32))]) _
      refine XS.bipush X52.here hx rfl (hb hby at_189) ?_
      show oP p e below T52 (mkF m 191 #[oI p0, oR b6, oI (12 : Int32), oR (a_NUMERIC_LESS_THAN_EQUALS Z), oU, oU, oU] [(.int (6 : Int32)), (.int (12 : Int32))]) _
      refine XS.icmpNo X52.here hx rfl (hb hby at_191) rfl (feq (by decide : ¬ ((12 : Int32) = (6 : Int32)))).1 ?_
      show oP p e below T52 (mkF m 194 #[oI p0, oR b6, oI (12 : Int32), oR (a_NUMERIC_LESS_THAN_EQUALS Z), oU, oU, oU] []) _
      refine XS.iloadN X52.here hx rfl (hb hby at_194) rfl ?_
      show oP p e below T52 (mkF m 195 #[oI p0, oR b6, oI (12 : Int32), oR (a_NUMERIC_LESS_THAN_EQUALS Z), oU, oU, oU] [(.int (12 : Int32))]) _
      refine XS.bipush X52.here hx rfl (hb hby at_195) ?_
      show oP p e below T52 (mkF m 197 #[oI p0, oR b6, oI (12 : Int32), oR (a_NUMERIC_LESS_THAN_EQUALS Z), oU, oU, oU] [(.int (8 : Int32)), (.int (12 : Int32))]) _
      refine XS.icmpNo X52.here hx rfl (hb hby at_197) rfl (feq (by decide : ¬ ((12 : Int32) = (8 : Int32)))).1 ?_
      show oP p e below T52 (mkF m 200 #[oI p0, oR b6, oI (12 : Int32), oR (a_NUMERIC_LESS_THAN_EQUALS Z), oU, oU, oU] []) _
      refine XS.iloadN X52.here hx rfl (hb hby at_200) rfl ?_
      show oP p e below T52 (mkF m 201 #[oI p0, oR b6, oI (12 : Int32), oR (a_NUMERIC_LESS_THAN_EQUALS Z), oU, oU, oU] [(.int (12 : Int32))]) _
      refine XS.bipush X52.here hx rfl (hb hby at_201) ?_
      show oP p e below T52 (mkF m 203 #[oI p0, oR b6, oI (12 : Int32), oR (a_NUMERIC_LESS_THAN_EQUALS Z), oU, oU, oU] [(.int (10 : Int32)), (.int (12 : Int32))]) _
      refine XS.icmpNo X52.here hx rfl (hb hby at_203) rfl (feq (by decide : ¬ ((12 : Int32) = (10 : Int32)))).1 ?_
      show oP p e below T52 (mkF m 206 #[oI p0, oR b6, oI (12 : Int32), oR (a_NUMERIC_LESS_THAN_EQUALS Z), oU, oU, oU] []) _
      refine XS.iloadN X52.here hx rfl (hb hby at_206) rfl ?_
      show oP p e below T52 (mkF m 207 #[oI p0, oR b6, oI (12 : Int32), oR (a_NUMERIC_LESS_THAN_EQUALS Z), oU, oU, oU] [(.int (12 : Int32))]) _
      refine XS.bipush X52.here hx rfl (hb hby at_207) ?_
      show oP p e below T52 (mkF m 209 #[oI p0, oR b6, oI (12 : Int32), oR (a_NUMERIC_LESS_THAN_EQUALS Z), oU, oU, oU] [(.int (16 : Int32)), (.int (12 : Int32))]) _
      refine XS.icmpYes X52.here hx rfl (pc0 := 209) (pc' := 216) rfl (hb hby at_209) rfl (feq (by decide : ¬ ((12 : Int32) = (16 : Int32)))).2 (by decide) (by decide) ?_
      show oP p e below T52 (mkF m 216 #[oI p0, oR b6, oI (12 : Int32), oR (a_NUMERIC_LESS_THAN_EQUALS Z), oU, oU, oU] []) _
      refine XS.iconst X52.here hx rfl (hb hby at_216) ?_
      show oP p e below T52 (mkF m 217 #[oI p0, oR b6, oI (12 : Int32), oR (a_NUMERIC_LESS_THAN_EQUALS Z), oU, oU, oU] [(.int (0 : Int32))]) _
      refine XS.istore X52.here hx rfl (hb hby at_217) rfl (l' := #[oI p0, oR b6, oI (12 : Int32), oR (a_NUMERIC_LESS_THAN_EQUALS Z), oI (0 : Int32), oU, oU]) rfl ?_
      show oP p e below T52 (mkF m 219 #[oI p0, oR b6, oI (12 : Int32), oR (a_NUMERIC_LESS_THAN_EQUALS Z), oI (0 : Int32), oU, oU] []) _
      refine XS.aloadN X52.here hx rfl (hb hby at_219) rfl rfl ?_
      show oP p e below T52 (mkF m 220 #[oI p0, oR b6, oI (12 : Int32), oR (a_NUMERIC_LESS_THAN_EQUALS Z), oI (0 : Int32), oU, oU] [(.ref (a_NUMERIC_LESS_THAN_EQUALS Z))]) _
      refine st103.trans ?_
      show oP p e below T103 (mkF m 223 #[oI p0, oR b6, oI (12 : Int32), oR (a_NUMERIC_LESS_THAN_EQUALS Z), oI (0 : Int32), oU, oU] [(.int (0 : Int32))]) _
      refine XS.istore X103.here hx rfl (hb hby at_223) rfl (l' := #[oI p0, oR b6, oI (12 : Int32), oR (a_NUMERIC_LESS_THAN_EQUALS Z), oI (0 : Int32), oI (0 : Int32), oU]) rfl ?_
      show oP p e below T103 (mkF m 225 #[oI p0, oR b6, oI (12 : Int32), oR (a_NUMERIC_LESS_THAN_EQUALS Z), oI (0 : Int32), oI (0 : Int32), oU] []) _
      refine XS.aloadN X103.here hx rfl (hb hby at_225) rfl rfl ?_
      show oP p e below T103 (mkF m 226 #[oI p0, oR b6, oI (12 : Int32), oR (a_NUMERIC_LESS_THAN_EQUALS Z), oI (0 : Int32), oI (0 : Int32), oU] [(.ref (a_NUMERIC_LESS_THAN_EQUALS Z))]) _
      refine st104.trans ?_
      show oP p e below T104 (mkF m 229 #[oI p0, oR b6, oI (12 : Int32), oR (a_NUMERIC_LESS_THAN_EQUALS Z), oI (0 : Int32), oI (0 : Int32), oU] [(.ref (a_NUMERIC_LESS_THAN_EQUALS Z))]) _
      refine XS.astore X104.here hx rfl (hb hby at_229) rfl rfl (l' := #[oI p0, oR b6, oI (12 : Int32), oR (a_NUMERIC_LESS_THAN_EQUALS Z), oI (0 : Int32), oI (0 : Int32), oR (a_NUMERIC_LESS_THAN_EQUALS Z)]) rfl ?_
      show oP p e below T104 (mkF m 231 #[oI p0, oR b6, oI (12 : Int32), oR (a_NUMERIC_LESS_THAN_EQUALS Z), oI (0 : Int32), oI (0 : Int32), oR (a_NUMERIC_LESS_THAN_EQUALS Z)] []) _
      refine XS.iload X104.here hx rfl (hb hby at_231) rfl ?_
      show oP p e below T104 (mkF m 233 #[oI p0, oR b6, oI (12 : Int32), oR (a_NUMERIC_LESS_THAN_EQUALS Z), oI (0 : Int32), oI (0 : Int32), oR (a_NUMERIC_LESS_THAN_EQUALS Z)] [(.int (0 : Int32))]) _
      refine XS.iload X104.here hx rfl (hb hby at_233) rfl ?_
      show oP p e below T104 (mkF m 235 #[oI p0, oR b6, oI (12 : Int32), oR (a_NUMERIC_LESS_THAN_EQUALS Z), oI (0 : Int32), oI (0 : Int32), oR (a_NUMERIC_LESS_THAN_EQUALS Z)] [(.int (0 : Int32)), (.int (0 : Int32))]) _
      refine XS.icmpNo X104.here hx rfl (hb hby at_235) rfl (teq (by decide : (0 : Int32) = (0 : Int32))).2 ?_
      show oP p e below T104 (mkF m 238 #[oI p0, oR b6, oI (12 : Int32), oR (a_NUMERIC_LESS_THAN_EQUALS Z), oI (0 : Int32), oI (0 : Int32), oR (a_NUMERIC_LESS_THAN_EQUALS Z)] []) _
      refine XS.iload X104.here hx rfl (hb hby at_238) rfl ?_
      show oP p e below T104 (mkF m 240 #[oI p0, oR b6, oI (12 : Int32), oR (a_NUMERIC_LESS_THAN_EQUALS Z), oI (0 : Int32), oI (0 : Int32), oR (a_NUMERIC_LESS_THAN_EQUALS Z)] [(.int (0 : Int32))]) _
      refine XS.aload X104.here hx rfl (hb hby at_240) rfl rfl ?_
      show oP p e below T104 (mkF m 242 #[oI p0, oR b6, oI (12 : Int32), oR (a_NUMERIC_LESS_THAN_EQUALS Z), oI (0 : Int32), oI (0 : Int32), oR (a_NUMERIC_LESS_THAN_EQUALS Z)] [(.ref (a_NUMERIC_LESS_THAN_EQUALS Z)), (.int (0 : Int32))]) _
      refine XS.aloadN X104.here hx rfl (hb hby at_242) rfl rfl ?_
      show oP p e below T104 (mkF m 243 #[oI p0, oR b6, oI (12 : Int32), oR (a_NUMERIC_LESS_THAN_EQUALS Z), oI (0 : Int32), oI (0 : Int32), oR (a_NUMERIC_LESS_THAN_EQUALS Z)] [(.ref (a_NUMERIC_LESS_THAN_EQUALS Z)), (.ref (a_NUMERIC_LESS_THAN_EQUALS Z)), (.int (0 : Int32))]) _
      refine Jvm.RoadKit.acmp (g := (mkF m 243 #[oI p0, oR b6, oI (12 : Int32), oR (a_NUMERIC_LESS_THAN_EQUALS Z), oI (0 : Int32), oI (0 : Int32), oR (a_NUMERIC_LESS_THAN_EQUALS Z)] [(.ref (a_NUMERIC_LESS_THAN_EQUALS Z)), (.ref (a_NUMERIC_LESS_THAN_EQUALS Z)), (.int (0 : Int32))])) X104 hx rfl rfl rfl (pc0 := 243) (pc' := 250) (same := true) rfl (hb hby at_243) rfl (decide_eq_true (congrArg Value.ref (rfl : (a_NUMERIC_LESS_THAN_EQUALS Z) = (a_NUMERIC_LESS_THAN_EQUALS Z)))) (by decide) (by decide) ?_
      show oP p e below T104 (mkF m 250 #[oI p0, oR b6, oI (12 : Int32), oR (a_NUMERIC_LESS_THAN_EQUALS Z), oI (0 : Int32), oI (0 : Int32), oR (a_NUMERIC_LESS_THAN_EQUALS Z)] [(.int (0 : Int32))]) _
      refine XS.iconst X104.here hx rfl (hb hby at_250) ?_
      show oP p e below T104 (mkF m 251 #[oI p0, oR b6, oI (12 : Int32), oR (a_NUMERIC_LESS_THAN_EQUALS Z), oI (0 : Int32), oI (0 : Int32), oR (a_NUMERIC_LESS_THAN_EQUALS Z)] [(.int (0 : Int32)), (.int (0 : Int32))]) _
      refine XS.icmpNo X104.here hx rfl (hb hby at_251) rfl (teq (by decide : (0 : Int32) = (0 : Int32))).2 ?_
      show oP p e below T104 (mkF m 254 #[oI p0, oR b6, oI (12 : Int32), oR (a_NUMERIC_LESS_THAN_EQUALS Z), oI (0 : Int32), oI (0 : Int32), oR (a_NUMERIC_LESS_THAN_EQUALS Z)] []) _
      refine XS.aload X104.here hx rfl (hb hby at_254) rfl rfl ?_
      show oP p e below T104 (mkF m 256 #[oI p0, oR b6, oI (12 : Int32), oR (a_NUMERIC_LESS_THAN_EQUALS Z), oI (0 : Int32), oI (0 : Int32), oR (a_NUMERIC_LESS_THAN_EQUALS Z)] [(.ref (a_NUMERIC_LESS_THAN_EQUALS Z))]) _
      refine st105.trans ?_
      show oP p e below T105 (mkF m 259 #[oI p0, oR b6, oI (12 : Int32), oR (a_NUMERIC_LESS_THAN_EQUALS Z), oI (0 : Int32), oI (0 : Int32), oR (a_NUMERIC_LESS_THAN_EQUALS Z)] [(.int (0 : Int32))]) _
      refine XS.ifNo X105.here hx rfl (hb hby at_259) rfl ((if0 _ _).trans (teq (by decide : (0 : Int32) = (0 : Int32))).2) ?_
      show oP p e below T105 (mkF m 262 #[oI p0, oR b6, oI (12 : Int32), oR (a_NUMERIC_LESS_THAN_EQUALS Z), oI (0 : Int32), oI (0 : Int32), oR (a_NUMERIC_LESS_THAN_EQUALS Z)] []) _
      refine XS.iconst X105.here hx rfl (hb hby at_262) ?_
      show oP p e below T105 (mkF m 263 #[oI p0, oR b6, oI (12 : Int32), oR (a_NUMERIC_LESS_THAN_EQUALS Z), oI (0 : Int32), oI (0 : Int32), oR (a_NUMERIC_LESS_THAN_EQUALS Z)] [(.int (1 : Int32))]) _
      refine XS.goto X105.here hx rfl (pc0 := 263) (pc' := 267) rfl (hb hby at_263) (by decide) (by decide) ?_
      show oP p e below T105 (mkF m 267 #[oI p0, oR b6, oI (12 : Int32), oR (a_NUMERIC_LESS_THAN_EQUALS Z), oI (0 : Int32), oI (0 : Int32), oR (a_NUMERIC_LESS_THAN_EQUALS Z)] [(.int (1 : Int32))]) _
      exact retN X105 hx (t := .boolean) Bd.returns (by simp) (hb hby at_267) hr
    · show (some (.int (1 : Int32)) : Option Value) = some (.int (1 : Int32)) ∧ Fr n0 _ ∧ Keep h0 T105.heap []
      exact ⟨rfl, N105, Kc105⟩
  · obtain ⟨lo106, X106, N106⟩ := own_hide X52 N52
    obtain ⟨cq107, kq107, q107a, q107b, q107c⟩ := isOf hZ e52 ((e_a_NUMERIC_GREATER_THAN hS).ext O52.2)
    obtain ⟨_, _, ⟨T107, L107, k107, n107⟩, -, X107, ⟨Lc107, hQ107, l107, y107, z107⟩, st107⟩ := X106.virtualBack hx (y := (⟨"com/example/menshen/menshen/policy/ConditionOperator", "isNegated", "()Z"⟩ : MethodName)) (z := (⟨"com/example/menshen/menshen/policy/ConditionOperator", "isNegated", "()Z"⟩ : MethodName)) hown (mvT hZ (hw _ (List.mem_of_getElem? (i := 51) rfl))) (mvT hZ (hw _ (List.mem_of_getElem? (i := 52) rfl))) (notFace_of_selects (args := #[]) (mvT hZ (hw _ (List.mem_of_getElem? (i := 54) rfl)))) (mvT hZ (hw _ (List.mem_of_getElem? (i := 54) rfl))) (mvT hZ (hw _ (List.mem_of_getElem? (i := 53) rfl))) (by decide) (backOf (W := 0) (rm1n l Z a0 hw hS [] (a_NUMERIC_GREATER_THAN Z) h52 n0 O52 ((f_a_NUMERIC_GREATER_THAN_negationOf hS).ext O52.2)) hZ (hw _ (List.mem_of_getElem? (i := 55) rfl)) (hw _ (List.mem_of_getElem? (i := 3) rfl)) (by decide) (by decide)) q107a q107c (g := (mkF m 220 #[oI p0, oR b6, oI (13 : Int32), oR (a_NUMERIC_GREATER_THAN Z), oI (0 : Int32), oU, oU] [(.ref (a_NUMERIC_GREATER_THAN Z))])) rfl (by rw [hml]; rfl) (Steps.refl _) (argsL := []) (rest := []) (lenOf pd_0 rfl) rfl (by show 2 * 0 + _ ≤ _; exact Nat.le_of_eq rfl) (hb hby at_220) (fun _ _ => ⟨rfl, e52, (by decide : 1 + 0 ≤ _), (by decide : 23 + 0 ≤ _)⟩)
    dsimp only [Pt.U, Pt.locs, Pt.cells, Pt.slots] at X107 l107 y107 z107 st107 hQ107
    subst l107 y107 z107
    obtain ⟨v107, N107q, K107q⟩ := hQ107
    have w107 : (fn1n Z (a_NUMERIC_GREATER_THAN Z)) = (0 : Int32) := rfl
    rw [w107] at v107
    subst v107
    have N107 := Fr.app N106 N107q
    have O107 := O52.keep K107q all0
    have Kc107 := Kc52.trans K107q all0
    obtain ⟨cq108, kq108, q108a, q108b, q108c⟩ := isOf hZ rfl ((e_a_NUMERIC_GREATER_THAN hS).ext O107.2)
    obtain ⟨_, _, ⟨T108, L108, k108, n108⟩, -, X108, ⟨Lc108, hQ108, l108, y108, z108⟩, st108⟩ := X107.virtualBack hx (y := (⟨"com/example/menshen/menshen/policy/ConditionOperator", "positive", "()Lcom/example/menshen/menshen/policy/ConditionOperator;"⟩ : MethodName)) (z := (⟨"com/example/menshen/menshen/policy/ConditionOperator", "positive", "()Lcom/example/menshen/menshen/policy/ConditionOperator;"⟩ : MethodName)) hown (mvT hZ (hw _ (List.mem_of_getElem? (i := 58) rfl))) (mvT hZ (hw _ (List.mem_of_getElem? (i := 59) rfl))) (notFace_of_selects (args := #[]) (mvT hZ (hw _ (List.mem_of_getElem? (i := 61) rfl)))) (mvT hZ (hw _ (List.mem_of_getElem? (i := 61) rfl))) (mvT hZ (hw _ (List.mem_of_getElem? (i := 60) rfl))) (by decide) (backOf (W := 0) (rm2n l Z a0 hw hS [] (a_NUMERIC_GREATER_THAN Z) T107.heap n0 O107 ((f_a_NUMERIC_GREATER_THAN_negationOf hS).ext O107.2)) hZ (hw _ (List.mem_of_getElem? (i := 62) rfl)) (hw _ (List.mem_of_getElem? (i := 3) rfl)) (by decide) (by decide)) q108a q108c (g := (mkF m 226 #[oI p0, oR b6, oI (13 : Int32), oR (a_NUMERIC_GREATER_THAN Z), oI (0 : Int32), oI (0 : Int32), oU] [(.ref (a_NUMERIC_GREATER_THAN Z))])) rfl (by rw [hml]; rfl) (Steps.refl _) (argsL := []) (rest := []) (lenOf pd_1 rfl) rfl (by show 2 * 0 + _ ≤ _; exact Nat.le_of_eq rfl) (hb hby at_226) (fun _ _ => ⟨rfl, rfl, (by decide : 1 + 0 ≤ _), (by decide : 23 + 0 ≤ _)⟩)
    dsimp only [Pt.U, Pt.locs, Pt.cells, Pt.slots] at X108 l108 y108 z108 st108 hQ108
    subst l108 y108 z108
    obtain ⟨v108, N108q, K108q⟩ := hQ108
    have w108 : (fn2n Z (a_NUMERIC_GREATER_THAN Z)) = (a_NUMERIC_GREATER_THAN Z) := rfl
    rw [w108] at v108
    subst v108
    have N108 := Fr.app N107 N108q
    have O108 := O107.keep K108q all0
    have Kc108 := Kc107.trans K108q all0
    obtain ⟨cq109, kq109, q109a, q109b, q109c⟩ := isOf hZ rfl ((e_a_NUMERIC_GREATER_THAN hS).ext O108.2)
    obtain ⟨_, _, ⟨T109, L109, k109, n109⟩, -, X109, ⟨Lc109, hQ109, l109, y109, z109⟩, st109⟩ := X108.virtualBack hx (y := (⟨"com/example/menshen/menshen/policy/ConditionOperator", "isNegated", "()Z"⟩ : MethodName)) (z := (⟨"com/example/menshen/menshen/policy/ConditionOperator", "isNegated", "()Z"⟩ : MethodName)) hown (mvT hZ (hw _ (List.mem_of_getElem? (i := 51) rfl))) (mvT hZ (hw _ (List.mem_of_getElem? (i := 52) rfl))) (notFace_of_selects (args := #[]) (mvT hZ (hw _ (List.mem_of_getElem? (i := 54) rfl)))) (mvT hZ (hw _ (List.mem_of_getElem? (i := 54) rfl))) (mvT hZ (hw _ (List.mem_of_getElem? (i := 53) rfl))) (by decide) (backOf (W := 0) (rm1n l Z a0 hw hS [] (a_NUMERIC_GREATER_THAN Z) T108.heap n0 O108 ((f_a_NUMERIC_GREATER_THAN_negationOf hS).ext O108.2)) hZ (hw _ (List.mem_of_getElem? (i := 55) rfl)) (hw _ (List.mem_of_getElem? (i := 3) rfl)) (by decide) (by decide)) q109a q109c (g := (mkF m 256 #[oI p0, oR b6, oI (13 : Int32), oR (a_NUMERIC_GREATER_THAN Z), oI (0 : Int32), oI (0 : Int32), oR (a_NUMERIC_GREATER_THAN Z)] [(.ref (a_NUMERIC_GREATER_THAN Z))])) rfl (by rw [hml]; rfl) (Steps.refl _) (argsL := []) (rest := []) (lenOf pd_0 rfl) rfl (by show 2 * 0 + _ ≤ _; exact Nat.le_of_eq rfl) (hb hby at_256) (fun _ _ => ⟨rfl, rfl, (by decide : 1 + 0 ≤ _), (by decide : 23 + 0 ≤ _)⟩)
    dsimp only [Pt.U, Pt.locs, Pt.cells, Pt.slots] at X109 l109 y109 z109 st109 hQ109
    subst l109 y109 z109
    obtain ⟨v109, N109q, K109q⟩ := hQ109
    have w109 : (fn1n Z (a_NUMERIC_GREATER_THAN Z)) = (0 : Int32) := rfl
    rw [w109] at v109
    subst v109
    have N109 := Fr.app N108 N109q
    have O109 := O108.keep K109q all0
    have Kc109 := Kc108.trans K109q all0
    obtain ⟨fs, hr, hrun, hended, hW, hsame⟩ := X109.leave (v := some (.int (1 : Int32))) (fun h => by rw [Bd.returns] at h; cases h)
    refine ⟨_, _, pre53 _ ?_, hrun, hended, _, _, rfl, ?_, ⟨_, rfl⟩, hW, hsame.mono (by decide) (by decide)⟩
    · show oP p e below T52 (mkF m 168 #[oI p0, oR b6, oU, oU, oU, oU, oU] [(.int (13 : Int32))]) _
      refine XS.istoreN X52.here hx rfl (hb hby at_168) rfl (l' := #[oI p0, oR b6, oI (13 : Int32), oU, oU, oU, oU]) rfl ?_
      show oP p e below T52 (mkF m 169 #[oI p0, oR b6, oI (13 : Int32), oU, oU, oU, oU] []) _
      refine XS.aloadN X52.here hx rfl (hb hby at_169) rfl rfl ?_
      show oP p e below T52 (mkF m 170 #[oI p0, oR b6, oI (13 : Int32), oU, oU, oU, oU] [(.ref b6)]) _
      refine XS.iloadN X52.here hx rfl (hb hby at_170) rfl ?_
      show oP p e below T52 (mkF m 171 #[oI p0, oR b6, oI (13 : Int32), oU, oU, oU, oU] [(.int (13 : Int32)), (.ref b6)]) _
      refine own_aaload X52 hx hZ e52 V52 rfl (j := (13 : Int32)) ⟨by decide, by decide⟩ (v := (.ref (a_NUMERIC_GREATER_THAN Z))) rfl (g := (mkF m 171 #[oI p0, oR b6, oI (13 : Int32), oU, oU, oU, oU] [(.int (13 : Int32)), (.ref b6)])) rfl rfl (hb hby at_171) _ ?_
      show oP p e below T52 (mkF m 172 #[oI p0, oR b6, oI (13 : Int32), oU, oU, oU, oU] [(.ref (a_NUMERIC_GREATER_THAN Z))]) _
      refine XS.astoreN X52.here hx rfl (hb hby at_172) rfl rfl (l' := #[oI p0, oR b6, oI (13 : Int32), oR (a_NUMERIC_GREATER_THAN Z), oU, oU, oU]) rfl ?_
      show oP p e below T52 (mkF m 173 #[oI p0, oR b6, oI (13 : Int32), oR (a_NUMERIC_GREATER_THAN Z), oU, oU, oU] []) _
      refine XS.iloadN X52.here hx rfl (hb hby at_173) rfl ?_
      show oP p e below T52 (mkF m 174 #[oI p0, oR b6, oI (13 : Int32), oR (a_NUMERIC_GREATER_THAN Z), oU, oU, oU] [(.int (13 : Int32))]) _
      refine XS.iconst X52.here hx rfl (hb hby at_174) ?_
      show oP p e below T52 (mkF m 175 #[oI p0, oR b6, oI (13 : Int32), oR (a_NUMERIC_GREATER_THAN Z), oU, oU, oU] [(.int (1 : Int32)), (.int (13 : Int32))]) _
      refine XS.icmpNo X52.here hx rfl (hb hby at_175) rfl (feq (by decide : ¬ ((13 : Int32) = (1 : Int32)))).1 ?_
      show oP p e below T52 (mkF m 178 #[oI p0, oR b6, oI (13 : Int32), oR (a_NUMERIC_GREATER_THAN Z), oU, oU, oU] []) _
      refine XS.iloadN X52.here hx rfl (hb hby at_178) rfl ?_
      show oP p e below T52 (mkF m 179 #[oI p0, oR b6, oI (13 : Int32), oR (a_NUMERIC_GREATER_THAN Z), oU, oU, oU] [(.int (13 : Int32))]) _
      refine XS.iconst X52.here hx rfl (hb hby at_179) ?_
      show oP p e below T52 (mkF m 180 #[oI p0, oR b6, oI (13 : Int32), oR (a_NUMERIC_GREATER_THAN Z), oU, oU, oU] [(.int (2 : Int32)), (.int (13 : Int32))]) _
      refine XS.icmpNo X52.here hx rfl (hb hby at_180) rfl (feq (by decide : ¬ ((13 : Int32) = (2 : Int32)))).1 ?_
      show oP p e below T52 (mkF m 183 #[oI p0, oR b6, oI (13 : Int32), oR (a_NUMERIC_GREATER_THAN Z), oU, oU, oU] []) _
      refine XS.iloadN X52.here hx rfl (hb hby at_183) rfl ?_
      show oP p e below T52 (mkF m 184 #[oI p0, oR b6, oI (13 : Int32), oR (a_NUMERIC_GREATER_THAN Z), oU, oU, oU] [(.int (13 : Int32))]) _
      refine XS.iconst X52.here hx rfl (hb hby at_184) ?_
      show oP p e below T52 (mkF m 185 #[oI p0, oR b6, oI (13 : Int32), oR (a_NUMERIC_GREATER_THAN Z), oU, oU, oU] [(.int (4 : Int32)), (.int (13 : Int32))]) _
      refine XS.icmpNo X52.here hx rfl (hb hby at_185) rfl (feq (by decide : ¬ ((13 : Int32) = (4 : Int32)))).1 ?_
      show oP p e below T52 (mkF m 188 #[oI p0, oR b6, oI (13 : Int32), oR (a_NUMERIC_GREATER_THAN Z), oU, oU, oU] []) _
      refine XS.iloadN X52.here hx rfl (hb hby at_188) rfl ?_
      show oP p e below T52 (mkF m 189 #[oI p0, oR b6, oI (13 : Int32), oR (a_NUMERIC_GREATER_THAN Z), oU, oU, oU] [(.int (13 : Int32))]) _
      refine XS.bipush X52.here hx rfl (hb hby at_189) ?_
      show oP p e below T52 (mkF m 191 #[oI p0, oR b6, oI (13 : Int32), oR (a_NUMERIC_GREATER_THAN Z), oU, oU, oU] [(.int (6 : Int32)), (.int (13 : Int32))]) _
      refine XS.icmpNo X52.here hx rfl (hb hby at_191) rfl (feq (by decide : ¬ ((13 : Int32) = (6 : Int32)))).1 ?_
      show oP p e below T52 (mkF m 194 #[oI p0, oR b6, oI (13 : Int32), oR (a_NUMERIC_GREATER_THAN Z), oU, oU, oU] []) _
      refine XS.iloadN X52.here hx rfl (hb hby at_194) rfl ?_
      show oP p e below T52 (mkF m 195 #[oI p0, oR b6, oI (13 : Int32), oR (a_NUMERIC_GREATER_THAN Z), oU, oU, oU] [(.int (13 : Int32))]) _
      refine XS.bipush X52.here hx rfl (hb hby at_195) ?_
      show oP p e below T52 (mkF m 197 #[oI p0, oR b6, oI (13 : Int32), oR (a_NUMERIC_GREATER_THAN Z), oU, oU, oU] [(.int (8 : Int32)), (.int (13 : Int32))]) _
      refine XS.icmpNo X52.here hx rfl (hb hby at_197) rfl (feq (by decide : ¬ ((13 : Int32) = (8 : Int32)))).1 ?_
      show oP p e below T52 (mkF m 200 #[oI p0, oR b6, oI (13 : Int32), oR (a_NUMERIC_GREATER_THAN Z), oU, oU, oU] []) _
      refine XS.iloadN X52.here hx rfl (hb hby at_200) rfl ?_
      show oP p e below T52 (mkF m 201 #[oI p0, oR b6, oI (13 : Int32), oR (a_NUMERIC_GREATER_THAN Z), oU, oU, oU] [(.int (13 : Int32))]) _
      refine XS.bipush X52.here hx rfl (hb hby at_201) ?_
      show oP p e below T52 (mkF m 203 #[oI p0, oR b6, oI (13 : Int32), oR (a_NUMERIC_GREATER_THAN Z), oU, oU, oU] [(.int (10 : Int32)), (.int (13 : Int32))]) _
      refine XS.icmpNo X52.here hx rfl (hb hby at_203) rfl (feq (by decide : ¬ ((13 : Int32) = (10 : Int32)))).1 ?_
      show oP p e below T52 (mkF m 206 #[oI p0, oR b6, oI (13 : Int32), oR (a_NUMERIC_GREATER_THAN Z), oU, oU, oU] []) _
      refine XS.iloadN X52.here hx rfl (hb hby at_206) rfl ?_
      show oP p e below T52 (mkF m 207 #[oI p0, oR b6, oI (13 : Int32), oR (a_NUMERIC_GREATER_THAN Z), oU, oU, oU] [(.int (13 : Int32))]) _
      refine XS.bipush X52.here hx rfl (hb hby at_207) ?_
      show oP p e below T52 (mkF m 209 #[oI p0, oR b6, oI (13 : Int32), oR (a_NUMERIC_GREATER_THAN Z), oU, oU, oU] [(.int (16 : Int32)), (.int (13 : Int32))]) _
      refine XS.icmpYes X52.here hx rfl (pc0 := 209) (pc' := 216) rfl (hb hby at_209) rfl (feq (by decide : ¬ ((13 : Int32) = (16 : Int32)))).2 (by decide) (by decide) ?_
      show oP p e below T52 (mkF m 216 #[oI p0, oR b6, oI (13 : Int32), oR (a_NUMERIC_GREATER_THAN Z), oU, oU, oU] []) _
      refine XS.iconst X52.here hx rfl (hb hby at_216) ?_
      show oP p e below T52 (mkF m 217 #[oI p0, oR b6, oI (13 : Int32), oR (a_NUMERIC_GREATER_THAN Z), oU, oU, oU] [(.int (0 : Int32))]) _
      refine XS.istore X52.here hx rfl (hb hby at_217) rfl (l' := #[oI p0, oR b6, oI (13 : Int32), oR (a_NUMERIC_GREATER_THAN Z), oI (0 : Int32), oU, oU]) rfl ?_
      show oP p e below T52 (mkF m 219 #[oI p0, oR b6, oI (13 : Int32), oR (a_NUMERIC_GREATER_THAN Z), oI (0 : Int32), oU, oU] []) _
      refine XS.aloadN X52.here hx rfl (hb hby at_219) rfl rfl ?_
      show oP p e below T52 (mkF m 220 #[oI p0, oR b6, oI (13 : Int32), oR (a_NUMERIC_GREATER_THAN Z), oI (0 : Int32), oU, oU] [(.ref (a_NUMERIC_GREATER_THAN Z))]) _
      refine st107.trans ?_
      show oP p e below T107 (mkF m 223 #[oI p0, oR b6, oI (13 : Int32), oR (a_NUMERIC_GREATER_THAN Z), oI (0 : Int32), oU, oU] [(.int (0 : Int32))]) _
      refine XS.istore X107.here hx rfl (hb hby at_223) rfl (l' := #[oI p0, oR b6, oI (13 : Int32), oR (a_NUMERIC_GREATER_THAN Z), oI (0 : Int32), oI (0 : Int32), oU]) rfl ?_
      show oP p e below T107 (mkF m 225 #[oI p0, oR b6, oI (13 : Int32), oR (a_NUMERIC_GREATER_THAN Z), oI (0 : Int32), oI (0 : Int32), oU] []) _
      refine XS.aloadN X107.here hx rfl (hb hby at_225) rfl rfl ?_
      show oP p e below T107 (mkF m 226 #[oI p0, oR b6, oI (13 : Int32), oR (a_NUMERIC_GREATER_THAN Z), oI (0 : Int32), oI (0 : Int32), oU] [(.ref (a_NUMERIC_GREATER_THAN Z))]) _
      refine st108.trans ?_
      show oP p e below T108 (mkF m 229 #[oI p0, oR b6, oI (13 : Int32), oR (a_NUMERIC_GREATER_THAN Z), oI (0 : Int32), oI (0 : Int32), oU] [(.ref (a_NUMERIC_GREATER_THAN Z))]) _
      refine XS.astore X108.here hx rfl (hb hby at_229) rfl rfl (l' := #[oI p0, oR b6, oI (13 : Int32), oR (a_NUMERIC_GREATER_THAN Z), oI (0 : Int32), oI (0 : Int32), oR (a_NUMERIC_GREATER_THAN Z)]) rfl ?_
      show oP p e below T108 (mkF m 231 #[oI p0, oR b6, oI (13 : Int32), oR (a_NUMERIC_GREATER_THAN Z), oI (0 : Int32), oI (0 : Int32), oR (a_NUMERIC_GREATER_THAN Z)] []) _
      refine XS.iload X108.here hx rfl (hb hby at_231) rfl ?_
      show oP p e below T108 (mkF m 233 #[oI p0, oR b6, oI (13 : Int32), oR (a_NUMERIC_GREATER_THAN Z), oI (0 : Int32), oI (0 : Int32), oR (a_NUMERIC_GREATER_THAN Z)] [(.int (0 : Int32))]) _
      refine XS.iload X108.here hx rfl (hb hby at_233) rfl ?_
      show oP p e below T108 (mkF m 235 #[oI p0, oR b6, oI (13 : Int32), oR (a_NUMERIC_GREATER_THAN Z), oI (0 : Int32), oI (0 : Int32), oR (a_NUMERIC_GREATER_THAN Z)] [(.int (0 : Int32)), (.int (0 : Int32))]) _
      refine XS.icmpNo X108.here hx rfl (hb hby at_235) rfl (teq (by decide : (0 : Int32) = (0 : Int32))).2 ?_
      show oP p e below T108 (mkF m 238 #[oI p0, oR b6, oI (13 : Int32), oR (a_NUMERIC_GREATER_THAN Z), oI (0 : Int32), oI (0 : Int32), oR (a_NUMERIC_GREATER_THAN Z)] []) _
      refine XS.iload X108.here hx rfl (hb hby at_238) rfl ?_
      show oP p e below T108 (mkF m 240 #[oI p0, oR b6, oI (13 : Int32), oR (a_NUMERIC_GREATER_THAN Z), oI (0 : Int32), oI (0 : Int32), oR (a_NUMERIC_GREATER_THAN Z)] [(.int (0 : Int32))]) _
      refine XS.aload X108.here hx rfl (hb hby at_240) rfl rfl ?_
      show oP p e below T108 (mkF m 242 #[oI p0, oR b6, oI (13 : Int32), oR (a_NUMERIC_GREATER_THAN Z), oI (0 : Int32), oI (0 : Int32), oR (a_NUMERIC_GREATER_THAN Z)] [(.ref (a_NUMERIC_GREATER_THAN Z)), (.int (0 : Int32))]) _
      refine XS.aloadN X108.here hx rfl (hb hby at_242) rfl rfl ?_
      show oP p e below T108 (mkF m 243 #[oI p0, oR b6, oI (13 : Int32), oR (a_NUMERIC_GREATER_THAN Z), oI (0 : Int32), oI (0 : Int32), oR (a_NUMERIC_GREATER_THAN Z)] [(.ref (a_NUMERIC_GREATER_THAN Z)), (.ref (a_NUMERIC_GREATER_THAN Z)), (.int (0 : Int32))]) _
      refine Jvm.RoadKit.acmp (g := (mkF m 243 #[oI p0, oR b6, oI (13 : Int32), oR (a_NUMERIC_GREATER_THAN Z), oI (0 : Int32), oI (0 : Int32), oR (a_NUMERIC_GREATER_THAN Z)] [(.ref (a_NUMERIC_GREATER_THAN Z)), (.ref (a_NUMERIC_GREATER_THAN Z)), (.int (0 : Int32))])) X108 hx rfl rfl rfl (pc0 := 243) (pc' := 250) (same := true) rfl (hb hby at_243) rfl (decide_eq_true (congrArg Value.ref (rfl : (a_NUMERIC_GREATER_THAN Z) = (a_NUMERIC_GREATER_THAN Z)))) (by decide) (by decide) ?_
      show oP p e below T108 (mkF m 250 #[oI p0, oR b6, oI (13 : Int32), oR (a_NUMERIC_GREATER_THAN Z), oI (0 : Int32), oI (0 : Int32), oR (a_NUMERIC_GREATER_THAN Z)] [(.int (0 : Int32))]) _
      refine XS.iconst X108.here hx rfl (hb hby at_250) ?_
      show oP p e below T108 (mkF m 251 #[oI p0, oR b6, oI (13 : Int32), oR (a_NUMERIC_GREATER_THAN Z), oI (0 : Int32), oI (0 : Int32), oR (a_NUMERIC_GREATER_THAN Z)] [(.int (0 : Int32)), (.int (0 : Int32))]) _
      refine XS.icmpNo X108.here hx rfl (hb hby at_251) rfl (teq (by decide : (0 : Int32) = (0 : Int32))).2 ?_
      show oP p e below T108 (mkF m 254 #[oI p0, oR b6, oI (13 : Int32), oR (a_NUMERIC_GREATER_THAN Z), oI (0 : Int32), oI (0 : Int32), oR (a_NUMERIC_GREATER_THAN Z)] []) _
      refine XS.aload X108.here hx rfl (hb hby at_254) rfl rfl ?_
      show oP p e below T108 (mkF m 256 #[oI p0, oR b6, oI (13 : Int32), oR (a_NUMERIC_GREATER_THAN Z), oI (0 : Int32), oI (0 : Int32), oR (a_NUMERIC_GREATER_THAN Z)] [(.ref (a_NUMERIC_GREATER_THAN Z))]) _
      refine st109.trans ?_
      show oP p e below T109 (mkF m 259 #[oI p0, oR b6, oI (13 : Int32), oR (a_NUMERIC_GREATER_THAN Z), oI (0 : Int32), oI (0 : Int32), oR (a_NUMERIC_GREATER_THAN Z)] [(.int (0 : Int32))]) _
      refine XS.ifNo X109.here hx rfl (hb hby at_259) rfl ((if0 _ _).trans (teq (by decide : (0 : Int32) = (0 : Int32))).2) ?_
      show oP p e below T109 (mkF m 262 #[oI p0, oR b6, oI (13 : Int32), oR (a_NUMERIC_GREATER_THAN Z), oI (0 : Int32), oI (0 : Int32), oR (a_NUMERIC_GREATER_THAN Z)] []) _
      refine XS.iconst X109.here hx rfl (hb hby at_262) ?_
      show oP p e below T109 (mkF m 263 #[oI p0, oR b6, oI (13 : Int32), oR (a_NUMERIC_GREATER_THAN Z), oI (0 : Int32), oI (0 : Int32), oR (a_NUMERIC_GREATER_THAN Z)] [(.int (1 : Int32))]) _
      refine XS.goto X109.here hx rfl (pc0 := 263) (pc' := 267) rfl (hb hby at_263) (by decide) (by decide) ?_
      show oP p e below T109 (mkF m 267 #[oI p0, oR b6, oI (13 : Int32), oR (a_NUMERIC_GREATER_THAN Z), oI (0 : Int32), oI (0 : Int32), oR (a_NUMERIC_GREATER_THAN Z)] [(.int (1 : Int32))]) _
      exact retN X109 hx (t := .boolean) Bd.returns (by simp) (hb hby at_267) hr
    · show (some (.int (1 : Int32)) : Option Value) = some (.int (1 : Int32)) ∧ Fr n0 _ ∧ Keep h0 T109.heap []
      exact ⟨rfl, N109, Kc109⟩
  · obtain ⟨lo110, X110, N110⟩ := own_hide X52 N52
    obtain ⟨cq111, kq111, q111a, q111b, q111c⟩ := isOf hZ e52 ((e_a_NUMERIC_GREATER_THAN_EQUALS hS).ext O52.2)
    obtain ⟨_, _, ⟨T111, L111, k111, n111⟩, -, X111, ⟨Lc111, hQ111, l111, y111, z111⟩, st111⟩ := X110.virtualBack hx (y := (⟨"com/example/menshen/menshen/policy/ConditionOperator", "isNegated", "()Z"⟩ : MethodName)) (z := (⟨"com/example/menshen/menshen/policy/ConditionOperator", "isNegated", "()Z"⟩ : MethodName)) hown (mvT hZ (hw _ (List.mem_of_getElem? (i := 51) rfl))) (mvT hZ (hw _ (List.mem_of_getElem? (i := 52) rfl))) (notFace_of_selects (args := #[]) (mvT hZ (hw _ (List.mem_of_getElem? (i := 54) rfl)))) (mvT hZ (hw _ (List.mem_of_getElem? (i := 54) rfl))) (mvT hZ (hw _ (List.mem_of_getElem? (i := 53) rfl))) (by decide) (backOf (W := 0) (rm1n l Z a0 hw hS [] (a_NUMERIC_GREATER_THAN_EQUALS Z) h52 n0 O52 ((f_a_NUMERIC_GREATER_THAN_EQUALS_negationOf hS).ext O52.2)) hZ (hw _ (List.mem_of_getElem? (i := 55) rfl)) (hw _ (List.mem_of_getElem? (i := 3) rfl)) (by decide) (by decide)) q111a q111c (g := (mkF m 220 #[oI p0, oR b6, oI (14 : Int32), oR (a_NUMERIC_GREATER_THAN_EQUALS Z), oI (0 : Int32), oU, oU] [(.ref (a_NUMERIC_GREATER_THAN_EQUALS Z))])) rfl (by rw [hml]; rfl) (Steps.refl _) (argsL := []) (rest := []) (lenOf pd_0 rfl) rfl (by show 2 * 0 + _ ≤ _; exact Nat.le_of_eq rfl) (hb hby at_220) (fun _ _ => ⟨rfl, e52, (by decide : 1 + 0 ≤ _), (by decide : 23 + 0 ≤ _)⟩)
    dsimp only [Pt.U, Pt.locs, Pt.cells, Pt.slots] at X111 l111 y111 z111 st111 hQ111
    subst l111 y111 z111
    obtain ⟨v111, N111q, K111q⟩ := hQ111
    have w111 : (fn1n Z (a_NUMERIC_GREATER_THAN_EQUALS Z)) = (0 : Int32) := rfl
    rw [w111] at v111
    subst v111
    have N111 := Fr.app N110 N111q
    have O111 := O52.keep K111q all0
    have Kc111 := Kc52.trans K111q all0
    obtain ⟨cq112, kq112, q112a, q112b, q112c⟩ := isOf hZ rfl ((e_a_NUMERIC_GREATER_THAN_EQUALS hS).ext O111.2)
    obtain ⟨_, _, ⟨T112, L112, k112, n112⟩, -, X112, ⟨Lc112, hQ112, l112, y112, z112⟩, st112⟩ := X111.virtualBack hx (y := (⟨"com/example/menshen/menshen/policy/ConditionOperator", "positive", "()Lcom/example/menshen/menshen/policy/ConditionOperator;"⟩ : MethodName)) (z := (⟨"com/example/menshen/menshen/policy/ConditionOperator", "positive", "()Lcom/example/menshen/menshen/policy/ConditionOperator;"⟩ : MethodName)) hown (mvT hZ (hw _ (List.mem_of_getElem? (i := 58) rfl))) (mvT hZ (hw _ (List.mem_of_getElem? (i := 59) rfl))) (notFace_of_selects (args := #[]) (mvT hZ (hw _ (List.mem_of_getElem? (i := 61) rfl)))) (mvT hZ (hw _ (List.mem_of_getElem? (i := 61) rfl))) (mvT hZ (hw _ (List.mem_of_getElem? (i := 60) rfl))) (by decide) (backOf (W := 0) (rm2n l Z a0 hw hS [] (a_NUMERIC_GREATER_THAN_EQUALS Z) T111.heap n0 O111 ((f_a_NUMERIC_GREATER_THAN_EQUALS_negationOf hS).ext O111.2)) hZ (hw _ (List.mem_of_getElem? (i := 62) rfl)) (hw _ (List.mem_of_getElem? (i := 3) rfl)) (by decide) (by decide)) q112a q112c (g := (mkF m 226 #[oI p0, oR b6, oI (14 : Int32), oR (a_NUMERIC_GREATER_THAN_EQUALS Z), oI (0 : Int32), oI (0 : Int32), oU] [(.ref (a_NUMERIC_GREATER_THAN_EQUALS Z))])) rfl (by rw [hml]; rfl) (Steps.refl _) (argsL := []) (rest := []) (lenOf pd_1 rfl) rfl (by show 2 * 0 + _ ≤ _; exact Nat.le_of_eq rfl) (hb hby at_226) (fun _ _ => ⟨rfl, rfl, (by decide : 1 + 0 ≤ _), (by decide : 23 + 0 ≤ _)⟩)
    dsimp only [Pt.U, Pt.locs, Pt.cells, Pt.slots] at X112 l112 y112 z112 st112 hQ112
    subst l112 y112 z112
    obtain ⟨v112, N112q, K112q⟩ := hQ112
    have w112 : (fn2n Z (a_NUMERIC_GREATER_THAN_EQUALS Z)) = (a_NUMERIC_GREATER_THAN_EQUALS Z) := rfl
    rw [w112] at v112
    subst v112
    have N112 := Fr.app N111 N112q
    have O112 := O111.keep K112q all0
    have Kc112 := Kc111.trans K112q all0
    obtain ⟨cq113, kq113, q113a, q113b, q113c⟩ := isOf hZ rfl ((e_a_NUMERIC_GREATER_THAN_EQUALS hS).ext O112.2)
    obtain ⟨_, _, ⟨T113, L113, k113, n113⟩, -, X113, ⟨Lc113, hQ113, l113, y113, z113⟩, st113⟩ := X112.virtualBack hx (y := (⟨"com/example/menshen/menshen/policy/ConditionOperator", "isNegated", "()Z"⟩ : MethodName)) (z := (⟨"com/example/menshen/menshen/policy/ConditionOperator", "isNegated", "()Z"⟩ : MethodName)) hown (mvT hZ (hw _ (List.mem_of_getElem? (i := 51) rfl))) (mvT hZ (hw _ (List.mem_of_getElem? (i := 52) rfl))) (notFace_of_selects (args := #[]) (mvT hZ (hw _ (List.mem_of_getElem? (i := 54) rfl)))) (mvT hZ (hw _ (List.mem_of_getElem? (i := 54) rfl))) (mvT hZ (hw _ (List.mem_of_getElem? (i := 53) rfl))) (by decide) (backOf (W := 0) (rm1n l Z a0 hw hS [] (a_NUMERIC_GREATER_THAN_EQUALS Z) T112.heap n0 O112 ((f_a_NUMERIC_GREATER_THAN_EQUALS_negationOf hS).ext O112.2)) hZ (hw _ (List.mem_of_getElem? (i := 55) rfl)) (hw _ (List.mem_of_getElem? (i := 3) rfl)) (by decide) (by decide)) q113a q113c (g := (mkF m 256 #[oI p0, oR b6, oI (14 : Int32), oR (a_NUMERIC_GREATER_THAN_EQUALS Z), oI (0 : Int32), oI (0 : Int32), oR (a_NUMERIC_GREATER_THAN_EQUALS Z)] [(.ref (a_NUMERIC_GREATER_THAN_EQUALS Z))])) rfl (by rw [hml]; rfl) (Steps.refl _) (argsL := []) (rest := []) (lenOf pd_0 rfl) rfl (by show 2 * 0 + _ ≤ _; exact Nat.le_of_eq rfl) (hb hby at_256) (fun _ _ => ⟨rfl, rfl, (by decide : 1 + 0 ≤ _), (by decide : 23 + 0 ≤ _)⟩)
    dsimp only [Pt.U, Pt.locs, Pt.cells, Pt.slots] at X113 l113 y113 z113 st113 hQ113
    subst l113 y113 z113
    obtain ⟨v113, N113q, K113q⟩ := hQ113
    have w113 : (fn1n Z (a_NUMERIC_GREATER_THAN_EQUALS Z)) = (0 : Int32) := rfl
    rw [w113] at v113
    subst v113
    have N113 := Fr.app N112 N113q
    have O113 := O112.keep K113q all0
    have Kc113 := Kc112.trans K113q all0
    obtain ⟨fs, hr, hrun, hended, hW, hsame⟩ := X113.leave (v := some (.int (1 : Int32))) (fun h => by rw [Bd.returns] at h; cases h)
    refine ⟨_, _, pre53 _ ?_, hrun, hended, _, _, rfl, ?_, ⟨_, rfl⟩, hW, hsame.mono (by decide) (by decide)⟩
    · show oP p e below T52 (mkF m 168 #[oI p0, oR b6, oU, oU, oU, oU, oU] [(.int (14 : Int32))]) _
      refine XS.istoreN X52.here hx rfl (hb hby at_168) rfl (l' := #[oI p0, oR b6, oI (14 : Int32), oU, oU, oU, oU]) rfl ?_
      show oP p e below T52 (mkF m 169 #[oI p0, oR b6, oI (14 : Int32), oU, oU, oU, oU] []) _
      refine XS.aloadN X52.here hx rfl (hb hby at_169) rfl rfl ?_
      show oP p e below T52 (mkF m 170 #[oI p0, oR b6, oI (14 : Int32), oU, oU, oU, oU] [(.ref b6)]) _
      refine XS.iloadN X52.here hx rfl (hb hby at_170) rfl ?_
      show oP p e below T52 (mkF m 171 #[oI p0, oR b6, oI (14 : Int32), oU, oU, oU, oU] [(.int (14 : Int32)), (.ref b6)]) _
      refine own_aaload X52 hx hZ e52 V52 rfl (j := (14 : Int32)) ⟨by decide, by decide⟩ (v := (.ref (a_NUMERIC_GREATER_THAN_EQUALS Z))) rfl (g := (mkF m 171 #[oI p0, oR b6, oI (14 : Int32), oU, oU, oU, oU] [(.int (14 : Int32)), (.ref b6)])) rfl rfl (hb hby at_171) _ ?_
      show oP p e below T52 (mkF m 172 #[oI p0, oR b6, oI (14 : Int32), oU, oU, oU, oU] [(.ref (a_NUMERIC_GREATER_THAN_EQUALS Z))]) _
      refine XS.astoreN X52.here hx rfl (hb hby at_172) rfl rfl (l' := #[oI p0, oR b6, oI (14 : Int32), oR (a_NUMERIC_GREATER_THAN_EQUALS Z), oU, oU, oU]) rfl ?_
      show oP p e below T52 (mkF m 173 #[oI p0, oR b6, oI (14 : Int32), oR (a_NUMERIC_GREATER_THAN_EQUALS Z), oU, oU, oU] []) _
      refine XS.iloadN X52.here hx rfl (hb hby at_173) rfl ?_
      show oP p e below T52 (mkF m 174 #[oI p0, oR b6, oI (14 : Int32), oR (a_NUMERIC_GREATER_THAN_EQUALS Z), oU, oU, oU] [(.int (14 : Int32))]) _
      refine XS.iconst X52.here hx rfl (hb hby at_174) ?_
      show oP p e below T52 (mkF m 175 #[oI p0, oR b6, oI (14 : Int32), oR (a_NUMERIC_GREATER_THAN_EQUALS Z), oU, oU, oU] [(.int (1 : Int32)), (.int (14 : Int32))]) _
      refine XS.icmpNo X52.here hx rfl (hb hby at_175) rfl (feq (by decide : ¬ ((14 : Int32) = (1 : Int32)))).1 ?_
      show oP p e below T52 (mkF m 178 #[oI p0, oR b6, oI (14 : Int32), oR (a_NUMERIC_GREATER_THAN_EQUALS Z), oU, oU, oU] []) _
      refine XS.iloadN X52.here hx rfl (hb hby at_178) rfl ?_
      show oP p e below T52 (mkF m 179 #[oI p0, oR b6, oI (14 : Int32), oR (a_NUMERIC_GREATER_THAN_EQUALS Z), oU, oU, oU] [(.int (14 : Int32))]) _
      refine XS.iconst X52.here hx rfl (hb hby at_179) ?_
      show oP p e below T52 (mkF m 180 #[oI p0, oR b6, oI (14 : Int32), oR (a_NUMERIC_GREATER_THAN_EQUALS Z), oU, oU, oU] [(.int (2 : Int32)), (.int (14 : Int32))]) _
      refine XS.icmpNo X52.here hx rfl (hb hby at_180) rfl (feq (by decide : ¬ ((14 : Int32) = (2 : Int32)))).1 ?_
      show oP p e below T52 (mkF m 183 #[oI p0, oR b6, oI (14 : Int32), oR (a_NUMERIC_GREATER_THAN_EQUALS Z), oU, oU, oU] []) _
      refine XS.iloadN X52.here hx rfl (hb hby at_183) rfl ?_
      show oP p e below T52 (mkF m 184 #[oI p0, oR b6, oI (14 : Int32), oR (a_NUMERIC_GREATER_THAN_EQUALS Z), oU, oU, oU] [(.int (14 : Int32))]) _
      refine XS.iconst X52.here hx rfl (hb hby at_184) ?_
      show oP p e below T52 (mkF m 185 #[oI p0, oR b6, oI (14 : Int32), oR (a_NUMERIC_GREATER_THAN_EQUALS Z), oU, oU, oU] [(.int (4 : Int32)), (.int (14 : Int32))]) _
      refine XS.icmpNo X52.here hx rfl (hb hby at_185) rfl (feq (by decide : ¬ ((14 : Int32) = (4 : Int32)))).1 ?_
      show oP p e below T52 (mkF m 188 #[oI p0, oR b6, oI (14 : Int32), oR (a_NUMERIC_GREATER_THAN_EQUALS Z), oU, oU, oU] []) _
      refine XS.iloadN X52.here hx rfl (hb hby at_188) rfl ?_
      show oP p e below T52 (mkF m 189 #[oI p0, oR b6, oI (14 : Int32), oR (a_NUMERIC_GREATER_THAN_EQUALS Z), oU, oU, oU] [(.int (14 : Int32))]) _
      refine XS.bipush X52.here hx rfl (hb hby at_189) ?_
      show oP p e below T52 (mkF m 191 #[oI p0, oR b6, oI (14 : Int32), oR (a_NUMERIC_GREATER_THAN_EQUALS Z), oU, oU, oU] [(.int (6 : Int32)), (.int (14 : Int32))]) _
      refine XS.icmpNo X52.here hx rfl (hb hby at_191) rfl (feq (by decide : ¬ ((14 : Int32) = (6 : Int32)))).1 ?_
      show oP p e below T52 (mkF m 194 #[oI p0, oR b6, oI (14 : Int32), oR (a_NUMERIC_GREATER_THAN_EQUALS Z), oU, oU, oU] []) _
      refine XS.iloadN X52.here hx rfl (hb hby at_194) rfl ?_
      show oP p e below T52 (mkF m 195 #[oI p0, oR b6, oI (14 : Int32), oR (a_NUMERIC_GREATER_THAN_EQUALS Z), oU, oU, oU] [(.int (14 : Int32))]) _
      refine XS.bipush X52.here hx rfl (hb hby at_195) ?_
      show oP p e below T52 (mkF m 197 #[oI p0, oR b6, oI (14 : Int32), oR (a_NUMERIC_GREATER_THAN_EQUALS Z), oU, oU, oU] [(.int (8 : Int32)), (.int (14 : Int32))]) _
      refine XS.icmpNo X52.here hx rfl (hb hby at_197) rfl (feq (by decide : ¬ ((14 : Int32) = (8 : Int32)))).1 ?_
      show oP p e below T52 (mkF m 200 #[oI p0, oR b6, oI (14 : Int32), oR (a_NUMERIC_GREATER_THAN_EQUALS Z), oU, oU, oU] []) _
      refine XS.iloadN X52.here hx rfl (hb hby at_200) rfl ?_
      show oP p e below T52 (mkF m 201 #[oI p0, oR b6, oI (14 : Int32), oR (a_NUMERIC_GREATER_THAN_EQUALS Z), oU, oU, oU] [(.int (14 : Int32))]) _
      refine XS.bipush X52.here hx rfl (hb hby at_201) ?_
      show oP p e below T52 (mkF m 203 #[oI p0, oR b6, oI (14 : Int32), oR (a_NUMERIC_GREATER_THAN_EQUALS Z), oU, oU, oU] [(.int (10 : Int32)), (.int (14 : Int32))]) _
      refine XS.icmpNo X52.here hx rfl (hb hby at_203) rfl (feq (by decide : ¬ ((14 : Int32) = (10 : Int32)))).1 ?_
      show oP p e below T52 (mkF m 206 #[oI p0, oR b6, oI (14 : Int32), oR (a_NUMERIC_GREATER_THAN_EQUALS Z), oU, oU, oU] []) _
      refine XS.iloadN X52.here hx rfl (hb hby at_206) rfl ?_
      show oP p e below T52 (mkF m 207 #[oI p0, oR b6, oI (14 : Int32), oR (a_NUMERIC_GREATER_THAN_EQUALS Z), oU, oU, oU] [(.int (14 : Int32))]) _
      refine XS.bipush X52.here hx rfl (hb hby at_207) ?_
      show oP p e below T52 (mkF m 209 #[oI p0, oR b6, oI (14 : Int32), oR (a_NUMERIC_GREATER_THAN_EQUALS Z), oU, oU, oU] [(.int (16 : Int32)), (.int (14 : Int32))]) _
      refine XS.icmpYes X52.here hx rfl (pc0 := 209) (pc' := 216) rfl (hb hby at_209) rfl (feq (by decide : ¬ ((14 : Int32) = (16 : Int32)))).2 (by decide) (by decide) ?_
      show oP p e below T52 (mkF m 216 #[oI p0, oR b6, oI (14 : Int32), oR (a_NUMERIC_GREATER_THAN_EQUALS Z), oU, oU, oU] []) _
      refine XS.iconst X52.here hx rfl (hb hby at_216) ?_
      show oP p e below T52 (mkF m 217 #[oI p0, oR b6, oI (14 : Int32), oR (a_NUMERIC_GREATER_THAN_EQUALS Z), oU, oU, oU] [(.int (0 : Int32))]) _
      refine XS.istore X52.here hx rfl (hb hby at_217) rfl (l' := #[oI p0, oR b6, oI (14 : Int32), oR (a_NUMERIC_GREATER_THAN_EQUALS Z), oI (0 : Int32), oU, oU]) rfl ?_
      show oP p e below T52 (mkF m 219 #[oI p0, oR b6, oI (14 : Int32), oR (a_NUMERIC_GREATER_THAN_EQUALS Z), oI (0 : Int32), oU, oU] []) _
      refine XS.aloadN X52.here hx rfl (hb hby at_219) rfl rfl ?_
      show oP p e below T52 (mkF m 220 #[oI p0, oR b6, oI (14 : Int32), oR (a_NUMERIC_GREATER_THAN_EQUALS Z), oI (0 : Int32), oU, oU] [(.ref (a_NUMERIC_GREATER_THAN_EQUALS Z))]) _
      refine st111.trans ?_
      show oP p e below T111 (mkF m 223 #[oI p0, oR b6, oI (14 : Int32), oR (a_NUMERIC_GREATER_THAN_EQUALS Z), oI (0 : Int32), oU, oU] [(.int (0 : Int32))]) _
      refine XS.istore X111.here hx rfl (hb hby at_223) rfl (l' := #[oI p0, oR b6, oI (14 : Int32), oR (a_NUMERIC_GREATER_THAN_EQUALS Z), oI (0 : Int32), oI (0 : Int32), oU]) rfl ?_
      show oP p e below T111 (mkF m 225 #[oI p0, oR b6, oI (14 : Int32), oR (a_NUMERIC_GREATER_THAN_EQUALS Z), oI (0 : Int32), oI (0 : Int32), oU] []) _
      refine XS.aloadN X111.here hx rfl (hb hby at_225) rfl rfl ?_
      show oP p e below T111 (mkF m 226 #[oI p0, oR b6, oI (14 : Int32), oR (a_NUMERIC_GREATER_THAN_EQUALS Z), oI (0 : Int32), oI (0 : Int32), oU] [(.ref (a_NUMERIC_GREATER_THAN_EQUALS Z))]) _
      refine st112.trans ?_
      show oP p e below T112 (mkF m 229 #[oI p0, oR b6, oI (14 : Int32), oR (a_NUMERIC_GREATER_THAN_EQUALS Z), oI (0 : Int32), oI (0 : Int32), oU] [(.ref (a_NUMERIC_GREATER_THAN_EQUALS Z))]) _
      refine XS.astore X112.here hx rfl (hb hby at_229) rfl rfl (l' := #[oI p0, oR b6, oI (14 : Int32), oR (a_NUMERIC_GREATER_THAN_EQUALS Z), oI (0 : Int32), oI (0 : Int32), oR (a_NUMERIC_GREATER_THAN_EQUALS Z)]) rfl ?_
      show oP p e below T112 (mkF m 231 #[oI p0, oR b6, oI (14 : Int32), oR (a_NUMERIC_GREATER_THAN_EQUALS Z), oI (0 : Int32), oI (0 : Int32), oR (a_NUMERIC_GREATER_THAN_EQUALS Z)] []) _
      refine XS.iload X112.here hx rfl (hb hby at_231) rfl ?_
      show oP p e below T112 (mkF m 233 #[oI p0, oR b6, oI (14 : Int32), oR (a_NUMERIC_GREATER_THAN_EQUALS Z), oI (0 : Int32), oI (0 : Int32), oR (a_NUMERIC_GREATER_THAN_EQUALS Z)] [(.int (0 : Int32))]) _
      refine XS.iload X112.here hx rfl (hb hby at_233) rfl ?_
      show oP p e below T112 (mkF m 235 #[oI p0, oR b6, oI (14 : Int32), oR (a_NUMERIC_GREATER_THAN_EQUALS Z), oI (0 : Int32), oI (0 : Int32), oR (a_NUMERIC_GREATER_THAN_EQUALS Z)] [(.int (0 : Int32)), (.int (0 : Int32))]) _
      refine XS.icmpNo X112.here hx rfl (hb hby at_235) rfl (teq (by decide : (0 : Int32) = (0 : Int32))).2 ?_
      show oP p e below T112 (mkF m 238 #[oI p0, oR b6, oI (14 : Int32), oR (a_NUMERIC_GREATER_THAN_EQUALS Z), oI (0 : Int32), oI (0 : Int32), oR (a_NUMERIC_GREATER_THAN_EQUALS Z)] []) _
      refine XS.iload X112.here hx rfl (hb hby at_238) rfl ?_
      show oP p e below T112 (mkF m 240 #[oI p0, oR b6, oI (14 : Int32), oR (a_NUMERIC_GREATER_THAN_EQUALS Z), oI (0 : Int32), oI (0 : Int32), oR (a_NUMERIC_GREATER_THAN_EQUALS Z)] [(.int (0 : Int32))]) _
      refine XS.aload X112.here hx rfl (hb hby at_240) rfl rfl ?_
      show oP p e below T112 (mkF m 242 #[oI p0, oR b6, oI (14 : Int32), oR (a_NUMERIC_GREATER_THAN_EQUALS Z), oI (0 : Int32), oI (0 : Int32), oR (a_NUMERIC_GREATER_THAN_EQUALS Z)] [(.ref (a_NUMERIC_GREATER_THAN_EQUALS Z)), (.int (0 : Int32))]) _
      refine XS.aloadN X112.here hx rfl (hb hby at_242) rfl rfl ?_
      show oP p e below T112 (mkF m 243 #[oI p0, oR b6, oI (14 : Int32), oR (a_NUMERIC_GREATER_THAN_EQUALS Z), oI (0 : Int32), oI (0 : Int32), oR (a_NUMERIC_GREATER_THAN_EQUALS Z)] [(.ref (a_NUMERIC_GREATER_THAN_EQUALS Z)), (.ref (a_NUMERIC_GREATER_THAN_EQUALS Z)), (.int (0 : Int32))]) _
      refine Jvm.RoadKit.acmp (g := (mkF m 243 #[oI p0, oR b6, oI (14 : Int32), oR (a_NUMERIC_GREATER_THAN_EQUALS Z), oI (0 : Int32), oI (0 : Int32), oR (a_NUMERIC_GREATER_THAN_EQUALS Z)] [(.ref (a_NUMERIC_GREATER_THAN_EQUALS Z)), (.ref (a_NUMERIC_GREATER_THAN_EQUALS Z)), (.int (0 : Int32))])) X112 hx rfl rfl rfl (pc0 := 243) (pc' := 250) (same := true) rfl (hb hby at_243) rfl (decide_eq_true (congrArg Value.ref (rfl : (a_NUMERIC_GREATER_THAN_EQUALS Z) = (a_NUMERIC_GREATER_THAN_EQUALS Z)))) (by decide) (by decide) ?_
      show oP p e below T112 (mkF m 250 #[oI p0, oR b6, oI (14 : Int32), oR (a_NUMERIC_GREATER_THAN_EQUALS Z), oI (0 : Int32), oI (0 : Int32), oR (a_NUMERIC_GREATER_THAN_EQUALS Z)] [(.int (0 : Int32))]) _
      refine XS.iconst X112.here hx rfl (hb hby at_250) ?_
      show oP p e below T112 (mkF m 251 #[oI p0, oR b6, oI (14 : Int32), oR (a_NUMERIC_GREATER_THAN_EQUALS Z), oI (0 : Int32), oI (0 : Int32), oR (a_NUMERIC_GREATER_THAN_EQUALS Z)] [(.int (0 : Int32)), (.int (0 : Int32))]) _
      refine XS.icmpNo X112.here hx rfl (hb hby at_251) rfl (teq (by decide : (0 : Int32) = (0 : Int32))).2 ?_
      show oP p e below T112 (mkF m 254 #[oI p0, oR b6, oI (14 : Int32), oR (a_NUMERIC_GREATER_THAN_EQUALS Z), oI (0 : Int32), oI (0 : Int32), oR (a_NUMERIC_GREATER_THAN_EQUALS Z)] []) _
      refine XS.aload X112.here hx rfl (hb hby at_254) rfl rfl ?_
      show oP p e below T112 (mkF m 256 #[oI p0, oR b6, oI (14 : Int32), oR (a_NUMERIC_GREATER_THAN_EQUALS Z), oI (0 : Int32), oI (0 : Int32), oR (a_NUMERIC_GREATER_THAN_EQUALS Z)] [(.ref (a_NUMERIC_GREATER_THAN_EQUALS Z))]) _
      refine st113.trans ?_
      show oP p e below T113 (mkF m 259 #[oI p0, oR b6, oI (14 : Int32), oR (a_NUMERIC_GREATER_THAN_EQUALS Z), oI (0 : Int32), oI (0 : Int32), oR (a_NUMERIC_GREATER_THAN_EQUALS Z)] [(.int (0 : Int32))]) _
      refine XS.ifNo X113.here hx rfl (hb hby at_259) rfl ((if0 _ _).trans (teq (by decide : (0 : Int32) = (0 : Int32))).2) ?_
      show oP p e below T113 (mkF m 262 #[oI p0, oR b6, oI (14 : Int32), oR (a_NUMERIC_GREATER_THAN_EQUALS Z), oI (0 : Int32), oI (0 : Int32), oR (a_NUMERIC_GREATER_THAN_EQUALS Z)] []) _
      refine XS.iconst X113.here hx rfl (hb hby at_262) ?_
      show oP p e below T113 (mkF m 263 #[oI p0, oR b6, oI (14 : Int32), oR (a_NUMERIC_GREATER_THAN_EQUALS Z), oI (0 : Int32), oI (0 : Int32), oR (a_NUMERIC_GREATER_THAN_EQUALS Z)] [(.int (1 : Int32))]) _
      refine XS.goto X113.here hx rfl (pc0 := 263) (pc' := 267) rfl (hb hby at_263) (by decide) (by decide) ?_
      show oP p e below T113 (mkF m 267 #[oI p0, oR b6, oI (14 : Int32), oR (a_NUMERIC_GREATER_THAN_EQUALS Z), oI (0 : Int32), oI (0 : Int32), oR (a_NUMERIC_GREATER_THAN_EQUALS Z)] [(.int (1 : Int32))]) _
      exact retN X113 hx (t := .boolean) Bd.returns (by simp) (hb hby at_267) hr
    · show (some (.int (1 : Int32)) : Option Value) = some (.int (1 : Int32)) ∧ Fr n0 _ ∧ Keep h0 T113.heap []
      exact ⟨rfl, N113, Kc113⟩
  · obtain ⟨lo114, X114, N114⟩ := own_hide X52 N52
    obtain ⟨cq115, kq115, q115a, q115b, q115c⟩ := isOf hZ e52 ((e_a_DATE_EQUALS hS).ext O52.2)
    obtain ⟨_, _, ⟨T115, L115, k115, n115⟩, -, X115, ⟨Lc115, hQ115, l115, y115, z115⟩, st115⟩ := X114.virtualBack hx (y := (⟨"com/example/menshen/menshen/policy/ConditionOperator", "isNegated", "()Z"⟩ : MethodName)) (z := (⟨"com/example/menshen/menshen/policy/ConditionOperator", "isNegated", "()Z"⟩ : MethodName)) hown (mvT hZ (hw _ (List.mem_of_getElem? (i := 51) rfl))) (mvT hZ (hw _ (List.mem_of_getElem? (i := 52) rfl))) (notFace_of_selects (args := #[]) (mvT hZ (hw _ (List.mem_of_getElem? (i := 54) rfl)))) (mvT hZ (hw _ (List.mem_of_getElem? (i := 54) rfl))) (mvT hZ (hw _ (List.mem_of_getElem? (i := 53) rfl))) (by decide) (backOf (W := 0) (rm1n l Z a0 hw hS [] (a_DATE_EQUALS Z) h52 n0 O52 ((f_a_DATE_EQUALS_negationOf hS).ext O52.2)) hZ (hw _ (List.mem_of_getElem? (i := 55) rfl)) (hw _ (List.mem_of_getElem? (i := 3) rfl)) (by decide) (by decide)) q115a q115c (g := (mkF m 220 #[oI p0, oR b6, oI (15 : Int32), oR (a_DATE_EQUALS Z), oI (0 : Int32), oU, oU] [(.ref (a_DATE_EQUALS Z))])) rfl (by rw [hml]; rfl) (Steps.refl _) (argsL := []) (rest := []) (lenOf pd_0 rfl) rfl (by show 2 * 0 + _ ≤ _; exact Nat.le_of_eq rfl) (hb hby at_220) (fun _ _ => ⟨rfl, e52, (by decide : 1 + 0 ≤ _), (by decide : 23 + 0 ≤ _)⟩)
    dsimp only [Pt.U, Pt.locs, Pt.cells, Pt.slots] at X115 l115 y115 z115 st115 hQ115
    subst l115 y115 z115
    obtain ⟨v115, N115q, K115q⟩ := hQ115
    have w115 : (fn1n Z (a_DATE_EQUALS Z)) = (0 : Int32) := rfl
    rw [w115] at v115
    subst v115
    have N115 := Fr.app N114 N115q
    have O115 := O52.keep K115q all0
    have Kc115 := Kc52.trans K115q all0
    obtain ⟨cq116, kq116, q116a, q116b, q116c⟩ := isOf hZ rfl ((e_a_DATE_EQUALS hS).ext O115.2)
    obtain ⟨_, _, ⟨T116, L116, k116, n116⟩, -, X116, ⟨Lc116, hQ116, l116, y116, z116⟩, st116⟩ := X115.virtualBack hx (y := (⟨"com/example/menshen/menshen/policy/ConditionOperator", "positive", "()Lcom/example/menshen/menshen/policy/ConditionOperator;"⟩ : MethodName)) (z := (⟨"com/example/menshen/menshen/policy/ConditionOperator", "positive", "()Lcom/example/menshen/menshen/policy/ConditionOperator;"⟩ : MethodName)) hown (mvT hZ (hw _ (List.mem_of_getElem? (i := 58) rfl))) (mvT hZ (hw _ (List.mem_of_getElem? (i := 59) rfl))) (notFace_of_selects (args := #[]) (mvT hZ (hw _ (List.mem_of_getElem? (i := 61) rfl)))) (mvT hZ (hw _ (List.mem_of_getElem? (i := 61) rfl))) (mvT hZ (hw _ (List.mem_of_getElem? (i := 60) rfl))) (by decide) (backOf (W := 0) (rm2n l Z a0 hw hS [] (a_DATE_EQUALS Z) T115.heap n0 O115 ((f_a_DATE_EQUALS_negationOf hS).ext O115.2)) hZ (hw _ (List.mem_of_getElem? (i := 62) rfl)) (hw _ (List.mem_of_getElem? (i := 3) rfl)) (by decide) (by decide)) q116a q116c (g := (mkF m 226 #[oI p0, oR b6, oI (15 : Int32), oR (a_DATE_EQUALS Z), oI (0 : Int32), oI (0 : Int32), oU] [(.ref (a_DATE_EQUALS Z))])) rfl (by rw [hml]; rfl) (Steps.refl _) (argsL := []) (rest := []) (lenOf pd_1 rfl) rfl (by show 2 * 0 + _ ≤ _; exact Nat.le_of_eq rfl) (hb hby at_226) (fun _ _ => ⟨rfl, rfl, (by decide : 1 + 0 ≤ _), (by decide : 23 + 0 ≤ _)⟩)
    dsimp only [Pt.U, Pt.locs, Pt.cells, Pt.slots] at X116 l116 y116 z116 st116 hQ116
    subst l116 y116 z116
    obtain ⟨v116, N116q, K116q⟩ := hQ116
    have w116 : (fn2n Z (a_DATE_EQUALS Z)) = (a_DATE_EQUALS Z) := rfl
    rw [w116] at v116
    subst v116
    have N116 := Fr.app N115 N116q
    have O116 := O115.keep K116q all0
    have Kc116 := Kc115.trans K116q all0
    obtain ⟨cq117, kq117, q117a, q117b, q117c⟩ := isOf hZ rfl ((e_a_DATE_EQUALS hS).ext O116.2)
    obtain ⟨_, _, ⟨T117, L117, k117, n117⟩, -, X117, ⟨Lc117, hQ117, l117, y117, z117⟩, st117⟩ := X116.virtualBack hx (y := (⟨"com/example/menshen/menshen/policy/ConditionOperator", "isNegated", "()Z"⟩ : MethodName)) (z := (⟨"com/example/menshen/menshen/policy/ConditionOperator", "isNegated", "()Z"⟩ : MethodName)) hown (mvT hZ (hw _ (List.mem_of_getElem? (i := 51) rfl))) (mvT hZ (hw _ (List.mem_of_getElem? (i := 52) rfl))) (notFace_of_selects (args := #[]) (mvT hZ (hw _ (List.mem_of_getElem? (i := 54) rfl)))) (mvT hZ (hw _ (List.mem_of_getElem? (i := 54) rfl))) (mvT hZ (hw _ (List.mem_of_getElem? (i := 53) rfl))) (by decide) (backOf (W := 0) (rm1n l Z a0 hw hS [] (a_DATE_EQUALS Z) T116.heap n0 O116 ((f_a_DATE_EQUALS_negationOf hS).ext O116.2)) hZ (hw _ (List.mem_of_getElem? (i := 55) rfl)) (hw _ (List.mem_of_getElem? (i := 3) rfl)) (by decide) (by decide)) q117a q117c (g := (mkF m 256 #[oI p0, oR b6, oI (15 : Int32), oR (a_DATE_EQUALS Z), oI (0 : Int32), oI (0 : Int32), oR (a_DATE_EQUALS Z)] [(.ref (a_DATE_EQUALS Z))])) rfl (by rw [hml]; rfl) (Steps.refl _) (argsL := []) (rest := []) (lenOf pd_0 rfl) rfl (by show 2 * 0 + _ ≤ _; exact Nat.le_of_eq rfl) (hb hby at_256) (fun _ _ => ⟨rfl, rfl, (by decide : 1 + 0 ≤ _), (by decide : 23 + 0 ≤ _)⟩)
    dsimp only [Pt.U, Pt.locs, Pt.cells, Pt.slots] at X117 l117 y117 z117 st117 hQ117
    subst l117 y117 z117
    obtain ⟨v117, N117q, K117q⟩ := hQ117
    have w117 : (fn1n Z (a_DATE_EQUALS Z)) = (0 : Int32) := rfl
    rw [w117] at v117
    subst v117
    have N117 := Fr.app N116 N117q
    have O117 := O116.keep K117q all0
    have Kc117 := Kc116.trans K117q all0
    obtain ⟨fs, hr, hrun, hended, hW, hsame⟩ := X117.leave (v := some (.int (1 : Int32))) (fun h => by rw [Bd.returns] at h; cases h)
    refine ⟨_, _, pre53 _ ?_, hrun, hended, _, _, rfl, ?_, ⟨_, rfl⟩, hW, hsame.mono (by decide) (by decide)⟩
    · show oP p e below T52 (mkF m 168 #[oI p0, oR b6, oU, oU, oU, oU, oU] [(.int (15 : Int32))]) _
      refine XS.istoreN X52.here hx rfl (hb hby at_168) rfl (l' := #[oI p0, oR b6, oI (15 : Int32), oU, oU, oU, oU]) rfl ?_
      show oP p e below T52 (mkF m 169 #[oI p0, oR b6, oI (15 : Int32), oU, oU, oU, oU] []) _
      refine XS.aloadN X52.here hx rfl (hb hby at_169) rfl rfl ?_
      show oP p e below T52 (mkF m 170 #[oI p0, oR b6, oI (15 : Int32), oU, oU, oU, oU] [(.ref b6)]) _
      refine XS.iloadN X52.here hx rfl (hb hby at_170) rfl ?_
      show oP p e below T52 (mkF m 171 #[oI p0, oR b6, oI (15 : Int32), oU, oU, oU, oU] [(.int (15 : Int32)), (.ref b6)]) _
      refine own_aaload X52 hx hZ e52 V52 rfl (j := (15 : Int32)) ⟨by decide, by decide⟩ (v := (.ref (a_DATE_EQUALS Z))) rfl (g := (mkF m 171 #[oI p0, oR b6, oI (15 : Int32), oU, oU, oU, oU] [(.int (15 : Int32)), (.ref b6)])) rfl rfl (hb hby at_171) _ ?_
      show oP p e below T52 (mkF m 172 #[oI p0, oR b6, oI (15 : Int32), oU, oU, oU, oU] [(.ref (a_DATE_EQUALS Z))]) _
      refine XS.astoreN X52.here hx rfl (hb hby at_172) rfl rfl (l' := #[oI p0, oR b6, oI (15 : Int32), oR (a_DATE_EQUALS Z), oU, oU, oU]) rfl ?_
      show oP p e below T52 (mkF m 173 #[oI p0, oR b6, oI (15 : Int32), oR (a_DATE_EQUALS Z), oU, oU, oU] []) _
      refine XS.iloadN X52.here hx rfl (hb hby at_173) rfl ?_
      show oP p e below T52 (mkF m 174 #[oI p0, oR b6, oI (15 : Int32), oR (a_DATE_EQUALS Z), oU, oU, oU] [(.int (15 : Int32))]) _
      refine XS.iconst X52.here hx rfl (hb hby at_174) ?_
      show oP p e below T52 (mkF m 175 #[oI p0, oR b6, oI (15 : Int32), oR (a_DATE_EQUALS Z), oU, oU, oU] [(.int (1 : Int32)), (.int (15 : Int32))]) _
      refine XS.icmpNo X52.here hx rfl (hb hby at_175) rfl (feq (by decide : ¬ ((15 : Int32) = (1 : Int32)))).1 ?_
      show oP p e below T52 (mkF m 178 #[oI p0, oR b6, oI (15 : Int32), oR (a_DATE_EQUALS Z), oU, oU, oU] []) _
      refine XS.iloadN X52.here hx rfl (hb hby at_178) rfl ?_
      show oP p e below T52 (mkF m 179 #[oI p0, oR b6, oI (15 : Int32), oR (a_DATE_EQUALS Z), oU, oU, oU] [(.int (15 : Int32))]) _
      refine XS.iconst X52.here hx rfl (hb hby at_179) ?_
      show oP p e below T52 (mkF m 180 #[oI p0, oR b6, oI (15 : Int32), oR (a_DATE_EQUALS Z), oU, oU, oU] [(.int (2 : Int32)), (.int (15 : Int32))]) _
      refine XS.icmpNo X52.here hx rfl (hb hby at_180) rfl (feq (by decide : ¬ ((15 : Int32) = (2 : Int32)))).1 ?_
      show oP p e below T52 (mkF m 183 #[oI p0, oR b6, oI (15 : Int32), oR (a_DATE_EQUALS Z), oU, oU, oU] []) _
      refine XS.iloadN X52.here hx rfl (hb hby at_183) rfl ?_
      show oP p e below T52 (mkF m 184 #[oI p0, oR b6, oI (15 : Int32), oR (a_DATE_EQUALS Z), oU, oU, oU] [(.int (15 : Int32))]) _
      refine XS.iconst X52.here hx rfl (hb hby at_184) ?_
      show oP p e below T52 (mkF m 185 #[oI p0, oR b6, oI (15 : Int32), oR (a_DATE_EQUALS Z), oU, oU, oU] [(.int (4 : Int32)), (.int (15 : Int32))]) _
      refine XS.icmpNo X52.here hx rfl (hb hby at_185) rfl (feq (by decide : ¬ ((15 : Int32) = (4 : Int32)))).1 ?_
      show oP p e below T52 (mkF m 188 #[oI p0, oR b6, oI (15 : Int32), oR (a_DATE_EQUALS Z), oU, oU, oU] []) _
      refine XS.iloadN X52.here hx rfl (hb hby at_188) rfl ?_
      show oP p e below T52 (mkF m 189 #[oI p0, oR b6, oI (15 : Int32), oR (a_DATE_EQUALS Z), oU, oU, oU] [(.int (15 : Int32))]) _
      refine XS.bipush X52.here hx rfl (hb hby at_189) ?_
      show oP p e below T52 (mkF m 191 #[oI p0, oR b6, oI (15 : Int32), oR (a_DATE_EQUALS Z), oU, oU, oU] [(.int (6 : Int32)), (.int (15 : Int32))]) _
      refine XS.icmpNo X52.here hx rfl (hb hby at_191) rfl (feq (by decide : ¬ ((15 : Int32) = (6 : Int32)))).1 ?_
      show oP p e below T52 (mkF m 194 #[oI p0, oR b6, oI (15 : Int32), oR (a_DATE_EQUALS Z), oU, oU, oU] []) _
      refine XS.iloadN X52.here hx rfl (hb hby at_194) rfl ?_
      show oP p e below T52 (mkF m 195 #[oI p0, oR b6, oI (15 : Int32), oR (a_DATE_EQUALS Z), oU, oU, oU] [(.int (15 : Int32))]) _
      refine XS.bipush X52.here hx rfl (hb hby at_195) ?_
      show oP p e below T52 (mkF m 197 #[oI p0, oR b6, oI (15 : Int32), oR (a_DATE_EQUALS Z), oU, oU, oU] [(.int (8 : Int32)), (.int (15 : Int32))]) _
      refine XS.icmpNo X52.here hx rfl (hb hby at_197) rfl (feq (by decide : ¬ ((15 : Int32) = (8 : Int32)))).1 ?_
      show oP p e below T52 (mkF m 200 #[oI p0, oR b6, oI (15 : Int32), oR (a_DATE_EQUALS Z), oU, oU, oU] []) _
      refine XS.iloadN X52.here hx rfl (hb hby at_200) rfl ?_
      show oP p e below T52 (mkF m 201 #[oI p0, oR b6, oI (15 : Int32), oR (a_DATE_EQUALS Z), oU, oU, oU] [(.int (15 : Int32))]) _
      refine XS.bipush X52.here hx rfl (hb hby at_201) ?_
      show oP p e below T52 (mkF m 203 #[oI p0, oR b6, oI (15 : Int32), oR (a_DATE_EQUALS Z), oU, oU, oU] [(.int (10 : Int32)), (.int (15 : Int32))]) _
      refine XS.icmpNo X52.here hx rfl (hb hby at_203) rfl (feq (by decide : ¬ ((15 : Int32) = (10 : Int32)))).1 ?_
      show oP p e below T52 (mkF m 206 #[oI p0, oR b6, oI (15 : Int32), oR (a_DATE_EQUALS Z), oU, oU, oU] []) _
      refine XS.iloadN X52.here hx rfl (hb hby at_206) rfl ?_
      show oP p e below T52 (mkF m 207 #[oI p0, oR b6, oI (15 : Int32), oR (a_DATE_EQUALS Z), oU, oU, oU] [(.int (15 : Int32))]) _
      refine XS.bipush X52.here hx rfl (hb hby at_207) ?_
      show oP p e below T52 (mkF m 209 #[oI p0, oR b6, oI (15 : Int32), oR (a_DATE_EQUALS Z), oU, oU, oU] [(.int (16 : Int32)), (.int (15 : Int32))]) _
      refine XS.icmpYes X52.here hx rfl (pc0 := 209) (pc' := 216) rfl (hb hby at_209) rfl (feq (by decide : ¬ ((15 : Int32) = (16 : Int32)))).2 (by decide) (by decide) ?_
      show oP p e below T52 (mkF m 216 #[oI p0, oR b6, oI (15 : Int32), oR (a_DATE_EQUALS Z), oU, oU, oU] []) _
      refine XS.iconst X52.here hx rfl (hb hby at_216) ?_
      show oP p e below T52 (mkF m 217 #[oI p0, oR b6, oI (15 : Int32), oR (a_DATE_EQUALS Z), oU, oU, oU] [(.int (0 : Int32))]) _
      refine XS.istore X52.here hx rfl (hb hby at_217) rfl (l' := #[oI p0, oR b6, oI (15 : Int32), oR (a_DATE_EQUALS Z), oI (0 : Int32), oU, oU]) rfl ?_
      show oP p e below T52 (mkF m 219 #[oI p0, oR b6, oI (15 : Int32), oR (a_DATE_EQUALS Z), oI (0 : Int32), oU, oU] []) _
      refine XS.aloadN X52.here hx rfl (hb hby at_219) rfl rfl ?_
      show oP p e below T52 (mkF m 220 #[oI p0, oR b6, oI (15 : Int32), oR (a_DATE_EQUALS Z), oI (0 : Int32), oU, oU] [(.ref (a_DATE_EQUALS Z))]) _
      refine st115.trans ?_
      show oP p e below T115 (mkF m 223 #[oI p0, oR b6, oI (15 : Int32), oR (a_DATE_EQUALS Z), oI (0 : Int32), oU, oU] [(.int (0 : Int32))]) _
      refine XS.istore X115.here hx rfl (hb hby at_223) rfl (l' := #[oI p0, oR b6, oI (15 : Int32), oR (a_DATE_EQUALS Z), oI (0 : Int32), oI (0 : Int32), oU]) rfl ?_
      show oP p e below T115 (mkF m 225 #[oI p0, oR b6, oI (15 : Int32), oR (a_DATE_EQUALS Z), oI (0 : Int32), oI (0 : Int32), oU] []) _
      refine XS.aloadN X115.here hx rfl (hb hby at_225) rfl rfl ?_
      show oP p e below T115 (mkF m 226 #[oI p0, oR b6, oI (15 : Int32), oR (a_DATE_EQUALS Z), oI (0 : Int32), oI (0 : Int32), oU] [(.ref (a_DATE_EQUALS Z))]) _
      refine st116.trans ?_
      show oP p e below T116 (mkF m 229 #[oI p0, oR b6, oI (15 : Int32), oR (a_DATE_EQUALS Z), oI (0 : Int32), oI (0 : Int32), oU] [(.ref (a_DATE_EQUALS Z))]) _
      refine XS.astore X116.here hx rfl (hb hby at_229) rfl rfl (l' := #[oI p0, oR b6, oI (15 : Int32), oR (a_DATE_EQUALS Z), oI (0 : Int32), oI (0 : Int32), oR (a_DATE_EQUALS Z)]) rfl ?_
      show oP p e below T116 (mkF m 231 #[oI p0, oR b6, oI (15 : Int32), oR (a_DATE_EQUALS Z), oI (0 : Int32), oI (0 : Int32), oR (a_DATE_EQUALS Z)] []) _
      refine XS.iload X116.here hx rfl (hb hby at_231) rfl ?_
      show oP p e below T116 (mkF m 233 #[oI p0, oR b6, oI (15 : Int32), oR (a_DATE_EQUALS Z), oI (0 : Int32), oI (0 : Int32), oR (a_DATE_EQUALS Z)] [(.int (0 : Int32))]) _
      refine XS.iload X116.here hx rfl (hb hby at_233) rfl ?_
      show oP p e below T116 (mkF m 235 #[oI p0, oR b6, oI (15 : Int32), oR (a_DATE_EQUALS Z), oI (0 : Int32), oI (0 : Int32), oR (a_DATE_EQUALS Z)] [(.int (0 : Int32)), (.int (0 : Int32))]) _
      refine XS.icmpNo X116.here hx rfl (hb hby at_235) rfl (teq (by decide : (0 : Int32) = (0 : Int32))).2 ?_
      show oP p e below T116 (mkF m 238 #[oI p0, oR b6, oI (15 : Int32), oR (a_DATE_EQUALS Z), oI (0 : Int32), oI (0 : Int32), oR (a_DATE_EQUALS Z)] []) _
      refine XS.iload X116.here hx rfl (hb hby at_238) rfl ?_
      show oP p e below T116 (mkF m 240 #[oI p0, oR b6, oI (15 : Int32), oR (a_DATE_EQUALS Z), oI (0 : Int32), oI (0 : Int32), oR (a_DATE_EQUALS Z)] [(.int (0 : Int32))]) _
      refine XS.aload X116.here hx rfl (hb hby at_240) rfl rfl ?_
      show oP p e below T116 (mkF m 242 #[oI p0, oR b6, oI (15 : Int32), oR (a_DATE_EQUALS Z), oI (0 : Int32), oI (0 : Int32), oR (a_DATE_EQUALS Z)] [(.ref (a_DATE_EQUALS Z)), (.int (0 : Int32))]) _
      refine XS.aloadN X116.here hx rfl (hb hby at_242) rfl rfl ?_
      show oP p e below T116 (mkF m 243 #[oI p0, oR b6, oI (15 : Int32), oR (a_DATE_EQUALS Z), oI (0 : Int32), oI (0 : Int32), oR (a_DATE_EQUALS Z)] [(.ref (a_DATE_EQUALS Z)), (.ref (a_DATE_EQUALS Z)), (.int (0 : Int32))]) _
      refine Jvm.RoadKit.acmp (g := (mkF m 243 #[oI p0, oR b6, oI (15 : Int32), oR (a_DATE_EQUALS Z), oI (0 : Int32), oI (0 : Int32), oR (a_DATE_EQUALS Z)] [(.ref (a_DATE_EQUALS Z)), (.ref (a_DATE_EQUALS Z)), (.int (0 : Int32))])) X116 hx rfl rfl rfl (pc0 := 243) (pc' := 250) (same := true) rfl (hb hby at_243) rfl (decide_eq_true (congrArg Value.ref (rfl : (a_DATE_EQUALS Z) = (a_DATE_EQUALS Z)))) (by decide) (by decide) ?_
      show oP p e below T116 (mkF m 250 #[oI p0, oR b6, oI (15 : Int32), oR (a_DATE_EQUALS Z), oI (0 : Int32), oI (0 : Int32), oR (a_DATE_EQUALS Z)] [(.int (0 : Int32))]) _
      refine XS.iconst X116.here hx rfl (hb hby at_250) ?_
      show oP p e below T116 (mkF m 251 #[oI p0, oR b6, oI (15 : Int32), oR (a_DATE_EQUALS Z), oI (0 : Int32), oI (0 : Int32), oR (a_DATE_EQUALS Z)] [(.int (0 : Int32)), (.int (0 : Int32))]) _
      refine XS.icmpNo X116.here hx rfl (hb hby at_251) rfl (teq (by decide : (0 : Int32) = (0 : Int32))).2 ?_
      show oP p e below T116 (mkF m 254 #[oI p0, oR b6, oI (15 : Int32), oR (a_DATE_EQUALS Z), oI (0 : Int32), oI (0 : Int32), oR (a_DATE_EQUALS Z)] []) _
      refine XS.aload X116.here hx rfl (hb hby at_254) rfl rfl ?_
      show oP p e below T116 (mkF m 256 #[oI p0, oR b6, oI (15 : Int32), oR (a_DATE_EQUALS Z), oI (0 : Int32), oI (0 : Int32), oR (a_DATE_EQUALS Z)] [(.ref (a_DATE_EQUALS Z))]) _
      refine st117.trans ?_
      show oP p e below T117 (mkF m 259 #[oI p0, oR b6, oI (15 : Int32), oR (a_DATE_EQUALS Z), oI (0 : Int32), oI (0 : Int32), oR (a_DATE_EQUALS Z)] [(.int (0 : Int32))]) _
      refine XS.ifNo X117.here hx rfl (hb hby at_259) rfl ((if0 _ _).trans (teq (by decide : (0 : Int32) = (0 : Int32))).2) ?_
      show oP p e below T117 (mkF m 262 #[oI p0, oR b6, oI (15 : Int32), oR (a_DATE_EQUALS Z), oI (0 : Int32), oI (0 : Int32), oR (a_DATE_EQUALS Z)] []) _
      refine XS.iconst X117.here hx rfl (hb hby at_262) ?_
      show oP p e below T117 (mkF m 263 #[oI p0, oR b6, oI (15 : Int32), oR (a_DATE_EQUALS Z), oI (0 : Int32), oI (0 : Int32), oR (a_DATE_EQUALS Z)] [(.int (1 : Int32))]) _
      refine XS.goto X117.here hx rfl (pc0 := 263) (pc' := 267) rfl (hb hby at_263) (by decide) (by decide) ?_
      show oP p e below T117 (mkF m 267 #[oI p0, oR b6, oI (15 : Int32), oR (a_DATE_EQUALS Z), oI (0 : Int32), oI (0 : Int32), oR (a_DATE_EQUALS Z)] [(.int (1 : Int32))]) _
      exact retN X117 hx (t := .boolean) Bd.returns (by simp) (hb hby at_267) hr
    · show (some (.int (1 : Int32)) : Option Value) = some (.int (1 : Int32)) ∧ Fr n0 _ ∧ Keep h0 T117.heap []
      exact ⟨rfl, N117, Kc117⟩
  · obtain ⟨lo118, X118, N118⟩ := own_hide X52 N52
    obtain ⟨cq119, kq119, q119a, q119b, q119c⟩ := isOf hZ e52 ((e_a_DATE_NOT_EQUALS hS).ext O52.2)
    obtain ⟨_, _, ⟨T119, L119, k119, n119⟩, -, X119, ⟨Lc119, hQ119, l119, y119, z119⟩, st119⟩ := X118.virtualBack hx (y := (⟨"com/example/menshen/menshen/policy/ConditionOperator", "isNegated", "()Z"⟩ : MethodName)) (z := (⟨"com/example/menshen/menshen/policy/ConditionOperator", "isNegated", "()Z"⟩ : MethodName)) hown (mvT hZ (hw _ (List.mem_of_getElem? (i := 51) rfl))) (mvT hZ (hw _ (List.mem_of_getElem? (i := 52) rfl))) (notFace_of_selects (args := #[]) (mvT hZ (hw _ (List.mem_of_getElem? (i := 54) rfl)))) (mvT hZ (hw _ (List.mem_of_getElem? (i := 54) rfl))) (mvT hZ (hw _ (List.mem_of_getElem? (i := 53) rfl))) (by decide) (backOf (W := 0) (rm1r l Z a0 hw hS [] (a_DATE_NOT_EQUALS Z) (a_DATE_EQUALS Z) h52 n0 O52 ((f_a_DATE_NOT_EQUALS_negationOf hS).ext O52.2)) hZ (hw _ (List.mem_of_getElem? (i := 55) rfl)) (hw _ (List.mem_of_getElem? (i := 3) rfl)) (by decide) (by decide)) q119a q119c (g := (mkF m 220 #[oI p0, oR b6, oI (16 : Int32), oR (a_DATE_NOT_EQUALS Z), oI (1 : Int32), oU, oU] [(.ref (a_DATE_NOT_EQUALS Z))])) rfl (by rw [hml]; rfl) (Steps.refl _) (argsL := []) (rest := []) (lenOf pd_0 rfl) rfl (by show 2 * 0 + _ ≤ _; exact Nat.le_of_eq rfl) (hb hby at_220) (fun _ _ => ⟨rfl, e52, (by decide : 1 + 0 ≤ _), (by decide : 23 + 0 ≤ _)⟩)
    dsimp only [Pt.U, Pt.locs, Pt.cells, Pt.slots] at X119 l119 y119 z119 st119 hQ119
    subst l119 y119 z119
    obtain ⟨v119, N119q, K119q⟩ := hQ119
    have w119 : (fn1r Z (a_DATE_NOT_EQUALS Z) (a_DATE_EQUALS Z)) = (1 : Int32) := rfl
    rw [w119] at v119
    subst v119
    have N119 := Fr.app N118 N119q
    have O119 := O52.keep K119q all0
    have Kc119 := Kc52.trans K119q all0
    obtain ⟨cq120, kq120, q120a, q120b, q120c⟩ := isOf hZ rfl ((e_a_DATE_NOT_EQUALS hS).ext O119.2)
    obtain ⟨_, _, ⟨T120, L120, k120, n120⟩, -, X120, ⟨Lc120, hQ120, l120, y120, z120⟩, st120⟩ := X119.virtualBack hx (y := (⟨"com/example/menshen/menshen/policy/ConditionOperator", "positive", "()Lcom/example/menshen/menshen/policy/ConditionOperator;"⟩ : MethodName)) (z := (⟨"com/example/menshen/menshen/policy/ConditionOperator", "positive", "()Lcom/example/menshen/menshen/policy/ConditionOperator;"⟩ : MethodName)) hown (mvT hZ (hw _ (List.mem_of_getElem? (i := 58) rfl))) (mvT hZ (hw _ (List.mem_of_getElem? (i := 59) rfl))) (notFace_of_selects (args := #[]) (mvT hZ (hw _ (List.mem_of_getElem? (i := 61) rfl)))) (mvT hZ (hw _ (List.mem_of_getElem? (i := 61) rfl))) (mvT hZ (hw _ (List.mem_of_getElem? (i := 60) rfl))) (by decide) (backOf (W := 0) (rm2r l Z a0 hw hS [] (a_DATE_NOT_EQUALS Z) (a_DATE_EQUALS Z) T119.heap n0 O119 ((f_a_DATE_NOT_EQUALS_negationOf hS).ext O119.2)) hZ (hw _ (List.mem_of_getElem? (i := 62) rfl)) (hw _ (List.mem_of_getElem? (i := 3) rfl)) (by decide) (by decide)) q120a q120c (g := (mkF m 226 #[oI p0, oR b6, oI (16 : Int32), oR (a_DATE_NOT_EQUALS Z), oI (1 : Int32), oI (1 : Int32), oU] [(.ref (a_DATE_NOT_EQUALS Z))])) rfl (by rw [hml]; rfl) (Steps.refl _) (argsL := []) (rest := []) (lenOf pd_1 rfl) rfl (by show 2 * 0 + _ ≤ _; exact Nat.le_of_eq rfl) (hb hby at_226) (fun _ _ => ⟨rfl, rfl, (by decide : 1 + 0 ≤ _), (by decide : 23 + 0 ≤ _)⟩)
    dsimp only [Pt.U, Pt.locs, Pt.cells, Pt.slots] at X120 l120 y120 z120 st120 hQ120
    subst l120 y120 z120
    obtain ⟨v120, N120q, K120q⟩ := hQ120
    have w120 : (fn2r Z (a_DATE_NOT_EQUALS Z) (a_DATE_EQUALS Z)) = (a_DATE_EQUALS Z) := rfl
    rw [w120] at v120
    subst v120
    have N120 := Fr.app N119 N120q
    have O120 := O119.keep K120q all0
    have Kc120 := Kc119.trans K120q all0
    obtain ⟨cq121, kq121, q121a, q121b, q121c⟩ := isOf hZ rfl ((e_a_DATE_EQUALS hS).ext O120.2)
    obtain ⟨_, _, ⟨T121, L121, k121, n121⟩, -, X121, ⟨Lc121, hQ121, l121, y121, z121⟩, st121⟩ := X120.virtualBack hx (y := (⟨"com/example/menshen/menshen/policy/ConditionOperator", "isNegated", "()Z"⟩ : MethodName)) (z := (⟨"com/example/menshen/menshen/policy/ConditionOperator", "isNegated", "()Z"⟩ : MethodName)) hown (mvT hZ (hw _ (List.mem_of_getElem? (i := 51) rfl))) (mvT hZ (hw _ (List.mem_of_getElem? (i := 52) rfl))) (notFace_of_selects (args := #[]) (mvT hZ (hw _ (List.mem_of_getElem? (i := 54) rfl)))) (mvT hZ (hw _ (List.mem_of_getElem? (i := 54) rfl))) (mvT hZ (hw _ (List.mem_of_getElem? (i := 53) rfl))) (by decide) (backOf (W := 0) (rm1n l Z a0 hw hS [] (a_DATE_EQUALS Z) T120.heap n0 O120 ((f_a_DATE_EQUALS_negationOf hS).ext O120.2)) hZ (hw _ (List.mem_of_getElem? (i := 55) rfl)) (hw _ (List.mem_of_getElem? (i := 3) rfl)) (by decide) (by decide)) q121a q121c (g := (mkF m 256 #[oI p0, oR b6, oI (16 : Int32), oR (a_DATE_NOT_EQUALS Z), oI (1 : Int32), oI (1 : Int32), oR (a_DATE_EQUALS Z)] [(.ref (a_DATE_EQUALS Z))])) rfl (by rw [hml]; rfl) (Steps.refl _) (argsL := []) (rest := []) (lenOf pd_0 rfl) rfl (by show 2 * 0 + _ ≤ _; exact Nat.le_of_eq rfl) (hb hby at_256) (fun _ _ => ⟨rfl, rfl, (by decide : 1 + 0 ≤ _), (by decide : 23 + 0 ≤ _)⟩)
    dsimp only [Pt.U, Pt.locs, Pt.cells, Pt.slots] at X121 l121 y121 z121 st121 hQ121
    subst l121 y121 z121
    obtain ⟨v121, N121q, K121q⟩ := hQ121
    have w121 : (fn1n Z (a_DATE_EQUALS Z)) = (0 : Int32) := rfl
    rw [w121] at v121
    subst v121
    have N121 := Fr.app N120 N121q
    have O121 := O120.keep K121q all0
    have Kc121 := Kc120.trans K121q all0
    obtain ⟨fs, hr, hrun, hended, hW, hsame⟩ := X121.leave (v := some (.int (1 : Int32))) (fun h => by rw [Bd.returns] at h; cases h)
    refine ⟨_, _, pre53 _ ?_, hrun, hended, _, _, rfl, ?_, ⟨_, rfl⟩, hW, hsame.mono (by decide) (by decide)⟩
    · show oP p e below T52 (mkF m 168 #[oI p0, oR b6, oU, oU, oU, oU, oU] [(.int (16 : Int32))]) _
      refine XS.istoreN X52.here hx rfl (hb hby at_168) rfl (l' := #[oI p0, oR b6, oI (16 : Int32), oU, oU, oU, oU]) rfl ?_
      show oP p e below T52 (mkF m 169 #[oI p0, oR b6, oI (16 : Int32), oU, oU, oU, oU] []) _
      refine XS.aloadN X52.here hx rfl (hb hby at_169) rfl rfl ?_
      show oP p e below T52 (mkF m 170 #[oI p0, oR b6, oI (16 : Int32), oU, oU, oU, oU] [(.ref b6)]) _
      refine XS.iloadN X52.here hx rfl (hb hby at_170) rfl ?_
      show oP p e below T52 (mkF m 171 #[oI p0, oR b6, oI (16 : Int32), oU, oU, oU, oU] [(.int (16 : Int32)), (.ref b6)]) _
      refine own_aaload X52 hx hZ e52 V52 rfl (j := (16 : Int32)) ⟨by decide, by decide⟩ (v := (.ref (a_DATE_NOT_EQUALS Z))) rfl (g := (mkF m 171 #[oI p0, oR b6, oI (16 : Int32), oU, oU, oU, oU] [(.int (16 : Int32)), (.ref b6)])) rfl rfl (hb hby at_171) _ ?_
      show oP p e below T52 (mkF m 172 #[oI p0, oR b6, oI (16 : Int32), oU, oU, oU, oU] [(.ref (a_DATE_NOT_EQUALS Z))]) _
      refine XS.astoreN X52.here hx rfl (hb hby at_172) rfl rfl (l' := #[oI p0, oR b6, oI (16 : Int32), oR (a_DATE_NOT_EQUALS Z), oU, oU, oU]) rfl ?_
      show oP p e below T52 (mkF m 173 #[oI p0, oR b6, oI (16 : Int32), oR (a_DATE_NOT_EQUALS Z), oU, oU, oU] []) _
      refine XS.iloadN X52.here hx rfl (hb hby at_173) rfl ?_
      show oP p e below T52 (mkF m 174 #[oI p0, oR b6, oI (16 : Int32), oR (a_DATE_NOT_EQUALS Z), oU, oU, oU] [(.int (16 : Int32))]) _
      refine XS.iconst X52.here hx rfl (hb hby at_174) ?_
      show oP p e below T52 (mkF m 175 #[oI p0, oR b6, oI (16 : Int32), oR (a_DATE_NOT_EQUALS Z), oU, oU, oU] [(.int (1 : Int32)), (.int (16 : Int32))]) _
      refine XS.icmpNo X52.here hx rfl (hb hby at_175) rfl (feq (by decide : ¬ ((16 : Int32) = (1 : Int32)))).1 ?_
      show oP p e below T52 (mkF m 178 #[oI p0, oR b6, oI (16 : Int32), oR (a_DATE_NOT_EQUALS Z), oU, oU, oU] []) _
      refine XS.iloadN X52.here hx rfl (hb hby at_178) rfl ?_
      show oP p e below T52 (mkF m 179 #[oI p0, oR b6, oI (16 : Int32), oR (a_DATE_NOT_EQUALS Z), oU, oU, oU] [(.int (16 : Int32))]) _
      refine XS.iconst X52.here hx rfl (hb hby at_179) ?_
      show oP p e below T52 (mkF m 180 #[oI p0, oR b6, oI (16 : Int32), oR (a_DATE_NOT_EQUALS Z), oU, oU, oU] [(.int (2 : Int32)), (.int (16 : Int32))]) _
      refine XS.icmpNo X52.here hx rfl (hb hby at_180) rfl (feq (by decide : ¬ ((16 : Int32) = (2 : Int32)))).1 ?_
      show oP p e below T52 (mkF m 183 #[oI p0, oR b6, oI (16 : Int32), oR (a_DATE_NOT_EQUALS Z), oU, oU, oU] []) _
      refine XS.iloadN X52.here hx rfl (hb hby at_183) rfl ?_
      show oP p e below T52 (mkF m 184 #[oI p0, oR b6, oI (16 : Int32), oR (a_DATE_NOT_EQUALS Z), oU, oU, oU] [(.int (16 : Int32))]) _
      refine XS.iconst X52.here hx rfl (hb hby at_184) ?_
      show oP p e below T52 (mkF m 185 #[oI p0, oR b6, oI (16 : Int32), oR (a_DATE_NOT_EQUALS Z), oU, oU, oU] [(.int (4 : Int32)), (.int (16 : Int32))]) _
      refine XS.icmpNo X52.here hx rfl (hb hby at_185) rfl (feq (by decide : ¬ ((16 : Int32) = (4 : Int32)))).1 ?_
      show oP p e below T52 (mkF m 188 #[oI p0, oR b6, oI (16 : Int32), oR (a_DATE_NOT_EQUALS Z), oU, oU, oU] []) _
      refine XS.iloadN X52.here hx rfl (hb hby at_188) rfl ?_
      show oP p e below T52 (mkF m 189 #[oI p0, oR b6, oI (16 : Int32), oR (a_DATE_NOT_EQUALS Z), oU, oU, oU] [(.int (16 : Int32))]) _
      refine XS.bipush X52.here hx rfl (hb hby at_189) ?_
      show oP p e below T52 (mkF m 191 #[oI p0, oR b6, oI (16 : Int32), oR (a_DATE_NOT_EQUALS Z), oU, oU, oU] [(.int (6 : Int32)), (.int (16 : Int32))]) _
      refine XS.icmpNo X52.here hx rfl (hb hby at_191) rfl (feq (by decide : ¬ ((16 : Int32) = (6 : Int32)))).1 ?_
      show oP p e below T52 (mkF m 194 #[oI p0, oR b6, oI (16 : Int32), oR (a_DATE_NOT_EQUALS Z), oU, oU, oU] []) _
      refine XS.iloadN X52.here hx rfl (hb hby at_194) rfl ?_
      show oP p e below T52 (mkF m 195 #[oI p0, oR b6, oI (16 : Int32), oR (a_DATE_NOT_EQUALS Z), oU, oU, oU] [(.int (16 : Int32))]) _
      refine XS.bipush X52.here hx rfl (hb hby at_195) ?_
      show oP p e below T52 (mkF m 197 #[oI p0, oR b6, oI (16 : Int32), oR (a_DATE_NOT_EQUALS Z), oU, oU, oU] [(.int (8 : Int32)), (.int (16 : Int32))]) _
      refine XS.icmpNo X52.here hx rfl (hb hby at_197) rfl (feq (by decide : ¬ ((16 : Int32) = (8 : Int32)))).1 ?_
      show oP p e below T52 (mkF m 200 #[oI p0, oR b6, oI (16 : Int32), oR (a_DATE_NOT_EQUALS Z), oU, oU, oU] []) _
      refine XS.iloadN X52.here hx rfl (hb hby at_200) rfl ?_
      show oP p e below T52 (mkF m 201 #[oI p0, oR b6, oI (16 : Int32), oR (a_DATE_NOT_EQUALS Z), oU, oU, oU] [(.int (16 : Int32))]) _
      refine XS.bipush X52.here hx rfl (hb hby at_201) ?_
      show oP p e below T52 (mkF m 203 #[oI p0, oR b6, oI (16 : Int32), oR (a_DATE_NOT_EQUALS Z), oU, oU, oU] [(.int (10 : Int32)), (.int (16 : Int32))]) _
      refine XS.icmpNo X52.here hx rfl (hb hby at_203) rfl (feq (by decide : ¬ ((16 : Int32) = (10 : Int32)))).1 ?_
      show oP p e below T52 (mkF m 206 #[oI p0, oR b6, oI (16 : Int32), oR (a_DATE_NOT_EQUALS Z), oU, oU, oU] []) _
      refine XS.iloadN X52.here hx rfl (hb hby at_206) rfl ?_
      show oP p e below T52 (mkF m 207 #[oI p0, oR b6, oI (16 : Int32), oR (a_DATE_NOT_EQUALS Z), oU, oU, oU] [(.int (16 : Int32))]) _
      refine XS.bipush X52.here hx rfl (hb hby at_207) ?_
      show oP p e below T52 (mkF m 209 #[oI p0, oR b6, oI (16 : Int32), oR (a_DATE_NOT_EQUALS Z), oU, oU, oU] [(.int (16 : Int32)), (.int (16 : Int32))]) _
      refine XS.icmpNo X52.here hx rfl (hb hby at_209) rfl (teq (by decide : (16 : Int32) = (16 : Int32))).2 ?_
      show oP p e below T52 (mkF m 212 #[oI p0, oR b6, oI (16 : Int32), oR (a_DATE_NOT_EQUALS Z), oU, oU, oU] []) _
      refine XS.iconst X52.here hx rfl (hb hby at_212) ?_
      show oP p e below T52 (mkF m 213 #[oI p0, oR b6, oI (16 : Int32), oR (a_DATE_NOT_EQUALS Z), oU, oU, oU] [(.int (1 : Int32))]) _
      refine XS.goto X52.here hx rfl (pc0 := 213) (pc' := 217) rfl (hb hby at_213) (by decide) (by decide) ?_
      show oP p e below T52 (mkF m 217 #[oI p0, oR b6, oI (16 : Int32), oR (a_DATE_NOT_EQUALS Z), oU, oU, oU] [(.int (1 : Int32))]) _
      refine XS.istore X52.here hx rfl (hb hby at_217) rfl (l' := #[oI p0, oR b6, oI (16 : Int32), oR (a_DATE_NOT_EQUALS Z), oI (1 : Int32), oU, oU]) rfl ?_
      show oP p e below T52 (mkF m 219 #[oI p0, oR b6, oI (16 : Int32), oR (a_DATE_NOT_EQUALS Z), oI (1 : Int32), oU, oU] []) _
      refine XS.aloadN X52.here hx rfl (hb hby at_219) rfl rfl ?_
      show oP p e below T52 (mkF m 220 #[oI p0, oR b6, oI (16 : Int32), oR (a_DATE_NOT_EQUALS Z), oI (1 : Int32), oU, oU] [(.ref (a_DATE_NOT_EQUALS Z))]) _
      refine st119.trans ?_
      show oP p e below T119 (mkF m 223 #[oI p0, oR b6, oI (16 : Int32), oR (a_DATE_NOT_EQUALS Z), oI (1 : Int32), oU, oU] [(.int (1 : Int32))]) _
      refine XS.istore X119.here hx rfl (hb hby at_223) rfl (l' := #[oI p0, oR b6, oI (16 : Int32), oR (a_DATE_NOT_EQUALS Z), oI (1 : Int32), oI (1 : Int32), oU]) rfl ?_
      show oP p e below T119 (mkF m 225 #[oI p0, oR b6, oI (16 : Int32), oR (a_DATE_NOT_EQUALS Z), oI (1 : Int32), oI (1 : Int32), oU] []) _
      refine XS.aloadN X119.here hx rfl (hb hby at_225) rfl rfl ?_
      show oP p e below T119 (mkF m 226 #[oI p0, oR b6, oI (16 : Int32), oR (a_DATE_NOT_EQUALS Z), oI (1 : Int32), oI (1 : Int32), oU] [(.ref (a_DATE_NOT_EQUALS Z))]) _
      refine st120.trans ?_
      show oP p e below T120 (mkF m 229 #[oI p0, oR b6, oI (16 : Int32), oR (a_DATE_NOT_EQUALS Z), oI (1 : Int32), oI (1 : Int32), oU] [(.ref (a_DATE_EQUALS Z))]) _
      refine XS.astore X120.here hx rfl (hb hby at_229) rfl rfl (l' := #[oI p0, oR b6, oI (16 : Int32), oR (a_DATE_NOT_EQUALS Z), oI (1 : Int32), oI (1 : Int32), oR (a_DATE_EQUALS Z)]) rfl ?_
      show oP p e below T120 (mkF m 231 #[oI p0, oR b6, oI (16 : Int32), oR (a_DATE_NOT_EQUALS Z), oI (1 : Int32), oI (1 : Int32), oR (a_DATE_EQUALS Z)] []) _
      refine XS.iload X120.here hx rfl (hb hby at_231) rfl ?_
      show oP p e below T120 (mkF m 233 #[oI p0, oR b6, oI (16 : Int32), oR (a_DATE_NOT_EQUALS Z), oI (1 : Int32), oI (1 : Int32), oR (a_DATE_EQUALS Z)] [(.int (1 : Int32))]) _
      refine XS.iload X120.here hx rfl (hb hby at_233) rfl ?_
      show oP p e below T120 (mkF m 235 #[oI p0, oR b6, oI (16 : Int32), oR (a_DATE_NOT_EQUALS Z), oI (1 : Int32), oI (1 : Int32), oR (a_DATE_EQUALS Z)] [(.int (1 : Int32)), (.int (1 : Int32))]) _
      refine XS.icmpNo X120.here hx rfl (hb hby at_235) rfl (teq (by decide : (1 : Int32) = (1 : Int32))).2 ?_
      show oP p e below T120 (mkF m 238 #[oI p0, oR b6, oI (16 : Int32), oR (a_DATE_NOT_EQUALS Z), oI (1 : Int32), oI (1 : Int32), oR (a_DATE_EQUALS Z)] []) _
      refine XS.iload X120.here hx rfl (hb hby at_238) rfl ?_
      show oP p e below T120 (mkF m 240 #[oI p0, oR b6, oI (16 : Int32), oR (a_DATE_NOT_EQUALS Z), oI (1 : Int32), oI (1 : Int32), oR (a_DATE_EQUALS Z)] [(.int (1 : Int32))]) _
      refine XS.aload X120.here hx rfl (hb hby at_240) rfl rfl ?_
      show oP p e below T120 (mkF m 242 #[oI p0, oR b6, oI (16 : Int32), oR (a_DATE_NOT_EQUALS Z), oI (1 : Int32), oI (1 : Int32), oR (a_DATE_EQUALS Z)] [(.ref (a_DATE_EQUALS Z)), (.int (1 : Int32))]) _
      refine XS.aloadN X120.here hx rfl (hb hby at_242) rfl rfl ?_
      show oP p e below T120 (mkF m 243 #[oI p0, oR b6, oI (16 : Int32), oR (a_DATE_NOT_EQUALS Z), oI (1 : Int32), oI (1 : Int32), oR (a_DATE_EQUALS Z)] [(.ref (a_DATE_NOT_EQUALS Z)), (.ref (a_DATE_EQUALS Z)), (.int (1 : Int32))]) _
      refine Jvm.RoadKit.acmp (g := (mkF m 243 #[oI p0, oR b6, oI (16 : Int32), oR (a_DATE_NOT_EQUALS Z), oI (1 : Int32), oI (1 : Int32), oR (a_DATE_EQUALS Z)] [(.ref (a_DATE_NOT_EQUALS Z)), (.ref (a_DATE_EQUALS Z)), (.int (1 : Int32))])) X120 hx rfl rfl rfl (pc0 := 243) (pc' := 246) (same := false) rfl (hb hby at_243) rfl (decide_eq_false fun q => ((f_a_DATE_EQUALS_ordinal hS).ne (f_a_DATE_NOT_EQUALS_ordinal hS) (by decide)) (Value.ref.inj q)) (by decide) (by decide) ?_
      show oP p e below T120 (mkF m 246 #[oI p0, oR b6, oI (16 : Int32), oR (a_DATE_NOT_EQUALS Z), oI (1 : Int32), oI (1 : Int32), oR (a_DATE_EQUALS Z)] [(.int (1 : Int32))]) _
      refine XS.iconst X120.here hx rfl (hb hby at_246) ?_
      show oP p e below T120 (mkF m 247 #[oI p0, oR b6, oI (16 : Int32), oR (a_DATE_NOT_EQUALS Z), oI (1 : Int32), oI (1 : Int32), oR (a_DATE_EQUALS Z)] [(.int (1 : Int32)), (.int (1 : Int32))]) _
      refine XS.goto X120.here hx rfl (pc0 := 247) (pc' := 251) rfl (hb hby at_247) (by decide) (by decide) ?_
      show oP p e below T120 (mkF m 251 #[oI p0, oR b6, oI (16 : Int32), oR (a_DATE_NOT_EQUALS Z), oI (1 : Int32), oI (1 : Int32), oR (a_DATE_EQUALS Z)] [(.int (1 : Int32)), (.int (1 : Int32))]) _
      refine XS.icmpNo X120.here hx rfl (hb hby at_251) rfl (teq (by decide : (1 : Int32) = (1 : Int32))).2 ?_
      show oP p e below T120 (mkF m 254 #[oI p0, oR b6, oI (16 : Int32), oR (a_DATE_NOT_EQUALS Z), oI (1 : Int32), oI (1 : Int32), oR (a_DATE_EQUALS Z)] []) _
      refine XS.aload X120.here hx rfl (hb hby at_254) rfl rfl ?_
      show oP p e below T120 (mkF m 256 #[oI p0, oR b6, oI (16 : Int32), oR (a_DATE_NOT_EQUALS Z), oI (1 : Int32), oI (1 : Int32), oR (a_DATE_EQUALS Z)] [(.ref (a_DATE_EQUALS Z))]) _
      refine st121.trans ?_
      show oP p e below T121 (mkF m 259 #[oI p0, oR b6, oI (16 : Int32), oR (a_DATE_NOT_EQUALS Z), oI (1 : Int32), oI (1 : Int32), oR (a_DATE_EQUALS Z)] [(.int (0 : Int32))]) _
      refine XS.ifNo X121.here hx rfl (hb hby at_259) rfl ((if0 _ _).trans (teq (by decide : (0 : Int32) = (0 : Int32))).2) ?_
      show oP p e below T121 (mkF m 262 #[oI p0, oR b6, oI (16 : Int32), oR (a_DATE_NOT_EQUALS Z), oI (1 : Int32), oI (1 : Int32), oR (a_DATE_EQUALS Z)] []) _
      refine XS.iconst X121.here hx rfl (hb hby at_262) ?_
      show oP p e below T121 (mkF m 263 #[oI p0, oR b6, oI (16 : Int32), oR (a_DATE_NOT_EQUALS Z), oI (1 : Int32), oI (1 : Int32), oR (a_DATE_EQUALS Z)] [(.int (1 : Int32))]) _
      refine XS.goto X121.here hx rfl (pc0 := 263) (pc' := 267) rfl (hb hby at_263) (by decide) (by decide) ?_
      show oP p e below T121 (mkF m 267 #[oI p0, oR b6, oI (16 : Int32), oR (a_DATE_NOT_EQUALS Z), oI (1 : Int32), oI (1 : Int32), oR (a_DATE_EQUALS Z)] [(.int (1 : Int32))]) _
      exact retN X121 hx (t := .boolean) Bd.returns (by simp) (hb hby at_267) hr
    · show (some (.int (1 : Int32)) : Option Value) = some (.int (1 : Int32)) ∧ Fr n0 _ ∧ Keep h0 T121.heap []
      exact ⟨rfl, N121, Kc121⟩
  · obtain ⟨lo122, X122, N122⟩ := own_hide X52 N52
    obtain ⟨cq123, kq123, q123a, q123b, q123c⟩ := isOf hZ e52 ((e_a_DATE_LESS_THAN hS).ext O52.2)
    obtain ⟨_, _, ⟨T123, L123, k123, n123⟩, -, X123, ⟨Lc123, hQ123, l123, y123, z123⟩, st123⟩ := X122.virtualBack hx (y := (⟨"com/example/menshen/menshen/policy/ConditionOperator", "isNegated", "()Z"⟩ : MethodName)) (z := (⟨"com/example/menshen/menshen/policy/ConditionOperator", "isNegated", "()Z"⟩ : MethodName)) hown (mvT hZ (hw _ (List.mem_of_getElem? (i := 51) rfl))) (mvT hZ (hw _ (List.mem_of_getElem? (i := 52) rfl))) (notFace_of_selects (args := #[]) (mvT hZ (hw _ (List.mem_of_getElem? (i := 54) rfl)))) (mvT hZ (hw _ (List.mem_of_getElem? (i := 54) rfl))) (mvT hZ (hw _ (List.mem_of_getElem? (i := 53) rfl))) (by decide) (backOf (W := 0) (rm1n l Z a0 hw hS [] (a_DATE_LESS_THAN Z) h52 n0 O52 ((f_a_DATE_LESS_THAN_negationOf hS).ext O52.2)) hZ (hw _ (List.mem_of_getElem? (i := 55) rfl)) (hw _ (List.mem_of_getElem? (i := 3) rfl)) (by decide) (by decide)) q123a q123c (g := (mkF m 220 #[oI p0, oR b6, oI (17 : Int32), oR (a_DATE_LESS_THAN Z), oI (0 : Int32), oU, oU] [(.ref (a_DATE_LESS_THAN Z))])) rfl (by rw [hml]; rfl) (Steps.refl _) (argsL := []) (rest := []) (lenOf pd_0 rfl) rfl (by show 2 * 0 + _ ≤ _; exact Nat.le_of_eq rfl) (hb hby at_220) (fun _ _ => ⟨rfl, e52, (by decide : 1 + 0 ≤ _), (by decide : 23 + 0 ≤ _)⟩)
    dsimp only [Pt.U, Pt.locs, Pt.cells, Pt.slots] at X123 l123 y123 z123 st123 hQ123
    subst l123 y123 z123
    obtain ⟨v123, N123q, K123q⟩ := hQ123
    have w123 : (fn1n Z (a_DATE_LESS_THAN Z)) = (0 : Int32) := rfl
    rw [w123] at v123
    subst v123
    have N123 := Fr.app N122 N123q
    have O123 := O52.keep K123q all0
    have Kc123 := Kc52.trans K123q all0
    obtain ⟨cq124, kq124, q124a, q124b, q124c⟩ := isOf hZ rfl ((e_a_DATE_LESS_THAN hS).ext O123.2)
    obtain ⟨_, _, ⟨T124, L124, k124, n124⟩, -, X124, ⟨Lc124, hQ124, l124, y124, z124⟩, st124⟩ := X123.virtualBack hx (y := (⟨"com/example/menshen/menshen/policy/ConditionOperator", "positive", "()Lcom/example/menshen/menshen/policy/ConditionOperator;"⟩ : MethodName)) (z := (⟨"com/example/menshen/menshen/policy/ConditionOperator", "positive", "()Lcom/example/menshen/menshen/policy/ConditionOperator;"⟩ : MethodName)) hown (mvT hZ (hw _ (List.mem_of_getElem? (i := 58) rfl))) (mvT hZ (hw _ (List.mem_of_getElem? (i := 59) rfl))) (notFace_of_selects (args := #[]) (mvT hZ (hw _ (List.mem_of_getElem? (i := 61) rfl)))) (mvT hZ (hw _ (List.mem_of_getElem? (i := 61) rfl))) (mvT hZ (hw _ (List.mem_of_getElem? (i := 60) rfl))) (by decide) (backOf (W := 0) (rm2n l Z a0 hw hS [] (a_DATE_LESS_THAN Z) T123.heap n0 O123 ((f_a_DATE_LESS_THAN_negationOf hS).ext O123.2)) hZ (hw _ (List.mem_of_getElem? (i := 62) rfl)) (hw _ (List.mem_of_getElem? (i := 3) rfl)) (by decide) (by decide)) q124a q124c (g := (mkF m 226 #[oI p0, oR b6, oI (17 : Int32), oR (a_DATE_LESS_THAN Z), oI (0 : Int32), oI (0 : Int32), oU] [(.ref (a_DATE_LESS_THAN Z))])) rfl (by rw [hml]; rfl) (Steps.refl _) (argsL := []) (rest := []) (lenOf pd_1 rfl) rfl (by show 2 * 0 + _ ≤ _; exact Nat.le_of_eq rfl) (hb hby at_226) (fun _ _ => ⟨rfl, rfl, (by decide : 1 + 0 ≤ _), (by decide : 23 + 0 ≤ _)⟩)
    dsimp only [Pt.U, Pt.locs, Pt.cells, Pt.slots] at X124 l124 y124 z124 st124 hQ124
    subst l124 y124 z124
    obtain ⟨v124, N124q, K124q⟩ := hQ124
    have w124 : (fn2n Z (a_DATE_LESS_THAN Z)) = (a_DATE_LESS_THAN Z) := rfl
    rw [w124] at v124
    subst v124
    have N124 := Fr.app N123 N124q
    have O124 := O123.keep K124q all0
    have Kc124 := Kc123.trans K124q all0
    obtain ⟨cq125, kq125, q125a, q125b, q125c⟩ := isOf hZ rfl ((e_a_DATE_LESS_THAN hS).ext O124.2)
    obtain ⟨_, _, ⟨T125, L125, k125, n125⟩, -, X125, ⟨Lc125, hQ125, l125, y125, z125⟩, st125⟩ := X124.virtualBack hx (y := (⟨"com/example/menshen/menshen/policy/ConditionOperator", "isNegated", "()Z"⟩ : MethodName)) (z := (⟨"com/example/menshen/menshen/policy/ConditionOperator", "isNegated", "()Z"⟩ : MethodName)) hown (mvT hZ (hw _ (List.mem_of_getElem? (i := 51) rfl))) (mvT hZ (hw _ (List.mem_of_getElem? (i := 52) rfl))) (notFace_of_selects (args := #[]) (mvT hZ (hw _ (List.mem_of_getElem? (i := 54) rfl)))) (mvT hZ (hw _ (List.mem_of_getElem? (i := 54) rfl))) (mvT hZ (hw _ (List.mem_of_getElem? (i := 53) rfl))) (by decide) (backOf (W := 0) (rm1n l Z a0 hw hS [] (a_DATE_LESS_THAN Z) T124.heap n0 O124 ((f_a_DATE_LESS_THAN_negationOf hS).ext O124.2)) hZ (hw _ (List.mem_of_getElem? (i := 55) rfl)) (hw _ (List.mem_of_getElem? (i := 3) rfl)) (by decide) (by decide)) q125a q125c (g := (mkF m 256 #[oI p0, oR b6, oI (17 : Int32), oR (a_DATE_LESS_THAN Z), oI (0 : Int32), oI (0 : Int32), oR (a_DATE_LESS_THAN Z)] [(.ref (a_DATE_LESS_THAN Z))])) rfl (by rw [hml]; rfl) (Steps.refl _) (argsL := []) (rest := []) (lenOf pd_0 rfl) rfl (by show 2 * 0 + _ ≤ _; exact Nat.le_of_eq rfl) (hb hby at_256) (fun _ _ => ⟨rfl, rfl, (by decide : 1 + 0 ≤ _), (by decide : 23 + 0 ≤ _)⟩)
    dsimp only [Pt.U, Pt.locs, Pt.cells, Pt.slots] at X125 l125 y125 z125 st125 hQ125
    subst l125 y125 z125
    obtain ⟨v125, N125q, K125q⟩ := hQ125
    have w125 : (fn1n Z (a_DATE_LESS_THAN Z)) = (0 : Int32) := rfl
    rw [w125] at v125
    subst v125
    have N125 := Fr.app N124 N125q
    have O125 := O124.keep K125q all0
    have Kc125 := Kc124.trans K125q all0
    obtain ⟨fs, hr, hrun, hended, hW, hsame⟩ := X125.leave (v := some (.int (1 : Int32))) (fun h => by rw [Bd.returns] at h; cases h)
    refine ⟨_, _, pre53 _ ?_, hrun, hended, _, _, rfl, ?_, ⟨_, rfl⟩, hW, hsame.mono (by decide) (by decide)⟩
    · show oP p e below T52 (mkF m 168 #[oI p0, oR b6, oU, oU, oU, oU, oU] [(.int (17 : Int32))]) _
      refine XS.istoreN X52.here hx rfl (hb hby at_168) rfl (l' := #[oI p0, oR b6, oI (17 : Int32), oU, oU, oU, oU]) rfl ?_
      show oP p e below T52 (mkF m 169 #[oI p0, oR b6, oI (17 : Int32), oU, oU, oU, oU] []) _
      refine XS.aloadN X52.here hx rfl (hb hby at_169) rfl rfl ?_
      show oP p e below T52 (mkF m 170 #[oI p0, oR b6, oI (17 : Int32), oU, oU, oU, oU] [(.ref b6)]) _
      refine XS.iloadN X52.here hx rfl (hb hby at_170) rfl ?_
      show oP p e below T52 (mkF m 171 #[oI p0, oR b6, oI (17 : Int32), oU, oU, oU, oU] [(.int (17 : Int32)), (.ref b6)]) _
      refine own_aaload X52 hx hZ e52 V52 rfl (j := (17 : Int32)) ⟨by decide, by decide⟩ (v := (.ref (a_DATE_LESS_THAN Z))) rfl (g := (mkF m 171 #[oI p0, oR b6, oI (17 : Int32), oU, oU, oU, oU] [(.int (17 : Int32)), (.ref b6)])) rfl rfl (hb hby at_171) _ ?_
      show oP p e below T52 (mkF m 172 #[oI p0, oR b6, oI (17 : Int32), oU, oU, oU, oU] [(.ref (a_DATE_LESS_THAN Z))]) _
      refine XS.astoreN X52.here hx rfl (hb hby at_172) rfl rfl (l' := #[oI p0, oR b6, oI (17 : Int32), oR (a_DATE_LESS_THAN Z), oU, oU, oU]) rfl ?_
      show oP p e below T52 (mkF m 173 #[oI p0, oR b6, oI (17 : Int32), oR (a_DATE_LESS_THAN Z), oU, oU, oU] []) _
      refine XS.iloadN X52.here hx rfl (hb hby at_173) rfl ?_
      show oP p e below T52 (mkF m 174 #[oI p0, oR b6, oI (17 : Int32), oR (a_DATE_LESS_THAN Z), oU, oU, oU] [(.int (17 : Int32))]) _
      refine XS.iconst X52.here hx rfl (hb hby at_174) ?_
      show oP p e below T52 (mkF m 175 #[oI p0, oR b6, oI (17 : Int32), oR (a_DATE_LESS_THAN Z), oU, oU, oU] [(.int (1 : Int32)), (.int (17 : Int32))]) _
      refine XS.icmpNo X52.here hx rfl (hb hby at_175) rfl (feq (by decide : ¬ ((17 : Int32) = (1 : Int32)))).1 ?_
      show oP p e below T52 (mkF m 178 #[oI p0, oR b6, oI (17 : Int32), oR (a_DATE_LESS_THAN Z), oU, oU, oU] []) _
      refine XS.iloadN X52.here hx rfl (hb hby at_178) rfl ?_
      show oP p e below T52 (mkF m 179 #[oI p0, oR b6, oI (17 : Int32), oR (a_DATE_LESS_THAN Z), oU, oU, oU] [(.int (17 : Int32))]) _
      refine XS.iconst X52.here hx rfl (hb hby at_179) ?_
      show oP p e below T52 (mkF m 180 #[oI p0, oR b6, oI (17 : Int32), oR (a_DATE_LESS_THAN Z), oU, oU, oU] [(.int (2 : Int32)), (.int (17 : Int32))]) _
      refine XS.icmpNo X52.here hx rfl (hb hby at_180) rfl (feq (by decide : ¬ ((17 : Int32) = (2 : Int32)))).1 ?_
      show oP p e below T52 (mkF m 183 #[oI p0, oR b6, oI (17 : Int32), oR (a_DATE_LESS_THAN Z), oU, oU, oU] []) _
      refine XS.iloadN X52.here hx rfl (hb hby at_183) rfl ?_
      show oP p e below T52 (mkF m 184 #[oI p0, oR b6, oI (17 : Int32), oR (a_DATE_LESS_THAN Z), oU, oU, oU] [(.int (17 : Int32))]) _
      refine XS.iconst X52.here hx rfl (hb hby at_184) ?_
      show oP p e below T52 (mkF m 185 #[oI p0, oR b6, oI (17 : Int32), oR (a_DATE_LESS_THAN Z), oU, oU, oU] [(.int (4 : Int32)), (.int (17 : Int32))]) _
      refine XS.icmpNo X52.here hx rfl (hb hby at_185) rfl (feq (by decide : ¬ ((17 : Int32) = (4 : Int32)))).1 ?_
      show oP p e below T52 (mkF m 188 #[oI p0, oR b6, oI (17 : Int32), oR (a_DATE_LESS_THAN Z), oU, oU, oU] []) _
      refine XS.iloadN X52.here hx rfl (hb hby at_188) rfl ?_
      show oP p e below T52 (mkF m 189 #[oI p0, oR b6, oI (17 : Int32), oR (a_DATE_LESS_THAN Z), oU, oU, oU] [(.int (17 : Int32))]) _
      refine XS.bipush X52.here hx rfl (hb hby at_189) ?_
      show oP p e below T52 (mkF m 191 #[oI p0, oR b6, oI (17 : Int32), oR (a_DATE_LESS_THAN Z), oU, oU, oU] [(.int (6 : Int32)), (.int (17 : Int32))]) _
      refine XS.icmpNo X52.here hx rfl (hb hby at_191) rfl (feq (by decide : ¬ ((17 : Int32) = (6 : Int32)))).1 ?_
      show oP p e below T52 (mkF m 194 #[oI p0, oR b6, oI (17 : Int32), oR (a_DATE_LESS_THAN Z), oU, oU, oU] []) _
      refine XS.iloadN X52.here hx rfl (hb hby at_194) rfl ?_
      show oP p e below T52 (mkF m 195 #[oI p0, oR b6, oI (17 : Int32), oR (a_DATE_LESS_THAN Z), oU, oU, oU] [(.int (17 : Int32))]) _
      refine XS.bipush X52.here hx rfl (hb hby at_195) ?_
      show oP p e below T52 (mkF m 197 #[oI p0, oR b6, oI (17 : Int32), oR (a_DATE_LESS_THAN Z), oU, oU, oU] [(.int (8 : Int32)), (.int (17 : Int32))]) _
      refine XS.icmpNo X52.here hx rfl (hb hby at_197) rfl (feq (by decide : ¬ ((17 : Int32) = (8 : Int32)))).1 ?_
      show oP p e below T52 (mkF m 200 #[oI p0, oR b6, oI (17 : Int32), oR (a_DATE_LESS_THAN Z), oU, oU, oU] []) _
      refine XS.iloadN X52.here hx rfl (hb hby at_200) rfl ?_
      show oP p e below T52 (mkF m 201 #[oI p0, oR b6, oI (17 : Int32), oR (a_DATE_LESS_THAN Z), oU, oU, oU] [(.int (17 : Int32))]) _
      refine XS.bipush X52.here hx rfl (hb hby at_201) ?_
      show oP p e below T52 (mkF m 203 #[oI p0, oR b6, oI (17 : Int32), oR (a_DATE_LESS_THAN Z), oU, oU, oU] [(.int (10 : Int32)), (.int (17 : Int32))]) _
      refine XS.icmpNo X52.here hx rfl (hb hby at_203) rfl (feq (by decide : ¬ ((17 : Int32) = (10 : Int32)))).1 ?_
      show oP p e below T52 (mkF m 206 #[oI p0, oR b6, oI (17 : Int32), oR (a_DATE_LESS_THAN Z), oU, oU, oU] []) _
      refine XS.iloadN X52.here hx rfl (hb hby at_206) rfl ?_
      show oP p e below T52 (mkF m 207 #[oI p0, oR b6, oI (17 : Int32), oR (a_DATE_LESS_THAN Z), oU, oU, oU] [(.int (17 : Int32))]) _
      refine XS.bipush X52.here hx rfl (hb hby at_207) ?_
      show oP p e below T52 (mkF m 209 #[oI p0, oR b6, oI (17 : Int32), oR (a_DATE_LESS_THAN Z), oU, oU, oU] [(.int (16 : Int32)), (.int (17 : Int32))]) _
      refine XS.icmpYes X52.here hx rfl (pc0 := 209) (pc' := 216) rfl (hb hby at_209) rfl (feq (by decide : ¬ ((17 : Int32) = (16 : Int32)))).2 (by decide) (by decide) ?_
      show oP p e below T52 (mkF m 216 #[oI p0, oR b6, oI (17 : Int32), oR (a_DATE_LESS_THAN Z), oU, oU, oU] []) _
      refine XS.iconst X52.here hx rfl (hb hby at_216) ?_
      show oP p e below T52 (mkF m 217 #[oI p0, oR b6, oI (17 : Int32), oR (a_DATE_LESS_THAN Z), oU, oU, oU] [(.int (0 : Int32))]) _
      refine XS.istore X52.here hx rfl (hb hby at_217) rfl (l' := #[oI p0, oR b6, oI (17 : Int32), oR (a_DATE_LESS_THAN Z), oI (0 : Int32), oU, oU]) rfl ?_
      show oP p e below T52 (mkF m 219 #[oI p0, oR b6, oI (17 : Int32), oR (a_DATE_LESS_THAN Z), oI (0 : Int32), oU, oU] []) _
      refine XS.aloadN X52.here hx rfl (hb hby at_219) rfl rfl ?_
      show oP p e below T52 (mkF m 220 #[oI p0, oR b6, oI (17 : Int32), oR (a_DATE_LESS_THAN Z), oI (0 : Int32), oU, oU] [(.ref (a_DATE_LESS_THAN Z))]) _
      refine st123.trans ?_
      show oP p e below T123 (mkF m 223 #[oI p0, oR b6, oI (17 : Int32), oR (a_DATE_LESS_THAN Z), oI (0 : Int32), oU, oU] [(.int (0 : Int32))]) _
      refine XS.istore X123.here hx rfl (hb hby at_223) rfl (l' := #[oI p0, oR b6, oI (17 : Int32), oR (a_DATE_LESS_THAN Z), oI (0 : Int32), oI (0 : Int32), oU]) rfl ?_
      show oP p e below T123 (mkF m 225 #[oI p0, oR b6, oI (17 : Int32), oR (a_DATE_LESS_THAN Z), oI (0 : Int32), oI (0 : Int32), oU] []) _
      refine XS.aloadN X123.here hx rfl (hb hby at_225) rfl rfl ?_
      show oP p e below T123 (mkF m 226 #[oI p0, oR b6, oI (17 : Int32), oR (a_DATE_LESS_THAN Z), oI (0 : Int32), oI (0 : Int32), oU] [(.ref (a_DATE_LESS_THAN Z))]) _
      refine st124.trans ?_
      show oP p e below T124 (mkF m 229 #[oI p0, oR b6, oI (17 : Int32), oR (a_DATE_LESS_THAN Z), oI (0 : Int32), oI (0 : Int32), oU] [(.ref (a_DATE_LESS_THAN Z))]) _
      refine XS.astore X124.here hx rfl (hb hby at_229) rfl rfl (l' := #[oI p0, oR b6, oI (17 : Int32), oR (a_DATE_LESS_THAN Z), oI (0 : Int32), oI (0 : Int32), oR (a_DATE_LESS_THAN Z)]) rfl ?_
      show oP p e below T124 (mkF m 231 #[oI p0, oR b6, oI (17 : Int32), oR (a_DATE_LESS_THAN Z), oI (0 : Int32), oI (0 : Int32), oR (a_DATE_LESS_THAN Z)] []) _
      refine XS.iload X124.here hx rfl (hb hby at_231) rfl ?_
      show oP p e below T124 (mkF m 233 #[oI p0, oR b6, oI (17 : Int32), oR (a_DATE_LESS_THAN Z), oI (0 : Int32), oI (0 : Int32), oR (a_DATE_LESS_THAN Z)] [(.int (0 : Int32))]) _
      refine XS.iload X124.here hx rfl (hb hby at_233) rfl ?_
      show oP p e below T124 (mkF m 235 #[oI p0, oR b6, oI (17 : Int32), oR (a_DATE_LESS_THAN Z), oI (0 : Int32), oI (0 : Int32), oR (a_DATE_LESS_THAN Z)] [(.int (0 : Int32)), (.int (0 : Int32))]) _
      refine XS.icmpNo X124.here hx rfl (hb hby at_235) rfl (teq (by decide : (0 : Int32) = (0 : Int32))).2 ?_
      show oP p e below T124 (mkF m 238 #[oI p0, oR b6, oI (17 : Int32), oR (a_DATE_LESS_THAN Z), oI (0 : Int32), oI (0 : Int32), oR (a_DATE_LESS_THAN Z)] []) _
      refine XS.iload X124.here hx rfl (hb hby at_238) rfl ?_
      show oP p e below T124 (mkF m 240 #[oI p0, oR b6, oI (17 : Int32), oR (a_DATE_LESS_THAN Z), oI (0 : Int32), oI (0 : Int32), oR (a_DATE_LESS_THAN Z)] [(.int (0 : Int32))]) _
      refine XS.aload X124.here hx rfl (hb hby at_240) rfl rfl ?_
      show oP p e below T124 (mkF m 242 #[oI p0, oR b6, oI (17 : Int32), oR (a_DATE_LESS_THAN Z), oI (0 : Int32), oI (0 : Int32), oR (a_DATE_LESS_THAN Z)] [(.ref (a_DATE_LESS_THAN Z)), (.int (0 : Int32))]) _
      refine XS.aloadN X124.here hx rfl (hb hby at_242) rfl rfl ?_
      show oP p e below T124 (mkF m 243 #[oI p0, oR b6, oI (17 : Int32), oR (a_DATE_LESS_THAN Z), oI (0 : Int32), oI (0 : Int32), oR (a_DATE_LESS_THAN Z)] [(.ref (a_DATE_LESS_THAN Z)), (.ref (a_DATE_LESS_THAN Z)), (.int (0 : Int32))]) _
      refine Jvm.RoadKit.acmp (g := (mkF m 243 #[oI p0, oR b6, oI (17 : Int32), oR (a_DATE_LESS_THAN Z), oI (0 : Int32), oI (0 : Int32), oR (a_DATE_LESS_THAN Z)] [(.ref (a_DATE_LESS_THAN Z)), (.ref (a_DATE_LESS_THAN Z)), (.int (0 : Int32))])) X124 hx rfl rfl rfl (pc0 := 243) (pc' := 250) (same := true) rfl (hb hby at_243) rfl (decide_eq_true (congrArg Value.ref (rfl : (a_DATE_LESS_THAN Z) = (a_DATE_LESS_THAN Z)))) (by decide) (by decide) ?_
      show oP p e below T124 (mkF m 250 #[oI p0, oR b6, oI (17 : Int32), oR (a_DATE_LESS_THAN Z), oI (0 : Int32), oI (0 : Int32), oR (a_DATE_LESS_THAN Z)] [(.int (0 : Int32))]) _
      refine XS.iconst X124.here hx rfl (hb hby at_250) ?_
      show oP p e below T124 (mkF m 251 #[oI p0, oR b6, oI (17 : Int32), oR (a_DATE_LESS_THAN Z), oI (0 : Int32), oI (0 : Int32), oR (a_DATE_LESS_THAN Z)] [(.int (0 : Int32)), (.int (0 : Int32))]) _
      refine XS.icmpNo X124.here hx rfl (hb hby at_251) rfl (teq (by decide : (0 : Int32) = (0 : Int32))).2 ?_
      show oP p e below T124 (mkF m 254 #[oI p0, oR b6, oI (17 : Int32), oR (a_DATE_LESS_THAN Z), oI (0 : Int32), oI (0 : Int32), oR (a_DATE_LESS_THAN Z)] []) _
      refine XS.aload X124.here hx rfl (hb hby at_254) rfl rfl ?_
      show oP p e below T124 (mkF m 256 #[oI p0, oR b6, oI (17 : Int32), oR (a_DATE_LESS_THAN Z), oI (0 : Int32), oI (0 : Int32), oR (a_DATE_LESS_THAN Z)] [(.ref (a_DATE_LESS_THAN Z))]) _
      refine st125.trans ?_
      show oP p e below T125 (mkF m 259 #[oI p0, oR b6, oI (17 : Int32), oR (a_DATE_LESS_THAN Z), oI (0 : Int32), oI (0 : Int32), oR (a_DATE_LESS_THAN Z)] [(.int (0 : Int32))]) _
      refine XS.ifNo X125.here hx rfl (hb hby at_259) rfl ((if0 _ _).trans (teq (by decide : (0 : Int32) = (0 : Int32))).2) ?_
      show oP p e below T125 (mkF m 262 #[oI p0, oR b6, oI (17 : Int32), oR (a_DATE_LESS_THAN Z), oI (0 : Int32), oI (0 : Int32), oR (a_DATE_LESS_THAN Z)] []) _
      refine XS.iconst X125.here hx rfl (hb hby at_262) ?_
      show oP p e below T125 (mkF m 263 #[oI p0, oR b6, oI (17 : Int32), oR (a_DATE_LESS_THAN Z), oI (0 : Int32), oI (0 : Int32), oR (a_DATE_LESS_THAN Z)] [(.int (1 : Int32))]) _
      refine XS.goto X125.here hx rfl (pc0 := 263) (pc' := 267) rfl (hb hby at_263) (by decide) (by decide) ?_
      show oP p e below T125 (mkF m 267 #[oI p0, oR b6, oI (17 : Int32), oR (a_DATE_LESS_THAN Z), oI (0 : Int32), oI (0 : Int32), oR (a_DATE_LESS_THAN Z)] [(.int (1 : Int32))]) _
      exact retN X125 hx (t := .boolean) Bd.returns (by simp) (hb hby at_267) hr
    · show (some (.int (1 : Int32)) : Option Value) = some (.int (1 : Int32)) ∧ Fr n0 _ ∧ Keep h0 T125.heap []
      exact ⟨rfl, N125, Kc125⟩
  · obtain ⟨lo126, X126, N126⟩ := own_hide X52 N52
    obtain ⟨cq127, kq127, q127a, q127b, q127c⟩ := isOf hZ e52 ((e_a_DATE_LESS_THAN_EQUALS hS).ext O52.2)
    obtain ⟨_, _, ⟨T127, L127, k127, n127⟩, -, X127, ⟨Lc127, hQ127, l127, y127, z127⟩, st127⟩ := X126.virtualBack hx (y := (⟨"com/example/menshen/menshen/policy/ConditionOperator", "isNegated", "()Z"⟩ : MethodName)) (z := (⟨"com/example/menshen/menshen/policy/ConditionOperator", "isNegated", "()Z"⟩ : MethodName)) hown (mvT hZ (hw _ (List.mem_of_getElem? (i := 51) rfl))) (mvT hZ (hw _ (List.mem_of_getElem? (i := 52) rfl))) (notFace_of_selects (args := #[]) (mvT hZ (hw _ (List.mem_of_getElem? (i := 54) rfl)))) (mvT hZ (hw _ (List.mem_of_getElem? (i := 54) rfl))) (mvT hZ (hw _ (List.mem_of_getElem? (i := 53) rfl))) (by decide) (backOf (W := 0) (rm1n l Z a0 hw hS [] (a_DATE_LESS_THAN_EQUALS Z) h52 n0 O52 ((f_a_DATE_LESS_THAN_EQUALS_negationOf hS).ext O52.2)) hZ (hw _ (List.mem_of_getElem? (i := 55) rfl)) (hw _ (List.mem_of_getElem? (i := 3) rfl)) (by decide) (by decide)) q127a q127c (g := (mkF m 220 #[oI p0, oR b6, oI (18 : Int32), oR (a_DATE_LESS_THAN_EQUALS Z), oI (0 : Int32), oU, oU] [(.ref (a_DATE_LESS_THAN_EQUALS Z))])) rfl (by rw [hml]; rfl) (Steps.refl _) (argsL := []) (rest := []) (lenOf pd_0 rfl) rfl (by show 2 * 0 + _ ≤ _; exact Nat.le_of_eq rfl) (hb hby at_220) (fun _ _ => ⟨rfl, e52, (by decide : 1 + 0 ≤ _), (by decide : 23 + 0 ≤ _)⟩)
    dsimp only [Pt.U, Pt.locs, Pt.cells, Pt.slots] at X127 l127 y127 z127 st127 hQ127
    subst l127 y127 z127
    obtain ⟨v127, N127q, K127q⟩ := hQ127
    have w127 : (fn1n Z (a_DATE_LESS_THAN_EQUALS Z)) = (0 : Int32) := rfl
    rw [w127] at v127
    subst v127
    have N127 := Fr.app N126 N127q
    have O127 := O52.keep K127q all0
    have Kc127 := Kc52.trans K127q all0
    obtain ⟨cq128, kq128, q128a, q128b, q128c⟩ := isOf hZ rfl ((e_a_DATE_LESS_THAN_EQUALS hS).ext O127.2)
    obtain ⟨_, _, ⟨T128, L128, k128, n128⟩, -, X128, ⟨Lc128, hQ128, l128, y128, z128⟩, st128⟩ := X127.virtualBack hx (y := (⟨"com/example/menshen/menshen/policy/ConditionOperator", "positive", "()Lcom/example/menshen/menshen/policy/ConditionOperator;"⟩ : MethodName)) (z := (⟨"com/example/menshen/menshen/policy/ConditionOperator", "positive", "()Lcom/example/menshen/menshen/policy/ConditionOperator;"⟩ : MethodName)) hown (mvT hZ (hw _ (List.mem_of_getElem? (i := 58) rfl))) (mvT hZ (hw _ (List.mem_of_getElem? (i := 59) rfl))) (notFace_of_selects (args := #[]) (mvT hZ (hw _ (List.mem_of_getElem? (i := 61) rfl)))) (mvT hZ (hw _ (List.mem_of_getElem? (i := 61) rfl))) (mvT hZ (hw _ (List.mem_of_getElem? (i := 60) rfl))) (by decide) (backOf (W := 0) (rm2n l Z a0 hw hS [] (a_DATE_LESS_THAN_EQUALS Z) T127.heap n0 O127 ((f_a_DATE_LESS_THAN_EQUALS_negationOf hS).ext O127.2)) hZ (hw _ (List.mem_of_getElem? (i := 62) rfl)) (hw _ (List.mem_of_getElem? (i := 3) rfl)) (by decide) (by decide)) q128a q128c (g := (mkF m 226 #[oI p0, oR b6, oI (18 : Int32), oR (a_DATE_LESS_THAN_EQUALS Z), oI (0 : Int32), oI (0 : Int32), oU] [(.ref (a_DATE_LESS_THAN_EQUALS Z))])) rfl (by rw [hml]; rfl) (Steps.refl _) (argsL := []) (rest := []) (lenOf pd_1 rfl) rfl (by show 2 * 0 + _ ≤ _; exact Nat.le_of_eq rfl) (hb hby at_226) (fun _ _ => ⟨rfl, rfl, (by decide : 1 + 0 ≤ _), (by decide : 23 + 0 ≤ _)⟩)
    dsimp only [Pt.U, Pt.locs, Pt.cells, Pt.slots] at X128 l128 y128 z128 st128 hQ128
    subst l128 y128 z128
    obtain ⟨v128, N128q, K128q⟩ := hQ128
    have w128 : (fn2n Z (a_DATE_LESS_THAN_EQUALS Z)) = (a_DATE_LESS_THAN_EQUALS Z) := rfl
    rw [w128] at v128
    subst v128
    have N128 := Fr.app N127 N128q
    have O128 := O127.keep K128q all0
    have Kc128 := Kc127.trans K128q all0
    obtain ⟨cq129, kq129, q129a, q129b, q129c⟩ := isOf hZ rfl ((e_a_DATE_LESS_THAN_EQUALS hS).ext O128.2)
    obtain ⟨_, _, ⟨T129, L129, k129, n129⟩, -, X129, ⟨Lc129, hQ129, l129, y129, z129⟩, st129⟩ := X128.virtualBack hx (y := (⟨"com/example/menshen/menshen/policy/ConditionOperator", "isNegated", "()Z"⟩ : MethodName)) (z := (⟨"com/example/menshen/menshen/policy/ConditionOperator", "isNegated", "()Z"⟩ : MethodName)) hown (mvT hZ (hw _ (List.mem_of_getElem? (i := 51) rfl))) (mvT hZ (hw _ (List.mem_of_getElem? (i := 52) rfl))) (notFace_of_selects (args := #[]) (mvT hZ (hw _ (List.mem_of_getElem? (i := 54) rfl)))) (mvT hZ (hw _ (List.mem_of_getElem? (i := 54) rfl))) (mvT hZ (hw _ (List.mem_of_getElem? (i := 53) rfl))) (by decide) (backOf (W := 0) (rm1n l Z a0 hw hS [] (a_DATE_LESS_THAN_EQUALS Z) T128.heap n0 O128 ((f_a_DATE_LESS_THAN_EQUALS_negationOf hS).ext O128.2)) hZ (hw _ (List.mem_of_getElem? (i := 55) rfl)) (hw _ (List.mem_of_getElem? (i := 3) rfl)) (by decide) (by decide)) q129a q129c (g := (mkF m 256 #[oI p0, oR b6, oI (18 : Int32), oR (a_DATE_LESS_THAN_EQUALS Z), oI (0 : Int32), oI (0 : Int32), oR (a_DATE_LESS_THAN_EQUALS Z)] [(.ref (a_DATE_LESS_THAN_EQUALS Z))])) rfl (by rw [hml]; rfl) (Steps.refl _) (argsL := []) (rest := []) (lenOf pd_0 rfl) rfl (by show 2 * 0 + _ ≤ _; exact Nat.le_of_eq rfl) (hb hby at_256) (fun _ _ => ⟨rfl, rfl, (by decide : 1 + 0 ≤ _), (by decide : 23 + 0 ≤ _)⟩)
    dsimp only [Pt.U, Pt.locs, Pt.cells, Pt.slots] at X129 l129 y129 z129 st129 hQ129
    subst l129 y129 z129
    obtain ⟨v129, N129q, K129q⟩ := hQ129
    have w129 : (fn1n Z (a_DATE_LESS_THAN_EQUALS Z)) = (0 : Int32) := rfl
    rw [w129] at v129
    subst v129
    have N129 := Fr.app N128 N129q
    have O129 := O128.keep K129q all0
    have Kc129 := Kc128.trans K129q all0
    obtain ⟨fs, hr, hrun, hended, hW, hsame⟩ := X129.leave (v := some (.int (1 : Int32))) (fun h => by rw [Bd.returns] at h; cases h)
    refine ⟨_, _, pre53 _ ?_, hrun, hended, _, _, rfl, ?_, ⟨_, rfl⟩, hW, hsame.mono (by decide) (by decide)⟩
    · show oP p e below T52 (mkF m 168 #[oI p0, oR b6, oU, oU, oU, oU, oU] [(.int (18 : Int32))]) _
      refine XS.istoreN X52.here hx rfl (hb hby at_168) rfl (l' := #[oI p0, oR b6, oI (18 : Int32), oU, oU, oU, oU]) rfl ?_
      show oP p e below T52 (mkF m 169 #[oI p0, oR b6, oI (18 : Int32), oU, oU, oU, oU] []) _
      refine XS.aloadN X52.here hx rfl (hb hby at_169) rfl rfl ?_
      show oP p e below T52 (mkF m 170 #[oI p0, oR b6, oI (18 : Int32), oU, oU, oU, oU] [(.ref b6)]) _
      refine XS.iloadN X52.here hx rfl (hb hby at_170) rfl ?_
      show oP p e below T52 (mkF m 171 #[oI p0, oR b6, oI (18 : Int32), oU, oU, oU, oU] [(.int (18 : Int32)), (.ref b6)]) _
      refine own_aaload X52 hx hZ e52 V52 rfl (j := (18 : Int32)) ⟨by decide, by decide⟩ (v := (.ref (a_DATE_LESS_THAN_EQUALS Z))) rfl (g := (mkF m 171 #[oI p0, oR b6, oI (18 : Int32), oU, oU, oU, oU] [(.int (18 : Int32)), (.ref b6)])) rfl rfl (hb hby at_171) _ ?_
      show oP p e below T52 (mkF m 172 #[oI p0, oR b6, oI (18 : Int32), oU, oU, oU, oU] [(.ref (a_DATE_LESS_THAN_EQUALS Z))]) _
      refine XS.astoreN X52.here hx rfl (hb hby at_172) rfl rfl (l' := #[oI p0, oR b6, oI (18 : Int32), oR (a_DATE_LESS_THAN_EQUALS Z), oU, oU, oU]) rfl ?_
      show oP p e below T52 (mkF m 173 #[oI p0, oR b6, oI (18 : Int32), oR (a_DATE_LESS_THAN_EQUALS Z), oU, oU, oU] []) _
      refine XS.iloadN X52.here hx rfl (hb hby at_173) rfl ?_
      show oP p e below T52 (mkF m 174 #[oI p0, oR b6, oI (18 : Int32), oR (a_DATE_LESS_THAN_EQUALS Z), oU, oU, oU] [(.int (18 : Int32))]) _
      refine XS.iconst X52.here hx rfl (hb hby at_174) ?_
      show oP p e below T52 (mkF m 175 #[oI p0, oR b6, oI (18 : Int32), oR (a_DATE_LESS_THAN_EQUALS Z), oU, oU, oU] [(.int (1 : Int32)), (.int (18 : Int32))]) _
      refine XS.icmpNo X52.here hx rfl (hb hby at_175) rfl (feq (by decide : ¬ ((18 : Int32) = (1 : Int32)))).1 ?_
      show oP p e below T52 (mkF m 178 #[oI p0, oR b6, oI (18 : Int32), oR (a_DATE_LESS_THAN_EQUALS Z), oU, oU, oU] []) _
      refine XS.iloadN X52.here hx rfl (hb hby at_178) rfl ?_
      show oP p e below T52 (mkF m 179 #[oI p0, oR b6, oI (18 : Int32), oR (a_DATE_LESS_THAN_EQUALS Z), oU, oU, oU] [(.int (18 : Int32))]) _
      refine XS.iconst X52.here hx rfl (hb hby at_179) ?_
      show oP p e below T52 (mkF m 180 #[oI p0, oR b6, oI (18 : Int32), oR (a_DATE_LESS_THAN_EQUALS Z), oU, oU, oU] [(.int (2 : Int32)), (.int (18 : Int32))]) _
      refine XS.icmpNo X52.here hx rfl (hb hby at_180) rfl (feq (by decide : ¬ ((18 : Int32) = (2 : Int32)))).1 ?_
      show oP p e below T52 (mkF m 183 #[oI p0, oR b6, oI (18 : Int32), oR (a_DATE_LESS_THAN_EQUALS Z), oU, oU, oU] []) _
      refine XS.iloadN X52.here hx rfl (hb hby at_183) rfl ?_
      show oP p e below T52 (mkF m 184 #[oI p0, oR b6, oI (18 : Int32), oR (a_DATE_LESS_THAN_EQUALS Z), oU, oU, oU] [(.int (18 : Int32))]) _
      refine XS.iconst X52.here hx rfl (hb hby at_184) ?_
      show oP p e below T52 (mkF m 185 #[oI p0, oR b6, oI (18 : Int32), oR (a_DATE_LESS_THAN_EQUALS Z), oU, oU, oU] [(.int (4 : Int32)), (.int (18 : Int32))]) _
      refine XS.icmpNo X52.here hx rfl (hb hby at_185) rfl (feq (by decide : ¬ ((18 : Int32) = (4 : Int32)))).1 ?_
      show oP p e below T52 (mkF m 188 #[oI p0, oR b6, oI (18 : Int32), oR (a_DATE_LESS_THAN_EQUALS Z), oU, oU, oU] []) _
      refine XS.iloadN X52.here hx rfl (hb hby at_188) rfl ?_
      show oP p e below T52 (mkF m 189 #[oI p0, oR b6, oI (18 : Int32), oR (a_DATE_LESS_THAN_EQUALS Z), oU, oU, oU] [(.int (18 : Int32))]) _
      refine XS.bipush X52.here hx rfl (hb hby at_189) ?_
      show oP p e below T52 (mkF m 191 #[oI p0, oR b6, oI (18 : Int32), oR (a_DATE_LESS_THAN_EQUALS Z), oU, oU, oU] [(.int (6 : Int32)), (.int (18 : Int32))]) _
      refine XS.icmpNo X52.here hx rfl (hb hby at_191) rfl (feq (by decide : ¬ ((18 : Int32) = (6 : Int32)))).1 ?_
      show oP p e below T52 (mkF m 194 #[oI p0, oR b6, oI (18 : Int32), oR (a_DATE_LESS_THAN_EQUALS Z), oU, oU, oU] []) _
      refine XS.iloadN X52.here hx rfl (hb hby at_194) rfl ?_
      show oP p e below T52 (mkF m 195 #[oI p0, oR b6, oI (18 : Int32), oR (a_DATE_LESS_THAN_EQUALS Z), oU, oU, oU] [(.int (18 : Int32))]) _
      refine XS.bipush X52.here hx rfl (hb hby at_195) ?_
      show oP p e below T52 (mkF m 197 #[oI p0, oR b6, oI (18 : Int32), oR (a_DATE_LESS_THAN_EQUALS Z), oU, oU, oU] [(.int (8 : Int32)), (.int (18 : Int32))]) _
      refine XS.icmpNo X52.here hx rfl (hb hby at_197) rfl (feq (by decide : ¬ ((18 : Int32) = (8 : Int32)))).1 ?_
      show oP p e below T52 (mkF m 200 #[oI p0, oR b6, oI (18 : Int32), oR (a_DATE_LESS_THAN_EQUALS Z), oU, oU, oU] []) _
      refine XS.iloadN X52.here hx rfl (hb hby at_200) rfl ?_
      show oP p e below T52 (mkF m 201 #[oI p0, oR b6, oI (18 : Int32), oR (a_DATE_LESS_THAN_EQUALS Z), oU, oU, oU] [(.int (18 : Int32))]) _
      refine XS.bipush X52.here hx rfl (hb hby at_201) ?_
      show oP p e below T52 (mkF m 203 #[oI p0, oR b6, oI (18 : Int32), oR (a_DATE_LESS_THAN_EQUALS Z), oU, oU, oU] [(.int (10 : Int32)), (.int (18 : Int32))]) _
      refine XS.icmpNo X52.here hx rfl (hb hby at_203) rfl (feq (by decide : ¬ ((18 : Int32) = (10 : Int32)))).1 ?_
      show oP p e below T52 (mkF m 206 #[oI p0, oR b6, oI (18 : Int32), oR (a_DATE_LESS_THAN_EQUALS Z), oU, oU, oU] []) _
      refine XS.iloadN X52.here hx rfl (hb hby at_206) rfl ?_
      show oP p e below T52 (mkF m 207 #[oI p0, oR b6, oI (18 : Int32), oR (a_DATE_LESS_THAN_EQUALS Z), oU, oU, oU] [(.int (18 : Int32))]) _
      refine XS.bipush X52.here hx rfl (hb hby at_207) ?_
      show oP p e below T52 (mkF m 209 #[oI p0, oR b6, oI (18 : Int32), oR (a_DATE_LESS_THAN_EQUALS Z), oU, oU, oU] [(.int (16 : Int32)), (.int (18 : Int32))]) _
      refine XS.icmpYes X52.here hx rfl (pc0 := 209) (pc' := 216) rfl (hb hby at_209) rfl (feq (by decide : ¬ ((18 : Int32) = (16 : Int32)))).2 (by decide) (by decide) ?_
      show oP p e below T52 (mkF m 216 #[oI p0, oR b6, oI (18 : Int32), oR (a_DATE_LESS_THAN_EQUALS Z), oU, oU, oU] []) _
      refine XS.iconst X52.here hx rfl (hb hby at_216) ?_
      show oP p e below T52 (mkF m 217 #[oI p0, oR b6, oI (18 : Int32), oR (a_DATE_LESS_THAN_EQUALS Z), oU, oU, oU] [(.int (0 : Int32))]) _
      refine XS.istore X52.here hx rfl (hb hby at_217) rfl (l' := #[oI p0, oR b6, oI (18 : Int32), oR (a_DATE_LESS_THAN_EQUALS Z), oI (0 : Int32), oU, oU]) rfl ?_
      show oP p e below T52 (mkF m 219 #[oI p0, oR b6, oI (18 : Int32), oR (a_DATE_LESS_THAN_EQUALS Z), oI (0 : Int32), oU, oU] []) _
      refine XS.aloadN X52.here hx rfl (hb hby at_219) rfl rfl ?_
      show oP p e below T52 (mkF m 220 #[oI p0, oR b6, oI (18 : Int32), oR (a_DATE_LESS_THAN_EQUALS Z), oI (0 : Int32), oU, oU] [(.ref (a_DATE_LESS_THAN_EQUALS Z))]) _
      refine st127.trans ?_
      show oP p e below T127 (mkF m 223 #[oI p0, oR b6, oI (18 : Int32), oR (a_DATE_LESS_THAN_EQUALS Z), oI (0 : Int32), oU, oU] [(.int (0 : Int32))]) _
      refine XS.istore X127.here hx rfl (hb hby at_223) rfl (l' := #[oI p0, oR b6, oI (18 : Int32), oR (a_DATE_LESS_THAN_EQUALS Z), oI (0 : Int32), oI (0 : Int32), oU]) rfl ?_
      show oP p e below T127 (mkF m 225 #[oI p0, oR b6, oI (18 : Int32), oR (a_DATE_LESS_THAN_EQUALS Z), oI (0 : Int32), oI (0 : Int32), oU] []) _
      refine XS.aloadN X127.here hx rfl (hb hby at_225) rfl rfl ?_
      show oP p e below T127 (mkF m 226 #[oI p0, oR b6, oI (18 : Int32), oR (a_DATE_LESS_THAN_EQUALS Z), oI (0 : Int32), oI (0 : Int32), oU] [(.ref (a_DATE_LESS_THAN_EQUALS Z))]) _
      refine st128.trans ?_
      show oP p e below T128 (mkF m 229 #[oI p0, oR b6, oI (18 : Int32), oR (a_DATE_LESS_THAN_EQUALS Z), oI (0 : Int32), oI (0 : Int32), oU] [(.ref (a_DATE_LESS_THAN_EQUALS Z))]) _
      refine XS.astore X128.here hx rfl (hb hby at_229) rfl rfl (l' := #[oI p0, oR b6, oI (18 : Int32), oR (a_DATE_LESS_THAN_EQUALS Z), oI (0 : Int32), oI (0 : Int32), oR (a_DATE_LESS_THAN_EQUALS Z)]) rfl ?_
      show oP p e below T128 (mkF m 231 #[oI p0, oR b6, oI (18 : Int32), oR (a_DATE_LESS_THAN_EQUALS Z), oI (0 : Int32), oI (0 : Int32), oR (a_DATE_LESS_THAN_EQUALS Z)] []) _
      refine XS.iload X128.here hx rfl (hb hby at_231) rfl ?_
      show oP p e below T128 (mkF m 233 #[oI p0, oR b6, oI (18 : Int32), oR (a_DATE_LESS_THAN_EQUALS Z), oI (0 : Int32), oI (0 : Int32), oR (a_DATE_LESS_THAN_EQUALS Z)] [(.int (0 : Int32))]) _
      refine XS.iload X128.here hx rfl (hb hby at_233) rfl ?_
      show oP p e below T128 (mkF m 235 #[oI p0, oR b6, oI (18 : Int32), oR (a_DATE_LESS_THAN_EQUALS Z), oI (0 : Int32), oI (0 : Int32), oR (a_DATE_LESS_THAN_EQUALS Z)] [(.int (0 : Int32)), (.int (0 : Int32))]) _
      refine XS.icmpNo X128.here hx rfl (hb hby at_235) rfl (teq (by decide : (0 : Int32) = (0 : Int32))).2 ?_
      show oP p e below T128 (mkF m 238 #[oI p0, oR b6, oI (18 : Int32), oR (a_DATE_LESS_THAN_EQUALS Z), oI (0 : Int32), oI (0 : Int32), oR (a_DATE_LESS_THAN_EQUALS Z)] []) _
      refine XS.iload X128.here hx rfl (hb hby at_238) rfl ?_
      show oP p e below T128 (mkF m 240 #[oI p0, oR b6, oI (18 : Int32), oR (a_DATE_LESS_THAN_EQUALS Z), oI (0 : Int32), oI (0 : Int32), oR (a_DATE_LESS_THAN_EQUALS Z)] [(.int (0 : Int32))]) _
      refine XS.aload X128.here hx rfl (hb hby at_240) rfl rfl ?_
      show oP p e below T128 (mkF m 242 #[oI p0, oR b6, oI (18 : Int32), oR (a_DATE_LESS_THAN_EQUALS Z), oI (0 : Int32), oI (0 : Int32), oR (a_DATE_LESS_THAN_EQUALS Z)] [(.ref (a_DATE_LESS_THAN_EQUALS Z)), (.int (0 : Int32))]) _
      refine XS.aloadN X128.here hx rfl (hb hby at_242) rfl rfl ?_
      show oP p e below T128 (mkF m 243 #[oI p0, oR b6, oI (18 : Int32), oR (a_DATE_LESS_THAN_EQUALS Z), oI (0 : Int32), oI (0 : Int32), oR (a_DATE_LESS_THAN_EQUALS Z)] [(.ref (a_DATE_LESS_THAN_EQUALS Z)), (.ref (a_DATE_LESS_THAN_EQUALS Z)), (.int (0 : Int32))]) _
      refine Jvm.RoadKit.acmp (g := (mkF m 243 #[oI p0, oR b6, oI (18 : Int32), oR (a_DATE_LESS_THAN_EQUALS Z), oI (0 : Int32), oI (0 : Int32), oR (a_DATE_LESS_THAN_EQUALS Z)] [(.ref (a_DATE_LESS_THAN_EQUALS Z)), (.ref (a_DATE_LESS_THAN_EQUALS Z)), (.int (0 : Int32))])) X128 hx rfl rfl rfl (pc0 := 243) (pc' := 250) (same := true) rfl (hb hby at_243) rfl (decide_eq_true (congrArg Value.ref (rfl : (a_DATE_LESS_THAN_EQUALS Z) = (a_DATE_LESS_THAN_EQUALS Z)))) (by decide) (by decide) ?_
      show oP p e below T128 (mkF m 250 #[oI p0, oR b6, oI (18 : Int32), oR (a_DATE_LESS_THAN_EQUALS Z), oI (0 : Int32), oI (0 : Int32), oR (a_DATE_LESS_THAN_EQUALS Z)] [(.int (0 : Int32))]) _
      refine XS.iconst X128.here hx rfl (hb hby at_250) ?_
      show oP p e below T128 (mkF m 251 #[oI p0, oR b6, oI (18 : Int32), oR (a_DATE_LESS_THAN_EQUALS Z), oI (0 : Int32), oI (0 : Int32), oR (a_DATE_LESS_THAN_EQUALS Z)] [(.int (0 : Int32)), (.int (0 : Int32))]) _
      refine XS.icmpNo X128.here hx rfl (hb hby at_251) rfl (teq (by decide : (0 : Int32) = (0 : Int32))).2 ?_
      show oP p e below T128 (mkF m 254 #[oI p0, oR b6, oI (18 : Int32), oR (a_DATE_LESS_THAN_EQUALS Z), oI (0 : Int32), oI (0 : Int32), oR (a_DATE_LESS_THAN_EQUALS Z)] []) _
      refine XS.aload X128.here hx rfl (hb hby at_254) rfl rfl ?_
      show oP p e below T128 (mkF m 256 #[oI p0, oR b6, oI (18 : Int32), oR (a_DATE_LESS_THAN_EQUALS Z), oI (0 : Int32), oI (0 : Int32), oR (a_DATE_LESS_THAN_EQUALS Z)] [(.ref (a_DATE_LESS_THAN_EQUALS Z))]) _
      refine st129.trans ?_
      show oP p e below T129 (mkF m 259 #[oI p0, oR b6, oI (18 : Int32), oR (a_DATE_LESS_THAN_EQUALS Z), oI (0 : Int32), oI (0 : Int32), oR (a_DATE_LESS_THAN_EQUALS Z)] [(.int (0 : Int32))]) _
      refine XS.ifNo X129.here hx rfl (hb hby at_259) rfl ((if0 _ _).trans (teq (by decide : (0 : Int32) = (0 : Int32))).2) ?_
      show oP p e below T129 (mkF m 262 #[oI p0, oR b6, oI (18 : Int32), oR (a_DATE_LESS_THAN_EQUALS Z), oI (0 : Int32), oI (0 : Int32), oR (a_DATE_LESS_THAN_EQUALS Z)] []) _
      refine XS.iconst X129.here hx rfl (hb hby at_262) ?_
      show oP p e below T129 (mkF m 263 #[oI p0, oR b6, oI (18 : Int32), oR (a_DATE_LESS_THAN_EQUALS Z), oI (0 : Int32), oI (0 : Int32), oR (a_DATE_LESS_THAN_EQUALS Z)] [(.int (1 : Int32))]) _
      refine XS.goto X129.here hx rfl (pc0 := 263) (pc' := 267) rfl (hb hby at_263) (by decide) (by decide) ?_
      show oP p e below T129 (mkF m 267 #[oI p0, oR b6, oI (18 : Int32), oR (a_DATE_LESS_THAN_EQUALS Z), oI (0 : Int32), oI (0 : Int32), oR (a_DATE_LESS_THAN_EQUALS Z)] [(.int (1 : Int32))]) _
      exact retN X129 hx (t := .boolean) Bd.returns (by simp) (hb hby at_267) hr
    · show (some (.int (1 : Int32)) : Option Value) = some (.int (1 : Int32)) ∧ Fr n0 _ ∧ Keep h0 T129.heap []
      exact ⟨rfl, N129, Kc129⟩
  · obtain ⟨lo130, X130, N130⟩ := own_hide X52 N52
    obtain ⟨cq131, kq131, q131a, q131b, q131c⟩ := isOf hZ e52 ((e_a_DATE_GREATER_THAN hS).ext O52.2)
    obtain ⟨_, _, ⟨T131, L131, k131, n131⟩, -, X131, ⟨Lc131, hQ131, l131, y131, z131⟩, st131⟩ := X130.virtualBack hx (y := (⟨"com/example/menshen/menshen/policy/ConditionOperator", "isNegated", "()Z"⟩ : MethodName)) (z := (⟨"com/example/menshen/menshen/policy/ConditionOperator", "isNegated", "()Z"⟩ : MethodName)) hown (mvT hZ (hw _ (List.mem_of_getElem? (i := 51) rfl))) (mvT hZ (hw _ (List.mem_of_getElem? (i := 52) rfl))) (notFace_of_selects (args := #[]) (mvT hZ (hw _ (List.mem_of_getElem? (i := 54) rfl)))) (mvT hZ (hw _ (List.mem_of_getElem? (i := 54) rfl))) (mvT hZ (hw _ (List.mem_of_getElem? (i := 53) rfl))) (by decide) (backOf (W := 0) (rm1n l Z a0 hw hS [] (a_DATE_GREATER_THAN Z) h52 n0 O52 ((f_a_DATE_GREATER_THAN_negationOf hS).ext O52.2)) hZ (hw _ (List.mem_of_getElem? (i := 55) rfl)) (hw _ (List.mem_of_getElem? (i := 3) rfl)) (by decide) (by decide)) q131a q131c (g := (mkF m 220 #[oI p0, oR b6, oI (19 : Int32), oR (a_DATE_GREATER_THAN Z), oI (0 : Int32), oU, oU] [(.ref (a_DATE_GREATER_THAN Z))])) rfl (by rw [hml]; rfl) (Steps.refl _) (argsL := []) (rest := []) (lenOf pd_0 rfl) rfl (by show 2 * 0 + _ ≤ _; exact Nat.le_of_eq rfl) (hb hby at_220) (fun _ _ => ⟨rfl, e52, (by decide : 1 + 0 ≤ _), (by decide : 23 + 0 ≤ _)⟩)
    dsimp only [Pt.U, Pt.locs, Pt.cells, Pt.slots] at X131 l131 y131 z131 st131 hQ131
    subst l131 y131 z131
    obtain ⟨v131, N131q, K131q⟩ := hQ131
    have w131 : (fn1n Z (a_DATE_GREATER_THAN Z)) = (0 : Int32) := rfl
    rw [w131] at v131
    subst v131
    have N131 := Fr.app N130 N131q
    have O131 := O52.keep K131q all0
    have Kc131 := Kc52.trans K131q all0
    obtain ⟨cq132, kq132, q132a, q132b, q132c⟩ := isOf hZ rfl ((e_a_DATE_GREATER_THAN hS).ext O131.2)
    obtain ⟨_, _, ⟨T132, L132, k132, n132⟩, -, X132, ⟨Lc132, hQ132, l132, y132, z132⟩, st132⟩ := X131.virtualBack hx (y := (⟨"com/example/menshen/menshen/policy/ConditionOperator", "positive", "()Lcom/example/menshen/menshen/policy/ConditionOperator;"⟩ : MethodName)) (z := (⟨"com/example/menshen/menshen/policy/ConditionOperator", "positive", "()Lcom/example/menshen/menshen/policy/ConditionOperator;"⟩ : MethodName)) hown (mvT hZ (hw _ (List.mem_of_getElem? (i := 58) rfl))) (mvT hZ (hw _ (List.mem_of_getElem? (i := 59) rfl))) (notFace_of_selects (args := #[]) (mvT hZ (hw _ (List.mem_of_getElem? (i := 61) rfl)))) (mvT hZ (hw _ (List.mem_of_getElem? (i := 61) rfl))) (mvT hZ (hw _ (List.mem_of_getElem? (i := 60) rfl))) (by decide) (backOf (W := 0) (rm2n l Z a0 hw hS [] (a_DATE_GREATER_THAN Z) T131.heap n0 O131 ((f_a_DATE_GREATER_THAN_negationOf hS).ext O131.2)) hZ (hw _ (List.mem_of_getElem? (i := 62) rfl)) (hw _ (List.mem_of_getElem? (i := 3) rfl)) (by decide) (by decide)) q132a q132c (g := (mkF m 226 #[oI p0, oR b6, oI (19 : Int32), oR (a_DATE_GREATER_THAN Z), oI (0 : Int32), oI (0 : Int32), oU] [(.ref (a_DATE_GREATER_THAN Z))])) rfl (by rw [hml]; rfl) (Steps.refl _) (argsL := []) (rest := []) (lenOf pd_1 rfl) rfl (by show 2 * 0 + _ ≤ _; exact Nat.le_of_eq rfl) (hb hby at_226) (fun _ _ => ⟨rfl, rfl, (by decide : 1 + 0 ≤ _), (by decide : 23 + 0 ≤ _)⟩)
    dsimp only [Pt.U, Pt.locs, Pt.cells, Pt.slots] at X132 l132 y132 z132 st132 hQ132
    subst l132 y132 z132
    obtain ⟨v132, N132q, K132q⟩ := hQ132
    have w132 : (fn2n Z (a_DATE_GREATER_THAN Z)) = (a_DATE_GREATER_THAN Z) := rfl
    rw [w132] at v132
    subst v132
    have N132 := Fr.app N131 N132q
    have O132 := O131.keep K132q all0
    have Kc132 := Kc131.trans K132q all0
    obtain ⟨cq133, kq133, q133a, q133b, q133c⟩ := isOf hZ rfl ((e_a_DATE_GREATER_THAN hS).ext O132.2)
    obtain ⟨_, _, ⟨T133, L133, k133, n133⟩, -, X133, ⟨Lc133, hQ133, l133, y133, z133⟩, st133⟩ := X132.virtualBack hx (y := (⟨"com/example/menshen/menshen/policy/ConditionOperator", "isNegated", "()Z"⟩ : MethodName)) (z := (⟨"com/example/menshen/menshen/policy/ConditionOperator", "isNegated", "()Z"⟩ : MethodName)) hown (mvT hZ (hw _ (List.mem_of_getElem? (i := 51) rfl))) (mvT hZ (hw _ (List.mem_of_getElem? (i := 52) rfl))) (notFace_of_selects (args := #[]) (mvT hZ (hw _ (List.mem_of_getElem? (i := 54) rfl)))) (mvT hZ (hw _ (List.mem_of_getElem? (i := 54) rfl))) (mvT hZ (hw _ (List.mem_of_getElem? (i := 53) rfl))) (by decide) (backOf (W := 0) (rm1n l Z a0 hw hS [] (a_DATE_GREATER_THAN Z) T132.heap n0 O132 ((f_a_DATE_GREATER_THAN_negationOf hS).ext O132.2)) hZ (hw _ (List.mem_of_getElem? (i := 55) rfl)) (hw _ (List.mem_of_getElem? (i := 3) rfl)) (by decide) (by decide)) q133a q133c (g := (mkF m 256 #[oI p0, oR b6, oI (19 : Int32), oR (a_DATE_GREATER_THAN Z), oI (0 : Int32), oI (0 : Int32), oR (a_DATE_GREATER_THAN Z)] [(.ref (a_DATE_GREATER_THAN Z))])) rfl (by rw [hml]; rfl) (Steps.refl _) (argsL := []) (rest := []) (lenOf pd_0 rfl) rfl (by show 2 * 0 + _ ≤ _; exact Nat.le_of_eq rfl) (hb hby at_256) (fun _ _ => ⟨rfl, rfl, (by decide : 1 + 0 ≤ _), (by decide : 23 + 0 ≤ _)⟩)
    dsimp only [Pt.U, Pt.locs, Pt.cells, Pt.slots] at X133 l133 y133 z133 st133 hQ133
    subst l133 y133 z133
    obtain ⟨v133, N133q, K133q⟩ := hQ133
    have w133 : (fn1n Z (a_DATE_GREATER_THAN Z)) = (0 : Int32) := rfl
    rw [w133] at v133
    subst v133
    have N133 := Fr.app N132 N133q
    have O133 := O132.keep K133q all0
    have Kc133 := Kc132.trans K133q all0
    obtain ⟨fs, hr, hrun, hended, hW, hsame⟩ := X133.leave (v := some (.int (1 : Int32))) (fun h => by rw [Bd.returns] at h; cases h)
    refine ⟨_, _, pre53 _ ?_, hrun, hended, _, _, rfl, ?_, ⟨_, rfl⟩, hW, hsame.mono (by decide) (by decide)⟩
    · show oP p e below T52 (mkF m 168 #[oI p0, oR b6, oU, oU, oU, oU, oU] [(.int (19 : Int32))]) _
      refine XS.istoreN X52.here hx rfl (hb hby at_168) rfl (l' := #[oI p0, oR b6, oI (19 : Int32), oU, oU, oU, oU]) rfl ?_
      show oP p e below T52 (mkF m 169 #[oI p0, oR b6, oI (19 : Int32), oU, oU, oU, oU] []) _
      refine XS.aloadN X52.here hx rfl (hb hby at_169) rfl rfl ?_
      show oP p e below T52 (mkF m 170 #[oI p0, oR b6, oI (19 : Int32), oU, oU, oU, oU] [(.ref b6)]) _
      refine XS.iloadN X52.here hx rfl (hb hby at_170) rfl ?_
      show oP p e below T52 (mkF m 171 #[oI p0, oR b6, oI (19 : Int32), oU, oU, oU, oU] [(.int (19 : Int32)), (.ref b6)]) _
      refine own_aaload X52 hx hZ e52 V52 rfl (j := (19 : Int32)) ⟨by decide, by decide⟩ (v := (.ref (a_DATE_GREATER_THAN Z))) rfl (g := (mkF m 171 #[oI p0, oR b6, oI (19 : Int32), oU, oU, oU, oU] [(.int (19 : Int32)), (.ref b6)])) rfl rfl (hb hby at_171) _ ?_
      show oP p e below T52 (mkF m 172 #[oI p0, oR b6, oI (19 : Int32), oU, oU, oU, oU] [(.ref (a_DATE_GREATER_THAN Z))]) _
      refine XS.astoreN X52.here hx rfl (hb hby at_172) rfl rfl (l' := #[oI p0, oR b6, oI (19 : Int32), oR (a_DATE_GREATER_THAN Z), oU, oU, oU]) rfl ?_
      show oP p e below T52 (mkF m 173 #[oI p0, oR b6, oI (19 : Int32), oR (a_DATE_GREATER_THAN Z), oU, oU, oU] []) _
      refine XS.iloadN X52.here hx rfl (hb hby at_173) rfl ?_
      show oP p e below T52 (mkF m 174 #[oI p0, oR b6, oI (19 : Int32), oR (a_DATE_GREATER_THAN Z), oU, oU, oU] [(.int (19 : Int32))]) _
      refine XS.iconst X52.here hx rfl (hb hby at_174) ?_
      show oP p e below T52 (mkF m 175 #[oI p0, oR b6, oI (19 : Int32), oR (a_DATE_GREATER_THAN Z), oU, oU, oU] [(.int (1 : Int32)), (.int (19 : Int32))]) _
      refine XS.icmpNo X52.here hx rfl (hb hby at_175) rfl (feq (by decide : ¬ ((19 : Int32) = (1 : Int32)))).1 ?_
      show oP p e below T52 (mkF m 178 #[oI p0, oR b6, oI (19 : Int32), oR (a_DATE_GREATER_THAN Z), oU, oU, oU] []) _
      refine XS.iloadN X52.here hx rfl (hb hby at_178) rfl ?_
      show oP p e below T52 (mkF m 179 #[oI p0, oR b6, oI (19 : Int32), oR (a_DATE_GREATER_THAN Z), oU, oU, oU] [(.int (19 : Int32))]) _
      refine XS.iconst X52.here hx rfl (hb hby at_179) ?_
      show oP p e below T52 (mkF m 180 #[oI p0, oR b6, oI (19 : Int32), oR (a_DATE_GREATER_THAN Z), oU, oU, oU] [(.int (2 : Int32)), (.int (19 : Int32))]) _
      refine XS.icmpNo X52.here hx rfl (hb hby at_180) rfl (feq (by decide : ¬ ((19 : Int32) = (2 : Int32)))).1 ?_
      show oP p e below T52 (mkF m 183 #[oI p0, oR b6, oI (19 : Int32), oR (a_DATE_GREATER_THAN Z), oU, oU, oU] []) _
      refine XS.iloadN X52.here hx rfl (hb hby at_183) rfl ?_
      show oP p e below T52 (mkF m 184 #[oI p0, oR b6, oI (19 : Int32), oR (a_DATE_GREATER_THAN Z), oU, oU, oU] [(.int (19 : Int32))]) _
      refine XS.iconst X52.here hx rfl (hb hby at_184) ?_
      show oP p e below T52 (mkF m 185 #[oI p0, oR b6, oI (19 : Int32), oR (a_DATE_GREATER_THAN Z), oU, oU, oU] [(.int (4 : Int32)), (.int (19 : Int32))]) _
      refine XS.icmpNo X52.here hx rfl (hb hby at_185) rfl (feq (by decide : ¬ ((19 : Int32) = (4 : Int32)))).1 ?_
      show oP p e below T52 (mkF m 188 #[oI p0, oR b6, oI (19 : Int32), oR (a_DATE_GREATER_THAN Z), oU, oU, oU] []) _
      refine XS.iloadN X52.here hx rfl (hb hby at_188) rfl ?_
      show oP p e below T52 (mkF m 189 #[oI p0, oR b6, oI (19 : Int32), oR (a_DATE_GREATER_THAN Z), oU, oU, oU] [(.int (19 : Int32))]) _
      refine XS.bipush X52.here hx rfl (hb hby at_189) ?_
      show oP p e below T52 (mkF m 191 #[oI p0, oR b6, oI (19 : Int32), oR (a_DATE_GREATER_THAN Z), oU, oU, oU] [(.int (6 : Int32)), (.int (19 : Int32))]) _
      refine XS.icmpNo X52.here hx rfl (hb hby at_191) rfl (feq (by decide : ¬ ((19 : Int32) = (6 : Int32)))).1 ?_
      show oP p e below T52 (mkF m 194 #[oI p0, oR b6, oI (19 : Int32), oR (a_DATE_GREATER_THAN Z), oU, oU, oU] []) _
      refine XS.iloadN X52.here hx rfl (hb hby at_194) rfl ?_
      show oP p e below T52 (mkF m 195 #[oI p0, oR b6, oI (19 : Int32), oR (a_DATE_GREATER_THAN Z), oU, oU, oU] [(.int (19 : Int32))]) _
      refine XS.bipush X52.here hx rfl (hb hby at_195) ?_
      show oP p e below T52 (mkF m 197 #[oI p0, oR b6, oI (19 : Int32), oR (a_DATE_GREATER_THAN Z), oU, oU, oU] [(.int (8 : Int32)), (.int (19 : Int32))]) _
      refine XS.icmpNo X52.here hx rfl (hb hby at_197) rfl (feq (by decide : ¬ ((19 : Int32) = (8 : Int32)))).1 ?_
      show oP p e below T52 (mkF m 200 #[oI p0, oR b6, oI (19 : Int32), oR (a_DATE_GREATER_THAN Z), oU, oU, oU] []) _
      refine XS.iloadN X52.here hx rfl (hb hby at_200) rfl ?_
      show oP p e below T52 (mkF m 201 #[oI p0, oR b6, oI (19 : Int32), oR (a_DATE_GREATER_THAN Z), oU, oU, oU] [(.int (19 : Int32))]) _
      refine XS.bipush X52.here hx rfl (hb hby at_201) ?_
      show oP p e below T52 (mkF m 203 #[oI p0, oR b6, oI (19 : Int32), oR (a_DATE_GREATER_THAN Z), oU, oU, oU] [(.int (10 : Int32)), (.int (19 : Int32))]) _
      refine XS.icmpNo X52.here hx rfl (hb hby at_203) rfl (feq (by decide : ¬ ((19 : Int32) = (10 : Int32)))).1 ?_
      show oP p e below T52 (mkF m 206 #[oI p0, oR b6, oI (19 : Int32), oR (a_DATE_GREATER_THAN Z), oU, oU, oU] []) _
      refine XS.iloadN X52.here hx rfl (hb hby at_206) rfl ?_
      show oP p e below T52 (mkF m 207 #[oI p0, oR b6, oI (19 : Int32), oR (a_DATE_GREATER_THAN Z), oU, oU, oU] [(.int (19 : Int32))]) _
      refine XS.bipush X52.here hx rfl (hb hby at_207) ?_
      show oP p e below T52 (mkF m 209 #[oI p0, oR b6, oI (19 : Int32), oR (a_DATE_GREATER_THAN Z), oU, oU, oU] [(.int (16 : Int32)), (.int (19 : Int32))]) _
      refine XS.icmpYes X52.here hx rfl (pc0 := 209) (pc' := 216) rfl (hb hby at_209) rfl (feq (by decide : ¬ ((19 : Int32) = (16 : Int32)))).2 (by decide) (by decide) ?_
      show oP p e below T52 (mkF m 216 #[oI p0, oR b6, oI (19 : Int32), oR (a_DATE_GREATER_THAN Z), oU, oU, oU] []) _
      refine XS.iconst X52.here hx rfl (hb hby at_216) ?_
      show oP p e below T52 (mkF m 217 #[oI p0, oR b6, oI (19 : Int32), oR (a_DATE_GREATER_THAN Z), oU, oU, oU] [(.int (0 : Int32))]) _
      refine XS.istore X52.here hx rfl (hb hby at_217) rfl (l' := #[oI p0, oR b6, oI (19 : Int32), oR (a_DATE_GREATER_THAN Z), oI (0 : Int32), oU, oU]) rfl ?_
      show oP p e below T52 (mkF m 219 #[oI p0, oR b6, oI (19 : Int32), oR (a_DATE_GREATER_THAN Z), oI (0 : Int32), oU, oU] []) _
      refine XS.aloadN X52.here hx rfl (hb hby at_219) rfl rfl ?_
      show oP p e below T52 (mkF m 220 #[oI p0, oR b6, oI (19 : Int32), oR (a_DATE_GREATER_THAN Z), oI (0 : Int32), oU, oU] [(.ref (a_DATE_GREATER_THAN Z))]) _
      refine st131.trans ?_
      show oP p e below T131 (mkF m 223 #[oI p0, oR b6, oI (19 : Int32), oR (a_DATE_GREATER_THAN Z), oI (0 : Int32), oU, oU] [(.int (0 : Int32))]) _
      refine XS.istore X131.here hx rfl (hb hby at_223) rfl (l' := #[oI p0, oR b6, oI (19 : Int32), oR (a_DATE_GREATER_THAN Z), oI (0 : Int32), oI (0 : Int32), oU]) rfl ?_
      show oP p e below T131 (mkF m 225 #[oI p0, oR b6, oI (19 : Int32), oR (a_DATE_GREATER_THAN Z), oI (0 : Int32), oI (0 : Int32), oU] []) _
      refine XS.aloadN X131.here hx rfl (hb hby at_225) rfl rfl ?_
      show oP p e below T131 (mkF m 226 #[oI p0, oR b6, oI (19 : Int32), oR (a_DATE_GREATER_THAN Z), oI (0 : Int32), oI (0 : Int32), oU] [(.ref (a_DATE_GREATER_THAN Z))]) _
      refine st132.trans ?_
      show oP p e below T132 (mkF m 229 #[oI p0, oR b6, oI (19 : Int32), oR (a_DATE_GREATER_THAN Z), oI (0 : Int32), oI (0 : Int32), oU] [(.ref (a_DATE_GREATER_THAN Z))]) _
      refine XS.astore X132.here hx rfl (hb hby at_229) rfl rfl (l' := #[oI p0, oR b6, oI (19 : Int32), oR (a_DATE_GREATER_THAN Z), oI (0 : Int32), oI (0 : Int32), oR (a_DATE_GREATER_THAN Z)]) rfl ?_
      show oP p e below T132 (mkF m 231 #[oI p0, oR b6, oI (19 : Int32), oR (a_DATE_GREATER_THAN Z), oI (0 : Int32), oI (0 : Int32), oR (a_DATE_GREATER_THAN Z)] []) _
      refine XS.iload X132.here hx rfl (hb hby at_231) rfl ?_
      show oP p e below T132 (mkF m 233 #[oI p0, oR b6, oI (19 : Int32), oR (a_DATE_GREATER_THAN Z), oI (0 : Int32), oI (0 : Int32), oR (a_DATE_GREATER_THAN Z)] [(.int (0 : Int32))]) _
      refine XS.iload X132.here hx rfl (hb hby at_233) rfl ?_
      show oP p e below T132 (mkF m 235 #[oI p0, oR b6, oI (19 : Int32), oR (a_DATE_GREATER_THAN Z), oI (0 : Int32), oI (0 : Int32), oR (a_DATE_GREATER_THAN Z)] [(.int (0 : Int32)), (.int (0 : Int32))]) _
      refine XS.icmpNo X132.here hx rfl (hb hby at_235) rfl (teq (by decide : (0 : Int32) = (0 : Int32))).2 ?_
      show oP p e below T132 (mkF m 238 #[oI p0, oR b6, oI (19 : Int32), oR (a_DATE_GREATER_THAN Z), oI (0 : Int32), oI (0 : Int32), oR (a_DATE_GREATER_THAN Z)] []) _
      refine XS.iload X132.here hx rfl (hb hby at_238) rfl ?_
      show oP p e below T132 (mkF m 240 #[oI p0, oR b6, oI (19 : Int32), oR (a_DATE_GREATER_THAN Z), oI (0 : Int32), oI (0 : Int32), oR (a_DATE_GREATER_THAN Z)] [(.int (0 : Int32))]) _
      refine XS.aload X132.here hx rfl (hb hby at_240) rfl rfl ?_
      show oP p e below T132 (mkF m 242 #[oI p0, oR b6, oI (19 : Int32), oR (a_DATE_GREATER_THAN Z), oI (0 : Int32), oI (0 : Int32), oR (a_DATE_GREATER_THAN Z)] [(.ref (a_DATE_GREATER_THAN Z)), (.int (0 : Int32))]) _
      refine XS.aloadN X132.here hx rfl (hb hby at_242) rfl rfl ?_
      show oP p e below T132 (mkF m 243 #[oI p0, oR b6, oI (19 : Int32), oR (a_DATE_GREATER_THAN Z), oI (0 : Int32), oI (0 : Int32), oR (a_DATE_GREATER_THAN Z)] [(.ref (a_DATE_GREATER_THAN Z)), (.ref (a_DATE_GREATER_THAN Z)), (.int (0 : Int32))]) _
      refine Jvm.RoadKit.acmp (g := (mkF m 243 #[oI p0, oR b6, oI (19 : Int32), oR (a_DATE_GREATER_THAN Z), oI (0 : Int32), oI (0 : Int32), oR (a_DATE_GREATER_THAN Z)] [(.ref (a_DATE_GREATER_THAN Z)), (.ref (a_DATE_GREATER_THAN Z)), (.int (0 : Int32))])) X132 hx rfl rfl rfl (pc0 := 243) (pc' := 250) (same := true) rfl (hb hby at_243) rfl (decide_eq_true (congrArg Value.ref (rfl : (a_DATE_GREATER_THAN Z) = (a_DATE_GREATER_THAN Z)))) (by decide) (by decide) ?_
      show oP p e below T132 (mkF m 250 #[oI p0, oR b6, oI (19 : Int32), oR (a_DATE_GREATER_THAN Z), oI (0 : Int32), oI (0 : Int32), oR (a_DATE_GREATER_THAN Z)] [(.int (0 : Int32))]) _
      refine XS.iconst X132.here hx rfl (hb hby at_250) ?_
      show oP p e below T132 (mkF m 251 #[oI p0, oR b6, oI (19 : Int32), oR (a_DATE_GREATER_THAN Z), oI (0 : Int32), oI (0 : Int32), oR (a_DATE_GREATER_THAN Z)] [(.int (0 : Int32)), (.int (0 : Int32))]) _
      refine XS.icmpNo X132.here hx rfl (hb hby at_251) rfl (teq (by decide : (0 : Int32) = (0 : Int32))).2 ?_
      show oP p e below T132 (mkF m 254 #[oI p0, oR b6, oI (19 : Int32), oR (a_DATE_GREATER_THAN Z), oI (0 : Int32), oI (0 : Int32), oR (a_DATE_GREATER_THAN Z)] []) _
      refine XS.aload X132.here hx rfl (hb hby at_254) rfl rfl ?_
      show oP p e below T132 (mkF m 256 #[oI p0, oR b6, oI (19 : Int32), oR (a_DATE_GREATER_THAN Z), oI (0 : Int32), oI (0 : Int32), oR (a_DATE_GREATER_THAN Z)] [(.ref (a_DATE_GREATER_THAN Z))]) _
      refine st133.trans ?_
      show oP p e below T133 (mkF m 259 #[oI p0, oR b6, oI (19 : Int32), oR (a_DATE_GREATER_THAN Z), oI (0 : Int32), oI (0 : Int32), oR (a_DATE_GREATER_THAN Z)] [(.int (0 : Int32))]) _
      refine XS.ifNo X133.here hx rfl (hb hby at_259) rfl ((if0 _ _).trans (teq (by decide : (0 : Int32) = (0 : Int32))).2) ?_
      show oP p e below T133 (mkF m 262 #[oI p0, oR b6, oI (19 : Int32), oR (a_DATE_GREATER_THAN Z), oI (0 : Int32), oI (0 : Int32), oR (a_DATE_GREATER_THAN Z)] []) _
      refine XS.iconst X133.here hx rfl (hb hby at_262) ?_
      show oP p e below T133 (mkF m 263 #[oI p0, oR b6, oI (19 : Int32), oR (a_DATE_GREATER_THAN Z), oI (0 : Int32), oI (0 : Int32), oR (a_DATE_GREATER_THAN Z)] [(.int (1 : Int32))]) _
      refine XS.goto X133.here hx rfl (pc0 := 263) (pc' := 267) rfl (hb hby at_263) (by decide) (by decide) ?_
      show oP p e below T133 (mkF m 267 #[oI p0, oR b6, oI (19 : Int32), oR (a_DATE_GREATER_THAN Z), oI (0 : Int32), oI (0 : Int32), oR (a_DATE_GREATER_THAN Z)] [(.int (1 : Int32))]) _
      exact retN X133 hx (t := .boolean) Bd.returns (by simp) (hb hby at_267) hr
    · show (some (.int (1 : Int32)) : Option Value) = some (.int (1 : Int32)) ∧ Fr n0 _ ∧ Keep h0 T133.heap []
      exact ⟨rfl, N133, Kc133⟩
  · obtain ⟨lo134, X134, N134⟩ := own_hide X52 N52
    obtain ⟨cq135, kq135, q135a, q135b, q135c⟩ := isOf hZ e52 ((e_a_DATE_GREATER_THAN_EQUALS hS).ext O52.2)
    obtain ⟨_, _, ⟨T135, L135, k135, n135⟩, -, X135, ⟨Lc135, hQ135, l135, y135, z135⟩, st135⟩ := X134.virtualBack hx (y := (⟨"com/example/menshen/menshen/policy/ConditionOperator", "isNegated", "()Z"⟩ : MethodName)) (z := (⟨"com/example/menshen/menshen/policy/ConditionOperator", "isNegated", "()Z"⟩ : MethodName)) hown (mvT hZ (hw _ (List.mem_of_getElem? (i := 51) rfl))) (mvT hZ (hw _ (List.mem_of_getElem? (i := 52) rfl))) (notFace_of_selects (args := #[]) (mvT hZ (hw _ (List.mem_of_getElem? (i := 54) rfl)))) (mvT hZ (hw _ (List.mem_of_getElem? (i := 54) rfl))) (mvT hZ (hw _ (List.mem_of_getElem? (i := 53) rfl))) (by decide) (backOf (W := 0) (rm1n l Z a0 hw hS [] (a_DATE_GREATER_THAN_EQUALS Z) h52 n0 O52 ((f_a_DATE_GREATER_THAN_EQUALS_negationOf hS).ext O52.2)) hZ (hw _ (List.mem_of_getElem? (i := 55) rfl)) (hw _ (List.mem_of_getElem? (i := 3) rfl)) (by decide) (by decide)) q135a q135c (g := (mkF m 220 #[oI p0, oR b6, oI (20 : Int32), oR (a_DATE_GREATER_THAN_EQUALS Z), oI (0 : Int32), oU, oU] [(.ref (a_DATE_GREATER_THAN_EQUALS Z))])) rfl (by rw [hml]; rfl) (Steps.refl _) (argsL := []) (rest := []) (lenOf pd_0 rfl) rfl (by show 2 * 0 + _ ≤ _; exact Nat.le_of_eq rfl) (hb hby at_220) (fun _ _ => ⟨rfl, e52, (by decide : 1 + 0 ≤ _), (by decide : 23 + 0 ≤ _)⟩)
    dsimp only [Pt.U, Pt.locs, Pt.cells, Pt.slots] at X135 l135 y135 z135 st135 hQ135
    subst l135 y135 z135
    obtain ⟨v135, N135q, K135q⟩ := hQ135
    have w135 : (fn1n Z (a_DATE_GREATER_THAN_EQUALS Z)) = (0 : Int32) := rfl
    rw [w135] at v135
    subst v135
    have N135 := Fr.app N134 N135q
    have O135 := O52.keep K135q all0
    have Kc135 := Kc52.trans K135q all0
    obtain ⟨cq136, kq136, q136a, q136b, q136c⟩ := isOf hZ rfl ((e_a_DATE_GREATER_THAN_EQUALS hS).ext O135.2)
    obtain ⟨_, _, ⟨T136, L136, k136, n136⟩, -, X136, ⟨Lc136, hQ136, l136, y136, z136⟩, st136⟩ := X135.virtualBack hx (y := (⟨"com/example/menshen/menshen/policy/ConditionOperator", "positive", "()Lcom/example/menshen/menshen/policy/ConditionOperator;"⟩ : MethodName)) (z := (⟨"com/example/menshen/menshen/policy/ConditionOperator", "positive", "()Lcom/example/menshen/menshen/policy/ConditionOperator;"⟩ : MethodName)) hown (mvT hZ (hw _ (List.mem_of_getElem? (i := 58) rfl))) (mvT hZ (hw _ (List.mem_of_getElem? (i := 59) rfl))) (notFace_of_selects (args := #[]) (mvT hZ (hw _ (List.mem_of_getElem? (i := 61) rfl)))) (mvT hZ (hw _ (List.mem_of_getElem? (i := 61) rfl))) (mvT hZ (hw _ (List.mem_of_getElem? (i := 60) rfl))) (by decide) (backOf (W := 0) (rm2n l Z a0 hw hS [] (a_DATE_GREATER_THAN_EQUALS Z) T135.heap n0 O135 ((f_a_DATE_GREATER_THAN_EQUALS_negationOf hS).ext O135.2)) hZ (hw _ (List.mem_of_getElem? (i := 62) rfl)) (hw _ (List.mem_of_getElem? (i := 3) rfl)) (by decide) (by decide)) q136a q136c (g := (mkF m 226 #[oI p0, oR b6, oI (20 : Int32), oR (a_DATE_GREATER_THAN_EQUALS Z), oI (0 : Int32), oI (0 : Int32), oU] [(.ref (a_DATE_GREATER_THAN_EQUALS Z))])) rfl (by rw [hml]; rfl) (Steps.refl _) (argsL := []) (rest := []) (lenOf pd_1 rfl) rfl (by show 2 * 0 + _ ≤ _; exact Nat.le_of_eq rfl) (hb hby at_226) (fun _ _ => ⟨rfl, rfl, (by decide : 1 + 0 ≤ _), (by decide : 23 + 0 ≤ _)⟩)
    dsimp only [Pt.U, Pt.locs, Pt.cells, Pt.slots] at X136 l136 y136 z136 st136 hQ136
    subst l136 y136 z136
    obtain ⟨v136, N136q, K136q⟩ := hQ136
    have w136 : (fn2n Z (a_DATE_GREATER_THAN_EQUALS Z)) = (a_DATE_GREATER_THAN_EQUALS Z) := rfl
    rw [w136] at v136
    subst v136
    have N136 := Fr.app N135 N136q
    have O136 := O135.keep K136q all0
    have Kc136 := Kc135.trans K136q all0
    obtain ⟨cq137, kq137, q137a, q137b, q137c⟩ := isOf hZ rfl ((e_a_DATE_GREATER_THAN_EQUALS hS).ext O136.2)
    obtain ⟨_, _, ⟨T137, L137, k137, n137⟩, -, X137, ⟨Lc137, hQ137, l137, y137, z137⟩, st137⟩ := X136.virtualBack hx (y := (⟨"com/example/menshen/menshen/policy/ConditionOperator", "isNegated", "()Z"⟩ : MethodName)) (z := (⟨"com/example/menshen/menshen/policy/ConditionOperator", "isNegated", "()Z"⟩ : MethodName)) hown (mvT hZ (hw _ (List.mem_of_getElem? (i := 51) rfl))) (mvT hZ (hw _ (List.mem_of_getElem? (i := 52) rfl))) (notFace_of_selects (args := #[]) (mvT hZ (hw _ (List.mem_of_getElem? (i := 54) rfl)))) (mvT hZ (hw _ (List.mem_of_getElem? (i := 54) rfl))) (mvT hZ (hw _ (List.mem_of_getElem? (i := 53) rfl))) (by decide) (backOf (W := 0) (rm1n l Z a0 hw hS [] (a_DATE_GREATER_THAN_EQUALS Z) T136.heap n0 O136 ((f_a_DATE_GREATER_THAN_EQUALS_negationOf hS).ext O136.2)) hZ (hw _ (List.mem_of_getElem? (i := 55) rfl)) (hw _ (List.mem_of_getElem? (i := 3) rfl)) (by decide) (by decide)) q137a q137c (g := (mkF m 256 #[oI p0, oR b6, oI (20 : Int32), oR (a_DATE_GREATER_THAN_EQUALS Z), oI (0 : Int32), oI (0 : Int32), oR (a_DATE_GREATER_THAN_EQUALS Z)] [(.ref (a_DATE_GREATER_THAN_EQUALS Z))])) rfl (by rw [hml]; rfl) (Steps.refl _) (argsL := []) (rest := []) (lenOf pd_0 rfl) rfl (by show 2 * 0 + _ ≤ _; exact Nat.le_of_eq rfl) (hb hby at_256) (fun _ _ => ⟨rfl, rfl, (by decide : 1 + 0 ≤ _), (by decide : 23 + 0 ≤ _)⟩)
    dsimp only [Pt.U, Pt.locs, Pt.cells, Pt.slots] at X137 l137 y137 z137 st137 hQ137
    subst l137 y137 z137
    obtain ⟨v137, N137q, K137q⟩ := hQ137
    have w137 : (fn1n Z (a_DATE_GREATER_THAN_EQUALS Z)) = (0 : Int32) := rfl
    rw [w137] at v137
    subst v137
    have N137 := Fr.app N136 N137q
    have O137 := O136.keep K137q all0
    have Kc137 := Kc136.trans K137q all0
    obtain ⟨fs, hr, hrun, hended, hW, hsame⟩ := X137.leave (v := some (.int (1 : Int32))) (fun h => by rw [Bd.returns] at h; cases h)
    refine ⟨_, _, pre53 _ ?_, hrun, hended, _, _, rfl, ?_, ⟨_, rfl⟩, hW, hsame.mono (by decide) (by decide)⟩
    · show oP p e below T52 (mkF m 168 #[oI p0, oR b6, oU, oU, oU, oU, oU] [(.int (20 : Int32))]) _
      refine XS.istoreN X52.here hx rfl (hb hby at_168) rfl (l' := #[oI p0, oR b6, oI (20 : Int32), oU, oU, oU, oU]) rfl ?_
      show oP p e below T52 (mkF m 169 #[oI p0, oR b6, oI (20 : Int32), oU, oU, oU, oU] []) _
      refine XS.aloadN X52.here hx rfl (hb hby at_169) rfl rfl ?_
      show oP p e below T52 (mkF m 170 #[oI p0, oR b6, oI (20 : Int32), oU, oU, oU, oU] [(.ref b6)]) _
      refine XS.iloadN X52.here hx rfl (hb hby at_170) rfl ?_
      show oP p e below T52 (mkF m 171 #[oI p0, oR b6, oI (20 : Int32), oU, oU, oU, oU] [(.int (20 : Int32)), (.ref b6)]) _
      refine own_aaload X52 hx hZ e52 V52 rfl (j := (20 : Int32)) ⟨by decide, by decide⟩ (v := (.ref (a_DATE_GREATER_THAN_EQUALS Z))) rfl (g := (mkF m 171 #[oI p0, oR b6, oI (20 : Int32), oU, oU, oU, oU] [(.int (20 : Int32)), (.ref b6)])) rfl rfl (hb hby at_171) _ ?_
      show oP p e below T52 (mkF m 172 #[oI p0, oR b6, oI (20 : Int32), oU, oU, oU, oU] [(.ref (a_DATE_GREATER_THAN_EQUALS Z))]) _
      refine XS.astoreN X52.here hx rfl (hb hby at_172) rfl rfl (l' := #[oI p0, oR b6, oI (20 : Int32), oR (a_DATE_GREATER_THAN_EQUALS Z), oU, oU, oU]) rfl ?_
      show oP p e below T52 (mkF m 173 #[oI p0, oR b6, oI (20 : Int32), oR (a_DATE_GREATER_THAN_EQUALS Z), oU, oU, oU] []) _
      refine XS.iloadN X52.here hx rfl (hb hby at_173) rfl ?_
      show oP p e below T52 (mkF m 174 #[oI p0, oR b6, oI (20 : Int32), oR (a_DATE_GREATER_THAN_EQUALS Z), oU, oU, oU] [(.int (20 : Int32))]) _
      refine XS.iconst X52.here hx rfl (hb hby at_174) ?_
      show oP p e below T52 (mkF m 175 #[oI p0, oR b6, oI (20 : Int32), oR (a_DATE_GREATER_THAN_EQUALS Z), oU, oU, oU] [(.int (1 : Int32)), (.int (20 : Int32))]) _
      refine XS.icmpNo X52.here hx rfl (hb hby at_175) rfl (feq (by decide : ¬ ((20 : Int32) = (1 : Int32)))).1 ?_
      show oP p e below T52 (mkF m 178 #[oI p0, oR b6, oI (20 : Int32), oR (a_DATE_GREATER_THAN_EQUALS Z), oU, oU, oU] []) _
      refine XS.iloadN X52.here hx rfl (hb hby at_178) rfl ?_
      show oP p e below T52 (mkF m 179 #[oI p0, oR b6, oI (20 : Int32), oR (a_DATE_GREATER_THAN_EQUALS Z), oU, oU, oU] [(.int (20 : Int32))]) _
      refine XS.iconst X52.here hx rfl (hb hby at_179) ?_
      show oP p e below T52 (mkF m 180 #[oI p0, oR b6, oI (20 : Int32), oR (a_DATE_GREATER_THAN_EQUALS Z), oU, oU, oU] [(.int (2 : Int32)), (.int (20 : Int32))]) _
      refine XS.icmpNo X52.here hx rfl (hb hby at_180) rfl (feq (by decide : ¬ ((20 : Int32) = (2 : Int32)))).1 ?_
      show oP p e below T52 (mkF m 183 #[oI p0, oR b6, oI (20 : Int32), oR (a_DATE_GREATER_THAN_EQUALS Z), oU, oU, oU] []) _
      refine XS.iloadN X52.here hx rfl (hb hby at_183) rfl ?_
      show oP p e below T52 (mkF m 184 #[oI p0, oR b6, oI (20 : Int32), oR (a_DATE_GREATER_THAN_EQUALS Z), oU, oU, oU] [(.int (20 : Int32))]) _
      refine XS.iconst X52.here hx rfl (hb hby at_184) ?_
      show oP p e below T52 (mkF m 185 #[oI p0, oR b6, oI (20 : Int32), oR (a_DATE_GREATER_THAN_EQUALS Z), oU, oU, oU] [(.int (4 : Int32)), (.int (20 : Int32))]) _
      refine XS.icmpNo X52.here hx rfl (hb hby at_185) rfl (feq (by decide : ¬ ((20 : Int32) = (4 : Int32)))).1 ?_
      show oP p e below T52 (mkF m 188 #[oI p0, oR b6, oI (20 : Int32), oR (a_DATE_GREATER_THAN_EQUALS Z), oU, oU, oU] []) _
      refine XS.iloadN X52.here hx rfl (hb hby at_188) rfl ?_
      show oP p e below T52 (mkF m 189 #[oI p0, oR b6, oI (20 : Int32), oR (a_DATE_GREATER_THAN_EQUALS Z), oU, oU, oU] [(.int (20 : Int32))]) _
      refine XS.bipush X52.here hx rfl (hb hby at_189) ?_
      show oP p e below T52 (mkF m 191 #[oI p0, oR b6, oI (20 : Int32), oR (a_DATE_GREATER_THAN_EQUALS Z), oU, oU, oU] [(.int (6 : Int32)), (.int (20 : Int32))]) _
      refine XS.icmpNo X52.here hx rfl (hb hby at_191) rfl (feq (by decide : ¬ ((20 : Int32) = (6 : Int32)))).1 ?_
      show oP p e below T52 (mkF m 194 #[oI p0, oR b6, oI (20 : Int32), oR (a_DATE_GREATER_THAN_EQUALS Z), oU, oU, oU] []) _
      refine XS.iloadN X52.here hx rfl (hb hby at_194) rfl ?_
      show oP p e below T52 (mkF m 195 #[oI p0, oR b6, oI (20 : Int32), oR (a_DATE_GREATER_THAN_EQUALS Z), oU, oU, oU] [(.int (20 : Int32))]) _
      refine XS.bipush X52.here hx rfl (hb hby at_195) ?_
      show oP p e below T52 (mkF m 197 #[oI p0, oR b6, oI (20 : Int32), oR (a_DATE_GREATER_THAN_EQUALS Z), oU, oU, oU] [(.int (8 : Int32)), (.int (20 : Int32))]) _
      refine XS.icmpNo X52.here hx rfl (hb hby at_197) rfl (feq (by decide : ¬ ((20 : Int32) = (8 : Int32)))).1 ?_
      show oP p e below T52 (mkF m 200 #[oI p0, oR b6, oI (20 : Int32), oR (a_DATE_GREATER_THAN_EQUALS Z), oU, oU, oU] []) _
      refine XS.iloadN X52.here hx rfl (hb hby at_200) rfl ?_
      show oP p e below T52 (mkF m 201 #[oI p0, oR b6, oI (20 : Int32), oR (a_DATE_GREATER_THAN_EQUALS Z), oU, oU, oU] [(.int (20 : Int32))]) _
      refine XS.bipush X52.here hx rfl (hb hby at_201) ?_
      show oP p e below T52 (mkF m 203 #[oI p0, oR b6, oI (20 : Int32), oR (a_DATE_GREATER_THAN_EQUALS Z), oU, oU, oU] [(.int (10 : Int32)), (.int (20 : Int32))]) _
      refine XS.icmpNo X52.here hx rfl (hb hby at_203) rfl (feq (by decide : ¬ ((20 : Int32) = (10 : Int32)))).1 ?_
      show oP p e below T52 (mkF m 206 #[oI p0, oR b6, oI (20 : Int32), oR (a_DATE_GREATER_THAN_EQUALS Z), oU, oU, oU] []) _
      refine XS.iloadN X52.here hx rfl (hb hby at_206) rfl ?_
      show oP p e below T52 (mkF m 207 #[oI p0, oR b6, oI (20 : Int32), oR (a_DATE_GREATER_THAN_EQUALS Z), oU, oU, oU] [(.int (20 : Int32))]) _
      refine XS.bipush X52.here hx rfl (hb hby at_207) ?_
      show oP p e below T52 (mkF m 209 #[oI p0, oR b6, oI (20 : Int32), oR (a_DATE_GREATER_THAN_EQUALS Z), oU, oU, oU] [(.int (16 : Int32)), (.int (20 : Int32))]) _
      refine XS.icmpYes X52.here hx rfl (pc0 := 209) (pc' := 216) rfl (hb hby at_209) rfl (feq (by decide : ¬ ((20 : Int32) = (16 : Int32)))).2 (by decide) (by decide) ?_
      show oP p e below T52 (mkF m 216 #[oI p0, oR b6, oI (20 : Int32), oR (a_DATE_GREATER_THAN_EQUALS Z), oU, oU, oU] []) _
      refine XS.iconst X52.here hx rfl (hb hby at_216) ?_
      show oP p e below T52 (mkF m 217 #[oI p0, oR b6, oI (20 : Int32), oR (a_DATE_GREATER_THAN_EQUALS Z), oU, oU, oU] [(.int (0 : Int32))]) _
      refine XS.istore X52.here hx rfl (hb hby at_217) rfl (l' := #[oI p0, oR b6, oI (20 : Int32), oR (a_DATE_GREATER_THAN_EQUALS Z), oI (0 : Int32), oU, oU]) rfl ?_
      show oP p e below T52 (mkF m 219 #[oI p0, oR b6, oI (20 : Int32), oR (a_DATE_GREATER_THAN_EQUALS Z), oI (0 : Int32), oU, oU] []) _
      refine XS.aloadN X52.here hx rfl (hb hby at_219) rfl rfl ?_
      show oP p e below T52 (mkF m 220 #[oI p0, oR b6, oI (20 : Int32), oR (a_DATE_GREATER_THAN_EQUALS Z), oI (0 : Int32), oU, oU] [(.ref (a_DATE_GREATER_THAN_EQUALS Z))]) _
      refine st135.trans ?_
      show oP p e below T135 (mkF m 223 #[oI p0, oR b6, oI (20 : Int32), oR (a_DATE_GREATER_THAN_EQUALS Z), oI (0 : Int32), oU, oU] [(.int (0 : Int32))]) _
      refine XS.istore X135.here hx rfl (hb hby at_223) rfl (l' := #[oI p0, oR b6, oI (20 : Int32), oR (a_DATE_GREATER_THAN_EQUALS Z), oI (0 : Int32), oI (0 : Int32), oU]) rfl ?_
      show oP p e below T135 (mkF m 225 #[oI p0, oR b6, oI (20 : Int32), oR (a_DATE_GREATER_THAN_EQUALS Z), oI (0 : Int32), oI (0 : Int32), oU] []) _
      refine XS.aloadN X135.here hx rfl (hb hby at_225) rfl rfl ?_
      show oP p e below T135 (mkF m 226 #[oI p0, oR b6, oI (20 : Int32), oR (a_DATE_GREATER_THAN_EQUALS Z), oI (0 : Int32), oI (0 : Int32), oU] [(.ref (a_DATE_GREATER_THAN_EQUALS Z))]) _
      refine st136.trans ?_
      show oP p e below T136 (mkF m 229 #[oI p0, oR b6, oI (20 : Int32), oR (a_DATE_GREATER_THAN_EQUALS Z), oI (0 : Int32), oI (0 : Int32), oU] [(.ref (a_DATE_GREATER_THAN_EQUALS Z))]) _
      refine XS.astore X136.here hx rfl (hb hby at_229) rfl rfl (l' := #[oI p0, oR b6, oI (20 : Int32), oR (a_DATE_GREATER_THAN_EQUALS Z), oI (0 : Int32), oI (0 : Int32), oR (a_DATE_GREATER_THAN_EQUALS Z)]) rfl ?_
      show oP p e below T136 (mkF m 231 #[oI p0, oR b6, oI (20 : Int32), oR (a_DATE_GREATER_THAN_EQUALS Z), oI (0 : Int32), oI (0 : Int32), oR (a_DATE_GREATER_THAN_EQUALS Z)] []) _
      refine XS.iload X136.here hx rfl (hb hby at_231) rfl ?_
      show oP p e below T136 (mkF m 233 #[oI p0, oR b6, oI (20 : Int32), oR (a_DATE_GREATER_THAN_EQUALS Z), oI (0 : Int32), oI (0 : Int32), oR (a_DATE_GREATER_THAN_EQUALS Z)] [(.int (0 : Int32))]) _
      refine XS.iload X136.here hx rfl (hb hby at_233) rfl ?_
      show oP p e below T136 (mkF m 235 #[oI p0, oR b6, oI (20 : Int32), oR (a_DATE_GREATER_THAN_EQUALS Z), oI (0 : Int32), oI (0 : Int32), oR (a_DATE_GREATER_THAN_EQUALS Z)] [(.int (0 : Int32)), (.int (0 : Int32))]) _
      refine XS.icmpNo X136.here hx rfl (hb hby at_235) rfl (teq (by decide : (0 : Int32) = (0 : Int32))).2 ?_
      show oP p e below T136 (mkF m 238 #[oI p0, oR b6, oI (20 : Int32), oR (a_DATE_GREATER_THAN_EQUALS Z), oI (0 : Int32), oI (0 : Int32), oR (a_DATE_GREATER_THAN_EQUALS Z)] []) _
      refine XS.iload X136.here hx rfl (hb hby at_238) rfl ?_
      show oP p e below T136 (mkF m 240 #[oI p0, oR b6, oI (20 : Int32), oR (a_DATE_GREATER_THAN_EQUALS Z), oI (0 : Int32), oI (0 : Int32), oR (a_DATE_GREATER_THAN_EQUALS Z)] [(.int (0 : Int32))]) _
      refine XS.aload X136.here hx rfl (hb hby at_240) rfl rfl ?_
      show oP p e below T136 (mkF m 242 #[oI p0, oR b6, oI (20 : Int32), oR (a_DATE_GREATER_THAN_EQUALS Z), oI (0 : Int32), oI (0 : Int32), oR (a_DATE_GREATER_THAN_EQUALS Z)] [(.ref (a_DATE_GREATER_THAN_EQUALS Z)), (.int (0 : Int32))]) _
      refine XS.aloadN X136.here hx rfl (hb hby at_242) rfl rfl ?_
      show oP p e below T136 (mkF m 243 #[oI p0, oR b6, oI (20 : Int32), oR (a_DATE_GREATER_THAN_EQUALS Z), oI (0 : Int32), oI (0 : Int32), oR (a_DATE_GREATER_THAN_EQUALS Z)] [(.ref (a_DATE_GREATER_THAN_EQUALS Z)), (.ref (a_DATE_GREATER_THAN_EQUALS Z)), (.int (0 : Int32))]) _
      refine Jvm.RoadKit.acmp (g := (mkF m 243 #[oI p0, oR b6, oI (20 : Int32), oR (a_DATE_GREATER_THAN_EQUALS Z), oI (0 : Int32), oI (0 : Int32), oR (a_DATE_GREATER_THAN_EQUALS Z)] [(.ref (a_DATE_GREATER_THAN_EQUALS Z)), (.ref (a_DATE_GREATER_THAN_EQUALS Z)), (.int (0 : Int32))])) X136 hx rfl rfl rfl (pc0 := 243) (pc' := 250) (same := true) rfl (hb hby at_243) rfl (decide_eq_true (congrArg Value.ref (rfl : (a_DATE_GREATER_THAN_EQUALS Z) = (a_DATE_GREATER_THAN_EQUALS Z)))) (by decide) (by decide) ?_
      show oP p e below T136 (mkF m 250 #[oI p0, oR b6, oI (20 : Int32), oR (a_DATE_GREATER_THAN_EQUALS Z), oI (0 : Int32), oI (0 : Int32), oR (a_DATE_GREATER_THAN_EQUALS Z)] [(.int (0 : Int32))]) _
      refine XS.iconst X136.here hx rfl (hb hby at_250) ?_
      show oP p e below T136 (mkF m 251 #[oI p0, oR b6, oI (20 : Int32), oR (a_DATE_GREATER_THAN_EQUALS Z), oI (0 : Int32), oI (0 : Int32), oR (a_DATE_GREATER_THAN_EQUALS Z)] [(.int (0 : Int32)), (.int (0 : Int32))]) _
      refine XS.icmpNo X136.here hx rfl (hb hby at_251) rfl (teq (by decide : (0 : Int32) = (0 : Int32))).2 ?_
      show oP p e below T136 (mkF m 254 #[oI p0, oR b6, oI (20 : Int32), oR (a_DATE_GREATER_THAN_EQUALS Z), oI (0 : Int32), oI (0 : Int32), oR (a_DATE_GREATER_THAN_EQUALS Z)] []) _
      refine XS.aload X136.here hx rfl (hb hby at_254) rfl rfl ?_
      show oP p e below T136 (mkF m 256 #[oI p0, oR b6, oI (20 : Int32), oR (a_DATE_GREATER_THAN_EQUALS Z), oI (0 : Int32), oI (0 : Int32), oR (a_DATE_GREATER_THAN_EQUALS Z)] [(.ref (a_DATE_GREATER_THAN_EQUALS Z))]) _
      refine st137.trans ?_
      show oP p e below T137 (mkF m 259 #[oI p0, oR b6, oI (20 : Int32), oR (a_DATE_GREATER_THAN_EQUALS Z), oI (0 : Int32), oI (0 : Int32), oR (a_DATE_GREATER_THAN_EQUALS Z)] [(.int (0 : Int32))]) _
      refine XS.ifNo X137.here hx rfl (hb hby at_259) rfl ((if0 _ _).trans (teq (by decide : (0 : Int32) = (0 : Int32))).2) ?_
      show oP p e below T137 (mkF m 262 #[oI p0, oR b6, oI (20 : Int32), oR (a_DATE_GREATER_THAN_EQUALS Z), oI (0 : Int32), oI (0 : Int32), oR (a_DATE_GREATER_THAN_EQUALS Z)] []) _
      refine XS.iconst X137.here hx rfl (hb hby at_262) ?_
      show oP p e below T137 (mkF m 263 #[oI p0, oR b6, oI (20 : Int32), oR (a_DATE_GREATER_THAN_EQUALS Z), oI (0 : Int32), oI (0 : Int32), oR (a_DATE_GREATER_THAN_EQUALS Z)] [(.int (1 : Int32))]) _
      refine XS.goto X137.here hx rfl (pc0 := 263) (pc' := 267) rfl (hb hby at_263) (by decide) (by decide) ?_
      show oP p e below T137 (mkF m 267 #[oI p0, oR b6, oI (20 : Int32), oR (a_DATE_GREATER_THAN_EQUALS Z), oI (0 : Int32), oI (0 : Int32), oR (a_DATE_GREATER_THAN_EQUALS Z)] [(.int (1 : Int32))]) _
      exact retN X137 hx (t := .boolean) Bd.returns (by simp) (hb hby at_267) hr
    · show (some (.int (1 : Int32)) : Option Value) = some (.int (1 : Int32)) ∧ Fr n0 _ ∧ Keep h0 T137.heap []
      exact ⟨rfl, N137, Kc137⟩
  · obtain ⟨lo138, X138, N138⟩ := own_hide X52 N52
    obtain ⟨cq139, kq139, q139a, q139b, q139c⟩ := isOf hZ e52 ((e_a_BOOL hS).ext O52.2)
    obtain ⟨_, _, ⟨T139, L139, k139, n139⟩, -, X139, ⟨Lc139, hQ139, l139, y139, z139⟩, st139⟩ := X138.virtualBack hx (y := (⟨"com/example/menshen/menshen/policy/ConditionOperator", "isNegated", "()Z"⟩ : MethodName)) (z := (⟨"com/example/menshen/menshen/policy/ConditionOperator", "isNegated", "()Z"⟩ : MethodName)) hown (mvT hZ (hw _ (List.mem_of_getElem? (i := 51) rfl))) (mvT hZ (hw _ (List.mem_of_getElem? (i := 52) rfl))) (notFace_of_selects (args := #[]) (mvT hZ (hw _ (List.mem_of_getElem? (i := 54) rfl)))) (mvT hZ (hw _ (List.mem_of_getElem? (i := 54) rfl))) (mvT hZ (hw _ (List.mem_of_getElem? (i := 53) rfl))) (by decide) (backOf (W := 0) (rm1n l Z a0 hw hS [] (a_BOOL Z) h52 n0 O52 ((f_a_BOOL_negationOf hS).ext O52.2)) hZ (hw _ (List.mem_of_getElem? (i := 55) rfl)) (hw _ (List.mem_of_getElem? (i := 3) rfl)) (by decide) (by decide)) q139a q139c (g := (mkF m 220 #[oI p0, oR b6, oI (21 : Int32), oR (a_BOOL Z), oI (0 : Int32), oU, oU] [(.ref (a_BOOL Z))])) rfl (by rw [hml]; rfl) (Steps.refl _) (argsL := []) (rest := []) (lenOf pd_0 rfl) rfl (by show 2 * 0 + _ ≤ _; exact Nat.le_of_eq rfl) (hb hby at_220) (fun _ _ => ⟨rfl, e52, (by decide : 1 + 0 ≤ _), (by decide : 23 + 0 ≤ _)⟩)
    dsimp only [Pt.U, Pt.locs, Pt.cells, Pt.slots] at X139 l139 y139 z139 st139 hQ139
    subst l139 y139 z139
    obtain ⟨v139, N139q, K139q⟩ := hQ139
    have w139 : (fn1n Z (a_BOOL Z)) = (0 : Int32) := rfl
    rw [w139] at v139
    subst v139
    have N139 := Fr.app N138 N139q
    have O139 := O52.keep K139q all0
    have Kc139 := Kc52.trans K139q all0
    obtain ⟨cq140, kq140, q140a, q140b, q140c⟩ := isOf hZ rfl ((e_a_BOOL hS).ext O139.2)
    obtain ⟨_, _, ⟨T140, L140, k140, n140⟩, -, X140, ⟨Lc140, hQ140, l140, y140, z140⟩, st140⟩ := X139.virtualBack hx (y := (⟨"com/example/menshen/menshen/policy/ConditionOperator", "positive", "()Lcom/example/menshen/menshen/policy/ConditionOperator;"⟩ : MethodName)) (z := (⟨"com/example/menshen/menshen/policy/ConditionOperator", "positive", "()Lcom/example/menshen/menshen/policy/ConditionOperator;"⟩ : MethodName)) hown (mvT hZ (hw _ (List.mem_of_getElem? (i := 58) rfl))) (mvT hZ (hw _ (List.mem_of_getElem? (i := 59) rfl))) (notFace_of_selects (args := #[]) (mvT hZ (hw _ (List.mem_of_getElem? (i := 61) rfl)))) (mvT hZ (hw _ (List.mem_of_getElem? (i := 61) rfl))) (mvT hZ (hw _ (List.mem_of_getElem? (i := 60) rfl))) (by decide) (backOf (W := 0) (rm2n l Z a0 hw hS [] (a_BOOL Z) T139.heap n0 O139 ((f_a_BOOL_negationOf hS).ext O139.2)) hZ (hw _ (List.mem_of_getElem? (i := 62) rfl)) (hw _ (List.mem_of_getElem? (i := 3) rfl)) (by decide) (by decide)) q140a q140c (g := (mkF m 226 #[oI p0, oR b6, oI (21 : Int32), oR (a_BOOL Z), oI (0 : Int32), oI (0 : Int32), oU] [(.ref (a_BOOL Z))])) rfl (by rw [hml]; rfl) (Steps.refl _) (argsL := []) (rest := []) (lenOf pd_1 rfl) rfl (by show 2 * 0 + _ ≤ _; exact Nat.le_of_eq rfl) (hb hby at_226) (fun _ _ => ⟨rfl, rfl, (by decide : 1 + 0 ≤ _), (by decide : 23 + 0 ≤ _)⟩)
    dsimp only [Pt.U, Pt.locs, Pt.cells, Pt.slots] at X140 l140 y140 z140 st140 hQ140
    subst l140 y140 z140
    obtain ⟨v140, N140q, K140q⟩ := hQ140
    have w140 : (fn2n Z (a_BOOL Z)) = (a_BOOL Z) := rfl
    rw [w140] at v140
    subst v140
    have N140 := Fr.app N139 N140q
    have O140 := O139.keep K140q all0
    have Kc140 := Kc139.trans K140q all0
    obtain ⟨cq141, kq141, q141a, q141b, q141c⟩ := isOf hZ rfl ((e_a_BOOL hS).ext O140.2)
    obtain ⟨_, _, ⟨T141, L141, k141, n141⟩, -, X141, ⟨Lc141, hQ141, l141, y141, z141⟩, st141⟩ := X140.virtualBack hx (y := (⟨"com/example/menshen/menshen/policy/ConditionOperator", "isNegated", "()Z"⟩ : MethodName)) (z := (⟨"com/example/menshen/menshen/policy/ConditionOperator", "isNegated", "()Z"⟩ : MethodName)) hown (mvT hZ (hw _ (List.mem_of_getElem? (i := 51) rfl))) (mvT hZ (hw _ (List.mem_of_getElem? (i := 52) rfl))) (notFace_of_selects (args := #[]) (mvT hZ (hw _ (List.mem_of_getElem? (i := 54) rfl)))) (mvT hZ (hw _ (List.mem_of_getElem? (i := 54) rfl))) (mvT hZ (hw _ (List.mem_of_getElem? (i := 53) rfl))) (by decide) (backOf (W := 0) (rm1n l Z a0 hw hS [] (a_BOOL Z) T140.heap n0 O140 ((f_a_BOOL_negationOf hS).ext O140.2)) hZ (hw _ (List.mem_of_getElem? (i := 55) rfl)) (hw _ (List.mem_of_getElem? (i := 3) rfl)) (by decide) (by decide)) q141a q141c (g := (mkF m 256 #[oI p0, oR b6, oI (21 : Int32), oR (a_BOOL Z), oI (0 : Int32), oI (0 : Int32), oR (a_BOOL Z)] [(.ref (a_BOOL Z))])) rfl (by rw [hml]; rfl) (Steps.refl _) (argsL := []) (rest := []) (lenOf pd_0 rfl) rfl (by show 2 * 0 + _ ≤ _; exact Nat.le_of_eq rfl) (hb hby at_256) (fun _ _ => ⟨rfl, rfl, (by decide : 1 + 0 ≤ _), (by decide : 23 + 0 ≤ _)⟩)
    dsimp only [Pt.U, Pt.locs, Pt.cells, Pt.slots] at X141 l141 y141 z141 st141 hQ141
    subst l141 y141 z141
    obtain ⟨v141, N141q, K141q⟩ := hQ141
    have w141 : (fn1n Z (a_BOOL Z)) = (0 : Int32) := rfl
    rw [w141] at v141
    subst v141
    have N141 := Fr.app N140 N141q
    have O141 := O140.keep K141q all0
    have Kc141 := Kc140.trans K141q all0
    obtain ⟨fs, hr, hrun, hended, hW, hsame⟩ := X141.leave (v := some (.int (1 : Int32))) (fun h => by rw [Bd.returns] at h; cases h)
    refine ⟨_, _, pre53 _ ?_, hrun, hended, _, _, rfl, ?_, ⟨_, rfl⟩, hW, hsame.mono (by decide) (by decide)⟩
    · show oP p e below T52 (mkF m 168 #[oI p0, oR b6, oU, oU, oU, oU, oU] [(.int (21 : Int32))]) _
      refine XS.istoreN X52.here hx rfl (hb hby at_168) rfl (l' := #[oI p0, oR b6, oI (21 : Int32), oU, oU, oU, oU]) rfl ?_
      show oP p e below T52 (mkF m 169 #[oI p0, oR b6, oI (21 : Int32), oU, oU, oU, oU] []) _
      refine XS.aloadN X52.here hx rfl (hb hby at_169) rfl rfl ?_
      show oP p e below T52 (mkF m 170 #[oI p0, oR b6, oI (21 : Int32), oU, oU, oU, oU] [(.ref b6)]) _
      refine XS.iloadN X52.here hx rfl (hb hby at_170) rfl ?_
      show oP p e below T52 (mkF m 171 #[oI p0, oR b6, oI (21 : Int32), oU, oU, oU, oU] [(.int (21 : Int32)), (.ref b6)]) _
      refine own_aaload X52 hx hZ e52 V52 rfl (j := (21 : Int32)) ⟨by decide, by decide⟩ (v := (.ref (a_BOOL Z))) rfl (g := (mkF m 171 #[oI p0, oR b6, oI (21 : Int32), oU, oU, oU, oU] [(.int (21 : Int32)), (.ref b6)])) rfl rfl (hb hby at_171) _ ?_
      show oP p e below T52 (mkF m 172 #[oI p0, oR b6, oI (21 : Int32), oU, oU, oU, oU] [(.ref (a_BOOL Z))]) _
      refine XS.astoreN X52.here hx rfl (hb hby at_172) rfl rfl (l' := #[oI p0, oR b6, oI (21 : Int32), oR (a_BOOL Z), oU, oU, oU]) rfl ?_
      show oP p e below T52 (mkF m 173 #[oI p0, oR b6, oI (21 : Int32), oR (a_BOOL Z), oU, oU, oU] []) _
      refine XS.iloadN X52.here hx rfl (hb hby at_173) rfl ?_
      show oP p e below T52 (mkF m 174 #[oI p0, oR b6, oI (21 : Int32), oR (a_BOOL Z), oU, oU, oU] [(.int (21 : Int32))]) _
      refine XS.iconst X52.here hx rfl (hb hby at_174) ?_
      show oP p e below T52 (mkF m 175 #[oI p0, oR b6, oI (21 : Int32), oR (a_BOOL Z), oU, oU, oU] [(.int (1 : Int32)), (.int (21 : Int32))]) _
      refine XS.icmpNo X52.here hx rfl (hb hby at_175) rfl (feq (by decide : ¬ ((21 : Int32) = (1 : Int32)))).1 ?_
      show oP p e below T52 (mkF m 178 #[oI p0, oR b6, oI (21 : Int32), oR (a_BOOL Z), oU, oU, oU] []) _
      refine XS.iloadN X52.here hx rfl (hb hby at_178) rfl ?_
      show oP p e below T52 (mkF m 179 #[oI p0, oR b6, oI (21 : Int32), oR (a_BOOL Z), oU, oU, oU] [(.int (21 : Int32))]) _
      refine XS.iconst X52.here hx rfl (hb hby at_179) ?_
      show oP p e below T52 (mkF m 180 #[oI p0, oR b6, oI (21 : Int32), oR (a_BOOL Z), oU, oU, oU] [(.int (2 : Int32)), (.int (21 : Int32))]) _
      refine XS.icmpNo X52.here hx rfl (hb hby at_180) rfl (feq (by decide : ¬ ((21 : Int32) = (2 : Int32)))).1 ?_
      show oP p e below T52 (mkF m 183 #[oI p0, oR b6, oI (21 : Int32), oR (a_BOOL Z), oU, oU, oU] []) _
      refine XS.iloadN X52.here hx rfl (hb hby at_183) rfl ?_
      show oP p e below T52 (mkF m 184 #[oI p0, oR b6, oI (21 : Int32), oR (a_BOOL Z), oU, oU, oU] [(.int (21 : Int32))]) _
      refine XS.iconst X52.here hx rfl (hb hby at_184) ?_
      show oP p e below T52 (mkF m 185 #[oI p0, oR b6, oI (21 : Int32), oR (a_BOOL Z), oU, oU, oU] [(.int (4 : Int32)), (.int (21 : Int32))]) _
      refine XS.icmpNo X52.here hx rfl (hb hby at_185) rfl (feq (by decide : ¬ ((21 : Int32) = (4 : Int32)))).1 ?_
      show oP p e below T52 (mkF m 188 #[oI p0, oR b6, oI (21 : Int32), oR (a_BOOL Z), oU, oU, oU] []) _
      refine XS.iloadN X52.here hx rfl (hb hby at_188) rfl ?_
      show oP p e below T52 (mkF m 189 #[oI p0, oR b6, oI (21 : Int32), oR (a_BOOL Z), oU, oU, oU] [(.int (21 : Int32))]) _
      refine XS.bipush X52.here hx rfl (hb hby at_189) ?_
      show oP p e below T52 (mkF m 191 #[oI p0, oR b6, oI (21 : Int32), oR (a_BOOL Z), oU, oU, oU] [(.int (6 : Int32)), (.int (21 : Int32))]) _
      refine XS.icmpNo X52.here hx rfl (hb hby at_191) rfl (feq (by decide : ¬ ((21 : Int32) = (6 : Int32)))).1 ?_
      show oP p e below T52 (mkF m 194 #[oI p0, oR b6, oI (21 : Int32), oR (a_BOOL Z), oU, oU, oU] []) _
      refine XS.iloadN X52.here hx rfl (hb hby at_194) rfl ?_
      show oP p e below T52 (mkF m 195 #[oI p0, oR b6, oI (21 : Int32), oR (a_BOOL Z), oU, oU, oU] [(.int (21 : Int32))]) _
      refine XS.bipush X52.here hx rfl (hb hby at_195) ?_
      show oP p e below T52 (mkF m 197 #[oI p0, oR b6, oI (21 : Int32), oR (a_BOOL Z), oU, oU, oU] [(.int (8 : Int32)), (.int (21 : Int32))]) _
      refine XS.icmpNo X52.here hx rfl (hb hby at_197) rfl (feq (by decide : ¬ ((21 : Int32) = (8 : Int32)))).1 ?_
      show oP p e below T52 (mkF m 200 #[oI p0, oR b6, oI (21 : Int32), oR (a_BOOL Z), oU, oU, oU] []) _
      refine XS.iloadN X52.here hx rfl (hb hby at_200) rfl ?_
      show oP p e below T52 (mkF m 201 #[oI p0, oR b6, oI (21 : Int32), oR (a_BOOL Z), oU, oU, oU] [(.int (21 : Int32))]) _
      refine XS.bipush X52.here hx rfl (hb hby at_201) ?_
      show oP p e below T52 (mkF m 203 #[oI p0, oR b6, oI (21 : Int32), oR (a_BOOL Z), oU, oU, oU] [(.int (10 : Int32)), (.int (21 : Int32))]) _
      refine XS.icmpNo X52.here hx rfl (hb hby at_203) rfl (feq (by decide : ¬ ((21 : Int32) = (10 : Int32)))).1 ?_
      show oP p e below T52 (mkF m 206 #[oI p0, oR b6, oI (21 : Int32), oR (a_BOOL Z), oU, oU, oU] []) _
      refine XS.iloadN X52.here hx rfl (hb hby at_206) rfl ?_
      show oP p e below T52 (mkF m 207 #[oI p0, oR b6, oI (21 : Int32), oR (a_BOOL Z), oU, oU, oU] [(.int (21 : Int32))]) _
      refine XS.bipush X52.here hx rfl (hb hby at_207) ?_
      show oP p e below T52 (mkF m 209 #[oI p0, oR b6, oI (21 : Int32), oR (a_BOOL Z), oU, oU, oU] [(.int (16 : Int32)), (.int (21 : Int32))]) _
      refine XS.icmpYes X52.here hx rfl (pc0 := 209) (pc' := 216) rfl (hb hby at_209) rfl (feq (by decide : ¬ ((21 : Int32) = (16 : Int32)))).2 (by decide) (by decide) ?_
      show oP p e below T52 (mkF m 216 #[oI p0, oR b6, oI (21 : Int32), oR (a_BOOL Z), oU, oU, oU] []) _
      refine XS.iconst X52.here hx rfl (hb hby at_216) ?_
      show oP p e below T52 (mkF m 217 #[oI p0, oR b6, oI (21 : Int32), oR (a_BOOL Z), oU, oU, oU] [(.int (0 : Int32))]) _
      refine XS.istore X52.here hx rfl (hb hby at_217) rfl (l' := #[oI p0, oR b6, oI (21 : Int32), oR (a_BOOL Z), oI (0 : Int32), oU, oU]) rfl ?_
      show oP p e below T52 (mkF m 219 #[oI p0, oR b6, oI (21 : Int32), oR (a_BOOL Z), oI (0 : Int32), oU, oU] []) _
      refine XS.aloadN X52.here hx rfl (hb hby at_219) rfl rfl ?_
      show oP p e below T52 (mkF m 220 #[oI p0, oR b6, oI (21 : Int32), oR (a_BOOL Z), oI (0 : Int32), oU, oU] [(.ref (a_BOOL Z))]) _
      refine st139.trans ?_
      show oP p e below T139 (mkF m 223 #[oI p0, oR b6, oI (21 : Int32), oR (a_BOOL Z), oI (0 : Int32), oU, oU] [(.int (0 : Int32))]) _
      refine XS.istore X139.here hx rfl (hb hby at_223) rfl (l' := #[oI p0, oR b6, oI (21 : Int32), oR (a_BOOL Z), oI (0 : Int32), oI (0 : Int32), oU]) rfl ?_
      show oP p e below T139 (mkF m 225 #[oI p0, oR b6, oI (21 : Int32), oR (a_BOOL Z), oI (0 : Int32), oI (0 : Int32), oU] []) _
      refine XS.aloadN X139.here hx rfl (hb hby at_225) rfl rfl ?_
      show oP p e below T139 (mkF m 226 #[oI p0, oR b6, oI (21 : Int32), oR (a_BOOL Z), oI (0 : Int32), oI (0 : Int32), oU] [(.ref (a_BOOL Z))]) _
      refine st140.trans ?_
      show oP p e below T140 (mkF m 229 #[oI p0, oR b6, oI (21 : Int32), oR (a_BOOL Z), oI (0 : Int32), oI (0 : Int32), oU] [(.ref (a_BOOL Z))]) _
      refine XS.astore X140.here hx rfl (hb hby at_229) rfl rfl (l' := #[oI p0, oR b6, oI (21 : Int32), oR (a_BOOL Z), oI (0 : Int32), oI (0 : Int32), oR (a_BOOL Z)]) rfl ?_
      show oP p e below T140 (mkF m 231 #[oI p0, oR b6, oI (21 : Int32), oR (a_BOOL Z), oI (0 : Int32), oI (0 : Int32), oR (a_BOOL Z)] []) _
      refine XS.iload X140.here hx rfl (hb hby at_231) rfl ?_
      show oP p e below T140 (mkF m 233 #[oI p0, oR b6, oI (21 : Int32), oR (a_BOOL Z), oI (0 : Int32), oI (0 : Int32), oR (a_BOOL Z)] [(.int (0 : Int32))]) _
      refine XS.iload X140.here hx rfl (hb hby at_233) rfl ?_
      show oP p e below T140 (mkF m 235 #[oI p0, oR b6, oI (21 : Int32), oR (a_BOOL Z), oI (0 : Int32), oI (0 : Int32), oR (a_BOOL Z)] [(.int (0 : Int32)), (.int (0 : Int32))]) _
      refine XS.icmpNo X140.here hx rfl (hb hby at_235) rfl (teq (by decide : (0 : Int32) = (0 : Int32))).2 ?_
      show oP p e below T140 (mkF m 238 #[oI p0, oR b6, oI (21 : Int32), oR (a_BOOL Z), oI (0 : Int32), oI (0 : Int32), oR (a_BOOL Z)] []) _
      refine XS.iload X140.here hx rfl (hb hby at_238) rfl ?_
      show oP p e below T140 (mkF m 240 #[oI p0, oR b6, oI (21 : Int32), oR (a_BOOL Z), oI (0 : Int32), oI (0 : Int32), oR (a_BOOL Z)] [(.int (0 : Int32))]) _
      refine XS.aload X140.here hx rfl (hb hby at_240) rfl rfl ?_
      show oP p e below T140 (mkF m 242 #[oI p0, oR b6, oI (21 : Int32), oR (a_BOOL Z), oI (0 : Int32), oI (0 : Int32), oR (a_BOOL Z)] [(.ref (a_BOOL Z)), (.int (0 : Int32))]) _
      refine XS.aloadN X140.here hx rfl (hb hby at_242) rfl rfl ?_
      show oP p e below T140 (mkF m 243 #[oI p0, oR b6, oI (21 : Int32), oR (a_BOOL Z), oI (0 : Int32), oI (0 : Int32), oR (a_BOOL Z)] [(.ref (a_BOOL Z)), (.ref (a_BOOL Z)), (.int (0 : Int32))]) _
      refine Jvm.RoadKit.acmp (g := (mkF m 243 #[oI p0, oR b6, oI (21 : Int32), oR (a_BOOL Z), oI (0 : Int32), oI (0 : Int32), oR (a_BOOL Z)] [(.ref (a_BOOL Z)), (.ref (a_BOOL Z)), (.int (0 : Int32))])) X140 hx rfl rfl rfl (pc0 := 243) (pc' := 250) (same := true) rfl (hb hby at_243) rfl (decide_eq_true (congrArg Value.ref (rfl : (a_BOOL Z) = (a_BOOL Z)))) (by decide) (by decide) ?_
      show oP p e below T140 (mkF m 250 #[oI p0, oR b6, oI (21 : Int32), oR (a_BOOL Z), oI (0 : Int32), oI (0 : Int32), oR (a_BOOL Z)] [(.int (0 : Int32))]) _
      refine XS.iconst X140.here hx rfl (hb hby at_250) ?_
      show oP p e below T140 (mkF m 251 #[oI p0, oR b6, oI (21 : Int32), oR (a_BOOL Z), oI (0 : Int32), oI (0 : Int32), oR (a_BOOL Z)] [(.int (0 : Int32)), (.int (0 : Int32))]) _
      refine XS.icmpNo X140.here hx rfl (hb hby at_251) rfl (teq (by decide : (0 : Int32) = (0 : Int32))).2 ?_
      show oP p e below T140 (mkF m 254 #[oI p0, oR b6, oI (21 : Int32), oR (a_BOOL Z), oI (0 : Int32), oI (0 : Int32), oR (a_BOOL Z)] []) _
      refine XS.aload X140.here hx rfl (hb hby at_254) rfl rfl ?_
      show oP p e below T140 (mkF m 256 #[oI p0, oR b6, oI (21 : Int32), oR (a_BOOL Z), oI (0 : Int32), oI (0 : Int32), oR (a_BOOL Z)] [(.ref (a_BOOL Z))]) _
      refine st141.trans ?_
      show oP p e below T141 (mkF m 259 #[oI p0, oR b6, oI (21 : Int32), oR (a_BOOL Z), oI (0 : Int32), oI (0 : Int32), oR (a_BOOL Z)] [(.int (0 : Int32))]) _
      refine XS.ifNo X141.here hx rfl (hb hby at_259) rfl ((if0 _ _).trans (teq (by decide : (0 : Int32) = (0 : Int32))).2) ?_
      show oP p e below T141 (mkF m 262 #[oI p0, oR b6, oI (21 : Int32), oR (a_BOOL Z), oI (0 : Int32), oI (0 : Int32), oR (a_BOOL Z)] []) _
      refine XS.iconst X141.here hx rfl (hb hby at_262) ?_
      show oP p e below T141 (mkF m 263 #[oI p0, oR b6, oI (21 : Int32), oR (a_BOOL Z), oI (0 : Int32), oI (0 : Int32), oR (a_BOOL Z)] [(.int (1 : Int32))]) _
      refine XS.goto X141.here hx rfl (pc0 := 263) (pc' := 267) rfl (hb hby at_263) (by decide) (by decide) ?_
      show oP p e below T141 (mkF m 267 #[oI p0, oR b6, oI (21 : Int32), oR (a_BOOL Z), oI (0 : Int32), oI (0 : Int32), oR (a_BOOL Z)] [(.int (1 : Int32))]) _
      exact retN X141 hx (t := .boolean) Bd.returns (by simp) (hb hby at_267) hr
    · show (some (.int (1 : Int32)) : Option Value) = some (.int (1 : Int32)) ∧ Fr n0 _ ∧ Keep h0 T141.heap []
      exact ⟨rfl, N141, Kc141⟩
  · obtain ⟨lo142, X142, N142⟩ := own_hide X52 N52
    obtain ⟨cq143, kq143, q143a, q143b, q143c⟩ := isOf hZ e52 ((e_a_NULL hS).ext O52.2)
    obtain ⟨_, _, ⟨T143, L143, k143, n143⟩, -, X143, ⟨Lc143, hQ143, l143, y143, z143⟩, st143⟩ := X142.virtualBack hx (y := (⟨"com/example/menshen/menshen/policy/ConditionOperator", "isNegated", "()Z"⟩ : MethodName)) (z := (⟨"com/example/menshen/menshen/policy/ConditionOperator", "isNegated", "()Z"⟩ : MethodName)) hown (mvT hZ (hw _ (List.mem_of_getElem? (i := 51) rfl))) (mvT hZ (hw _ (List.mem_of_getElem? (i := 52) rfl))) (notFace_of_selects (args := #[]) (mvT hZ (hw _ (List.mem_of_getElem? (i := 54) rfl)))) (mvT hZ (hw _ (List.mem_of_getElem? (i := 54) rfl))) (mvT hZ (hw _ (List.mem_of_getElem? (i := 53) rfl))) (by decide) (backOf (W := 0) (rm1n l Z a0 hw hS [] (a_NULL Z) h52 n0 O52 ((f_a_NULL_negationOf hS).ext O52.2)) hZ (hw _ (List.mem_of_getElem? (i := 55) rfl)) (hw _ (List.mem_of_getElem? (i := 3) rfl)) (by decide) (by decide)) q143a q143c (g := (mkF m 220 #[oI p0, oR b6, oI (22 : Int32), oR (a_NULL Z), oI (0 : Int32), oU, oU] [(.ref (a_NULL Z))])) rfl (by rw [hml]; rfl) (Steps.refl _) (argsL := []) (rest := []) (lenOf pd_0 rfl) rfl (by show 2 * 0 + _ ≤ _; exact Nat.le_of_eq rfl) (hb hby at_220) (fun _ _ => ⟨rfl, e52, (by decide : 1 + 0 ≤ _), (by decide : 23 + 0 ≤ _)⟩)
    dsimp only [Pt.U, Pt.locs, Pt.cells, Pt.slots] at X143 l143 y143 z143 st143 hQ143
    subst l143 y143 z143
    obtain ⟨v143, N143q, K143q⟩ := hQ143
    have w143 : (fn1n Z (a_NULL Z)) = (0 : Int32) := rfl
    rw [w143] at v143
    subst v143
    have N143 := Fr.app N142 N143q
    have O143 := O52.keep K143q all0
    have Kc143 := Kc52.trans K143q all0
    obtain ⟨cq144, kq144, q144a, q144b, q144c⟩ := isOf hZ rfl ((e_a_NULL hS).ext O143.2)
    obtain ⟨_, _, ⟨T144, L144, k144, n144⟩, -, X144, ⟨Lc144, hQ144, l144, y144, z144⟩, st144⟩ := X143.virtualBack hx (y := (⟨"com/example/menshen/menshen/policy/ConditionOperator", "positive", "()Lcom/example/menshen/menshen/policy/ConditionOperator;"⟩ : MethodName)) (z := (⟨"com/example/menshen/menshen/policy/ConditionOperator", "positive", "()Lcom/example/menshen/menshen/policy/ConditionOperator;"⟩ : MethodName)) hown (mvT hZ (hw _ (List.mem_of_getElem? (i := 58) rfl))) (mvT hZ (hw _ (List.mem_of_getElem? (i := 59) rfl))) (notFace_of_selects (args := #[]) (mvT hZ (hw _ (List.mem_of_getElem? (i := 61) rfl)))) (mvT hZ (hw _ (List.mem_of_getElem? (i := 61) rfl))) (mvT hZ (hw _ (List.mem_of_getElem? (i := 60) rfl))) (by decide) (backOf (W := 0) (rm2n l Z a0 hw hS [] (a_NULL Z) T143.heap n0 O143 ((f_a_NULL_negationOf hS).ext O143.2)) hZ (hw _ (List.mem_of_getElem? (i := 62) rfl)) (hw _ (List.mem_of_getElem? (i := 3) rfl)) (by decide) (by decide)) q144a q144c (g := (mkF m 226 #[oI p0, oR b6, oI (22 : Int32), oR (a_NULL Z), oI (0 : Int32), oI (0 : Int32), oU] [(.ref (a_NULL Z))])) rfl (by rw [hml]; rfl) (Steps.refl _) (argsL := []) (rest := []) (lenOf pd_1 rfl) rfl (by show 2 * 0 + _ ≤ _; exact Nat.le_of_eq rfl) (hb hby at_226) (fun _ _ => ⟨rfl, rfl, (by decide : 1 + 0 ≤ _), (by decide : 23 + 0 ≤ _)⟩)
    dsimp only [Pt.U, Pt.locs, Pt.cells, Pt.slots] at X144 l144 y144 z144 st144 hQ144
    subst l144 y144 z144
    obtain ⟨v144, N144q, K144q⟩ := hQ144
    have w144 : (fn2n Z (a_NULL Z)) = (a_NULL Z) := rfl
    rw [w144] at v144
    subst v144
    have N144 := Fr.app N143 N144q
    have O144 := O143.keep K144q all0
    have Kc144 := Kc143.trans K144q all0
    obtain ⟨cq145, kq145, q145a, q145b, q145c⟩ := isOf hZ rfl ((e_a_NULL hS).ext O144.2)
    obtain ⟨_, _, ⟨T145, L145, k145, n145⟩, -, X145, ⟨Lc145, hQ145, l145, y145, z145⟩, st145⟩ := X144.virtualBack hx (y := (⟨"com/example/menshen/menshen/policy/ConditionOperator", "isNegated", "()Z"⟩ : MethodName)) (z := (⟨"com/example/menshen/menshen/policy/ConditionOperator", "isNegated", "()Z"⟩ : MethodName)) hown (mvT hZ (hw _ (List.mem_of_getElem? (i := 51) rfl))) (mvT hZ (hw _ (List.mem_of_getElem? (i := 52) rfl))) (notFace_of_selects (args := #[]) (mvT hZ (hw _ (List.mem_of_getElem? (i := 54) rfl)))) (mvT hZ (hw _ (List.mem_of_getElem? (i := 54) rfl))) (mvT hZ (hw _ (List.mem_of_getElem? (i := 53) rfl))) (by decide) (backOf (W := 0) (rm1n l Z a0 hw hS [] (a_NULL Z) T144.heap n0 O144 ((f_a_NULL_negationOf hS).ext O144.2)) hZ (hw _ (List.mem_of_getElem? (i := 55) rfl)) (hw _ (List.mem_of_getElem? (i := 3) rfl)) (by decide) (by decide)) q145a q145c (g := (mkF m 256 #[oI p0, oR b6, oI (22 : Int32), oR (a_NULL Z), oI (0 : Int32), oI (0 : Int32), oR (a_NULL Z)] [(.ref (a_NULL Z))])) rfl (by rw [hml]; rfl) (Steps.refl _) (argsL := []) (rest := []) (lenOf pd_0 rfl) rfl (by show 2 * 0 + _ ≤ _; exact Nat.le_of_eq rfl) (hb hby at_256) (fun _ _ => ⟨rfl, rfl, (by decide : 1 + 0 ≤ _), (by decide : 23 + 0 ≤ _)⟩)
    dsimp only [Pt.U, Pt.locs, Pt.cells, Pt.slots] at X145 l145 y145 z145 st145 hQ145
    subst l145 y145 z145
    obtain ⟨v145, N145q, K145q⟩ := hQ145
    have w145 : (fn1n Z (a_NULL Z)) = (0 : Int32) := rfl
    rw [w145] at v145
    subst v145
    have N145 := Fr.app N144 N145q
    have O145 := O144.keep K145q all0
    have Kc145 := Kc144.trans K145q all0
    obtain ⟨fs, hr, hrun, hended, hW, hsame⟩ := X145.leave (v := some (.int (1 : Int32))) (fun h => by rw [Bd.returns] at h; cases h)
    refine ⟨_, _, pre53 _ ?_, hrun, hended, _, _, rfl, ?_, ⟨_, rfl⟩, hW, hsame.mono (by decide) (by decide)⟩
    · show oP p e below T52 (mkF m 168 #[oI p0, oR b6, oU, oU, oU, oU, oU] [(.int (22 : Int32))]) _
      refine XS.istoreN X52.here hx rfl (hb hby at_168) rfl (l' := #[oI p0, oR b6, oI (22 : Int32), oU, oU, oU, oU]) rfl ?_
      show oP p e below T52 (mkF m 169 #[oI p0, oR b6, oI (22 : Int32), oU, oU, oU, oU] []) _
      refine XS.aloadN X52.here hx rfl (hb hby at_169) rfl rfl ?_
      show oP p e below T52 (mkF m 170 #[oI p0, oR b6, oI (22 : Int32), oU, oU, oU, oU] [(.ref b6)]) _
      refine XS.iloadN X52.here hx rfl (hb hby at_170) rfl ?_
      show oP p e below T52 (mkF m 171 #[oI p0, oR b6, oI (22 : Int32), oU, oU, oU, oU] [(.int (22 : Int32)), (.ref b6)]) _
      refine own_aaload X52 hx hZ e52 V52 rfl (j := (22 : Int32)) ⟨by decide, by decide⟩ (v := (.ref (a_NULL Z))) rfl (g := (mkF m 171 #[oI p0, oR b6, oI (22 : Int32), oU, oU, oU, oU] [(.int (22 : Int32)), (.ref b6)])) rfl rfl (hb hby at_171) _ ?_
      show oP p e below T52 (mkF m 172 #[oI p0, oR b6, oI (22 : Int32), oU, oU, oU, oU] [(.ref (a_NULL Z))]) _
      refine XS.astoreN X52.here hx rfl (hb hby at_172) rfl rfl (l' := #[oI p0, oR b6, oI (22 : Int32), oR (a_NULL Z), oU, oU, oU]) rfl ?_
      show oP p e below T52 (mkF m 173 #[oI p0, oR b6, oI (22 : Int32), oR (a_NULL Z), oU, oU, oU] []) _
      refine XS.iloadN X52.here hx rfl (hb hby at_173) rfl ?_
      show oP p e below T52 (mkF m 174 #[oI p0, oR b6, oI (22 : Int32), oR (a_NULL Z), oU, oU, oU] [(.int (22 : Int32))]) _
      refine XS.iconst X52.here hx rfl (hb hby at_174) ?_
      show oP p e below T52 (mkF m 175 #[oI p0, oR b6, oI (22 : Int32), oR (a_NULL Z), oU, oU, oU] [(.int (1 : Int32)), (.int (22 : Int32))]) _
      refine XS.icmpNo X52.here hx rfl (hb hby at_175) rfl (feq (by decide : ¬ ((22 : Int32) = (1 : Int32)))).1 ?_
      show oP p e below T52 (mkF m 178 #[oI p0, oR b6, oI (22 : Int32), oR (a_NULL Z), oU, oU, oU] []) _
      refine XS.iloadN X52.here hx rfl (hb hby at_178) rfl ?_
      show oP p e below T52 (mkF m 179 #[oI p0, oR b6, oI (22 : Int32), oR (a_NULL Z), oU, oU, oU] [(.int (22 : Int32))]) _
      refine XS.iconst X52.here hx rfl (hb hby at_179) ?_
      show oP p e below T52 (mkF m 180 #[oI p0, oR b6, oI (22 : Int32), oR (a_NULL Z), oU, oU, oU] [(.int (2 : Int32)), (.int (22 : Int32))]) _
      refine XS.icmpNo X52.here hx rfl (hb hby at_180) rfl (feq (by decide : ¬ ((22 : Int32) = (2 : Int32)))).1 ?_
      show oP p e below T52 (mkF m 183 #[oI p0, oR b6, oI (22 : Int32), oR (a_NULL Z), oU, oU, oU] []) _
      refine XS.iloadN X52.here hx rfl (hb hby at_183) rfl ?_
      show oP p e below T52 (mkF m 184 #[oI p0, oR b6, oI (22 : Int32), oR (a_NULL Z), oU, oU, oU] [(.int (22 : Int32))]) _
      refine XS.iconst X52.here hx rfl (hb hby at_184) ?_
      show oP p e below T52 (mkF m 185 #[oI p0, oR b6, oI (22 : Int32), oR (a_NULL Z), oU, oU, oU] [(.int (4 : Int32)), (.int (22 : Int32))]) _
      refine XS.icmpNo X52.here hx rfl (hb hby at_185) rfl (feq (by decide : ¬ ((22 : Int32) = (4 : Int32)))).1 ?_
      show oP p e below T52 (mkF m 188 #[oI p0, oR b6, oI (22 : Int32), oR (a_NULL Z), oU, oU, oU] []) _
      refine XS.iloadN X52.here hx rfl (hb hby at_188) rfl ?_
      show oP p e below T52 (mkF m 189 #[oI p0, oR b6, oI (22 : Int32), oR (a_NULL Z), oU, oU, oU] [(.int (22 : Int32))]) _
      refine XS.bipush X52.here hx rfl (hb hby at_189) ?_
      show oP p e below T52 (mkF m 191 #[oI p0, oR b6, oI (22 : Int32), oR (a_NULL Z), oU, oU, oU] [(.int (6 : Int32)), (.int (22 : Int32))]) _
      refine XS.icmpNo X52.here hx rfl (hb hby at_191) rfl (feq (by decide : ¬ ((22 : Int32) = (6 : Int32)))).1 ?_
      show oP p e below T52 (mkF m 194 #[oI p0, oR b6, oI (22 : Int32), oR (a_NULL Z), oU, oU, oU] []) _
      refine XS.iloadN X52.here hx rfl (hb hby at_194) rfl ?_
      show oP p e below T52 (mkF m 195 #[oI p0, oR b6, oI (22 : Int32), oR (a_NULL Z), oU, oU, oU] [(.int (22 : Int32))]) _
      refine XS.bipush X52.here hx rfl (hb hby at_195) ?_
      show oP p e below T52 (mkF m 197 #[oI p0, oR b6, oI (22 : Int32), oR (a_NULL Z), oU, oU, oU] [(.int (8 : Int32)), (.int (22 : Int32))]) _
      refine XS.icmpNo X52.here hx rfl (hb hby at_197) rfl (feq (by decide : ¬ ((22 : Int32) = (8 : Int32)))).1 ?_
      show oP p e below T52 (mkF m 200 #[oI p0, oR b6, oI (22 : Int32), oR (a_NULL Z), oU, oU, oU] []) _
      refine XS.iloadN X52.here hx rfl (hb hby at_200) rfl ?_
      show oP p e below T52 (mkF m 201 #[oI p0, oR b6, oI (22 : Int32), oR (a_NULL Z), oU, oU, oU] [(.int (22 : Int32))]) _
      refine XS.bipush X52.here hx rfl (hb hby at_201) ?_
      show oP p e below T52 (mkF m 203 #[oI p0, oR b6, oI (22 : Int32), oR (a_NULL Z), oU, oU, oU] [(.int (10 : Int32)), (.int (22 : Int32))]) _
      refine XS.icmpNo X52.here hx rfl (hb hby at_203) rfl (feq (by decide : ¬ ((22 : Int32) = (10 : Int32)))).1 ?_
      show oP p e below T52 (mkF m 206 #[oI p0, oR b6, oI (22 : Int32), oR (a_NULL Z), oU, oU, oU] []) _
      refine XS.iloadN X52.here hx rfl (hb hby at_206) rfl ?_
      show oP p e below T52 (mkF m 207 #[oI p0, oR b6, oI (22 : Int32), oR (a_NULL Z), oU, oU, oU] [(.int (22 : Int32))]) _
      refine XS.bipush X52.here hx rfl (hb hby at_207) ?_
      show oP p e below T52 (mkF m 209 #[oI p0, oR b6, oI (22 : Int32), oR (a_NULL Z), oU, oU, oU] [(.int (16 : Int32)), (.int (22 : Int32))]) _
      refine XS.icmpYes X52.here hx rfl (pc0 := 209) (pc' := 216) rfl (hb hby at_209) rfl (feq (by decide : ¬ ((22 : Int32) = (16 : Int32)))).2 (by decide) (by decide) ?_
      show oP p e below T52 (mkF m 216 #[oI p0, oR b6, oI (22 : Int32), oR (a_NULL Z), oU, oU, oU] []) _
      refine XS.iconst X52.here hx rfl (hb hby at_216) ?_
      show oP p e below T52 (mkF m 217 #[oI p0, oR b6, oI (22 : Int32), oR (a_NULL Z), oU, oU, oU] [(.int (0 : Int32))]) _
      refine XS.istore X52.here hx rfl (hb hby at_217) rfl (l' := #[oI p0, oR b6, oI (22 : Int32), oR (a_NULL Z), oI (0 : Int32), oU, oU]) rfl ?_
      show oP p e below T52 (mkF m 219 #[oI p0, oR b6, oI (22 : Int32), oR (a_NULL Z), oI (0 : Int32), oU, oU] []) _
      refine XS.aloadN X52.here hx rfl (hb hby at_219) rfl rfl ?_
      show oP p e below T52 (mkF m 220 #[oI p0, oR b6, oI (22 : Int32), oR (a_NULL Z), oI (0 : Int32), oU, oU] [(.ref (a_NULL Z))]) _
      refine st143.trans ?_
      show oP p e below T143 (mkF m 223 #[oI p0, oR b6, oI (22 : Int32), oR (a_NULL Z), oI (0 : Int32), oU, oU] [(.int (0 : Int32))]) _
      refine XS.istore X143.here hx rfl (hb hby at_223) rfl (l' := #[oI p0, oR b6, oI (22 : Int32), oR (a_NULL Z), oI (0 : Int32), oI (0 : Int32), oU]) rfl ?_
      show oP p e below T143 (mkF m 225 #[oI p0, oR b6, oI (22 : Int32), oR (a_NULL Z), oI (0 : Int32), oI (0 : Int32), oU] []) _
      refine XS.aloadN X143.here hx rfl (hb hby at_225) rfl rfl ?_
      show oP p e below T143 (mkF m 226 #[oI p0, oR b6, oI (22 : Int32), oR (a_NULL Z), oI (0 : Int32), oI (0 : Int32), oU] [(.ref (a_NULL Z))]) _
      refine st144.trans ?_
      show oP p e below T144 (mkF m 229 #[oI p0, oR b6, oI (22 : Int32), oR (a_NULL Z), oI (0 : Int32), oI (0 : Int32), oU] [(.ref (a_NULL Z))]) _
      refine XS.astore X144.here hx rfl (hb hby at_229) rfl rfl (l' := #[oI p0, oR b6, oI (22 : Int32), oR (a_NULL Z), oI (0 : Int32), oI (0 : Int32), oR (a_NULL Z)]) rfl ?_
      show oP p e below T144 (mkF m 231 #[oI p0, oR b6, oI (22 : Int32), oR (a_NULL Z), oI (0 : Int32), oI (0 : Int32), oR (a_NULL Z)] []) _
      refine XS.iload X144.here hx rfl (hb hby at_231) rfl ?_
      show oP p e below T144 (mkF m 233 #[oI p0, oR b6, oI (22 : Int32), oR (a_NULL Z), oI (0 : Int32), oI (0 : Int32), oR (a_NULL Z)] [(.int (0 : Int32))]) _
      refine XS.iload X144.here hx rfl (hb hby at_233) rfl ?_
      show oP p e below T144 (mkF m 235 #[oI p0, oR b6, oI (22 : Int32), oR (a_NULL Z), oI (0 : Int32), oI (0 : Int32), oR (a_NULL Z)] [(.int (0 : Int32)), (.int (0 : Int32))]) _
      refine XS.icmpNo X144.here hx rfl (hb hby at_235) rfl (teq (by decide : (0 : Int32) = (0 : Int32))).2 ?_
      show oP p e below T144 (mkF m 238 #[oI p0, oR b6, oI (22 : Int32), oR (a_NULL Z), oI (0 : Int32), oI (0 : Int32), oR (a_NULL Z)] []) _
      refine XS.iload X144.here hx rfl (hb hby at_238) rfl ?_
      show oP p e below T144 (mkF m 240 #[oI p0, oR b6, oI (22 : Int32), oR (a_NULL Z), oI (0 : Int32), oI (0 : Int32), oR (a_NULL Z)] [(.int (0 : Int32))]) _
      refine XS.aload X144.here hx rfl (hb hby at_240) rfl rfl ?_
      show oP p e below T144 (mkF m 242 #[oI p0, oR b6, oI (22 : Int32), oR (a_NULL Z), oI (0 : Int32), oI (0 : Int32), oR (a_NULL Z)] [(.ref (a_NULL Z)), (.int (0 : Int32))]) _
      refine XS.aloadN X144.here hx rfl (hb hby at_242) rfl rfl ?_
      show oP p e below T144 (mkF m 243 #[oI p0, oR b6, oI (22 : Int32), oR (a_NULL Z), oI (0 : Int32), oI (0 : Int32), oR (a_NULL Z)] [(.ref (a_NULL Z)), (.ref (a_NULL Z)), (.int (0 : Int32))]) _
      refine Jvm.RoadKit.acmp (g := (mkF m 243 #[oI p0, oR b6, oI (22 : Int32), oR (a_NULL Z), oI (0 : Int32), oI (0 : Int32), oR (a_NULL Z)] [(.ref (a_NULL Z)), (.ref (a_NULL Z)), (.int (0 : Int32))])) X144 hx rfl rfl rfl (pc0 := 243) (pc' := 250) (same := true) rfl (hb hby at_243) rfl (decide_eq_true (congrArg Value.ref (rfl : (a_NULL Z) = (a_NULL Z)))) (by decide) (by decide) ?_
      show oP p e below T144 (mkF m 250 #[oI p0, oR b6, oI (22 : Int32), oR (a_NULL Z), oI (0 : Int32), oI (0 : Int32), oR (a_NULL Z)] [(.int (0 : Int32))]) _
      refine XS.iconst X144.here hx rfl (hb hby at_250) ?_
      show oP p e below T144 (mkF m 251 #[oI p0, oR b6, oI (22 : Int32), oR (a_NULL Z), oI (0 : Int32), oI (0 : Int32), oR (a_NULL Z)] [(.int (0 : Int32)), (.int (0 : Int32))]) _
      refine XS.icmpNo X144.here hx rfl (hb hby at_251) rfl (teq (by decide : (0 : Int32) = (0 : Int32))).2 ?_
      show oP p e below T144 (mkF m 254 #[oI p0, oR b6, oI (22 : Int32), oR (a_NULL Z), oI (0 : Int32), oI (0 : Int32), oR (a_NULL Z)] []) _
      refine XS.aload X144.here hx rfl (hb hby at_254) rfl rfl ?_
      show oP p e below T144 (mkF m 256 #[oI p0, oR b6, oI (22 : Int32), oR (a_NULL Z), oI (0 : Int32), oI (0 : Int32), oR (a_NULL Z)] [(.ref (a_NULL Z))]) _
      refine st145.trans ?_
      show oP p e below T145 (mkF m 259 #[oI p0, oR b6, oI (22 : Int32), oR (a_NULL Z), oI (0 : Int32), oI (0 : Int32), oR (a_NULL Z)] [(.int (0 : Int32))]) _
      refine XS.ifNo X145.here hx rfl (hb hby at_259) rfl ((if0 _ _).trans (teq (by decide : (0 : Int32) = (0 : Int32))).2) ?_
      show oP p e below T145 (mkF m 262 #[oI p0, oR b6, oI (22 : Int32), oR (a_NULL Z), oI (0 : Int32), oI (0 : Int32), oR (a_NULL Z)] []) _
      refine XS.iconst X145.here hx rfl (hb hby at_262) ?_
      show oP p e below T145 (mkF m 263 #[oI p0, oR b6, oI (22 : Int32), oR (a_NULL Z), oI (0 : Int32), oI (0 : Int32), oR (a_NULL Z)] [(.int (1 : Int32))]) _
      refine XS.goto X145.here hx rfl (pc0 := 263) (pc' := 267) rfl (hb hby at_263) (by decide) (by decide) ?_
      show oP p e below T145 (mkF m 267 #[oI p0, oR b6, oI (22 : Int32), oR (a_NULL Z), oI (0 : Int32), oI (0 : Int32), oR (a_NULL Z)] [(.int (1 : Int32))]) _
      exact retN X145 hx (t := .boolean) Bd.returns (by simp) (hb hby at_267) hr
    · show (some (.int (1 : Int32)) : Option Value) = some (.int (1 : Int32)) ∧ Fr n0 _ ∧ Keep h0 T145.heap []
      exact ⟨rfl, N145, Kc145⟩
set_option maxRecDepth 65536 in
set_option maxHeartbeats 40000000 in
theorem comes_1 {Post : Tables → Env → Array Value → State → Outcome → State → Prop} (hpost : ∀ tb e args s v u, (limb_1_1.after args s (.returned v) u = true ∧ limb_1_2.after args s (.returned v) u = true ∧ True) → FrameEnd s (.returned v) u (Jvm.fieldLocs frame_1_writes args s ++ Jvm.arrayLocs frame_1_arrays args s ++ Jvm.staticLocs frame_1_statics s) 16 128 → Post tb e args s (.returned v) u) :
    ArmFor flags0 classFile x code maxLocals ret World_1 tables_1 room_1 Calls_1 rest_1 Pre_1 Post := by
  intro l hfl _ _ p e ha hc hk s m args below hf hA hF happ hP
  obtain ⟨hcalls, hrest, hpre⟩ := hP
  obtain ⟨-, -, -, hnamed, -, -, -, hat⟩ := (Spec.applies_iff hf).mp happ
  obtain ⟨hg, hn⟩ := and_e (Cond.before_iff.mp (show (Jvm.Cond.and given_1 narrow_1).before args s = true from hpre))
  obtain ⟨g1, g2⟩ := and_e hg
  obtain ⟨w0, rfl⟩ : ∃ w0 : Value, args = #[w0] := by
    have hs : args.size = 1 := by simpa [Cond.value, given_1] using g1
    obtain ⟨L⟩ := args
    match L, hs with
    | [w0], _ => exact ⟨w0, rfl⟩
  have hw := fun d (hd : d ∈ tables_1) => atoms_spec (ws := Jvm.Cond.code x code maxLocals ret :: tables_1) hat d (List.mem_cons_of_mem _ hd)
  have hfit : Fit s := fun {y c} hc i hi => by
    obtain ⟨ha, rfl⟩ := Array.getElem?_eq_some_iff.mp hc
    have q := List.all_eq_true.mp ((Array.all_eq_true_iff_forall_mem.mp hF) _ (Array.getElem_mem ha)) i (List.mem_range.mpr hi)
    simpa [Array.getElem?_eq_getElem hi] using q
  obtain ⟨i0, ei0⟩ := is_v g2
  obtain rfl : w0 = (.int i0) := Option.some.inj ei0
  obtain ⟨q0, hn0⟩ := and_e hn
  obtain ⟨q1, hn1⟩ := and_e hn0
  obtain ⟨q2, hn2⟩ := and_e hn1
  obtain ⟨q3, hn3⟩ := and_e hn2
  obtain ⟨q4, hn4⟩ := and_e hn3
  obtain ⟨q5, hn5⟩ := and_e hn4
  obtain ⟨q6, hn6⟩ := and_e hn5
  obtain ⟨q7, hn7⟩ := and_e hn6
  obtain ⟨q8, hn8⟩ := and_e hn7
  obtain ⟨q9, hn9⟩ := and_e hn8
  obtain ⟨q10, hn10⟩ := and_e hn9
  obtain ⟨q11, hn11⟩ := and_e hn10
  obtain ⟨q12, hn12⟩ := and_e hn11
  obtain ⟨q13, hn13⟩ := and_e hn12
  obtain ⟨q14, hn14⟩ := and_e hn13
  obtain ⟨q15, hn15⟩ := and_e hn14
  obtain ⟨q16, hn16⟩ := and_e hn15
  obtain ⟨q17, hn17⟩ := and_e hn16
  obtain ⟨q18, hn18⟩ := and_e hn17
  obtain ⟨q19, hn19⟩ := and_e hn18
  obtain ⟨q20, hn20⟩ := and_e hn19
  obtain ⟨q21, hn21⟩ := and_e hn20
  obtain ⟨q22, hn22⟩ := and_e hn21
  obtain ⟨q23, hn23⟩ := and_e hn22
  obtain ⟨q24, hn24⟩ := and_e hn23
  obtain ⟨q25, hn25⟩ := and_e hn24
  obtain ⟨q26, hn26⟩ := and_e hn25
  obtain ⟨q27, hn27⟩ := and_e hn26
  obtain ⟨q28, hn28⟩ := and_e hn27
  obtain ⟨q29, hn29⟩ := and_e hn28
  obtain ⟨q30, hn30⟩ := and_e hn29
  obtain ⟨q31, hn31⟩ := and_e hn30
  obtain ⟨q32, hn32⟩ := and_e hn31
  obtain ⟨q33, hn33⟩ := and_e hn32
  obtain ⟨q34, hn34⟩ := and_e hn33
  obtain ⟨q35, hn35⟩ := and_e hn34
  obtain ⟨q36, hn36⟩ := and_e hn35
  obtain ⟨q37, hn37⟩ := and_e hn36
  obtain ⟨q38, hn38⟩ := and_e hn37
  obtain ⟨q39, hn39⟩ := and_e hn38
  obtain ⟨q40, hn40⟩ := and_e hn39
  obtain ⟨q41, hn41⟩ := and_e hn40
  obtain ⟨q42, hn42⟩ := and_e hn41
  obtain ⟨q43, hn43⟩ := and_e hn42
  obtain ⟨q44, hn44⟩ := and_e hn43
  obtain ⟨q45, hn45⟩ := and_e hn44
  obtain ⟨q46, hn46⟩ := and_e hn45
  obtain ⟨q47, hn47⟩ := and_e hn46
  obtain ⟨q48, hn48⟩ := and_e hn47
  obtain ⟨q49, hn49⟩ := and_e hn48
  obtain ⟨q50, hn50⟩ := and_e hn49
  obtain ⟨q51, hn51⟩ := and_e hn50
  obtain ⟨q52, hn52⟩ := and_e hn51
  obtain ⟨q53, hn53⟩ := and_e hn52
  obtain ⟨q54, hn54⟩ := and_e hn53
  obtain ⟨q55, hn55⟩ := and_e hn54
  obtain ⟨q56, hn56⟩ := and_e hn55
  obtain ⟨q57, hn57⟩ := and_e hn56
  have q58 := hn57
  have hS : St s := ⟨(own_sta q0 (Or.inr ⟨(hw _ (List.mem_of_getElem? (i := 3) rfl)), (hw _ (List.mem_of_getElem? (i := 4) rfl))⟩)), (own_exa q0), (own_sta q1 (Or.inr ⟨(hw _ (List.mem_of_getElem? (i := 3) rfl)), (hw _ (List.mem_of_getElem? (i := 7) rfl))⟩)), (own_exa q1), (own_sta q2 (Or.inr ⟨(hw _ (List.mem_of_getElem? (i := 3) rfl)), (hw _ (List.mem_of_getElem? (i := 9) rfl))⟩)), (own_exa q2), (own_sta q3 (Or.inr ⟨(hw _ (List.mem_of_getElem? (i := 3) rfl)), (hw _ (List.mem_of_getElem? (i := 11) rfl))⟩)), (own_exa q3), (own_sta q4 (Or.inr ⟨(hw _ (List.mem_of_getElem? (i := 3) rfl)), (hw _ (List.mem_of_getElem? (i := 13) rfl))⟩)), (own_exa q4), (own_sta q5 (Or.inr ⟨(hw _ (List.mem_of_getElem? (i := 3) rfl)), (hw _ (List.mem_of_getElem? (i := 15) rfl))⟩)), (own_exa q5), (own_sta q6 (Or.inr ⟨(hw _ (List.mem_of_getElem? (i := 3) rfl)), (hw _ (List.mem_of_getElem? (i := 17) rfl))⟩)), (own_exa q6), (own_sta q7 (Or.inr ⟨(hw _ (List.mem_of_getElem? (i := 3) rfl)), (hw _ (List.mem_of_getElem? (i := 19) rfl))⟩)), (own_exa q7), (own_sta q8 (Or.inr ⟨(hw _ (List.mem_of_getElem? (i := 3) rfl)), (hw _ (List.mem_of_getElem? (i := 21) rfl))⟩)), (own_exa q8), (own_sta q9 (Or.inr ⟨(hw _ (List.mem_of_getElem? (i := 3) rfl)), (hw _ (List.mem_of_getElem? (i := 23) rfl))⟩)), (own_exa q9), (own_sta q10 (Or.inr ⟨(hw _ (List.mem_of_getElem? (i := 3) rfl)), (hw _ (List.mem_of_getElem? (i := 25) rfl))⟩)), (own_exa q10), (own_sta q11 (Or.inr ⟨(hw _ (List.mem_of_getElem? (i := 3) rfl)), (hw _ (List.mem_of_getElem? (i := 27) rfl))⟩)), (own_exa q11), (own_sta q12 (Or.inr ⟨(hw _ (List.mem_of_getElem? (i := 3) rfl)), (hw _ (List.mem_of_getElem? (i := 29) rfl))⟩)), (own_exa q12), (own_sta q13 (Or.inr ⟨(hw _ (List.mem_of_getElem? (i := 3) rfl)), (hw _ (List.mem_of_getElem? (i := 31) rfl))⟩)), (own_exa q13), (own_sta q14 (Or.inr ⟨(hw _ (List.mem_of_getElem? (i := 3) rfl)), (hw _ (List.mem_of_getElem? (i := 33) rfl))⟩)), (own_exa q14), (own_sta q15 (Or.inr ⟨(hw _ (List.mem_of_getElem? (i := 3) rfl)), (hw _ (List.mem_of_getElem? (i := 35) rfl))⟩)), (own_exa q15), (own_sta q16 (Or.inr ⟨(hw _ (List.mem_of_getElem? (i := 3) rfl)), (hw _ (List.mem_of_getElem? (i := 37) rfl))⟩)), (own_exa q16), (own_sta q17 (Or.inr ⟨(hw _ (List.mem_of_getElem? (i := 3) rfl)), (hw _ (List.mem_of_getElem? (i := 39) rfl))⟩)), (own_exa q17), (own_sta q18 (Or.inr ⟨(hw _ (List.mem_of_getElem? (i := 3) rfl)), (hw _ (List.mem_of_getElem? (i := 41) rfl))⟩)), (own_exa q18), (own_sta q19 (Or.inr ⟨(hw _ (List.mem_of_getElem? (i := 3) rfl)), (hw _ (List.mem_of_getElem? (i := 43) rfl))⟩)), (own_exa q19), (own_sta q20 (Or.inr ⟨(hw _ (List.mem_of_getElem? (i := 3) rfl)), (hw _ (List.mem_of_getElem? (i := 45) rfl))⟩)), (own_exa q20), (own_sta q21 (Or.inr ⟨(hw _ (List.mem_of_getElem? (i := 3) rfl)), (hw _ (List.mem_of_getElem? (i := 47) rfl))⟩)), (own_exa q21), (own_sta q22 (Or.inr ⟨(hw _ (List.mem_of_getElem? (i := 3) rfl)), (hw _ (List.mem_of_getElem? (i := 49) rfl))⟩)), (own_exa q22), (own_fldN q23), (own_fldN q24), (own_fldN q25), (own_fldN q26), (own_fldN q27), (own_fldN q28), (own_fldN q29), (own_fldS q30 (q0)), (own_fldI q31), (own_fldI q32), (own_fldS q33 (q3)), (own_fldI q34), (own_fldI q35), (own_fldS q36 (q7)), (own_fldI q37), (own_fldI q38), (own_fldS q39 (q0)), (own_fldI q40), (own_fldN q41), (own_fldS q42 (q15)), (own_fldI q43), (own_fldI q44), (own_fldN q45), (own_fldS q46 (q9)), (own_fldI q47), (own_fldI q48), (own_fldN q49), (own_fldN q50), (own_fldN q51), (own_fldN q52), (own_fldN q53), (own_fldN q54), (own_fldS q55 (q5)), (own_fldI q56), (own_fldI q57), (own_fldN q58)⟩
  obtain ⟨n, o, h1, h2, h3, _, L, rfl, ⟨rfl, N, -⟩, hq⟩ := rm0 l s _ hw hS tables_1 i0 s.heap s.heap.size (Old.start s) p e ha hc hk s m _ below hf ((Spec.applies_iff_loose hf).mp happ).1 ⟨rfl, State.Warmed39.refl s, rfl⟩ trivial
  refine ⟨n, _, h1, h2, h3, hpost _ _ _ _ _ _ ⟨Cond.after_iff.mpr rfl, Cond.after_iff.mpr (eq_i res_at (Term.int_eval (1)) rfl), trivial⟩ ⟨hq.1, hq.2.1, (hq.2.2.sift fun y hy => Or.inr (N y hy)).mono (by decide) (by decide)⟩⟩
theorem main_1_1 : Claimed_1_1 := comes_1 fun _ _ _ _ _ _ h hF => ⟨h.1, hF⟩
theorem main_1_2 : Claimed_1_2 := comes_1 fun _ _ _ _ _ _ h hF => ⟨h.2.1, hF⟩
end Jvm.Pilot.@@N@@
namespace Jvm.Pilot.@@N@@
open Jvm Jvm.ClassFile Sem Op Lib Jvm.Free Jvm.Stand Jvm.Pilot.@@N@@.Jvm.D
/-! MADE BY PROGRAM (witnessworld.py) out of the Statement's table words and the real class files: 13 classes; the members and pool entries that the words name. The judged class is class 1, her method 1. -/
namespace start1
open Jvm.ClassFile
def u (s : String) : CpInfo := .utf8 (stringToUtf16 s)
/-- a pool by its gaps: so many unusable entries, then the entry; so many at the end -/
def gap : Nat → List CpInfo → List CpInfo
  | 0, r => r
  | n + 1, r => .unusable :: gap n r
def poolList (es : List (Nat × CpInfo)) (last : Nat) : List CpInfo := es.foldr (fun e r => gap e.1 (e.2 :: r)) (gap last [])
def pool (es : List (Nat × CpInfo)) (last : Nat) : Array CpInfo := ⟨poolList es last⟩
def fileOf (pool : Array CpInfo) (this : Nat) (attrs : Array Attribute := #[]) (ms : Array MethodInfo := #[]) (fl : Nat := 33) (sup : Nat := 0) (ifs : Array Nat := #[]) (fds : Array FieldInfo := #[]) : ClassFile where
  minorVersion := 0
  majorVersion := 65
  constantPool := pool
  accessFlags := fl
  thisClass := this
  superClass := sup
  interfaces := ifs
  fields := fds
  methods := ms
  attributes := attrs
def plain (name : String) (sup : Option ClassId) : Class where
  name := name
  kind := .ordinary
  loader := none
  accessFlags := 33
  super := sup
  interfaces := #[]
  cf := none
  fields := #[]
  methods := #[]
  instanceTypes := #[]
  staticTypes := #[]
  resolved := #[]
  callSites := []
  init := .initialized
  statics := none
  mirror := none

def pool0 : Array CpInfo := pool [(5, u "<init>"), (0, u "()V"), (1, .class_ 10), (1, u "java/lang/Object")] 113

def k0m0 : Method := { name := "<init>", desc := "()V", sig := { parameters := [], returnType := none }, accessFlags := 1, code := none }
/-- java/lang/Object -/
def k0 : Class := { plain "java/lang/Object" none with
  accessFlags := 33
  interfaces := #[]
  cf := some (fileOf pool0 8 #[] #[{ accessFlags := 1, nameIndex := 5, descriptorIndex := 6, attributes := #[] }] 33 0 #[] #[])
  fields := #[]
  methods := #[k0m0]
  instanceTypes := #[]
  staticTypes := #[]
  resolved := Array.replicate 124 none
  statics := none }

def pool1 : Array CpInfo := pool [(2, .class_ 4), (1, u "java/lang/Object"), (0, u "<init>"), (0, u "()V"), (0, .class_ 8), (0, u "com/example/menshen/menshen/policy/ConditionOperator"), (0, .fieldref 7 10), (0, .nameAndType 11 12), (0, u "STRING_EQUALS"), (0, u "Lcom/example/menshen/menshen/policy/ConditionOperator;"), (0, .fieldref 7 14), (0, .nameAndType 15 12), (0, u "STRING_NOT_EQUALS"), (0, .fieldref 7 17), (0, .nameAndType 18 12), (0, u "NOT_STRING_EQUALS"), (0, .fieldref 7 20), (0, .nameAndType 21 12), (0, u "STRING_EQUALS_IGNORE_CASE"), (0, .fieldref 7 23), (0, .nameAndType 24 12), (0, u "STRING_NOT_EQUALS_IGNORE_CASE"), (0, .fieldref 7 26), (0, .nameAndType 27 12), (0, u "STRING_LIKE"), (0, .fieldref 7 29), (0, .nameAndType 30 12), (0, u "STRING_NOT_LIKE"), (0, .fieldref 7 32), (0, .nameAndType 33 12), (0, u "IP_ADDRESS"), (0, .fieldref 7 35), (0, .nameAndType 36 12), (0, u "NOT_IP_ADDRESS"), (0, .fieldref 7 38), (0, .nameAndType 39 12), (0, u "NUMERIC_EQUALS"), (0, .fieldref 7 41), (0, .nameAndType 42 12), (0, u "NUMERIC_NOT_EQUALS"), (0, .fieldref 7 44), (0, .nameAndType 45 12), (0, u "NUMERIC_LESS_THAN"), (0, .fieldref 7 47), (0, .nameAndType 48 12), (0, u "NUMERIC_LESS_THAN_EQUALS"), (0, .fieldref 7 50), (0, .nameAndType 51 12), (0, u "NUMERIC_GREATER_THAN"), (0, .fieldref 7 53), (0, .nameAndType 54 12), (0, u "NUMERIC_GREATER_THAN_EQUALS"), (0, .fieldref 7 56), (0, .nameAndType 57 12), (0, u "DATE_EQUALS"), (0, .fieldref 7 59), (0, .nameAndType 60 12), (0, u "DATE_NOT_EQUALS"), (0, .fieldref 7 62), (0, .nameAndType 63 12), (0, u "DATE_LESS_THAN"), (0, .fieldref 7 65), (0, .nameAndType 66 12), (0, u "DATE_LESS_THAN_EQUALS"), (0, .fieldref 7 68), (0, .nameAndType 69 12), (0, u "DATE_GREATER_THAN"), (0, .fieldref 7 71), (0, .nameAndType 72 12), (0, u "DATE_GREATER_THAN_EQUALS"), (0, .fieldref 7 74), (0, .nameAndType 75 12), (0, u "BOOL"), (0, .fieldref 7 77), (0, .nameAndType 78 12), (0, u "NULL"), (0, .integer 2147483647), (0, .methodref 7 81), (0, .nameAndType 82 83), (0, u "isNegated"), (0, u "()Z"), (0, .methodref 7 85), (0, .nameAndType 86 87), (0, u "positive"), (0, u "()Lcom/example/menshen/menshen/policy/ConditionOperator;"), (0, .class_ 89), (0, u "com/example/menshen/menshen/policy/ConditionOperatorIsNegatedPinLaw"), (2, u "law"), (0, u "(I)Z")] 5

def k1m0 : Method := { name := "<init>", desc := "()V", sig := { parameters := [], returnType := none }, accessFlags := 1, code := none }
def k1c1 : Code := { maxStack := 4, maxLocals := 7, code := code, exceptionTable := #[], attributes := #[] }
def k1m1 : Method := { name := "law", desc := "(I)Z", sig := { parameters := [.int], returnType := some .boolean }, accessFlags := 9, code := some k1c1 }
/-- com/example/menshen/menshen/policy/ConditionOperatorIsNegatedPinLaw -/
def k1 : Class := { plain "com/example/menshen/menshen/policy/ConditionOperatorIsNegatedPinLaw" (some 0) with
  accessFlags := 49
  interfaces := #[]
  cf := some (fileOf pool1 88 #[] #[{ accessFlags := 1, nameIndex := 5, descriptorIndex := 6, attributes := #[] }, { accessFlags := 9, nameIndex := 92, descriptorIndex := 93, attributes := #[] }] 49 2 #[] #[])
  fields := #[]
  methods := #[k1m0, k1m1]
  instanceTypes := #[]
  staticTypes := #[]
  resolved := Array.replicate 99 none
  statics := none }

def pool2 : Array CpInfo := pool [(1, .class_ 2), (0, u "java/lang/constant/Constable"), (0, .class_ 4), (0, u "java/lang/Object")] 6

/-- java/lang/constant/Constable -/
def k2 : Class := { plain "java/lang/constant/Constable" (some 0) with
  accessFlags := 1537
  interfaces := #[]
  cf := some (fileOf pool2 1 #[] #[] 1537 3 #[] #[])
  fields := #[]
  methods := #[]
  instanceTypes := #[]
  staticTypes := #[]
  resolved := Array.replicate 11 none
  statics := none }

def pool3 : Array CpInfo := pool [(1, .class_ 2), (0, u "java/lang/Comparable"), (0, .class_ 4), (0, u "java/lang/Object")] 7

/-- java/lang/Comparable -/
def k3 : Class := { plain "java/lang/Comparable" (some 0) with
  accessFlags := 1537
  interfaces := #[]
  cf := some (fileOf pool3 1 #[] #[] 1537 3 #[] #[])
  fields := #[]
  methods := #[]
  instanceTypes := #[]
  staticTypes := #[]
  resolved := Array.replicate 12 none
  statics := none }

def pool4 : Array CpInfo := pool [(1, .class_ 2), (0, u "java/io/Serializable"), (0, .class_ 4), (0, u "java/lang/Object")] 2

/-- java/io/Serializable -/
def k4 : Class := { plain "java/io/Serializable" (some 0) with
  accessFlags := 1537
  interfaces := #[]
  cf := some (fileOf pool4 1 #[] #[] 1537 3 #[] #[])
  fields := #[]
  methods := #[]
  instanceTypes := #[]
  staticTypes := #[]
  resolved := Array.replicate 7 none
  statics := none }

def pool5 : Array CpInfo := pool [(2, .class_ 4), (1, u "java/lang/Enum"), (0, u "name"), (0, u "Ljava/lang/String;"), (2, u "ordinal"), (0, u "I"), (1, .class_ 14), (1, u "java/lang/Object"), (4, u "hash"), (86, .class_ 108), (1, u "java/lang/Enum$EnumDesc"), (2, .class_ 112), (0, u "java/lang/constant/Constable"), (0, .class_ 114), (0, u "java/lang/Comparable"), (0, .class_ 116), (0, u "java/io/Serializable")] 87

/-- java/lang/Enum -/
def k5 : Class := { plain "java/lang/Enum" (some 0) with
  accessFlags := 1057
  interfaces := #[2, 3, 4]
  cf := some (fileOf pool5 2 #[.nestMembers #[106]] #[] 1057 12 #[111, 113, 115] #[{ accessFlags := 18, nameIndex := 5, descriptorIndex := 6, attributes := #[] }, { accessFlags := 18, nameIndex := 9, descriptorIndex := 10, attributes := #[] }, { accessFlags := 2, nameIndex := 19, descriptorIndex := 10, attributes := #[] }])
  fields := #[{ name := "name", type := (.object "java/lang/String"), accessFlags := 18, slot := 0, constantValue := 0 }, { name := "ordinal", type := .int, accessFlags := 18, slot := 1, constantValue := 0 }, { name := "hash", type := .int, accessFlags := 2, slot := 2, constantValue := 0 }]
  methods := #[]
  instanceTypes := #[(.object "java/lang/String"), .int, .int]
  staticTypes := #[]
  resolved := Array.replicate 204 none
  statics := none }

def pool6 : Array CpInfo := pool [(1, .class_ 2), (0, u "com/example/menshen/menshen/policy/ConditionOperator"), (2, u "STRING_EQUALS"), (0, u "Lcom/example/menshen/menshen/policy/ConditionOperator;"), (2, u "STRING_NOT_EQUALS"), (2, u "NOT_STRING_EQUALS"), (2, u "STRING_EQUALS_IGNORE_CASE"), (2, u "STRING_NOT_EQUALS_IGNORE_CASE"), (2, u "STRING_LIKE"), (2, u "STRING_NOT_LIKE"), (2, u "IP_ADDRESS"), (2, u "NOT_IP_ADDRESS"), (2, u "NUMERIC_EQUALS"), (2, u "NUMERIC_NOT_EQUALS"), (2, u "NUMERIC_LESS_THAN"), (2, u "NUMERIC_LESS_THAN_EQUALS"), (2, u "NUMERIC_GREATER_THAN"), (2, u "NUMERIC_GREATER_THAN_EQUALS"), (2, u "DATE_EQUALS"), (2, u "DATE_NOT_EQUALS"), (2, u "DATE_LESS_THAN"), (2, u "DATE_LESS_THAN_EQUALS"), (2, u "DATE_GREATER_THAN"), (2, u "DATE_GREATER_THAN_EQUALS"), (2, u "BOOL"), (2, u "NULL"), (2, u "$VALUES"), (0, u "[Lcom/example/menshen/menshen/policy/ConditionOperator;"), (6, .class_ 85), (1, u "java/lang/Enum"), (8, u "writtenName"), (0, u "Ljava/lang/String;"), (0, .fieldref 1 97), (0, .nameAndType 98 6), (0, u "negationOf"), (2, u "literals"), (0, u "Lcom/example/menshen/menshen/policy/ConditionOperator$Literals;"), (24, .class_ 129), (1, u "com/example/menshen/menshen/policy/ConditionOperator$Literals"), (94, u "isNegated"), (0, u "()Z"), (1, u "positive"), (0, u "()Lcom/example/menshen/menshen/policy/ConditionOperator;")] 8

def k6c0 : Code := { maxStack := 1, maxLocals := 1, code := prog_22_method_7_code, exceptionTable := #[], attributes := #[] }
def k6m0 : Method := { name := "isNegated", desc := "()Z", sig := { parameters := [], returnType := some .boolean }, accessFlags := 1, code := some k6c0 }
def k6c1 : Code := { maxStack := 1, maxLocals := 1, code := prog_22_method_9_code, exceptionTable := #[], attributes := #[] }
def k6m1 : Method := { name := "positive", desc := "()Lcom/example/menshen/menshen/policy/ConditionOperator;", sig := { parameters := [], returnType := some (.object "com/example/menshen/menshen/policy/ConditionOperator") }, accessFlags := 1, code := some k6c1 }
/-- com/example/menshen/menshen/policy/ConditionOperator -/
def k6 : Class := { plain "com/example/menshen/menshen/policy/ConditionOperator" (some 5) with
  accessFlags := 16433
  interfaces := #[]
  cf := some (fileOf pool6 1 #[.nestMembers #[127]] #[{ accessFlags := 1, nameIndex := 224, descriptorIndex := 225, attributes := #[] }, { accessFlags := 1, nameIndex := 227, descriptorIndex := 228, attributes := #[] }] 16433 83 #[] #[{ accessFlags := 16409, nameIndex := 5, descriptorIndex := 6, attributes := #[] }, { accessFlags := 16409, nameIndex := 9, descriptorIndex := 6, attributes := #[] }, { accessFlags := 16409, nameIndex := 12, descriptorIndex := 6, attributes := #[] }, { accessFlags := 16409, nameIndex := 15, descriptorIndex := 6, attributes := #[] }, { accessFlags := 16409, nameIndex := 18, descriptorIndex := 6, attributes := #[] }, { accessFlags := 16409, nameIndex := 21, descriptorIndex := 6, attributes := #[] }, { accessFlags := 16409, nameIndex := 24, descriptorIndex := 6, attributes := #[] }, { accessFlags := 16409, nameIndex := 27, descriptorIndex := 6, attributes := #[] }, { accessFlags := 16409, nameIndex := 30, descriptorIndex := 6, attributes := #[] }, { accessFlags := 16409, nameIndex := 33, descriptorIndex := 6, attributes := #[] }, { accessFlags := 16409, nameIndex := 36, descriptorIndex := 6, attributes := #[] }, { accessFlags := 16409, nameIndex := 39, descriptorIndex := 6, attributes := #[] }, { accessFlags := 16409, nameIndex := 42, descriptorIndex := 6, attributes := #[] }, { accessFlags := 16409, nameIndex := 45, descriptorIndex := 6, attributes := #[] }, { accessFlags := 16409, nameIndex := 48, descriptorIndex := 6, attributes := #[] }, { accessFlags := 16409, nameIndex := 51, descriptorIndex := 6, attributes := #[] }, { accessFlags := 16409, nameIndex := 54, descriptorIndex := 6, attributes := #[] }, { accessFlags := 16409, nameIndex := 57, descriptorIndex := 6, attributes := #[] }, { accessFlags := 16409, nameIndex := 60, descriptorIndex := 6, attributes := #[] }, { accessFlags := 16409, nameIndex := 63, descriptorIndex := 6, attributes := #[] }, { accessFlags := 16409, nameIndex := 66, descriptorIndex := 6, attributes := #[] }, { accessFlags := 16409, nameIndex := 69, descriptorIndex := 6, attributes := #[] }, { accessFlags := 16409, nameIndex := 72, descriptorIndex := 6, attributes := #[] }, { accessFlags := 18, nameIndex := 94, descriptorIndex := 95, attributes := #[] }, { accessFlags := 18, nameIndex := 98, descriptorIndex := 6, attributes := #[] }, { accessFlags := 18, nameIndex := 101, descriptorIndex := 102, attributes := #[] }, { accessFlags := 4122, nameIndex := 75, descriptorIndex := 76, attributes := #[] }])
  fields := #[{ name := "STRING_EQUALS", type := (.object "com/example/menshen/menshen/policy/ConditionOperator"), accessFlags := 16409, slot := 0, constantValue := 0 }, { name := "STRING_NOT_EQUALS", type := (.object "com/example/menshen/menshen/policy/ConditionOperator"), accessFlags := 16409, slot := 1, constantValue := 0 }, { name := "NOT_STRING_EQUALS", type := (.object "com/example/menshen/menshen/policy/ConditionOperator"), accessFlags := 16409, slot := 2, constantValue := 0 }, { name := "STRING_EQUALS_IGNORE_CASE", type := (.object "com/example/menshen/menshen/policy/ConditionOperator"), accessFlags := 16409, slot := 3, constantValue := 0 }, { name := "STRING_NOT_EQUALS_IGNORE_CASE", type := (.object "com/example/menshen/menshen/policy/ConditionOperator"), accessFlags := 16409, slot := 4, constantValue := 0 }, { name := "STRING_LIKE", type := (.object "com/example/menshen/menshen/policy/ConditionOperator"), accessFlags := 16409, slot := 5, constantValue := 0 }, { name := "STRING_NOT_LIKE", type := (.object "com/example/menshen/menshen/policy/ConditionOperator"), accessFlags := 16409, slot := 6, constantValue := 0 }, { name := "IP_ADDRESS", type := (.object "com/example/menshen/menshen/policy/ConditionOperator"), accessFlags := 16409, slot := 7, constantValue := 0 }, { name := "NOT_IP_ADDRESS", type := (.object "com/example/menshen/menshen/policy/ConditionOperator"), accessFlags := 16409, slot := 8, constantValue := 0 }, { name := "NUMERIC_EQUALS", type := (.object "com/example/menshen/menshen/policy/ConditionOperator"), accessFlags := 16409, slot := 9, constantValue := 0 }, { name := "NUMERIC_NOT_EQUALS", type := (.object "com/example/menshen/menshen/policy/ConditionOperator"), accessFlags := 16409, slot := 10, constantValue := 0 }, { name := "NUMERIC_LESS_THAN", type := (.object "com/example/menshen/menshen/policy/ConditionOperator"), accessFlags := 16409, slot := 11, constantValue := 0 }, { name := "NUMERIC_LESS_THAN_EQUALS", type := (.object "com/example/menshen/menshen/policy/ConditionOperator"), accessFlags := 16409, slot := 12, constantValue := 0 }, { name := "NUMERIC_GREATER_THAN", type := (.object "com/example/menshen/menshen/policy/ConditionOperator"), accessFlags := 16409, slot := 13, constantValue := 0 }, { name := "NUMERIC_GREATER_THAN_EQUALS", type := (.object "com/example/menshen/menshen/policy/ConditionOperator"), accessFlags := 16409, slot := 14, constantValue := 0 }, { name := "DATE_EQUALS", type := (.object "com/example/menshen/menshen/policy/ConditionOperator"), accessFlags := 16409, slot := 15, constantValue := 0 }, { name := "DATE_NOT_EQUALS", type := (.object "com/example/menshen/menshen/policy/ConditionOperator"), accessFlags := 16409, slot := 16, constantValue := 0 }, { name := "DATE_LESS_THAN", type := (.object "com/example/menshen/menshen/policy/ConditionOperator"), accessFlags := 16409, slot := 17, constantValue := 0 }, { name := "DATE_LESS_THAN_EQUALS", type := (.object "com/example/menshen/menshen/policy/ConditionOperator"), accessFlags := 16409, slot := 18, constantValue := 0 }, { name := "DATE_GREATER_THAN", type := (.object "com/example/menshen/menshen/policy/ConditionOperator"), accessFlags := 16409, slot := 19, constantValue := 0 }, { name := "DATE_GREATER_THAN_EQUALS", type := (.object "com/example/menshen/menshen/policy/ConditionOperator"), accessFlags := 16409, slot := 20, constantValue := 0 }, { name := "BOOL", type := (.object "com/example/menshen/menshen/policy/ConditionOperator"), accessFlags := 16409, slot := 21, constantValue := 0 }, { name := "NULL", type := (.object "com/example/menshen/menshen/policy/ConditionOperator"), accessFlags := 16409, slot := 22, constantValue := 0 }, { name := "writtenName", type := (.object "java/lang/String"), accessFlags := 18, slot := 3, constantValue := 0 }, { name := "negationOf", type := (.object "com/example/menshen/menshen/policy/ConditionOperator"), accessFlags := 18, slot := 4, constantValue := 0 }, { name := "literals", type := (.object "com/example/menshen/menshen/policy/ConditionOperator$Literals"), accessFlags := 18, slot := 5, constantValue := 0 }, { name := "$VALUES", type := (.array (.object "com/example/menshen/menshen/policy/ConditionOperator")), accessFlags := 4122, slot := 23, constantValue := 0 }]
  methods := #[k6m0, k6m1]
  instanceTypes := #[(.object "java/lang/String"), .int, .int, (.object "java/lang/String"), (.object "com/example/menshen/menshen/policy/ConditionOperator"), (.object "com/example/menshen/menshen/policy/ConditionOperator$Literals")]
  staticTypes := #[(.object "com/example/menshen/menshen/policy/ConditionOperator"), (.object "com/example/menshen/menshen/policy/ConditionOperator"), (.object "com/example/menshen/menshen/policy/ConditionOperator"), (.object "com/example/menshen/menshen/policy/ConditionOperator"), (.object "com/example/menshen/menshen/policy/ConditionOperator"), (.object "com/example/menshen/menshen/policy/ConditionOperator"), (.object "com/example/menshen/menshen/policy/ConditionOperator"), (.object "com/example/menshen/menshen/policy/ConditionOperator"), (.object "com/example/menshen/menshen/policy/ConditionOperator"), (.object "com/example/menshen/menshen/policy/ConditionOperator"), (.object "com/example/menshen/menshen/policy/ConditionOperator"), (.object "com/example/menshen/menshen/policy/ConditionOperator"), (.object "com/example/menshen/menshen/policy/ConditionOperator"), (.object "com/example/menshen/menshen/policy/ConditionOperator"), (.object "com/example/menshen/menshen/policy/ConditionOperator"), (.object "com/example/menshen/menshen/policy/ConditionOperator"), (.object "com/example/menshen/menshen/policy/ConditionOperator"), (.object "com/example/menshen/menshen/policy/ConditionOperator"), (.object "com/example/menshen/menshen/policy/ConditionOperator"), (.object "com/example/menshen/menshen/policy/ConditionOperator"), (.object "com/example/menshen/menshen/policy/ConditionOperator"), (.object "com/example/menshen/menshen/policy/ConditionOperator"), (.object "com/example/menshen/menshen/policy/ConditionOperator"), (.array (.object "com/example/menshen/menshen/policy/ConditionOperator"))]
  resolved := Array.replicate 237 none
  statics := some 0 }

def pool7 : Array CpInfo := pool [(1, u "java/lang/Cloneable"), (0, .class_ 1), (0, u "java/lang/Object"), (0, .class_ 3)] 3

/-- java/lang/Cloneable -/
def k7 : Class := { plain "java/lang/Cloneable" (some 0) with
  accessFlags := 1537
  interfaces := #[]
  cf := some (fileOf pool7 2 #[] #[] 1537 4 #[] #[])
  fields := #[]
  methods := #[]
  instanceTypes := #[]
  staticTypes := #[]
  resolved := Array.replicate 8 none
  statics := none }

/-- the primitive byte -/
def k8 : Class := { plain "byte" none with kind := .primitive 'B', accessFlags := 0x411 }
/-- [B -/
def k9 : Class := { plain "[B" (some 0) with kind := .array 8 .byte, interfaces := #[7, 4], accessFlags := 1041 }

/-- the primitive int -/
def k10 : Class := { plain "int" none with kind := .primitive 'I', accessFlags := 0x411 }
/-- [I -/
def k11 : Class := { plain "[I" (some 0) with kind := .array 10 .int, interfaces := #[7, 4], accessFlags := 1041 }

/-- [Lcom/example/menshen/menshen/policy/ConditionOperator; -/
def k12 : Class := { plain "[Lcom/example/menshen/menshen/policy/ConditionOperator;" (some 0) with kind := .array 6 (.object "com/example/menshen/menshen/policy/ConditionOperator"), interfaces := #[7, 4], accessFlags := 1041 }

def heap : Heap := #[{ cls := 6, slots := #[.ref 1, .ref 2, .ref 3, .ref 4, .ref 5, .ref 6, .ref 7, .ref 8, .ref 9, .ref 10, .ref 11, .ref 12, .ref 13, .ref 14, .ref 15, .ref 16, .ref 17, .ref 18, .ref 19, .ref 20, .ref 21, .ref 22, .ref 23, .null], vm := .statics 6 },
  { cls := 6, slots := #[.null, .int 0, .int 0, .null, .null, .null], vm := .none },
  { cls := 6, slots := #[.null, .int 1, .int 0, .null, .ref 1, .null], vm := .none },
  { cls := 6, slots := #[.null, .int 2, .int 0, .null, .ref 1, .null], vm := .none },
  { cls := 6, slots := #[.null, .int 3, .int 0, .null, .null, .null], vm := .none },
  { cls := 6, slots := #[.null, .int 4, .int 0, .null, .ref 4, .null], vm := .none },
  { cls := 6, slots := #[.null, .int 5, .int 0, .null, .null, .null], vm := .none },
  { cls := 6, slots := #[.null, .int 6, .int 0, .null, .ref 6, .null], vm := .none },
  { cls := 6, slots := #[.null, .int 7, .int 0, .null, .null, .null], vm := .none },
  { cls := 6, slots := #[.null, .int 8, .int 0, .null, .ref 8, .null], vm := .none },
  { cls := 6, slots := #[.null, .int 9, .int 0, .null, .null, .null], vm := .none },
  { cls := 6, slots := #[.null, .int 10, .int 0, .null, .ref 10, .null], vm := .none },
  { cls := 6, slots := #[.null, .int 0, .int 0, .null, .null, .null], vm := .none },
  { cls := 6, slots := #[.null, .int 0, .int 0, .null, .null, .null], vm := .none },
  { cls := 6, slots := #[.null, .int 0, .int 0, .null, .null, .null], vm := .none },
  { cls := 6, slots := #[.null, .int 0, .int 0, .null, .null, .null], vm := .none },
  { cls := 6, slots := #[.null, .int 15, .int 0, .null, .null, .null], vm := .none },
  { cls := 6, slots := #[.null, .int 16, .int 0, .null, .ref 16, .null], vm := .none },
  { cls := 6, slots := #[.null, .int 0, .int 0, .null, .null, .null], vm := .none },
  { cls := 6, slots := #[.null, .int 0, .int 0, .null, .null, .null], vm := .none },
  { cls := 6, slots := #[.null, .int 0, .int 0, .null, .null, .null], vm := .none },
  { cls := 6, slots := #[.null, .int 0, .int 0, .null, .null, .null], vm := .none },
  { cls := 6, slots := #[.null, .int 0, .int 0, .null, .null, .null], vm := .none },
  { cls := 6, slots := #[.null, .int 0, .int 0, .null, .null, .null], vm := .none }]
def classes : Array Class := #[k0, k1, k2, k3, k4, k5, k6, k7, k8, k9, k10, k11, k12]
def interned : List (Array UInt16 × Addr) := []
def slotsUsed : Nat := 162
def theMethod : MethodId := ⟨1, 1⟩
def args0 : Array Value := #[.int 5]
def aboutOver (below : List Frame) : State where
  vm := { classes := classes, interned := interned.toArray }
  heap := heap
  slotsUsed := slotsUsed
  threads := #[{ frames := .invoking theMethod args0 :: below }]
def below0 : List Frame := [.native { method := ⟨0, 0⟩, args := #[] }]
def about1 : State := aboutOver below0
def p0 : Program := .bare "" "" ""
def e0 : Env := launch0.env 0 0 0
theorem w_frames : about1.frames = Frame.invoking theMethod args0 :: below0 := rfl
set_option maxRecDepth 65536 in
theorem w_args : argsFit about1.vm theMethod args0 = true := by decide +kernel
set_option maxRecDepth 65536 in
theorem w_heap : heapFits about1 = true := by decide +kernel
set_option maxRecDepth 65536 in
theorem w_runnable : about1.curStatus? = some .runnable := by decide +kernel
set_option maxRecDepth 65536 in
theorem w_alone : about1.alone = true := by decide +kernel
set_option maxRecDepth 65536 in
theorem w_named : about1.methodNamed? x = some theMethod := by decide +kernel
set_option maxRecDepth 65536 in
theorem w_hears : about1.hears theMethod below0 = true := by decide +kernel
set_option maxRecDepth 65536 in
theorem w_ripe : about1.ripe theMethod args0 below0 = true := by decide +kernel
theorem w_running : about1.status = .running := rfl
set_option maxRecDepth 65536 in
theorem w_room : about1.hasRoom e0.platform room_1 = true :=
  launch0.hasRoom_least _ room_1 (by decide +kernel) (by decide +kernel) (by decide +kernel) (by decide +kernel) (by decide +kernel) (by decide +kernel)
theorem allAtoms_all (ts : List Jvm.Cond) (a : Array Jvm.Value) (st : Jvm.State) : (allAtoms ts).before a st = ts.all (fun c => c.before a st) := by
  induction ts with
  | nil => rfl
  | cons c t ih =>
    show (Jvm.Cond.and c (allAtoms t)).before a st = _
    rw [Jvm.Cond.before_and, ih, List.all_cons]
def words1 : List Jvm.Cond := Jvm.Cond.code x code maxLocals ret :: tables_1
/-- a 'code' word, met by the world's own term for the bytes: nothing is compared byte by byte -/
theorem code_word {y : MethodName} {bytes : ByteArray} {mx : Nat} {rt : Option FieldType} {a : Array Value} {s : State} {m : MethodId} {meth : Method} {c : Code} (h1 : s.methodNamed? y = some m) (h2 : s.vm.method? m = some meth) (h3 : meth.code = some c) (h4 : c.code = bytes)
    (h5 : (c.maxLocals == mx && c.exceptionTable.isEmpty && decide (c.maxStack ≤ mostOperands) && decide (meth.sig.returnType = rt) && !meth.locks && decide (parseMethodDescriptor y.desc = some meth.sig)) = true) : (Jvm.Cond.code y bytes mx rt).before a s = true := by
  simp only [Bool.and_eq_true, beq_iff_eq, Bool.not_eq_true', decide_eq_true_eq] at h5
  obtain ⟨⟨⟨⟨⟨g1, g2⟩, g3⟩, g4⟩, g5⟩, g6⟩ := h5
  simp [Cond.before, Cond.holds, Cond.value, h1, h2, h3, h4, g1, g2, g3, g4, g5, g6]
def isCode : Jvm.Cond → Bool
  | .code _ _ _ _ => true
  | _ => false
theorem all_split {L : List Jvm.Cond} {P : Jvm.Cond → Bool} (h1 : L.all (fun c => isCode c || P c) = true) (h2 : ∀ c ∈ L.filter isCode, P c = true) : L.all P = true := by
  refine List.all_eq_true.mpr fun c hc => ?_
  have h := List.all_eq_true.mp h1 c hc
  rcases Bool.eq_false_or_eq_true (isCode c) with hi | hi
  · exact h2 c (List.mem_filter.mpr ⟨hc, hi⟩)
  · simpa [hi] using h
set_option maxRecDepth 65536 in
theorem w_c0 : (Jvm.Cond.code x code maxLocals ret).before args0 about1 = true := code_word (m := ⟨1, 1⟩) (meth := k1m1) (c := k1c1) (by decide +kernel) rfl rfl rfl (by decide +kernel)
set_option maxRecDepth 65536 in
theorem w_c1 : (Jvm.Cond.code ({ cls := "com/example/menshen/menshen/policy/ConditionOperator", name := "isNegated", desc := "()Z" } : Jvm.MethodName) prog_22_method_7_code (1 : Nat) (Option.some Jvm.ClassFile.FieldType.boolean)).before args0 about1 = true := code_word (m := ⟨6, 0⟩) (meth := k6m0) (c := k6c0) (by decide +kernel) rfl rfl rfl (by decide +kernel)
set_option maxRecDepth 65536 in
theorem w_c2 : (Jvm.Cond.code ({ cls := "com/example/menshen/menshen/policy/ConditionOperator", name := "positive", desc := "()Lcom/example/menshen/menshen/policy/ConditionOperator;" } : Jvm.MethodName) prog_22_method_9_code (1 : Nat) (Option.some (Jvm.ClassFile.FieldType.object "com/example/menshen/menshen/policy/ConditionOperator"))).before args0 about1 = true := code_word (m := ⟨6, 1⟩) (meth := k6m1) (c := k6c1) (by decide +kernel) rfl rfl rfl (by decide +kernel)
def codes1 : List Jvm.Cond := [Jvm.Cond.code x code maxLocals ret, Jvm.Cond.code ({ cls := "com/example/menshen/menshen/policy/ConditionOperator", name := "isNegated", desc := "()Z" } : Jvm.MethodName) prog_22_method_7_code (1 : Nat) (Option.some Jvm.ClassFile.FieldType.boolean), Jvm.Cond.code ({ cls := "com/example/menshen/menshen/policy/ConditionOperator", name := "positive", desc := "()Lcom/example/menshen/menshen/policy/ConditionOperator;" } : Jvm.MethodName) prog_22_method_9_code (1 : Nat) (Option.some (Jvm.ClassFile.FieldType.object "com/example/menshen/menshen/policy/ConditionOperator"))]
set_option maxRecDepth 65536 in
theorem codes_eq : words1.filter isCode = codes1 := rfl
theorem w_codes : ∀ c ∈ words1.filter isCode, c.before args0 about1 = true := by
  rw [codes_eq]
  intro c hc
  simp only [codes1, List.mem_cons, List.not_mem_nil, or_false] at hc
  rcases hc with rfl | rfl | rfl
  · exact w_c0
  · exact w_c1
  · exact w_c2
set_option maxRecDepth 65536 in
theorem w_t1 : (words1.take 24).all (fun c => isCode c || c.before args0 about1) = true := by decide +kernel
set_option maxRecDepth 65536 in
theorem w_t2 : ((words1.drop 24).take 24).all (fun c => isCode c || c.before args0 about1) = true := by decide +kernel
set_option maxRecDepth 65536 in
theorem w_t3 : ((words1.drop 24).drop 24).all (fun c => isCode c || c.before args0 about1) = true := by decide +kernel
theorem w_tables : (allAtoms (Jvm.Cond.code x code maxLocals ret :: tables_1)).before args0 about1 = true := by
  rw [allAtoms_all]
  show words1.all (fun c => c.before args0 about1) = true
  refine all_split ?_ w_codes
  rw [← List.take_append_drop 24 words1, List.all_append, w_t1, ← List.take_append_drop 24 (words1.drop 24), List.all_append, w_t2, w_t3]
  rfl
set_option maxRecDepth 65536 in
theorem w_case : (Jvm.Cond.and given_1 narrow_1).before args0 about1 = true := by decide +kernel
theorem w_applies : (headSpec (Jvm.Cond.code x code maxLocals ret :: tables_1) room_1).applies x e0.platform about1 = true :=
  (Spec.applies_iff w_frames).mpr ⟨w_running, w_runnable, w_alone, w_named, w_hears, w_ripe, w_room, w_tables⟩
theorem atStart : AtStart classFile x code maxLocals ret World_1 tables_1 room_1 Calls_1 rest_1 Pre_1 launch0 p0 e0 about1 theMethod args0 below0 :=
  ⟨lists_1, trivial, launch0.admits_env _ _ _, launch0.least_env, fairChoices_fair.cas, fairChoices_fair.clock, w_frames, w_args, w_heap, w_applies, trivial, trivial, w_case⟩
end start1
theorem witness_1 : WitnessClaimed_1 := ⟨start1.p0, start1.e0, start1.about1, start1.theMethod, start1.args0, start1.below0, start1.atStart⟩
end Jvm.Pilot.@@N@@
