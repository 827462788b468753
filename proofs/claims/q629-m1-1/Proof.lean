import JvmDerived
import JvmDerived.Pilot.@@N@@Statement
import JvmDerived.Pilot.@@N@@Code
set_option linter.unusedVariables false
set_option linter.unusedSimpArgs false
namespace Jvm.RoadKit
open Sem ClassFile Op Lib Jvm.Stand Jvm.Free Jvm.LawKit
section New
variable {p : Program} {l : Launch} {e : Env} {R : Room} {s : State} {m : MethodId} {args : Array Value} {below : List Frame} {meth : Method} {c : Code} {T : State} {locs : List Loc} {cells slots : Nat}
theorem retI (X : Stand p l e R s m args below meth c T locs cells slots) (hx : p.tables.exec = Jvm.exec) {pc : Nat} {Ls : Array Slot} {z : Int32} {rest : List Value} (hret : meth.sig.returnType = some .int) (hd : decode c.code pc = .ok (.ireturn, 1)) {fs : List Frame}
    (hl : ∀ (f : JFrame) (acts : List Action), f.method = m → f.locked = none → f.entered = [] → (doReturn e (T.setTop f) acts (some (.int z))).1 = T.setFrames fs) : Steps p.tables e below (T.setTop (mkF m pc Ls (.int z :: rest))) (T.setFrames fs) := by
  have hm' : T.vm.method? m = some meth := X.method'
  have hn : narrow .int (.int z) = .int z := rfl
  show Steps p.tables e below (T.setTop { method := m, pc := pc, locals := Ls, stack := _ :: rest, locked := none }) _
  jvm_step X.here [X.here.top, hx, hd, hm', hret, hn]
  first | (intro acts; rw [hl _ acts rfl rfl rfl]) | rw [hl _ _ rfl rfl rfl]
  exact Steps.refl _
theorem own_retA (X : Stand p l e R s m args below meth c T locs cells slots) (hx : p.tables.exec = Jvm.exec) {pc : Nat} {Ls : Array Slot} {w : Value} {t : FieldType} {rest : List Value} (hret : meth.sig.returnType = some t) (ht : t.isReference = true) (hw : w.isRef = true) (hd : decode c.code pc = .ok (.areturn, 1)) {fs : List Frame}
    (hl : ∀ (f : JFrame) (acts : List Action), f.method = m → f.locked = none → f.entered = [] → (doReturn e (T.setTop f) acts (some w)).1 = T.setFrames fs) : Steps p.tables e below (T.setTop (mkF m pc Ls (w :: rest))) (T.setFrames fs) := by
  have hm' : T.vm.method? m = some meth := X.method'
  show Steps p.tables e below (T.setTop { method := m, pc := pc, locals := Ls, stack := w :: rest, locked := none }) _
  jvm_step X.here [X.here.top, hx, hd, hm', hret, ht, hw]
  first | (intro acts; rw [hl _ acts rfl rfl rfl]) | rw [hl _ _ rfl rfl rfl]
  exact Steps.refl _
variable {Z : State} {h : Heap}
theorem own_len (X : Stand p l e R s m args below meth c T locs cells slots) (hx : p.tables.exec = Jvm.exec) (hZ : Z.Warmed39 s.vm) (eT : T.heap = h) {a : Addr} {k : ClassId} {ty : FieldType} {z : Int32} {vs : List Value} {dv : Value} (F : Arv Z h a k ty z vs dv) {g : JFrame} (hg : g.method = m) {rest : List Value} (hs : g.stack = .ref a :: rest) (hd : decode c.code g.pc = .ok (.arraylength, 1)) (target : State)
    (hr : Steps p.tables e below (T.setTop { g with pc := g.pc + 1, stack := .int z :: rest }) target) : Steps p.tables e below (T.setTop g) target := by
  obtain ⟨cl, A, -, S, N, -, -⟩ := F
  refine X.arraylength hx (by rw [eT]; exact A.1) (State.isArrayOf_alike hZ.alike A.2.1) hg hs hd _ ?_
  rw [len_of S N]; exact hr
theorem own_aaload (X : Stand p l e R s m args below meth c T locs cells slots) (hx : p.tables.exec = Jvm.exec) (hZ : Z.Warmed39 s.vm) (eT : T.heap = h) {a : Addr} {k : ClassId} {ty : FieldType} {z : Int32} {vs : List Value} {dv : Value} (F : Arv Z h a k ty z vs dv) (hty : ty.isReference = true) {j : Int32} (hj : ¬ j < 0 ∧ j < z) {v : Value} (hv : vs.getD j.toNatClampNeg dv = v) {g : JFrame} (hg : g.method = m) {rest : List Value} (hs : g.stack = .int j :: .ref a :: rest) (hd : decode c.code g.pc = .ok (.aaload, 1)) (target : State)
    (hr : Steps p.tables e below (T.setTop { g with pc := g.pc + 1, stack := v :: rest }) target) : Steps p.tables e below (T.setTop g) target := by
  obtain ⟨cl, A, -, S, N, H, -⟩ := F
  have hin := inb_of S hj
  exact X.aaload hx (by rw [eT]; exact A.1) (State.isArrayOf_alike hZ.alike A.2.1) hty A.2.2 hin (H.at hin hv) hg hs hd _ hr
theorem own_baload (X : Stand p l e R s m args below meth c T locs cells slots) (hx : p.tables.exec = Jvm.exec) (hZ : Z.Warmed39 s.vm) (eT : T.heap = h) {a : Addr} {k : ClassId} {z : Int32} {vs : List Value} {dv : Value} (F : Arv Z h a k .byte z vs dv) {j : Int32} (hj : ¬ j < 0 ∧ j < z) {v : Value} (hv : vs.getD j.toNatClampNeg dv = v) {g : JFrame} (hg : g.method = m) {rest : List Value} (hs : g.stack = .int j :: .ref a :: rest) (hd : decode c.code g.pc = .ok (.baload, 1)) (target : State)
    (hr : Steps p.tables e below (T.setTop { g with pc := g.pc + 1, stack := v :: rest }) target) : Steps p.tables e below (T.setTop g) target := by
  obtain ⟨cl, A, -, S, N, H, -⟩ := F
  have hin := inb_of S hj
  exact X.baloadBytes hx (by rw [eT]; exact A.1) (State.isArrayOf_alike hZ.alike A.2.1) A.2.2 hin (H.at hin hv) hg hs hd _ hr
theorem own_stR (X : Stand p l e R s m args below meth c T locs cells slots) (hx : p.tables.exec = Jvm.exec) (hZ : Z.Warmed39 s.vm) (eT : T.heap = h) {a y : Addr} {k : ClassId} {C : String} {z : Int32} {vs : List Value} {dv : Value} (F : Arv Z h a k (.object C) z vs dv) (O : Ovr Z k C) (I : Ins Z h y C true) {j : Int32} (hj : ¬ j < 0 ∧ j < z) {i : Nat} (hi : j.toNatClampNeg = i) (hl : i < vs.length) {g : JFrame} (hg : g.method = m) {rest : List Value} (hs : g.stack = .ref y :: .int j :: .ref a :: rest) (hd : decode c.code g.pc = .ok (.aastore, 1)) :
    ∃ T' h', Stand p l e R s m args below meth c T' (locs ++ [⟨a, j.toNatClampNeg⟩]) cells slots ∧ T'.heap = h' ∧ Wr h h' a j.toNatClampNeg (.ref y) ∧ Arv Z h' a k (.object C) z (vs.set i (.ref y)) dv ∧ ∀ target, Steps p.tables e below (T'.setTop { g with pc := g.pc + 1, stack := rest }) target → Steps p.tables e below (T.setTop g) target := by
  obtain ⟨cl, A, q, S, N, H, G⟩ := F
  obtain ⟨T', h', X', e', W, st⟩ := stR X hx hZ eT A (inb_of S hj) rfl (Sto.ofV A q O I) hg hs hd
  exact ⟨T', h', X', e', W, Arv.set A q S N H G rfl W i hi hl, st⟩
theorem own_stC (X : Stand p l e R s m args below meth c T locs cells slots) (hx : p.tables.exec = Jvm.exec) (hZ : Z.Warmed39 s.vm) (eT : T.heap = h) {a : Addr} {k : ClassId} {z x : Int32} {vs : List Value} {dv : Value} (F : Arv Z h a k .char z vs dv) {j : Int32} (hj : ¬ j < 0 ∧ j < z) {i : Nat} (hi : j.toNatClampNeg = i) (hl : i < vs.length) {g : JFrame} (hg : g.method = m) {rest : List Value} (hs : g.stack = .int x :: .int j :: .ref a :: rest) (hd : decode c.code g.pc = .ok (.castore, 1)) :
    ∃ T' h', Stand p l e R s m args below meth c T' (locs ++ [⟨a, j.toNatClampNeg⟩]) cells slots ∧ T'.heap = h' ∧ Wr h h' a j.toNatClampNeg (.int (nar .char x)) ∧ Arv Z h' a k .char z (vs.set i (.int (nar .char x))) dv ∧ ∀ target, Steps p.tables e below (T'.setTop { g with pc := g.pc + 1, stack := rest }) target → Steps p.tables e below (T.setTop g) target := by
  obtain ⟨cl, A, q, S, N, H, G⟩ := F
  obtain ⟨T', h', X', e', W, st⟩ := stC X hx hZ eT A (inb_of S hj) hg hs hd
  exact ⟨T', h', X', e', W, Arv.set A q S N H G (fits_nar_char _) W i hi hl, st⟩
theorem own_stB (X : Stand p l e R s m args below meth c T locs cells slots) (hx : p.tables.exec = Jvm.exec) (hZ : Z.Warmed39 s.vm) (eT : T.heap = h) {a : Addr} {k : ClassId} {z x : Int32} {vs : List Value} {dv : Value} (F : Arv Z h a k .byte z vs dv) {j : Int32} (hj : ¬ j < 0 ∧ j < z) {i : Nat} (hi : j.toNatClampNeg = i) (hl : i < vs.length) {g : JFrame} (hg : g.method = m) {rest : List Value} (hs : g.stack = .int x :: .int j :: .ref a :: rest) (hd : decode c.code g.pc = .ok (.bastore, 1)) :
    ∃ T' h', Stand p l e R s m args below meth c T' (locs ++ [⟨a, j.toNatClampNeg⟩]) cells slots ∧ T'.heap = h' ∧ Wr h h' a j.toNatClampNeg (.int (nar .byte x)) ∧ Arv Z h' a k .byte z (vs.set i (.int (nar .byte x))) dv ∧ ∀ target, Steps p.tables e below (T'.setTop { g with pc := g.pc + 1, stack := rest }) target → Steps p.tables e below (T.setTop g) target := by
  obtain ⟨cl, A, q, S, N, H, G⟩ := F
  obtain ⟨T', h', X', e', W, st⟩ := stB X hx hZ eT A (inb_of S hj) hg hs hd
  exact ⟨T', h', X', e', W, Arv.set A q S N H G (fits_nar_byte _) W i hi hl, st⟩
end New
end Jvm.RoadKit
namespace Jvm.Pilot.@@N@@
open Jvm Jvm.ClassFile Sem Op Lib Jvm.Free Jvm.Stand Jvm.LawKit Jvm.RoadKit Bundle Jvm.Pilot.@@N@@.Jvm.D
abbrev oI (x : Int32) : Slot := .val (.int x)
abbrev oJ (x : Int64) : Slot := .val (.long x)
abbrev oR (a : Addr) : Slot := .val (.ref a)
abbrev oN : Slot := .val .null
abbrev oV (v : Value) : Slot := .val v
abbrev oU : Slot := .unset
abbrev oS : Slot := .second
abbrev oP (p : Program) (e : Env) (below : List Frame) (T : State) (g : JFrame) (t : State) : Prop := Steps p.tables e below (T.setTop g) t
def own_sv (Z : State) (C n d : String) : Addr := match (Term.static C n d).eval #[] Z none [] Z with | some (.ref a) => a | _ => 0
theorem own_sv_of {Z : State} {args : Array Value} {C n d : String} {a : Addr} (h : (Term.static C n d).eval args Z none [] Z = some (.ref a)) : (Term.static C n d).eval args Z none [] Z = some (.ref (own_sv Z C n d)) := by
  have h' : (Term.static C n d).eval #[] Z none [] Z = some (.ref a) := h
  rw [h]; unfold own_sv; rw [h']
theorem own_at {Z : State} {args : Array Value} {C n d K : String} (h : (Cond.exactly (Term.static C n d) K).value args Z none Z [] = some true) : (Term.static C n d).eval args Z none [] Z = some (.ref (own_sv Z C n d)) := by
  obtain ⟨a, ha⟩ := exa_v h
  exact own_sv_of ha
theorem own_sta {Z : State} {args : Array Value} {C n d K : String} (h : (Cond.exactly (Term.static C n d) K).value args Z none Z [] = some true) (hi : (Cond.initializedFor C n d).before args Z = true ∨ ((Cond.initialized C).before args Z = true ∧ (Cond.laysStatic C n d).before args Z = true)) : Sta Z Z.heap C n d (.ref (own_sv Z C n d)) := Sta.start (own_at h) hi
theorem own_exa {Z : State} {args : Array Value} {C n d K : String} (h : (Cond.exactly (Term.static C n d) K).value args Z none Z [] = some true) : Exa Z Z.heap (own_sv Z C n d) K := Exa.start (own_at h) h
theorem own_fldV {Z : State} {args : Array Value} {C n d O f fd : String} {v : Value} (h : (Term.field (Term.static C n d) O f fd).eval args Z none [] Z = some v) : Fld Z Z.heap (own_sv Z C n d) O f fd v := by
  obtain ⟨a, ha⟩ := fld_v h
  rw [fld_at (own_sv_of ha)] at h
  exact Fld.start h
theorem own_fldI {Z : State} {args : Array Value} {C n d O f fd : String} {k : Int32} (h : (Cond.eq (Term.field (Term.static C n d) O f fd) (Term.int k)).value args Z none Z [] = some true) : Fld Z Z.heap (own_sv Z C n d) O f fd (.int k) := by
  refine own_fldV (args := args) ?_
  cases hv : (Term.field (Term.static C n d) O f fd).eval args Z none [] Z with
  | none => simp [Cond.value, hv] at h
  | some v => cases v <;> simp_all [Cond.value, Term.eval]
abbrev own_Q (Q : Option Value → Heap → List Loc → Prop) (v : Option Value) (h : Heap) (L : List Loc) : Prop := Q v h L
theorem own_clamp (x : Int32) : x.toNatClampNeg = x.toInt.toNat := rfl
theorem own_and_le (x c : Int32) (hc : 0 ≤ c.toInt) : 0 ≤ (x &&& c).toInt ∧ (x &&& c).toInt ≤ c.toInt := by
  have hm : c.toBitVec.msb = false := by
    cases h : c.toBitVec.msb with
    | false => rfl
    | true =>
      have := BitVec.toInt_neg_of_msb_true h
      rw [Int32.toInt_toBitVec] at this
      omega
  have h : (x &&& c).toBitVec.msb = false := by
    rw [Int32.toBitVec_and, BitVec.msb_and, hm]; simp
  have e1 : (x &&& c).toInt = ((x &&& c).toBitVec.toNat : Int) := by
    rw [← Int32.toInt_toBitVec, BitVec.toInt_eq_toNat_of_msb h]
  have e2 : c.toInt = (c.toBitVec.toNat : Int) := by
    rw [← Int32.toInt_toBitVec, BitVec.toInt_eq_toNat_of_msb hm]
  have h3 : (x &&& c).toBitVec.toNat ≤ c.toBitVec.toNat := by
    rw [Int32.toBitVec_and, BitVec.toNat_and]; exact Nat.and_le_right
  omega
theorem own_rem {x y : Int32} (hx : 0 ≤ x.toInt) (hy : 0 < y.toInt) : (x - (x / y) * y).toInt = x.toInt % y.toInt := by
  have h1 : (x / y).toInt = x.toInt / y.toInt := by
    rw [Int32.toInt_div]
    rw [Int.tdiv_eq_ediv_of_nonneg hx]
    have := Int32.toInt_lt x
    have h2 : 0 ≤ x.toInt / y.toInt := Int.ediv_nonneg hx (by omega)
    have h3 : x.toInt / y.toInt ≤ x.toInt := Int.ediv_le_self _ hx
    apply Int.bmod_eq_of_le <;> omega
  rw [Int32.toInt_sub, Int32.toInt_mul, h1]
  have h2 : 0 ≤ x.toInt / y.toInt * y.toInt := Int.mul_nonneg (Int.ediv_nonneg hx (by omega)) (by omega)
  have h3 : x.toInt / y.toInt * y.toInt ≤ x.toInt := Int.ediv_mul_le _ (by omega)
  have h4 := Int32.toInt_lt x
  rw [Int.bmod_eq_of_le (n := x.toInt / y.toInt * y.toInt) (by omega) (by omega)]
  have h5 : x.toInt - x.toInt / y.toInt * y.toInt = x.toInt % y.toInt := by
    have := Int.emod_add_mul_ediv x.toInt y.toInt
    have h6 : x.toInt / y.toInt * y.toInt = y.toInt * (x.toInt / y.toInt) := Int.mul_comm _ _
    omega
  rw [h5]
  have h6 := Int.emod_nonneg x.toInt (b := y.toInt) (by omega)
  have h7 := Int.emod_lt_of_pos x.toInt hy
  have h8 := Int32.toInt_lt y
  apply Int.bmod_eq_of_le <;> omega
theorem own_mem {i : Int32} {n : Nat} (h0 : 0 ≤ i.toInt) (h1 : i.toInt < n) : ∃ k, k < n ∧ i = Int32.ofNat k := by
  refine ⟨i.toInt.toNat, by omega, ?_⟩
  apply Int32.toInt_inj.mp
  have := Int32.toInt_lt i
  rw [Int32.toInt_ofNat_of_lt (by omega)]
  omega
theorem own_old_le {Z : State} {n0 : Nat} {h : Heap} (O : Old Z n0 h) : n0 ≤ h.size := O.1 ▸ O.2.1
def own_Vals (Z : State) (a : Addr) (ty : FieldType) (z : Int32) (vs : List Value) (dv : Value) : Prop := ∃ cl : Cell, Arr Z Z.heap a cl ty ∧ FitC Z cl ∧ cl.slots.size = z.toNatClampNeg ∧ Has cl vs dv ∧ ∀ i, i < cl.slots.size → fits ty (vs.getD i dv) = true
theorem own_clone {Z : State} {h : Heap} {b : Addr} {cl : Cell} {ty : FieldType} {z : Int32} {vs : List Value} {dv : Value} (A : Arr Z h b (cloneOf cl) ty) (S : cl.slots.size = z.toNatClampNeg) (hz : ¬ z < 0) (H : Has cl vs dv) (G : ∀ i, i < cl.slots.size → fits ty (vs.getD i dv) = true) : Arv Z h b cl.cls ty z vs dv := ⟨_, A, rfl, S, hz, H, G⟩
theorem own_elem {Z : State} {args : Array Value} {C n d C2 n2 d2 : String} {i : Int32} {cl : Cell} {ty : FieldType} {j : Nat} (h : (Cond.eq (Term.elem (Term.static C n d) (Term.int i)) (Term.static C2 n2 d2)).value args Z none Z [] = some true) (ht : (Term.static C2 n2 d2).eval args Z none [] Z = some (.ref (own_sv Z C2 n2 d2))) (A : Arr Z Z.heap (own_sv Z C n d) cl ty) (hj : i.toNatClampNeg = j) : cl.slots[j]? = some (.ref (own_sv Z C2 n2 d2)) := by
  subst hj
  have hi : (Term.int i).eval args Z none [] Z = some (.int i) := Term.int_eval i
  cases hv : (Term.elem (Term.static C n d) (Term.int i)).eval args Z none [] Z with
  | none => simp [Cond.value, hv] at h
  | some w =>
    obtain ⟨⟨x, hx⟩, -⟩ := elem_v hv
    have h2 := (elem_in hv (own_sv_of hx) hi A.1).2
    rw [h2]
    cases w <;> simp_all [Cond.value]
theorem own_getD {P : Value → Prop} {dv : Value} (hd : P dv) : ∀ (vs : List Value) (h : ∀ v ∈ vs, P v) (i : Nat), P (vs.getD i dv)
  | [], _, _ => by simpa using hd
  | v :: vs, h, 0 => h v (List.mem_cons_self ..)
  | v :: vs, h, i + 1 => own_getD hd vs (fun w hw => h w (List.mem_cons_of_mem _ hw)) i
theorem own_vals {Z : State} {args : Array Value} {C n d C2 : String} {k : Int32} {vs : List Value} (hf : Fit Z) (h1 : (Cond.arrayOf (Term.static C n d) (.object C2)).value args Z none Z [] = some true) (h2 : (Cond.eq (Term.length (Term.static C n d)) (Term.int k)).value args Z none Z [] = some true) (hl : k.toNatClampNeg = vs.length) (hk : ¬ k < 0)
    (h3 : ∀ cl, Arr Z Z.heap (own_sv Z C n d) cl (.object C2) → HasL cl 0 vs) (h4 : ∀ v ∈ vs, fits (.object C2) v = true) : own_Vals Z (own_sv Z C n d) (.object C2) k vs .null := by
  obtain ⟨x, hx⟩ := arr_v h1
  have ev := own_sv_of hx
  obtain ⟨cl, A⟩ := Arr.start ev h1
  have hs : cl.slots.size = k.toNatClampNeg := by
    cases hv : (Term.length (Term.static C n d)).eval args Z none [] Z with
    | none => simp [Cond.value, hv] at h2
    | some w =>
      obtain ⟨a, cell, e1, e2, e3⟩ := Term.length_spec hv
      cases ev.symm.trans e1
      have e4 := A.fin (Vm.Alike.refl _)
      cases e4.symm.trans e2
      have hlt : cl.slots.size < 2 ^ 31 := SBG.length_lt ev e4 hv
      subst e3
      have e5 : cl.slots.size.toInt32 = k := by
        have hi : (Term.int k).eval args Z none [] Z = some (.int k) := Term.int_eval k
        simpa [Cond.value, hv, hi] using h2
      rw [← e5]
      have e6 := len_toInt hlt
      simp only [own_clamp]
      omega
  have H := h3 cl A
  refine ⟨cl, A, FitC.start hf A, hs, fun i hi => ?_, fun i _ => own_getD (P := fun v => fits (.object C2) v = true) rfl vs h4 i⟩
  have := HasL.at (dv := .null) vs 0 H i (by omega)
  simpa using this
theorem own_fldN {Z : State} {args : Array Value} {C n d O f fd : String} (h : (Cond.eq (Term.field (Term.static C n d) O f fd) Term.null).value args Z none Z [] = some true) : Fld Z Z.heap (own_sv Z C n d) O f fd .null := own_fldV (args := args) (null_v h)
theorem own_fldS {Z : State} {args : Array Value} {C n d O f fd C2 n2 d2 K2 : String} (h : (Cond.eq (Term.field (Term.static C n d) O f fd) (Term.static C2 n2 d2)).value args Z none Z [] = some true) (h2 : (Cond.exactly (Term.static C2 n2 d2) K2).value args Z none Z [] = some true) : Fld Z Z.heap (own_sv Z C n d) O f fd (.ref (own_sv Z C2 n2 d2)) := by
  refine own_fldV (args := args) ?_
  have e2 := own_at h2
  cases hv : (Term.field (Term.static C n d) O f fd).eval args Z none [] Z with
  | none => simp [Cond.value, hv] at h
  | some v => cases v <;> simp_all [Cond.value]
theorem own_fldL {Z : State} {args : Array Value} {C n d O f fd : String} {k : Int64} (h : (Cond.eq (Term.field (Term.static C n d) O f fd) (Term.long k)).value args Z none Z [] = some true) : Fld Z Z.heap (own_sv Z C n d) O f fd (.long k) := by
  refine own_fldV (args := args) ?_
  cases hv : (Term.field (Term.static C n d) O f fd).eval args Z none [] Z with
  | none => simp [Cond.value, hv] at h
  | some v => cases v <;> simp_all [Cond.value, Term.eval]
theorem own_staI {Z : State} {args : Array Value} {C n d : String} {k : Int32} (h : (Cond.eq (Term.static C n d) (Term.int k)).value args Z none Z [] = some true) (hi : (Cond.initializedFor C n d).before args Z = true ∨ ((Cond.initialized C).before args Z = true ∧ (Cond.laysStatic C n d).before args Z = true)) : Sta Z Z.heap C n d (.int k) := by
  refine Sta.start (args := args) ?_ hi
  cases hv : (Term.static C n d).eval args Z none [] Z with
  | none => simp [Cond.value, hv] at h
  | some v =>
    have hk : (Term.int k).eval args Z none [] Z = some (.int k) := Term.int_eval k
    cases v <;> simp_all [Cond.value]
def own_Cache (Z : State) (a : Addr) (C : String) (n : Nat) : Prop := ∃ cl : Cell, Arr Z Z.heap a cl (.object C) ∧ cl.slots.size = n ∧ ∀ j, j < n → ∃ x, cl.slots[j]? = some (.ref x) ∧ Exa Z Z.heap x C
theorem own_nsroot {Z : State} {a0 : Array Value} {O K : String} {n : Nat} (w : (Cond.noSuperclass O).before a0 Z = true) (wk : (Cond.instantiable K n).before a0 Z = true) (hn : O ≠ K) : NS Z O K := by
  obtain ⟨c, k, h1, h2, h3, -, -⟩ := Cond.noSuperclass_spec w
  obtain ⟨t, kt, g1, -⟩ := Cond.instantiable_spec wk
  have ne := ids_ne h1 g1 hn
  refine ⟨c, t, h1, g1, fun fuel => ?_⟩
  cases fuel with
  | zero => rfl
  | succ f => simp [Vm.isSubclassAux, ne, h2, h3]
theorem own_nsno {Z : State} {a0 : Array Value} {C S K : String} {n : Nat} (w : (Cond.superclass C S).before a0 Z = true) (wk : (Cond.instantiable K n).before a0 Z = true) (m : NS Z C K) (hn : C ≠ K) : ∃ c t, Z.vm.findClass C = some c ∧ Z.vm.findClass K = some t ∧ Z.vm.assignable c t = false := by
  obtain ⟨c, t, h0, g0, n3⟩ := m
  obtain ⟨p, k, kp, h1, h2, h3, h4, h5, -, h7⟩ := Cond.superclass_spec h0 w
  obtain ⟨t', k', g1, g2, g3, g4, -⟩ := Cond.instantiable_spec wk
  cases g0.symm.trans g1
  have g5 : k'.isInterface = false := by
    cases hq : k'.isInterface with
    | false => rfl
    | true => simp [hq] at g4
  have ne := ids_ne h0 g0 hn
  refine ⟨c, t, h0, g0, ?_⟩
  show Z.vm.assignableAux (255 + 1) c t = false
  simp [Vm.assignableAux, ne, h2, g2, h5, g3, g5, Vm.isSubclass, n3]
theorem own_fitsR {v : Value} {C : String} (h : v.isRef = true) : fits (.object C) v = true := by cases v <;> simp_all [Value.isRef, fits]
def own_si (Z : State) (C n d : String) : Int32 := match (Term.static C n d).eval #[] Z none [] Z with | some (.int a) => a | _ => 0
theorem own_si_of {Z : State} {args : Array Value} {C n d : String} (h : (Cond.isInt (Term.static C n d)).value args Z none Z [] = some true) : (Term.static C n d).eval args Z none [] Z = some (.int (own_si Z C n d)) := by
  obtain ⟨x, hx⟩ := is_v h
  have h' : (Term.static C n d).eval #[] Z none [] Z = some (.int x) := hx
  rw [hx]; unfold own_si; rw [h']
theorem own_sti {Z : State} {args : Array Value} {C n d : String} (h : (Cond.isInt (Term.static C n d)).value args Z none Z [] = some true) (hi : (Cond.initializedFor C n d).before args Z = true ∨ ((Cond.initialized C).before args Z = true ∧ (Cond.laysStatic C n d).before args Z = true)) : Sta Z Z.heap C n d (.int (own_si Z C n d)) := Sta.start (own_si_of h) hi
theorem own_stn {Z : State} {args : Array Value} {C n d : String} (h : (Cond.isInt (Term.static C n d)).value args Z none Z [] = some true) (hn : (Cond.not (Cond.eq (Term.static C n d) (Term.int 0))).value args Z none Z [] = some true) : ¬ own_si Z C n d = 0 := by
  have e := own_si_of h
  have h0 : (Term.int 0).eval args Z none [] Z = some (.int 0) := Term.int_eval 0
  have q := not_v hn
  intro z
  rw [z] at e
  simp [Cond.value, e, h0] at q
theorem own_char {c x : Int32} (h : c = (x &&& (255 : Int32))) : ¬ c < 0 ∧ ¬ (255 : Int32) < c := by
  have q := own_and_le x 255 (by decide)
  rw [← h] at q
  have e : (255 : Int32).toInt = 255 := by decide
  have e0 : (0 : Int32).toInt = 0 := by decide
  rw [Int32.lt_iff_toInt_lt, Int32.lt_iff_toInt_lt, e, e0]
  omega
theorem own_narc {c : Int32} (h : ¬ c < 0 ∧ ¬ (255 : Int32) < c) : nar .char c = c := by
  rw [Int32.lt_iff_toInt_lt, Int32.lt_iff_toInt_lt] at h
  have e : (255 : Int32).toInt = 255 := by decide
  have e0 : (0 : Int32).toInt = 0 := by decide
  rw [e, e0] at h
  obtain ⟨k, hk, rfl⟩ := own_mem (i := c) (n := 256) (by omega) (by omega)
  have t : ∀ k : Fin 256, nar .char (Int32.ofNat k.val) = Int32.ofNat k.val := by decide +kernel
  exact t ⟨k, hk⟩
theorem own_hb {cs : List Int32} (h : ∀ c ∈ cs, ¬ c < 0 ∧ ¬ (255 : Int32) < c) : ∀ c ∈ cs, ¬ c < 0 ∧ ¬ (65535 : Int32) < c := fun c hc => by
  have q := h c hc
  refine ⟨q.1, fun z => q.2 ?_⟩
  rw [Int32.lt_iff_toInt_lt] at z ⊢
  have e : (255 : Int32).toInt = 255 := by decide
  have e0 : (65535 : Int32).toInt = 65535 := by decide
  omega
theorem own_eqv {v : Option Value} {cs ds : List Int32} (h : (v = some (.int 1) ∧ cs = ds) ∨ (v = some (.int 0) ∧ ¬ cs = ds)) : v = some (.int (if cs = ds then (1 : Int32) else (0 : Int32))) := by
  rcases h with ⟨h1, h2⟩ | ⟨h1, h2⟩
  · rw [if_pos h2]; exact h1
  · rw [if_neg h2]; exact h1
theorem own_since (s : State) : s.Since s.vm 0 := (State.WarmedH.refl s).since 0
theorem own_rwmono {s t : State} {o : Outcome} {L : List Loc} {k n k' n' : Nat} (h : ReturnedEndW s o t L k n) (hk : k ≤ k') (hn : n ≤ n') : ReturnedEndW s o t L k' n' := ⟨h.1, h.2.1, h.2.2.1, h.2.2.2.mono hk hn⟩
theorem own_cache {Z : State} {args : Array Value} {C n d K : String} {k : Int32} {N : Nat} {rest : Cond} (h1 : (Cond.arrayOf (Term.static C n d) (.object K)).value args Z none Z [] = some true) (h2 : (Cond.eq (Term.length (Term.static C n d)) (Term.int k)).value args Z none Z [] = some true)
    (h3 : (Cond.all (Term.static C n d) (.and (.exactly (.elem (Term.static C n d) (.index 0)) K) rest)).value args Z none Z [] = some true) (hN : k.toNatClampNeg = N) : own_Cache Z (own_sv Z C n d) K N := by
  obtain ⟨x, hx⟩ := arr_v h1
  have ev := own_sv_of hx
  obtain ⟨cl, A⟩ := Arr.start ev h1
  have e4 := A.fin (Vm.Alike.refl _)
  have hs : cl.slots.size = k.toNatClampNeg ∧ cl.slots.size < 2 ^ 31 := by
    cases hv : (Term.length (Term.static C n d)).eval args Z none [] Z with
    | none => simp [Cond.value, hv] at h2
    | some w =>
      obtain ⟨a, cell, e1, e2, e3⟩ := Term.length_spec hv
      cases ev.symm.trans e1
      cases e4.symm.trans e2
      have hlt : cl.slots.size < 2 ^ 31 := SBG.length_lt ev e4 hv
      subst e3
      have e5 : cl.slots.size.toInt32 = k := by
        have hi : (Term.int k).eval args Z none [] Z = some (.int k) := Term.int_eval k
        simpa [Cond.value, hv, hi] using h2
      rw [← e5]
      have e6 := len_toInt hlt
      refine ⟨?_, hlt⟩
      simp only [own_clamp]
      omega
  refine ⟨cl, A, hs.1.trans hN, fun j hj => ?_⟩
  have q := Cond.all_elim ev e4 h3 j (by omega)
  obtain ⟨q1, -⟩ := and_e q
  obtain ⟨y, hy⟩ := exa_v q1
  have ev' : (Term.static C n d).eval args Z none [j] Z = some (.ref (own_sv Z C n d)) := ev
  have hj' : (Term.index 0).eval args Z none [j] Z = some (.int (Int32.ofNat j)) := Term.index_eval _
  have r := (elem_in hy ev' hj' A.1).2
  have e6 : (Int32.ofNat j).toNatClampNeg = j := by
    have := len_toInt (n := j) (by omega)
    simp only [own_clamp]
    have e7 : (Int32.ofNat j).toInt = j := this
    omega
  rw [e6] at r
  exact ⟨y, r, exa_at hy q1⟩
theorem own_cacheix {p : Int32} {n : Nat} {cl : Cell} (h1 : ¬ p < (-128 : Int32)) (h2 : ¬ (127 : Int32) < p) (S : cl.slots.size = 256) : ¬ (p + (128 : Int32) < 0 ∨ cl.slots.size ≤ (p + (128 : Int32)).toNatClampNeg) ∧ (p + (128 : Int32)).toNatClampNeg < 256 := by
  rw [Int32.lt_iff_toInt_lt] at h1 h2 ⊢
  have e1 : (-128 : Int32).toInt = -128 := by decide
  have e2 : (127 : Int32).toInt = 127 := by decide
  have e3 : (0 : Int32).toInt = 0 := by decide
  have e4 : (128 : Int32).toInt = 128 := by decide
  have e5 : (p + (128 : Int32)).toInt = p.toInt + 128 := by
    rw [Int32.toInt_add, e4]
    apply Int.bmod_eq_of_le <;> omega
  simp only [own_clamp]
  omega
theorem own_staA {Z : State} {args : Array Value} {C n d : String} {ty : FieldType} (h : (Cond.arrayOf (Term.static C n d) ty).value args Z none Z [] = some true) (hi : (Cond.initializedFor C n d).before args Z = true ∨ ((Cond.initialized C).before args Z = true ∧ (Cond.laysStatic C n d).before args Z = true)) : Sta Z Z.heap C n d (.ref (own_sv Z C n d)) := by
  obtain ⟨a, ha⟩ := arr_v h
  exact Sta.start (own_sv_of ha) hi
end Jvm.Pilot.@@N@@
namespace Jvm.Pilot.@@N@@
open Jvm Jvm.ClassFile Sem Op Lib Jvm.Free Jvm.Stand Jvm.LawKit Jvm.RoadKit Bundle Jvm.Pilot.@@N@@.Jvm.D
def a_PENDING (Z : State) : Addr := own_sv Z "com/example/resumatic/resumatic/core/RunState" "PENDING" "Lcom/example/resumatic/resumatic/core/RunState;"
def a_RESUME_NON_IDEMPOTENT_STEP (Z : State) : Addr := own_sv Z "com/example/resumatic/resumatic/core/ReasonCode" "RESUME_NON_IDEMPOTENT_STEP" "Lcom/example/resumatic/resumatic/core/ReasonCode;"
def a_WAITING (Z : State) : Addr := own_sv Z "com/example/resumatic/resumatic/core/RunState" "WAITING" "Lcom/example/resumatic/resumatic/core/RunState;"
def a_FAILED (Z : State) : Addr := own_sv Z "com/example/resumatic/resumatic/core/RunState" "FAILED" "Lcom/example/resumatic/resumatic/core/RunState;"
def a_RESUME_ESCALATED (Z : State) : Addr := own_sv Z "com/example/resumatic/resumatic/core/RunState" "RESUME_ESCALATED" "Lcom/example/resumatic/resumatic/core/RunState;"
def a_RESUME_ALLOWED (Z : State) : Addr := own_sv Z "com/example/resumatic/resumatic/core/ReasonCode" "RESUME_ALLOWED" "Lcom/example/resumatic/resumatic/core/ReasonCode;"
def a_RESUME_ATTEMPT_LIMIT_REACHED (Z : State) : Addr := own_sv Z "com/example/resumatic/resumatic/core/ReasonCode" "RESUME_ATTEMPT_LIMIT_REACHED" "Lcom/example/resumatic/resumatic/core/ReasonCode;"
def a_RESUME_MISSING_CHECKPOINT (Z : State) : Addr := own_sv Z "com/example/resumatic/resumatic/core/ReasonCode" "RESUME_MISSING_CHECKPOINT" "Lcom/example/resumatic/resumatic/core/ReasonCode;"
def a_RESUME_UNKNOWN_INTERRUPTION_CLASS (Z : State) : Addr := own_sv Z "com/example/resumatic/resumatic/core/ReasonCode" "RESUME_UNKNOWN_INTERRUPTION_CLASS" "Lcom/example/resumatic/resumatic/core/ReasonCode;"
def a_RUNNING (Z : State) : Addr := own_sv Z "com/example/resumatic/resumatic/core/RunState" "RUNNING" "Lcom/example/resumatic/resumatic/core/RunState;"
def a_RESUME_MISSING_RUNTIME_ARTIFACTS (Z : State) : Addr := own_sv Z "com/example/resumatic/resumatic/core/ReasonCode" "RESUME_MISSING_RUNTIME_ARTIFACTS" "Lcom/example/resumatic/resumatic/core/ReasonCode;"
def a_COMPLETED (Z : State) : Addr := own_sv Z "com/example/resumatic/resumatic/core/RunState" "COMPLETED" "Lcom/example/resumatic/resumatic/core/RunState;"
def St (Z : State) : Prop := (Sta Z Z.heap "com/example/resumatic/resumatic/core/RunState" "PENDING" "Lcom/example/resumatic/resumatic/core/RunState;" (.ref (a_PENDING Z))) ∧ (Exa Z Z.heap (a_PENDING Z) "com/example/resumatic/resumatic/core/RunState") ∧ (Sta Z Z.heap "com/example/resumatic/resumatic/core/ReasonCode" "RESUME_NON_IDEMPOTENT_STEP" "Lcom/example/resumatic/resumatic/core/ReasonCode;" (.ref (a_RESUME_NON_IDEMPOTENT_STEP Z))) ∧ (Exa Z Z.heap (a_RESUME_NON_IDEMPOTENT_STEP Z) "com/example/resumatic/resumatic/core/ReasonCode") ∧ (Sta Z Z.heap "com/example/resumatic/resumatic/core/RunState" "WAITING" "Lcom/example/resumatic/resumatic/core/RunState;" (.ref (a_WAITING Z))) ∧ (Exa Z Z.heap (a_WAITING Z) "com/example/resumatic/resumatic/core/RunState") ∧ (Fld Z Z.heap (a_PENDING Z) "java/lang/Enum" "ordinal" "I" (.int (0 : Int32))) ∧ (Fld Z Z.heap (a_WAITING Z) "java/lang/Enum" "ordinal" "I" (.int (2 : Int32))) ∧ (Sta Z Z.heap "com/example/resumatic/resumatic/core/RunState" "FAILED" "Lcom/example/resumatic/resumatic/core/RunState;" (.ref (a_FAILED Z))) ∧ (Exa Z Z.heap (a_FAILED Z) "com/example/resumatic/resumatic/core/RunState") ∧ (Fld Z Z.heap (a_FAILED Z) "java/lang/Enum" "ordinal" "I" (.int (3 : Int32))) ∧ (Sta Z Z.heap "com/example/resumatic/resumatic/core/RunState" "RESUME_ESCALATED" "Lcom/example/resumatic/resumatic/core/RunState;" (.ref (a_RESUME_ESCALATED Z))) ∧ (Exa Z Z.heap (a_RESUME_ESCALATED Z) "com/example/resumatic/resumatic/core/RunState") ∧ (Fld Z Z.heap (a_RESUME_ESCALATED Z) "java/lang/Enum" "ordinal" "I" (.int (4 : Int32))) ∧ (Sta Z Z.heap "com/example/resumatic/resumatic/core/ReasonCode" "RESUME_ALLOWED" "Lcom/example/resumatic/resumatic/core/ReasonCode;" (.ref (a_RESUME_ALLOWED Z))) ∧ (Exa Z Z.heap (a_RESUME_ALLOWED Z) "com/example/resumatic/resumatic/core/ReasonCode") ∧ (Fld Z Z.heap (a_RESUME_NON_IDEMPOTENT_STEP Z) "java/lang/Enum" "ordinal" "I" (.int (3 : Int32))) ∧ (Fld Z Z.heap (a_RESUME_ALLOWED Z) "java/lang/Enum" "ordinal" "I" (.int (0 : Int32))) ∧ (Sta Z Z.heap "com/example/resumatic/resumatic/core/ReasonCode" "RESUME_ATTEMPT_LIMIT_REACHED" "Lcom/example/resumatic/resumatic/core/ReasonCode;" (.ref (a_RESUME_ATTEMPT_LIMIT_REACHED Z))) ∧ (Exa Z Z.heap (a_RESUME_ATTEMPT_LIMIT_REACHED Z) "com/example/resumatic/resumatic/core/ReasonCode") ∧ (Fld Z Z.heap (a_RESUME_ATTEMPT_LIMIT_REACHED Z) "java/lang/Enum" "ordinal" "I" (.int (6 : Int32))) ∧ (Sta Z Z.heap "com/example/resumatic/resumatic/core/ReasonCode" "RESUME_MISSING_CHECKPOINT" "Lcom/example/resumatic/resumatic/core/ReasonCode;" (.ref (a_RESUME_MISSING_CHECKPOINT Z))) ∧ (Exa Z Z.heap (a_RESUME_MISSING_CHECKPOINT Z) "com/example/resumatic/resumatic/core/ReasonCode") ∧ (Fld Z Z.heap (a_RESUME_MISSING_CHECKPOINT Z) "java/lang/Enum" "ordinal" "I" (.int (1 : Int32))) ∧ (Sta Z Z.heap "com/example/resumatic/resumatic/core/ReasonCode" "RESUME_UNKNOWN_INTERRUPTION_CLASS" "Lcom/example/resumatic/resumatic/core/ReasonCode;" (.ref (a_RESUME_UNKNOWN_INTERRUPTION_CLASS Z))) ∧ (Exa Z Z.heap (a_RESUME_UNKNOWN_INTERRUPTION_CLASS Z) "com/example/resumatic/resumatic/core/ReasonCode") ∧ (Fld Z Z.heap (a_RESUME_UNKNOWN_INTERRUPTION_CLASS Z) "java/lang/Enum" "ordinal" "I" (.int (2 : Int32))) ∧ (Sta Z Z.heap "com/example/resumatic/resumatic/core/RunState" "RUNNING" "Lcom/example/resumatic/resumatic/core/RunState;" (.ref (a_RUNNING Z))) ∧ (Exa Z Z.heap (a_RUNNING Z) "com/example/resumatic/resumatic/core/RunState") ∧ (Fld Z Z.heap (a_RUNNING Z) "java/lang/Enum" "ordinal" "I" (.int (1 : Int32))) ∧ (Sta Z Z.heap "com/example/resumatic/resumatic/core/ReasonCode" "RESUME_MISSING_RUNTIME_ARTIFACTS" "Lcom/example/resumatic/resumatic/core/ReasonCode;" (.ref (a_RESUME_MISSING_RUNTIME_ARTIFACTS Z))) ∧ (Exa Z Z.heap (a_RESUME_MISSING_RUNTIME_ARTIFACTS Z) "com/example/resumatic/resumatic/core/ReasonCode") ∧ (Fld Z Z.heap (a_RESUME_MISSING_RUNTIME_ARTIFACTS Z) "java/lang/Enum" "ordinal" "I" (.int (4 : Int32))) ∧ (Sta Z Z.heap "com/example/resumatic/resumatic/core/RunState" "COMPLETED" "Lcom/example/resumatic/resumatic/core/RunState;" (.ref (a_COMPLETED Z))) ∧ (Exa Z Z.heap (a_COMPLETED Z) "com/example/resumatic/resumatic/core/RunState") ∧ (Fld Z Z.heap (a_COMPLETED Z) "java/lang/Enum" "ordinal" "I" (.int (5 : Int32)))
theorem s_a_PENDING {Z : State} (h : St Z) : Sta Z Z.heap "com/example/resumatic/resumatic/core/RunState" "PENDING" "Lcom/example/resumatic/resumatic/core/RunState;" (.ref (a_PENDING Z)) := h.1
theorem e_a_PENDING {Z : State} (h : St Z) : Exa Z Z.heap (a_PENDING Z) "com/example/resumatic/resumatic/core/RunState" := h.2.1
theorem s_a_RESUME_NON_IDEMPOTENT_STEP {Z : State} (h : St Z) : Sta Z Z.heap "com/example/resumatic/resumatic/core/ReasonCode" "RESUME_NON_IDEMPOTENT_STEP" "Lcom/example/resumatic/resumatic/core/ReasonCode;" (.ref (a_RESUME_NON_IDEMPOTENT_STEP Z)) := h.2.2.1
theorem e_a_RESUME_NON_IDEMPOTENT_STEP {Z : State} (h : St Z) : Exa Z Z.heap (a_RESUME_NON_IDEMPOTENT_STEP Z) "com/example/resumatic/resumatic/core/ReasonCode" := h.2.2.2.1
theorem s_a_WAITING {Z : State} (h : St Z) : Sta Z Z.heap "com/example/resumatic/resumatic/core/RunState" "WAITING" "Lcom/example/resumatic/resumatic/core/RunState;" (.ref (a_WAITING Z)) := h.2.2.2.2.1
theorem e_a_WAITING {Z : State} (h : St Z) : Exa Z Z.heap (a_WAITING Z) "com/example/resumatic/resumatic/core/RunState" := h.2.2.2.2.2.1
theorem f_a_PENDING_ordinal {Z : State} (h : St Z) : Fld Z Z.heap (a_PENDING Z) "java/lang/Enum" "ordinal" "I" (.int (0 : Int32)) := h.2.2.2.2.2.2.1
theorem f_a_WAITING_ordinal {Z : State} (h : St Z) : Fld Z Z.heap (a_WAITING Z) "java/lang/Enum" "ordinal" "I" (.int (2 : Int32)) := h.2.2.2.2.2.2.2.1
theorem s_a_FAILED {Z : State} (h : St Z) : Sta Z Z.heap "com/example/resumatic/resumatic/core/RunState" "FAILED" "Lcom/example/resumatic/resumatic/core/RunState;" (.ref (a_FAILED Z)) := h.2.2.2.2.2.2.2.2.1
theorem e_a_FAILED {Z : State} (h : St Z) : Exa Z Z.heap (a_FAILED Z) "com/example/resumatic/resumatic/core/RunState" := h.2.2.2.2.2.2.2.2.2.1
theorem f_a_FAILED_ordinal {Z : State} (h : St Z) : Fld Z Z.heap (a_FAILED Z) "java/lang/Enum" "ordinal" "I" (.int (3 : Int32)) := h.2.2.2.2.2.2.2.2.2.2.1
theorem s_a_RESUME_ESCALATED {Z : State} (h : St Z) : Sta Z Z.heap "com/example/resumatic/resumatic/core/RunState" "RESUME_ESCALATED" "Lcom/example/resumatic/resumatic/core/RunState;" (.ref (a_RESUME_ESCALATED Z)) := h.2.2.2.2.2.2.2.2.2.2.2.1
theorem e_a_RESUME_ESCALATED {Z : State} (h : St Z) : Exa Z Z.heap (a_RESUME_ESCALATED Z) "com/example/resumatic/resumatic/core/RunState" := h.2.2.2.2.2.2.2.2.2.2.2.2.1
theorem f_a_RESUME_ESCALATED_ordinal {Z : State} (h : St Z) : Fld Z Z.heap (a_RESUME_ESCALATED Z) "java/lang/Enum" "ordinal" "I" (.int (4 : Int32)) := h.2.2.2.2.2.2.2.2.2.2.2.2.2.1
theorem s_a_RESUME_ALLOWED {Z : State} (h : St Z) : Sta Z Z.heap "com/example/resumatic/resumatic/core/ReasonCode" "RESUME_ALLOWED" "Lcom/example/resumatic/resumatic/core/ReasonCode;" (.ref (a_RESUME_ALLOWED Z)) := h.2.2.2.2.2.2.2.2.2.2.2.2.2.2.1
theorem e_a_RESUME_ALLOWED {Z : State} (h : St Z) : Exa Z Z.heap (a_RESUME_ALLOWED Z) "com/example/resumatic/resumatic/core/ReasonCode" := h.2.2.2.2.2.2.2.2.2.2.2.2.2.2.2.1
theorem f_a_RESUME_NON_IDEMPOTENT_STEP_ordinal {Z : State} (h : St Z) : Fld Z Z.heap (a_RESUME_NON_IDEMPOTENT_STEP Z) "java/lang/Enum" "ordinal" "I" (.int (3 : Int32)) := h.2.2.2.2.2.2.2.2.2.2.2.2.2.2.2.2.1
theorem f_a_RESUME_ALLOWED_ordinal {Z : State} (h : St Z) : Fld Z Z.heap (a_RESUME_ALLOWED Z) "java/lang/Enum" "ordinal" "I" (.int (0 : Int32)) := h.2.2.2.2.2.2.2.2.2.2.2.2.2.2.2.2.2.1
theorem s_a_RESUME_ATTEMPT_LIMIT_REACHED {Z : State} (h : St Z) : Sta Z Z.heap "com/example/resumatic/resumatic/core/ReasonCode" "RESUME_ATTEMPT_LIMIT_REACHED" "Lcom/example/resumatic/resumatic/core/ReasonCode;" (.ref (a_RESUME_ATTEMPT_LIMIT_REACHED Z)) := h.2.2.2.2.2.2.2.2.2.2.2.2.2.2.2.2.2.2.1
theorem e_a_RESUME_ATTEMPT_LIMIT_REACHED {Z : State} (h : St Z) : Exa Z Z.heap (a_RESUME_ATTEMPT_LIMIT_REACHED Z) "com/example/resumatic/resumatic/core/ReasonCode" := h.2.2.2.2.2.2.2.2.2.2.2.2.2.2.2.2.2.2.2.1
theorem f_a_RESUME_ATTEMPT_LIMIT_REACHED_ordinal {Z : State} (h : St Z) : Fld Z Z.heap (a_RESUME_ATTEMPT_LIMIT_REACHED Z) "java/lang/Enum" "ordinal" "I" (.int (6 : Int32)) := h.2.2.2.2.2.2.2.2.2.2.2.2.2.2.2.2.2.2.2.2.1
theorem s_a_RESUME_MISSING_CHECKPOINT {Z : State} (h : St Z) : Sta Z Z.heap "com/example/resumatic/resumatic/core/ReasonCode" "RESUME_MISSING_CHECKPOINT" "Lcom/example/resumatic/resumatic/core/ReasonCode;" (.ref (a_RESUME_MISSING_CHECKPOINT Z)) := h.2.2.2.2.2.2.2.2.2.2.2.2.2.2.2.2.2.2.2.2.2.1
theorem e_a_RESUME_MISSING_CHECKPOINT {Z : State} (h : St Z) : Exa Z Z.heap (a_RESUME_MISSING_CHECKPOINT Z) "com/example/resumatic/resumatic/core/ReasonCode" := h.2.2.2.2.2.2.2.2.2.2.2.2.2.2.2.2.2.2.2.2.2.2.1
theorem f_a_RESUME_MISSING_CHECKPOINT_ordinal {Z : State} (h : St Z) : Fld Z Z.heap (a_RESUME_MISSING_CHECKPOINT Z) "java/lang/Enum" "ordinal" "I" (.int (1 : Int32)) := h.2.2.2.2.2.2.2.2.2.2.2.2.2.2.2.2.2.2.2.2.2.2.2.1
theorem s_a_RESUME_UNKNOWN_INTERRUPTION_CLASS {Z : State} (h : St Z) : Sta Z Z.heap "com/example/resumatic/resumatic/core/ReasonCode" "RESUME_UNKNOWN_INTERRUPTION_CLASS" "Lcom/example/resumatic/resumatic/core/ReasonCode;" (.ref (a_RESUME_UNKNOWN_INTERRUPTION_CLASS Z)) := h.2.2.2.2.2.2.2.2.2.2.2.2.2.2.2.2.2.2.2.2.2.2.2.2.1
theorem e_a_RESUME_UNKNOWN_INTERRUPTION_CLASS {Z : State} (h : St Z) : Exa Z Z.heap (a_RESUME_UNKNOWN_INTERRUPTION_CLASS Z) "com/example/resumatic/resumatic/core/ReasonCode" := h.2.2.2.2.2.2.2.2.2.2.2.2.2.2.2.2.2.2.2.2.2.2.2.2.2.1
theorem f_a_RESUME_UNKNOWN_INTERRUPTION_CLASS_ordinal {Z : State} (h : St Z) : Fld Z Z.heap (a_RESUME_UNKNOWN_INTERRUPTION_CLASS Z) "java/lang/Enum" "ordinal" "I" (.int (2 : Int32)) := h.2.2.2.2.2.2.2.2.2.2.2.2.2.2.2.2.2.2.2.2.2.2.2.2.2.2.1
theorem s_a_RUNNING {Z : State} (h : St Z) : Sta Z Z.heap "com/example/resumatic/resumatic/core/RunState" "RUNNING" "Lcom/example/resumatic/resumatic/core/RunState;" (.ref (a_RUNNING Z)) := h.2.2.2.2.2.2.2.2.2.2.2.2.2.2.2.2.2.2.2.2.2.2.2.2.2.2.2.1
theorem e_a_RUNNING {Z : State} (h : St Z) : Exa Z Z.heap (a_RUNNING Z) "com/example/resumatic/resumatic/core/RunState" := h.2.2.2.2.2.2.2.2.2.2.2.2.2.2.2.2.2.2.2.2.2.2.2.2.2.2.2.2.1
theorem f_a_RUNNING_ordinal {Z : State} (h : St Z) : Fld Z Z.heap (a_RUNNING Z) "java/lang/Enum" "ordinal" "I" (.int (1 : Int32)) := h.2.2.2.2.2.2.2.2.2.2.2.2.2.2.2.2.2.2.2.2.2.2.2.2.2.2.2.2.2.1
theorem s_a_RESUME_MISSING_RUNTIME_ARTIFACTS {Z : State} (h : St Z) : Sta Z Z.heap "com/example/resumatic/resumatic/core/ReasonCode" "RESUME_MISSING_RUNTIME_ARTIFACTS" "Lcom/example/resumatic/resumatic/core/ReasonCode;" (.ref (a_RESUME_MISSING_RUNTIME_ARTIFACTS Z)) := h.2.2.2.2.2.2.2.2.2.2.2.2.2.2.2.2.2.2.2.2.2.2.2.2.2.2.2.2.2.2.1
theorem e_a_RESUME_MISSING_RUNTIME_ARTIFACTS {Z : State} (h : St Z) : Exa Z Z.heap (a_RESUME_MISSING_RUNTIME_ARTIFACTS Z) "com/example/resumatic/resumatic/core/ReasonCode" := h.2.2.2.2.2.2.2.2.2.2.2.2.2.2.2.2.2.2.2.2.2.2.2.2.2.2.2.2.2.2.2.1
theorem f_a_RESUME_MISSING_RUNTIME_ARTIFACTS_ordinal {Z : State} (h : St Z) : Fld Z Z.heap (a_RESUME_MISSING_RUNTIME_ARTIFACTS Z) "java/lang/Enum" "ordinal" "I" (.int (4 : Int32)) := h.2.2.2.2.2.2.2.2.2.2.2.2.2.2.2.2.2.2.2.2.2.2.2.2.2.2.2.2.2.2.2.2.1
theorem s_a_COMPLETED {Z : State} (h : St Z) : Sta Z Z.heap "com/example/resumatic/resumatic/core/RunState" "COMPLETED" "Lcom/example/resumatic/resumatic/core/RunState;" (.ref (a_COMPLETED Z)) := h.2.2.2.2.2.2.2.2.2.2.2.2.2.2.2.2.2.2.2.2.2.2.2.2.2.2.2.2.2.2.2.2.2.1
theorem e_a_COMPLETED {Z : State} (h : St Z) : Exa Z Z.heap (a_COMPLETED Z) "com/example/resumatic/resumatic/core/RunState" := h.2.2.2.2.2.2.2.2.2.2.2.2.2.2.2.2.2.2.2.2.2.2.2.2.2.2.2.2.2.2.2.2.2.2.1
theorem f_a_COMPLETED_ordinal {Z : State} (h : St Z) : Fld Z Z.heap (a_COMPLETED Z) "java/lang/Enum" "ordinal" "I" (.int (5 : Int32)) := h.2.2.2.2.2.2.2.2.2.2.2.2.2.2.2.2.2.2.2.2.2.2.2.2.2.2.2.2.2.2.2.2.2.2.2
theorem d1_0 : decode method_2_code 0 = .ok (.iload_n 0, 1) := by decide +kernel
theorem d1_1 : decode method_2_code 1 = .ok (.ifCond .ne 7, 3) := by decide +kernel
theorem d1_4 : decode method_2_code 4 = .ok (.getstatic 7, 3) := by decide +kernel
theorem d1_7 : decode method_2_code 7 = .ok (.areturn, 1) := by decide +kernel
theorem d1_8 : decode method_2_code 8 = .ok (.iload_n 0, 1) := by decide +kernel
theorem d1_9 : decode method_2_code 9 = .ok (.iconst 1, 1) := by decide +kernel
theorem d1_10 : decode method_2_code 10 = .ok (.if_icmp .ne 7, 3) := by decide +kernel
theorem d1_13 : decode method_2_code 13 = .ok (.getstatic 13, 3) := by decide +kernel
theorem d1_16 : decode method_2_code 16 = .ok (.areturn, 1) := by decide +kernel
theorem d1_17 : decode method_2_code 17 = .ok (.iload_n 0, 1) := by decide +kernel
theorem d1_18 : decode method_2_code 18 = .ok (.iconst 2, 1) := by decide +kernel
theorem d1_19 : decode method_2_code 19 = .ok (.if_icmp .ne 7, 3) := by decide +kernel
theorem d1_22 : decode method_2_code 22 = .ok (.getstatic 16, 3) := by decide +kernel
theorem d1_25 : decode method_2_code 25 = .ok (.areturn, 1) := by decide +kernel
theorem d1_26 : decode method_2_code 26 = .ok (.iload_n 0, 1) := by decide +kernel
theorem d1_27 : decode method_2_code 27 = .ok (.iconst 3, 1) := by decide +kernel
theorem d1_28 : decode method_2_code 28 = .ok (.if_icmp .ne 7, 3) := by decide +kernel
theorem d1_31 : decode method_2_code 31 = .ok (.getstatic 19, 3) := by decide +kernel
theorem d1_34 : decode method_2_code 34 = .ok (.areturn, 1) := by decide +kernel
theorem d1_35 : decode method_2_code 35 = .ok (.iload_n 0, 1) := by decide +kernel
theorem d1_36 : decode method_2_code 36 = .ok (.iconst 4, 1) := by decide +kernel
theorem d1_37 : decode method_2_code 37 = .ok (.if_icmp .ne 7, 3) := by decide +kernel
theorem d1_40 : decode method_2_code 40 = .ok (.getstatic 22, 3) := by decide +kernel
theorem d1_43 : decode method_2_code 43 = .ok (.areturn, 1) := by decide +kernel
theorem d1_44 : decode method_2_code 44 = .ok (.getstatic 25, 3) := by decide +kernel
theorem d1_47 : decode method_2_code 47 = .ok (.areturn, 1) := by decide +kernel
def fn1 (Z : State) (p0 : Int32) : Addr :=
  if p0 = (0 : Int32) then
    (a_PENDING Z)
  else
    if p0 = (1 : Int32) then
      (a_RUNNING Z)
    else
      if p0 = (2 : Int32) then
        (a_WAITING Z)
      else
        if p0 = (3 : Int32) then
          (a_FAILED Z)
        else
          if p0 = (4 : Int32) then
            (a_RESUME_ESCALATED Z)
          else
            (a_COMPLETED Z)
theorem ef_1 (m : MethodId) (x0 : Int32) : entryFrame m #[(.int x0)] 1 = mkF m 0 #[.val (.int x0)] [] := by first | (simp [entryFrame, mkF, argsToLocals, Value.category]; done) | rfl
theorem pn_0 : plainName "com/example/resumatic/resumatic/core/DecisionEngineDecidesRequestInPinLaw" = true := by first | (simp [plainName, overriddenIn]; done) | decide +kernel
set_option maxRecDepth 65536 in
set_option maxHeartbeats 40000000 in
theorem rm1 (l : Launch) (Z : State) (a0 : Array Value) (hw : ∀ d ∈ tables_1, d.before a0 Z = true) (hS : St Z) (ws : List Jvm.Cond) (p0 : Int32) (h0 : Heap) (n0 : Nat) (O0 : Old Z n0 h0) :
    MetFree l (⟨"com/example/resumatic/resumatic/core/DecisionEngineDecidesRequestInPinLaw", "stateOf", "(I)Lcom/example/resumatic/resumatic/core/RunState;"⟩ : MethodName) (head1 (Jvm.Cond.code (⟨"com/example/resumatic/resumatic/core/DecisionEngineDecidesRequestInPinLaw", "stateOf", "(I)Lcom/example/resumatic/resumatic/core/RunState;"⟩ : MethodName) method_2_code 1 (some (.object "com/example/resumatic/resumatic/core/RunState")) :: ws) ({ frames := 0, cells := 0, slots := 0, locals := 0 } : Room)) (fun a U => a = #[(.int p0)] ∧ Z.Warmed39 U.vm ∧ U.heap = h0) (fun _ _ _ _ _ => True) (fun _ U o U' => ∃ v L, o = .returned v ∧ own_Q (fun v hE L => v = some (.ref (fn1 Z p0)) ∧ Fr n0 L ∧ hE = h0) v U'.heap L ∧ FrameEnd U o U' L ({ frames := 0, cells := 0, slots := 0, locals := 0 } : Room).cells ({ frames := 0, cells := 0, slots := 0, locals := 0 } : Room).slots) := by
  refine MetFree.of_bodySF (plainFor_of_name pn_0) hisR ?_
  intro p e s m args below meth c s₁ Bd hml0 hP hK
  obtain ⟨rfl, hZ, hh⟩ := hP
  have hx := Bd.exec
  have hby := Bd.bytes
  have hml : c.maxLocals = 1 := hml0
  have hown : s.vm.findClass "com/example/resumatic/resumatic/core/DecisionEngineDecidesRequestInPinLaw" = some m.cls := findClass_of_methodNamed Bd.named
  have X0 : Stand p l e ({ frames := 0, cells := 0, slots := 0, locals := 0 } : Room) s m #[(.int p0)] below meth c s₁ [] 0 0 := Stand.of_body Bd
  have e0 : s₁.heap = h0 := by rw [← hh, Bd.state]; rfl
  have N0 := Fr.nil n0
  have pre0 : ∀ t, Steps p.tables e below (s₁.setTop (mkF m 0 #[oI p0] [])) t → Steps p.tables e below (s₁.setTop (entryFrame m #[(.int p0)] 1)) t := fun t k => castTop (ef_1 m p0) k
  have pre1 : ∀ t, oP p e below s₁ (mkF m 1 #[oI p0] [(.int p0)]) t → oP p e below s₁ (entryFrame m #[(.int p0)] 1) t := fun t k => pre0 t (by
    show oP p e below s₁ (mkF m 0 #[oI p0] []) _
    refine XS.iloadN X0.here hx rfl (hb hby d1_0) rfl ?_
    exact k)
  by_cases hc2 : p0 = (0 : Int32)
  · obtain ⟨T3, X3, e3, st3⟩ := getS2 X0 hx hZ hown (host := "") (Or.inl (hw _ (List.mem_of_getElem? (i := 5) rfl))) Via.refl e0 ((s_a_PENDING hS).ext O0.2) (g := (mkF m 4 #[oI p0] [])) rfl (hb hby d1_4)
    obtain ⟨fs, hr, hrun, hended, hW, hsame⟩ := X3.leave (v := some (.ref (a_PENDING Z))) (fun h => by rw [Bd.returns] at h; cases h)
    refine ⟨_, _, pre1 _ ?_, hrun, hended, _, _, rfl, ?_, ⟨_, rfl⟩, hW, hsame.mono (by decide) (by decide)⟩
    · show oP p e below s₁ (mkF m 1 #[oI p0] [(.int p0)]) _
      refine XS.ifNo X0.here hx rfl (hb hby d1_1) rfl ((if0 _ _).trans (teq hc2).2) ?_
      show oP p e below s₁ (mkF m 4 #[oI p0] []) _
      refine st3 _ ?_
      show oP p e below T3 (mkF m 7 #[oI p0] [(.ref (a_PENDING Z))]) _
      exact own_retA X3 hx Bd.returns rfl rfl (hb hby d1_7) hr
    · show (some (.ref (a_PENDING Z)) : Option Value) = some (.ref (fn1 Z p0)) ∧ Fr n0 _ ∧ T3.heap = h0
      rw [e3]
      refine ⟨?_, N0, rfl⟩
      unfold fn1
      rw [if_pos hc2]
  · have pre4 : ∀ t, oP p e below s₁ (mkF m 10 #[oI p0] [(.int (1 : Int32)), (.int p0)]) t → oP p e below s₁ (entryFrame m #[(.int p0)] 1) t := fun t k => pre1 t (by
      show oP p e below s₁ (mkF m 1 #[oI p0] [(.int p0)]) _
      refine XS.ifYes X0.here hx rfl (pc0 := 1) (pc' := 8) rfl (hb hby d1_1) rfl ((if0 _ _).trans (feq hc2).2) (by decide) (by decide) ?_
      show oP p e below s₁ (mkF m 8 #[oI p0] []) _
      refine XS.iloadN X0.here hx rfl (hb hby d1_8) rfl ?_
      show oP p e below s₁ (mkF m 9 #[oI p0] [(.int p0)]) _
      refine XS.iconst X0.here hx rfl (hb hby d1_9) ?_
      exact k)
    by_cases hc5 : p0 = (1 : Int32)
    · obtain ⟨T6, X6, e6, st6⟩ := getS2 X0 hx hZ hown (host := "") (Or.inl (hw _ (List.mem_of_getElem? (i := 40) rfl))) Via.refl e0 ((s_a_RUNNING hS).ext O0.2) (g := (mkF m 13 #[oI p0] [])) rfl (hb hby d1_13)
      obtain ⟨fs, hr, hrun, hended, hW, hsame⟩ := X6.leave (v := some (.ref (a_RUNNING Z))) (fun h => by rw [Bd.returns] at h; cases h)
      refine ⟨_, _, pre4 _ ?_, hrun, hended, _, _, rfl, ?_, ⟨_, rfl⟩, hW, hsame.mono (by decide) (by decide)⟩
      · show oP p e below s₁ (mkF m 10 #[oI p0] [(.int (1 : Int32)), (.int p0)]) _
        refine XS.icmpNo X0.here hx rfl (hb hby d1_10) rfl (teq hc5).2 ?_
        show oP p e below s₁ (mkF m 13 #[oI p0] []) _
        refine st6 _ ?_
        show oP p e below T6 (mkF m 16 #[oI p0] [(.ref (a_RUNNING Z))]) _
        exact own_retA X6 hx Bd.returns rfl rfl (hb hby d1_16) hr
      · show (some (.ref (a_RUNNING Z)) : Option Value) = some (.ref (fn1 Z p0)) ∧ Fr n0 _ ∧ T6.heap = h0
        rw [e6]
        refine ⟨?_, N0, rfl⟩
        unfold fn1
        rw [if_neg hc2, if_pos hc5]
    · have pre7 : ∀ t, oP p e below s₁ (mkF m 19 #[oI p0] [(.int (2 : Int32)), (.int p0)]) t → oP p e below s₁ (entryFrame m #[(.int p0)] 1) t := fun t k => pre4 t (by
        show oP p e below s₁ (mkF m 10 #[oI p0] [(.int (1 : Int32)), (.int p0)]) _
        refine XS.icmpYes X0.here hx rfl (pc0 := 10) (pc' := 17) rfl (hb hby d1_10) rfl (feq hc5).2 (by decide) (by decide) ?_
        show oP p e below s₁ (mkF m 17 #[oI p0] []) _
        refine XS.iloadN X0.here hx rfl (hb hby d1_17) rfl ?_
        show oP p e below s₁ (mkF m 18 #[oI p0] [(.int p0)]) _
        refine XS.iconst X0.here hx rfl (hb hby d1_18) ?_
        exact k)
      by_cases hc8 : p0 = (2 : Int32)
      · obtain ⟨T9, X9, e9, st9⟩ := getS2 X0 hx hZ hown (host := "") (Or.inl (hw _ (List.mem_of_getElem? (i := 14) rfl))) Via.refl e0 ((s_a_WAITING hS).ext O0.2) (g := (mkF m 22 #[oI p0] [])) rfl (hb hby d1_22)
        obtain ⟨fs, hr, hrun, hended, hW, hsame⟩ := X9.leave (v := some (.ref (a_WAITING Z))) (fun h => by rw [Bd.returns] at h; cases h)
        refine ⟨_, _, pre7 _ ?_, hrun, hended, _, _, rfl, ?_, ⟨_, rfl⟩, hW, hsame.mono (by decide) (by decide)⟩
        · show oP p e below s₁ (mkF m 19 #[oI p0] [(.int (2 : Int32)), (.int p0)]) _
          refine XS.icmpNo X0.here hx rfl (hb hby d1_19) rfl (teq hc8).2 ?_
          show oP p e below s₁ (mkF m 22 #[oI p0] []) _
          refine st9 _ ?_
          show oP p e below T9 (mkF m 25 #[oI p0] [(.ref (a_WAITING Z))]) _
          exact own_retA X9 hx Bd.returns rfl rfl (hb hby d1_25) hr
        · show (some (.ref (a_WAITING Z)) : Option Value) = some (.ref (fn1 Z p0)) ∧ Fr n0 _ ∧ T9.heap = h0
          rw [e9]
          refine ⟨?_, N0, rfl⟩
          unfold fn1
          rw [if_neg hc2, if_neg hc5, if_pos hc8]
      · have pre10 : ∀ t, oP p e below s₁ (mkF m 28 #[oI p0] [(.int (3 : Int32)), (.int p0)]) t → oP p e below s₁ (entryFrame m #[(.int p0)] 1) t := fun t k => pre7 t (by
          show oP p e below s₁ (mkF m 19 #[oI p0] [(.int (2 : Int32)), (.int p0)]) _
          refine XS.icmpYes X0.here hx rfl (pc0 := 19) (pc' := 26) rfl (hb hby d1_19) rfl (feq hc8).2 (by decide) (by decide) ?_
          show oP p e below s₁ (mkF m 26 #[oI p0] []) _
          refine XS.iloadN X0.here hx rfl (hb hby d1_26) rfl ?_
          show oP p e below s₁ (mkF m 27 #[oI p0] [(.int p0)]) _
          refine XS.iconst X0.here hx rfl (hb hby d1_27) ?_
          exact k)
        by_cases hc11 : p0 = (3 : Int32)
        · obtain ⟨T12, X12, e12, st12⟩ := getS2 X0 hx hZ hown (host := "") (Or.inl (hw _ (List.mem_of_getElem? (i := 16) rfl))) Via.refl e0 ((s_a_FAILED hS).ext O0.2) (g := (mkF m 31 #[oI p0] [])) rfl (hb hby d1_31)
          obtain ⟨fs, hr, hrun, hended, hW, hsame⟩ := X12.leave (v := some (.ref (a_FAILED Z))) (fun h => by rw [Bd.returns] at h; cases h)
          refine ⟨_, _, pre10 _ ?_, hrun, hended, _, _, rfl, ?_, ⟨_, rfl⟩, hW, hsame.mono (by decide) (by decide)⟩
          · show oP p e below s₁ (mkF m 28 #[oI p0] [(.int (3 : Int32)), (.int p0)]) _
            refine XS.icmpNo X0.here hx rfl (hb hby d1_28) rfl (teq hc11).2 ?_
            show oP p e below s₁ (mkF m 31 #[oI p0] []) _
            refine st12 _ ?_
            show oP p e below T12 (mkF m 34 #[oI p0] [(.ref (a_FAILED Z))]) _
            exact own_retA X12 hx Bd.returns rfl rfl (hb hby d1_34) hr
          · show (some (.ref (a_FAILED Z)) : Option Value) = some (.ref (fn1 Z p0)) ∧ Fr n0 _ ∧ T12.heap = h0
            rw [e12]
            refine ⟨?_, N0, rfl⟩
            unfold fn1
            rw [if_neg hc2, if_neg hc5, if_neg hc8, if_pos hc11]
        · have pre13 : ∀ t, oP p e below s₁ (mkF m 37 #[oI p0] [(.int (4 : Int32)), (.int p0)]) t → oP p e below s₁ (entryFrame m #[(.int p0)] 1) t := fun t k => pre10 t (by
            show oP p e below s₁ (mkF m 28 #[oI p0] [(.int (3 : Int32)), (.int p0)]) _
            refine XS.icmpYes X0.here hx rfl (pc0 := 28) (pc' := 35) rfl (hb hby d1_28) rfl (feq hc11).2 (by decide) (by decide) ?_
            show oP p e below s₁ (mkF m 35 #[oI p0] []) _
            refine XS.iloadN X0.here hx rfl (hb hby d1_35) rfl ?_
            show oP p e below s₁ (mkF m 36 #[oI p0] [(.int p0)]) _
            refine XS.iconst X0.here hx rfl (hb hby d1_36) ?_
            exact k)
          by_cases hc14 : p0 = (4 : Int32)
          · obtain ⟨T15, X15, e15, st15⟩ := getS2 X0 hx hZ hown (host := "") (Or.inl (hw _ (List.mem_of_getElem? (i := 18) rfl))) Via.refl e0 ((s_a_RESUME_ESCALATED hS).ext O0.2) (g := (mkF m 40 #[oI p0] [])) rfl (hb hby d1_40)
            obtain ⟨fs, hr, hrun, hended, hW, hsame⟩ := X15.leave (v := some (.ref (a_RESUME_ESCALATED Z))) (fun h => by rw [Bd.returns] at h; cases h)
            refine ⟨_, _, pre13 _ ?_, hrun, hended, _, _, rfl, ?_, ⟨_, rfl⟩, hW, hsame.mono (by decide) (by decide)⟩
            · show oP p e below s₁ (mkF m 37 #[oI p0] [(.int (4 : Int32)), (.int p0)]) _
              refine XS.icmpNo X0.here hx rfl (hb hby d1_37) rfl (teq hc14).2 ?_
              show oP p e below s₁ (mkF m 40 #[oI p0] []) _
              refine st15 _ ?_
              show oP p e below T15 (mkF m 43 #[oI p0] [(.ref (a_RESUME_ESCALATED Z))]) _
              exact own_retA X15 hx Bd.returns rfl rfl (hb hby d1_43) hr
            · show (some (.ref (a_RESUME_ESCALATED Z)) : Option Value) = some (.ref (fn1 Z p0)) ∧ Fr n0 _ ∧ T15.heap = h0
              rw [e15]
              refine ⟨?_, N0, rfl⟩
              unfold fn1
              rw [if_neg hc2, if_neg hc5, if_neg hc8, if_neg hc11, if_pos hc14]
          · obtain ⟨T16, X16, e16, st16⟩ := getS2 X0 hx hZ hown (host := "") (Or.inl (hw _ (List.mem_of_getElem? (i := 44) rfl))) Via.refl e0 ((s_a_COMPLETED hS).ext O0.2) (g := (mkF m 44 #[oI p0] [])) rfl (hb hby d1_44)
            obtain ⟨fs, hr, hrun, hended, hW, hsame⟩ := X16.leave (v := some (.ref (a_COMPLETED Z))) (fun h => by rw [Bd.returns] at h; cases h)
            refine ⟨_, _, pre13 _ ?_, hrun, hended, _, _, rfl, ?_, ⟨_, rfl⟩, hW, hsame.mono (by decide) (by decide)⟩
            · show oP p e below s₁ (mkF m 37 #[oI p0] [(.int (4 : Int32)), (.int p0)]) _
              refine XS.icmpYes X0.here hx rfl (pc0 := 37) (pc' := 44) rfl (hb hby d1_37) rfl (feq hc14).2 (by decide) (by decide) ?_
              show oP p e below s₁ (mkF m 44 #[oI p0] []) _
              refine st16 _ ?_
              show oP p e below T16 (mkF m 47 #[oI p0] [(.ref (a_COMPLETED Z))]) _
              exact own_retA X16 hx Bd.returns rfl rfl (hb hby d1_47) hr
            · show (some (.ref (a_COMPLETED Z)) : Option Value) = some (.ref (fn1 Z p0)) ∧ Fr n0 _ ∧ T16.heap = h0
              rw [e16]
              refine ⟨?_, N0, rfl⟩
              unfold fn1
              rw [if_neg hc2, if_neg hc5, if_neg hc8, if_neg hc11, if_neg hc14]
theorem d2_0 : decode method_3_code 0 = .ok (.iload_n 0, 1) := by decide +kernel
theorem d2_1 : decode method_3_code 1 = .ok (.ifCond .ne 7, 3) := by decide +kernel
theorem d2_4 : decode method_3_code 4 = .ok (.getstatic 28, 3) := by decide +kernel
theorem d2_7 : decode method_3_code 7 = .ok (.areturn, 1) := by decide +kernel
theorem d2_8 : decode method_3_code 8 = .ok (.iload_n 0, 1) := by decide +kernel
theorem d2_9 : decode method_3_code 9 = .ok (.iconst 1, 1) := by decide +kernel
theorem d2_10 : decode method_3_code 10 = .ok (.if_icmp .ne 7, 3) := by decide +kernel
theorem d2_13 : decode method_3_code 13 = .ok (.getstatic 34, 3) := by decide +kernel
theorem d2_16 : decode method_3_code 16 = .ok (.areturn, 1) := by decide +kernel
theorem d2_17 : decode method_3_code 17 = .ok (.iload_n 0, 1) := by decide +kernel
theorem d2_18 : decode method_3_code 18 = .ok (.iconst 2, 1) := by decide +kernel
theorem d2_19 : decode method_3_code 19 = .ok (.if_icmp .ne 7, 3) := by decide +kernel
theorem d2_22 : decode method_3_code 22 = .ok (.getstatic 37, 3) := by decide +kernel
theorem d2_25 : decode method_3_code 25 = .ok (.areturn, 1) := by decide +kernel
theorem d2_26 : decode method_3_code 26 = .ok (.iload_n 0, 1) := by decide +kernel
theorem d2_27 : decode method_3_code 27 = .ok (.iconst 3, 1) := by decide +kernel
theorem d2_28 : decode method_3_code 28 = .ok (.if_icmp .ne 7, 3) := by decide +kernel
theorem d2_31 : decode method_3_code 31 = .ok (.getstatic 40, 3) := by decide +kernel
theorem d2_34 : decode method_3_code 34 = .ok (.areturn, 1) := by decide +kernel
theorem d2_35 : decode method_3_code 35 = .ok (.iload_n 0, 1) := by decide +kernel
theorem d2_36 : decode method_3_code 36 = .ok (.iconst 4, 1) := by decide +kernel
theorem d2_37 : decode method_3_code 37 = .ok (.if_icmp .ne 7, 3) := by decide +kernel
theorem d2_40 : decode method_3_code 40 = .ok (.getstatic 43, 3) := by decide +kernel
theorem d2_43 : decode method_3_code 43 = .ok (.areturn, 1) := by decide +kernel
theorem d2_44 : decode method_3_code 44 = .ok (.getstatic 46, 3) := by decide +kernel
theorem d2_47 : decode method_3_code 47 = .ok (.areturn, 1) := by decide +kernel
def fn2 (Z : State) (p0 : Int32) : Addr :=
  if p0 = (0 : Int32) then
    (a_RESUME_ALLOWED Z)
  else
    if p0 = (1 : Int32) then
      (a_RESUME_MISSING_CHECKPOINT Z)
    else
      if p0 = (2 : Int32) then
        (a_RESUME_UNKNOWN_INTERRUPTION_CLASS Z)
      else
        if p0 = (3 : Int32) then
          (a_RESUME_NON_IDEMPOTENT_STEP Z)
        else
          if p0 = (4 : Int32) then
            (a_RESUME_MISSING_RUNTIME_ARTIFACTS Z)
          else
            (a_RESUME_ATTEMPT_LIMIT_REACHED Z)
theorem ef_2 (m : MethodId) (x0 : Int32) : entryFrame m #[(.int x0)] 1 = mkF m 0 #[.val (.int x0)] [] := by first | (simp [entryFrame, mkF, argsToLocals, Value.category]; done) | rfl
set_option maxRecDepth 65536 in
set_option maxHeartbeats 40000000 in
theorem rm2 (l : Launch) (Z : State) (a0 : Array Value) (hw : ∀ d ∈ tables_1, d.before a0 Z = true) (hS : St Z) (ws : List Jvm.Cond) (p0 : Int32) (h0 : Heap) (n0 : Nat) (O0 : Old Z n0 h0) :
    MetFree l (⟨"com/example/resumatic/resumatic/core/DecisionEngineDecidesRequestInPinLaw", "codeOf", "(I)Lcom/example/resumatic/resumatic/core/ReasonCode;"⟩ : MethodName) (head1 (Jvm.Cond.code (⟨"com/example/resumatic/resumatic/core/DecisionEngineDecidesRequestInPinLaw", "codeOf", "(I)Lcom/example/resumatic/resumatic/core/ReasonCode;"⟩ : MethodName) method_3_code 1 (some (.object "com/example/resumatic/resumatic/core/ReasonCode")) :: ws) ({ frames := 0, cells := 0, slots := 0, locals := 0 } : Room)) (fun a U => a = #[(.int p0)] ∧ Z.Warmed39 U.vm ∧ U.heap = h0) (fun _ _ _ _ _ => True) (fun _ U o U' => ∃ v L, o = .returned v ∧ own_Q (fun v hE L => v = some (.ref (fn2 Z p0)) ∧ Fr n0 L ∧ hE = h0) v U'.heap L ∧ FrameEnd U o U' L ({ frames := 0, cells := 0, slots := 0, locals := 0 } : Room).cells ({ frames := 0, cells := 0, slots := 0, locals := 0 } : Room).slots) := by
  refine MetFree.of_bodySF (plainFor_of_name pn_0) hisR ?_
  intro p e s m args below meth c s₁ Bd hml0 hP hK
  obtain ⟨rfl, hZ, hh⟩ := hP
  have hx := Bd.exec
  have hby := Bd.bytes
  have hml : c.maxLocals = 1 := hml0
  have hown : s.vm.findClass "com/example/resumatic/resumatic/core/DecisionEngineDecidesRequestInPinLaw" = some m.cls := findClass_of_methodNamed Bd.named
  have X0 : Stand p l e ({ frames := 0, cells := 0, slots := 0, locals := 0 } : Room) s m #[(.int p0)] below meth c s₁ [] 0 0 := Stand.of_body Bd
  have e0 : s₁.heap = h0 := by rw [← hh, Bd.state]; rfl
  have N0 := Fr.nil n0
  have pre0 : ∀ t, Steps p.tables e below (s₁.setTop (mkF m 0 #[oI p0] [])) t → Steps p.tables e below (s₁.setTop (entryFrame m #[(.int p0)] 1)) t := fun t k => castTop (ef_2 m p0) k
  have pre17 : ∀ t, oP p e below s₁ (mkF m 1 #[oI p0] [(.int p0)]) t → oP p e below s₁ (entryFrame m #[(.int p0)] 1) t := fun t k => pre0 t (by
    show oP p e below s₁ (mkF m 0 #[oI p0] []) _
    refine XS.iloadN X0.here hx rfl (hb hby d2_0) rfl ?_
    exact k)
  by_cases hc18 : p0 = (0 : Int32)
  · obtain ⟨T19, X19, e19, st19⟩ := getS2 X0 hx hZ hown (host := "") (Or.inl (hw _ (List.mem_of_getElem? (i := 39) rfl))) Via.refl e0 ((s_a_RESUME_ALLOWED hS).ext O0.2) (g := (mkF m 4 #[oI p0] [])) rfl (hb hby d2_4)
    obtain ⟨fs, hr, hrun, hended, hW, hsame⟩ := X19.leave (v := some (.ref (a_RESUME_ALLOWED Z))) (fun h => by rw [Bd.returns] at h; cases h)
    refine ⟨_, _, pre17 _ ?_, hrun, hended, _, _, rfl, ?_, ⟨_, rfl⟩, hW, hsame.mono (by decide) (by decide)⟩
    · show oP p e below s₁ (mkF m 1 #[oI p0] [(.int p0)]) _
      refine XS.ifNo X0.here hx rfl (hb hby d2_1) rfl ((if0 _ _).trans (teq hc18).2) ?_
      show oP p e below s₁ (mkF m 4 #[oI p0] []) _
      refine st19 _ ?_
      show oP p e below T19 (mkF m 7 #[oI p0] [(.ref (a_RESUME_ALLOWED Z))]) _
      exact own_retA X19 hx Bd.returns rfl rfl (hb hby d2_7) hr
    · show (some (.ref (a_RESUME_ALLOWED Z)) : Option Value) = some (.ref (fn2 Z p0)) ∧ Fr n0 _ ∧ T19.heap = h0
      rw [e19]
      refine ⟨?_, N0, rfl⟩
      unfold fn2
      rw [if_pos hc18]
  · have pre20 : ∀ t, oP p e below s₁ (mkF m 10 #[oI p0] [(.int (1 : Int32)), (.int p0)]) t → oP p e below s₁ (entryFrame m #[(.int p0)] 1) t := fun t k => pre17 t (by
      show oP p e below s₁ (mkF m 1 #[oI p0] [(.int p0)]) _
      refine XS.ifYes X0.here hx rfl (pc0 := 1) (pc' := 8) rfl (hb hby d2_1) rfl ((if0 _ _).trans (feq hc18).2) (by decide) (by decide) ?_
      show oP p e below s₁ (mkF m 8 #[oI p0] []) _
      refine XS.iloadN X0.here hx rfl (hb hby d2_8) rfl ?_
      show oP p e below s₁ (mkF m 9 #[oI p0] [(.int p0)]) _
      refine XS.iconst X0.here hx rfl (hb hby d2_9) ?_
      exact k)
    by_cases hc21 : p0 = (1 : Int32)
    · obtain ⟨T22, X22, e22, st22⟩ := getS2 X0 hx hZ hown (host := "") (Or.inl (hw _ (List.mem_of_getElem? (i := 34) rfl))) Via.refl e0 ((s_a_RESUME_MISSING_CHECKPOINT hS).ext O0.2) (g := (mkF m 13 #[oI p0] [])) rfl (hb hby d2_13)
      obtain ⟨fs, hr, hrun, hended, hW, hsame⟩ := X22.leave (v := some (.ref (a_RESUME_MISSING_CHECKPOINT Z))) (fun h => by rw [Bd.returns] at h; cases h)
      refine ⟨_, _, pre20 _ ?_, hrun, hended, _, _, rfl, ?_, ⟨_, rfl⟩, hW, hsame.mono (by decide) (by decide)⟩
      · show oP p e below s₁ (mkF m 10 #[oI p0] [(.int (1 : Int32)), (.int p0)]) _
        refine XS.icmpNo X0.here hx rfl (hb hby d2_10) rfl (teq hc21).2 ?_
        show oP p e below s₁ (mkF m 13 #[oI p0] []) _
        refine st22 _ ?_
        show oP p e below T22 (mkF m 16 #[oI p0] [(.ref (a_RESUME_MISSING_CHECKPOINT Z))]) _
        exact own_retA X22 hx Bd.returns rfl rfl (hb hby d2_16) hr
      · show (some (.ref (a_RESUME_MISSING_CHECKPOINT Z)) : Option Value) = some (.ref (fn2 Z p0)) ∧ Fr n0 _ ∧ T22.heap = h0
        rw [e22]
        refine ⟨?_, N0, rfl⟩
        unfold fn2
        rw [if_neg hc18, if_pos hc21]
    · have pre23 : ∀ t, oP p e below s₁ (mkF m 19 #[oI p0] [(.int (2 : Int32)), (.int p0)]) t → oP p e below s₁ (entryFrame m #[(.int p0)] 1) t := fun t k => pre20 t (by
        show oP p e below s₁ (mkF m 10 #[oI p0] [(.int (1 : Int32)), (.int p0)]) _
        refine XS.icmpYes X0.here hx rfl (pc0 := 10) (pc' := 17) rfl (hb hby d2_10) rfl (feq hc21).2 (by decide) (by decide) ?_
        show oP p e below s₁ (mkF m 17 #[oI p0] []) _
        refine XS.iloadN X0.here hx rfl (hb hby d2_17) rfl ?_
        show oP p e below s₁ (mkF m 18 #[oI p0] [(.int p0)]) _
        refine XS.iconst X0.here hx rfl (hb hby d2_18) ?_
        exact k)
      by_cases hc24 : p0 = (2 : Int32)
      · obtain ⟨T25, X25, e25, st25⟩ := getS2 X0 hx hZ hown (host := "") (Or.inl (hw _ (List.mem_of_getElem? (i := 37) rfl))) Via.refl e0 ((s_a_RESUME_UNKNOWN_INTERRUPTION_CLASS hS).ext O0.2) (g := (mkF m 22 #[oI p0] [])) rfl (hb hby d2_22)
        obtain ⟨fs, hr, hrun, hended, hW, hsame⟩ := X25.leave (v := some (.ref (a_RESUME_UNKNOWN_INTERRUPTION_CLASS Z))) (fun h => by rw [Bd.returns] at h; cases h)
        refine ⟨_, _, pre23 _ ?_, hrun, hended, _, _, rfl, ?_, ⟨_, rfl⟩, hW, hsame.mono (by decide) (by decide)⟩
        · show oP p e below s₁ (mkF m 19 #[oI p0] [(.int (2 : Int32)), (.int p0)]) _
          refine XS.icmpNo X0.here hx rfl (hb hby d2_19) rfl (teq hc24).2 ?_
          show oP p e below s₁ (mkF m 22 #[oI p0] []) _
          refine st25 _ ?_
          show oP p e below T25 (mkF m 25 #[oI p0] [(.ref (a_RESUME_UNKNOWN_INTERRUPTION_CLASS Z))]) _
          exact own_retA X25 hx Bd.returns rfl rfl (hb hby d2_25) hr
        · show (some (.ref (a_RESUME_UNKNOWN_INTERRUPTION_CLASS Z)) : Option Value) = some (.ref (fn2 Z p0)) ∧ Fr n0 _ ∧ T25.heap = h0
          rw [e25]
          refine ⟨?_, N0, rfl⟩
          unfold fn2
          rw [if_neg hc18, if_neg hc21, if_pos hc24]
      · have pre26 : ∀ t, oP p e below s₁ (mkF m 28 #[oI p0] [(.int (3 : Int32)), (.int p0)]) t → oP p e below s₁ (entryFrame m #[(.int p0)] 1) t := fun t k => pre23 t (by
          show oP p e below s₁ (mkF m 19 #[oI p0] [(.int (2 : Int32)), (.int p0)]) _
          refine XS.icmpYes X0.here hx rfl (pc0 := 19) (pc' := 26) rfl (hb hby d2_19) rfl (feq hc24).2 (by decide) (by decide) ?_
          show oP p e below s₁ (mkF m 26 #[oI p0] []) _
          refine XS.iloadN X0.here hx rfl (hb hby d2_26) rfl ?_
          show oP p e below s₁ (mkF m 27 #[oI p0] [(.int p0)]) _
          refine XS.iconst X0.here hx rfl (hb hby d2_27) ?_
          exact k)
        by_cases hc27 : p0 = (3 : Int32)
        · obtain ⟨T28, X28, e28, st28⟩ := getS2 X0 hx hZ hown (host := "") (Or.inl (hw _ (List.mem_of_getElem? (i := 11) rfl))) Via.refl e0 ((s_a_RESUME_NON_IDEMPOTENT_STEP hS).ext O0.2) (g := (mkF m 31 #[oI p0] [])) rfl (hb hby d2_31)
          obtain ⟨fs, hr, hrun, hended, hW, hsame⟩ := X28.leave (v := some (.ref (a_RESUME_NON_IDEMPOTENT_STEP Z))) (fun h => by rw [Bd.returns] at h; cases h)
          refine ⟨_, _, pre26 _ ?_, hrun, hended, _, _, rfl, ?_, ⟨_, rfl⟩, hW, hsame.mono (by decide) (by decide)⟩
          · show oP p e below s₁ (mkF m 28 #[oI p0] [(.int (3 : Int32)), (.int p0)]) _
            refine XS.icmpNo X0.here hx rfl (hb hby d2_28) rfl (teq hc27).2 ?_
            show oP p e below s₁ (mkF m 31 #[oI p0] []) _
            refine st28 _ ?_
            show oP p e below T28 (mkF m 34 #[oI p0] [(.ref (a_RESUME_NON_IDEMPOTENT_STEP Z))]) _
            exact own_retA X28 hx Bd.returns rfl rfl (hb hby d2_34) hr
          · show (some (.ref (a_RESUME_NON_IDEMPOTENT_STEP Z)) : Option Value) = some (.ref (fn2 Z p0)) ∧ Fr n0 _ ∧ T28.heap = h0
            rw [e28]
            refine ⟨?_, N0, rfl⟩
            unfold fn2
            rw [if_neg hc18, if_neg hc21, if_neg hc24, if_pos hc27]
        · have pre29 : ∀ t, oP p e below s₁ (mkF m 37 #[oI p0] [(.int (4 : Int32)), (.int p0)]) t → oP p e below s₁ (entryFrame m #[(.int p0)] 1) t := fun t k => pre26 t (by
            show oP p e below s₁ (mkF m 28 #[oI p0] [(.int (3 : Int32)), (.int p0)]) _
            refine XS.icmpYes X0.here hx rfl (pc0 := 28) (pc' := 35) rfl (hb hby d2_28) rfl (feq hc27).2 (by decide) (by decide) ?_
            show oP p e below s₁ (mkF m 35 #[oI p0] []) _
            refine XS.iloadN X0.here hx rfl (hb hby d2_35) rfl ?_
            show oP p e below s₁ (mkF m 36 #[oI p0] [(.int p0)]) _
            refine XS.iconst X0.here hx rfl (hb hby d2_36) ?_
            exact k)
          by_cases hc30 : p0 = (4 : Int32)
          · obtain ⟨T31, X31, e31, st31⟩ := getS2 X0 hx hZ hown (host := "") (Or.inl (hw _ (List.mem_of_getElem? (i := 42) rfl))) Via.refl e0 ((s_a_RESUME_MISSING_RUNTIME_ARTIFACTS hS).ext O0.2) (g := (mkF m 40 #[oI p0] [])) rfl (hb hby d2_40)
            obtain ⟨fs, hr, hrun, hended, hW, hsame⟩ := X31.leave (v := some (.ref (a_RESUME_MISSING_RUNTIME_ARTIFACTS Z))) (fun h => by rw [Bd.returns] at h; cases h)
            refine ⟨_, _, pre29 _ ?_, hrun, hended, _, _, rfl, ?_, ⟨_, rfl⟩, hW, hsame.mono (by decide) (by decide)⟩
            · show oP p e below s₁ (mkF m 37 #[oI p0] [(.int (4 : Int32)), (.int p0)]) _
              refine XS.icmpNo X0.here hx rfl (hb hby d2_37) rfl (teq hc30).2 ?_
              show oP p e below s₁ (mkF m 40 #[oI p0] []) _
              refine st31 _ ?_
              show oP p e below T31 (mkF m 43 #[oI p0] [(.ref (a_RESUME_MISSING_RUNTIME_ARTIFACTS Z))]) _
              exact own_retA X31 hx Bd.returns rfl rfl (hb hby d2_43) hr
            · show (some (.ref (a_RESUME_MISSING_RUNTIME_ARTIFACTS Z)) : Option Value) = some (.ref (fn2 Z p0)) ∧ Fr n0 _ ∧ T31.heap = h0
              rw [e31]
              refine ⟨?_, N0, rfl⟩
              unfold fn2
              rw [if_neg hc18, if_neg hc21, if_neg hc24, if_neg hc27, if_pos hc30]
          · obtain ⟨T32, X32, e32, st32⟩ := getS2 X0 hx hZ hown (host := "") (Or.inl (hw _ (List.mem_of_getElem? (i := 36) rfl))) Via.refl e0 ((s_a_RESUME_ATTEMPT_LIMIT_REACHED hS).ext O0.2) (g := (mkF m 44 #[oI p0] [])) rfl (hb hby d2_44)
            obtain ⟨fs, hr, hrun, hended, hW, hsame⟩ := X32.leave (v := some (.ref (a_RESUME_ATTEMPT_LIMIT_REACHED Z))) (fun h => by rw [Bd.returns] at h; cases h)
            refine ⟨_, _, pre29 _ ?_, hrun, hended, _, _, rfl, ?_, ⟨_, rfl⟩, hW, hsame.mono (by decide) (by decide)⟩
            · show oP p e below s₁ (mkF m 37 #[oI p0] [(.int (4 : Int32)), (.int p0)]) _
              refine XS.icmpYes X0.here hx rfl (pc0 := 37) (pc' := 44) rfl (hb hby d2_37) rfl (feq hc30).2 (by decide) (by decide) ?_
              show oP p e below s₁ (mkF m 44 #[oI p0] []) _
              refine st32 _ ?_
              show oP p e below T32 (mkF m 47 #[oI p0] [(.ref (a_RESUME_ATTEMPT_LIMIT_REACHED Z))]) _
              exact own_retA X32 hx Bd.returns rfl rfl (hb hby d2_47) hr
            · show (some (.ref (a_RESUME_ATTEMPT_LIMIT_REACHED Z)) : Option Value) = some (.ref (fn2 Z p0)) ∧ Fr n0 _ ∧ T32.heap = h0
              rw [e32]
              refine ⟨?_, N0, rfl⟩
              unfold fn2
              rw [if_neg hc18, if_neg hc21, if_neg hc24, if_neg hc27, if_neg hc30]
theorem d3_0 : decode prog_7_method_3_code 0 = .ok (.aload_n 0, 1) := by decide +kernel
theorem d3_1 : decode prog_7_method_3_code 1 = .ok (.getstatic 56, 3) := by decide +kernel
theorem d3_4 : decode prog_7_method_3_code 4 = .ok (.if_acmp .eq 17, 3) := by decide +kernel
theorem d3_21 : decode prog_7_method_3_code 21 = .ok (.iconst 1, 1) := by decide +kernel
theorem d3_22 : decode prog_7_method_3_code 22 = .ok (.goto 4, 3) := by decide +kernel
theorem d3_26 : decode prog_7_method_3_code 26 = .ok (.ireturn, 1) := by decide +kernel
theorem d3_7 : decode prog_7_method_3_code 7 = .ok (.aload_n 0, 1) := by decide +kernel
theorem d3_8 : decode prog_7_method_3_code 8 = .ok (.getstatic 62, 3) := by decide +kernel
theorem d3_11 : decode prog_7_method_3_code 11 = .ok (.if_acmp .eq 10, 3) := by decide +kernel
theorem d3_14 : decode prog_7_method_3_code 14 = .ok (.aload_n 0, 1) := by decide +kernel
theorem d3_15 : decode prog_7_method_3_code 15 = .ok (.getstatic 65, 3) := by decide +kernel
theorem d3_18 : decode prog_7_method_3_code 18 = .ok (.if_acmp .ne 7, 3) := by decide +kernel
theorem d3_25 : decode prog_7_method_3_code 25 = .ok (.iconst 0, 1) := by decide +kernel
def fn3 (Z : State) (r0 : Addr) : Int32 :=
  if r0 = (a_WAITING Z) then
    (1 : Int32)
  else
    if r0 = (a_FAILED Z) then
      (1 : Int32)
    else
      if r0 = (a_RESUME_ESCALATED Z) then
        (1 : Int32)
      else
        (0 : Int32)
theorem ef_3 (m : MethodId) (x0 : Addr) : entryFrame m #[(.ref x0)] 1 = mkF m 0 #[.val (.ref x0)] [] := by first | (simp [entryFrame, mkF, argsToLocals, Value.category]; done) | rfl
theorem pn_1 : plainName "com/example/resumatic/resumatic/core/DecisionEngine" = true := by first | (simp [plainName, overriddenIn]; done) | decide +kernel
set_option maxRecDepth 65536 in
set_option maxHeartbeats 40000000 in
theorem rm3 (l : Launch) (Z : State) (a0 : Array Value) (hw : ∀ d ∈ tables_1, d.before a0 Z = true) (hS : St Z) (ws : List Jvm.Cond) (r0 : Addr) (h0 : Heap) (n0 : Nat) (O0 : Old Z n0 h0) :
    MetFree l (⟨"com/example/resumatic/resumatic/core/DecisionEngine", "decidesRequestIn", "(Lcom/example/resumatic/resumatic/core/RunState;)Z"⟩ : MethodName) (head1 (Jvm.Cond.code (⟨"com/example/resumatic/resumatic/core/DecisionEngine", "decidesRequestIn", "(Lcom/example/resumatic/resumatic/core/RunState;)Z"⟩ : MethodName) prog_7_method_3_code 1 (some .boolean) :: ws) ({ frames := 0, cells := 0, slots := 0, locals := 0 } : Room)) (fun a U => a = #[(.ref r0)] ∧ Z.Warmed39 U.vm ∧ U.heap = h0) (fun _ _ _ _ _ => True) (fun _ U o U' => ∃ v L, o = .returned v ∧ own_Q (fun v hE L => v = some (.int (fn3 Z r0)) ∧ Fr n0 L ∧ hE = h0) v U'.heap L ∧ FrameEnd U o U' L ({ frames := 0, cells := 0, slots := 0, locals := 0 } : Room).cells ({ frames := 0, cells := 0, slots := 0, locals := 0 } : Room).slots) := by
  refine MetFree.of_bodySF (plainFor_of_name pn_1) hisR ?_
  intro p e s m args below meth c s₁ Bd hml0 hP hK
  obtain ⟨rfl, hZ, hh⟩ := hP
  have hx := Bd.exec
  have hby := Bd.bytes
  have hml : c.maxLocals = 1 := hml0
  have hown : s.vm.findClass "com/example/resumatic/resumatic/core/DecisionEngine" = some m.cls := findClass_of_methodNamed Bd.named
  have X0 : Stand p l e ({ frames := 0, cells := 0, slots := 0, locals := 0 } : Room) s m #[(.ref r0)] below meth c s₁ [] 0 0 := Stand.of_body Bd
  have e0 : s₁.heap = h0 := by rw [← hh, Bd.state]; rfl
  have N0 := Fr.nil n0
  have pre0 : ∀ t, Steps p.tables e below (s₁.setTop (mkF m 0 #[oR r0] [])) t → Steps p.tables e below (s₁.setTop (entryFrame m #[(.ref r0)] 1)) t := fun t k => castTop (ef_3 m r0) k
  obtain ⟨T33, X33, e33, st33⟩ := getS2 X0 hx hZ hown (host := "") (Or.inl (hw _ (List.mem_of_getElem? (i := 24) rfl))) Via.refl e0 ((s_a_WAITING hS).ext O0.2) (g := (mkF m 1 #[oR r0] [(.ref r0)])) rfl (hb hby d3_1)
  have pre34 : ∀ t, oP p e below T33 (mkF m 4 #[oR r0] [(.ref (a_WAITING Z)), (.ref r0)]) t → oP p e below s₁ (entryFrame m #[(.ref r0)] 1) t := fun t k => pre0 t (by
    show oP p e below s₁ (mkF m 0 #[oR r0] []) _
    refine XS.aloadN X0.here hx rfl (hb hby d3_0) rfl rfl ?_
    show oP p e below s₁ (mkF m 1 #[oR r0] [(.ref r0)]) _
    refine st33 _ ?_
    exact k)
  by_cases hc35 : r0 = (a_WAITING Z)
  · obtain ⟨fs, hr, hrun, hended, hW, hsame⟩ := X33.leave (v := some (.int (1 : Int32))) (fun h => by rw [Bd.returns] at h; cases h)
    refine ⟨_, _, pre34 _ ?_, hrun, hended, _, _, rfl, ?_, ⟨_, rfl⟩, hW, hsame.mono (by decide) (by decide)⟩
    · show oP p e below T33 (mkF m 4 #[oR r0] [(.ref (a_WAITING Z)), (.ref r0)]) _
      refine Jvm.RoadKit.acmp (g := (mkF m 4 #[oR r0] [(.ref (a_WAITING Z)), (.ref r0)])) X33 hx rfl rfl rfl (pc0 := 4) (pc' := 21) (same := true) rfl (hb hby d3_4) rfl (decide_eq_true (congrArg Value.ref hc35)) (by decide) (by decide) ?_
      show oP p e below T33 (mkF m 21 #[oR r0] []) _
      refine XS.iconst X33.here hx rfl (hb hby d3_21) ?_
      show oP p e below T33 (mkF m 22 #[oR r0] [(.int (1 : Int32))]) _
      refine XS.goto X33.here hx rfl (pc0 := 22) (pc' := 26) rfl (hb hby d3_22) (by decide) (by decide) ?_
      show oP p e below T33 (mkF m 26 #[oR r0] [(.int (1 : Int32))]) _
      exact retN X33 hx (t := .boolean) Bd.returns (by simp) (hb hby d3_26) hr
    · show (some (.int (1 : Int32)) : Option Value) = some (.int (fn3 Z r0)) ∧ Fr n0 _ ∧ T33.heap = h0
      rw [e33]
      refine ⟨?_, N0, rfl⟩
      unfold fn3
      rw [if_pos hc35]
  · obtain ⟨T36, X36, e36, st36⟩ := getS2 X33 hx hZ hown (host := "") (Or.inl (hw _ (List.mem_of_getElem? (i := 25) rfl))) Via.refl e33 ((s_a_FAILED hS).ext O0.2) (g := (mkF m 8 #[oR r0] [(.ref r0)])) rfl (hb hby d3_8)
    have pre37 : ∀ t, oP p e below T36 (mkF m 11 #[oR r0] [(.ref (a_FAILED Z)), (.ref r0)]) t → oP p e below s₁ (entryFrame m #[(.ref r0)] 1) t := fun t k => pre34 t (by
      show oP p e below T33 (mkF m 4 #[oR r0] [(.ref (a_WAITING Z)), (.ref r0)]) _
      refine Jvm.RoadKit.acmp (g := (mkF m 4 #[oR r0] [(.ref (a_WAITING Z)), (.ref r0)])) X33 hx rfl rfl rfl (pc0 := 4) (pc' := 7) (same := false) rfl (hb hby d3_4) rfl (decide_eq_false fun q => hc35 (Value.ref.inj q)) (by decide) (by decide) ?_
      show oP p e below T33 (mkF m 7 #[oR r0] []) _
      refine XS.aloadN X33.here hx rfl (hb hby d3_7) rfl rfl ?_
      show oP p e below T33 (mkF m 8 #[oR r0] [(.ref r0)]) _
      refine st36 _ ?_
      exact k)
    by_cases hc38 : r0 = (a_FAILED Z)
    · obtain ⟨fs, hr, hrun, hended, hW, hsame⟩ := X36.leave (v := some (.int (1 : Int32))) (fun h => by rw [Bd.returns] at h; cases h)
      refine ⟨_, _, pre37 _ ?_, hrun, hended, _, _, rfl, ?_, ⟨_, rfl⟩, hW, hsame.mono (by decide) (by decide)⟩
      · show oP p e below T36 (mkF m 11 #[oR r0] [(.ref (a_FAILED Z)), (.ref r0)]) _
        refine Jvm.RoadKit.acmp (g := (mkF m 11 #[oR r0] [(.ref (a_FAILED Z)), (.ref r0)])) X36 hx rfl rfl rfl (pc0 := 11) (pc' := 21) (same := true) rfl (hb hby d3_11) rfl (decide_eq_true (congrArg Value.ref hc38)) (by decide) (by decide) ?_
        show oP p e below T36 (mkF m 21 #[oR r0] []) _
        refine XS.iconst X36.here hx rfl (hb hby d3_21) ?_
        show oP p e below T36 (mkF m 22 #[oR r0] [(.int (1 : Int32))]) _
        refine XS.goto X36.here hx rfl (pc0 := 22) (pc' := 26) rfl (hb hby d3_22) (by decide) (by decide) ?_
        show oP p e below T36 (mkF m 26 #[oR r0] [(.int (1 : Int32))]) _
        exact retN X36 hx (t := .boolean) Bd.returns (by simp) (hb hby d3_26) hr
      · show (some (.int (1 : Int32)) : Option Value) = some (.int (fn3 Z r0)) ∧ Fr n0 _ ∧ T36.heap = h0
        rw [e36]
        refine ⟨?_, N0, rfl⟩
        unfold fn3
        rw [if_neg hc35, if_pos hc38]
    · obtain ⟨T39, X39, e39, st39⟩ := getS2 X36 hx hZ hown (host := "") (Or.inl (hw _ (List.mem_of_getElem? (i := 26) rfl))) Via.refl e36 ((s_a_RESUME_ESCALATED hS).ext O0.2) (g := (mkF m 15 #[oR r0] [(.ref r0)])) rfl (hb hby d3_15)
      have pre40 : ∀ t, oP p e below T39 (mkF m 18 #[oR r0] [(.ref (a_RESUME_ESCALATED Z)), (.ref r0)]) t → oP p e below s₁ (entryFrame m #[(.ref r0)] 1) t := fun t k => pre37 t (by
        show oP p e below T36 (mkF m 11 #[oR r0] [(.ref (a_FAILED Z)), (.ref r0)]) _
        refine Jvm.RoadKit.acmp (g := (mkF m 11 #[oR r0] [(.ref (a_FAILED Z)), (.ref r0)])) X36 hx rfl rfl rfl (pc0 := 11) (pc' := 14) (same := false) rfl (hb hby d3_11) rfl (decide_eq_false fun q => hc38 (Value.ref.inj q)) (by decide) (by decide) ?_
        show oP p e below T36 (mkF m 14 #[oR r0] []) _
        refine XS.aloadN X36.here hx rfl (hb hby d3_14) rfl rfl ?_
        show oP p e below T36 (mkF m 15 #[oR r0] [(.ref r0)]) _
        refine st39 _ ?_
        exact k)
      by_cases hc41 : r0 = (a_RESUME_ESCALATED Z)
      · obtain ⟨fs, hr, hrun, hended, hW, hsame⟩ := X39.leave (v := some (.int (1 : Int32))) (fun h => by rw [Bd.returns] at h; cases h)
        refine ⟨_, _, pre40 _ ?_, hrun, hended, _, _, rfl, ?_, ⟨_, rfl⟩, hW, hsame.mono (by decide) (by decide)⟩
        · show oP p e below T39 (mkF m 18 #[oR r0] [(.ref (a_RESUME_ESCALATED Z)), (.ref r0)]) _
          refine Jvm.RoadKit.acmp (g := (mkF m 18 #[oR r0] [(.ref (a_RESUME_ESCALATED Z)), (.ref r0)])) X39 hx rfl rfl rfl (pc0 := 18) (pc' := 21) (same := true) rfl (hb hby d3_18) rfl (decide_eq_true (congrArg Value.ref hc41)) (by decide) (by decide) ?_
          show oP p e below T39 (mkF m 21 #[oR r0] []) _
          refine XS.iconst X39.here hx rfl (hb hby d3_21) ?_
          show oP p e below T39 (mkF m 22 #[oR r0] [(.int (1 : Int32))]) _
          refine XS.goto X39.here hx rfl (pc0 := 22) (pc' := 26) rfl (hb hby d3_22) (by decide) (by decide) ?_
          show oP p e below T39 (mkF m 26 #[oR r0] [(.int (1 : Int32))]) _
          exact retN X39 hx (t := .boolean) Bd.returns (by simp) (hb hby d3_26) hr
        · show (some (.int (1 : Int32)) : Option Value) = some (.int (fn3 Z r0)) ∧ Fr n0 _ ∧ T39.heap = h0
          rw [e39]
          refine ⟨?_, N0, rfl⟩
          unfold fn3
          rw [if_neg hc35, if_neg hc38, if_pos hc41]
      · obtain ⟨fs, hr, hrun, hended, hW, hsame⟩ := X39.leave (v := some (.int (0 : Int32))) (fun h => by rw [Bd.returns] at h; cases h)
        refine ⟨_, _, pre40 _ ?_, hrun, hended, _, _, rfl, ?_, ⟨_, rfl⟩, hW, hsame.mono (by decide) (by decide)⟩
        · show oP p e below T39 (mkF m 18 #[oR r0] [(.ref (a_RESUME_ESCALATED Z)), (.ref r0)]) _
          refine Jvm.RoadKit.acmp (g := (mkF m 18 #[oR r0] [(.ref (a_RESUME_ESCALATED Z)), (.ref r0)])) X39 hx rfl rfl rfl (pc0 := 18) (pc' := 25) (same := false) rfl (hb hby d3_18) rfl (decide_eq_false fun q => hc41 (Value.ref.inj q)) (by decide) (by decide) ?_
          show oP p e below T39 (mkF m 25 #[oR r0] []) _
          refine XS.iconst X39.here hx rfl (hb hby d3_25) ?_
          show oP p e below T39 (mkF m 26 #[oR r0] [(.int (0 : Int32))]) _
          exact retN X39 hx (t := .boolean) Bd.returns (by simp) (hb hby d3_26) hr
        · show (some (.int (0 : Int32)) : Option Value) = some (.int (fn3 Z r0)) ∧ Fr n0 _ ∧ T39.heap = h0
          rw [e39]
          refine ⟨?_, N0, rfl⟩
          unfold fn3
          rw [if_neg hc35, if_neg hc38, if_neg hc41]
theorem d4_0 : decode prog_7_method_7_code 0 = .ok (.aload_n 0, 1) := by decide +kernel
theorem d4_1 : decode prog_7_method_7_code 1 = .ok (.getstatic 46, 3) := by decide +kernel
theorem d4_4 : decode prog_7_method_7_code 4 = .ok (.if_acmp .ne 10, 3) := by decide +kernel
theorem d4_7 : decode prog_7_method_7_code 7 = .ok (.getstatic 56, 3) := by decide +kernel
theorem d4_10 : decode prog_7_method_7_code 10 = .ok (.astore_n 1, 1) := by decide +kernel
theorem d4_11 : decode prog_7_method_7_code 11 = .ok (.goto 21, 3) := by decide +kernel
theorem d4_32 : decode prog_7_method_7_code 32 = .ok (.aload_n 1, 1) := by decide +kernel
theorem d4_33 : decode prog_7_method_7_code 33 = .ok (.areturn, 1) := by decide +kernel
theorem d4_14 : decode prog_7_method_7_code 14 = .ok (.aload_n 0, 1) := by decide +kernel
theorem d4_15 : decode prog_7_method_7_code 15 = .ok (.getstatic 38, 3) := by decide +kernel
theorem d4_18 : decode prog_7_method_7_code 18 = .ok (.if_acmp .ne 10, 3) := by decide +kernel
theorem d4_21 : decode prog_7_method_7_code 21 = .ok (.getstatic 65, 3) := by decide +kernel
theorem d4_24 : decode prog_7_method_7_code 24 = .ok (.astore_n 1, 1) := by decide +kernel
theorem d4_25 : decode prog_7_method_7_code 25 = .ok (.goto 7, 3) := by decide +kernel
theorem d4_28 : decode prog_7_method_7_code 28 = .ok (.getstatic 62, 3) := by decide +kernel
theorem d4_31 : decode prog_7_method_7_code 31 = .ok (.astore_n 1, 1) := by decide +kernel
def fn4 (Z : State) (r0 : Addr) : Addr :=
  if r0 = (a_RESUME_ALLOWED Z) then
    (a_WAITING Z)
  else
    if r0 = (a_RESUME_ATTEMPT_LIMIT_REACHED Z) then
      (a_RESUME_ESCALATED Z)
    else
      (a_FAILED Z)
theorem ef_4 (m : MethodId) (x0 : Addr) : entryFrame m #[(.ref x0)] 2 = mkF m 0 #[.val (.ref x0), .unset] [] := by first | (simp [entryFrame, mkF, argsToLocals, Value.category]; done) | rfl
set_option maxRecDepth 65536 in
set_option maxHeartbeats 40000000 in
theorem rm4 (l : Launch) (Z : State) (a0 : Array Value) (hw : ∀ d ∈ tables_1, d.before a0 Z = true) (hS : St Z) (ws : List Jvm.Cond) (r0 : Addr) (h0 : Heap) (n0 : Nat) (O0 : Old Z n0 h0) :
    MetFree l (⟨"com/example/resumatic/resumatic/core/DecisionEngine", "stateAfter", "(Lcom/example/resumatic/resumatic/core/ReasonCode;)Lcom/example/resumatic/resumatic/core/RunState;"⟩ : MethodName) (head1 (Jvm.Cond.code (⟨"com/example/resumatic/resumatic/core/DecisionEngine", "stateAfter", "(Lcom/example/resumatic/resumatic/core/ReasonCode;)Lcom/example/resumatic/resumatic/core/RunState;"⟩ : MethodName) prog_7_method_7_code 2 (some (.object "com/example/resumatic/resumatic/core/RunState")) :: ws) ({ frames := 0, cells := 0, slots := 0, locals := 0 } : Room)) (fun a U => a = #[(.ref r0)] ∧ Z.Warmed39 U.vm ∧ U.heap = h0) (fun _ _ _ _ _ => True) (fun _ U o U' => ∃ v L, o = .returned v ∧ own_Q (fun v hE L => v = some (.ref (fn4 Z r0)) ∧ Fr n0 L ∧ hE = h0) v U'.heap L ∧ FrameEnd U o U' L ({ frames := 0, cells := 0, slots := 0, locals := 0 } : Room).cells ({ frames := 0, cells := 0, slots := 0, locals := 0 } : Room).slots) := by
  refine MetFree.of_bodySF (plainFor_of_name pn_1) hisR ?_
  intro p e s m args below meth c s₁ Bd hml0 hP hK
  obtain ⟨rfl, hZ, hh⟩ := hP
  have hx := Bd.exec
  have hby := Bd.bytes
  have hml : c.maxLocals = 2 := hml0
  have hown : s.vm.findClass "com/example/resumatic/resumatic/core/DecisionEngine" = some m.cls := findClass_of_methodNamed Bd.named
  have X0 : Stand p l e ({ frames := 0, cells := 0, slots := 0, locals := 0 } : Room) s m #[(.ref r0)] below meth c s₁ [] 0 0 := Stand.of_body Bd
  have e0 : s₁.heap = h0 := by rw [← hh, Bd.state]; rfl
  have N0 := Fr.nil n0
  have pre0 : ∀ t, Steps p.tables e below (s₁.setTop (mkF m 0 #[oR r0, oU] [])) t → Steps p.tables e below (s₁.setTop (entryFrame m #[(.ref r0)] 2)) t := fun t k => castTop (ef_4 m r0) k
  obtain ⟨T42, X42, e42, st42⟩ := getS2 X0 hx hZ hown (host := "") (Or.inl (hw _ (List.mem_of_getElem? (i := 30) rfl))) Via.refl e0 ((s_a_RESUME_ALLOWED hS).ext O0.2) (g := (mkF m 1 #[oR r0, oU] [(.ref r0)])) rfl (hb hby d4_1)
  have pre43 : ∀ t, oP p e below T42 (mkF m 4 #[oR r0, oU] [(.ref (a_RESUME_ALLOWED Z)), (.ref r0)]) t → oP p e below s₁ (entryFrame m #[(.ref r0)] 2) t := fun t k => pre0 t (by
    show oP p e below s₁ (mkF m 0 #[oR r0, oU] []) _
    refine XS.aloadN X0.here hx rfl (hb hby d4_0) rfl rfl ?_
    show oP p e below s₁ (mkF m 1 #[oR r0, oU] [(.ref r0)]) _
    refine st42 _ ?_
    exact k)
  by_cases hc44 : r0 = (a_RESUME_ALLOWED Z)
  · obtain ⟨T45, X45, e45, st45⟩ := getS2 X42 hx hZ hown (host := "") (Or.inl (hw _ (List.mem_of_getElem? (i := 24) rfl))) Via.refl e42 ((s_a_WAITING hS).ext O0.2) (g := (mkF m 7 #[oR r0, oU] [])) rfl (hb hby d4_7)
    obtain ⟨fs, hr, hrun, hended, hW, hsame⟩ := X45.leave (v := some (.ref (a_WAITING Z))) (fun h => by rw [Bd.returns] at h; cases h)
    refine ⟨_, _, pre43 _ ?_, hrun, hended, _, _, rfl, ?_, ⟨_, rfl⟩, hW, hsame.mono (by decide) (by decide)⟩
    · show oP p e below T42 (mkF m 4 #[oR r0, oU] [(.ref (a_RESUME_ALLOWED Z)), (.ref r0)]) _
      refine Jvm.RoadKit.acmp (g := (mkF m 4 #[oR r0, oU] [(.ref (a_RESUME_ALLOWED Z)), (.ref r0)])) X42 hx rfl rfl rfl (pc0 := 4) (pc' := 7) (same := true) rfl (hb hby d4_4) rfl (decide_eq_true (congrArg Value.ref hc44)) (by decide) (by decide) ?_
      show oP p e below T42 (mkF m 7 #[oR r0, oU] []) _
      refine st45 _ ?_
      show oP p e below T45 (mkF m 10 #[oR r0, oU] [(.ref (a_WAITING Z))]) _
      refine XS.astoreN X45.here hx rfl (hb hby d4_10) rfl rfl (l' := #[oR r0, oR (a_WAITING Z)]) rfl ?_
      show oP p e below T45 (mkF m 11 #[oR r0, oR (a_WAITING Z)] []) _
      refine XS.goto X45.here hx rfl (pc0 := 11) (pc' := 32) rfl (hb hby d4_11) (by decide) (by decide) ?_
      show oP p e below T45 (mkF m 32 #[oR r0, oR (a_WAITING Z)] []) _
      refine XS.aloadN X45.here hx rfl (hb hby d4_32) rfl rfl ?_
      show oP p e below T45 (mkF m 33 #[oR r0, oR (a_WAITING Z)] [(.ref (a_WAITING Z))]) _
      exact own_retA X45 hx Bd.returns rfl rfl (hb hby d4_33) hr
    · show (some (.ref (a_WAITING Z)) : Option Value) = some (.ref (fn4 Z r0)) ∧ Fr n0 _ ∧ T45.heap = h0
      rw [e45]
      refine ⟨?_, N0, rfl⟩
      unfold fn4
      rw [if_pos hc44]
  · obtain ⟨T46, X46, e46, st46⟩ := getS2 X42 hx hZ hown (host := "") (Or.inl (hw _ (List.mem_of_getElem? (i := 32) rfl))) Via.refl e42 ((s_a_RESUME_ATTEMPT_LIMIT_REACHED hS).ext O0.2) (g := (mkF m 15 #[oR r0, oU] [(.ref r0)])) rfl (hb hby d4_15)
    have pre47 : ∀ t, oP p e below T46 (mkF m 18 #[oR r0, oU] [(.ref (a_RESUME_ATTEMPT_LIMIT_REACHED Z)), (.ref r0)]) t → oP p e below s₁ (entryFrame m #[(.ref r0)] 2) t := fun t k => pre43 t (by
      show oP p e below T42 (mkF m 4 #[oR r0, oU] [(.ref (a_RESUME_ALLOWED Z)), (.ref r0)]) _
      refine Jvm.RoadKit.acmp (g := (mkF m 4 #[oR r0, oU] [(.ref (a_RESUME_ALLOWED Z)), (.ref r0)])) X42 hx rfl rfl rfl (pc0 := 4) (pc' := 14) (same := false) rfl (hb hby d4_4) rfl (decide_eq_false fun q => hc44 (Value.ref.inj q)) (by decide) (by decide) ?_
      show oP p e below T42 (mkF m 14 #[oR r0, oU] []) _
      refine XS.aloadN X42.here hx rfl (hb hby d4_14) rfl rfl ?_
      show oP p e below T42 (mkF m 15 #[oR r0, oU] [(.ref r0)]) _
      refine st46 _ ?_
      exact k)
    by_cases hc48 : r0 = (a_RESUME_ATTEMPT_LIMIT_REACHED Z)
    · obtain ⟨T49, X49, e49, st49⟩ := getS2 X46 hx hZ hown (host := "") (Or.inl (hw _ (List.mem_of_getElem? (i := 26) rfl))) Via.refl e46 ((s_a_RESUME_ESCALATED hS).ext O0.2) (g := (mkF m 21 #[oR r0, oU] [])) rfl (hb hby d4_21)
      obtain ⟨fs, hr, hrun, hended, hW, hsame⟩ := X49.leave (v := some (.ref (a_RESUME_ESCALATED Z))) (fun h => by rw [Bd.returns] at h; cases h)
      refine ⟨_, _, pre47 _ ?_, hrun, hended, _, _, rfl, ?_, ⟨_, rfl⟩, hW, hsame.mono (by decide) (by decide)⟩
      · show oP p e below T46 (mkF m 18 #[oR r0, oU] [(.ref (a_RESUME_ATTEMPT_LIMIT_REACHED Z)), (.ref r0)]) _
        refine Jvm.RoadKit.acmp (g := (mkF m 18 #[oR r0, oU] [(.ref (a_RESUME_ATTEMPT_LIMIT_REACHED Z)), (.ref r0)])) X46 hx rfl rfl rfl (pc0 := 18) (pc' := 21) (same := true) rfl (hb hby d4_18) rfl (decide_eq_true (congrArg Value.ref hc48)) (by decide) (by decide) ?_
        show oP p e below T46 (mkF m 21 #[oR r0, oU] []) _
        refine st49 _ ?_
        show oP p e below T49 (mkF m 24 #[oR r0, oU] [(.ref (a_RESUME_ESCALATED Z))]) _
        refine XS.astoreN X49.here hx rfl (hb hby d4_24) rfl rfl (l' := #[oR r0, oR (a_RESUME_ESCALATED Z)]) rfl ?_
        show oP p e below T49 (mkF m 25 #[oR r0, oR (a_RESUME_ESCALATED Z)] []) _
        refine XS.goto X49.here hx rfl (pc0 := 25) (pc' := 32) rfl (hb hby d4_25) (by decide) (by decide) ?_
        show oP p e below T49 (mkF m 32 #[oR r0, oR (a_RESUME_ESCALATED Z)] []) _
        refine XS.aloadN X49.here hx rfl (hb hby d4_32) rfl rfl ?_
        show oP p e below T49 (mkF m 33 #[oR r0, oR (a_RESUME_ESCALATED Z)] [(.ref (a_RESUME_ESCALATED Z))]) _
        exact own_retA X49 hx Bd.returns rfl rfl (hb hby d4_33) hr
      · show (some (.ref (a_RESUME_ESCALATED Z)) : Option Value) = some (.ref (fn4 Z r0)) ∧ Fr n0 _ ∧ T49.heap = h0
        rw [e49]
        refine ⟨?_, N0, rfl⟩
        unfold fn4
        rw [if_neg hc44, if_pos hc48]
    · obtain ⟨T50, X50, e50, st50⟩ := getS2 X46 hx hZ hown (host := "") (Or.inl (hw _ (List.mem_of_getElem? (i := 25) rfl))) Via.refl e46 ((s_a_FAILED hS).ext O0.2) (g := (mkF m 28 #[oR r0, oU] [])) rfl (hb hby d4_28)
      obtain ⟨fs, hr, hrun, hended, hW, hsame⟩ := X50.leave (v := some (.ref (a_FAILED Z))) (fun h => by rw [Bd.returns] at h; cases h)
      refine ⟨_, _, pre47 _ ?_, hrun, hended, _, _, rfl, ?_, ⟨_, rfl⟩, hW, hsame.mono (by decide) (by decide)⟩
      · show oP p e below T46 (mkF m 18 #[oR r0, oU] [(.ref (a_RESUME_ATTEMPT_LIMIT_REACHED Z)), (.ref r0)]) _
        refine Jvm.RoadKit.acmp (g := (mkF m 18 #[oR r0, oU] [(.ref (a_RESUME_ATTEMPT_LIMIT_REACHED Z)), (.ref r0)])) X46 hx rfl rfl rfl (pc0 := 18) (pc' := 28) (same := false) rfl (hb hby d4_18) rfl (decide_eq_false fun q => hc48 (Value.ref.inj q)) (by decide) (by decide) ?_
        show oP p e below T46 (mkF m 28 #[oR r0, oU] []) _
        refine st50 _ ?_
        show oP p e below T50 (mkF m 31 #[oR r0, oU] [(.ref (a_FAILED Z))]) _
        refine XS.astoreN X50.here hx rfl (hb hby d4_31) rfl rfl (l' := #[oR r0, oR (a_FAILED Z)]) rfl ?_
        show oP p e below T50 (mkF m 32 #[oR r0, oR (a_FAILED Z)] []) _
        refine XS.aloadN X50.here hx rfl (hb hby d4_32) rfl rfl ?_
        show oP p e below T50 (mkF m 33 #[oR r0, oR (a_FAILED Z)] [(.ref (a_FAILED Z))]) _
        exact own_retA X50 hx Bd.returns rfl rfl (hb hby d4_33) hr
      · show (some (.ref (a_FAILED Z)) : Option Value) = some (.ref (fn4 Z r0)) ∧ Fr n0 _ ∧ T50.heap = h0
        rw [e50]
        refine ⟨?_, N0, rfl⟩
        unfold fn4
        rw [if_neg hc44, if_neg hc48]
theorem rng_rem6 (k : Int32) : ((k &&& (2147483647 : Int32)) - ((k &&& (2147483647 : Int32)) / (6 : Int32)) * (6 : Int32)) = (0 : Int32) ∨ ((k &&& (2147483647 : Int32)) - ((k &&& (2147483647 : Int32)) / (6 : Int32)) * (6 : Int32)) = (1 : Int32) ∨ ((k &&& (2147483647 : Int32)) - ((k &&& (2147483647 : Int32)) / (6 : Int32)) * (6 : Int32)) = (2 : Int32) ∨ ((k &&& (2147483647 : Int32)) - ((k &&& (2147483647 : Int32)) / (6 : Int32)) * (6 : Int32)) = (3 : Int32) ∨ ((k &&& (2147483647 : Int32)) - ((k &&& (2147483647 : Int32)) / (6 : Int32)) * (6 : Int32)) = (4 : Int32) ∨ ((k &&& (2147483647 : Int32)) - ((k &&& (2147483647 : Int32)) / (6 : Int32)) * (6 : Int32)) = (5 : Int32) := by
  have h := own_rem (own_and_le k 2147483647 (by decide)).1 (y := 6) (by decide)
  have h5 : (6 : Int32).toInt = 6 := by decide
  rw [h5] at h
  obtain ⟨j, hj, e⟩ := own_mem (n := 6) (i := ((k &&& (2147483647 : Int32)) - ((k &&& (2147483647 : Int32)) / (6 : Int32)) * (6 : Int32))) (by omega) (by omega)
  rw [e]
  match j, hj with
  | 0, _ => decide
  | 1, _ => decide
  | 2, _ => decide
  | 3, _ => decide
  | 4, _ => decide
  | 5, _ => decide
theorem pd_0 : parseMethodDescriptor "(I)Lcom/example/resumatic/resumatic/core/RunState;" = some ⟨[.int], some (.object "com/example/resumatic/resumatic/core/RunState")⟩ := by decide +kernel
theorem pd_1 : parseMethodDescriptor "(I)Lcom/example/resumatic/resumatic/core/ReasonCode;" = some ⟨[.int], some (.object "com/example/resumatic/resumatic/core/ReasonCode")⟩ := by decide +kernel
theorem pd_2 : parseMethodDescriptor "(Lcom/example/resumatic/resumatic/core/RunState;)Z" = some ⟨[(.object "com/example/resumatic/resumatic/core/RunState")], some .boolean⟩ := by decide +kernel
theorem pd_3 : parseMethodDescriptor "(Lcom/example/resumatic/resumatic/core/ReasonCode;)Lcom/example/resumatic/resumatic/core/RunState;" = some ⟨[(.object "com/example/resumatic/resumatic/core/ReasonCode")], some (.object "com/example/resumatic/resumatic/core/RunState")⟩ := by decide +kernel
theorem ab62 {Z : State} (hS : St Z) (j : Int32) (rj : j = (0 : Int32) ∨ j = (1 : Int32) ∨ j = (2 : Int32) ∨ j = (3 : Int32) ∨ j = (4 : Int32) ∨ j = (5 : Int32)) (hc61 : (fn3 Z (fn4 Z (fn2 Z j))) = (0 : Int32)) : False := by
  have k0 := ((f_a_PENDING_ordinal hS).ne (f_a_RESUME_NON_IDEMPOTENT_STEP_ordinal hS) (by decide))
  have k1 := ((f_a_PENDING_ordinal hS).ne (f_a_WAITING_ordinal hS) (by decide))
  have k2 := ((f_a_PENDING_ordinal hS).ne (f_a_FAILED_ordinal hS) (by decide))
  have k3 := ((f_a_PENDING_ordinal hS).ne (f_a_RESUME_ESCALATED_ordinal hS) (by decide))
  have k4 := (ne_exa (e_a_PENDING hS) (e_a_RESUME_ALLOWED hS) (by decide))
  have k5 := ((f_a_PENDING_ordinal hS).ne (f_a_RESUME_ATTEMPT_LIMIT_REACHED_ordinal hS) (by decide))
  have k6 := ((f_a_PENDING_ordinal hS).ne (f_a_RESUME_MISSING_CHECKPOINT_ordinal hS) (by decide))
  have k7 := ((f_a_PENDING_ordinal hS).ne (f_a_RESUME_UNKNOWN_INTERRUPTION_CLASS_ordinal hS) (by decide))
  have k8 := ((f_a_PENDING_ordinal hS).ne (f_a_RUNNING_ordinal hS) (by decide))
  have k9 := ((f_a_PENDING_ordinal hS).ne (f_a_RESUME_MISSING_RUNTIME_ARTIFACTS_ordinal hS) (by decide))
  have k10 := ((f_a_PENDING_ordinal hS).ne (f_a_COMPLETED_ordinal hS) (by decide))
  have k11 := ((f_a_RESUME_NON_IDEMPOTENT_STEP_ordinal hS).ne (f_a_PENDING_ordinal hS) (by decide))
  have k12 := ((f_a_RESUME_NON_IDEMPOTENT_STEP_ordinal hS).ne (f_a_WAITING_ordinal hS) (by decide))
  have k13 := (ne_exa (e_a_RESUME_NON_IDEMPOTENT_STEP hS) (e_a_FAILED hS) (by decide))
  have k14 := ((f_a_RESUME_NON_IDEMPOTENT_STEP_ordinal hS).ne (f_a_RESUME_ESCALATED_ordinal hS) (by decide))
  have k15 := ((f_a_RESUME_NON_IDEMPOTENT_STEP_ordinal hS).ne (f_a_RESUME_ALLOWED_ordinal hS) (by decide))
  have k16 := ((f_a_RESUME_NON_IDEMPOTENT_STEP_ordinal hS).ne (f_a_RESUME_ATTEMPT_LIMIT_REACHED_ordinal hS) (by decide))
  have k17 := ((f_a_RESUME_NON_IDEMPOTENT_STEP_ordinal hS).ne (f_a_RESUME_MISSING_CHECKPOINT_ordinal hS) (by decide))
  have k18 := ((f_a_RESUME_NON_IDEMPOTENT_STEP_ordinal hS).ne (f_a_RESUME_UNKNOWN_INTERRUPTION_CLASS_ordinal hS) (by decide))
  have k19 := ((f_a_RESUME_NON_IDEMPOTENT_STEP_ordinal hS).ne (f_a_RUNNING_ordinal hS) (by decide))
  have k20 := ((f_a_RESUME_NON_IDEMPOTENT_STEP_ordinal hS).ne (f_a_RESUME_MISSING_RUNTIME_ARTIFACTS_ordinal hS) (by decide))
  have k21 := ((f_a_RESUME_NON_IDEMPOTENT_STEP_ordinal hS).ne (f_a_COMPLETED_ordinal hS) (by decide))
  have k22 := ((f_a_WAITING_ordinal hS).ne (f_a_PENDING_ordinal hS) (by decide))
  have k23 := ((f_a_WAITING_ordinal hS).ne (f_a_RESUME_NON_IDEMPOTENT_STEP_ordinal hS) (by decide))
  have k24 := ((f_a_WAITING_ordinal hS).ne (f_a_FAILED_ordinal hS) (by decide))
  have k25 := ((f_a_WAITING_ordinal hS).ne (f_a_RESUME_ESCALATED_ordinal hS) (by decide))
  have k26 := ((f_a_WAITING_ordinal hS).ne (f_a_RESUME_ALLOWED_ordinal hS) (by decide))
  have k27 := ((f_a_WAITING_ordinal hS).ne (f_a_RESUME_ATTEMPT_LIMIT_REACHED_ordinal hS) (by decide))
  have k28 := ((f_a_WAITING_ordinal hS).ne (f_a_RESUME_MISSING_CHECKPOINT_ordinal hS) (by decide))
  have k29 := (ne_exa (e_a_WAITING hS) (e_a_RESUME_UNKNOWN_INTERRUPTION_CLASS hS) (by decide))
  have k30 := ((f_a_WAITING_ordinal hS).ne (f_a_RUNNING_ordinal hS) (by decide))
  have k31 := ((f_a_WAITING_ordinal hS).ne (f_a_RESUME_MISSING_RUNTIME_ARTIFACTS_ordinal hS) (by decide))
  have k32 := ((f_a_WAITING_ordinal hS).ne (f_a_COMPLETED_ordinal hS) (by decide))
  have k33 := ((f_a_FAILED_ordinal hS).ne (f_a_PENDING_ordinal hS) (by decide))
  have k34 := (ne_exa (e_a_FAILED hS) (e_a_RESUME_NON_IDEMPOTENT_STEP hS) (by decide))
  have k35 := ((f_a_FAILED_ordinal hS).ne (f_a_WAITING_ordinal hS) (by decide))
  have k36 := ((f_a_FAILED_ordinal hS).ne (f_a_RESUME_ESCALATED_ordinal hS) (by decide))
  have k37 := ((f_a_FAILED_ordinal hS).ne (f_a_RESUME_ALLOWED_ordinal hS) (by decide))
  have k38 := ((f_a_FAILED_ordinal hS).ne (f_a_RESUME_ATTEMPT_LIMIT_REACHED_ordinal hS) (by decide))
  have k39 := ((f_a_FAILED_ordinal hS).ne (f_a_RESUME_MISSING_CHECKPOINT_ordinal hS) (by decide))
  have k40 := ((f_a_FAILED_ordinal hS).ne (f_a_RESUME_UNKNOWN_INTERRUPTION_CLASS_ordinal hS) (by decide))
  have k41 := ((f_a_FAILED_ordinal hS).ne (f_a_RUNNING_ordinal hS) (by decide))
  have k42 := ((f_a_FAILED_ordinal hS).ne (f_a_RESUME_MISSING_RUNTIME_ARTIFACTS_ordinal hS) (by decide))
  have k43 := ((f_a_FAILED_ordinal hS).ne (f_a_COMPLETED_ordinal hS) (by decide))
  have k44 := ((f_a_RESUME_ESCALATED_ordinal hS).ne (f_a_PENDING_ordinal hS) (by decide))
  have k45 := ((f_a_RESUME_ESCALATED_ordinal hS).ne (f_a_RESUME_NON_IDEMPOTENT_STEP_ordinal hS) (by decide))
  have k46 := ((f_a_RESUME_ESCALATED_ordinal hS).ne (f_a_WAITING_ordinal hS) (by decide))
  have k47 := ((f_a_RESUME_ESCALATED_ordinal hS).ne (f_a_FAILED_ordinal hS) (by decide))
  have k48 := ((f_a_RESUME_ESCALATED_ordinal hS).ne (f_a_RESUME_ALLOWED_ordinal hS) (by decide))
  have k49 := ((f_a_RESUME_ESCALATED_ordinal hS).ne (f_a_RESUME_ATTEMPT_LIMIT_REACHED_ordinal hS) (by decide))
  have k50 := ((f_a_RESUME_ESCALATED_ordinal hS).ne (f_a_RESUME_MISSING_CHECKPOINT_ordinal hS) (by decide))
  have k51 := ((f_a_RESUME_ESCALATED_ordinal hS).ne (f_a_RESUME_UNKNOWN_INTERRUPTION_CLASS_ordinal hS) (by decide))
  have k52 := ((f_a_RESUME_ESCALATED_ordinal hS).ne (f_a_RUNNING_ordinal hS) (by decide))
  have k53 := (ne_exa (e_a_RESUME_ESCALATED hS) (e_a_RESUME_MISSING_RUNTIME_ARTIFACTS hS) (by decide))
  have k54 := ((f_a_RESUME_ESCALATED_ordinal hS).ne (f_a_COMPLETED_ordinal hS) (by decide))
  have k55 := (ne_exa (e_a_RESUME_ALLOWED hS) (e_a_PENDING hS) (by decide))
  have k56 := ((f_a_RESUME_ALLOWED_ordinal hS).ne (f_a_RESUME_NON_IDEMPOTENT_STEP_ordinal hS) (by decide))
  have k57 := ((f_a_RESUME_ALLOWED_ordinal hS).ne (f_a_WAITING_ordinal hS) (by decide))
  have k58 := ((f_a_RESUME_ALLOWED_ordinal hS).ne (f_a_FAILED_ordinal hS) (by decide))
  have k59 := ((f_a_RESUME_ALLOWED_ordinal hS).ne (f_a_RESUME_ESCALATED_ordinal hS) (by decide))
  have k60 := ((f_a_RESUME_ALLOWED_ordinal hS).ne (f_a_RESUME_ATTEMPT_LIMIT_REACHED_ordinal hS) (by decide))
  have k61 := ((f_a_RESUME_ALLOWED_ordinal hS).ne (f_a_RESUME_MISSING_CHECKPOINT_ordinal hS) (by decide))
  have k62 := ((f_a_RESUME_ALLOWED_ordinal hS).ne (f_a_RESUME_UNKNOWN_INTERRUPTION_CLASS_ordinal hS) (by decide))
  have k63 := ((f_a_RESUME_ALLOWED_ordinal hS).ne (f_a_RUNNING_ordinal hS) (by decide))
  have k64 := ((f_a_RESUME_ALLOWED_ordinal hS).ne (f_a_RESUME_MISSING_RUNTIME_ARTIFACTS_ordinal hS) (by decide))
  have k65 := ((f_a_RESUME_ALLOWED_ordinal hS).ne (f_a_COMPLETED_ordinal hS) (by decide))
  have k66 := ((f_a_RESUME_ATTEMPT_LIMIT_REACHED_ordinal hS).ne (f_a_PENDING_ordinal hS) (by decide))
  have k67 := ((f_a_RESUME_ATTEMPT_LIMIT_REACHED_ordinal hS).ne (f_a_RESUME_NON_IDEMPOTENT_STEP_ordinal hS) (by decide))
  have k68 := ((f_a_RESUME_ATTEMPT_LIMIT_REACHED_ordinal hS).ne (f_a_WAITING_ordinal hS) (by decide))
  have k69 := ((f_a_RESUME_ATTEMPT_LIMIT_REACHED_ordinal hS).ne (f_a_FAILED_ordinal hS) (by decide))
  have k70 := ((f_a_RESUME_ATTEMPT_LIMIT_REACHED_ordinal hS).ne (f_a_RESUME_ESCALATED_ordinal hS) (by decide))
  have k71 := ((f_a_RESUME_ATTEMPT_LIMIT_REACHED_ordinal hS).ne (f_a_RESUME_ALLOWED_ordinal hS) (by decide))
  have k72 := ((f_a_RESUME_ATTEMPT_LIMIT_REACHED_ordinal hS).ne (f_a_RESUME_MISSING_CHECKPOINT_ordinal hS) (by decide))
  have k73 := ((f_a_RESUME_ATTEMPT_LIMIT_REACHED_ordinal hS).ne (f_a_RESUME_UNKNOWN_INTERRUPTION_CLASS_ordinal hS) (by decide))
  have k74 := ((f_a_RESUME_ATTEMPT_LIMIT_REACHED_ordinal hS).ne (f_a_RUNNING_ordinal hS) (by decide))
  have k75 := ((f_a_RESUME_ATTEMPT_LIMIT_REACHED_ordinal hS).ne (f_a_RESUME_MISSING_RUNTIME_ARTIFACTS_ordinal hS) (by decide))
  have k76 := ((f_a_RESUME_ATTEMPT_LIMIT_REACHED_ordinal hS).ne (f_a_COMPLETED_ordinal hS) (by decide))
  have k77 := ((f_a_RESUME_MISSING_CHECKPOINT_ordinal hS).ne (f_a_PENDING_ordinal hS) (by decide))
  have k78 := ((f_a_RESUME_MISSING_CHECKPOINT_ordinal hS).ne (f_a_RESUME_NON_IDEMPOTENT_STEP_ordinal hS) (by decide))
  have k79 := ((f_a_RESUME_MISSING_CHECKPOINT_ordinal hS).ne (f_a_WAITING_ordinal hS) (by decide))
  have k80 := ((f_a_RESUME_MISSING_CHECKPOINT_ordinal hS).ne (f_a_FAILED_ordinal hS) (by decide))
  have k81 := ((f_a_RESUME_MISSING_CHECKPOINT_ordinal hS).ne (f_a_RESUME_ESCALATED_ordinal hS) (by decide))
  have k82 := ((f_a_RESUME_MISSING_CHECKPOINT_ordinal hS).ne (f_a_RESUME_ALLOWED_ordinal hS) (by decide))
  have k83 := ((f_a_RESUME_MISSING_CHECKPOINT_ordinal hS).ne (f_a_RESUME_ATTEMPT_LIMIT_REACHED_ordinal hS) (by decide))
  have k84 := ((f_a_RESUME_MISSING_CHECKPOINT_ordinal hS).ne (f_a_RESUME_UNKNOWN_INTERRUPTION_CLASS_ordinal hS) (by decide))
  have k85 := (ne_exa (e_a_RESUME_MISSING_CHECKPOINT hS) (e_a_RUNNING hS) (by decide))
  have k86 := ((f_a_RESUME_MISSING_CHECKPOINT_ordinal hS).ne (f_a_RESUME_MISSING_RUNTIME_ARTIFACTS_ordinal hS) (by decide))
  have k87 := ((f_a_RESUME_MISSING_CHECKPOINT_ordinal hS).ne (f_a_COMPLETED_ordinal hS) (by decide))
  have k88 := ((f_a_RESUME_UNKNOWN_INTERRUPTION_CLASS_ordinal hS).ne (f_a_PENDING_ordinal hS) (by decide))
  have k89 := ((f_a_RESUME_UNKNOWN_INTERRUPTION_CLASS_ordinal hS).ne (f_a_RESUME_NON_IDEMPOTENT_STEP_ordinal hS) (by decide))
  have k90 := (ne_exa (e_a_RESUME_UNKNOWN_INTERRUPTION_CLASS hS) (e_a_WAITING hS) (by decide))
  have k91 := ((f_a_RESUME_UNKNOWN_INTERRUPTION_CLASS_ordinal hS).ne (f_a_FAILED_ordinal hS) (by decide))
  have k92 := ((f_a_RESUME_UNKNOWN_INTERRUPTION_CLASS_ordinal hS).ne (f_a_RESUME_ESCALATED_ordinal hS) (by decide))
  have k93 := ((f_a_RESUME_UNKNOWN_INTERRUPTION_CLASS_ordinal hS).ne (f_a_RESUME_ALLOWED_ordinal hS) (by decide))
  have k94 := ((f_a_RESUME_UNKNOWN_INTERRUPTION_CLASS_ordinal hS).ne (f_a_RESUME_ATTEMPT_LIMIT_REACHED_ordinal hS) (by decide))
  have k95 := ((f_a_RESUME_UNKNOWN_INTERRUPTION_CLASS_ordinal hS).ne (f_a_RESUME_MISSING_CHECKPOINT_ordinal hS) (by decide))
  have k96 := ((f_a_RESUME_UNKNOWN_INTERRUPTION_CLASS_ordinal hS).ne (f_a_RUNNING_ordinal hS) (by decide))
  have k97 := ((f_a_RESUME_UNKNOWN_INTERRUPTION_CLASS_ordinal hS).ne (f_a_RESUME_MISSING_RUNTIME_ARTIFACTS_ordinal hS) (by decide))
  have k98 := ((f_a_RESUME_UNKNOWN_INTERRUPTION_CLASS_ordinal hS).ne (f_a_COMPLETED_ordinal hS) (by decide))
  have k99 := ((f_a_RUNNING_ordinal hS).ne (f_a_PENDING_ordinal hS) (by decide))
  have k100 := ((f_a_RUNNING_ordinal hS).ne (f_a_RESUME_NON_IDEMPOTENT_STEP_ordinal hS) (by decide))
  have k101 := ((f_a_RUNNING_ordinal hS).ne (f_a_WAITING_ordinal hS) (by decide))
  have k102 := ((f_a_RUNNING_ordinal hS).ne (f_a_FAILED_ordinal hS) (by decide))
  have k103 := ((f_a_RUNNING_ordinal hS).ne (f_a_RESUME_ESCALATED_ordinal hS) (by decide))
  have k104 := ((f_a_RUNNING_ordinal hS).ne (f_a_RESUME_ALLOWED_ordinal hS) (by decide))
  have k105 := ((f_a_RUNNING_ordinal hS).ne (f_a_RESUME_ATTEMPT_LIMIT_REACHED_ordinal hS) (by decide))
  have k106 := (ne_exa (e_a_RUNNING hS) (e_a_RESUME_MISSING_CHECKPOINT hS) (by decide))
  have k107 := ((f_a_RUNNING_ordinal hS).ne (f_a_RESUME_UNKNOWN_INTERRUPTION_CLASS_ordinal hS) (by decide))
  have k108 := ((f_a_RUNNING_ordinal hS).ne (f_a_RESUME_MISSING_RUNTIME_ARTIFACTS_ordinal hS) (by decide))
  have k109 := ((f_a_RUNNING_ordinal hS).ne (f_a_COMPLETED_ordinal hS) (by decide))
  have k110 := ((f_a_RESUME_MISSING_RUNTIME_ARTIFACTS_ordinal hS).ne (f_a_PENDING_ordinal hS) (by decide))
  have k111 := ((f_a_RESUME_MISSING_RUNTIME_ARTIFACTS_ordinal hS).ne (f_a_RESUME_NON_IDEMPOTENT_STEP_ordinal hS) (by decide))
  have k112 := ((f_a_RESUME_MISSING_RUNTIME_ARTIFACTS_ordinal hS).ne (f_a_WAITING_ordinal hS) (by decide))
  have k113 := ((f_a_RESUME_MISSING_RUNTIME_ARTIFACTS_ordinal hS).ne (f_a_FAILED_ordinal hS) (by decide))
  have k114 := (ne_exa (e_a_RESUME_MISSING_RUNTIME_ARTIFACTS hS) (e_a_RESUME_ESCALATED hS) (by decide))
  have k115 := ((f_a_RESUME_MISSING_RUNTIME_ARTIFACTS_ordinal hS).ne (f_a_RESUME_ALLOWED_ordinal hS) (by decide))
  have k116 := ((f_a_RESUME_MISSING_RUNTIME_ARTIFACTS_ordinal hS).ne (f_a_RESUME_ATTEMPT_LIMIT_REACHED_ordinal hS) (by decide))
  have k117 := ((f_a_RESUME_MISSING_RUNTIME_ARTIFACTS_ordinal hS).ne (f_a_RESUME_MISSING_CHECKPOINT_ordinal hS) (by decide))
  have k118 := ((f_a_RESUME_MISSING_RUNTIME_ARTIFACTS_ordinal hS).ne (f_a_RESUME_UNKNOWN_INTERRUPTION_CLASS_ordinal hS) (by decide))
  have k119 := ((f_a_RESUME_MISSING_RUNTIME_ARTIFACTS_ordinal hS).ne (f_a_RUNNING_ordinal hS) (by decide))
  have k120 := ((f_a_RESUME_MISSING_RUNTIME_ARTIFACTS_ordinal hS).ne (f_a_COMPLETED_ordinal hS) (by decide))
  have k121 := ((f_a_COMPLETED_ordinal hS).ne (f_a_PENDING_ordinal hS) (by decide))
  have k122 := ((f_a_COMPLETED_ordinal hS).ne (f_a_RESUME_NON_IDEMPOTENT_STEP_ordinal hS) (by decide))
  have k123 := ((f_a_COMPLETED_ordinal hS).ne (f_a_WAITING_ordinal hS) (by decide))
  have k124 := ((f_a_COMPLETED_ordinal hS).ne (f_a_FAILED_ordinal hS) (by decide))
  have k125 := ((f_a_COMPLETED_ordinal hS).ne (f_a_RESUME_ESCALATED_ordinal hS) (by decide))
  have k126 := ((f_a_COMPLETED_ordinal hS).ne (f_a_RESUME_ALLOWED_ordinal hS) (by decide))
  have k127 := ((f_a_COMPLETED_ordinal hS).ne (f_a_RESUME_ATTEMPT_LIMIT_REACHED_ordinal hS) (by decide))
  have k128 := ((f_a_COMPLETED_ordinal hS).ne (f_a_RESUME_MISSING_CHECKPOINT_ordinal hS) (by decide))
  have k129 := ((f_a_COMPLETED_ordinal hS).ne (f_a_RESUME_UNKNOWN_INTERRUPTION_CLASS_ordinal hS) (by decide))
  have k130 := ((f_a_COMPLETED_ordinal hS).ne (f_a_RUNNING_ordinal hS) (by decide))
  have k131 := ((f_a_COMPLETED_ordinal hS).ne (f_a_RESUME_MISSING_RUNTIME_ARTIFACTS_ordinal hS) (by decide))
  rcases rj with rfl | rfl | rfl | rfl | rfl | rfl <;> simp_all [fn1, fn2, fn3, fn4]
theorem ab73 {Z : State} (hS : St Z) (j : Int32) (rj : j = (0 : Int32) ∨ j = (1 : Int32) ∨ j = (2 : Int32) ∨ j = (3 : Int32) ∨ j = (4 : Int32) ∨ j = (5 : Int32)) (hc72 : (fn3 Z (fn4 Z (fn2 Z j))) = (0 : Int32)) : False := by
  have k0 := ((f_a_PENDING_ordinal hS).ne (f_a_RESUME_NON_IDEMPOTENT_STEP_ordinal hS) (by decide))
  have k1 := ((f_a_PENDING_ordinal hS).ne (f_a_WAITING_ordinal hS) (by decide))
  have k2 := ((f_a_PENDING_ordinal hS).ne (f_a_FAILED_ordinal hS) (by decide))
  have k3 := ((f_a_PENDING_ordinal hS).ne (f_a_RESUME_ESCALATED_ordinal hS) (by decide))
  have k4 := (ne_exa (e_a_PENDING hS) (e_a_RESUME_ALLOWED hS) (by decide))
  have k5 := ((f_a_PENDING_ordinal hS).ne (f_a_RESUME_ATTEMPT_LIMIT_REACHED_ordinal hS) (by decide))
  have k6 := ((f_a_PENDING_ordinal hS).ne (f_a_RESUME_MISSING_CHECKPOINT_ordinal hS) (by decide))
  have k7 := ((f_a_PENDING_ordinal hS).ne (f_a_RESUME_UNKNOWN_INTERRUPTION_CLASS_ordinal hS) (by decide))
  have k8 := ((f_a_PENDING_ordinal hS).ne (f_a_RUNNING_ordinal hS) (by decide))
  have k9 := ((f_a_PENDING_ordinal hS).ne (f_a_RESUME_MISSING_RUNTIME_ARTIFACTS_ordinal hS) (by decide))
  have k10 := ((f_a_PENDING_ordinal hS).ne (f_a_COMPLETED_ordinal hS) (by decide))
  have k11 := ((f_a_RESUME_NON_IDEMPOTENT_STEP_ordinal hS).ne (f_a_PENDING_ordinal hS) (by decide))
  have k12 := ((f_a_RESUME_NON_IDEMPOTENT_STEP_ordinal hS).ne (f_a_WAITING_ordinal hS) (by decide))
  have k13 := (ne_exa (e_a_RESUME_NON_IDEMPOTENT_STEP hS) (e_a_FAILED hS) (by decide))
  have k14 := ((f_a_RESUME_NON_IDEMPOTENT_STEP_ordinal hS).ne (f_a_RESUME_ESCALATED_ordinal hS) (by decide))
  have k15 := ((f_a_RESUME_NON_IDEMPOTENT_STEP_ordinal hS).ne (f_a_RESUME_ALLOWED_ordinal hS) (by decide))
  have k16 := ((f_a_RESUME_NON_IDEMPOTENT_STEP_ordinal hS).ne (f_a_RESUME_ATTEMPT_LIMIT_REACHED_ordinal hS) (by decide))
  have k17 := ((f_a_RESUME_NON_IDEMPOTENT_STEP_ordinal hS).ne (f_a_RESUME_MISSING_CHECKPOINT_ordinal hS) (by decide))
  have k18 := ((f_a_RESUME_NON_IDEMPOTENT_STEP_ordinal hS).ne (f_a_RESUME_UNKNOWN_INTERRUPTION_CLASS_ordinal hS) (by decide))
  have k19 := ((f_a_RESUME_NON_IDEMPOTENT_STEP_ordinal hS).ne (f_a_RUNNING_ordinal hS) (by decide))
  have k20 := ((f_a_RESUME_NON_IDEMPOTENT_STEP_ordinal hS).ne (f_a_RESUME_MISSING_RUNTIME_ARTIFACTS_ordinal hS) (by decide))
  have k21 := ((f_a_RESUME_NON_IDEMPOTENT_STEP_ordinal hS).ne (f_a_COMPLETED_ordinal hS) (by decide))
  have k22 := ((f_a_WAITING_ordinal hS).ne (f_a_PENDING_ordinal hS) (by decide))
  have k23 := ((f_a_WAITING_ordinal hS).ne (f_a_RESUME_NON_IDEMPOTENT_STEP_ordinal hS) (by decide))
  have k24 := ((f_a_WAITING_ordinal hS).ne (f_a_FAILED_ordinal hS) (by decide))
  have k25 := ((f_a_WAITING_ordinal hS).ne (f_a_RESUME_ESCALATED_ordinal hS) (by decide))
  have k26 := ((f_a_WAITING_ordinal hS).ne (f_a_RESUME_ALLOWED_ordinal hS) (by decide))
  have k27 := ((f_a_WAITING_ordinal hS).ne (f_a_RESUME_ATTEMPT_LIMIT_REACHED_ordinal hS) (by decide))
  have k28 := ((f_a_WAITING_ordinal hS).ne (f_a_RESUME_MISSING_CHECKPOINT_ordinal hS) (by decide))
  have k29 := (ne_exa (e_a_WAITING hS) (e_a_RESUME_UNKNOWN_INTERRUPTION_CLASS hS) (by decide))
  have k30 := ((f_a_WAITING_ordinal hS).ne (f_a_RUNNING_ordinal hS) (by decide))
  have k31 := ((f_a_WAITING_ordinal hS).ne (f_a_RESUME_MISSING_RUNTIME_ARTIFACTS_ordinal hS) (by decide))
  have k32 := ((f_a_WAITING_ordinal hS).ne (f_a_COMPLETED_ordinal hS) (by decide))
  have k33 := ((f_a_FAILED_ordinal hS).ne (f_a_PENDING_ordinal hS) (by decide))
  have k34 := (ne_exa (e_a_FAILED hS) (e_a_RESUME_NON_IDEMPOTENT_STEP hS) (by decide))
  have k35 := ((f_a_FAILED_ordinal hS).ne (f_a_WAITING_ordinal hS) (by decide))
  have k36 := ((f_a_FAILED_ordinal hS).ne (f_a_RESUME_ESCALATED_ordinal hS) (by decide))
  have k37 := ((f_a_FAILED_ordinal hS).ne (f_a_RESUME_ALLOWED_ordinal hS) (by decide))
  have k38 := ((f_a_FAILED_ordinal hS).ne (f_a_RESUME_ATTEMPT_LIMIT_REACHED_ordinal hS) (by decide))
  have k39 := ((f_a_FAILED_ordinal hS).ne (f_a_RESUME_MISSING_CHECKPOINT_ordinal hS) (by decide))
  have k40 := ((f_a_FAILED_ordinal hS).ne (f_a_RESUME_UNKNOWN_INTERRUPTION_CLASS_ordinal hS) (by decide))
  have k41 := ((f_a_FAILED_ordinal hS).ne (f_a_RUNNING_ordinal hS) (by decide))
  have k42 := ((f_a_FAILED_ordinal hS).ne (f_a_RESUME_MISSING_RUNTIME_ARTIFACTS_ordinal hS) (by decide))
  have k43 := ((f_a_FAILED_ordinal hS).ne (f_a_COMPLETED_ordinal hS) (by decide))
  have k44 := ((f_a_RESUME_ESCALATED_ordinal hS).ne (f_a_PENDING_ordinal hS) (by decide))
  have k45 := ((f_a_RESUME_ESCALATED_ordinal hS).ne (f_a_RESUME_NON_IDEMPOTENT_STEP_ordinal hS) (by decide))
  have k46 := ((f_a_RESUME_ESCALATED_ordinal hS).ne (f_a_WAITING_ordinal hS) (by decide))
  have k47 := ((f_a_RESUME_ESCALATED_ordinal hS).ne (f_a_FAILED_ordinal hS) (by decide))
  have k48 := ((f_a_RESUME_ESCALATED_ordinal hS).ne (f_a_RESUME_ALLOWED_ordinal hS) (by decide))
  have k49 := ((f_a_RESUME_ESCALATED_ordinal hS).ne (f_a_RESUME_ATTEMPT_LIMIT_REACHED_ordinal hS) (by decide))
  have k50 := ((f_a_RESUME_ESCALATED_ordinal hS).ne (f_a_RESUME_MISSING_CHECKPOINT_ordinal hS) (by decide))
  have k51 := ((f_a_RESUME_ESCALATED_ordinal hS).ne (f_a_RESUME_UNKNOWN_INTERRUPTION_CLASS_ordinal hS) (by decide))
  have k52 := ((f_a_RESUME_ESCALATED_ordinal hS).ne (f_a_RUNNING_ordinal hS) (by decide))
  have k53 := (ne_exa (e_a_RESUME_ESCALATED hS) (e_a_RESUME_MISSING_RUNTIME_ARTIFACTS hS) (by decide))
  have k54 := ((f_a_RESUME_ESCALATED_ordinal hS).ne (f_a_COMPLETED_ordinal hS) (by decide))
  have k55 := (ne_exa (e_a_RESUME_ALLOWED hS) (e_a_PENDING hS) (by decide))
  have k56 := ((f_a_RESUME_ALLOWED_ordinal hS).ne (f_a_RESUME_NON_IDEMPOTENT_STEP_ordinal hS) (by decide))
  have k57 := ((f_a_RESUME_ALLOWED_ordinal hS).ne (f_a_WAITING_ordinal hS) (by decide))
  have k58 := ((f_a_RESUME_ALLOWED_ordinal hS).ne (f_a_FAILED_ordinal hS) (by decide))
  have k59 := ((f_a_RESUME_ALLOWED_ordinal hS).ne (f_a_RESUME_ESCALATED_ordinal hS) (by decide))
  have k60 := ((f_a_RESUME_ALLOWED_ordinal hS).ne (f_a_RESUME_ATTEMPT_LIMIT_REACHED_ordinal hS) (by decide))
  have k61 := ((f_a_RESUME_ALLOWED_ordinal hS).ne (f_a_RESUME_MISSING_CHECKPOINT_ordinal hS) (by decide))
  have k62 := ((f_a_RESUME_ALLOWED_ordinal hS).ne (f_a_RESUME_UNKNOWN_INTERRUPTION_CLASS_ordinal hS) (by decide))
  have k63 := ((f_a_RESUME_ALLOWED_ordinal hS).ne (f_a_RUNNING_ordinal hS) (by decide))
  have k64 := ((f_a_RESUME_ALLOWED_ordinal hS).ne (f_a_RESUME_MISSING_RUNTIME_ARTIFACTS_ordinal hS) (by decide))
  have k65 := ((f_a_RESUME_ALLOWED_ordinal hS).ne (f_a_COMPLETED_ordinal hS) (by decide))
  have k66 := ((f_a_RESUME_ATTEMPT_LIMIT_REACHED_ordinal hS).ne (f_a_PENDING_ordinal hS) (by decide))
  have k67 := ((f_a_RESUME_ATTEMPT_LIMIT_REACHED_ordinal hS).ne (f_a_RESUME_NON_IDEMPOTENT_STEP_ordinal hS) (by decide))
  have k68 := ((f_a_RESUME_ATTEMPT_LIMIT_REACHED_ordinal hS).ne (f_a_WAITING_ordinal hS) (by decide))
  have k69 := ((f_a_RESUME_ATTEMPT_LIMIT_REACHED_ordinal hS).ne (f_a_FAILED_ordinal hS) (by decide))
  have k70 := ((f_a_RESUME_ATTEMPT_LIMIT_REACHED_ordinal hS).ne (f_a_RESUME_ESCALATED_ordinal hS) (by decide))
  have k71 := ((f_a_RESUME_ATTEMPT_LIMIT_REACHED_ordinal hS).ne (f_a_RESUME_ALLOWED_ordinal hS) (by decide))
  have k72 := ((f_a_RESUME_ATTEMPT_LIMIT_REACHED_ordinal hS).ne (f_a_RESUME_MISSING_CHECKPOINT_ordinal hS) (by decide))
  have k73 := ((f_a_RESUME_ATTEMPT_LIMIT_REACHED_ordinal hS).ne (f_a_RESUME_UNKNOWN_INTERRUPTION_CLASS_ordinal hS) (by decide))
  have k74 := ((f_a_RESUME_ATTEMPT_LIMIT_REACHED_ordinal hS).ne (f_a_RUNNING_ordinal hS) (by decide))
  have k75 := ((f_a_RESUME_ATTEMPT_LIMIT_REACHED_ordinal hS).ne (f_a_RESUME_MISSING_RUNTIME_ARTIFACTS_ordinal hS) (by decide))
  have k76 := ((f_a_RESUME_ATTEMPT_LIMIT_REACHED_ordinal hS).ne (f_a_COMPLETED_ordinal hS) (by decide))
  have k77 := ((f_a_RESUME_MISSING_CHECKPOINT_ordinal hS).ne (f_a_PENDING_ordinal hS) (by decide))
  have k78 := ((f_a_RESUME_MISSING_CHECKPOINT_ordinal hS).ne (f_a_RESUME_NON_IDEMPOTENT_STEP_ordinal hS) (by decide))
  have k79 := ((f_a_RESUME_MISSING_CHECKPOINT_ordinal hS).ne (f_a_WAITING_ordinal hS) (by decide))
  have k80 := ((f_a_RESUME_MISSING_CHECKPOINT_ordinal hS).ne (f_a_FAILED_ordinal hS) (by decide))
  have k81 := ((f_a_RESUME_MISSING_CHECKPOINT_ordinal hS).ne (f_a_RESUME_ESCALATED_ordinal hS) (by decide))
  have k82 := ((f_a_RESUME_MISSING_CHECKPOINT_ordinal hS).ne (f_a_RESUME_ALLOWED_ordinal hS) (by decide))
  have k83 := ((f_a_RESUME_MISSING_CHECKPOINT_ordinal hS).ne (f_a_RESUME_ATTEMPT_LIMIT_REACHED_ordinal hS) (by decide))
  have k84 := ((f_a_RESUME_MISSING_CHECKPOINT_ordinal hS).ne (f_a_RESUME_UNKNOWN_INTERRUPTION_CLASS_ordinal hS) (by decide))
  have k85 := (ne_exa (e_a_RESUME_MISSING_CHECKPOINT hS) (e_a_RUNNING hS) (by decide))
  have k86 := ((f_a_RESUME_MISSING_CHECKPOINT_ordinal hS).ne (f_a_RESUME_MISSING_RUNTIME_ARTIFACTS_ordinal hS) (by decide))
  have k87 := ((f_a_RESUME_MISSING_CHECKPOINT_ordinal hS).ne (f_a_COMPLETED_ordinal hS) (by decide))
  have k88 := ((f_a_RESUME_UNKNOWN_INTERRUPTION_CLASS_ordinal hS).ne (f_a_PENDING_ordinal hS) (by decide))
  have k89 := ((f_a_RESUME_UNKNOWN_INTERRUPTION_CLASS_ordinal hS).ne (f_a_RESUME_NON_IDEMPOTENT_STEP_ordinal hS) (by decide))
  have k90 := (ne_exa (e_a_RESUME_UNKNOWN_INTERRUPTION_CLASS hS) (e_a_WAITING hS) (by decide))
  have k91 := ((f_a_RESUME_UNKNOWN_INTERRUPTION_CLASS_ordinal hS).ne (f_a_FAILED_ordinal hS) (by decide))
  have k92 := ((f_a_RESUME_UNKNOWN_INTERRUPTION_CLASS_ordinal hS).ne (f_a_RESUME_ESCALATED_ordinal hS) (by decide))
  have k93 := ((f_a_RESUME_UNKNOWN_INTERRUPTION_CLASS_ordinal hS).ne (f_a_RESUME_ALLOWED_ordinal hS) (by decide))
  have k94 := ((f_a_RESUME_UNKNOWN_INTERRUPTION_CLASS_ordinal hS).ne (f_a_RESUME_ATTEMPT_LIMIT_REACHED_ordinal hS) (by decide))
  have k95 := ((f_a_RESUME_UNKNOWN_INTERRUPTION_CLASS_ordinal hS).ne (f_a_RESUME_MISSING_CHECKPOINT_ordinal hS) (by decide))
  have k96 := ((f_a_RESUME_UNKNOWN_INTERRUPTION_CLASS_ordinal hS).ne (f_a_RUNNING_ordinal hS) (by decide))
  have k97 := ((f_a_RESUME_UNKNOWN_INTERRUPTION_CLASS_ordinal hS).ne (f_a_RESUME_MISSING_RUNTIME_ARTIFACTS_ordinal hS) (by decide))
  have k98 := ((f_a_RESUME_UNKNOWN_INTERRUPTION_CLASS_ordinal hS).ne (f_a_COMPLETED_ordinal hS) (by decide))
  have k99 := ((f_a_RUNNING_ordinal hS).ne (f_a_PENDING_ordinal hS) (by decide))
  have k100 := ((f_a_RUNNING_ordinal hS).ne (f_a_RESUME_NON_IDEMPOTENT_STEP_ordinal hS) (by decide))
  have k101 := ((f_a_RUNNING_ordinal hS).ne (f_a_WAITING_ordinal hS) (by decide))
  have k102 := ((f_a_RUNNING_ordinal hS).ne (f_a_FAILED_ordinal hS) (by decide))
  have k103 := ((f_a_RUNNING_ordinal hS).ne (f_a_RESUME_ESCALATED_ordinal hS) (by decide))
  have k104 := ((f_a_RUNNING_ordinal hS).ne (f_a_RESUME_ALLOWED_ordinal hS) (by decide))
  have k105 := ((f_a_RUNNING_ordinal hS).ne (f_a_RESUME_ATTEMPT_LIMIT_REACHED_ordinal hS) (by decide))
  have k106 := (ne_exa (e_a_RUNNING hS) (e_a_RESUME_MISSING_CHECKPOINT hS) (by decide))
  have k107 := ((f_a_RUNNING_ordinal hS).ne (f_a_RESUME_UNKNOWN_INTERRUPTION_CLASS_ordinal hS) (by decide))
  have k108 := ((f_a_RUNNING_ordinal hS).ne (f_a_RESUME_MISSING_RUNTIME_ARTIFACTS_ordinal hS) (by decide))
  have k109 := ((f_a_RUNNING_ordinal hS).ne (f_a_COMPLETED_ordinal hS) (by decide))
  have k110 := ((f_a_RESUME_MISSING_RUNTIME_ARTIFACTS_ordinal hS).ne (f_a_PENDING_ordinal hS) (by decide))
  have k111 := ((f_a_RESUME_MISSING_RUNTIME_ARTIFACTS_ordinal hS).ne (f_a_RESUME_NON_IDEMPOTENT_STEP_ordinal hS) (by decide))
  have k112 := ((f_a_RESUME_MISSING_RUNTIME_ARTIFACTS_ordinal hS).ne (f_a_WAITING_ordinal hS) (by decide))
  have k113 := ((f_a_RESUME_MISSING_RUNTIME_ARTIFACTS_ordinal hS).ne (f_a_FAILED_ordinal hS) (by decide))
  have k114 := (ne_exa (e_a_RESUME_MISSING_RUNTIME_ARTIFACTS hS) (e_a_RESUME_ESCALATED hS) (by decide))
  have k115 := ((f_a_RESUME_MISSING_RUNTIME_ARTIFACTS_ordinal hS).ne (f_a_RESUME_ALLOWED_ordinal hS) (by decide))
  have k116 := ((f_a_RESUME_MISSING_RUNTIME_ARTIFACTS_ordinal hS).ne (f_a_RESUME_ATTEMPT_LIMIT_REACHED_ordinal hS) (by decide))
  have k117 := ((f_a_RESUME_MISSING_RUNTIME_ARTIFACTS_ordinal hS).ne (f_a_RESUME_MISSING_CHECKPOINT_ordinal hS) (by decide))
  have k118 := ((f_a_RESUME_MISSING_RUNTIME_ARTIFACTS_ordinal hS).ne (f_a_RESUME_UNKNOWN_INTERRUPTION_CLASS_ordinal hS) (by decide))
  have k119 := ((f_a_RESUME_MISSING_RUNTIME_ARTIFACTS_ordinal hS).ne (f_a_RUNNING_ordinal hS) (by decide))
  have k120 := ((f_a_RESUME_MISSING_RUNTIME_ARTIFACTS_ordinal hS).ne (f_a_COMPLETED_ordinal hS) (by decide))
  have k121 := ((f_a_COMPLETED_ordinal hS).ne (f_a_PENDING_ordinal hS) (by decide))
  have k122 := ((f_a_COMPLETED_ordinal hS).ne (f_a_RESUME_NON_IDEMPOTENT_STEP_ordinal hS) (by decide))
  have k123 := ((f_a_COMPLETED_ordinal hS).ne (f_a_WAITING_ordinal hS) (by decide))
  have k124 := ((f_a_COMPLETED_ordinal hS).ne (f_a_FAILED_ordinal hS) (by decide))
  have k125 := ((f_a_COMPLETED_ordinal hS).ne (f_a_RESUME_ESCALATED_ordinal hS) (by decide))
  have k126 := ((f_a_COMPLETED_ordinal hS).ne (f_a_RESUME_ALLOWED_ordinal hS) (by decide))
  have k127 := ((f_a_COMPLETED_ordinal hS).ne (f_a_RESUME_ATTEMPT_LIMIT_REACHED_ordinal hS) (by decide))
  have k128 := ((f_a_COMPLETED_ordinal hS).ne (f_a_RESUME_MISSING_CHECKPOINT_ordinal hS) (by decide))
  have k129 := ((f_a_COMPLETED_ordinal hS).ne (f_a_RESUME_UNKNOWN_INTERRUPTION_CLASS_ordinal hS) (by decide))
  have k130 := ((f_a_COMPLETED_ordinal hS).ne (f_a_RUNNING_ordinal hS) (by decide))
  have k131 := ((f_a_COMPLETED_ordinal hS).ne (f_a_RESUME_MISSING_RUNTIME_ARTIFACTS_ordinal hS) (by decide))
  rcases rj with rfl | rfl | rfl | rfl | rfl | rfl <;> simp_all [fn1, fn2, fn3, fn4]
theorem ab82 {Z : State} (hS : St Z) (j : Int32) (rj : j = (0 : Int32) ∨ j = (1 : Int32) ∨ j = (2 : Int32) ∨ j = (3 : Int32) ∨ j = (4 : Int32) ∨ j = (5 : Int32)) (hc81 : (fn3 Z (fn4 Z (fn2 Z j))) = (0 : Int32)) : False := by
  have k0 := ((f_a_PENDING_ordinal hS).ne (f_a_RESUME_NON_IDEMPOTENT_STEP_ordinal hS) (by decide))
  have k1 := ((f_a_PENDING_ordinal hS).ne (f_a_WAITING_ordinal hS) (by decide))
  have k2 := ((f_a_PENDING_ordinal hS).ne (f_a_FAILED_ordinal hS) (by decide))
  have k3 := ((f_a_PENDING_ordinal hS).ne (f_a_RESUME_ESCALATED_ordinal hS) (by decide))
  have k4 := (ne_exa (e_a_PENDING hS) (e_a_RESUME_ALLOWED hS) (by decide))
  have k5 := ((f_a_PENDING_ordinal hS).ne (f_a_RESUME_ATTEMPT_LIMIT_REACHED_ordinal hS) (by decide))
  have k6 := ((f_a_PENDING_ordinal hS).ne (f_a_RESUME_MISSING_CHECKPOINT_ordinal hS) (by decide))
  have k7 := ((f_a_PENDING_ordinal hS).ne (f_a_RESUME_UNKNOWN_INTERRUPTION_CLASS_ordinal hS) (by decide))
  have k8 := ((f_a_PENDING_ordinal hS).ne (f_a_RUNNING_ordinal hS) (by decide))
  have k9 := ((f_a_PENDING_ordinal hS).ne (f_a_RESUME_MISSING_RUNTIME_ARTIFACTS_ordinal hS) (by decide))
  have k10 := ((f_a_PENDING_ordinal hS).ne (f_a_COMPLETED_ordinal hS) (by decide))
  have k11 := ((f_a_RESUME_NON_IDEMPOTENT_STEP_ordinal hS).ne (f_a_PENDING_ordinal hS) (by decide))
  have k12 := ((f_a_RESUME_NON_IDEMPOTENT_STEP_ordinal hS).ne (f_a_WAITING_ordinal hS) (by decide))
  have k13 := (ne_exa (e_a_RESUME_NON_IDEMPOTENT_STEP hS) (e_a_FAILED hS) (by decide))
  have k14 := ((f_a_RESUME_NON_IDEMPOTENT_STEP_ordinal hS).ne (f_a_RESUME_ESCALATED_ordinal hS) (by decide))
  have k15 := ((f_a_RESUME_NON_IDEMPOTENT_STEP_ordinal hS).ne (f_a_RESUME_ALLOWED_ordinal hS) (by decide))
  have k16 := ((f_a_RESUME_NON_IDEMPOTENT_STEP_ordinal hS).ne (f_a_RESUME_ATTEMPT_LIMIT_REACHED_ordinal hS) (by decide))
  have k17 := ((f_a_RESUME_NON_IDEMPOTENT_STEP_ordinal hS).ne (f_a_RESUME_MISSING_CHECKPOINT_ordinal hS) (by decide))
  have k18 := ((f_a_RESUME_NON_IDEMPOTENT_STEP_ordinal hS).ne (f_a_RESUME_UNKNOWN_INTERRUPTION_CLASS_ordinal hS) (by decide))
  have k19 := ((f_a_RESUME_NON_IDEMPOTENT_STEP_ordinal hS).ne (f_a_RUNNING_ordinal hS) (by decide))
  have k20 := ((f_a_RESUME_NON_IDEMPOTENT_STEP_ordinal hS).ne (f_a_RESUME_MISSING_RUNTIME_ARTIFACTS_ordinal hS) (by decide))
  have k21 := ((f_a_RESUME_NON_IDEMPOTENT_STEP_ordinal hS).ne (f_a_COMPLETED_ordinal hS) (by decide))
  have k22 := ((f_a_WAITING_ordinal hS).ne (f_a_PENDING_ordinal hS) (by decide))
  have k23 := ((f_a_WAITING_ordinal hS).ne (f_a_RESUME_NON_IDEMPOTENT_STEP_ordinal hS) (by decide))
  have k24 := ((f_a_WAITING_ordinal hS).ne (f_a_FAILED_ordinal hS) (by decide))
  have k25 := ((f_a_WAITING_ordinal hS).ne (f_a_RESUME_ESCALATED_ordinal hS) (by decide))
  have k26 := ((f_a_WAITING_ordinal hS).ne (f_a_RESUME_ALLOWED_ordinal hS) (by decide))
  have k27 := ((f_a_WAITING_ordinal hS).ne (f_a_RESUME_ATTEMPT_LIMIT_REACHED_ordinal hS) (by decide))
  have k28 := ((f_a_WAITING_ordinal hS).ne (f_a_RESUME_MISSING_CHECKPOINT_ordinal hS) (by decide))
  have k29 := (ne_exa (e_a_WAITING hS) (e_a_RESUME_UNKNOWN_INTERRUPTION_CLASS hS) (by decide))
  have k30 := ((f_a_WAITING_ordinal hS).ne (f_a_RUNNING_ordinal hS) (by decide))
  have k31 := ((f_a_WAITING_ordinal hS).ne (f_a_RESUME_MISSING_RUNTIME_ARTIFACTS_ordinal hS) (by decide))
  have k32 := ((f_a_WAITING_ordinal hS).ne (f_a_COMPLETED_ordinal hS) (by decide))
  have k33 := ((f_a_FAILED_ordinal hS).ne (f_a_PENDING_ordinal hS) (by decide))
  have k34 := (ne_exa (e_a_FAILED hS) (e_a_RESUME_NON_IDEMPOTENT_STEP hS) (by decide))
  have k35 := ((f_a_FAILED_ordinal hS).ne (f_a_WAITING_ordinal hS) (by decide))
  have k36 := ((f_a_FAILED_ordinal hS).ne (f_a_RESUME_ESCALATED_ordinal hS) (by decide))
  have k37 := ((f_a_FAILED_ordinal hS).ne (f_a_RESUME_ALLOWED_ordinal hS) (by decide))
  have k38 := ((f_a_FAILED_ordinal hS).ne (f_a_RESUME_ATTEMPT_LIMIT_REACHED_ordinal hS) (by decide))
  have k39 := ((f_a_FAILED_ordinal hS).ne (f_a_RESUME_MISSING_CHECKPOINT_ordinal hS) (by decide))
  have k40 := ((f_a_FAILED_ordinal hS).ne (f_a_RESUME_UNKNOWN_INTERRUPTION_CLASS_ordinal hS) (by decide))
  have k41 := ((f_a_FAILED_ordinal hS).ne (f_a_RUNNING_ordinal hS) (by decide))
  have k42 := ((f_a_FAILED_ordinal hS).ne (f_a_RESUME_MISSING_RUNTIME_ARTIFACTS_ordinal hS) (by decide))
  have k43 := ((f_a_FAILED_ordinal hS).ne (f_a_COMPLETED_ordinal hS) (by decide))
  have k44 := ((f_a_RESUME_ESCALATED_ordinal hS).ne (f_a_PENDING_ordinal hS) (by decide))
  have k45 := ((f_a_RESUME_ESCALATED_ordinal hS).ne (f_a_RESUME_NON_IDEMPOTENT_STEP_ordinal hS) (by decide))
  have k46 := ((f_a_RESUME_ESCALATED_ordinal hS).ne (f_a_WAITING_ordinal hS) (by decide))
  have k47 := ((f_a_RESUME_ESCALATED_ordinal hS).ne (f_a_FAILED_ordinal hS) (by decide))
  have k48 := ((f_a_RESUME_ESCALATED_ordinal hS).ne (f_a_RESUME_ALLOWED_ordinal hS) (by decide))
  have k49 := ((f_a_RESUME_ESCALATED_ordinal hS).ne (f_a_RESUME_ATTEMPT_LIMIT_REACHED_ordinal hS) (by decide))
  have k50 := ((f_a_RESUME_ESCALATED_ordinal hS).ne (f_a_RESUME_MISSING_CHECKPOINT_ordinal hS) (by decide))
  have k51 := ((f_a_RESUME_ESCALATED_ordinal hS).ne (f_a_RESUME_UNKNOWN_INTERRUPTION_CLASS_ordinal hS) (by decide))
  have k52 := ((f_a_RESUME_ESCALATED_ordinal hS).ne (f_a_RUNNING_ordinal hS) (by decide))
  have k53 := (ne_exa (e_a_RESUME_ESCALATED hS) (e_a_RESUME_MISSING_RUNTIME_ARTIFACTS hS) (by decide))
  have k54 := ((f_a_RESUME_ESCALATED_ordinal hS).ne (f_a_COMPLETED_ordinal hS) (by decide))
  have k55 := (ne_exa (e_a_RESUME_ALLOWED hS) (e_a_PENDING hS) (by decide))
  have k56 := ((f_a_RESUME_ALLOWED_ordinal hS).ne (f_a_RESUME_NON_IDEMPOTENT_STEP_ordinal hS) (by decide))
  have k57 := ((f_a_RESUME_ALLOWED_ordinal hS).ne (f_a_WAITING_ordinal hS) (by decide))
  have k58 := ((f_a_RESUME_ALLOWED_ordinal hS).ne (f_a_FAILED_ordinal hS) (by decide))
  have k59 := ((f_a_RESUME_ALLOWED_ordinal hS).ne (f_a_RESUME_ESCALATED_ordinal hS) (by decide))
  have k60 := ((f_a_RESUME_ALLOWED_ordinal hS).ne (f_a_RESUME_ATTEMPT_LIMIT_REACHED_ordinal hS) (by decide))
  have k61 := ((f_a_RESUME_ALLOWED_ordinal hS).ne (f_a_RESUME_MISSING_CHECKPOINT_ordinal hS) (by decide))
  have k62 := ((f_a_RESUME_ALLOWED_ordinal hS).ne (f_a_RESUME_UNKNOWN_INTERRUPTION_CLASS_ordinal hS) (by decide))
  have k63 := ((f_a_RESUME_ALLOWED_ordinal hS).ne (f_a_RUNNING_ordinal hS) (by decide))
  have k64 := ((f_a_RESUME_ALLOWED_ordinal hS).ne (f_a_RESUME_MISSING_RUNTIME_ARTIFACTS_ordinal hS) (by decide))
  have k65 := ((f_a_RESUME_ALLOWED_ordinal hS).ne (f_a_COMPLETED_ordinal hS) (by decide))
  have k66 := ((f_a_RESUME_ATTEMPT_LIMIT_REACHED_ordinal hS).ne (f_a_PENDING_ordinal hS) (by decide))
  have k67 := ((f_a_RESUME_ATTEMPT_LIMIT_REACHED_ordinal hS).ne (f_a_RESUME_NON_IDEMPOTENT_STEP_ordinal hS) (by decide))
  have k68 := ((f_a_RESUME_ATTEMPT_LIMIT_REACHED_ordinal hS).ne (f_a_WAITING_ordinal hS) (by decide))
  have k69 := ((f_a_RESUME_ATTEMPT_LIMIT_REACHED_ordinal hS).ne (f_a_FAILED_ordinal hS) (by decide))
  have k70 := ((f_a_RESUME_ATTEMPT_LIMIT_REACHED_ordinal hS).ne (f_a_RESUME_ESCALATED_ordinal hS) (by decide))
  have k71 := ((f_a_RESUME_ATTEMPT_LIMIT_REACHED_ordinal hS).ne (f_a_RESUME_ALLOWED_ordinal hS) (by decide))
  have k72 := ((f_a_RESUME_ATTEMPT_LIMIT_REACHED_ordinal hS).ne (f_a_RESUME_MISSING_CHECKPOINT_ordinal hS) (by decide))
  have k73 := ((f_a_RESUME_ATTEMPT_LIMIT_REACHED_ordinal hS).ne (f_a_RESUME_UNKNOWN_INTERRUPTION_CLASS_ordinal hS) (by decide))
  have k74 := ((f_a_RESUME_ATTEMPT_LIMIT_REACHED_ordinal hS).ne (f_a_RUNNING_ordinal hS) (by decide))
  have k75 := ((f_a_RESUME_ATTEMPT_LIMIT_REACHED_ordinal hS).ne (f_a_RESUME_MISSING_RUNTIME_ARTIFACTS_ordinal hS) (by decide))
  have k76 := ((f_a_RESUME_ATTEMPT_LIMIT_REACHED_ordinal hS).ne (f_a_COMPLETED_ordinal hS) (by decide))
  have k77 := ((f_a_RESUME_MISSING_CHECKPOINT_ordinal hS).ne (f_a_PENDING_ordinal hS) (by decide))
  have k78 := ((f_a_RESUME_MISSING_CHECKPOINT_ordinal hS).ne (f_a_RESUME_NON_IDEMPOTENT_STEP_ordinal hS) (by decide))
  have k79 := ((f_a_RESUME_MISSING_CHECKPOINT_ordinal hS).ne (f_a_WAITING_ordinal hS) (by decide))
  have k80 := ((f_a_RESUME_MISSING_CHECKPOINT_ordinal hS).ne (f_a_FAILED_ordinal hS) (by decide))
  have k81 := ((f_a_RESUME_MISSING_CHECKPOINT_ordinal hS).ne (f_a_RESUME_ESCALATED_ordinal hS) (by decide))
  have k82 := ((f_a_RESUME_MISSING_CHECKPOINT_ordinal hS).ne (f_a_RESUME_ALLOWED_ordinal hS) (by decide))
  have k83 := ((f_a_RESUME_MISSING_CHECKPOINT_ordinal hS).ne (f_a_RESUME_ATTEMPT_LIMIT_REACHED_ordinal hS) (by decide))
  have k84 := ((f_a_RESUME_MISSING_CHECKPOINT_ordinal hS).ne (f_a_RESUME_UNKNOWN_INTERRUPTION_CLASS_ordinal hS) (by decide))
  have k85 := (ne_exa (e_a_RESUME_MISSING_CHECKPOINT hS) (e_a_RUNNING hS) (by decide))
  have k86 := ((f_a_RESUME_MISSING_CHECKPOINT_ordinal hS).ne (f_a_RESUME_MISSING_RUNTIME_ARTIFACTS_ordinal hS) (by decide))
  have k87 := ((f_a_RESUME_MISSING_CHECKPOINT_ordinal hS).ne (f_a_COMPLETED_ordinal hS) (by decide))
  have k88 := ((f_a_RESUME_UNKNOWN_INTERRUPTION_CLASS_ordinal hS).ne (f_a_PENDING_ordinal hS) (by decide))
  have k89 := ((f_a_RESUME_UNKNOWN_INTERRUPTION_CLASS_ordinal hS).ne (f_a_RESUME_NON_IDEMPOTENT_STEP_ordinal hS) (by decide))
  have k90 := (ne_exa (e_a_RESUME_UNKNOWN_INTERRUPTION_CLASS hS) (e_a_WAITING hS) (by decide))
  have k91 := ((f_a_RESUME_UNKNOWN_INTERRUPTION_CLASS_ordinal hS).ne (f_a_FAILED_ordinal hS) (by decide))
  have k92 := ((f_a_RESUME_UNKNOWN_INTERRUPTION_CLASS_ordinal hS).ne (f_a_RESUME_ESCALATED_ordinal hS) (by decide))
  have k93 := ((f_a_RESUME_UNKNOWN_INTERRUPTION_CLASS_ordinal hS).ne (f_a_RESUME_ALLOWED_ordinal hS) (by decide))
  have k94 := ((f_a_RESUME_UNKNOWN_INTERRUPTION_CLASS_ordinal hS).ne (f_a_RESUME_ATTEMPT_LIMIT_REACHED_ordinal hS) (by decide))
  have k95 := ((f_a_RESUME_UNKNOWN_INTERRUPTION_CLASS_ordinal hS).ne (f_a_RESUME_MISSING_CHECKPOINT_ordinal hS) (by decide))
  have k96 := ((f_a_RESUME_UNKNOWN_INTERRUPTION_CLASS_ordinal hS).ne (f_a_RUNNING_ordinal hS) (by decide))
  have k97 := ((f_a_RESUME_UNKNOWN_INTERRUPTION_CLASS_ordinal hS).ne (f_a_RESUME_MISSING_RUNTIME_ARTIFACTS_ordinal hS) (by decide))
  have k98 := ((f_a_RESUME_UNKNOWN_INTERRUPTION_CLASS_ordinal hS).ne (f_a_COMPLETED_ordinal hS) (by decide))
  have k99 := ((f_a_RUNNING_ordinal hS).ne (f_a_PENDING_ordinal hS) (by decide))
  have k100 := ((f_a_RUNNING_ordinal hS).ne (f_a_RESUME_NON_IDEMPOTENT_STEP_ordinal hS) (by decide))
  have k101 := ((f_a_RUNNING_ordinal hS).ne (f_a_WAITING_ordinal hS) (by decide))
  have k102 := ((f_a_RUNNING_ordinal hS).ne (f_a_FAILED_ordinal hS) (by decide))
  have k103 := ((f_a_RUNNING_ordinal hS).ne (f_a_RESUME_ESCALATED_ordinal hS) (by decide))
  have k104 := ((f_a_RUNNING_ordinal hS).ne (f_a_RESUME_ALLOWED_ordinal hS) (by decide))
  have k105 := ((f_a_RUNNING_ordinal hS).ne (f_a_RESUME_ATTEMPT_LIMIT_REACHED_ordinal hS) (by decide))
  have k106 := (ne_exa (e_a_RUNNING hS) (e_a_RESUME_MISSING_CHECKPOINT hS) (by decide))
  have k107 := ((f_a_RUNNING_ordinal hS).ne (f_a_RESUME_UNKNOWN_INTERRUPTION_CLASS_ordinal hS) (by decide))
  have k108 := ((f_a_RUNNING_ordinal hS).ne (f_a_RESUME_MISSING_RUNTIME_ARTIFACTS_ordinal hS) (by decide))
  have k109 := ((f_a_RUNNING_ordinal hS).ne (f_a_COMPLETED_ordinal hS) (by decide))
  have k110 := ((f_a_RESUME_MISSING_RUNTIME_ARTIFACTS_ordinal hS).ne (f_a_PENDING_ordinal hS) (by decide))
  have k111 := ((f_a_RESUME_MISSING_RUNTIME_ARTIFACTS_ordinal hS).ne (f_a_RESUME_NON_IDEMPOTENT_STEP_ordinal hS) (by decide))
  have k112 := ((f_a_RESUME_MISSING_RUNTIME_ARTIFACTS_ordinal hS).ne (f_a_WAITING_ordinal hS) (by decide))
  have k113 := ((f_a_RESUME_MISSING_RUNTIME_ARTIFACTS_ordinal hS).ne (f_a_FAILED_ordinal hS) (by decide))
  have k114 := (ne_exa (e_a_RESUME_MISSING_RUNTIME_ARTIFACTS hS) (e_a_RESUME_ESCALATED hS) (by decide))
  have k115 := ((f_a_RESUME_MISSING_RUNTIME_ARTIFACTS_ordinal hS).ne (f_a_RESUME_ALLOWED_ordinal hS) (by decide))
  have k116 := ((f_a_RESUME_MISSING_RUNTIME_ARTIFACTS_ordinal hS).ne (f_a_RESUME_ATTEMPT_LIMIT_REACHED_ordinal hS) (by decide))
  have k117 := ((f_a_RESUME_MISSING_RUNTIME_ARTIFACTS_ordinal hS).ne (f_a_RESUME_MISSING_CHECKPOINT_ordinal hS) (by decide))
  have k118 := ((f_a_RESUME_MISSING_RUNTIME_ARTIFACTS_ordinal hS).ne (f_a_RESUME_UNKNOWN_INTERRUPTION_CLASS_ordinal hS) (by decide))
  have k119 := ((f_a_RESUME_MISSING_RUNTIME_ARTIFACTS_ordinal hS).ne (f_a_RUNNING_ordinal hS) (by decide))
  have k120 := ((f_a_RESUME_MISSING_RUNTIME_ARTIFACTS_ordinal hS).ne (f_a_COMPLETED_ordinal hS) (by decide))
  have k121 := ((f_a_COMPLETED_ordinal hS).ne (f_a_PENDING_ordinal hS) (by decide))
  have k122 := ((f_a_COMPLETED_ordinal hS).ne (f_a_RESUME_NON_IDEMPOTENT_STEP_ordinal hS) (by decide))
  have k123 := ((f_a_COMPLETED_ordinal hS).ne (f_a_WAITING_ordinal hS) (by decide))
  have k124 := ((f_a_COMPLETED_ordinal hS).ne (f_a_FAILED_ordinal hS) (by decide))
  have k125 := ((f_a_COMPLETED_ordinal hS).ne (f_a_RESUME_ESCALATED_ordinal hS) (by decide))
  have k126 := ((f_a_COMPLETED_ordinal hS).ne (f_a_RESUME_ALLOWED_ordinal hS) (by decide))
  have k127 := ((f_a_COMPLETED_ordinal hS).ne (f_a_RESUME_ATTEMPT_LIMIT_REACHED_ordinal hS) (by decide))
  have k128 := ((f_a_COMPLETED_ordinal hS).ne (f_a_RESUME_MISSING_CHECKPOINT_ordinal hS) (by decide))
  have k129 := ((f_a_COMPLETED_ordinal hS).ne (f_a_RESUME_UNKNOWN_INTERRUPTION_CLASS_ordinal hS) (by decide))
  have k130 := ((f_a_COMPLETED_ordinal hS).ne (f_a_RUNNING_ordinal hS) (by decide))
  have k131 := ((f_a_COMPLETED_ordinal hS).ne (f_a_RESUME_MISSING_RUNTIME_ARTIFACTS_ordinal hS) (by decide))
  rcases rj with rfl | rfl | rfl | rfl | rfl | rfl <;> simp_all [fn1, fn2, fn3, fn4]
theorem ab92 {Z : State} (hS : St Z) (j : Int32) (rj : j = (0 : Int32) ∨ j = (1 : Int32) ∨ j = (2 : Int32) ∨ j = (3 : Int32) ∨ j = (4 : Int32) ∨ j = (5 : Int32)) (hc91 : (fn3 Z (fn4 Z (fn2 Z j))) = (0 : Int32)) : False := by
  have k0 := ((f_a_PENDING_ordinal hS).ne (f_a_RESUME_NON_IDEMPOTENT_STEP_ordinal hS) (by decide))
  have k1 := ((f_a_PENDING_ordinal hS).ne (f_a_WAITING_ordinal hS) (by decide))
  have k2 := ((f_a_PENDING_ordinal hS).ne (f_a_FAILED_ordinal hS) (by decide))
  have k3 := ((f_a_PENDING_ordinal hS).ne (f_a_RESUME_ESCALATED_ordinal hS) (by decide))
  have k4 := (ne_exa (e_a_PENDING hS) (e_a_RESUME_ALLOWED hS) (by decide))
  have k5 := ((f_a_PENDING_ordinal hS).ne (f_a_RESUME_ATTEMPT_LIMIT_REACHED_ordinal hS) (by decide))
  have k6 := ((f_a_PENDING_ordinal hS).ne (f_a_RESUME_MISSING_CHECKPOINT_ordinal hS) (by decide))
  have k7 := ((f_a_PENDING_ordinal hS).ne (f_a_RESUME_UNKNOWN_INTERRUPTION_CLASS_ordinal hS) (by decide))
  have k8 := ((f_a_PENDING_ordinal hS).ne (f_a_RUNNING_ordinal hS) (by decide))
  have k9 := ((f_a_PENDING_ordinal hS).ne (f_a_RESUME_MISSING_RUNTIME_ARTIFACTS_ordinal hS) (by decide))
  have k10 := ((f_a_PENDING_ordinal hS).ne (f_a_COMPLETED_ordinal hS) (by decide))
  have k11 := ((f_a_RESUME_NON_IDEMPOTENT_STEP_ordinal hS).ne (f_a_PENDING_ordinal hS) (by decide))
  have k12 := ((f_a_RESUME_NON_IDEMPOTENT_STEP_ordinal hS).ne (f_a_WAITING_ordinal hS) (by decide))
  have k13 := (ne_exa (e_a_RESUME_NON_IDEMPOTENT_STEP hS) (e_a_FAILED hS) (by decide))
  have k14 := ((f_a_RESUME_NON_IDEMPOTENT_STEP_ordinal hS).ne (f_a_RESUME_ESCALATED_ordinal hS) (by decide))
  have k15 := ((f_a_RESUME_NON_IDEMPOTENT_STEP_ordinal hS).ne (f_a_RESUME_ALLOWED_ordinal hS) (by decide))
  have k16 := ((f_a_RESUME_NON_IDEMPOTENT_STEP_ordinal hS).ne (f_a_RESUME_ATTEMPT_LIMIT_REACHED_ordinal hS) (by decide))
  have k17 := ((f_a_RESUME_NON_IDEMPOTENT_STEP_ordinal hS).ne (f_a_RESUME_MISSING_CHECKPOINT_ordinal hS) (by decide))
  have k18 := ((f_a_RESUME_NON_IDEMPOTENT_STEP_ordinal hS).ne (f_a_RESUME_UNKNOWN_INTERRUPTION_CLASS_ordinal hS) (by decide))
  have k19 := ((f_a_RESUME_NON_IDEMPOTENT_STEP_ordinal hS).ne (f_a_RUNNING_ordinal hS) (by decide))
  have k20 := ((f_a_RESUME_NON_IDEMPOTENT_STEP_ordinal hS).ne (f_a_RESUME_MISSING_RUNTIME_ARTIFACTS_ordinal hS) (by decide))
  have k21 := ((f_a_RESUME_NON_IDEMPOTENT_STEP_ordinal hS).ne (f_a_COMPLETED_ordinal hS) (by decide))
  have k22 := ((f_a_WAITING_ordinal hS).ne (f_a_PENDING_ordinal hS) (by decide))
  have k23 := ((f_a_WAITING_ordinal hS).ne (f_a_RESUME_NON_IDEMPOTENT_STEP_ordinal hS) (by decide))
  have k24 := ((f_a_WAITING_ordinal hS).ne (f_a_FAILED_ordinal hS) (by decide))
  have k25 := ((f_a_WAITING_ordinal hS).ne (f_a_RESUME_ESCALATED_ordinal hS) (by decide))
  have k26 := ((f_a_WAITING_ordinal hS).ne (f_a_RESUME_ALLOWED_ordinal hS) (by decide))
  have k27 := ((f_a_WAITING_ordinal hS).ne (f_a_RESUME_ATTEMPT_LIMIT_REACHED_ordinal hS) (by decide))
  have k28 := ((f_a_WAITING_ordinal hS).ne (f_a_RESUME_MISSING_CHECKPOINT_ordinal hS) (by decide))
  have k29 := (ne_exa (e_a_WAITING hS) (e_a_RESUME_UNKNOWN_INTERRUPTION_CLASS hS) (by decide))
  have k30 := ((f_a_WAITING_ordinal hS).ne (f_a_RUNNING_ordinal hS) (by decide))
  have k31 := ((f_a_WAITING_ordinal hS).ne (f_a_RESUME_MISSING_RUNTIME_ARTIFACTS_ordinal hS) (by decide))
  have k32 := ((f_a_WAITING_ordinal hS).ne (f_a_COMPLETED_ordinal hS) (by decide))
  have k33 := ((f_a_FAILED_ordinal hS).ne (f_a_PENDING_ordinal hS) (by decide))
  have k34 := (ne_exa (e_a_FAILED hS) (e_a_RESUME_NON_IDEMPOTENT_STEP hS) (by decide))
  have k35 := ((f_a_FAILED_ordinal hS).ne (f_a_WAITING_ordinal hS) (by decide))
  have k36 := ((f_a_FAILED_ordinal hS).ne (f_a_RESUME_ESCALATED_ordinal hS) (by decide))
  have k37 := ((f_a_FAILED_ordinal hS).ne (f_a_RESUME_ALLOWED_ordinal hS) (by decide))
  have k38 := ((f_a_FAILED_ordinal hS).ne (f_a_RESUME_ATTEMPT_LIMIT_REACHED_ordinal hS) (by decide))
  have k39 := ((f_a_FAILED_ordinal hS).ne (f_a_RESUME_MISSING_CHECKPOINT_ordinal hS) (by decide))
  have k40 := ((f_a_FAILED_ordinal hS).ne (f_a_RESUME_UNKNOWN_INTERRUPTION_CLASS_ordinal hS) (by decide))
  have k41 := ((f_a_FAILED_ordinal hS).ne (f_a_RUNNING_ordinal hS) (by decide))
  have k42 := ((f_a_FAILED_ordinal hS).ne (f_a_RESUME_MISSING_RUNTIME_ARTIFACTS_ordinal hS) (by decide))
  have k43 := ((f_a_FAILED_ordinal hS).ne (f_a_COMPLETED_ordinal hS) (by decide))
  have k44 := ((f_a_RESUME_ESCALATED_ordinal hS).ne (f_a_PENDING_ordinal hS) (by decide))
  have k45 := ((f_a_RESUME_ESCALATED_ordinal hS).ne (f_a_RESUME_NON_IDEMPOTENT_STEP_ordinal hS) (by decide))
  have k46 := ((f_a_RESUME_ESCALATED_ordinal hS).ne (f_a_WAITING_ordinal hS) (by decide))
  have k47 := ((f_a_RESUME_ESCALATED_ordinal hS).ne (f_a_FAILED_ordinal hS) (by decide))
  have k48 := ((f_a_RESUME_ESCALATED_ordinal hS).ne (f_a_RESUME_ALLOWED_ordinal hS) (by decide))
  have k49 := ((f_a_RESUME_ESCALATED_ordinal hS).ne (f_a_RESUME_ATTEMPT_LIMIT_REACHED_ordinal hS) (by decide))
  have k50 := ((f_a_RESUME_ESCALATED_ordinal hS).ne (f_a_RESUME_MISSING_CHECKPOINT_ordinal hS) (by decide))
  have k51 := ((f_a_RESUME_ESCALATED_ordinal hS).ne (f_a_RESUME_UNKNOWN_INTERRUPTION_CLASS_ordinal hS) (by decide))
  have k52 := ((f_a_RESUME_ESCALATED_ordinal hS).ne (f_a_RUNNING_ordinal hS) (by decide))
  have k53 := (ne_exa (e_a_RESUME_ESCALATED hS) (e_a_RESUME_MISSING_RUNTIME_ARTIFACTS hS) (by decide))
  have k54 := ((f_a_RESUME_ESCALATED_ordinal hS).ne (f_a_COMPLETED_ordinal hS) (by decide))
  have k55 := (ne_exa (e_a_RESUME_ALLOWED hS) (e_a_PENDING hS) (by decide))
  have k56 := ((f_a_RESUME_ALLOWED_ordinal hS).ne (f_a_RESUME_NON_IDEMPOTENT_STEP_ordinal hS) (by decide))
  have k57 := ((f_a_RESUME_ALLOWED_ordinal hS).ne (f_a_WAITING_ordinal hS) (by decide))
  have k58 := ((f_a_RESUME_ALLOWED_ordinal hS).ne (f_a_FAILED_ordinal hS) (by decide))
  have k59 := ((f_a_RESUME_ALLOWED_ordinal hS).ne (f_a_RESUME_ESCALATED_ordinal hS) (by decide))
  have k60 := ((f_a_RESUME_ALLOWED_ordinal hS).ne (f_a_RESUME_ATTEMPT_LIMIT_REACHED_ordinal hS) (by decide))
  have k61 := ((f_a_RESUME_ALLOWED_ordinal hS).ne (f_a_RESUME_MISSING_CHECKPOINT_ordinal hS) (by decide))
  have k62 := ((f_a_RESUME_ALLOWED_ordinal hS).ne (f_a_RESUME_UNKNOWN_INTERRUPTION_CLASS_ordinal hS) (by decide))
  have k63 := ((f_a_RESUME_ALLOWED_ordinal hS).ne (f_a_RUNNING_ordinal hS) (by decide))
  have k64 := ((f_a_RESUME_ALLOWED_ordinal hS).ne (f_a_RESUME_MISSING_RUNTIME_ARTIFACTS_ordinal hS) (by decide))
  have k65 := ((f_a_RESUME_ALLOWED_ordinal hS).ne (f_a_COMPLETED_ordinal hS) (by decide))
  have k66 := ((f_a_RESUME_ATTEMPT_LIMIT_REACHED_ordinal hS).ne (f_a_PENDING_ordinal hS) (by decide))
  have k67 := ((f_a_RESUME_ATTEMPT_LIMIT_REACHED_ordinal hS).ne (f_a_RESUME_NON_IDEMPOTENT_STEP_ordinal hS) (by decide))
  have k68 := ((f_a_RESUME_ATTEMPT_LIMIT_REACHED_ordinal hS).ne (f_a_WAITING_ordinal hS) (by decide))
  have k69 := ((f_a_RESUME_ATTEMPT_LIMIT_REACHED_ordinal hS).ne (f_a_FAILED_ordinal hS) (by decide))
  have k70 := ((f_a_RESUME_ATTEMPT_LIMIT_REACHED_ordinal hS).ne (f_a_RESUME_ESCALATED_ordinal hS) (by decide))
  have k71 := ((f_a_RESUME_ATTEMPT_LIMIT_REACHED_ordinal hS).ne (f_a_RESUME_ALLOWED_ordinal hS) (by decide))
  have k72 := ((f_a_RESUME_ATTEMPT_LIMIT_REACHED_ordinal hS).ne (f_a_RESUME_MISSING_CHECKPOINT_ordinal hS) (by decide))
  have k73 := ((f_a_RESUME_ATTEMPT_LIMIT_REACHED_ordinal hS).ne (f_a_RESUME_UNKNOWN_INTERRUPTION_CLASS_ordinal hS) (by decide))
  have k74 := ((f_a_RESUME_ATTEMPT_LIMIT_REACHED_ordinal hS).ne (f_a_RUNNING_ordinal hS) (by decide))
  have k75 := ((f_a_RESUME_ATTEMPT_LIMIT_REACHED_ordinal hS).ne (f_a_RESUME_MISSING_RUNTIME_ARTIFACTS_ordinal hS) (by decide))
  have k76 := ((f_a_RESUME_ATTEMPT_LIMIT_REACHED_ordinal hS).ne (f_a_COMPLETED_ordinal hS) (by decide))
  have k77 := ((f_a_RESUME_MISSING_CHECKPOINT_ordinal hS).ne (f_a_PENDING_ordinal hS) (by decide))
  have k78 := ((f_a_RESUME_MISSING_CHECKPOINT_ordinal hS).ne (f_a_RESUME_NON_IDEMPOTENT_STEP_ordinal hS) (by decide))
  have k79 := ((f_a_RESUME_MISSING_CHECKPOINT_ordinal hS).ne (f_a_WAITING_ordinal hS) (by decide))
  have k80 := ((f_a_RESUME_MISSING_CHECKPOINT_ordinal hS).ne (f_a_FAILED_ordinal hS) (by decide))
  have k81 := ((f_a_RESUME_MISSING_CHECKPOINT_ordinal hS).ne (f_a_RESUME_ESCALATED_ordinal hS) (by decide))
  have k82 := ((f_a_RESUME_MISSING_CHECKPOINT_ordinal hS).ne (f_a_RESUME_ALLOWED_ordinal hS) (by decide))
  have k83 := ((f_a_RESUME_MISSING_CHECKPOINT_ordinal hS).ne (f_a_RESUME_ATTEMPT_LIMIT_REACHED_ordinal hS) (by decide))
  have k84 := ((f_a_RESUME_MISSING_CHECKPOINT_ordinal hS).ne (f_a_RESUME_UNKNOWN_INTERRUPTION_CLASS_ordinal hS) (by decide))
  have k85 := (ne_exa (e_a_RESUME_MISSING_CHECKPOINT hS) (e_a_RUNNING hS) (by decide))
  have k86 := ((f_a_RESUME_MISSING_CHECKPOINT_ordinal hS).ne (f_a_RESUME_MISSING_RUNTIME_ARTIFACTS_ordinal hS) (by decide))
  have k87 := ((f_a_RESUME_MISSING_CHECKPOINT_ordinal hS).ne (f_a_COMPLETED_ordinal hS) (by decide))
  have k88 := ((f_a_RESUME_UNKNOWN_INTERRUPTION_CLASS_ordinal hS).ne (f_a_PENDING_ordinal hS) (by decide))
  have k89 := ((f_a_RESUME_UNKNOWN_INTERRUPTION_CLASS_ordinal hS).ne (f_a_RESUME_NON_IDEMPOTENT_STEP_ordinal hS) (by decide))
  have k90 := (ne_exa (e_a_RESUME_UNKNOWN_INTERRUPTION_CLASS hS) (e_a_WAITING hS) (by decide))
  have k91 := ((f_a_RESUME_UNKNOWN_INTERRUPTION_CLASS_ordinal hS).ne (f_a_FAILED_ordinal hS) (by decide))
  have k92 := ((f_a_RESUME_UNKNOWN_INTERRUPTION_CLASS_ordinal hS).ne (f_a_RESUME_ESCALATED_ordinal hS) (by decide))
  have k93 := ((f_a_RESUME_UNKNOWN_INTERRUPTION_CLASS_ordinal hS).ne (f_a_RESUME_ALLOWED_ordinal hS) (by decide))
  have k94 := ((f_a_RESUME_UNKNOWN_INTERRUPTION_CLASS_ordinal hS).ne (f_a_RESUME_ATTEMPT_LIMIT_REACHED_ordinal hS) (by decide))
  have k95 := ((f_a_RESUME_UNKNOWN_INTERRUPTION_CLASS_ordinal hS).ne (f_a_RESUME_MISSING_CHECKPOINT_ordinal hS) (by decide))
  have k96 := ((f_a_RESUME_UNKNOWN_INTERRUPTION_CLASS_ordinal hS).ne (f_a_RUNNING_ordinal hS) (by decide))
  have k97 := ((f_a_RESUME_UNKNOWN_INTERRUPTION_CLASS_ordinal hS).ne (f_a_RESUME_MISSING_RUNTIME_ARTIFACTS_ordinal hS) (by decide))
  have k98 := ((f_a_RESUME_UNKNOWN_INTERRUPTION_CLASS_ordinal hS).ne (f_a_COMPLETED_ordinal hS) (by decide))
  have k99 := ((f_a_RUNNING_ordinal hS).ne (f_a_PENDING_ordinal hS) (by decide))
  have k100 := ((f_a_RUNNING_ordinal hS).ne (f_a_RESUME_NON_IDEMPOTENT_STEP_ordinal hS) (by decide))
  have k101 := ((f_a_RUNNING_ordinal hS).ne (f_a_WAITING_ordinal hS) (by decide))
  have k102 := ((f_a_RUNNING_ordinal hS).ne (f_a_FAILED_ordinal hS) (by decide))
  have k103 := ((f_a_RUNNING_ordinal hS).ne (f_a_RESUME_ESCALATED_ordinal hS) (by decide))
  have k104 := ((f_a_RUNNING_ordinal hS).ne (f_a_RESUME_ALLOWED_ordinal hS) (by decide))
  have k105 := ((f_a_RUNNING_ordinal hS).ne (f_a_RESUME_ATTEMPT_LIMIT_REACHED_ordinal hS) (by decide))
  have k106 := (ne_exa (e_a_RUNNING hS) (e_a_RESUME_MISSING_CHECKPOINT hS) (by decide))
  have k107 := ((f_a_RUNNING_ordinal hS).ne (f_a_RESUME_UNKNOWN_INTERRUPTION_CLASS_ordinal hS) (by decide))
  have k108 := ((f_a_RUNNING_ordinal hS).ne (f_a_RESUME_MISSING_RUNTIME_ARTIFACTS_ordinal hS) (by decide))
  have k109 := ((f_a_RUNNING_ordinal hS).ne (f_a_COMPLETED_ordinal hS) (by decide))
  have k110 := ((f_a_RESUME_MISSING_RUNTIME_ARTIFACTS_ordinal hS).ne (f_a_PENDING_ordinal hS) (by decide))
  have k111 := ((f_a_RESUME_MISSING_RUNTIME_ARTIFACTS_ordinal hS).ne (f_a_RESUME_NON_IDEMPOTENT_STEP_ordinal hS) (by decide))
  have k112 := ((f_a_RESUME_MISSING_RUNTIME_ARTIFACTS_ordinal hS).ne (f_a_WAITING_ordinal hS) (by decide))
  have k113 := ((f_a_RESUME_MISSING_RUNTIME_ARTIFACTS_ordinal hS).ne (f_a_FAILED_ordinal hS) (by decide))
  have k114 := (ne_exa (e_a_RESUME_MISSING_RUNTIME_ARTIFACTS hS) (e_a_RESUME_ESCALATED hS) (by decide))
  have k115 := ((f_a_RESUME_MISSING_RUNTIME_ARTIFACTS_ordinal hS).ne (f_a_RESUME_ALLOWED_ordinal hS) (by decide))
  have k116 := ((f_a_RESUME_MISSING_RUNTIME_ARTIFACTS_ordinal hS).ne (f_a_RESUME_ATTEMPT_LIMIT_REACHED_ordinal hS) (by decide))
  have k117 := ((f_a_RESUME_MISSING_RUNTIME_ARTIFACTS_ordinal hS).ne (f_a_RESUME_MISSING_CHECKPOINT_ordinal hS) (by decide))
  have k118 := ((f_a_RESUME_MISSING_RUNTIME_ARTIFACTS_ordinal hS).ne (f_a_RESUME_UNKNOWN_INTERRUPTION_CLASS_ordinal hS) (by decide))
  have k119 := ((f_a_RESUME_MISSING_RUNTIME_ARTIFACTS_ordinal hS).ne (f_a_RUNNING_ordinal hS) (by decide))
  have k120 := ((f_a_RESUME_MISSING_RUNTIME_ARTIFACTS_ordinal hS).ne (f_a_COMPLETED_ordinal hS) (by decide))
  have k121 := ((f_a_COMPLETED_ordinal hS).ne (f_a_PENDING_ordinal hS) (by decide))
  have k122 := ((f_a_COMPLETED_ordinal hS).ne (f_a_RESUME_NON_IDEMPOTENT_STEP_ordinal hS) (by decide))
  have k123 := ((f_a_COMPLETED_ordinal hS).ne (f_a_WAITING_ordinal hS) (by decide))
  have k124 := ((f_a_COMPLETED_ordinal hS).ne (f_a_FAILED_ordinal hS) (by decide))
  have k125 := ((f_a_COMPLETED_ordinal hS).ne (f_a_RESUME_ESCALATED_ordinal hS) (by decide))
  have k126 := ((f_a_COMPLETED_ordinal hS).ne (f_a_RESUME_ALLOWED_ordinal hS) (by decide))
  have k127 := ((f_a_COMPLETED_ordinal hS).ne (f_a_RESUME_ATTEMPT_LIMIT_REACHED_ordinal hS) (by decide))
  have k128 := ((f_a_COMPLETED_ordinal hS).ne (f_a_RESUME_MISSING_CHECKPOINT_ordinal hS) (by decide))
  have k129 := ((f_a_COMPLETED_ordinal hS).ne (f_a_RESUME_UNKNOWN_INTERRUPTION_CLASS_ordinal hS) (by decide))
  have k130 := ((f_a_COMPLETED_ordinal hS).ne (f_a_RUNNING_ordinal hS) (by decide))
  have k131 := ((f_a_COMPLETED_ordinal hS).ne (f_a_RESUME_MISSING_RUNTIME_ARTIFACTS_ordinal hS) (by decide))
  rcases rj with rfl | rfl | rfl | rfl | rfl | rfl <;> simp_all [fn1, fn2, fn3, fn4]
theorem ab103 {Z : State} (hS : St Z) (j : Int32) (rj : j = (0 : Int32) ∨ j = (1 : Int32) ∨ j = (2 : Int32) ∨ j = (3 : Int32) ∨ j = (4 : Int32) ∨ j = (5 : Int32)) (hc102 : (fn3 Z (fn4 Z (fn2 Z j))) = (0 : Int32)) : False := by
  have k0 := ((f_a_PENDING_ordinal hS).ne (f_a_RESUME_NON_IDEMPOTENT_STEP_ordinal hS) (by decide))
  have k1 := ((f_a_PENDING_ordinal hS).ne (f_a_WAITING_ordinal hS) (by decide))
  have k2 := ((f_a_PENDING_ordinal hS).ne (f_a_FAILED_ordinal hS) (by decide))
  have k3 := ((f_a_PENDING_ordinal hS).ne (f_a_RESUME_ESCALATED_ordinal hS) (by decide))
  have k4 := (ne_exa (e_a_PENDING hS) (e_a_RESUME_ALLOWED hS) (by decide))
  have k5 := ((f_a_PENDING_ordinal hS).ne (f_a_RESUME_ATTEMPT_LIMIT_REACHED_ordinal hS) (by decide))
  have k6 := ((f_a_PENDING_ordinal hS).ne (f_a_RESUME_MISSING_CHECKPOINT_ordinal hS) (by decide))
  have k7 := ((f_a_PENDING_ordinal hS).ne (f_a_RESUME_UNKNOWN_INTERRUPTION_CLASS_ordinal hS) (by decide))
  have k8 := ((f_a_PENDING_ordinal hS).ne (f_a_RUNNING_ordinal hS) (by decide))
  have k9 := ((f_a_PENDING_ordinal hS).ne (f_a_RESUME_MISSING_RUNTIME_ARTIFACTS_ordinal hS) (by decide))
  have k10 := ((f_a_PENDING_ordinal hS).ne (f_a_COMPLETED_ordinal hS) (by decide))
  have k11 := ((f_a_RESUME_NON_IDEMPOTENT_STEP_ordinal hS).ne (f_a_PENDING_ordinal hS) (by decide))
  have k12 := ((f_a_RESUME_NON_IDEMPOTENT_STEP_ordinal hS).ne (f_a_WAITING_ordinal hS) (by decide))
  have k13 := (ne_exa (e_a_RESUME_NON_IDEMPOTENT_STEP hS) (e_a_FAILED hS) (by decide))
  have k14 := ((f_a_RESUME_NON_IDEMPOTENT_STEP_ordinal hS).ne (f_a_RESUME_ESCALATED_ordinal hS) (by decide))
  have k15 := ((f_a_RESUME_NON_IDEMPOTENT_STEP_ordinal hS).ne (f_a_RESUME_ALLOWED_ordinal hS) (by decide))
  have k16 := ((f_a_RESUME_NON_IDEMPOTENT_STEP_ordinal hS).ne (f_a_RESUME_ATTEMPT_LIMIT_REACHED_ordinal hS) (by decide))
  have k17 := ((f_a_RESUME_NON_IDEMPOTENT_STEP_ordinal hS).ne (f_a_RESUME_MISSING_CHECKPOINT_ordinal hS) (by decide))
  have k18 := ((f_a_RESUME_NON_IDEMPOTENT_STEP_ordinal hS).ne (f_a_RESUME_UNKNOWN_INTERRUPTION_CLASS_ordinal hS) (by decide))
  have k19 := ((f_a_RESUME_NON_IDEMPOTENT_STEP_ordinal hS).ne (f_a_RUNNING_ordinal hS) (by decide))
  have k20 := ((f_a_RESUME_NON_IDEMPOTENT_STEP_ordinal hS).ne (f_a_RESUME_MISSING_RUNTIME_ARTIFACTS_ordinal hS) (by decide))
  have k21 := ((f_a_RESUME_NON_IDEMPOTENT_STEP_ordinal hS).ne (f_a_COMPLETED_ordinal hS) (by decide))
  have k22 := ((f_a_WAITING_ordinal hS).ne (f_a_PENDING_ordinal hS) (by decide))
  have k23 := ((f_a_WAITING_ordinal hS).ne (f_a_RESUME_NON_IDEMPOTENT_STEP_ordinal hS) (by decide))
  have k24 := ((f_a_WAITING_ordinal hS).ne (f_a_FAILED_ordinal hS) (by decide))
  have k25 := ((f_a_WAITING_ordinal hS).ne (f_a_RESUME_ESCALATED_ordinal hS) (by decide))
  have k26 := ((f_a_WAITING_ordinal hS).ne (f_a_RESUME_ALLOWED_ordinal hS) (by decide))
  have k27 := ((f_a_WAITING_ordinal hS).ne (f_a_RESUME_ATTEMPT_LIMIT_REACHED_ordinal hS) (by decide))
  have k28 := ((f_a_WAITING_ordinal hS).ne (f_a_RESUME_MISSING_CHECKPOINT_ordinal hS) (by decide))
  have k29 := (ne_exa (e_a_WAITING hS) (e_a_RESUME_UNKNOWN_INTERRUPTION_CLASS hS) (by decide))
  have k30 := ((f_a_WAITING_ordinal hS).ne (f_a_RUNNING_ordinal hS) (by decide))
  have k31 := ((f_a_WAITING_ordinal hS).ne (f_a_RESUME_MISSING_RUNTIME_ARTIFACTS_ordinal hS) (by decide))
  have k32 := ((f_a_WAITING_ordinal hS).ne (f_a_COMPLETED_ordinal hS) (by decide))
  have k33 := ((f_a_FAILED_ordinal hS).ne (f_a_PENDING_ordinal hS) (by decide))
  have k34 := (ne_exa (e_a_FAILED hS) (e_a_RESUME_NON_IDEMPOTENT_STEP hS) (by decide))
  have k35 := ((f_a_FAILED_ordinal hS).ne (f_a_WAITING_ordinal hS) (by decide))
  have k36 := ((f_a_FAILED_ordinal hS).ne (f_a_RESUME_ESCALATED_ordinal hS) (by decide))
  have k37 := ((f_a_FAILED_ordinal hS).ne (f_a_RESUME_ALLOWED_ordinal hS) (by decide))
  have k38 := ((f_a_FAILED_ordinal hS).ne (f_a_RESUME_ATTEMPT_LIMIT_REACHED_ordinal hS) (by decide))
  have k39 := ((f_a_FAILED_ordinal hS).ne (f_a_RESUME_MISSING_CHECKPOINT_ordinal hS) (by decide))
  have k40 := ((f_a_FAILED_ordinal hS).ne (f_a_RESUME_UNKNOWN_INTERRUPTION_CLASS_ordinal hS) (by decide))
  have k41 := ((f_a_FAILED_ordinal hS).ne (f_a_RUNNING_ordinal hS) (by decide))
  have k42 := ((f_a_FAILED_ordinal hS).ne (f_a_RESUME_MISSING_RUNTIME_ARTIFACTS_ordinal hS) (by decide))
  have k43 := ((f_a_FAILED_ordinal hS).ne (f_a_COMPLETED_ordinal hS) (by decide))
  have k44 := ((f_a_RESUME_ESCALATED_ordinal hS).ne (f_a_PENDING_ordinal hS) (by decide))
  have k45 := ((f_a_RESUME_ESCALATED_ordinal hS).ne (f_a_RESUME_NON_IDEMPOTENT_STEP_ordinal hS) (by decide))
  have k46 := ((f_a_RESUME_ESCALATED_ordinal hS).ne (f_a_WAITING_ordinal hS) (by decide))
  have k47 := ((f_a_RESUME_ESCALATED_ordinal hS).ne (f_a_FAILED_ordinal hS) (by decide))
  have k48 := ((f_a_RESUME_ESCALATED_ordinal hS).ne (f_a_RESUME_ALLOWED_ordinal hS) (by decide))
  have k49 := ((f_a_RESUME_ESCALATED_ordinal hS).ne (f_a_RESUME_ATTEMPT_LIMIT_REACHED_ordinal hS) (by decide))
  have k50 := ((f_a_RESUME_ESCALATED_ordinal hS).ne (f_a_RESUME_MISSING_CHECKPOINT_ordinal hS) (by decide))
  have k51 := ((f_a_RESUME_ESCALATED_ordinal hS).ne (f_a_RESUME_UNKNOWN_INTERRUPTION_CLASS_ordinal hS) (by decide))
  have k52 := ((f_a_RESUME_ESCALATED_ordinal hS).ne (f_a_RUNNING_ordinal hS) (by decide))
  have k53 := (ne_exa (e_a_RESUME_ESCALATED hS) (e_a_RESUME_MISSING_RUNTIME_ARTIFACTS hS) (by decide))
  have k54 := ((f_a_RESUME_ESCALATED_ordinal hS).ne (f_a_COMPLETED_ordinal hS) (by decide))
  have k55 := (ne_exa (e_a_RESUME_ALLOWED hS) (e_a_PENDING hS) (by decide))
  have k56 := ((f_a_RESUME_ALLOWED_ordinal hS).ne (f_a_RESUME_NON_IDEMPOTENT_STEP_ordinal hS) (by decide))
  have k57 := ((f_a_RESUME_ALLOWED_ordinal hS).ne (f_a_WAITING_ordinal hS) (by decide))
  have k58 := ((f_a_RESUME_ALLOWED_ordinal hS).ne (f_a_FAILED_ordinal hS) (by decide))
  have k59 := ((f_a_RESUME_ALLOWED_ordinal hS).ne (f_a_RESUME_ESCALATED_ordinal hS) (by decide))
  have k60 := ((f_a_RESUME_ALLOWED_ordinal hS).ne (f_a_RESUME_ATTEMPT_LIMIT_REACHED_ordinal hS) (by decide))
  have k61 := ((f_a_RESUME_ALLOWED_ordinal hS).ne (f_a_RESUME_MISSING_CHECKPOINT_ordinal hS) (by decide))
  have k62 := ((f_a_RESUME_ALLOWED_ordinal hS).ne (f_a_RESUME_UNKNOWN_INTERRUPTION_CLASS_ordinal hS) (by decide))
  have k63 := ((f_a_RESUME_ALLOWED_ordinal hS).ne (f_a_RUNNING_ordinal hS) (by decide))
  have k64 := ((f_a_RESUME_ALLOWED_ordinal hS).ne (f_a_RESUME_MISSING_RUNTIME_ARTIFACTS_ordinal hS) (by decide))
  have k65 := ((f_a_RESUME_ALLOWED_ordinal hS).ne (f_a_COMPLETED_ordinal hS) (by decide))
  have k66 := ((f_a_RESUME_ATTEMPT_LIMIT_REACHED_ordinal hS).ne (f_a_PENDING_ordinal hS) (by decide))
  have k67 := ((f_a_RESUME_ATTEMPT_LIMIT_REACHED_ordinal hS).ne (f_a_RESUME_NON_IDEMPOTENT_STEP_ordinal hS) (by decide))
  have k68 := ((f_a_RESUME_ATTEMPT_LIMIT_REACHED_ordinal hS).ne (f_a_WAITING_ordinal hS) (by decide))
  have k69 := ((f_a_RESUME_ATTEMPT_LIMIT_REACHED_ordinal hS).ne (f_a_FAILED_ordinal hS) (by decide))
  have k70 := ((f_a_RESUME_ATTEMPT_LIMIT_REACHED_ordinal hS).ne (f_a_RESUME_ESCALATED_ordinal hS) (by decide))
  have k71 := ((f_a_RESUME_ATTEMPT_LIMIT_REACHED_ordinal hS).ne (f_a_RESUME_ALLOWED_ordinal hS) (by decide))
  have k72 := ((f_a_RESUME_ATTEMPT_LIMIT_REACHED_ordinal hS).ne (f_a_RESUME_MISSING_CHECKPOINT_ordinal hS) (by decide))
  have k73 := ((f_a_RESUME_ATTEMPT_LIMIT_REACHED_ordinal hS).ne (f_a_RESUME_UNKNOWN_INTERRUPTION_CLASS_ordinal hS) (by decide))
  have k74 := ((f_a_RESUME_ATTEMPT_LIMIT_REACHED_ordinal hS).ne (f_a_RUNNING_ordinal hS) (by decide))
  have k75 := ((f_a_RESUME_ATTEMPT_LIMIT_REACHED_ordinal hS).ne (f_a_RESUME_MISSING_RUNTIME_ARTIFACTS_ordinal hS) (by decide))
  have k76 := ((f_a_RESUME_ATTEMPT_LIMIT_REACHED_ordinal hS).ne (f_a_COMPLETED_ordinal hS) (by decide))
  have k77 := ((f_a_RESUME_MISSING_CHECKPOINT_ordinal hS).ne (f_a_PENDING_ordinal hS) (by decide))
  have k78 := ((f_a_RESUME_MISSING_CHECKPOINT_ordinal hS).ne (f_a_RESUME_NON_IDEMPOTENT_STEP_ordinal hS) (by decide))
  have k79 := ((f_a_RESUME_MISSING_CHECKPOINT_ordinal hS).ne (f_a_WAITING_ordinal hS) (by decide))
  have k80 := ((f_a_RESUME_MISSING_CHECKPOINT_ordinal hS).ne (f_a_FAILED_ordinal hS) (by decide))
  have k81 := ((f_a_RESUME_MISSING_CHECKPOINT_ordinal hS).ne (f_a_RESUME_ESCALATED_ordinal hS) (by decide))
  have k82 := ((f_a_RESUME_MISSING_CHECKPOINT_ordinal hS).ne (f_a_RESUME_ALLOWED_ordinal hS) (by decide))
  have k83 := ((f_a_RESUME_MISSING_CHECKPOINT_ordinal hS).ne (f_a_RESUME_ATTEMPT_LIMIT_REACHED_ordinal hS) (by decide))
  have k84 := ((f_a_RESUME_MISSING_CHECKPOINT_ordinal hS).ne (f_a_RESUME_UNKNOWN_INTERRUPTION_CLASS_ordinal hS) (by decide))
  have k85 := (ne_exa (e_a_RESUME_MISSING_CHECKPOINT hS) (e_a_RUNNING hS) (by decide))
  have k86 := ((f_a_RESUME_MISSING_CHECKPOINT_ordinal hS).ne (f_a_RESUME_MISSING_RUNTIME_ARTIFACTS_ordinal hS) (by decide))
  have k87 := ((f_a_RESUME_MISSING_CHECKPOINT_ordinal hS).ne (f_a_COMPLETED_ordinal hS) (by decide))
  have k88 := ((f_a_RESUME_UNKNOWN_INTERRUPTION_CLASS_ordinal hS).ne (f_a_PENDING_ordinal hS) (by decide))
  have k89 := ((f_a_RESUME_UNKNOWN_INTERRUPTION_CLASS_ordinal hS).ne (f_a_RESUME_NON_IDEMPOTENT_STEP_ordinal hS) (by decide))
  have k90 := (ne_exa (e_a_RESUME_UNKNOWN_INTERRUPTION_CLASS hS) (e_a_WAITING hS) (by decide))
  have k91 := ((f_a_RESUME_UNKNOWN_INTERRUPTION_CLASS_ordinal hS).ne (f_a_FAILED_ordinal hS) (by decide))
  have k92 := ((f_a_RESUME_UNKNOWN_INTERRUPTION_CLASS_ordinal hS).ne (f_a_RESUME_ESCALATED_ordinal hS) (by decide))
  have k93 := ((f_a_RESUME_UNKNOWN_INTERRUPTION_CLASS_ordinal hS).ne (f_a_RESUME_ALLOWED_ordinal hS) (by decide))
  have k94 := ((f_a_RESUME_UNKNOWN_INTERRUPTION_CLASS_ordinal hS).ne (f_a_RESUME_ATTEMPT_LIMIT_REACHED_ordinal hS) (by decide))
  have k95 := ((f_a_RESUME_UNKNOWN_INTERRUPTION_CLASS_ordinal hS).ne (f_a_RESUME_MISSING_CHECKPOINT_ordinal hS) (by decide))
  have k96 := ((f_a_RESUME_UNKNOWN_INTERRUPTION_CLASS_ordinal hS).ne (f_a_RUNNING_ordinal hS) (by decide))
  have k97 := ((f_a_RESUME_UNKNOWN_INTERRUPTION_CLASS_ordinal hS).ne (f_a_RESUME_MISSING_RUNTIME_ARTIFACTS_ordinal hS) (by decide))
  have k98 := ((f_a_RESUME_UNKNOWN_INTERRUPTION_CLASS_ordinal hS).ne (f_a_COMPLETED_ordinal hS) (by decide))
  have k99 := ((f_a_RUNNING_ordinal hS).ne (f_a_PENDING_ordinal hS) (by decide))
  have k100 := ((f_a_RUNNING_ordinal hS).ne (f_a_RESUME_NON_IDEMPOTENT_STEP_ordinal hS) (by decide))
  have k101 := ((f_a_RUNNING_ordinal hS).ne (f_a_WAITING_ordinal hS) (by decide))
  have k102 := ((f_a_RUNNING_ordinal hS).ne (f_a_FAILED_ordinal hS) (by decide))
  have k103 := ((f_a_RUNNING_ordinal hS).ne (f_a_RESUME_ESCALATED_ordinal hS) (by decide))
  have k104 := ((f_a_RUNNING_ordinal hS).ne (f_a_RESUME_ALLOWED_ordinal hS) (by decide))
  have k105 := ((f_a_RUNNING_ordinal hS).ne (f_a_RESUME_ATTEMPT_LIMIT_REACHED_ordinal hS) (by decide))
  have k106 := (ne_exa (e_a_RUNNING hS) (e_a_RESUME_MISSING_CHECKPOINT hS) (by decide))
  have k107 := ((f_a_RUNNING_ordinal hS).ne (f_a_RESUME_UNKNOWN_INTERRUPTION_CLASS_ordinal hS) (by decide))
  have k108 := ((f_a_RUNNING_ordinal hS).ne (f_a_RESUME_MISSING_RUNTIME_ARTIFACTS_ordinal hS) (by decide))
  have k109 := ((f_a_RUNNING_ordinal hS).ne (f_a_COMPLETED_ordinal hS) (by decide))
  have k110 := ((f_a_RESUME_MISSING_RUNTIME_ARTIFACTS_ordinal hS).ne (f_a_PENDING_ordinal hS) (by decide))
  have k111 := ((f_a_RESUME_MISSING_RUNTIME_ARTIFACTS_ordinal hS).ne (f_a_RESUME_NON_IDEMPOTENT_STEP_ordinal hS) (by decide))
  have k112 := ((f_a_RESUME_MISSING_RUNTIME_ARTIFACTS_ordinal hS).ne (f_a_WAITING_ordinal hS) (by decide))
  have k113 := ((f_a_RESUME_MISSING_RUNTIME_ARTIFACTS_ordinal hS).ne (f_a_FAILED_ordinal hS) (by decide))
  have k114 := (ne_exa (e_a_RESUME_MISSING_RUNTIME_ARTIFACTS hS) (e_a_RESUME_ESCALATED hS) (by decide))
  have k115 := ((f_a_RESUME_MISSING_RUNTIME_ARTIFACTS_ordinal hS).ne (f_a_RESUME_ALLOWED_ordinal hS) (by decide))
  have k116 := ((f_a_RESUME_MISSING_RUNTIME_ARTIFACTS_ordinal hS).ne (f_a_RESUME_ATTEMPT_LIMIT_REACHED_ordinal hS) (by decide))
  have k117 := ((f_a_RESUME_MISSING_RUNTIME_ARTIFACTS_ordinal hS).ne (f_a_RESUME_MISSING_CHECKPOINT_ordinal hS) (by decide))
  have k118 := ((f_a_RESUME_MISSING_RUNTIME_ARTIFACTS_ordinal hS).ne (f_a_RESUME_UNKNOWN_INTERRUPTION_CLASS_ordinal hS) (by decide))
  have k119 := ((f_a_RESUME_MISSING_RUNTIME_ARTIFACTS_ordinal hS).ne (f_a_RUNNING_ordinal hS) (by decide))
  have k120 := ((f_a_RESUME_MISSING_RUNTIME_ARTIFACTS_ordinal hS).ne (f_a_COMPLETED_ordinal hS) (by decide))
  have k121 := ((f_a_COMPLETED_ordinal hS).ne (f_a_PENDING_ordinal hS) (by decide))
  have k122 := ((f_a_COMPLETED_ordinal hS).ne (f_a_RESUME_NON_IDEMPOTENT_STEP_ordinal hS) (by decide))
  have k123 := ((f_a_COMPLETED_ordinal hS).ne (f_a_WAITING_ordinal hS) (by decide))
  have k124 := ((f_a_COMPLETED_ordinal hS).ne (f_a_FAILED_ordinal hS) (by decide))
  have k125 := ((f_a_COMPLETED_ordinal hS).ne (f_a_RESUME_ESCALATED_ordinal hS) (by decide))
  have k126 := ((f_a_COMPLETED_ordinal hS).ne (f_a_RESUME_ALLOWED_ordinal hS) (by decide))
  have k127 := ((f_a_COMPLETED_ordinal hS).ne (f_a_RESUME_ATTEMPT_LIMIT_REACHED_ordinal hS) (by decide))
  have k128 := ((f_a_COMPLETED_ordinal hS).ne (f_a_RESUME_MISSING_CHECKPOINT_ordinal hS) (by decide))
  have k129 := ((f_a_COMPLETED_ordinal hS).ne (f_a_RESUME_UNKNOWN_INTERRUPTION_CLASS_ordinal hS) (by decide))
  have k130 := ((f_a_COMPLETED_ordinal hS).ne (f_a_RUNNING_ordinal hS) (by decide))
  have k131 := ((f_a_COMPLETED_ordinal hS).ne (f_a_RESUME_MISSING_RUNTIME_ARTIFACTS_ordinal hS) (by decide))
  rcases rj with rfl | rfl | rfl | rfl | rfl | rfl <;> simp_all [fn1, fn2, fn3, fn4]
theorem ab114 {Z : State} (hS : St Z) (j : Int32) (rj : j = (0 : Int32) ∨ j = (1 : Int32) ∨ j = (2 : Int32) ∨ j = (3 : Int32) ∨ j = (4 : Int32) ∨ j = (5 : Int32)) (hc113 : (fn3 Z (fn4 Z (fn2 Z j))) = (0 : Int32)) : False := by
  have k0 := ((f_a_PENDING_ordinal hS).ne (f_a_RESUME_NON_IDEMPOTENT_STEP_ordinal hS) (by decide))
  have k1 := ((f_a_PENDING_ordinal hS).ne (f_a_WAITING_ordinal hS) (by decide))
  have k2 := ((f_a_PENDING_ordinal hS).ne (f_a_FAILED_ordinal hS) (by decide))
  have k3 := ((f_a_PENDING_ordinal hS).ne (f_a_RESUME_ESCALATED_ordinal hS) (by decide))
  have k4 := (ne_exa (e_a_PENDING hS) (e_a_RESUME_ALLOWED hS) (by decide))
  have k5 := ((f_a_PENDING_ordinal hS).ne (f_a_RESUME_ATTEMPT_LIMIT_REACHED_ordinal hS) (by decide))
  have k6 := ((f_a_PENDING_ordinal hS).ne (f_a_RESUME_MISSING_CHECKPOINT_ordinal hS) (by decide))
  have k7 := ((f_a_PENDING_ordinal hS).ne (f_a_RESUME_UNKNOWN_INTERRUPTION_CLASS_ordinal hS) (by decide))
  have k8 := ((f_a_PENDING_ordinal hS).ne (f_a_RUNNING_ordinal hS) (by decide))
  have k9 := ((f_a_PENDING_ordinal hS).ne (f_a_RESUME_MISSING_RUNTIME_ARTIFACTS_ordinal hS) (by decide))
  have k10 := ((f_a_PENDING_ordinal hS).ne (f_a_COMPLETED_ordinal hS) (by decide))
  have k11 := ((f_a_RESUME_NON_IDEMPOTENT_STEP_ordinal hS).ne (f_a_PENDING_ordinal hS) (by decide))
  have k12 := ((f_a_RESUME_NON_IDEMPOTENT_STEP_ordinal hS).ne (f_a_WAITING_ordinal hS) (by decide))
  have k13 := (ne_exa (e_a_RESUME_NON_IDEMPOTENT_STEP hS) (e_a_FAILED hS) (by decide))
  have k14 := ((f_a_RESUME_NON_IDEMPOTENT_STEP_ordinal hS).ne (f_a_RESUME_ESCALATED_ordinal hS) (by decide))
  have k15 := ((f_a_RESUME_NON_IDEMPOTENT_STEP_ordinal hS).ne (f_a_RESUME_ALLOWED_ordinal hS) (by decide))
  have k16 := ((f_a_RESUME_NON_IDEMPOTENT_STEP_ordinal hS).ne (f_a_RESUME_ATTEMPT_LIMIT_REACHED_ordinal hS) (by decide))
  have k17 := ((f_a_RESUME_NON_IDEMPOTENT_STEP_ordinal hS).ne (f_a_RESUME_MISSING_CHECKPOINT_ordinal hS) (by decide))
  have k18 := ((f_a_RESUME_NON_IDEMPOTENT_STEP_ordinal hS).ne (f_a_RESUME_UNKNOWN_INTERRUPTION_CLASS_ordinal hS) (by decide))
  have k19 := ((f_a_RESUME_NON_IDEMPOTENT_STEP_ordinal hS).ne (f_a_RUNNING_ordinal hS) (by decide))
  have k20 := ((f_a_RESUME_NON_IDEMPOTENT_STEP_ordinal hS).ne (f_a_RESUME_MISSING_RUNTIME_ARTIFACTS_ordinal hS) (by decide))
  have k21 := ((f_a_RESUME_NON_IDEMPOTENT_STEP_ordinal hS).ne (f_a_COMPLETED_ordinal hS) (by decide))
  have k22 := ((f_a_WAITING_ordinal hS).ne (f_a_PENDING_ordinal hS) (by decide))
  have k23 := ((f_a_WAITING_ordinal hS).ne (f_a_RESUME_NON_IDEMPOTENT_STEP_ordinal hS) (by decide))
  have k24 := ((f_a_WAITING_ordinal hS).ne (f_a_FAILED_ordinal hS) (by decide))
  have k25 := ((f_a_WAITING_ordinal hS).ne (f_a_RESUME_ESCALATED_ordinal hS) (by decide))
  have k26 := ((f_a_WAITING_ordinal hS).ne (f_a_RESUME_ALLOWED_ordinal hS) (by decide))
  have k27 := ((f_a_WAITING_ordinal hS).ne (f_a_RESUME_ATTEMPT_LIMIT_REACHED_ordinal hS) (by decide))
  have k28 := ((f_a_WAITING_ordinal hS).ne (f_a_RESUME_MISSING_CHECKPOINT_ordinal hS) (by decide))
  have k29 := (ne_exa (e_a_WAITING hS) (e_a_RESUME_UNKNOWN_INTERRUPTION_CLASS hS) (by decide))
  have k30 := ((f_a_WAITING_ordinal hS).ne (f_a_RUNNING_ordinal hS) (by decide))
  have k31 := ((f_a_WAITING_ordinal hS).ne (f_a_RESUME_MISSING_RUNTIME_ARTIFACTS_ordinal hS) (by decide))
  have k32 := ((f_a_WAITING_ordinal hS).ne (f_a_COMPLETED_ordinal hS) (by decide))
  have k33 := ((f_a_FAILED_ordinal hS).ne (f_a_PENDING_ordinal hS) (by decide))
  have k34 := (ne_exa (e_a_FAILED hS) (e_a_RESUME_NON_IDEMPOTENT_STEP hS) (by decide))
  have k35 := ((f_a_FAILED_ordinal hS).ne (f_a_WAITING_ordinal hS) (by decide))
  have k36 := ((f_a_FAILED_ordinal hS).ne (f_a_RESUME_ESCALATED_ordinal hS) (by decide))
  have k37 := ((f_a_FAILED_ordinal hS).ne (f_a_RESUME_ALLOWED_ordinal hS) (by decide))
  have k38 := ((f_a_FAILED_ordinal hS).ne (f_a_RESUME_ATTEMPT_LIMIT_REACHED_ordinal hS) (by decide))
  have k39 := ((f_a_FAILED_ordinal hS).ne (f_a_RESUME_MISSING_CHECKPOINT_ordinal hS) (by decide))
  have k40 := ((f_a_FAILED_ordinal hS).ne (f_a_RESUME_UNKNOWN_INTERRUPTION_CLASS_ordinal hS) (by decide))
  have k41 := ((f_a_FAILED_ordinal hS).ne (f_a_RUNNING_ordinal hS) (by decide))
  have k42 := ((f_a_FAILED_ordinal hS).ne (f_a_RESUME_MISSING_RUNTIME_ARTIFACTS_ordinal hS) (by decide))
  have k43 := ((f_a_FAILED_ordinal hS).ne (f_a_COMPLETED_ordinal hS) (by decide))
  have k44 := ((f_a_RESUME_ESCALATED_ordinal hS).ne (f_a_PENDING_ordinal hS) (by decide))
  have k45 := ((f_a_RESUME_ESCALATED_ordinal hS).ne (f_a_RESUME_NON_IDEMPOTENT_STEP_ordinal hS) (by decide))
  have k46 := ((f_a_RESUME_ESCALATED_ordinal hS).ne (f_a_WAITING_ordinal hS) (by decide))
  have k47 := ((f_a_RESUME_ESCALATED_ordinal hS).ne (f_a_FAILED_ordinal hS) (by decide))
  have k48 := ((f_a_RESUME_ESCALATED_ordinal hS).ne (f_a_RESUME_ALLOWED_ordinal hS) (by decide))
  have k49 := ((f_a_RESUME_ESCALATED_ordinal hS).ne (f_a_RESUME_ATTEMPT_LIMIT_REACHED_ordinal hS) (by decide))
  have k50 := ((f_a_RESUME_ESCALATED_ordinal hS).ne (f_a_RESUME_MISSING_CHECKPOINT_ordinal hS) (by decide))
  have k51 := ((f_a_RESUME_ESCALATED_ordinal hS).ne (f_a_RESUME_UNKNOWN_INTERRUPTION_CLASS_ordinal hS) (by decide))
  have k52 := ((f_a_RESUME_ESCALATED_ordinal hS).ne (f_a_RUNNING_ordinal hS) (by decide))
  have k53 := (ne_exa (e_a_RESUME_ESCALATED hS) (e_a_RESUME_MISSING_RUNTIME_ARTIFACTS hS) (by decide))
  have k54 := ((f_a_RESUME_ESCALATED_ordinal hS).ne (f_a_COMPLETED_ordinal hS) (by decide))
  have k55 := (ne_exa (e_a_RESUME_ALLOWED hS) (e_a_PENDING hS) (by decide))
  have k56 := ((f_a_RESUME_ALLOWED_ordinal hS).ne (f_a_RESUME_NON_IDEMPOTENT_STEP_ordinal hS) (by decide))
  have k57 := ((f_a_RESUME_ALLOWED_ordinal hS).ne (f_a_WAITING_ordinal hS) (by decide))
  have k58 := ((f_a_RESUME_ALLOWED_ordinal hS).ne (f_a_FAILED_ordinal hS) (by decide))
  have k59 := ((f_a_RESUME_ALLOWED_ordinal hS).ne (f_a_RESUME_ESCALATED_ordinal hS) (by decide))
  have k60 := ((f_a_RESUME_ALLOWED_ordinal hS).ne (f_a_RESUME_ATTEMPT_LIMIT_REACHED_ordinal hS) (by decide))
  have k61 := ((f_a_RESUME_ALLOWED_ordinal hS).ne (f_a_RESUME_MISSING_CHECKPOINT_ordinal hS) (by decide))
  have k62 := ((f_a_RESUME_ALLOWED_ordinal hS).ne (f_a_RESUME_UNKNOWN_INTERRUPTION_CLASS_ordinal hS) (by decide))
  have k63 := ((f_a_RESUME_ALLOWED_ordinal hS).ne (f_a_RUNNING_ordinal hS) (by decide))
  have k64 := ((f_a_RESUME_ALLOWED_ordinal hS).ne (f_a_RESUME_MISSING_RUNTIME_ARTIFACTS_ordinal hS) (by decide))
  have k65 := ((f_a_RESUME_ALLOWED_ordinal hS).ne (f_a_COMPLETED_ordinal hS) (by decide))
  have k66 := ((f_a_RESUME_ATTEMPT_LIMIT_REACHED_ordinal hS).ne (f_a_PENDING_ordinal hS) (by decide))
  have k67 := ((f_a_RESUME_ATTEMPT_LIMIT_REACHED_ordinal hS).ne (f_a_RESUME_NON_IDEMPOTENT_STEP_ordinal hS) (by decide))
  have k68 := ((f_a_RESUME_ATTEMPT_LIMIT_REACHED_ordinal hS).ne (f_a_WAITING_ordinal hS) (by decide))
  have k69 := ((f_a_RESUME_ATTEMPT_LIMIT_REACHED_ordinal hS).ne (f_a_FAILED_ordinal hS) (by decide))
  have k70 := ((f_a_RESUME_ATTEMPT_LIMIT_REACHED_ordinal hS).ne (f_a_RESUME_ESCALATED_ordinal hS) (by decide))
  have k71 := ((f_a_RESUME_ATTEMPT_LIMIT_REACHED_ordinal hS).ne (f_a_RESUME_ALLOWED_ordinal hS) (by decide))
  have k72 := ((f_a_RESUME_ATTEMPT_LIMIT_REACHED_ordinal hS).ne (f_a_RESUME_MISSING_CHECKPOINT_ordinal hS) (by decide))
  have k73 := ((f_a_RESUME_ATTEMPT_LIMIT_REACHED_ordinal hS).ne (f_a_RESUME_UNKNOWN_INTERRUPTION_CLASS_ordinal hS) (by decide))
  have k74 := ((f_a_RESUME_ATTEMPT_LIMIT_REACHED_ordinal hS).ne (f_a_RUNNING_ordinal hS) (by decide))
  have k75 := ((f_a_RESUME_ATTEMPT_LIMIT_REACHED_ordinal hS).ne (f_a_RESUME_MISSING_RUNTIME_ARTIFACTS_ordinal hS) (by decide))
  have k76 := ((f_a_RESUME_ATTEMPT_LIMIT_REACHED_ordinal hS).ne (f_a_COMPLETED_ordinal hS) (by decide))
  have k77 := ((f_a_RESUME_MISSING_CHECKPOINT_ordinal hS).ne (f_a_PENDING_ordinal hS) (by decide))
  have k78 := ((f_a_RESUME_MISSING_CHECKPOINT_ordinal hS).ne (f_a_RESUME_NON_IDEMPOTENT_STEP_ordinal hS) (by decide))
  have k79 := ((f_a_RESUME_MISSING_CHECKPOINT_ordinal hS).ne (f_a_WAITING_ordinal hS) (by decide))
  have k80 := ((f_a_RESUME_MISSING_CHECKPOINT_ordinal hS).ne (f_a_FAILED_ordinal hS) (by decide))
  have k81 := ((f_a_RESUME_MISSING_CHECKPOINT_ordinal hS).ne (f_a_RESUME_ESCALATED_ordinal hS) (by decide))
  have k82 := ((f_a_RESUME_MISSING_CHECKPOINT_ordinal hS).ne (f_a_RESUME_ALLOWED_ordinal hS) (by decide))
  have k83 := ((f_a_RESUME_MISSING_CHECKPOINT_ordinal hS).ne (f_a_RESUME_ATTEMPT_LIMIT_REACHED_ordinal hS) (by decide))
  have k84 := ((f_a_RESUME_MISSING_CHECKPOINT_ordinal hS).ne (f_a_RESUME_UNKNOWN_INTERRUPTION_CLASS_ordinal hS) (by decide))
  have k85 := (ne_exa (e_a_RESUME_MISSING_CHECKPOINT hS) (e_a_RUNNING hS) (by decide))
  have k86 := ((f_a_RESUME_MISSING_CHECKPOINT_ordinal hS).ne (f_a_RESUME_MISSING_RUNTIME_ARTIFACTS_ordinal hS) (by decide))
  have k87 := ((f_a_RESUME_MISSING_CHECKPOINT_ordinal hS).ne (f_a_COMPLETED_ordinal hS) (by decide))
  have k88 := ((f_a_RESUME_UNKNOWN_INTERRUPTION_CLASS_ordinal hS).ne (f_a_PENDING_ordinal hS) (by decide))
  have k89 := ((f_a_RESUME_UNKNOWN_INTERRUPTION_CLASS_ordinal hS).ne (f_a_RESUME_NON_IDEMPOTENT_STEP_ordinal hS) (by decide))
  have k90 := (ne_exa (e_a_RESUME_UNKNOWN_INTERRUPTION_CLASS hS) (e_a_WAITING hS) (by decide))
  have k91 := ((f_a_RESUME_UNKNOWN_INTERRUPTION_CLASS_ordinal hS).ne (f_a_FAILED_ordinal hS) (by decide))
  have k92 := ((f_a_RESUME_UNKNOWN_INTERRUPTION_CLASS_ordinal hS).ne (f_a_RESUME_ESCALATED_ordinal hS) (by decide))
  have k93 := ((f_a_RESUME_UNKNOWN_INTERRUPTION_CLASS_ordinal hS).ne (f_a_RESUME_ALLOWED_ordinal hS) (by decide))
  have k94 := ((f_a_RESUME_UNKNOWN_INTERRUPTION_CLASS_ordinal hS).ne (f_a_RESUME_ATTEMPT_LIMIT_REACHED_ordinal hS) (by decide))
  have k95 := ((f_a_RESUME_UNKNOWN_INTERRUPTION_CLASS_ordinal hS).ne (f_a_RESUME_MISSING_CHECKPOINT_ordinal hS) (by decide))
  have k96 := ((f_a_RESUME_UNKNOWN_INTERRUPTION_CLASS_ordinal hS).ne (f_a_RUNNING_ordinal hS) (by decide))
  have k97 := ((f_a_RESUME_UNKNOWN_INTERRUPTION_CLASS_ordinal hS).ne (f_a_RESUME_MISSING_RUNTIME_ARTIFACTS_ordinal hS) (by decide))
  have k98 := ((f_a_RESUME_UNKNOWN_INTERRUPTION_CLASS_ordinal hS).ne (f_a_COMPLETED_ordinal hS) (by decide))
  have k99 := ((f_a_RUNNING_ordinal hS).ne (f_a_PENDING_ordinal hS) (by decide))
  have k100 := ((f_a_RUNNING_ordinal hS).ne (f_a_RESUME_NON_IDEMPOTENT_STEP_ordinal hS) (by decide))
  have k101 := ((f_a_RUNNING_ordinal hS).ne (f_a_WAITING_ordinal hS) (by decide))
  have k102 := ((f_a_RUNNING_ordinal hS).ne (f_a_FAILED_ordinal hS) (by decide))
  have k103 := ((f_a_RUNNING_ordinal hS).ne (f_a_RESUME_ESCALATED_ordinal hS) (by decide))
  have k104 := ((f_a_RUNNING_ordinal hS).ne (f_a_RESUME_ALLOWED_ordinal hS) (by decide))
  have k105 := ((f_a_RUNNING_ordinal hS).ne (f_a_RESUME_ATTEMPT_LIMIT_REACHED_ordinal hS) (by decide))
  have k106 := (ne_exa (e_a_RUNNING hS) (e_a_RESUME_MISSING_CHECKPOINT hS) (by decide))
  have k107 := ((f_a_RUNNING_ordinal hS).ne (f_a_RESUME_UNKNOWN_INTERRUPTION_CLASS_ordinal hS) (by decide))
  have k108 := ((f_a_RUNNING_ordinal hS).ne (f_a_RESUME_MISSING_RUNTIME_ARTIFACTS_ordinal hS) (by decide))
  have k109 := ((f_a_RUNNING_ordinal hS).ne (f_a_COMPLETED_ordinal hS) (by decide))
  have k110 := ((f_a_RESUME_MISSING_RUNTIME_ARTIFACTS_ordinal hS).ne (f_a_PENDING_ordinal hS) (by decide))
  have k111 := ((f_a_RESUME_MISSING_RUNTIME_ARTIFACTS_ordinal hS).ne (f_a_RESUME_NON_IDEMPOTENT_STEP_ordinal hS) (by decide))
  have k112 := ((f_a_RESUME_MISSING_RUNTIME_ARTIFACTS_ordinal hS).ne (f_a_WAITING_ordinal hS) (by decide))
  have k113 := ((f_a_RESUME_MISSING_RUNTIME_ARTIFACTS_ordinal hS).ne (f_a_FAILED_ordinal hS) (by decide))
  have k114 := (ne_exa (e_a_RESUME_MISSING_RUNTIME_ARTIFACTS hS) (e_a_RESUME_ESCALATED hS) (by decide))
  have k115 := ((f_a_RESUME_MISSING_RUNTIME_ARTIFACTS_ordinal hS).ne (f_a_RESUME_ALLOWED_ordinal hS) (by decide))
  have k116 := ((f_a_RESUME_MISSING_RUNTIME_ARTIFACTS_ordinal hS).ne (f_a_RESUME_ATTEMPT_LIMIT_REACHED_ordinal hS) (by decide))
  have k117 := ((f_a_RESUME_MISSING_RUNTIME_ARTIFACTS_ordinal hS).ne (f_a_RESUME_MISSING_CHECKPOINT_ordinal hS) (by decide))
  have k118 := ((f_a_RESUME_MISSING_RUNTIME_ARTIFACTS_ordinal hS).ne (f_a_RESUME_UNKNOWN_INTERRUPTION_CLASS_ordinal hS) (by decide))
  have k119 := ((f_a_RESUME_MISSING_RUNTIME_ARTIFACTS_ordinal hS).ne (f_a_RUNNING_ordinal hS) (by decide))
  have k120 := ((f_a_RESUME_MISSING_RUNTIME_ARTIFACTS_ordinal hS).ne (f_a_COMPLETED_ordinal hS) (by decide))
  have k121 := ((f_a_COMPLETED_ordinal hS).ne (f_a_PENDING_ordinal hS) (by decide))
  have k122 := ((f_a_COMPLETED_ordinal hS).ne (f_a_RESUME_NON_IDEMPOTENT_STEP_ordinal hS) (by decide))
  have k123 := ((f_a_COMPLETED_ordinal hS).ne (f_a_WAITING_ordinal hS) (by decide))
  have k124 := ((f_a_COMPLETED_ordinal hS).ne (f_a_FAILED_ordinal hS) (by decide))
  have k125 := ((f_a_COMPLETED_ordinal hS).ne (f_a_RESUME_ESCALATED_ordinal hS) (by decide))
  have k126 := ((f_a_COMPLETED_ordinal hS).ne (f_a_RESUME_ALLOWED_ordinal hS) (by decide))
  have k127 := ((f_a_COMPLETED_ordinal hS).ne (f_a_RESUME_ATTEMPT_LIMIT_REACHED_ordinal hS) (by decide))
  have k128 := ((f_a_COMPLETED_ordinal hS).ne (f_a_RESUME_MISSING_CHECKPOINT_ordinal hS) (by decide))
  have k129 := ((f_a_COMPLETED_ordinal hS).ne (f_a_RESUME_UNKNOWN_INTERRUPTION_CLASS_ordinal hS) (by decide))
  have k130 := ((f_a_COMPLETED_ordinal hS).ne (f_a_RUNNING_ordinal hS) (by decide))
  have k131 := ((f_a_COMPLETED_ordinal hS).ne (f_a_RESUME_MISSING_RUNTIME_ARTIFACTS_ordinal hS) (by decide))
  rcases rj with rfl | rfl | rfl | rfl | rfl | rfl <;> simp_all [fn1, fn2, fn3, fn4]
theorem ef_0 (m : MethodId) (x0 : Int32) (x1 : Int32) : entryFrame m #[(.int x0), (.int x1)] maxLocals = mkF m 0 #[.val (.int x0), .val (.int x1), .unset, .unset, .unset, .unset, .unset] [] := by first | (simp [entryFrame, mkF, argsToLocals, Value.category, maxLocals]; done) | rfl
set_option maxRecDepth 65536 in
set_option maxHeartbeats 40000000 in
theorem rm0 (l : Launch) (Z : State) (a0 : Array Value) (hw : ∀ d ∈ tables_1, d.before a0 Z = true) (hS : St Z) (ws : List Jvm.Cond) (p0 : Int32) (p1 : Int32) (h0 : Heap) (n0 : Nat) (O0 : Old Z n0 h0) :
    MetFree l x (head1 (Jvm.Cond.code x code maxLocals ret :: ws) room_1) (fun a U => a = #[(.int p0), (.int p1)] ∧ Z.Warmed39 U.vm ∧ U.heap = h0) (fun _ _ _ _ _ => True) (fun _ U o U' => ∃ v L, o = .returned v ∧ own_Q (fun v hE L => v = some (.int (1 : Int32)) ∧ Fr n0 L ∧ hE = h0) v U'.heap L ∧ FrameEnd U o U' L room_1.cells room_1.slots) := by
  refine MetFree.of_bodySF (plainFor_of_name pn_0) hisR ?_
  intro p e s m args below meth c s₁ Bd hml0 hP hK
  obtain ⟨rfl, hZ, hh⟩ := hP
  have hx := Bd.exec
  have hby := Bd.bytes
  have hml : c.maxLocals = 7 := hml0
  have hown : s.vm.findClass "com/example/resumatic/resumatic/core/DecisionEngineDecidesRequestInPinLaw" = some m.cls := findClass_of_methodNamed Bd.named
  have X0 : Stand p l e room_1 s m #[(.int p0), (.int p1)] below meth c s₁ [] 0 0 := Stand.of_body Bd
  have e0 : s₁.heap = h0 := by rw [← hh, Bd.state]; rfl
  have N0 := Fr.nil n0
  have pre0 : ∀ t, Steps p.tables e below (s₁.setTop (mkF m 0 #[oI p0, oI p1, oU, oU, oU, oU, oU] [])) t → Steps p.tables e below (s₁.setTop (entryFrame m #[(.int p0), (.int p1)] maxLocals)) t := fun t k => castTop (ef_0 m p0 p1) k
  obtain ⟨i, hi⟩ : ∃ z, z = ((p0 &&& (2147483647 : Int32)) - ((p0 &&& (2147483647 : Int32)) / (6 : Int32)) * (6 : Int32)) := ⟨_, rfl⟩
  have ri : i = (0 : Int32) ∨ i = (1 : Int32) ∨ i = (2 : Int32) ∨ i = (3 : Int32) ∨ i = (4 : Int32) ∨ i = (5 : Int32) := by rw [hi]; exact rng_rem6 p0
  have pre51 : ∀ t, oP p e below s₁ (mkF m 7 #[oI p0, oI p1, oU, oU, oU, oU, oU] [(.int i)]) t → oP p e below s₁ (entryFrame m #[(.int p0), (.int p1)] maxLocals) t := fun t k => pre0 t (by
    show oP p e below s₁ (mkF m 0 #[oI p0, oI p1, oU, oU, oU, oU, oU] []) _
    refine XS.iloadN X0.here hx rfl (hb hby at_0) rfl ?_
    show oP p e below s₁ (mkF m 1 #[oI p0, oI p1, oU, oU, oU, oU, oU] [(.int p0)]) _
    refine X0.ldcInt hx hown (mvT hZ (hw _ (List.mem_of_getElem? (i := 0) rfl))) (g := (mkF m 1 #[oI p0, oI p1, oU, oU, oU, oU, oU] [(.int p0)])) rfl (hb hby at_1) _ ?_
    show oP p e below s₁ (mkF m 3 #[oI p0, oI p1, oU, oU, oU, oU, oU] [(.int (2147483647 : Int32)), (.int p0)]) _
    refine XS.iand X0.here hx rfl (hb hby at_3) rfl ?_
    show oP p e below s₁ (mkF m 4 #[oI p0, oI p1, oU, oU, oU, oU, oU] [(.int (p0 &&& (2147483647 : Int32)))]) _
    refine XS.bipush X0.here hx rfl (hb hby at_4) ?_
    show oP p e below s₁ (mkF m 6 #[oI p0, oI p1, oU, oU, oU, oU, oU] [(.int (6 : Int32)), (.int (p0 &&& (2147483647 : Int32)))]) _
    refine XS.irem X0.here hx rfl (hb hby at_6) rfl (by decide) ?_
    show oP p e below s₁ (mkF m 7 #[oI p0, oI p1, oU, oU, oU, oU, oU] [(.int ((p0 &&& (2147483647 : Int32)) - ((p0 &&& (2147483647 : Int32)) / (6 : Int32)) * (6 : Int32)))]) _
    rw [← hi]
    exact k)
  rcases ri with rfl | rfl | rfl | rfl | rfl | rfl
  · obtain ⟨_, _, ⟨T52, L52, k52, n52⟩, -, X52, ⟨Lc52, hQ52, l52, y52, z52⟩, st52⟩ := Jvm.LawKit.callS X0 hx (y := (⟨"com/example/resumatic/resumatic/core/DecisionEngineDecidesRequestInPinLaw", "stateOf", "(I)Lcom/example/resumatic/resumatic/core/RunState;"⟩ : MethodName)) hown (mvT hZ (hw _ (List.mem_of_getElem? (i := 1) rfl))) (mvT hZ (hw _ (List.mem_of_getElem? (i := 2) rfl))) (mvT hZ (hw _ (List.mem_of_getElem? (i := 3) rfl))) (mvT hZ (hw _ (List.mem_of_getElem? (i := 4) rfl))) (by decide) (backOf (W := 0) (rm1 l Z a0 hw hS [] (0 : Int32) h0 n0 O0) hZ (hw _ (List.mem_of_getElem? (i := 4) rfl)) (hw _ (List.mem_of_getElem? (i := 3) rfl)) (by decide) (by decide)) (g := (mkF m 7 #[oI p0, oI p1, oU, oU, oU, oU, oU] [(.int (0 : Int32))])) rfl (by rw [hml]; rfl) (argsL := [(.int (0 : Int32))]) (rest := []) (lenOf pd_0 rfl) rfl (by show 2 * 0 + _ ≤ _; exact Nat.le_of_eq rfl) (hb hby at_7) (fun _ _ => ⟨rfl, e0, (by decide : 0 + 0 ≤ _), (by decide : 0 + 0 ≤ _)⟩)
    dsimp only [Pt.U, Pt.locs, Pt.cells, Pt.slots] at X52 l52 y52 z52 st52 hQ52
    subst l52 y52 z52
    obtain ⟨v52, N52q, h52q⟩ := hQ52
    have w52 : (fn1 Z (0 : Int32)) = (a_PENDING Z) := by unfold fn1; rw [if_pos (by decide : (0 : Int32) = (0 : Int32))]; all_goals first | rfl | decide
    rw [w52] at v52
    subst v52
    have N52 := Fr.app N0 N52q
    obtain ⟨j, hj⟩ : ∃ z, z = ((p1 &&& (2147483647 : Int32)) - ((p1 &&& (2147483647 : Int32)) / (6 : Int32)) * (6 : Int32)) := ⟨_, rfl⟩
    have rj : j = (0 : Int32) ∨ j = (1 : Int32) ∨ j = (2 : Int32) ∨ j = (3 : Int32) ∨ j = (4 : Int32) ∨ j = (5 : Int32) := by rw [hj]; exact rng_rem6 p1
    obtain ⟨_, _, ⟨T53, L53, k53, n53⟩, -, X53, ⟨Lc53, hQ53, l53, y53, z53⟩, st53⟩ := Jvm.LawKit.callS X52 hx (y := (⟨"com/example/resumatic/resumatic/core/DecisionEngineDecidesRequestInPinLaw", "codeOf", "(I)Lcom/example/resumatic/resumatic/core/ReasonCode;"⟩ : MethodName)) hown (mvT hZ (hw _ (List.mem_of_getElem? (i := 8) rfl))) (mvT hZ (hw _ (List.mem_of_getElem? (i := 9) rfl))) (mvT hZ (hw _ (List.mem_of_getElem? (i := 3) rfl))) (mvT hZ (hw _ (List.mem_of_getElem? (i := 10) rfl))) (by decide) (backOf (W := 0) (rm2 l Z a0 hw hS [] j h0 n0 O0) hZ (hw _ (List.mem_of_getElem? (i := 10) rfl)) (hw _ (List.mem_of_getElem? (i := 3) rfl)) (by decide) (by decide)) (g := (mkF m 18 #[oI p0, oI p1, oR (a_PENDING Z), oU, oU, oU, oU] [(.int j)])) rfl (by rw [hml]; rfl) (argsL := [(.int j)]) (rest := []) (lenOf pd_1 rfl) rfl (by show 2 * 0 + _ ≤ _; exact Nat.le_of_eq rfl) (hb hby at_18) (fun _ _ => ⟨rfl, h52q, (by decide : 0 + 0 ≤ _), (by decide : 0 + 0 ≤ _)⟩)
    dsimp only [Pt.U, Pt.locs, Pt.cells, Pt.slots] at X53 l53 y53 z53 st53 hQ53
    subst l53 y53 z53
    obtain ⟨v53, N53q, h53q⟩ := hQ53
    subst v53
    have N53 := Fr.app N52 N53q
    obtain ⟨T54, X54, e54, st54⟩ := getS2 X53 hx hZ hown (host := "") (Or.inl (hw _ (List.mem_of_getElem? (i := 14) rfl))) Via.refl h53q ((s_a_WAITING hS).ext O0.2) (g := (mkF m 23 #[oI p0, oI p1, oR (a_PENDING Z), oR (fn2 Z j), oU, oU, oU] [(.ref (a_PENDING Z))])) rfl (hb hby at_23)
    obtain ⟨T55, X55, e55, st55⟩ := getS2 X54 hx hZ hown (host := "") (Or.inl (hw _ (List.mem_of_getElem? (i := 16) rfl))) Via.refl e54 ((s_a_FAILED hS).ext O0.2) (g := (mkF m 30 #[oI p0, oI p1, oR (a_PENDING Z), oR (fn2 Z j), oU, oU, oU] [(.ref (a_PENDING Z))])) rfl (hb hby at_30)
    obtain ⟨T56, X56, e56, st56⟩ := getS2 X55 hx hZ hown (host := "") (Or.inl (hw _ (List.mem_of_getElem? (i := 18) rfl))) Via.refl e55 ((s_a_RESUME_ESCALATED hS).ext O0.2) (g := (mkF m 37 #[oI p0, oI p1, oR (a_PENDING Z), oR (fn2 Z j), oU, oU, oU] [(.ref (a_PENDING Z))])) rfl (hb hby at_37)
    obtain ⟨_, _, ⟨T57, L57, k57, n57⟩, -, X57, ⟨Lc57, hQ57, l57, y57, z57⟩, st57⟩ := Jvm.LawKit.callS X56 hx (y := (⟨"com/example/resumatic/resumatic/core/DecisionEngine", "decidesRequestIn", "(Lcom/example/resumatic/resumatic/core/RunState;)Z"⟩ : MethodName)) hown (mvT hZ (hw _ (List.mem_of_getElem? (i := 20) rfl))) (mvT hZ (hw _ (List.mem_of_getElem? (i := 21) rfl))) (mvT hZ (hw _ (List.mem_of_getElem? (i := 22) rfl))) (mvT hZ (hw _ (List.mem_of_getElem? (i := 23) rfl))) (by decide) (backOf (W := 0) (rm3 l Z a0 hw hS [] (a_PENDING Z) h0 n0 O0) hZ (hw _ (List.mem_of_getElem? (i := 23) rfl)) (hw _ (List.mem_of_getElem? (i := 22) rfl)) (by decide) (by decide)) (g := (mkF m 51 #[oI p0, oI p1, oR (a_PENDING Z), oR (fn2 Z j), oI (0 : Int32), oU, oU] [(.ref (a_PENDING Z))])) rfl (by rw [hml]; rfl) (argsL := [(.ref (a_PENDING Z))]) (rest := []) (lenOf pd_2 rfl) rfl (by show 2 * 0 + _ ≤ _; exact Nat.le_of_eq rfl) (hb hby at_51) (fun _ _ => ⟨rfl, e56, (by decide : 0 + 0 ≤ _), (by decide : 0 + 0 ≤ _)⟩)
    dsimp only [Pt.U, Pt.locs, Pt.cells, Pt.slots] at X57 l57 y57 z57 st57 hQ57
    subst l57 y57 z57
    obtain ⟨v57, N57q, h57q⟩ := hQ57
    have w57 : (fn3 Z (a_PENDING Z)) = (0 : Int32) := by unfold fn3; rw [if_neg ((f_a_PENDING_ordinal hS).ne (f_a_WAITING_ordinal hS) (by decide)), if_neg ((f_a_PENDING_ordinal hS).ne (f_a_FAILED_ordinal hS) (by decide)), if_neg ((f_a_PENDING_ordinal hS).ne (f_a_RESUME_ESCALATED_ordinal hS) (by decide))]; all_goals first | rfl | decide
    rw [w57] at v57
    subst v57
    have N57 := Fr.app N53 N57q
    obtain ⟨_, _, ⟨T58, L58, k58, n58⟩, -, X58, ⟨Lc58, hQ58, l58, y58, z58⟩, st58⟩ := Jvm.LawKit.callS X57 hx (y := (⟨"com/example/resumatic/resumatic/core/DecisionEngine", "stateAfter", "(Lcom/example/resumatic/resumatic/core/ReasonCode;)Lcom/example/resumatic/resumatic/core/RunState;"⟩ : MethodName)) hown (mvT hZ (hw _ (List.mem_of_getElem? (i := 27) rfl))) (mvT hZ (hw _ (List.mem_of_getElem? (i := 28) rfl))) (mvT hZ (hw _ (List.mem_of_getElem? (i := 22) rfl))) (mvT hZ (hw _ (List.mem_of_getElem? (i := 29) rfl))) (by decide) (backOf (W := 0) (rm4 l Z a0 hw hS [] (fn2 Z j) h0 n0 O0) hZ (hw _ (List.mem_of_getElem? (i := 29) rfl)) (hw _ (List.mem_of_getElem? (i := 22) rfl)) (by decide) (by decide)) (g := (mkF m 57 #[oI p0, oI p1, oR (a_PENDING Z), oR (fn2 Z j), oI (0 : Int32), oI (0 : Int32), oU] [(.ref (fn2 Z j))])) rfl (by rw [hml]; rfl) (argsL := [(.ref (fn2 Z j))]) (rest := []) (lenOf pd_3 rfl) rfl (by show 2 * 0 + _ ≤ _; exact Nat.le_of_eq rfl) (hb hby at_57) (fun _ _ => ⟨rfl, h57q, (by decide : 0 + 0 ≤ _), (by decide : 0 + 0 ≤ _)⟩)
    dsimp only [Pt.U, Pt.locs, Pt.cells, Pt.slots] at X58 l58 y58 z58 st58 hQ58
    subst l58 y58 z58
    obtain ⟨v58, N58q, h58q⟩ := hQ58
    subst v58
    have N58 := Fr.app N57 N58q
    obtain ⟨_, _, ⟨T59, L59, k59, n59⟩, -, X59, ⟨Lc59, hQ59, l59, y59, z59⟩, st59⟩ := Jvm.LawKit.callS X58 hx (y := (⟨"com/example/resumatic/resumatic/core/DecisionEngine", "decidesRequestIn", "(Lcom/example/resumatic/resumatic/core/RunState;)Z"⟩ : MethodName)) hown (mvT hZ (hw _ (List.mem_of_getElem? (i := 20) rfl))) (mvT hZ (hw _ (List.mem_of_getElem? (i := 21) rfl))) (mvT hZ (hw _ (List.mem_of_getElem? (i := 22) rfl))) (mvT hZ (hw _ (List.mem_of_getElem? (i := 23) rfl))) (by decide) (backOf (W := 0) (rm3 l Z a0 hw hS [] (fn4 Z (fn2 Z j)) h0 n0 O0) hZ (hw _ (List.mem_of_getElem? (i := 23) rfl)) (hw _ (List.mem_of_getElem? (i := 22) rfl)) (by decide) (by decide)) (g := (mkF m 60 #[oI p0, oI p1, oR (a_PENDING Z), oR (fn2 Z j), oI (0 : Int32), oI (0 : Int32), oU] [(.ref (fn4 Z (fn2 Z j)))])) rfl (by rw [hml]; rfl) (argsL := [(.ref (fn4 Z (fn2 Z j)))]) (rest := []) (lenOf pd_2 rfl) rfl (by show 2 * 0 + _ ≤ _; exact Nat.le_of_eq rfl) (hb hby at_60) (fun _ _ => ⟨rfl, h58q, (by decide : 0 + 0 ≤ _), (by decide : 0 + 0 ≤ _)⟩)
    dsimp only [Pt.U, Pt.locs, Pt.cells, Pt.slots] at X59 l59 y59 z59 st59 hQ59
    subst l59 y59 z59
    obtain ⟨v59, N59q, h59q⟩ := hQ59
    subst v59
    have N59 := Fr.app N58 N59q
    have pre60 : ∀ t, oP p e below T59 (mkF m 74 #[oI p0, oI p1, oR (a_PENDING Z), oR (fn2 Z j), oI (0 : Int32), oI (0 : Int32), oI (fn3 Z (fn4 Z (fn2 Z j)))] [(.int (fn3 Z (fn4 Z (fn2 Z j))))]) t → oP p e below s₁ (entryFrame m #[(.int p0), (.int p1)] maxLocals) t := fun t k => pre51 t (by
      show oP p e below s₁ (mkF m 7 #[oI p0, oI p1, oU, oU, oU, oU, oU] [(.int (0 : Int32))]) _
      refine st52 _ ?_
      show oP p e below T52 (mkF m 10 #[oI p0, oI p1, oU, oU, oU, oU, oU] [(.ref (a_PENDING Z))]) _
      refine XS.astoreN X52.here hx rfl (hb hby at_10) rfl rfl (l' := #[oI p0, oI p1, oR (a_PENDING Z), oU, oU, oU, oU]) rfl ?_
      show oP p e below T52 (mkF m 11 #[oI p0, oI p1, oR (a_PENDING Z), oU, oU, oU, oU] []) _
      refine XS.iloadN X52.here hx rfl (hb hby at_11) rfl ?_
      show oP p e below T52 (mkF m 12 #[oI p0, oI p1, oR (a_PENDING Z), oU, oU, oU, oU] [(.int p1)]) _
      refine X52.ldcInt hx hown (mvT hZ (hw _ (List.mem_of_getElem? (i := 0) rfl))) (g := (mkF m 12 #[oI p0, oI p1, oR (a_PENDING Z), oU, oU, oU, oU] [(.int p1)])) rfl (hb hby at_12) _ ?_
      show oP p e below T52 (mkF m 14 #[oI p0, oI p1, oR (a_PENDING Z), oU, oU, oU, oU] [(.int (2147483647 : Int32)), (.int p1)]) _
      refine XS.iand X52.here hx rfl (hb hby at_14) rfl ?_
      show oP p e below T52 (mkF m 15 #[oI p0, oI p1, oR (a_PENDING Z), oU, oU, oU, oU] [(.int (p1 &&& (2147483647 : Int32)))]) _
      refine XS.bipush X52.here hx rfl (hb hby at_15) ?_
      show oP p e below T52 (mkF m 17 #[oI p0, oI p1, oR (a_PENDING Z), oU, oU, oU, oU] [(.int (6 : Int32)), (.int (p1 &&& (2147483647 : Int32)))]) _
      refine XS.irem X52.here hx rfl (hb hby at_17) rfl (by decide) ?_
      show oP p e below T52 (mkF m 18 #[oI p0, oI p1, oR (a_PENDING Z), oU, oU, oU, oU] [(.int ((p1 &&& (2147483647 : Int32)) - ((p1 &&& (2147483647 : Int32)) / (6 : Int32)) * (6 : Int32)))]) _
      rw [← hj]
      show oP p e below T52 (mkF m 18 #[oI p0, oI p1, oR (a_PENDING Z), oU, oU, oU, oU] [(.int j)]) _
      refine st53 _ ?_
      show oP p e below T53 (mkF m 21 #[oI p0, oI p1, oR (a_PENDING Z), oU, oU, oU, oU] [(.ref (fn2 Z j))]) _
      refine XS.astoreN X53.here hx rfl (hb hby at_21) rfl rfl (l' := #[oI p0, oI p1, oR (a_PENDING Z), oR (fn2 Z j), oU, oU, oU]) rfl ?_
      show oP p e below T53 (mkF m 22 #[oI p0, oI p1, oR (a_PENDING Z), oR (fn2 Z j), oU, oU, oU] []) _
      refine XS.aloadN X53.here hx rfl (hb hby at_22) rfl rfl ?_
      show oP p e below T53 (mkF m 23 #[oI p0, oI p1, oR (a_PENDING Z), oR (fn2 Z j), oU, oU, oU] [(.ref (a_PENDING Z))]) _
      refine st54 _ ?_
      show oP p e below T54 (mkF m 26 #[oI p0, oI p1, oR (a_PENDING Z), oR (fn2 Z j), oU, oU, oU] [(.ref (a_WAITING Z)), (.ref (a_PENDING Z))]) _
      refine Jvm.RoadKit.acmp (g := (mkF m 26 #[oI p0, oI p1, oR (a_PENDING Z), oR (fn2 Z j), oU, oU, oU] [(.ref (a_WAITING Z)), (.ref (a_PENDING Z))])) X54 hx rfl rfl rfl (pc0 := 26) (pc' := 29) (same := false) rfl (hb hby at_26) rfl (decide_eq_false fun q => ((f_a_PENDING_ordinal hS).ne (f_a_WAITING_ordinal hS) (by decide)) (Value.ref.inj q)) (by decide) (by decide) ?_
      show oP p e below T54 (mkF m 29 #[oI p0, oI p1, oR (a_PENDING Z), oR (fn2 Z j), oU, oU, oU] []) _
      refine XS.aloadN X54.here hx rfl (hb hby at_29) rfl rfl ?_
      show oP p e below T54 (mkF m 30 #[oI p0, oI p1, oR (a_PENDING Z), oR (fn2 Z j), oU, oU, oU] [(.ref (a_PENDING Z))]) _
      refine st55 _ ?_
      show oP p e below T55 (mkF m 33 #[oI p0, oI p1, oR (a_PENDING Z), oR (fn2 Z j), oU, oU, oU] [(.ref (a_FAILED Z)), (.ref (a_PENDING Z))]) _
      refine Jvm.RoadKit.acmp (g := (mkF m 33 #[oI p0, oI p1, oR (a_PENDING Z), oR (fn2 Z j), oU, oU, oU] [(.ref (a_FAILED Z)), (.ref (a_PENDING Z))])) X55 hx rfl rfl rfl (pc0 := 33) (pc' := 36) (same := false) rfl (hb hby at_33) rfl (decide_eq_false fun q => ((f_a_PENDING_ordinal hS).ne (f_a_FAILED_ordinal hS) (by decide)) (Value.ref.inj q)) (by decide) (by decide) ?_
      show oP p e below T55 (mkF m 36 #[oI p0, oI p1, oR (a_PENDING Z), oR (fn2 Z j), oU, oU, oU] []) _
      refine XS.aloadN X55.here hx rfl (hb hby at_36) rfl rfl ?_
      show oP p e below T55 (mkF m 37 #[oI p0, oI p1, oR (a_PENDING Z), oR (fn2 Z j), oU, oU, oU] [(.ref (a_PENDING Z))]) _
      refine st56 _ ?_
      show oP p e below T56 (mkF m 40 #[oI p0, oI p1, oR (a_PENDING Z), oR (fn2 Z j), oU, oU, oU] [(.ref (a_RESUME_ESCALATED Z)), (.ref (a_PENDING Z))]) _
      refine Jvm.RoadKit.acmp (g := (mkF m 40 #[oI p0, oI p1, oR (a_PENDING Z), oR (fn2 Z j), oU, oU, oU] [(.ref (a_RESUME_ESCALATED Z)), (.ref (a_PENDING Z))])) X56 hx rfl rfl rfl (pc0 := 40) (pc' := 47) (same := false) rfl (hb hby at_40) rfl (decide_eq_false fun q => ((f_a_PENDING_ordinal hS).ne (f_a_RESUME_ESCALATED_ordinal hS) (by decide)) (Value.ref.inj q)) (by decide) (by decide) ?_
      show oP p e below T56 (mkF m 47 #[oI p0, oI p1, oR (a_PENDING Z), oR (fn2 Z j), oU, oU, oU] []) _
      refine XS.iconst X56.here hx rfl (hb hby at_47) ?_
      show oP p e below T56 (mkF m 48 #[oI p0, oI p1, oR (a_PENDING Z), oR (fn2 Z j), oU, oU, oU] [(.int (0 : Int32))]) _
      refine XS.istore X56.here hx rfl (hb hby at_48) rfl (l' := #[oI p0, oI p1, oR (a_PENDING Z), oR (fn2 Z j), oI (0 : Int32), oU, oU]) rfl ?_
      show oP p e below T56 (mkF m 50 #[oI p0, oI p1, oR (a_PENDING Z), oR (fn2 Z j), oI (0 : Int32), oU, oU] []) _
      refine XS.aloadN X56.here hx rfl (hb hby at_50) rfl rfl ?_
      show oP p e below T56 (mkF m 51 #[oI p0, oI p1, oR (a_PENDING Z), oR (fn2 Z j), oI (0 : Int32), oU, oU] [(.ref (a_PENDING Z))]) _
      refine st57 _ ?_
      show oP p e below T57 (mkF m 54 #[oI p0, oI p1, oR (a_PENDING Z), oR (fn2 Z j), oI (0 : Int32), oU, oU] [(.int (0 : Int32))]) _
      refine XS.istore X57.here hx rfl (hb hby at_54) rfl (l' := #[oI p0, oI p1, oR (a_PENDING Z), oR (fn2 Z j), oI (0 : Int32), oI (0 : Int32), oU]) rfl ?_
      show oP p e below T57 (mkF m 56 #[oI p0, oI p1, oR (a_PENDING Z), oR (fn2 Z j), oI (0 : Int32), oI (0 : Int32), oU] []) _
      refine XS.aloadN X57.here hx rfl (hb hby at_56) rfl rfl ?_
      show oP p e below T57 (mkF m 57 #[oI p0, oI p1, oR (a_PENDING Z), oR (fn2 Z j), oI (0 : Int32), oI (0 : Int32), oU] [(.ref (fn2 Z j))]) _
      refine st58 _ ?_
      show oP p e below T58 (mkF m 60 #[oI p0, oI p1, oR (a_PENDING Z), oR (fn2 Z j), oI (0 : Int32), oI (0 : Int32), oU] [(.ref (fn4 Z (fn2 Z j)))]) _
      refine st59 _ ?_
      show oP p e below T59 (mkF m 63 #[oI p0, oI p1, oR (a_PENDING Z), oR (fn2 Z j), oI (0 : Int32), oI (0 : Int32), oU] [(.int (fn3 Z (fn4 Z (fn2 Z j))))]) _
      refine XS.istore X59.here hx rfl (hb hby at_63) rfl (l' := #[oI p0, oI p1, oR (a_PENDING Z), oR (fn2 Z j), oI (0 : Int32), oI (0 : Int32), oI (fn3 Z (fn4 Z (fn2 Z j)))]) rfl ?_
      show oP p e below T59 (mkF m 65 #[oI p0, oI p1, oR (a_PENDING Z), oR (fn2 Z j), oI (0 : Int32), oI (0 : Int32), oI (fn3 Z (fn4 Z (fn2 Z j)))] []) _
      refine XS.iload X59.here hx rfl (hb hby at_65) rfl ?_
      show oP p e below T59 (mkF m 67 #[oI p0, oI p1, oR (a_PENDING Z), oR (fn2 Z j), oI (0 : Int32), oI (0 : Int32), oI (fn3 Z (fn4 Z (fn2 Z j)))] [(.int (0 : Int32))]) _
      refine XS.iload X59.here hx rfl (hb hby at_67) rfl ?_
      show oP p e below T59 (mkF m 69 #[oI p0, oI p1, oR (a_PENDING Z), oR (fn2 Z j), oI (0 : Int32), oI (0 : Int32), oI (fn3 Z (fn4 Z (fn2 Z j)))] [(.int (0 : Int32)), (.int (0 : Int32))]) _
      refine XS.icmpNo X59.here hx rfl (hb hby at_69) rfl (teq (by decide : (0 : Int32) = (0 : Int32))).2 ?_
      show oP p e below T59 (mkF m 72 #[oI p0, oI p1, oR (a_PENDING Z), oR (fn2 Z j), oI (0 : Int32), oI (0 : Int32), oI (fn3 Z (fn4 Z (fn2 Z j)))] []) _
      refine XS.iload X59.here hx rfl (hb hby at_72) rfl ?_
      exact k)
    by_cases hc61 : (fn3 Z (fn4 Z (fn2 Z j))) = (0 : Int32)
    · exfalso
      exact ab62 hS j rj hc61
    · obtain ⟨fs, hr, hrun, hended, hW, hsame⟩ := X59.leave (v := some (.int (1 : Int32))) (fun h => by rw [Bd.returns] at h; cases h)
      refine ⟨_, _, pre60 _ ?_, hrun, hended, _, _, rfl, ?_, ⟨_, rfl⟩, hW, hsame.mono (by decide) (by decide)⟩
      · show oP p e below T59 (mkF m 74 #[oI p0, oI p1, oR (a_PENDING Z), oR (fn2 Z j), oI (0 : Int32), oI (0 : Int32), oI (fn3 Z (fn4 Z (fn2 Z j)))] [(.int (fn3 Z (fn4 Z (fn2 Z j))))]) _
        refine XS.ifNo X59.here hx rfl (hb hby at_74) rfl ((if0 _ _).trans (feq hc61).1) ?_
        show oP p e below T59 (mkF m 77 #[oI p0, oI p1, oR (a_PENDING Z), oR (fn2 Z j), oI (0 : Int32), oI (0 : Int32), oI (fn3 Z (fn4 Z (fn2 Z j)))] []) _
        refine XS.iconst X59.here hx rfl (hb hby at_77) ?_
        show oP p e below T59 (mkF m 78 #[oI p0, oI p1, oR (a_PENDING Z), oR (fn2 Z j), oI (0 : Int32), oI (0 : Int32), oI (fn3 Z (fn4 Z (fn2 Z j)))] [(.int (1 : Int32))]) _
        refine XS.goto X59.here hx rfl (pc0 := 78) (pc' := 82) rfl (hb hby at_78) (by decide) (by decide) ?_
        show oP p e below T59 (mkF m 82 #[oI p0, oI p1, oR (a_PENDING Z), oR (fn2 Z j), oI (0 : Int32), oI (0 : Int32), oI (fn3 Z (fn4 Z (fn2 Z j)))] [(.int (1 : Int32))]) _
        exact retN X59 hx (t := .boolean) Bd.returns (by simp) (hb hby at_82) hr
      · show (some (.int (1 : Int32)) : Option Value) = some (.int (1 : Int32)) ∧ Fr n0 _ ∧ T59.heap = h0
        rw [h59q]
        exact ⟨rfl, N59, rfl⟩
  · obtain ⟨_, _, ⟨T63, L63, k63, n63⟩, -, X63, ⟨Lc63, hQ63, l63, y63, z63⟩, st63⟩ := Jvm.LawKit.callS X0 hx (y := (⟨"com/example/resumatic/resumatic/core/DecisionEngineDecidesRequestInPinLaw", "stateOf", "(I)Lcom/example/resumatic/resumatic/core/RunState;"⟩ : MethodName)) hown (mvT hZ (hw _ (List.mem_of_getElem? (i := 1) rfl))) (mvT hZ (hw _ (List.mem_of_getElem? (i := 2) rfl))) (mvT hZ (hw _ (List.mem_of_getElem? (i := 3) rfl))) (mvT hZ (hw _ (List.mem_of_getElem? (i := 4) rfl))) (by decide) (backOf (W := 0) (rm1 l Z a0 hw hS [] (1 : Int32) h0 n0 O0) hZ (hw _ (List.mem_of_getElem? (i := 4) rfl)) (hw _ (List.mem_of_getElem? (i := 3) rfl)) (by decide) (by decide)) (g := (mkF m 7 #[oI p0, oI p1, oU, oU, oU, oU, oU] [(.int (1 : Int32))])) rfl (by rw [hml]; rfl) (argsL := [(.int (1 : Int32))]) (rest := []) (lenOf pd_0 rfl) rfl (by show 2 * 0 + _ ≤ _; exact Nat.le_of_eq rfl) (hb hby at_7) (fun _ _ => ⟨rfl, e0, (by decide : 0 + 0 ≤ _), (by decide : 0 + 0 ≤ _)⟩)
    dsimp only [Pt.U, Pt.locs, Pt.cells, Pt.slots] at X63 l63 y63 z63 st63 hQ63
    subst l63 y63 z63
    obtain ⟨v63, N63q, h63q⟩ := hQ63
    have w63 : (fn1 Z (1 : Int32)) = (a_RUNNING Z) := by unfold fn1; rw [if_neg (by decide : ¬ ((1 : Int32) = (0 : Int32))), if_pos (by decide : (1 : Int32) = (1 : Int32))]; all_goals first | rfl | decide
    rw [w63] at v63
    subst v63
    have N63 := Fr.app N0 N63q
    obtain ⟨j, hj⟩ : ∃ z, z = ((p1 &&& (2147483647 : Int32)) - ((p1 &&& (2147483647 : Int32)) / (6 : Int32)) * (6 : Int32)) := ⟨_, rfl⟩
    have rj : j = (0 : Int32) ∨ j = (1 : Int32) ∨ j = (2 : Int32) ∨ j = (3 : Int32) ∨ j = (4 : Int32) ∨ j = (5 : Int32) := by rw [hj]; exact rng_rem6 p1
    obtain ⟨_, _, ⟨T64, L64, k64, n64⟩, -, X64, ⟨Lc64, hQ64, l64, y64, z64⟩, st64⟩ := Jvm.LawKit.callS X63 hx (y := (⟨"com/example/resumatic/resumatic/core/DecisionEngineDecidesRequestInPinLaw", "codeOf", "(I)Lcom/example/resumatic/resumatic/core/ReasonCode;"⟩ : MethodName)) hown (mvT hZ (hw _ (List.mem_of_getElem? (i := 8) rfl))) (mvT hZ (hw _ (List.mem_of_getElem? (i := 9) rfl))) (mvT hZ (hw _ (List.mem_of_getElem? (i := 3) rfl))) (mvT hZ (hw _ (List.mem_of_getElem? (i := 10) rfl))) (by decide) (backOf (W := 0) (rm2 l Z a0 hw hS [] j h0 n0 O0) hZ (hw _ (List.mem_of_getElem? (i := 10) rfl)) (hw _ (List.mem_of_getElem? (i := 3) rfl)) (by decide) (by decide)) (g := (mkF m 18 #[oI p0, oI p1, oR (a_RUNNING Z), oU, oU, oU, oU] [(.int j)])) rfl (by rw [hml]; rfl) (argsL := [(.int j)]) (rest := []) (lenOf pd_1 rfl) rfl (by show 2 * 0 + _ ≤ _; exact Nat.le_of_eq rfl) (hb hby at_18) (fun _ _ => ⟨rfl, h63q, (by decide : 0 + 0 ≤ _), (by decide : 0 + 0 ≤ _)⟩)
    dsimp only [Pt.U, Pt.locs, Pt.cells, Pt.slots] at X64 l64 y64 z64 st64 hQ64
    subst l64 y64 z64
    obtain ⟨v64, N64q, h64q⟩ := hQ64
    subst v64
    have N64 := Fr.app N63 N64q
    obtain ⟨T65, X65, e65, st65⟩ := getS2 X64 hx hZ hown (host := "") (Or.inl (hw _ (List.mem_of_getElem? (i := 14) rfl))) Via.refl h64q ((s_a_WAITING hS).ext O0.2) (g := (mkF m 23 #[oI p0, oI p1, oR (a_RUNNING Z), oR (fn2 Z j), oU, oU, oU] [(.ref (a_RUNNING Z))])) rfl (hb hby at_23)
    obtain ⟨T66, X66, e66, st66⟩ := getS2 X65 hx hZ hown (host := "") (Or.inl (hw _ (List.mem_of_getElem? (i := 16) rfl))) Via.refl e65 ((s_a_FAILED hS).ext O0.2) (g := (mkF m 30 #[oI p0, oI p1, oR (a_RUNNING Z), oR (fn2 Z j), oU, oU, oU] [(.ref (a_RUNNING Z))])) rfl (hb hby at_30)
    obtain ⟨T67, X67, e67, st67⟩ := getS2 X66 hx hZ hown (host := "") (Or.inl (hw _ (List.mem_of_getElem? (i := 18) rfl))) Via.refl e66 ((s_a_RESUME_ESCALATED hS).ext O0.2) (g := (mkF m 37 #[oI p0, oI p1, oR (a_RUNNING Z), oR (fn2 Z j), oU, oU, oU] [(.ref (a_RUNNING Z))])) rfl (hb hby at_37)
    obtain ⟨_, _, ⟨T68, L68, k68, n68⟩, -, X68, ⟨Lc68, hQ68, l68, y68, z68⟩, st68⟩ := Jvm.LawKit.callS X67 hx (y := (⟨"com/example/resumatic/resumatic/core/DecisionEngine", "decidesRequestIn", "(Lcom/example/resumatic/resumatic/core/RunState;)Z"⟩ : MethodName)) hown (mvT hZ (hw _ (List.mem_of_getElem? (i := 20) rfl))) (mvT hZ (hw _ (List.mem_of_getElem? (i := 21) rfl))) (mvT hZ (hw _ (List.mem_of_getElem? (i := 22) rfl))) (mvT hZ (hw _ (List.mem_of_getElem? (i := 23) rfl))) (by decide) (backOf (W := 0) (rm3 l Z a0 hw hS [] (a_RUNNING Z) h0 n0 O0) hZ (hw _ (List.mem_of_getElem? (i := 23) rfl)) (hw _ (List.mem_of_getElem? (i := 22) rfl)) (by decide) (by decide)) (g := (mkF m 51 #[oI p0, oI p1, oR (a_RUNNING Z), oR (fn2 Z j), oI (0 : Int32), oU, oU] [(.ref (a_RUNNING Z))])) rfl (by rw [hml]; rfl) (argsL := [(.ref (a_RUNNING Z))]) (rest := []) (lenOf pd_2 rfl) rfl (by show 2 * 0 + _ ≤ _; exact Nat.le_of_eq rfl) (hb hby at_51) (fun _ _ => ⟨rfl, e67, (by decide : 0 + 0 ≤ _), (by decide : 0 + 0 ≤ _)⟩)
    dsimp only [Pt.U, Pt.locs, Pt.cells, Pt.slots] at X68 l68 y68 z68 st68 hQ68
    subst l68 y68 z68
    obtain ⟨v68, N68q, h68q⟩ := hQ68
    have w68 : (fn3 Z (a_RUNNING Z)) = (0 : Int32) := by unfold fn3; rw [if_neg ((f_a_RUNNING_ordinal hS).ne (f_a_WAITING_ordinal hS) (by decide)), if_neg ((f_a_RUNNING_ordinal hS).ne (f_a_FAILED_ordinal hS) (by decide)), if_neg ((f_a_RUNNING_ordinal hS).ne (f_a_RESUME_ESCALATED_ordinal hS) (by decide))]; all_goals first | rfl | decide
    rw [w68] at v68
    subst v68
    have N68 := Fr.app N64 N68q
    obtain ⟨_, _, ⟨T69, L69, k69, n69⟩, -, X69, ⟨Lc69, hQ69, l69, y69, z69⟩, st69⟩ := Jvm.LawKit.callS X68 hx (y := (⟨"com/example/resumatic/resumatic/core/DecisionEngine", "stateAfter", "(Lcom/example/resumatic/resumatic/core/ReasonCode;)Lcom/example/resumatic/resumatic/core/RunState;"⟩ : MethodName)) hown (mvT hZ (hw _ (List.mem_of_getElem? (i := 27) rfl))) (mvT hZ (hw _ (List.mem_of_getElem? (i := 28) rfl))) (mvT hZ (hw _ (List.mem_of_getElem? (i := 22) rfl))) (mvT hZ (hw _ (List.mem_of_getElem? (i := 29) rfl))) (by decide) (backOf (W := 0) (rm4 l Z a0 hw hS [] (fn2 Z j) h0 n0 O0) hZ (hw _ (List.mem_of_getElem? (i := 29) rfl)) (hw _ (List.mem_of_getElem? (i := 22) rfl)) (by decide) (by decide)) (g := (mkF m 57 #[oI p0, oI p1, oR (a_RUNNING Z), oR (fn2 Z j), oI (0 : Int32), oI (0 : Int32), oU] [(.ref (fn2 Z j))])) rfl (by rw [hml]; rfl) (argsL := [(.ref (fn2 Z j))]) (rest := []) (lenOf pd_3 rfl) rfl (by show 2 * 0 + _ ≤ _; exact Nat.le_of_eq rfl) (hb hby at_57) (fun _ _ => ⟨rfl, h68q, (by decide : 0 + 0 ≤ _), (by decide : 0 + 0 ≤ _)⟩)
    dsimp only [Pt.U, Pt.locs, Pt.cells, Pt.slots] at X69 l69 y69 z69 st69 hQ69
    subst l69 y69 z69
    obtain ⟨v69, N69q, h69q⟩ := hQ69
    subst v69
    have N69 := Fr.app N68 N69q
    obtain ⟨_, _, ⟨T70, L70, k70, n70⟩, -, X70, ⟨Lc70, hQ70, l70, y70, z70⟩, st70⟩ := Jvm.LawKit.callS X69 hx (y := (⟨"com/example/resumatic/resumatic/core/DecisionEngine", "decidesRequestIn", "(Lcom/example/resumatic/resumatic/core/RunState;)Z"⟩ : MethodName)) hown (mvT hZ (hw _ (List.mem_of_getElem? (i := 20) rfl))) (mvT hZ (hw _ (List.mem_of_getElem? (i := 21) rfl))) (mvT hZ (hw _ (List.mem_of_getElem? (i := 22) rfl))) (mvT hZ (hw _ (List.mem_of_getElem? (i := 23) rfl))) (by decide) (backOf (W := 0) (rm3 l Z a0 hw hS [] (fn4 Z (fn2 Z j)) h0 n0 O0) hZ (hw _ (List.mem_of_getElem? (i := 23) rfl)) (hw _ (List.mem_of_getElem? (i := 22) rfl)) (by decide) (by decide)) (g := (mkF m 60 #[oI p0, oI p1, oR (a_RUNNING Z), oR (fn2 Z j), oI (0 : Int32), oI (0 : Int32), oU] [(.ref (fn4 Z (fn2 Z j)))])) rfl (by rw [hml]; rfl) (argsL := [(.ref (fn4 Z (fn2 Z j)))]) (rest := []) (lenOf pd_2 rfl) rfl (by show 2 * 0 + _ ≤ _; exact Nat.le_of_eq rfl) (hb hby at_60) (fun _ _ => ⟨rfl, h69q, (by decide : 0 + 0 ≤ _), (by decide : 0 + 0 ≤ _)⟩)
    dsimp only [Pt.U, Pt.locs, Pt.cells, Pt.slots] at X70 l70 y70 z70 st70 hQ70
    subst l70 y70 z70
    obtain ⟨v70, N70q, h70q⟩ := hQ70
    subst v70
    have N70 := Fr.app N69 N70q
    have pre71 : ∀ t, oP p e below T70 (mkF m 74 #[oI p0, oI p1, oR (a_RUNNING Z), oR (fn2 Z j), oI (0 : Int32), oI (0 : Int32), oI (fn3 Z (fn4 Z (fn2 Z j)))] [(.int (fn3 Z (fn4 Z (fn2 Z j))))]) t → oP p e below s₁ (entryFrame m #[(.int p0), (.int p1)] maxLocals) t := fun t k => pre51 t (by
      show oP p e below s₁ (mkF m 7 #[oI p0, oI p1, oU, oU, oU, oU, oU] [(.int (1 : Int32))]) _
      refine st63 _ ?_
      show oP p e below T63 (mkF m 10 #[oI p0, oI p1, oU, oU, oU, oU, oU] [(.ref (a_RUNNING Z))]) _
      refine XS.astoreN X63.here hx rfl (hb hby at_10) rfl rfl (l' := #[oI p0, oI p1, oR (a_RUNNING Z), oU, oU, oU, oU]) rfl ?_
      show oP p e below T63 (mkF m 11 #[oI p0, oI p1, oR (a_RUNNING Z), oU, oU, oU, oU] []) _
      refine XS.iloadN X63.here hx rfl (hb hby at_11) rfl ?_
      show oP p e below T63 (mkF m 12 #[oI p0, oI p1, oR (a_RUNNING Z), oU, oU, oU, oU] [(.int p1)]) _
      refine X63.ldcInt hx hown (mvT hZ (hw _ (List.mem_of_getElem? (i := 0) rfl))) (g := (mkF m 12 #[oI p0, oI p1, oR (a_RUNNING Z), oU, oU, oU, oU] [(.int p1)])) rfl (hb hby at_12) _ ?_
      show oP p e below T63 (mkF m 14 #[oI p0, oI p1, oR (a_RUNNING Z), oU, oU, oU, oU] [(.int (2147483647 : Int32)), (.int p1)]) _
      refine XS.iand X63.here hx rfl (hb hby at_14) rfl ?_
      show oP p e below T63 (mkF m 15 #[oI p0, oI p1, oR (a_RUNNING Z), oU, oU, oU, oU] [(.int (p1 &&& (2147483647 : Int32)))]) _
      refine XS.bipush X63.here hx rfl (hb hby at_15) ?_
      show oP p e below T63 (mkF m 17 #[oI p0, oI p1, oR (a_RUNNING Z), oU, oU, oU, oU] [(.int (6 : Int32)), (.int (p1 &&& (2147483647 : Int32)))]) _
      refine XS.irem X63.here hx rfl (hb hby at_17) rfl (by decide) ?_
      show oP p e below T63 (mkF m 18 #[oI p0, oI p1, oR (a_RUNNING Z), oU, oU, oU, oU] [(.int ((p1 &&& (2147483647 : Int32)) - ((p1 &&& (2147483647 : Int32)) / (6 : Int32)) * (6 : Int32)))]) _
      rw [← hj]
      show oP p e below T63 (mkF m 18 #[oI p0, oI p1, oR (a_RUNNING Z), oU, oU, oU, oU] [(.int j)]) _
      refine st64 _ ?_
      show oP p e below T64 (mkF m 21 #[oI p0, oI p1, oR (a_RUNNING Z), oU, oU, oU, oU] [(.ref (fn2 Z j))]) _
      refine XS.astoreN X64.here hx rfl (hb hby at_21) rfl rfl (l' := #[oI p0, oI p1, oR (a_RUNNING Z), oR (fn2 Z j), oU, oU, oU]) rfl ?_
      show oP p e below T64 (mkF m 22 #[oI p0, oI p1, oR (a_RUNNING Z), oR (fn2 Z j), oU, oU, oU] []) _
      refine XS.aloadN X64.here hx rfl (hb hby at_22) rfl rfl ?_
      show oP p e below T64 (mkF m 23 #[oI p0, oI p1, oR (a_RUNNING Z), oR (fn2 Z j), oU, oU, oU] [(.ref (a_RUNNING Z))]) _
      refine st65 _ ?_
      show oP p e below T65 (mkF m 26 #[oI p0, oI p1, oR (a_RUNNING Z), oR (fn2 Z j), oU, oU, oU] [(.ref (a_WAITING Z)), (.ref (a_RUNNING Z))]) _
      refine Jvm.RoadKit.acmp (g := (mkF m 26 #[oI p0, oI p1, oR (a_RUNNING Z), oR (fn2 Z j), oU, oU, oU] [(.ref (a_WAITING Z)), (.ref (a_RUNNING Z))])) X65 hx rfl rfl rfl (pc0 := 26) (pc' := 29) (same := false) rfl (hb hby at_26) rfl (decide_eq_false fun q => ((f_a_RUNNING_ordinal hS).ne (f_a_WAITING_ordinal hS) (by decide)) (Value.ref.inj q)) (by decide) (by decide) ?_
      show oP p e below T65 (mkF m 29 #[oI p0, oI p1, oR (a_RUNNING Z), oR (fn2 Z j), oU, oU, oU] []) _
      refine XS.aloadN X65.here hx rfl (hb hby at_29) rfl rfl ?_
      show oP p e below T65 (mkF m 30 #[oI p0, oI p1, oR (a_RUNNING Z), oR (fn2 Z j), oU, oU, oU] [(.ref (a_RUNNING Z))]) _
      refine st66 _ ?_
      show oP p e below T66 (mkF m 33 #[oI p0, oI p1, oR (a_RUNNING Z), oR (fn2 Z j), oU, oU, oU] [(.ref (a_FAILED Z)), (.ref (a_RUNNING Z))]) _
      refine Jvm.RoadKit.acmp (g := (mkF m 33 #[oI p0, oI p1, oR (a_RUNNING Z), oR (fn2 Z j), oU, oU, oU] [(.ref (a_FAILED Z)), (.ref (a_RUNNING Z))])) X66 hx rfl rfl rfl (pc0 := 33) (pc' := 36) (same := false) rfl (hb hby at_33) rfl (decide_eq_false fun q => ((f_a_RUNNING_ordinal hS).ne (f_a_FAILED_ordinal hS) (by decide)) (Value.ref.inj q)) (by decide) (by decide) ?_
      show oP p e below T66 (mkF m 36 #[oI p0, oI p1, oR (a_RUNNING Z), oR (fn2 Z j), oU, oU, oU] []) _
      refine XS.aloadN X66.here hx rfl (hb hby at_36) rfl rfl ?_
      show oP p e below T66 (mkF m 37 #[oI p0, oI p1, oR (a_RUNNING Z), oR (fn2 Z j), oU, oU, oU] [(.ref (a_RUNNING Z))]) _
      refine st67 _ ?_
      show oP p e below T67 (mkF m 40 #[oI p0, oI p1, oR (a_RUNNING Z), oR (fn2 Z j), oU, oU, oU] [(.ref (a_RESUME_ESCALATED Z)), (.ref (a_RUNNING Z))]) _
      refine Jvm.RoadKit.acmp (g := (mkF m 40 #[oI p0, oI p1, oR (a_RUNNING Z), oR (fn2 Z j), oU, oU, oU] [(.ref (a_RESUME_ESCALATED Z)), (.ref (a_RUNNING Z))])) X67 hx rfl rfl rfl (pc0 := 40) (pc' := 47) (same := false) rfl (hb hby at_40) rfl (decide_eq_false fun q => ((f_a_RUNNING_ordinal hS).ne (f_a_RESUME_ESCALATED_ordinal hS) (by decide)) (Value.ref.inj q)) (by decide) (by decide) ?_
      show oP p e below T67 (mkF m 47 #[oI p0, oI p1, oR (a_RUNNING Z), oR (fn2 Z j), oU, oU, oU] []) _
      refine XS.iconst X67.here hx rfl (hb hby at_47) ?_
      show oP p e below T67 (mkF m 48 #[oI p0, oI p1, oR (a_RUNNING Z), oR (fn2 Z j), oU, oU, oU] [(.int (0 : Int32))]) _
      refine XS.istore X67.here hx rfl (hb hby at_48) rfl (l' := #[oI p0, oI p1, oR (a_RUNNING Z), oR (fn2 Z j), oI (0 : Int32), oU, oU]) rfl ?_
      show oP p e below T67 (mkF m 50 #[oI p0, oI p1, oR (a_RUNNING Z), oR (fn2 Z j), oI (0 : Int32), oU, oU] []) _
      refine XS.aloadN X67.here hx rfl (hb hby at_50) rfl rfl ?_
      show oP p e below T67 (mkF m 51 #[oI p0, oI p1, oR (a_RUNNING Z), oR (fn2 Z j), oI (0 : Int32), oU, oU] [(.ref (a_RUNNING Z))]) _
      refine st68 _ ?_
      show oP p e below T68 (mkF m 54 #[oI p0, oI p1, oR (a_RUNNING Z), oR (fn2 Z j), oI (0 : Int32), oU, oU] [(.int (0 : Int32))]) _
      refine XS.istore X68.here hx rfl (hb hby at_54) rfl (l' := #[oI p0, oI p1, oR (a_RUNNING Z), oR (fn2 Z j), oI (0 : Int32), oI (0 : Int32), oU]) rfl ?_
      show oP p e below T68 (mkF m 56 #[oI p0, oI p1, oR (a_RUNNING Z), oR (fn2 Z j), oI (0 : Int32), oI (0 : Int32), oU] []) _
      refine XS.aloadN X68.here hx rfl (hb hby at_56) rfl rfl ?_
      show oP p e below T68 (mkF m 57 #[oI p0, oI p1, oR (a_RUNNING Z), oR (fn2 Z j), oI (0 : Int32), oI (0 : Int32), oU] [(.ref (fn2 Z j))]) _
      refine st69 _ ?_
      show oP p e below T69 (mkF m 60 #[oI p0, oI p1, oR (a_RUNNING Z), oR (fn2 Z j), oI (0 : Int32), oI (0 : Int32), oU] [(.ref (fn4 Z (fn2 Z j)))]) _
      refine st70 _ ?_
      show oP p e below T70 (mkF m 63 #[oI p0, oI p1, oR (a_RUNNING Z), oR (fn2 Z j), oI (0 : Int32), oI (0 : Int32), oU] [(.int (fn3 Z (fn4 Z (fn2 Z j))))]) _
      refine XS.istore X70.here hx rfl (hb hby at_63) rfl (l' := #[oI p0, oI p1, oR (a_RUNNING Z), oR (fn2 Z j), oI (0 : Int32), oI (0 : Int32), oI (fn3 Z (fn4 Z (fn2 Z j)))]) rfl ?_
      show oP p e below T70 (mkF m 65 #[oI p0, oI p1, oR (a_RUNNING Z), oR (fn2 Z j), oI (0 : Int32), oI (0 : Int32), oI (fn3 Z (fn4 Z (fn2 Z j)))] []) _
      refine XS.iload X70.here hx rfl (hb hby at_65) rfl ?_
      show oP p e below T70 (mkF m 67 #[oI p0, oI p1, oR (a_RUNNING Z), oR (fn2 Z j), oI (0 : Int32), oI (0 : Int32), oI (fn3 Z (fn4 Z (fn2 Z j)))] [(.int (0 : Int32))]) _
      refine XS.iload X70.here hx rfl (hb hby at_67) rfl ?_
      show oP p e below T70 (mkF m 69 #[oI p0, oI p1, oR (a_RUNNING Z), oR (fn2 Z j), oI (0 : Int32), oI (0 : Int32), oI (fn3 Z (fn4 Z (fn2 Z j)))] [(.int (0 : Int32)), (.int (0 : Int32))]) _
      refine XS.icmpNo X70.here hx rfl (hb hby at_69) rfl (teq (by decide : (0 : Int32) = (0 : Int32))).2 ?_
      show oP p e below T70 (mkF m 72 #[oI p0, oI p1, oR (a_RUNNING Z), oR (fn2 Z j), oI (0 : Int32), oI (0 : Int32), oI (fn3 Z (fn4 Z (fn2 Z j)))] []) _
      refine XS.iload X70.here hx rfl (hb hby at_72) rfl ?_
      exact k)
    by_cases hc72 : (fn3 Z (fn4 Z (fn2 Z j))) = (0 : Int32)
    · exfalso
      exact ab73 hS j rj hc72
    · obtain ⟨fs, hr, hrun, hended, hW, hsame⟩ := X70.leave (v := some (.int (1 : Int32))) (fun h => by rw [Bd.returns] at h; cases h)
      refine ⟨_, _, pre71 _ ?_, hrun, hended, _, _, rfl, ?_, ⟨_, rfl⟩, hW, hsame.mono (by decide) (by decide)⟩
      · show oP p e below T70 (mkF m 74 #[oI p0, oI p1, oR (a_RUNNING Z), oR (fn2 Z j), oI (0 : Int32), oI (0 : Int32), oI (fn3 Z (fn4 Z (fn2 Z j)))] [(.int (fn3 Z (fn4 Z (fn2 Z j))))]) _
        refine XS.ifNo X70.here hx rfl (hb hby at_74) rfl ((if0 _ _).trans (feq hc72).1) ?_
        show oP p e below T70 (mkF m 77 #[oI p0, oI p1, oR (a_RUNNING Z), oR (fn2 Z j), oI (0 : Int32), oI (0 : Int32), oI (fn3 Z (fn4 Z (fn2 Z j)))] []) _
        refine XS.iconst X70.here hx rfl (hb hby at_77) ?_
        show oP p e below T70 (mkF m 78 #[oI p0, oI p1, oR (a_RUNNING Z), oR (fn2 Z j), oI (0 : Int32), oI (0 : Int32), oI (fn3 Z (fn4 Z (fn2 Z j)))] [(.int (1 : Int32))]) _
        refine XS.goto X70.here hx rfl (pc0 := 78) (pc' := 82) rfl (hb hby at_78) (by decide) (by decide) ?_
        show oP p e below T70 (mkF m 82 #[oI p0, oI p1, oR (a_RUNNING Z), oR (fn2 Z j), oI (0 : Int32), oI (0 : Int32), oI (fn3 Z (fn4 Z (fn2 Z j)))] [(.int (1 : Int32))]) _
        exact retN X70 hx (t := .boolean) Bd.returns (by simp) (hb hby at_82) hr
      · show (some (.int (1 : Int32)) : Option Value) = some (.int (1 : Int32)) ∧ Fr n0 _ ∧ T70.heap = h0
        rw [h70q]
        exact ⟨rfl, N70, rfl⟩
  · obtain ⟨_, _, ⟨T74, L74, k74, n74⟩, -, X74, ⟨Lc74, hQ74, l74, y74, z74⟩, st74⟩ := Jvm.LawKit.callS X0 hx (y := (⟨"com/example/resumatic/resumatic/core/DecisionEngineDecidesRequestInPinLaw", "stateOf", "(I)Lcom/example/resumatic/resumatic/core/RunState;"⟩ : MethodName)) hown (mvT hZ (hw _ (List.mem_of_getElem? (i := 1) rfl))) (mvT hZ (hw _ (List.mem_of_getElem? (i := 2) rfl))) (mvT hZ (hw _ (List.mem_of_getElem? (i := 3) rfl))) (mvT hZ (hw _ (List.mem_of_getElem? (i := 4) rfl))) (by decide) (backOf (W := 0) (rm1 l Z a0 hw hS [] (2 : Int32) h0 n0 O0) hZ (hw _ (List.mem_of_getElem? (i := 4) rfl)) (hw _ (List.mem_of_getElem? (i := 3) rfl)) (by decide) (by decide)) (g := (mkF m 7 #[oI p0, oI p1, oU, oU, oU, oU, oU] [(.int (2 : Int32))])) rfl (by rw [hml]; rfl) (argsL := [(.int (2 : Int32))]) (rest := []) (lenOf pd_0 rfl) rfl (by show 2 * 0 + _ ≤ _; exact Nat.le_of_eq rfl) (hb hby at_7) (fun _ _ => ⟨rfl, e0, (by decide : 0 + 0 ≤ _), (by decide : 0 + 0 ≤ _)⟩)
    dsimp only [Pt.U, Pt.locs, Pt.cells, Pt.slots] at X74 l74 y74 z74 st74 hQ74
    subst l74 y74 z74
    obtain ⟨v74, N74q, h74q⟩ := hQ74
    have w74 : (fn1 Z (2 : Int32)) = (a_WAITING Z) := by unfold fn1; rw [if_neg (by decide : ¬ ((2 : Int32) = (0 : Int32))), if_neg (by decide : ¬ ((2 : Int32) = (1 : Int32))), if_pos (by decide : (2 : Int32) = (2 : Int32))]; all_goals first | rfl | decide
    rw [w74] at v74
    subst v74
    have N74 := Fr.app N0 N74q
    obtain ⟨j, hj⟩ : ∃ z, z = ((p1 &&& (2147483647 : Int32)) - ((p1 &&& (2147483647 : Int32)) / (6 : Int32)) * (6 : Int32)) := ⟨_, rfl⟩
    have rj : j = (0 : Int32) ∨ j = (1 : Int32) ∨ j = (2 : Int32) ∨ j = (3 : Int32) ∨ j = (4 : Int32) ∨ j = (5 : Int32) := by rw [hj]; exact rng_rem6 p1
    obtain ⟨_, _, ⟨T75, L75, k75, n75⟩, -, X75, ⟨Lc75, hQ75, l75, y75, z75⟩, st75⟩ := Jvm.LawKit.callS X74 hx (y := (⟨"com/example/resumatic/resumatic/core/DecisionEngineDecidesRequestInPinLaw", "codeOf", "(I)Lcom/example/resumatic/resumatic/core/ReasonCode;"⟩ : MethodName)) hown (mvT hZ (hw _ (List.mem_of_getElem? (i := 8) rfl))) (mvT hZ (hw _ (List.mem_of_getElem? (i := 9) rfl))) (mvT hZ (hw _ (List.mem_of_getElem? (i := 3) rfl))) (mvT hZ (hw _ (List.mem_of_getElem? (i := 10) rfl))) (by decide) (backOf (W := 0) (rm2 l Z a0 hw hS [] j h0 n0 O0) hZ (hw _ (List.mem_of_getElem? (i := 10) rfl)) (hw _ (List.mem_of_getElem? (i := 3) rfl)) (by decide) (by decide)) (g := (mkF m 18 #[oI p0, oI p1, oR (a_WAITING Z), oU, oU, oU, oU] [(.int j)])) rfl (by rw [hml]; rfl) (argsL := [(.int j)]) (rest := []) (lenOf pd_1 rfl) rfl (by show 2 * 0 + _ ≤ _; exact Nat.le_of_eq rfl) (hb hby at_18) (fun _ _ => ⟨rfl, h74q, (by decide : 0 + 0 ≤ _), (by decide : 0 + 0 ≤ _)⟩)
    dsimp only [Pt.U, Pt.locs, Pt.cells, Pt.slots] at X75 l75 y75 z75 st75 hQ75
    subst l75 y75 z75
    obtain ⟨v75, N75q, h75q⟩ := hQ75
    subst v75
    have N75 := Fr.app N74 N75q
    obtain ⟨T76, X76, e76, st76⟩ := getS2 X75 hx hZ hown (host := "") (Or.inl (hw _ (List.mem_of_getElem? (i := 14) rfl))) Via.refl h75q ((s_a_WAITING hS).ext O0.2) (g := (mkF m 23 #[oI p0, oI p1, oR (a_WAITING Z), oR (fn2 Z j), oU, oU, oU] [(.ref (a_WAITING Z))])) rfl (hb hby at_23)
    obtain ⟨_, _, ⟨T77, L77, k77, n77⟩, -, X77, ⟨Lc77, hQ77, l77, y77, z77⟩, st77⟩ := Jvm.LawKit.callS X76 hx (y := (⟨"com/example/resumatic/resumatic/core/DecisionEngine", "decidesRequestIn", "(Lcom/example/resumatic/resumatic/core/RunState;)Z"⟩ : MethodName)) hown (mvT hZ (hw _ (List.mem_of_getElem? (i := 20) rfl))) (mvT hZ (hw _ (List.mem_of_getElem? (i := 21) rfl))) (mvT hZ (hw _ (List.mem_of_getElem? (i := 22) rfl))) (mvT hZ (hw _ (List.mem_of_getElem? (i := 23) rfl))) (by decide) (backOf (W := 0) (rm3 l Z a0 hw hS [] (a_WAITING Z) h0 n0 O0) hZ (hw _ (List.mem_of_getElem? (i := 23) rfl)) (hw _ (List.mem_of_getElem? (i := 22) rfl)) (by decide) (by decide)) (g := (mkF m 51 #[oI p0, oI p1, oR (a_WAITING Z), oR (fn2 Z j), oI (1 : Int32), oU, oU] [(.ref (a_WAITING Z))])) rfl (by rw [hml]; rfl) (argsL := [(.ref (a_WAITING Z))]) (rest := []) (lenOf pd_2 rfl) rfl (by show 2 * 0 + _ ≤ _; exact Nat.le_of_eq rfl) (hb hby at_51) (fun _ _ => ⟨rfl, e76, (by decide : 0 + 0 ≤ _), (by decide : 0 + 0 ≤ _)⟩)
    dsimp only [Pt.U, Pt.locs, Pt.cells, Pt.slots] at X77 l77 y77 z77 st77 hQ77
    subst l77 y77 z77
    obtain ⟨v77, N77q, h77q⟩ := hQ77
    have w77 : (fn3 Z (a_WAITING Z)) = (1 : Int32) := by unfold fn3; rw [if_pos (rfl : (a_WAITING Z) = (a_WAITING Z))]; all_goals first | rfl | decide
    rw [w77] at v77
    subst v77
    have N77 := Fr.app N75 N77q
    obtain ⟨_, _, ⟨T78, L78, k78, n78⟩, -, X78, ⟨Lc78, hQ78, l78, y78, z78⟩, st78⟩ := Jvm.LawKit.callS X77 hx (y := (⟨"com/example/resumatic/resumatic/core/DecisionEngine", "stateAfter", "(Lcom/example/resumatic/resumatic/core/ReasonCode;)Lcom/example/resumatic/resumatic/core/RunState;"⟩ : MethodName)) hown (mvT hZ (hw _ (List.mem_of_getElem? (i := 27) rfl))) (mvT hZ (hw _ (List.mem_of_getElem? (i := 28) rfl))) (mvT hZ (hw _ (List.mem_of_getElem? (i := 22) rfl))) (mvT hZ (hw _ (List.mem_of_getElem? (i := 29) rfl))) (by decide) (backOf (W := 0) (rm4 l Z a0 hw hS [] (fn2 Z j) h0 n0 O0) hZ (hw _ (List.mem_of_getElem? (i := 29) rfl)) (hw _ (List.mem_of_getElem? (i := 22) rfl)) (by decide) (by decide)) (g := (mkF m 57 #[oI p0, oI p1, oR (a_WAITING Z), oR (fn2 Z j), oI (1 : Int32), oI (1 : Int32), oU] [(.ref (fn2 Z j))])) rfl (by rw [hml]; rfl) (argsL := [(.ref (fn2 Z j))]) (rest := []) (lenOf pd_3 rfl) rfl (by show 2 * 0 + _ ≤ _; exact Nat.le_of_eq rfl) (hb hby at_57) (fun _ _ => ⟨rfl, h77q, (by decide : 0 + 0 ≤ _), (by decide : 0 + 0 ≤ _)⟩)
    dsimp only [Pt.U, Pt.locs, Pt.cells, Pt.slots] at X78 l78 y78 z78 st78 hQ78
    subst l78 y78 z78
    obtain ⟨v78, N78q, h78q⟩ := hQ78
    subst v78
    have N78 := Fr.app N77 N78q
    obtain ⟨_, _, ⟨T79, L79, k79, n79⟩, -, X79, ⟨Lc79, hQ79, l79, y79, z79⟩, st79⟩ := Jvm.LawKit.callS X78 hx (y := (⟨"com/example/resumatic/resumatic/core/DecisionEngine", "decidesRequestIn", "(Lcom/example/resumatic/resumatic/core/RunState;)Z"⟩ : MethodName)) hown (mvT hZ (hw _ (List.mem_of_getElem? (i := 20) rfl))) (mvT hZ (hw _ (List.mem_of_getElem? (i := 21) rfl))) (mvT hZ (hw _ (List.mem_of_getElem? (i := 22) rfl))) (mvT hZ (hw _ (List.mem_of_getElem? (i := 23) rfl))) (by decide) (backOf (W := 0) (rm3 l Z a0 hw hS [] (fn4 Z (fn2 Z j)) h0 n0 O0) hZ (hw _ (List.mem_of_getElem? (i := 23) rfl)) (hw _ (List.mem_of_getElem? (i := 22) rfl)) (by decide) (by decide)) (g := (mkF m 60 #[oI p0, oI p1, oR (a_WAITING Z), oR (fn2 Z j), oI (1 : Int32), oI (1 : Int32), oU] [(.ref (fn4 Z (fn2 Z j)))])) rfl (by rw [hml]; rfl) (argsL := [(.ref (fn4 Z (fn2 Z j)))]) (rest := []) (lenOf pd_2 rfl) rfl (by show 2 * 0 + _ ≤ _; exact Nat.le_of_eq rfl) (hb hby at_60) (fun _ _ => ⟨rfl, h78q, (by decide : 0 + 0 ≤ _), (by decide : 0 + 0 ≤ _)⟩)
    dsimp only [Pt.U, Pt.locs, Pt.cells, Pt.slots] at X79 l79 y79 z79 st79 hQ79
    subst l79 y79 z79
    obtain ⟨v79, N79q, h79q⟩ := hQ79
    subst v79
    have N79 := Fr.app N78 N79q
    have pre80 : ∀ t, oP p e below T79 (mkF m 74 #[oI p0, oI p1, oR (a_WAITING Z), oR (fn2 Z j), oI (1 : Int32), oI (1 : Int32), oI (fn3 Z (fn4 Z (fn2 Z j)))] [(.int (fn3 Z (fn4 Z (fn2 Z j))))]) t → oP p e below s₁ (entryFrame m #[(.int p0), (.int p1)] maxLocals) t := fun t k => pre51 t (by
      show oP p e below s₁ (mkF m 7 #[oI p0, oI p1, oU, oU, oU, oU, oU] [(.int (2 : Int32))]) _
      refine st74 _ ?_
      show oP p e below T74 (mkF m 10 #[oI p0, oI p1, oU, oU, oU, oU, oU] [(.ref (a_WAITING Z))]) _
      refine XS.astoreN X74.here hx rfl (hb hby at_10) rfl rfl (l' := #[oI p0, oI p1, oR (a_WAITING Z), oU, oU, oU, oU]) rfl ?_
      show oP p e below T74 (mkF m 11 #[oI p0, oI p1, oR (a_WAITING Z), oU, oU, oU, oU] []) _
      refine XS.iloadN X74.here hx rfl (hb hby at_11) rfl ?_
      show oP p e below T74 (mkF m 12 #[oI p0, oI p1, oR (a_WAITING Z), oU, oU, oU, oU] [(.int p1)]) _
      refine X74.ldcInt hx hown (mvT hZ (hw _ (List.mem_of_getElem? (i := 0) rfl))) (g := (mkF m 12 #[oI p0, oI p1, oR (a_WAITING Z), oU, oU, oU, oU] [(.int p1)])) rfl (hb hby at_12) _ ?_
      show oP p e below T74 (mkF m 14 #[oI p0, oI p1, oR (a_WAITING Z), oU, oU, oU, oU] [(.int (2147483647 : Int32)), (.int p1)]) _
      refine XS.iand X74.here hx rfl (hb hby at_14) rfl ?_
      show oP p e below T74 (mkF m 15 #[oI p0, oI p1, oR (a_WAITING Z), oU, oU, oU, oU] [(.int (p1 &&& (2147483647 : Int32)))]) _
      refine XS.bipush X74.here hx rfl (hb hby at_15) ?_
      show oP p e below T74 (mkF m 17 #[oI p0, oI p1, oR (a_WAITING Z), oU, oU, oU, oU] [(.int (6 : Int32)), (.int (p1 &&& (2147483647 : Int32)))]) _
      refine XS.irem X74.here hx rfl (hb hby at_17) rfl (by decide) ?_
      show oP p e below T74 (mkF m 18 #[oI p0, oI p1, oR (a_WAITING Z), oU, oU, oU, oU] [(.int ((p1 &&& (2147483647 : Int32)) - ((p1 &&& (2147483647 : Int32)) / (6 : Int32)) * (6 : Int32)))]) _
      rw [← hj]
      show oP p e below T74 (mkF m 18 #[oI p0, oI p1, oR (a_WAITING Z), oU, oU, oU, oU] [(.int j)]) _
      refine st75 _ ?_
      show oP p e below T75 (mkF m 21 #[oI p0, oI p1, oR (a_WAITING Z), oU, oU, oU, oU] [(.ref (fn2 Z j))]) _
      refine XS.astoreN X75.here hx rfl (hb hby at_21) rfl rfl (l' := #[oI p0, oI p1, oR (a_WAITING Z), oR (fn2 Z j), oU, oU, oU]) rfl ?_
      show oP p e below T75 (mkF m 22 #[oI p0, oI p1, oR (a_WAITING Z), oR (fn2 Z j), oU, oU, oU] []) _
      refine XS.aloadN X75.here hx rfl (hb hby at_22) rfl rfl ?_
      show oP p e below T75 (mkF m 23 #[oI p0, oI p1, oR (a_WAITING Z), oR (fn2 Z j), oU, oU, oU] [(.ref (a_WAITING Z))]) _
      refine st76 _ ?_
      show oP p e below T76 (mkF m 26 #[oI p0, oI p1, oR (a_WAITING Z), oR (fn2 Z j), oU, oU, oU] [(.ref (a_WAITING Z)), (.ref (a_WAITING Z))]) _
      refine Jvm.RoadKit.acmp (g := (mkF m 26 #[oI p0, oI p1, oR (a_WAITING Z), oR (fn2 Z j), oU, oU, oU] [(.ref (a_WAITING Z)), (.ref (a_WAITING Z))])) X76 hx rfl rfl rfl (pc0 := 26) (pc' := 43) (same := true) rfl (hb hby at_26) rfl (decide_eq_true (congrArg Value.ref (rfl : (a_WAITING Z) = (a_WAITING Z)))) (by decide) (by decide) ?_
      show oP p e below T76 (mkF m 43 #[oI p0, oI p1, oR (a_WAITING Z), oR (fn2 Z j), oU, oU, oU] []) _
      refine XS.iconst X76.here hx rfl (hb hby at_43) ?_
      show oP p e below T76 (mkF m 44 #[oI p0, oI p1, oR (a_WAITING Z), oR (fn2 Z j), oU, oU, oU] [(.int (1 : Int32))]) _
      refine XS.goto X76.here hx rfl (pc0 := 44) (pc' := 48) rfl (hb hby at_44) (by decide) (by decide) ?_
      show oP p e below T76 (mkF m 48 #[oI p0, oI p1, oR (a_WAITING Z), oR (fn2 Z j), oU, oU, oU] [(.int (1 : Int32))]) _
      refine XS.istore X76.here hx rfl (hb hby at_48) rfl (l' := #[oI p0, oI p1, oR (a_WAITING Z), oR (fn2 Z j), oI (1 : Int32), oU, oU]) rfl ?_
      show oP p e below T76 (mkF m 50 #[oI p0, oI p1, oR (a_WAITING Z), oR (fn2 Z j), oI (1 : Int32), oU, oU] []) _
      refine XS.aloadN X76.here hx rfl (hb hby at_50) rfl rfl ?_
      show oP p e below T76 (mkF m 51 #[oI p0, oI p1, oR (a_WAITING Z), oR (fn2 Z j), oI (1 : Int32), oU, oU] [(.ref (a_WAITING Z))]) _
      refine st77 _ ?_
      show oP p e below T77 (mkF m 54 #[oI p0, oI p1, oR (a_WAITING Z), oR (fn2 Z j), oI (1 : Int32), oU, oU] [(.int (1 : Int32))]) _
      refine XS.istore X77.here hx rfl (hb hby at_54) rfl (l' := #[oI p0, oI p1, oR (a_WAITING Z), oR (fn2 Z j), oI (1 : Int32), oI (1 : Int32), oU]) rfl ?_
      show oP p e below T77 (mkF m 56 #[oI p0, oI p1, oR (a_WAITING Z), oR (fn2 Z j), oI (1 : Int32), oI (1 : Int32), oU] []) _
      refine XS.aloadN X77.here hx rfl (hb hby at_56) rfl rfl ?_
      show oP p e below T77 (mkF m 57 #[oI p0, oI p1, oR (a_WAITING Z), oR (fn2 Z j), oI (1 : Int32), oI (1 : Int32), oU] [(.ref (fn2 Z j))]) _
      refine st78 _ ?_
      show oP p e below T78 (mkF m 60 #[oI p0, oI p1, oR (a_WAITING Z), oR (fn2 Z j), oI (1 : Int32), oI (1 : Int32), oU] [(.ref (fn4 Z (fn2 Z j)))]) _
      refine st79 _ ?_
      show oP p e below T79 (mkF m 63 #[oI p0, oI p1, oR (a_WAITING Z), oR (fn2 Z j), oI (1 : Int32), oI (1 : Int32), oU] [(.int (fn3 Z (fn4 Z (fn2 Z j))))]) _
      refine XS.istore X79.here hx rfl (hb hby at_63) rfl (l' := #[oI p0, oI p1, oR (a_WAITING Z), oR (fn2 Z j), oI (1 : Int32), oI (1 : Int32), oI (fn3 Z (fn4 Z (fn2 Z j)))]) rfl ?_
      show oP p e below T79 (mkF m 65 #[oI p0, oI p1, oR (a_WAITING Z), oR (fn2 Z j), oI (1 : Int32), oI (1 : Int32), oI (fn3 Z (fn4 Z (fn2 Z j)))] []) _
      refine XS.iload X79.here hx rfl (hb hby at_65) rfl ?_
      show oP p e below T79 (mkF m 67 #[oI p0, oI p1, oR (a_WAITING Z), oR (fn2 Z j), oI (1 : Int32), oI (1 : Int32), oI (fn3 Z (fn4 Z (fn2 Z j)))] [(.int (1 : Int32))]) _
      refine XS.iload X79.here hx rfl (hb hby at_67) rfl ?_
      show oP p e below T79 (mkF m 69 #[oI p0, oI p1, oR (a_WAITING Z), oR (fn2 Z j), oI (1 : Int32), oI (1 : Int32), oI (fn3 Z (fn4 Z (fn2 Z j)))] [(.int (1 : Int32)), (.int (1 : Int32))]) _
      refine XS.icmpNo X79.here hx rfl (hb hby at_69) rfl (teq (by decide : (1 : Int32) = (1 : Int32))).2 ?_
      show oP p e below T79 (mkF m 72 #[oI p0, oI p1, oR (a_WAITING Z), oR (fn2 Z j), oI (1 : Int32), oI (1 : Int32), oI (fn3 Z (fn4 Z (fn2 Z j)))] []) _
      refine XS.iload X79.here hx rfl (hb hby at_72) rfl ?_
      exact k)
    by_cases hc81 : (fn3 Z (fn4 Z (fn2 Z j))) = (0 : Int32)
    · exfalso
      exact ab82 hS j rj hc81
    · obtain ⟨fs, hr, hrun, hended, hW, hsame⟩ := X79.leave (v := some (.int (1 : Int32))) (fun h => by rw [Bd.returns] at h; cases h)
      refine ⟨_, _, pre80 _ ?_, hrun, hended, _, _, rfl, ?_, ⟨_, rfl⟩, hW, hsame.mono (by decide) (by decide)⟩
      · show oP p e below T79 (mkF m 74 #[oI p0, oI p1, oR (a_WAITING Z), oR (fn2 Z j), oI (1 : Int32), oI (1 : Int32), oI (fn3 Z (fn4 Z (fn2 Z j)))] [(.int (fn3 Z (fn4 Z (fn2 Z j))))]) _
        refine XS.ifNo X79.here hx rfl (hb hby at_74) rfl ((if0 _ _).trans (feq hc81).1) ?_
        show oP p e below T79 (mkF m 77 #[oI p0, oI p1, oR (a_WAITING Z), oR (fn2 Z j), oI (1 : Int32), oI (1 : Int32), oI (fn3 Z (fn4 Z (fn2 Z j)))] []) _
        refine XS.iconst X79.here hx rfl (hb hby at_77) ?_
        show oP p e below T79 (mkF m 78 #[oI p0, oI p1, oR (a_WAITING Z), oR (fn2 Z j), oI (1 : Int32), oI (1 : Int32), oI (fn3 Z (fn4 Z (fn2 Z j)))] [(.int (1 : Int32))]) _
        refine XS.goto X79.here hx rfl (pc0 := 78) (pc' := 82) rfl (hb hby at_78) (by decide) (by decide) ?_
        show oP p e below T79 (mkF m 82 #[oI p0, oI p1, oR (a_WAITING Z), oR (fn2 Z j), oI (1 : Int32), oI (1 : Int32), oI (fn3 Z (fn4 Z (fn2 Z j)))] [(.int (1 : Int32))]) _
        exact retN X79 hx (t := .boolean) Bd.returns (by simp) (hb hby at_82) hr
      · show (some (.int (1 : Int32)) : Option Value) = some (.int (1 : Int32)) ∧ Fr n0 _ ∧ T79.heap = h0
        rw [h79q]
        exact ⟨rfl, N79, rfl⟩
  · obtain ⟨_, _, ⟨T83, L83, k83, n83⟩, -, X83, ⟨Lc83, hQ83, l83, y83, z83⟩, st83⟩ := Jvm.LawKit.callS X0 hx (y := (⟨"com/example/resumatic/resumatic/core/DecisionEngineDecidesRequestInPinLaw", "stateOf", "(I)Lcom/example/resumatic/resumatic/core/RunState;"⟩ : MethodName)) hown (mvT hZ (hw _ (List.mem_of_getElem? (i := 1) rfl))) (mvT hZ (hw _ (List.mem_of_getElem? (i := 2) rfl))) (mvT hZ (hw _ (List.mem_of_getElem? (i := 3) rfl))) (mvT hZ (hw _ (List.mem_of_getElem? (i := 4) rfl))) (by decide) (backOf (W := 0) (rm1 l Z a0 hw hS [] (3 : Int32) h0 n0 O0) hZ (hw _ (List.mem_of_getElem? (i := 4) rfl)) (hw _ (List.mem_of_getElem? (i := 3) rfl)) (by decide) (by decide)) (g := (mkF m 7 #[oI p0, oI p1, oU, oU, oU, oU, oU] [(.int (3 : Int32))])) rfl (by rw [hml]; rfl) (argsL := [(.int (3 : Int32))]) (rest := []) (lenOf pd_0 rfl) rfl (by show 2 * 0 + _ ≤ _; exact Nat.le_of_eq rfl) (hb hby at_7) (fun _ _ => ⟨rfl, e0, (by decide : 0 + 0 ≤ _), (by decide : 0 + 0 ≤ _)⟩)
    dsimp only [Pt.U, Pt.locs, Pt.cells, Pt.slots] at X83 l83 y83 z83 st83 hQ83
    subst l83 y83 z83
    obtain ⟨v83, N83q, h83q⟩ := hQ83
    have w83 : (fn1 Z (3 : Int32)) = (a_FAILED Z) := by unfold fn1; rw [if_neg (by decide : ¬ ((3 : Int32) = (0 : Int32))), if_neg (by decide : ¬ ((3 : Int32) = (1 : Int32))), if_neg (by decide : ¬ ((3 : Int32) = (2 : Int32))), if_pos (by decide : (3 : Int32) = (3 : Int32))]; all_goals first | rfl | decide
    rw [w83] at v83
    subst v83
    have N83 := Fr.app N0 N83q
    obtain ⟨j, hj⟩ : ∃ z, z = ((p1 &&& (2147483647 : Int32)) - ((p1 &&& (2147483647 : Int32)) / (6 : Int32)) * (6 : Int32)) := ⟨_, rfl⟩
    have rj : j = (0 : Int32) ∨ j = (1 : Int32) ∨ j = (2 : Int32) ∨ j = (3 : Int32) ∨ j = (4 : Int32) ∨ j = (5 : Int32) := by rw [hj]; exact rng_rem6 p1
    obtain ⟨_, _, ⟨T84, L84, k84, n84⟩, -, X84, ⟨Lc84, hQ84, l84, y84, z84⟩, st84⟩ := Jvm.LawKit.callS X83 hx (y := (⟨"com/example/resumatic/resumatic/core/DecisionEngineDecidesRequestInPinLaw", "codeOf", "(I)Lcom/example/resumatic/resumatic/core/ReasonCode;"⟩ : MethodName)) hown (mvT hZ (hw _ (List.mem_of_getElem? (i := 8) rfl))) (mvT hZ (hw _ (List.mem_of_getElem? (i := 9) rfl))) (mvT hZ (hw _ (List.mem_of_getElem? (i := 3) rfl))) (mvT hZ (hw _ (List.mem_of_getElem? (i := 10) rfl))) (by decide) (backOf (W := 0) (rm2 l Z a0 hw hS [] j h0 n0 O0) hZ (hw _ (List.mem_of_getElem? (i := 10) rfl)) (hw _ (List.mem_of_getElem? (i := 3) rfl)) (by decide) (by decide)) (g := (mkF m 18 #[oI p0, oI p1, oR (a_FAILED Z), oU, oU, oU, oU] [(.int j)])) rfl (by rw [hml]; rfl) (argsL := [(.int j)]) (rest := []) (lenOf pd_1 rfl) rfl (by show 2 * 0 + _ ≤ _; exact Nat.le_of_eq rfl) (hb hby at_18) (fun _ _ => ⟨rfl, h83q, (by decide : 0 + 0 ≤ _), (by decide : 0 + 0 ≤ _)⟩)
    dsimp only [Pt.U, Pt.locs, Pt.cells, Pt.slots] at X84 l84 y84 z84 st84 hQ84
    subst l84 y84 z84
    obtain ⟨v84, N84q, h84q⟩ := hQ84
    subst v84
    have N84 := Fr.app N83 N84q
    obtain ⟨T85, X85, e85, st85⟩ := getS2 X84 hx hZ hown (host := "") (Or.inl (hw _ (List.mem_of_getElem? (i := 14) rfl))) Via.refl h84q ((s_a_WAITING hS).ext O0.2) (g := (mkF m 23 #[oI p0, oI p1, oR (a_FAILED Z), oR (fn2 Z j), oU, oU, oU] [(.ref (a_FAILED Z))])) rfl (hb hby at_23)
    obtain ⟨T86, X86, e86, st86⟩ := getS2 X85 hx hZ hown (host := "") (Or.inl (hw _ (List.mem_of_getElem? (i := 16) rfl))) Via.refl e85 ((s_a_FAILED hS).ext O0.2) (g := (mkF m 30 #[oI p0, oI p1, oR (a_FAILED Z), oR (fn2 Z j), oU, oU, oU] [(.ref (a_FAILED Z))])) rfl (hb hby at_30)
    obtain ⟨_, _, ⟨T87, L87, k87, n87⟩, -, X87, ⟨Lc87, hQ87, l87, y87, z87⟩, st87⟩ := Jvm.LawKit.callS X86 hx (y := (⟨"com/example/resumatic/resumatic/core/DecisionEngine", "decidesRequestIn", "(Lcom/example/resumatic/resumatic/core/RunState;)Z"⟩ : MethodName)) hown (mvT hZ (hw _ (List.mem_of_getElem? (i := 20) rfl))) (mvT hZ (hw _ (List.mem_of_getElem? (i := 21) rfl))) (mvT hZ (hw _ (List.mem_of_getElem? (i := 22) rfl))) (mvT hZ (hw _ (List.mem_of_getElem? (i := 23) rfl))) (by decide) (backOf (W := 0) (rm3 l Z a0 hw hS [] (a_FAILED Z) h0 n0 O0) hZ (hw _ (List.mem_of_getElem? (i := 23) rfl)) (hw _ (List.mem_of_getElem? (i := 22) rfl)) (by decide) (by decide)) (g := (mkF m 51 #[oI p0, oI p1, oR (a_FAILED Z), oR (fn2 Z j), oI (1 : Int32), oU, oU] [(.ref (a_FAILED Z))])) rfl (by rw [hml]; rfl) (argsL := [(.ref (a_FAILED Z))]) (rest := []) (lenOf pd_2 rfl) rfl (by show 2 * 0 + _ ≤ _; exact Nat.le_of_eq rfl) (hb hby at_51) (fun _ _ => ⟨rfl, e86, (by decide : 0 + 0 ≤ _), (by decide : 0 + 0 ≤ _)⟩)
    dsimp only [Pt.U, Pt.locs, Pt.cells, Pt.slots] at X87 l87 y87 z87 st87 hQ87
    subst l87 y87 z87
    obtain ⟨v87, N87q, h87q⟩ := hQ87
    have w87 : (fn3 Z (a_FAILED Z)) = (1 : Int32) := by unfold fn3; rw [if_neg ((f_a_FAILED_ordinal hS).ne (f_a_WAITING_ordinal hS) (by decide)), if_pos (rfl : (a_FAILED Z) = (a_FAILED Z))]; all_goals first | rfl | decide
    rw [w87] at v87
    subst v87
    have N87 := Fr.app N84 N87q
    obtain ⟨_, _, ⟨T88, L88, k88, n88⟩, -, X88, ⟨Lc88, hQ88, l88, y88, z88⟩, st88⟩ := Jvm.LawKit.callS X87 hx (y := (⟨"com/example/resumatic/resumatic/core/DecisionEngine", "stateAfter", "(Lcom/example/resumatic/resumatic/core/ReasonCode;)Lcom/example/resumatic/resumatic/core/RunState;"⟩ : MethodName)) hown (mvT hZ (hw _ (List.mem_of_getElem? (i := 27) rfl))) (mvT hZ (hw _ (List.mem_of_getElem? (i := 28) rfl))) (mvT hZ (hw _ (List.mem_of_getElem? (i := 22) rfl))) (mvT hZ (hw _ (List.mem_of_getElem? (i := 29) rfl))) (by decide) (backOf (W := 0) (rm4 l Z a0 hw hS [] (fn2 Z j) h0 n0 O0) hZ (hw _ (List.mem_of_getElem? (i := 29) rfl)) (hw _ (List.mem_of_getElem? (i := 22) rfl)) (by decide) (by decide)) (g := (mkF m 57 #[oI p0, oI p1, oR (a_FAILED Z), oR (fn2 Z j), oI (1 : Int32), oI (1 : Int32), oU] [(.ref (fn2 Z j))])) rfl (by rw [hml]; rfl) (argsL := [(.ref (fn2 Z j))]) (rest := []) (lenOf pd_3 rfl) rfl (by show 2 * 0 + _ ≤ _; exact Nat.le_of_eq rfl) (hb hby at_57) (fun _ _ => ⟨rfl, h87q, (by decide : 0 + 0 ≤ _), (by decide : 0 + 0 ≤ _)⟩)
    dsimp only [Pt.U, Pt.locs, Pt.cells, Pt.slots] at X88 l88 y88 z88 st88 hQ88
    subst l88 y88 z88
    obtain ⟨v88, N88q, h88q⟩ := hQ88
    subst v88
    have N88 := Fr.app N87 N88q
    obtain ⟨_, _, ⟨T89, L89, k89, n89⟩, -, X89, ⟨Lc89, hQ89, l89, y89, z89⟩, st89⟩ := Jvm.LawKit.callS X88 hx (y := (⟨"com/example/resumatic/resumatic/core/DecisionEngine", "decidesRequestIn", "(Lcom/example/resumatic/resumatic/core/RunState;)Z"⟩ : MethodName)) hown (mvT hZ (hw _ (List.mem_of_getElem? (i := 20) rfl))) (mvT hZ (hw _ (List.mem_of_getElem? (i := 21) rfl))) (mvT hZ (hw _ (List.mem_of_getElem? (i := 22) rfl))) (mvT hZ (hw _ (List.mem_of_getElem? (i := 23) rfl))) (by decide) (backOf (W := 0) (rm3 l Z a0 hw hS [] (fn4 Z (fn2 Z j)) h0 n0 O0) hZ (hw _ (List.mem_of_getElem? (i := 23) rfl)) (hw _ (List.mem_of_getElem? (i := 22) rfl)) (by decide) (by decide)) (g := (mkF m 60 #[oI p0, oI p1, oR (a_FAILED Z), oR (fn2 Z j), oI (1 : Int32), oI (1 : Int32), oU] [(.ref (fn4 Z (fn2 Z j)))])) rfl (by rw [hml]; rfl) (argsL := [(.ref (fn4 Z (fn2 Z j)))]) (rest := []) (lenOf pd_2 rfl) rfl (by show 2 * 0 + _ ≤ _; exact Nat.le_of_eq rfl) (hb hby at_60) (fun _ _ => ⟨rfl, h88q, (by decide : 0 + 0 ≤ _), (by decide : 0 + 0 ≤ _)⟩)
    dsimp only [Pt.U, Pt.locs, Pt.cells, Pt.slots] at X89 l89 y89 z89 st89 hQ89
    subst l89 y89 z89
    obtain ⟨v89, N89q, h89q⟩ := hQ89
    subst v89
    have N89 := Fr.app N88 N89q
    have pre90 : ∀ t, oP p e below T89 (mkF m 74 #[oI p0, oI p1, oR (a_FAILED Z), oR (fn2 Z j), oI (1 : Int32), oI (1 : Int32), oI (fn3 Z (fn4 Z (fn2 Z j)))] [(.int (fn3 Z (fn4 Z (fn2 Z j))))]) t → oP p e below s₁ (entryFrame m #[(.int p0), (.int p1)] maxLocals) t := fun t k => pre51 t (by
      show oP p e below s₁ (mkF m 7 #[oI p0, oI p1, oU, oU, oU, oU, oU] [(.int (3 : Int32))]) _
      refine st83 _ ?_
      show oP p e below T83 (mkF m 10 #[oI p0, oI p1, oU, oU, oU, oU, oU] [(.ref (a_FAILED Z))]) _
      refine XS.astoreN X83.here hx rfl (hb hby at_10) rfl rfl (l' := #[oI p0, oI p1, oR (a_FAILED Z), oU, oU, oU, oU]) rfl ?_
      show oP p e below T83 (mkF m 11 #[oI p0, oI p1, oR (a_FAILED Z), oU, oU, oU, oU] []) _
      refine XS.iloadN X83.here hx rfl (hb hby at_11) rfl ?_
      show oP p e below T83 (mkF m 12 #[oI p0, oI p1, oR (a_FAILED Z), oU, oU, oU, oU] [(.int p1)]) _
      refine X83.ldcInt hx hown (mvT hZ (hw _ (List.mem_of_getElem? (i := 0) rfl))) (g := (mkF m 12 #[oI p0, oI p1, oR (a_FAILED Z), oU, oU, oU, oU] [(.int p1)])) rfl (hb hby at_12) _ ?_
      show oP p e below T83 (mkF m 14 #[oI p0, oI p1, oR (a_FAILED Z), oU, oU, oU, oU] [(.int (2147483647 : Int32)), (.int p1)]) _
      refine XS.iand X83.here hx rfl (hb hby at_14) rfl ?_
      show oP p e below T83 (mkF m 15 #[oI p0, oI p1, oR (a_FAILED Z), oU, oU, oU, oU] [(.int (p1 &&& (2147483647 : Int32)))]) _
      refine XS.bipush X83.here hx rfl (hb hby at_15) ?_
      show oP p e below T83 (mkF m 17 #[oI p0, oI p1, oR (a_FAILED Z), oU, oU, oU, oU] [(.int (6 : Int32)), (.int (p1 &&& (2147483647 : Int32)))]) _
      refine XS.irem X83.here hx rfl (hb hby at_17) rfl (by decide) ?_
      show oP p e below T83 (mkF m 18 #[oI p0, oI p1, oR (a_FAILED Z), oU, oU, oU, oU] [(.int ((p1 &&& (2147483647 : Int32)) - ((p1 &&& (2147483647 : Int32)) / (6 : Int32)) * (6 : Int32)))]) _
      rw [← hj]
      show oP p e below T83 (mkF m 18 #[oI p0, oI p1, oR (a_FAILED Z), oU, oU, oU, oU] [(.int j)]) _
      refine st84 _ ?_
      show oP p e below T84 (mkF m 21 #[oI p0, oI p1, oR (a_FAILED Z), oU, oU, oU, oU] [(.ref (fn2 Z j))]) _
      refine XS.astoreN X84.here hx rfl (hb hby at_21) rfl rfl (l' := #[oI p0, oI p1, oR (a_FAILED Z), oR (fn2 Z j), oU, oU, oU]) rfl ?_
      show oP p e below T84 (mkF m 22 #[oI p0, oI p1, oR (a_FAILED Z), oR (fn2 Z j), oU, oU, oU] []) _
      refine XS.aloadN X84.here hx rfl (hb hby at_22) rfl rfl ?_
      show oP p e below T84 (mkF m 23 #[oI p0, oI p1, oR (a_FAILED Z), oR (fn2 Z j), oU, oU, oU] [(.ref (a_FAILED Z))]) _
      refine st85 _ ?_
      show oP p e below T85 (mkF m 26 #[oI p0, oI p1, oR (a_FAILED Z), oR (fn2 Z j), oU, oU, oU] [(.ref (a_WAITING Z)), (.ref (a_FAILED Z))]) _
      refine Jvm.RoadKit.acmp (g := (mkF m 26 #[oI p0, oI p1, oR (a_FAILED Z), oR (fn2 Z j), oU, oU, oU] [(.ref (a_WAITING Z)), (.ref (a_FAILED Z))])) X85 hx rfl rfl rfl (pc0 := 26) (pc' := 29) (same := false) rfl (hb hby at_26) rfl (decide_eq_false fun q => ((f_a_FAILED_ordinal hS).ne (f_a_WAITING_ordinal hS) (by decide)) (Value.ref.inj q)) (by decide) (by decide) ?_
      show oP p e below T85 (mkF m 29 #[oI p0, oI p1, oR (a_FAILED Z), oR (fn2 Z j), oU, oU, oU] []) _
      refine XS.aloadN X85.here hx rfl (hb hby at_29) rfl rfl ?_
      show oP p e below T85 (mkF m 30 #[oI p0, oI p1, oR (a_FAILED Z), oR (fn2 Z j), oU, oU, oU] [(.ref (a_FAILED Z))]) _
      refine st86 _ ?_
      show oP p e below T86 (mkF m 33 #[oI p0, oI p1, oR (a_FAILED Z), oR (fn2 Z j), oU, oU, oU] [(.ref (a_FAILED Z)), (.ref (a_FAILED Z))]) _
      refine Jvm.RoadKit.acmp (g := (mkF m 33 #[oI p0, oI p1, oR (a_FAILED Z), oR (fn2 Z j), oU, oU, oU] [(.ref (a_FAILED Z)), (.ref (a_FAILED Z))])) X86 hx rfl rfl rfl (pc0 := 33) (pc' := 43) (same := true) rfl (hb hby at_33) rfl (decide_eq_true (congrArg Value.ref (rfl : (a_FAILED Z) = (a_FAILED Z)))) (by decide) (by decide) ?_
      show oP p e below T86 (mkF m 43 #[oI p0, oI p1, oR (a_FAILED Z), oR (fn2 Z j), oU, oU, oU] []) _
      refine XS.iconst X86.here hx rfl (hb hby at_43) ?_
      show oP p e below T86 (mkF m 44 #[oI p0, oI p1, oR (a_FAILED Z), oR (fn2 Z j), oU, oU, oU] [(.int (1 : Int32))]) _
      refine XS.goto X86.here hx rfl (pc0 := 44) (pc' := 48) rfl (hb hby at_44) (by decide) (by decide) ?_
      show oP p e below T86 (mkF m 48 #[oI p0, oI p1, oR (a_FAILED Z), oR (fn2 Z j), oU, oU, oU] [(.int (1 : Int32))]) _
      refine XS.istore X86.here hx rfl (hb hby at_48) rfl (l' := #[oI p0, oI p1, oR (a_FAILED Z), oR (fn2 Z j), oI (1 : Int32), oU, oU]) rfl ?_
      show oP p e below T86 (mkF m 50 #[oI p0, oI p1, oR (a_FAILED Z), oR (fn2 Z j), oI (1 : Int32), oU, oU] []) _
      refine XS.aloadN X86.here hx rfl (hb hby at_50) rfl rfl ?_
      show oP p e below T86 (mkF m 51 #[oI p0, oI p1, oR (a_FAILED Z), oR (fn2 Z j), oI (1 : Int32), oU, oU] [(.ref (a_FAILED Z))]) _
      refine st87 _ ?_
      show oP p e below T87 (mkF m 54 #[oI p0, oI p1, oR (a_FAILED Z), oR (fn2 Z j), oI (1 : Int32), oU, oU] [(.int (1 : Int32))]) _
      refine XS.istore X87.here hx rfl (hb hby at_54) rfl (l' := #[oI p0, oI p1, oR (a_FAILED Z), oR (fn2 Z j), oI (1 : Int32), oI (1 : Int32), oU]) rfl ?_
      show oP p e below T87 (mkF m 56 #[oI p0, oI p1, oR (a_FAILED Z), oR (fn2 Z j), oI (1 : Int32), oI (1 : Int32), oU] []) _
      refine XS.aloadN X87.here hx rfl (hb hby at_56) rfl rfl ?_
      show oP p e below T87 (mkF m 57 #[oI p0, oI p1, oR (a_FAILED Z), oR (fn2 Z j), oI (1 : Int32), oI (1 : Int32), oU] [(.ref (fn2 Z j))]) _
      refine st88 _ ?_
      show oP p e below T88 (mkF m 60 #[oI p0, oI p1, oR (a_FAILED Z), oR (fn2 Z j), oI (1 : Int32), oI (1 : Int32), oU] [(.ref (fn4 Z (fn2 Z j)))]) _
      refine st89 _ ?_
      show oP p e below T89 (mkF m 63 #[oI p0, oI p1, oR (a_FAILED Z), oR (fn2 Z j), oI (1 : Int32), oI (1 : Int32), oU] [(.int (fn3 Z (fn4 Z (fn2 Z j))))]) _
      refine XS.istore X89.here hx rfl (hb hby at_63) rfl (l' := #[oI p0, oI p1, oR (a_FAILED Z), oR (fn2 Z j), oI (1 : Int32), oI (1 : Int32), oI (fn3 Z (fn4 Z (fn2 Z j)))]) rfl ?_
      show oP p e below T89 (mkF m 65 #[oI p0, oI p1, oR (a_FAILED Z), oR (fn2 Z j), oI (1 : Int32), oI (1 : Int32), oI (fn3 Z (fn4 Z (fn2 Z j)))] []) _
      refine XS.iload X89.here hx rfl (hb hby at_65) rfl ?_
      show oP p e below T89 (mkF m 67 #[oI p0, oI p1, oR (a_FAILED Z), oR (fn2 Z j), oI (1 : Int32), oI (1 : Int32), oI (fn3 Z (fn4 Z (fn2 Z j)))] [(.int (1 : Int32))]) _
      refine XS.iload X89.here hx rfl (hb hby at_67) rfl ?_
      show oP p e below T89 (mkF m 69 #[oI p0, oI p1, oR (a_FAILED Z), oR (fn2 Z j), oI (1 : Int32), oI (1 : Int32), oI (fn3 Z (fn4 Z (fn2 Z j)))] [(.int (1 : Int32)), (.int (1 : Int32))]) _
      refine XS.icmpNo X89.here hx rfl (hb hby at_69) rfl (teq (by decide : (1 : Int32) = (1 : Int32))).2 ?_
      show oP p e below T89 (mkF m 72 #[oI p0, oI p1, oR (a_FAILED Z), oR (fn2 Z j), oI (1 : Int32), oI (1 : Int32), oI (fn3 Z (fn4 Z (fn2 Z j)))] []) _
      refine XS.iload X89.here hx rfl (hb hby at_72) rfl ?_
      exact k)
    by_cases hc91 : (fn3 Z (fn4 Z (fn2 Z j))) = (0 : Int32)
    · exfalso
      exact ab92 hS j rj hc91
    · obtain ⟨fs, hr, hrun, hended, hW, hsame⟩ := X89.leave (v := some (.int (1 : Int32))) (fun h => by rw [Bd.returns] at h; cases h)
      refine ⟨_, _, pre90 _ ?_, hrun, hended, _, _, rfl, ?_, ⟨_, rfl⟩, hW, hsame.mono (by decide) (by decide)⟩
      · show oP p e below T89 (mkF m 74 #[oI p0, oI p1, oR (a_FAILED Z), oR (fn2 Z j), oI (1 : Int32), oI (1 : Int32), oI (fn3 Z (fn4 Z (fn2 Z j)))] [(.int (fn3 Z (fn4 Z (fn2 Z j))))]) _
        refine XS.ifNo X89.here hx rfl (hb hby at_74) rfl ((if0 _ _).trans (feq hc91).1) ?_
        show oP p e below T89 (mkF m 77 #[oI p0, oI p1, oR (a_FAILED Z), oR (fn2 Z j), oI (1 : Int32), oI (1 : Int32), oI (fn3 Z (fn4 Z (fn2 Z j)))] []) _
        refine XS.iconst X89.here hx rfl (hb hby at_77) ?_
        show oP p e below T89 (mkF m 78 #[oI p0, oI p1, oR (a_FAILED Z), oR (fn2 Z j), oI (1 : Int32), oI (1 : Int32), oI (fn3 Z (fn4 Z (fn2 Z j)))] [(.int (1 : Int32))]) _
        refine XS.goto X89.here hx rfl (pc0 := 78) (pc' := 82) rfl (hb hby at_78) (by decide) (by decide) ?_
        show oP p e below T89 (mkF m 82 #[oI p0, oI p1, oR (a_FAILED Z), oR (fn2 Z j), oI (1 : Int32), oI (1 : Int32), oI (fn3 Z (fn4 Z (fn2 Z j)))] [(.int (1 : Int32))]) _
        exact retN X89 hx (t := .boolean) Bd.returns (by simp) (hb hby at_82) hr
      · show (some (.int (1 : Int32)) : Option Value) = some (.int (1 : Int32)) ∧ Fr n0 _ ∧ T89.heap = h0
        rw [h89q]
        exact ⟨rfl, N89, rfl⟩
  · obtain ⟨_, _, ⟨T93, L93, k93, n93⟩, -, X93, ⟨Lc93, hQ93, l93, y93, z93⟩, st93⟩ := Jvm.LawKit.callS X0 hx (y := (⟨"com/example/resumatic/resumatic/core/DecisionEngineDecidesRequestInPinLaw", "stateOf", "(I)Lcom/example/resumatic/resumatic/core/RunState;"⟩ : MethodName)) hown (mvT hZ (hw _ (List.mem_of_getElem? (i := 1) rfl))) (mvT hZ (hw _ (List.mem_of_getElem? (i := 2) rfl))) (mvT hZ (hw _ (List.mem_of_getElem? (i := 3) rfl))) (mvT hZ (hw _ (List.mem_of_getElem? (i := 4) rfl))) (by decide) (backOf (W := 0) (rm1 l Z a0 hw hS [] (4 : Int32) h0 n0 O0) hZ (hw _ (List.mem_of_getElem? (i := 4) rfl)) (hw _ (List.mem_of_getElem? (i := 3) rfl)) (by decide) (by decide)) (g := (mkF m 7 #[oI p0, oI p1, oU, oU, oU, oU, oU] [(.int (4 : Int32))])) rfl (by rw [hml]; rfl) (argsL := [(.int (4 : Int32))]) (rest := []) (lenOf pd_0 rfl) rfl (by show 2 * 0 + _ ≤ _; exact Nat.le_of_eq rfl) (hb hby at_7) (fun _ _ => ⟨rfl, e0, (by decide : 0 + 0 ≤ _), (by decide : 0 + 0 ≤ _)⟩)
    dsimp only [Pt.U, Pt.locs, Pt.cells, Pt.slots] at X93 l93 y93 z93 st93 hQ93
    subst l93 y93 z93
    obtain ⟨v93, N93q, h93q⟩ := hQ93
    have w93 : (fn1 Z (4 : Int32)) = (a_RESUME_ESCALATED Z) := by unfold fn1; rw [if_neg (by decide : ¬ ((4 : Int32) = (0 : Int32))), if_neg (by decide : ¬ ((4 : Int32) = (1 : Int32))), if_neg (by decide : ¬ ((4 : Int32) = (2 : Int32))), if_neg (by decide : ¬ ((4 : Int32) = (3 : Int32))), if_pos (by decide : (4 : Int32) = (4 : Int32))]; all_goals first | rfl | decide
    rw [w93] at v93
    subst v93
    have N93 := Fr.app N0 N93q
    obtain ⟨j, hj⟩ : ∃ z, z = ((p1 &&& (2147483647 : Int32)) - ((p1 &&& (2147483647 : Int32)) / (6 : Int32)) * (6 : Int32)) := ⟨_, rfl⟩
    have rj : j = (0 : Int32) ∨ j = (1 : Int32) ∨ j = (2 : Int32) ∨ j = (3 : Int32) ∨ j = (4 : Int32) ∨ j = (5 : Int32) := by rw [hj]; exact rng_rem6 p1
    obtain ⟨_, _, ⟨T94, L94, k94, n94⟩, -, X94, ⟨Lc94, hQ94, l94, y94, z94⟩, st94⟩ := Jvm.LawKit.callS X93 hx (y := (⟨"com/example/resumatic/resumatic/core/DecisionEngineDecidesRequestInPinLaw", "codeOf", "(I)Lcom/example/resumatic/resumatic/core/ReasonCode;"⟩ : MethodName)) hown (mvT hZ (hw _ (List.mem_of_getElem? (i := 8) rfl))) (mvT hZ (hw _ (List.mem_of_getElem? (i := 9) rfl))) (mvT hZ (hw _ (List.mem_of_getElem? (i := 3) rfl))) (mvT hZ (hw _ (List.mem_of_getElem? (i := 10) rfl))) (by decide) (backOf (W := 0) (rm2 l Z a0 hw hS [] j h0 n0 O0) hZ (hw _ (List.mem_of_getElem? (i := 10) rfl)) (hw _ (List.mem_of_getElem? (i := 3) rfl)) (by decide) (by decide)) (g := (mkF m 18 #[oI p0, oI p1, oR (a_RESUME_ESCALATED Z), oU, oU, oU, oU] [(.int j)])) rfl (by rw [hml]; rfl) (argsL := [(.int j)]) (rest := []) (lenOf pd_1 rfl) rfl (by show 2 * 0 + _ ≤ _; exact Nat.le_of_eq rfl) (hb hby at_18) (fun _ _ => ⟨rfl, h93q, (by decide : 0 + 0 ≤ _), (by decide : 0 + 0 ≤ _)⟩)
    dsimp only [Pt.U, Pt.locs, Pt.cells, Pt.slots] at X94 l94 y94 z94 st94 hQ94
    subst l94 y94 z94
    obtain ⟨v94, N94q, h94q⟩ := hQ94
    subst v94
    have N94 := Fr.app N93 N94q
    obtain ⟨T95, X95, e95, st95⟩ := getS2 X94 hx hZ hown (host := "") (Or.inl (hw _ (List.mem_of_getElem? (i := 14) rfl))) Via.refl h94q ((s_a_WAITING hS).ext O0.2) (g := (mkF m 23 #[oI p0, oI p1, oR (a_RESUME_ESCALATED Z), oR (fn2 Z j), oU, oU, oU] [(.ref (a_RESUME_ESCALATED Z))])) rfl (hb hby at_23)
    obtain ⟨T96, X96, e96, st96⟩ := getS2 X95 hx hZ hown (host := "") (Or.inl (hw _ (List.mem_of_getElem? (i := 16) rfl))) Via.refl e95 ((s_a_FAILED hS).ext O0.2) (g := (mkF m 30 #[oI p0, oI p1, oR (a_RESUME_ESCALATED Z), oR (fn2 Z j), oU, oU, oU] [(.ref (a_RESUME_ESCALATED Z))])) rfl (hb hby at_30)
    obtain ⟨T97, X97, e97, st97⟩ := getS2 X96 hx hZ hown (host := "") (Or.inl (hw _ (List.mem_of_getElem? (i := 18) rfl))) Via.refl e96 ((s_a_RESUME_ESCALATED hS).ext O0.2) (g := (mkF m 37 #[oI p0, oI p1, oR (a_RESUME_ESCALATED Z), oR (fn2 Z j), oU, oU, oU] [(.ref (a_RESUME_ESCALATED Z))])) rfl (hb hby at_37)
    obtain ⟨_, _, ⟨T98, L98, k98, n98⟩, -, X98, ⟨Lc98, hQ98, l98, y98, z98⟩, st98⟩ := Jvm.LawKit.callS X97 hx (y := (⟨"com/example/resumatic/resumatic/core/DecisionEngine", "decidesRequestIn", "(Lcom/example/resumatic/resumatic/core/RunState;)Z"⟩ : MethodName)) hown (mvT hZ (hw _ (List.mem_of_getElem? (i := 20) rfl))) (mvT hZ (hw _ (List.mem_of_getElem? (i := 21) rfl))) (mvT hZ (hw _ (List.mem_of_getElem? (i := 22) rfl))) (mvT hZ (hw _ (List.mem_of_getElem? (i := 23) rfl))) (by decide) (backOf (W := 0) (rm3 l Z a0 hw hS [] (a_RESUME_ESCALATED Z) h0 n0 O0) hZ (hw _ (List.mem_of_getElem? (i := 23) rfl)) (hw _ (List.mem_of_getElem? (i := 22) rfl)) (by decide) (by decide)) (g := (mkF m 51 #[oI p0, oI p1, oR (a_RESUME_ESCALATED Z), oR (fn2 Z j), oI (1 : Int32), oU, oU] [(.ref (a_RESUME_ESCALATED Z))])) rfl (by rw [hml]; rfl) (argsL := [(.ref (a_RESUME_ESCALATED Z))]) (rest := []) (lenOf pd_2 rfl) rfl (by show 2 * 0 + _ ≤ _; exact Nat.le_of_eq rfl) (hb hby at_51) (fun _ _ => ⟨rfl, e97, (by decide : 0 + 0 ≤ _), (by decide : 0 + 0 ≤ _)⟩)
    dsimp only [Pt.U, Pt.locs, Pt.cells, Pt.slots] at X98 l98 y98 z98 st98 hQ98
    subst l98 y98 z98
    obtain ⟨v98, N98q, h98q⟩ := hQ98
    have w98 : (fn3 Z (a_RESUME_ESCALATED Z)) = (1 : Int32) := by unfold fn3; rw [if_neg ((f_a_RESUME_ESCALATED_ordinal hS).ne (f_a_WAITING_ordinal hS) (by decide)), if_neg ((f_a_RESUME_ESCALATED_ordinal hS).ne (f_a_FAILED_ordinal hS) (by decide)), if_pos (rfl : (a_RESUME_ESCALATED Z) = (a_RESUME_ESCALATED Z))]; all_goals first | rfl | decide
    rw [w98] at v98
    subst v98
    have N98 := Fr.app N94 N98q
    obtain ⟨_, _, ⟨T99, L99, k99, n99⟩, -, X99, ⟨Lc99, hQ99, l99, y99, z99⟩, st99⟩ := Jvm.LawKit.callS X98 hx (y := (⟨"com/example/resumatic/resumatic/core/DecisionEngine", "stateAfter", "(Lcom/example/resumatic/resumatic/core/ReasonCode;)Lcom/example/resumatic/resumatic/core/RunState;"⟩ : MethodName)) hown (mvT hZ (hw _ (List.mem_of_getElem? (i := 27) rfl))) (mvT hZ (hw _ (List.mem_of_getElem? (i := 28) rfl))) (mvT hZ (hw _ (List.mem_of_getElem? (i := 22) rfl))) (mvT hZ (hw _ (List.mem_of_getElem? (i := 29) rfl))) (by decide) (backOf (W := 0) (rm4 l Z a0 hw hS [] (fn2 Z j) h0 n0 O0) hZ (hw _ (List.mem_of_getElem? (i := 29) rfl)) (hw _ (List.mem_of_getElem? (i := 22) rfl)) (by decide) (by decide)) (g := (mkF m 57 #[oI p0, oI p1, oR (a_RESUME_ESCALATED Z), oR (fn2 Z j), oI (1 : Int32), oI (1 : Int32), oU] [(.ref (fn2 Z j))])) rfl (by rw [hml]; rfl) (argsL := [(.ref (fn2 Z j))]) (rest := []) (lenOf pd_3 rfl) rfl (by show 2 * 0 + _ ≤ _; exact Nat.le_of_eq rfl) (hb hby at_57) (fun _ _ => ⟨rfl, h98q, (by decide : 0 + 0 ≤ _), (by decide : 0 + 0 ≤ _)⟩)
    dsimp only [Pt.U, Pt.locs, Pt.cells, Pt.slots] at X99 l99 y99 z99 st99 hQ99
    subst l99 y99 z99
    obtain ⟨v99, N99q, h99q⟩ := hQ99
    subst v99
    have N99 := Fr.app N98 N99q
    obtain ⟨_, _, ⟨T100, L100, k100, n100⟩, -, X100, ⟨Lc100, hQ100, l100, y100, z100⟩, st100⟩ := Jvm.LawKit.callS X99 hx (y := (⟨"com/example/resumatic/resumatic/core/DecisionEngine", "decidesRequestIn", "(Lcom/example/resumatic/resumatic/core/RunState;)Z"⟩ : MethodName)) hown (mvT hZ (hw _ (List.mem_of_getElem? (i := 20) rfl))) (mvT hZ (hw _ (List.mem_of_getElem? (i := 21) rfl))) (mvT hZ (hw _ (List.mem_of_getElem? (i := 22) rfl))) (mvT hZ (hw _ (List.mem_of_getElem? (i := 23) rfl))) (by decide) (backOf (W := 0) (rm3 l Z a0 hw hS [] (fn4 Z (fn2 Z j)) h0 n0 O0) hZ (hw _ (List.mem_of_getElem? (i := 23) rfl)) (hw _ (List.mem_of_getElem? (i := 22) rfl)) (by decide) (by decide)) (g := (mkF m 60 #[oI p0, oI p1, oR (a_RESUME_ESCALATED Z), oR (fn2 Z j), oI (1 : Int32), oI (1 : Int32), oU] [(.ref (fn4 Z (fn2 Z j)))])) rfl (by rw [hml]; rfl) (argsL := [(.ref (fn4 Z (fn2 Z j)))]) (rest := []) (lenOf pd_2 rfl) rfl (by show 2 * 0 + _ ≤ _; exact Nat.le_of_eq rfl) (hb hby at_60) (fun _ _ => ⟨rfl, h99q, (by decide : 0 + 0 ≤ _), (by decide : 0 + 0 ≤ _)⟩)
    dsimp only [Pt.U, Pt.locs, Pt.cells, Pt.slots] at X100 l100 y100 z100 st100 hQ100
    subst l100 y100 z100
    obtain ⟨v100, N100q, h100q⟩ := hQ100
    subst v100
    have N100 := Fr.app N99 N100q
    have pre101 : ∀ t, oP p e below T100 (mkF m 74 #[oI p0, oI p1, oR (a_RESUME_ESCALATED Z), oR (fn2 Z j), oI (1 : Int32), oI (1 : Int32), oI (fn3 Z (fn4 Z (fn2 Z j)))] [(.int (fn3 Z (fn4 Z (fn2 Z j))))]) t → oP p e below s₁ (entryFrame m #[(.int p0), (.int p1)] maxLocals) t := fun t k => pre51 t (by
      show oP p e below s₁ (mkF m 7 #[oI p0, oI p1, oU, oU, oU, oU, oU] [(.int (4 : Int32))]) _
      refine st93 _ ?_
      show oP p e below T93 (mkF m 10 #[oI p0, oI p1, oU, oU, oU, oU, oU] [(.ref (a_RESUME_ESCALATED Z))]) _
      refine XS.astoreN X93.here hx rfl (hb hby at_10) rfl rfl (l' := #[oI p0, oI p1, oR (a_RESUME_ESCALATED Z), oU, oU, oU, oU]) rfl ?_
      show oP p e below T93 (mkF m 11 #[oI p0, oI p1, oR (a_RESUME_ESCALATED Z), oU, oU, oU, oU] []) _
      refine XS.iloadN X93.here hx rfl (hb hby at_11) rfl ?_
      show oP p e below T93 (mkF m 12 #[oI p0, oI p1, oR (a_RESUME_ESCALATED Z), oU, oU, oU, oU] [(.int p1)]) _
      refine X93.ldcInt hx hown (mvT hZ (hw _ (List.mem_of_getElem? (i := 0) rfl))) (g := (mkF m 12 #[oI p0, oI p1, oR (a_RESUME_ESCALATED Z), oU, oU, oU, oU] [(.int p1)])) rfl (hb hby at_12) _ ?_
      show oP p e below T93 (mkF m 14 #[oI p0, oI p1, oR (a_RESUME_ESCALATED Z), oU, oU, oU, oU] [(.int (2147483647 : Int32)), (.int p1)]) _
      refine XS.iand X93.here hx rfl (hb hby at_14) rfl ?_
      show oP p e below T93 (mkF m 15 #[oI p0, oI p1, oR (a_RESUME_ESCALATED Z), oU, oU, oU, oU] [(.int (p1 &&& (2147483647 : Int32)))]) _
      refine XS.bipush X93.here hx rfl (hb hby at_15) ?_
      show oP p e below T93 (mkF m 17 #[oI p0, oI p1, oR (a_RESUME_ESCALATED Z), oU, oU, oU, oU] [(.int (6 : Int32)), (.int (p1 &&& (2147483647 : Int32)))]) _
      refine XS.irem X93.here hx rfl (hb hby at_17) rfl (by decide) ?_
      show oP p e below T93 (mkF m 18 #[oI p0, oI p1, oR (a_RESUME_ESCALATED Z), oU, oU, oU, oU] [(.int ((p1 &&& (2147483647 : Int32)) - ((p1 &&& (2147483647 : Int32)) / (6 : Int32)) * (6 : Int32)))]) _
      rw [← hj]
      show oP p e below T93 (mkF m 18 #[oI p0, oI p1, oR (a_RESUME_ESCALATED Z), oU, oU, oU, oU] [(.int j)]) _
      refine st94 _ ?_
      show oP p e below T94 (mkF m 21 #[oI p0, oI p1, oR (a_RESUME_ESCALATED Z), oU, oU, oU, oU] [(.ref (fn2 Z j))]) _
      refine XS.astoreN X94.here hx rfl (hb hby at_21) rfl rfl (l' := #[oI p0, oI p1, oR (a_RESUME_ESCALATED Z), oR (fn2 Z j), oU, oU, oU]) rfl ?_
      show oP p e below T94 (mkF m 22 #[oI p0, oI p1, oR (a_RESUME_ESCALATED Z), oR (fn2 Z j), oU, oU, oU] []) _
      refine XS.aloadN X94.here hx rfl (hb hby at_22) rfl rfl ?_
      show oP p e below T94 (mkF m 23 #[oI p0, oI p1, oR (a_RESUME_ESCALATED Z), oR (fn2 Z j), oU, oU, oU] [(.ref (a_RESUME_ESCALATED Z))]) _
      refine st95 _ ?_
      show oP p e below T95 (mkF m 26 #[oI p0, oI p1, oR (a_RESUME_ESCALATED Z), oR (fn2 Z j), oU, oU, oU] [(.ref (a_WAITING Z)), (.ref (a_RESUME_ESCALATED Z))]) _
      refine Jvm.RoadKit.acmp (g := (mkF m 26 #[oI p0, oI p1, oR (a_RESUME_ESCALATED Z), oR (fn2 Z j), oU, oU, oU] [(.ref (a_WAITING Z)), (.ref (a_RESUME_ESCALATED Z))])) X95 hx rfl rfl rfl (pc0 := 26) (pc' := 29) (same := false) rfl (hb hby at_26) rfl (decide_eq_false fun q => ((f_a_RESUME_ESCALATED_ordinal hS).ne (f_a_WAITING_ordinal hS) (by decide)) (Value.ref.inj q)) (by decide) (by decide) ?_
      show oP p e below T95 (mkF m 29 #[oI p0, oI p1, oR (a_RESUME_ESCALATED Z), oR (fn2 Z j), oU, oU, oU] []) _
      refine XS.aloadN X95.here hx rfl (hb hby at_29) rfl rfl ?_
      show oP p e below T95 (mkF m 30 #[oI p0, oI p1, oR (a_RESUME_ESCALATED Z), oR (fn2 Z j), oU, oU, oU] [(.ref (a_RESUME_ESCALATED Z))]) _
      refine st96 _ ?_
      show oP p e below T96 (mkF m 33 #[oI p0, oI p1, oR (a_RESUME_ESCALATED Z), oR (fn2 Z j), oU, oU, oU] [(.ref (a_FAILED Z)), (.ref (a_RESUME_ESCALATED Z))]) _
      refine Jvm.RoadKit.acmp (g := (mkF m 33 #[oI p0, oI p1, oR (a_RESUME_ESCALATED Z), oR (fn2 Z j), oU, oU, oU] [(.ref (a_FAILED Z)), (.ref (a_RESUME_ESCALATED Z))])) X96 hx rfl rfl rfl (pc0 := 33) (pc' := 36) (same := false) rfl (hb hby at_33) rfl (decide_eq_false fun q => ((f_a_RESUME_ESCALATED_ordinal hS).ne (f_a_FAILED_ordinal hS) (by decide)) (Value.ref.inj q)) (by decide) (by decide) ?_
      show oP p e below T96 (mkF m 36 #[oI p0, oI p1, oR (a_RESUME_ESCALATED Z), oR (fn2 Z j), oU, oU, oU] []) _
      refine XS.aloadN X96.here hx rfl (hb hby at_36) rfl rfl ?_
      show oP p e below T96 (mkF m 37 #[oI p0, oI p1, oR (a_RESUME_ESCALATED Z), oR (fn2 Z j), oU, oU, oU] [(.ref (a_RESUME_ESCALATED Z))]) _
      refine st97 _ ?_
      show oP p e below T97 (mkF m 40 #[oI p0, oI p1, oR (a_RESUME_ESCALATED Z), oR (fn2 Z j), oU, oU, oU] [(.ref (a_RESUME_ESCALATED Z)), (.ref (a_RESUME_ESCALATED Z))]) _
      refine Jvm.RoadKit.acmp (g := (mkF m 40 #[oI p0, oI p1, oR (a_RESUME_ESCALATED Z), oR (fn2 Z j), oU, oU, oU] [(.ref (a_RESUME_ESCALATED Z)), (.ref (a_RESUME_ESCALATED Z))])) X97 hx rfl rfl rfl (pc0 := 40) (pc' := 43) (same := true) rfl (hb hby at_40) rfl (decide_eq_true (congrArg Value.ref (rfl : (a_RESUME_ESCALATED Z) = (a_RESUME_ESCALATED Z)))) (by decide) (by decide) ?_
      show oP p e below T97 (mkF m 43 #[oI p0, oI p1, oR (a_RESUME_ESCALATED Z), oR (fn2 Z j), oU, oU, oU] []) _
      refine XS.iconst X97.here hx rfl (hb hby at_43) ?_
      show oP p e below T97 (mkF m 44 #[oI p0, oI p1, oR (a_RESUME_ESCALATED Z), oR (fn2 Z j), oU, oU, oU] [(.int (1 : Int32))]) _
      refine XS.goto X97.here hx rfl (pc0 := 44) (pc' := 48) rfl (hb hby at_44) (by decide) (by decide) ?_
      show oP p e below T97 (mkF m 48 #[oI p0, oI p1, oR (a_RESUME_ESCALATED Z), oR (fn2 Z j), oU, oU, oU] [(.int (1 : Int32))]) _
      refine XS.istore X97.here hx rfl (hb hby at_48) rfl (l' := #[oI p0, oI p1, oR (a_RESUME_ESCALATED Z), oR (fn2 Z j), oI (1 : Int32), oU, oU]) rfl ?_
      show oP p e below T97 (mkF m 50 #[oI p0, oI p1, oR (a_RESUME_ESCALATED Z), oR (fn2 Z j), oI (1 : Int32), oU, oU] []) _
      refine XS.aloadN X97.here hx rfl (hb hby at_50) rfl rfl ?_
      show oP p e below T97 (mkF m 51 #[oI p0, oI p1, oR (a_RESUME_ESCALATED Z), oR (fn2 Z j), oI (1 : Int32), oU, oU] [(.ref (a_RESUME_ESCALATED Z))]) _
      refine st98 _ ?_
      show oP p e below T98 (mkF m 54 #[oI p0, oI p1, oR (a_RESUME_ESCALATED Z), oR (fn2 Z j), oI (1 : Int32), oU, oU] [(.int (1 : Int32))]) _
      refine XS.istore X98.here hx rfl (hb hby at_54) rfl (l' := #[oI p0, oI p1, oR (a_RESUME_ESCALATED Z), oR (fn2 Z j), oI (1 : Int32), oI (1 : Int32), oU]) rfl ?_
      show oP p e below T98 (mkF m 56 #[oI p0, oI p1, oR (a_RESUME_ESCALATED Z), oR (fn2 Z j), oI (1 : Int32), oI (1 : Int32), oU] []) _
      refine XS.aloadN X98.here hx rfl (hb hby at_56) rfl rfl ?_
      show oP p e below T98 (mkF m 57 #[oI p0, oI p1, oR (a_RESUME_ESCALATED Z), oR (fn2 Z j), oI (1 : Int32), oI (1 : Int32), oU] [(.ref (fn2 Z j))]) _
      refine st99 _ ?_
      show oP p e below T99 (mkF m 60 #[oI p0, oI p1, oR (a_RESUME_ESCALATED Z), oR (fn2 Z j), oI (1 : Int32), oI (1 : Int32), oU] [(.ref (fn4 Z (fn2 Z j)))]) _
      refine st100 _ ?_
      show oP p e below T100 (mkF m 63 #[oI p0, oI p1, oR (a_RESUME_ESCALATED Z), oR (fn2 Z j), oI (1 : Int32), oI (1 : Int32), oU] [(.int (fn3 Z (fn4 Z (fn2 Z j))))]) _
      refine XS.istore X100.here hx rfl (hb hby at_63) rfl (l' := #[oI p0, oI p1, oR (a_RESUME_ESCALATED Z), oR (fn2 Z j), oI (1 : Int32), oI (1 : Int32), oI (fn3 Z (fn4 Z (fn2 Z j)))]) rfl ?_
      show oP p e below T100 (mkF m 65 #[oI p0, oI p1, oR (a_RESUME_ESCALATED Z), oR (fn2 Z j), oI (1 : Int32), oI (1 : Int32), oI (fn3 Z (fn4 Z (fn2 Z j)))] []) _
      refine XS.iload X100.here hx rfl (hb hby at_65) rfl ?_
      show oP p e below T100 (mkF m 67 #[oI p0, oI p1, oR (a_RESUME_ESCALATED Z), oR (fn2 Z j), oI (1 : Int32), oI (1 : Int32), oI (fn3 Z (fn4 Z (fn2 Z j)))] [(.int (1 : Int32))]) _
      refine XS.iload X100.here hx rfl (hb hby at_67) rfl ?_
      show oP p e below T100 (mkF m 69 #[oI p0, oI p1, oR (a_RESUME_ESCALATED Z), oR (fn2 Z j), oI (1 : Int32), oI (1 : Int32), oI (fn3 Z (fn4 Z (fn2 Z j)))] [(.int (1 : Int32)), (.int (1 : Int32))]) _
      refine XS.icmpNo X100.here hx rfl (hb hby at_69) rfl (teq (by decide : (1 : Int32) = (1 : Int32))).2 ?_
      show oP p e below T100 (mkF m 72 #[oI p0, oI p1, oR (a_RESUME_ESCALATED Z), oR (fn2 Z j), oI (1 : Int32), oI (1 : Int32), oI (fn3 Z (fn4 Z (fn2 Z j)))] []) _
      refine XS.iload X100.here hx rfl (hb hby at_72) rfl ?_
      exact k)
    by_cases hc102 : (fn3 Z (fn4 Z (fn2 Z j))) = (0 : Int32)
    · exfalso
      exact ab103 hS j rj hc102
    · obtain ⟨fs, hr, hrun, hended, hW, hsame⟩ := X100.leave (v := some (.int (1 : Int32))) (fun h => by rw [Bd.returns] at h; cases h)
      refine ⟨_, _, pre101 _ ?_, hrun, hended, _, _, rfl, ?_, ⟨_, rfl⟩, hW, hsame.mono (by decide) (by decide)⟩
      · show oP p e below T100 (mkF m 74 #[oI p0, oI p1, oR (a_RESUME_ESCALATED Z), oR (fn2 Z j), oI (1 : Int32), oI (1 : Int32), oI (fn3 Z (fn4 Z (fn2 Z j)))] [(.int (fn3 Z (fn4 Z (fn2 Z j))))]) _
        refine XS.ifNo X100.here hx rfl (hb hby at_74) rfl ((if0 _ _).trans (feq hc102).1) ?_
        show oP p e below T100 (mkF m 77 #[oI p0, oI p1, oR (a_RESUME_ESCALATED Z), oR (fn2 Z j), oI (1 : Int32), oI (1 : Int32), oI (fn3 Z (fn4 Z (fn2 Z j)))] []) _
        refine XS.iconst X100.here hx rfl (hb hby at_77) ?_
        show oP p e below T100 (mkF m 78 #[oI p0, oI p1, oR (a_RESUME_ESCALATED Z), oR (fn2 Z j), oI (1 : Int32), oI (1 : Int32), oI (fn3 Z (fn4 Z (fn2 Z j)))] [(.int (1 : Int32))]) _
        refine XS.goto X100.here hx rfl (pc0 := 78) (pc' := 82) rfl (hb hby at_78) (by decide) (by decide) ?_
        show oP p e below T100 (mkF m 82 #[oI p0, oI p1, oR (a_RESUME_ESCALATED Z), oR (fn2 Z j), oI (1 : Int32), oI (1 : Int32), oI (fn3 Z (fn4 Z (fn2 Z j)))] [(.int (1 : Int32))]) _
        exact retN X100 hx (t := .boolean) Bd.returns (by simp) (hb hby at_82) hr
      · show (some (.int (1 : Int32)) : Option Value) = some (.int (1 : Int32)) ∧ Fr n0 _ ∧ T100.heap = h0
        rw [h100q]
        exact ⟨rfl, N100, rfl⟩
  · obtain ⟨_, _, ⟨T104, L104, k104, n104⟩, -, X104, ⟨Lc104, hQ104, l104, y104, z104⟩, st104⟩ := Jvm.LawKit.callS X0 hx (y := (⟨"com/example/resumatic/resumatic/core/DecisionEngineDecidesRequestInPinLaw", "stateOf", "(I)Lcom/example/resumatic/resumatic/core/RunState;"⟩ : MethodName)) hown (mvT hZ (hw _ (List.mem_of_getElem? (i := 1) rfl))) (mvT hZ (hw _ (List.mem_of_getElem? (i := 2) rfl))) (mvT hZ (hw _ (List.mem_of_getElem? (i := 3) rfl))) (mvT hZ (hw _ (List.mem_of_getElem? (i := 4) rfl))) (by decide) (backOf (W := 0) (rm1 l Z a0 hw hS [] (5 : Int32) h0 n0 O0) hZ (hw _ (List.mem_of_getElem? (i := 4) rfl)) (hw _ (List.mem_of_getElem? (i := 3) rfl)) (by decide) (by decide)) (g := (mkF m 7 #[oI p0, oI p1, oU, oU, oU, oU, oU] [(.int (5 : Int32))])) rfl (by rw [hml]; rfl) (argsL := [(.int (5 : Int32))]) (rest := []) (lenOf pd_0 rfl) rfl (by show 2 * 0 + _ ≤ _; exact Nat.le_of_eq rfl) (hb hby at_7) (fun _ _ => ⟨rfl, e0, (by decide : 0 + 0 ≤ _), (by decide : 0 + 0 ≤ _)⟩)
    dsimp only [Pt.U, Pt.locs, Pt.cells, Pt.slots] at X104 l104 y104 z104 st104 hQ104
    subst l104 y104 z104
    obtain ⟨v104, N104q, h104q⟩ := hQ104
    have w104 : (fn1 Z (5 : Int32)) = (a_COMPLETED Z) := by unfold fn1; rw [if_neg (by decide : ¬ ((5 : Int32) = (0 : Int32))), if_neg (by decide : ¬ ((5 : Int32) = (1 : Int32))), if_neg (by decide : ¬ ((5 : Int32) = (2 : Int32))), if_neg (by decide : ¬ ((5 : Int32) = (3 : Int32))), if_neg (by decide : ¬ ((5 : Int32) = (4 : Int32)))]; all_goals first | rfl | decide
    rw [w104] at v104
    subst v104
    have N104 := Fr.app N0 N104q
    obtain ⟨j, hj⟩ : ∃ z, z = ((p1 &&& (2147483647 : Int32)) - ((p1 &&& (2147483647 : Int32)) / (6 : Int32)) * (6 : Int32)) := ⟨_, rfl⟩
    have rj : j = (0 : Int32) ∨ j = (1 : Int32) ∨ j = (2 : Int32) ∨ j = (3 : Int32) ∨ j = (4 : Int32) ∨ j = (5 : Int32) := by rw [hj]; exact rng_rem6 p1
    obtain ⟨_, _, ⟨T105, L105, k105, n105⟩, -, X105, ⟨Lc105, hQ105, l105, y105, z105⟩, st105⟩ := Jvm.LawKit.callS X104 hx (y := (⟨"com/example/resumatic/resumatic/core/DecisionEngineDecidesRequestInPinLaw", "codeOf", "(I)Lcom/example/resumatic/resumatic/core/ReasonCode;"⟩ : MethodName)) hown (mvT hZ (hw _ (List.mem_of_getElem? (i := 8) rfl))) (mvT hZ (hw _ (List.mem_of_getElem? (i := 9) rfl))) (mvT hZ (hw _ (List.mem_of_getElem? (i := 3) rfl))) (mvT hZ (hw _ (List.mem_of_getElem? (i := 10) rfl))) (by decide) (backOf (W := 0) (rm2 l Z a0 hw hS [] j h0 n0 O0) hZ (hw _ (List.mem_of_getElem? (i := 10) rfl)) (hw _ (List.mem_of_getElem? (i := 3) rfl)) (by decide) (by decide)) (g := (mkF m 18 #[oI p0, oI p1, oR (a_COMPLETED Z), oU, oU, oU, oU] [(.int j)])) rfl (by rw [hml]; rfl) (argsL := [(.int j)]) (rest := []) (lenOf pd_1 rfl) rfl (by show 2 * 0 + _ ≤ _; exact Nat.le_of_eq rfl) (hb hby at_18) (fun _ _ => ⟨rfl, h104q, (by decide : 0 + 0 ≤ _), (by decide : 0 + 0 ≤ _)⟩)
    dsimp only [Pt.U, Pt.locs, Pt.cells, Pt.slots] at X105 l105 y105 z105 st105 hQ105
    subst l105 y105 z105
    obtain ⟨v105, N105q, h105q⟩ := hQ105
    subst v105
    have N105 := Fr.app N104 N105q
    obtain ⟨T106, X106, e106, st106⟩ := getS2 X105 hx hZ hown (host := "") (Or.inl (hw _ (List.mem_of_getElem? (i := 14) rfl))) Via.refl h105q ((s_a_WAITING hS).ext O0.2) (g := (mkF m 23 #[oI p0, oI p1, oR (a_COMPLETED Z), oR (fn2 Z j), oU, oU, oU] [(.ref (a_COMPLETED Z))])) rfl (hb hby at_23)
    obtain ⟨T107, X107, e107, st107⟩ := getS2 X106 hx hZ hown (host := "") (Or.inl (hw _ (List.mem_of_getElem? (i := 16) rfl))) Via.refl e106 ((s_a_FAILED hS).ext O0.2) (g := (mkF m 30 #[oI p0, oI p1, oR (a_COMPLETED Z), oR (fn2 Z j), oU, oU, oU] [(.ref (a_COMPLETED Z))])) rfl (hb hby at_30)
    obtain ⟨T108, X108, e108, st108⟩ := getS2 X107 hx hZ hown (host := "") (Or.inl (hw _ (List.mem_of_getElem? (i := 18) rfl))) Via.refl e107 ((s_a_RESUME_ESCALATED hS).ext O0.2) (g := (mkF m 37 #[oI p0, oI p1, oR (a_COMPLETED Z), oR (fn2 Z j), oU, oU, oU] [(.ref (a_COMPLETED Z))])) rfl (hb hby at_37)
    obtain ⟨_, _, ⟨T109, L109, k109, n109⟩, -, X109, ⟨Lc109, hQ109, l109, y109, z109⟩, st109⟩ := Jvm.LawKit.callS X108 hx (y := (⟨"com/example/resumatic/resumatic/core/DecisionEngine", "decidesRequestIn", "(Lcom/example/resumatic/resumatic/core/RunState;)Z"⟩ : MethodName)) hown (mvT hZ (hw _ (List.mem_of_getElem? (i := 20) rfl))) (mvT hZ (hw _ (List.mem_of_getElem? (i := 21) rfl))) (mvT hZ (hw _ (List.mem_of_getElem? (i := 22) rfl))) (mvT hZ (hw _ (List.mem_of_getElem? (i := 23) rfl))) (by decide) (backOf (W := 0) (rm3 l Z a0 hw hS [] (a_COMPLETED Z) h0 n0 O0) hZ (hw _ (List.mem_of_getElem? (i := 23) rfl)) (hw _ (List.mem_of_getElem? (i := 22) rfl)) (by decide) (by decide)) (g := (mkF m 51 #[oI p0, oI p1, oR (a_COMPLETED Z), oR (fn2 Z j), oI (0 : Int32), oU, oU] [(.ref (a_COMPLETED Z))])) rfl (by rw [hml]; rfl) (argsL := [(.ref (a_COMPLETED Z))]) (rest := []) (lenOf pd_2 rfl) rfl (by show 2 * 0 + _ ≤ _; exact Nat.le_of_eq rfl) (hb hby at_51) (fun _ _ => ⟨rfl, e108, (by decide : 0 + 0 ≤ _), (by decide : 0 + 0 ≤ _)⟩)
    dsimp only [Pt.U, Pt.locs, Pt.cells, Pt.slots] at X109 l109 y109 z109 st109 hQ109
    subst l109 y109 z109
    obtain ⟨v109, N109q, h109q⟩ := hQ109
    have w109 : (fn3 Z (a_COMPLETED Z)) = (0 : Int32) := by unfold fn3; rw [if_neg ((f_a_COMPLETED_ordinal hS).ne (f_a_WAITING_ordinal hS) (by decide)), if_neg ((f_a_COMPLETED_ordinal hS).ne (f_a_FAILED_ordinal hS) (by decide)), if_neg ((f_a_COMPLETED_ordinal hS).ne (f_a_RESUME_ESCALATED_ordinal hS) (by decide))]; all_goals first | rfl | decide
    rw [w109] at v109
    subst v109
    have N109 := Fr.app N105 N109q
    obtain ⟨_, _, ⟨T110, L110, k110, n110⟩, -, X110, ⟨Lc110, hQ110, l110, y110, z110⟩, st110⟩ := Jvm.LawKit.callS X109 hx (y := (⟨"com/example/resumatic/resumatic/core/DecisionEngine", "stateAfter", "(Lcom/example/resumatic/resumatic/core/ReasonCode;)Lcom/example/resumatic/resumatic/core/RunState;"⟩ : MethodName)) hown (mvT hZ (hw _ (List.mem_of_getElem? (i := 27) rfl))) (mvT hZ (hw _ (List.mem_of_getElem? (i := 28) rfl))) (mvT hZ (hw _ (List.mem_of_getElem? (i := 22) rfl))) (mvT hZ (hw _ (List.mem_of_getElem? (i := 29) rfl))) (by decide) (backOf (W := 0) (rm4 l Z a0 hw hS [] (fn2 Z j) h0 n0 O0) hZ (hw _ (List.mem_of_getElem? (i := 29) rfl)) (hw _ (List.mem_of_getElem? (i := 22) rfl)) (by decide) (by decide)) (g := (mkF m 57 #[oI p0, oI p1, oR (a_COMPLETED Z), oR (fn2 Z j), oI (0 : Int32), oI (0 : Int32), oU] [(.ref (fn2 Z j))])) rfl (by rw [hml]; rfl) (argsL := [(.ref (fn2 Z j))]) (rest := []) (lenOf pd_3 rfl) rfl (by show 2 * 0 + _ ≤ _; exact Nat.le_of_eq rfl) (hb hby at_57) (fun _ _ => ⟨rfl, h109q, (by decide : 0 + 0 ≤ _), (by decide : 0 + 0 ≤ _)⟩)
    dsimp only [Pt.U, Pt.locs, Pt.cells, Pt.slots] at X110 l110 y110 z110 st110 hQ110
    subst l110 y110 z110
    obtain ⟨v110, N110q, h110q⟩ := hQ110
    subst v110
    have N110 := Fr.app N109 N110q
    obtain ⟨_, _, ⟨T111, L111, k111, n111⟩, -, X111, ⟨Lc111, hQ111, l111, y111, z111⟩, st111⟩ := Jvm.LawKit.callS X110 hx (y := (⟨"com/example/resumatic/resumatic/core/DecisionEngine", "decidesRequestIn", "(Lcom/example/resumatic/resumatic/core/RunState;)Z"⟩ : MethodName)) hown (mvT hZ (hw _ (List.mem_of_getElem? (i := 20) rfl))) (mvT hZ (hw _ (List.mem_of_getElem? (i := 21) rfl))) (mvT hZ (hw _ (List.mem_of_getElem? (i := 22) rfl))) (mvT hZ (hw _ (List.mem_of_getElem? (i := 23) rfl))) (by decide) (backOf (W := 0) (rm3 l Z a0 hw hS [] (fn4 Z (fn2 Z j)) h0 n0 O0) hZ (hw _ (List.mem_of_getElem? (i := 23) rfl)) (hw _ (List.mem_of_getElem? (i := 22) rfl)) (by decide) (by decide)) (g := (mkF m 60 #[oI p0, oI p1, oR (a_COMPLETED Z), oR (fn2 Z j), oI (0 : Int32), oI (0 : Int32), oU] [(.ref (fn4 Z (fn2 Z j)))])) rfl (by rw [hml]; rfl) (argsL := [(.ref (fn4 Z (fn2 Z j)))]) (rest := []) (lenOf pd_2 rfl) rfl (by show 2 * 0 + _ ≤ _; exact Nat.le_of_eq rfl) (hb hby at_60) (fun _ _ => ⟨rfl, h110q, (by decide : 0 + 0 ≤ _), (by decide : 0 + 0 ≤ _)⟩)
    dsimp only [Pt.U, Pt.locs, Pt.cells, Pt.slots] at X111 l111 y111 z111 st111 hQ111
    subst l111 y111 z111
    obtain ⟨v111, N111q, h111q⟩ := hQ111
    subst v111
    have N111 := Fr.app N110 N111q
    have pre112 : ∀ t, oP p e below T111 (mkF m 74 #[oI p0, oI p1, oR (a_COMPLETED Z), oR (fn2 Z j), oI (0 : Int32), oI (0 : Int32), oI (fn3 Z (fn4 Z (fn2 Z j)))] [(.int (fn3 Z (fn4 Z (fn2 Z j))))]) t → oP p e below s₁ (entryFrame m #[(.int p0), (.int p1)] maxLocals) t := fun t k => pre51 t (by
      show oP p e below s₁ (mkF m 7 #[oI p0, oI p1, oU, oU, oU, oU, oU] [(.int (5 : Int32))]) _
      refine st104 _ ?_
      show oP p e below T104 (mkF m 10 #[oI p0, oI p1, oU, oU, oU, oU, oU] [(.ref (a_COMPLETED Z))]) _
      refine XS.astoreN X104.here hx rfl (hb hby at_10) rfl rfl (l' := #[oI p0, oI p1, oR (a_COMPLETED Z), oU, oU, oU, oU]) rfl ?_
      show oP p e below T104 (mkF m 11 #[oI p0, oI p1, oR (a_COMPLETED Z), oU, oU, oU, oU] []) _
      refine XS.iloadN X104.here hx rfl (hb hby at_11) rfl ?_
      show oP p e below T104 (mkF m 12 #[oI p0, oI p1, oR (a_COMPLETED Z), oU, oU, oU, oU] [(.int p1)]) _
      refine X104.ldcInt hx hown (mvT hZ (hw _ (List.mem_of_getElem? (i := 0) rfl))) (g := (mkF m 12 #[oI p0, oI p1, oR (a_COMPLETED Z), oU, oU, oU, oU] [(.int p1)])) rfl (hb hby at_12) _ ?_
      show oP p e below T104 (mkF m 14 #[oI p0, oI p1, oR (a_COMPLETED Z), oU, oU, oU, oU] [(.int (2147483647 : Int32)), (.int p1)]) _
      refine XS.iand X104.here hx rfl (hb hby at_14) rfl ?_
      show oP p e below T104 (mkF m 15 #[oI p0, oI p1, oR (a_COMPLETED Z), oU, oU, oU, oU] [(.int (p1 &&& (2147483647 : Int32)))]) _
      refine XS.bipush X104.here hx rfl (hb hby at_15) ?_
      show oP p e below T104 (mkF m 17 #[oI p0, oI p1, oR (a_COMPLETED Z), oU, oU, oU, oU] [(.int (6 : Int32)), (.int (p1 &&& (2147483647 : Int32)))]) _
      refine XS.irem X104.here hx rfl (hb hby at_17) rfl (by decide) ?_
      show oP p e below T104 (mkF m 18 #[oI p0, oI p1, oR (a_COMPLETED Z), oU, oU, oU, oU] [(.int ((p1 &&& (2147483647 : Int32)) - ((p1 &&& (2147483647 : Int32)) / (6 : Int32)) * (6 : Int32)))]) _
      rw [← hj]
      show oP p e below T104 (mkF m 18 #[oI p0, oI p1, oR (a_COMPLETED Z), oU, oU, oU, oU] [(.int j)]) _
      refine st105 _ ?_
      show oP p e below T105 (mkF m 21 #[oI p0, oI p1, oR (a_COMPLETED Z), oU, oU, oU, oU] [(.ref (fn2 Z j))]) _
      refine XS.astoreN X105.here hx rfl (hb hby at_21) rfl rfl (l' := #[oI p0, oI p1, oR (a_COMPLETED Z), oR (fn2 Z j), oU, oU, oU]) rfl ?_
      show oP p e below T105 (mkF m 22 #[oI p0, oI p1, oR (a_COMPLETED Z), oR (fn2 Z j), oU, oU, oU] []) _
      refine XS.aloadN X105.here hx rfl (hb hby at_22) rfl rfl ?_
      show oP p e below T105 (mkF m 23 #[oI p0, oI p1, oR (a_COMPLETED Z), oR (fn2 Z j), oU, oU, oU] [(.ref (a_COMPLETED Z))]) _
      refine st106 _ ?_
      show oP p e below T106 (mkF m 26 #[oI p0, oI p1, oR (a_COMPLETED Z), oR (fn2 Z j), oU, oU, oU] [(.ref (a_WAITING Z)), (.ref (a_COMPLETED Z))]) _
      refine Jvm.RoadKit.acmp (g := (mkF m 26 #[oI p0, oI p1, oR (a_COMPLETED Z), oR (fn2 Z j), oU, oU, oU] [(.ref (a_WAITING Z)), (.ref (a_COMPLETED Z))])) X106 hx rfl rfl rfl (pc0 := 26) (pc' := 29) (same := false) rfl (hb hby at_26) rfl (decide_eq_false fun q => ((f_a_COMPLETED_ordinal hS).ne (f_a_WAITING_ordinal hS) (by decide)) (Value.ref.inj q)) (by decide) (by decide) ?_
      show oP p e below T106 (mkF m 29 #[oI p0, oI p1, oR (a_COMPLETED Z), oR (fn2 Z j), oU, oU, oU] []) _
      refine XS.aloadN X106.here hx rfl (hb hby at_29) rfl rfl ?_
      show oP p e below T106 (mkF m 30 #[oI p0, oI p1, oR (a_COMPLETED Z), oR (fn2 Z j), oU, oU, oU] [(.ref (a_COMPLETED Z))]) _
      refine st107 _ ?_
      show oP p e below T107 (mkF m 33 #[oI p0, oI p1, oR (a_COMPLETED Z), oR (fn2 Z j), oU, oU, oU] [(.ref (a_FAILED Z)), (.ref (a_COMPLETED Z))]) _
      refine Jvm.RoadKit.acmp (g := (mkF m 33 #[oI p0, oI p1, oR (a_COMPLETED Z), oR (fn2 Z j), oU, oU, oU] [(.ref (a_FAILED Z)), (.ref (a_COMPLETED Z))])) X107 hx rfl rfl rfl (pc0 := 33) (pc' := 36) (same := false) rfl (hb hby at_33) rfl (decide_eq_false fun q => ((f_a_COMPLETED_ordinal hS).ne (f_a_FAILED_ordinal hS) (by decide)) (Value.ref.inj q)) (by decide) (by decide) ?_
      show oP p e below T107 (mkF m 36 #[oI p0, oI p1, oR (a_COMPLETED Z), oR (fn2 Z j), oU, oU, oU] []) _
      refine XS.aloadN X107.here hx rfl (hb hby at_36) rfl rfl ?_
      show oP p e below T107 (mkF m 37 #[oI p0, oI p1, oR (a_COMPLETED Z), oR (fn2 Z j), oU, oU, oU] [(.ref (a_COMPLETED Z))]) _
      refine st108 _ ?_
      show oP p e below T108 (mkF m 40 #[oI p0, oI p1, oR (a_COMPLETED Z), oR (fn2 Z j), oU, oU, oU] [(.ref (a_RESUME_ESCALATED Z)), (.ref (a_COMPLETED Z))]) _
      refine Jvm.RoadKit.acmp (g := (mkF m 40 #[oI p0, oI p1, oR (a_COMPLETED Z), oR (fn2 Z j), oU, oU, oU] [(.ref (a_RESUME_ESCALATED Z)), (.ref (a_COMPLETED Z))])) X108 hx rfl rfl rfl (pc0 := 40) (pc' := 47) (same := false) rfl (hb hby at_40) rfl (decide_eq_false fun q => ((f_a_COMPLETED_ordinal hS).ne (f_a_RESUME_ESCALATED_ordinal hS) (by decide)) (Value.ref.inj q)) (by decide) (by decide) ?_
      show oP p e below T108 (mkF m 47 #[oI p0, oI p1, oR (a_COMPLETED Z), oR (fn2 Z j), oU, oU, oU] []) _
      refine XS.iconst X108.here hx rfl (hb hby at_47) ?_
      show oP p e below T108 (mkF m 48 #[oI p0, oI p1, oR (a_COMPLETED Z), oR (fn2 Z j), oU, oU, oU] [(.int (0 : Int32))]) _
      refine XS.istore X108.here hx rfl (hb hby at_48) rfl (l' := #[oI p0, oI p1, oR (a_COMPLETED Z), oR (fn2 Z j), oI (0 : Int32), oU, oU]) rfl ?_
      show oP p e below T108 (mkF m 50 #[oI p0, oI p1, oR (a_COMPLETED Z), oR (fn2 Z j), oI (0 : Int32), oU, oU] []) _
      refine XS.aloadN X108.here hx rfl (hb hby at_50) rfl rfl ?_
      show oP p e below T108 (mkF m 51 #[oI p0, oI p1, oR (a_COMPLETED Z), oR (fn2 Z j), oI (0 : Int32), oU, oU] [(.ref (a_COMPLETED Z))]) _
      refine st109 _ ?_
      show oP p e below T109 (mkF m 54 #[oI p0, oI p1, oR (a_COMPLETED Z), oR (fn2 Z j), oI (0 : Int32), oU, oU] [(.int (0 : Int32))]) _
      refine XS.istore X109.here hx rfl (hb hby at_54) rfl (l' := #[oI p0, oI p1, oR (a_COMPLETED Z), oR (fn2 Z j), oI (0 : Int32), oI (0 : Int32), oU]) rfl ?_
      show oP p e below T109 (mkF m 56 #[oI p0, oI p1, oR (a_COMPLETED Z), oR (fn2 Z j), oI (0 : Int32), oI (0 : Int32), oU] []) _
      refine XS.aloadN X109.here hx rfl (hb hby at_56) rfl rfl ?_
      show oP p e below T109 (mkF m 57 #[oI p0, oI p1, oR (a_COMPLETED Z), oR (fn2 Z j), oI (0 : Int32), oI (0 : Int32), oU] [(.ref (fn2 Z j))]) _
      refine st110 _ ?_
      show oP p e below T110 (mkF m 60 #[oI p0, oI p1, oR (a_COMPLETED Z), oR (fn2 Z j), oI (0 : Int32), oI (0 : Int32), oU] [(.ref (fn4 Z (fn2 Z j)))]) _
      refine st111 _ ?_
      show oP p e below T111 (mkF m 63 #[oI p0, oI p1, oR (a_COMPLETED Z), oR (fn2 Z j), oI (0 : Int32), oI (0 : Int32), oU] [(.int (fn3 Z (fn4 Z (fn2 Z j))))]) _
      refine XS.istore X111.here hx rfl (hb hby at_63) rfl (l' := #[oI p0, oI p1, oR (a_COMPLETED Z), oR (fn2 Z j), oI (0 : Int32), oI (0 : Int32), oI (fn3 Z (fn4 Z (fn2 Z j)))]) rfl ?_
      show oP p e below T111 (mkF m 65 #[oI p0, oI p1, oR (a_COMPLETED Z), oR (fn2 Z j), oI (0 : Int32), oI (0 : Int32), oI (fn3 Z (fn4 Z (fn2 Z j)))] []) _
      refine XS.iload X111.here hx rfl (hb hby at_65) rfl ?_
      show oP p e below T111 (mkF m 67 #[oI p0, oI p1, oR (a_COMPLETED Z), oR (fn2 Z j), oI (0 : Int32), oI (0 : Int32), oI (fn3 Z (fn4 Z (fn2 Z j)))] [(.int (0 : Int32))]) _
      refine XS.iload X111.here hx rfl (hb hby at_67) rfl ?_
      show oP p e below T111 (mkF m 69 #[oI p0, oI p1, oR (a_COMPLETED Z), oR (fn2 Z j), oI (0 : Int32), oI (0 : Int32), oI (fn3 Z (fn4 Z (fn2 Z j)))] [(.int (0 : Int32)), (.int (0 : Int32))]) _
      refine XS.icmpNo X111.here hx rfl (hb hby at_69) rfl (teq (by decide : (0 : Int32) = (0 : Int32))).2 ?_
      show oP p e below T111 (mkF m 72 #[oI p0, oI p1, oR (a_COMPLETED Z), oR (fn2 Z j), oI (0 : Int32), oI (0 : Int32), oI (fn3 Z (fn4 Z (fn2 Z j)))] []) _
      refine XS.iload X111.here hx rfl (hb hby at_72) rfl ?_
      exact k)
    by_cases hc113 : (fn3 Z (fn4 Z (fn2 Z j))) = (0 : Int32)
    · exfalso
      exact ab114 hS j rj hc113
    · obtain ⟨fs, hr, hrun, hended, hW, hsame⟩ := X111.leave (v := some (.int (1 : Int32))) (fun h => by rw [Bd.returns] at h; cases h)
      refine ⟨_, _, pre112 _ ?_, hrun, hended, _, _, rfl, ?_, ⟨_, rfl⟩, hW, hsame.mono (by decide) (by decide)⟩
      · show oP p e below T111 (mkF m 74 #[oI p0, oI p1, oR (a_COMPLETED Z), oR (fn2 Z j), oI (0 : Int32), oI (0 : Int32), oI (fn3 Z (fn4 Z (fn2 Z j)))] [(.int (fn3 Z (fn4 Z (fn2 Z j))))]) _
        refine XS.ifNo X111.here hx rfl (hb hby at_74) rfl ((if0 _ _).trans (feq hc113).1) ?_
        show oP p e below T111 (mkF m 77 #[oI p0, oI p1, oR (a_COMPLETED Z), oR (fn2 Z j), oI (0 : Int32), oI (0 : Int32), oI (fn3 Z (fn4 Z (fn2 Z j)))] []) _
        refine XS.iconst X111.here hx rfl (hb hby at_77) ?_
        show oP p e below T111 (mkF m 78 #[oI p0, oI p1, oR (a_COMPLETED Z), oR (fn2 Z j), oI (0 : Int32), oI (0 : Int32), oI (fn3 Z (fn4 Z (fn2 Z j)))] [(.int (1 : Int32))]) _
        refine XS.goto X111.here hx rfl (pc0 := 78) (pc' := 82) rfl (hb hby at_78) (by decide) (by decide) ?_
        show oP p e below T111 (mkF m 82 #[oI p0, oI p1, oR (a_COMPLETED Z), oR (fn2 Z j), oI (0 : Int32), oI (0 : Int32), oI (fn3 Z (fn4 Z (fn2 Z j)))] [(.int (1 : Int32))]) _
        exact retN X111 hx (t := .boolean) Bd.returns (by simp) (hb hby at_82) hr
      · show (some (.int (1 : Int32)) : Option Value) = some (.int (1 : Int32)) ∧ Fr n0 _ ∧ T111.heap = h0
        rw [h111q]
        exact ⟨rfl, N111, rfl⟩
set_option maxRecDepth 65536 in
set_option maxHeartbeats 40000000 in
theorem comes_1 {Post : Tables → Env → Array Value → State → Outcome → State → Prop} (hpost : ∀ tb e args s v u, (limb_1_1.after args s (.returned v) u = true ∧ limb_1_2.after args s (.returned v) u = true ∧ True) → FrameEnd s (.returned v) u (Jvm.fieldLocs frame_1_writes args s ++ Jvm.arrayLocs frame_1_arrays args s ++ Jvm.staticLocs frame_1_statics s) 0 0 → Post tb e args s (.returned v) u) :
    ArmFor flags0 classFile x code maxLocals ret World_1 tables_1 room_1 Calls_1 rest_1 Pre_1 Post := by
  intro l hfl _ _ p e ha hc hk s m args below hf hA hF happ hP
  obtain ⟨hcalls, hrest, hpre⟩ := hP
  obtain ⟨-, -, -, hnamed, -, -, -, hat⟩ := (Spec.applies_iff hf).mp happ
  obtain ⟨hg, hn⟩ := and_e (Cond.before_iff.mp (show (Jvm.Cond.and given_1 narrow_1).before args s = true from hpre))
  obtain ⟨g1, g2⟩ := and_e hg
  obtain ⟨g3, g4⟩ := and_e g2
  obtain ⟨w0, w1, rfl⟩ : ∃ w0 w1 : Value, args = #[w0, w1] := by
    have hs : args.size = 2 := by simpa [Cond.value, given_1] using g1
    obtain ⟨L⟩ := args
    match L, hs with
    | [w0, w1], _ => exact ⟨w0, w1, rfl⟩
  have hw := fun d (hd : d ∈ tables_1) => atoms_spec (ws := Jvm.Cond.code x code maxLocals ret :: tables_1) hat d (List.mem_cons_of_mem _ hd)
  have hfit : Fit s := fun {y c} hc i hi => by
    obtain ⟨ha, rfl⟩ := Array.getElem?_eq_some_iff.mp hc
    have q := List.all_eq_true.mp ((Array.all_eq_true_iff_forall_mem.mp hF) _ (Array.getElem_mem ha)) i (List.mem_range.mpr hi)
    simpa [Array.getElem?_eq_getElem hi] using q
  obtain ⟨i0, ei0⟩ := is_v g3
  obtain rfl : w0 = (.int i0) := Option.some.inj ei0
  obtain ⟨i1, ei1⟩ := is_v g4
  obtain rfl : w1 = (.int i1) := Option.some.inj ei1
  obtain ⟨q0, hn0⟩ := and_e hn
  obtain ⟨q1, hn1⟩ := and_e hn0
  obtain ⟨q2, hn2⟩ := and_e hn1
  obtain ⟨q3, hn3⟩ := and_e hn2
  obtain ⟨q4, hn4⟩ := and_e hn3
  obtain ⟨q5, hn5⟩ := and_e hn4
  obtain ⟨q6, hn6⟩ := and_e hn5
  obtain ⟨q7, hn7⟩ := and_e hn6
  obtain ⟨q8, hn8⟩ := and_e hn7
  obtain ⟨q9, hn9⟩ := and_e hn8
  obtain ⟨q10, hn10⟩ := and_e hn9
  obtain ⟨q11, hn11⟩ := and_e hn10
  obtain ⟨q12, hn12⟩ := and_e hn11
  obtain ⟨q13, hn13⟩ := and_e hn12
  obtain ⟨q14, hn14⟩ := and_e hn13
  obtain ⟨q15, hn15⟩ := and_e hn14
  obtain ⟨q16, hn16⟩ := and_e hn15
  obtain ⟨q17, hn17⟩ := and_e hn16
  obtain ⟨q18, hn18⟩ := and_e hn17
  obtain ⟨q19, hn19⟩ := and_e hn18
  obtain ⟨q20, hn20⟩ := and_e hn19
  obtain ⟨q21, hn21⟩ := and_e hn20
  obtain ⟨q22, hn22⟩ := and_e hn21
  have q23 := hn22
  have hS : St s := ⟨(own_sta q0 (Or.inr ⟨(hw _ (List.mem_of_getElem? (i := 6) rfl)), (hw _ (List.mem_of_getElem? (i := 7) rfl))⟩)), (own_exa q0), (own_sta q1 (Or.inr ⟨(hw _ (List.mem_of_getElem? (i := 12) rfl)), (hw _ (List.mem_of_getElem? (i := 13) rfl))⟩)), (own_exa q1), (own_sta q2 (Or.inr ⟨(hw _ (List.mem_of_getElem? (i := 6) rfl)), (hw _ (List.mem_of_getElem? (i := 15) rfl))⟩)), (own_exa q2), (own_fldI q3), (own_fldI q4), (own_sta q5 (Or.inr ⟨(hw _ (List.mem_of_getElem? (i := 6) rfl)), (hw _ (List.mem_of_getElem? (i := 17) rfl))⟩)), (own_exa q5), (own_fldI q6), (own_sta q7 (Or.inr ⟨(hw _ (List.mem_of_getElem? (i := 6) rfl)), (hw _ (List.mem_of_getElem? (i := 19) rfl))⟩)), (own_exa q7), (own_fldI q8), (own_sta q9 (Or.inr ⟨(hw _ (List.mem_of_getElem? (i := 12) rfl)), (hw _ (List.mem_of_getElem? (i := 31) rfl))⟩)), (own_exa q9), (own_fldI q10), (own_fldI q11), (own_sta q12 (Or.inr ⟨(hw _ (List.mem_of_getElem? (i := 12) rfl)), (hw _ (List.mem_of_getElem? (i := 33) rfl))⟩)), (own_exa q12), (own_fldI q13), (own_sta q14 (Or.inr ⟨(hw _ (List.mem_of_getElem? (i := 12) rfl)), (hw _ (List.mem_of_getElem? (i := 35) rfl))⟩)), (own_exa q14), (own_fldI q15), (own_sta q16 (Or.inr ⟨(hw _ (List.mem_of_getElem? (i := 12) rfl)), (hw _ (List.mem_of_getElem? (i := 38) rfl))⟩)), (own_exa q16), (own_fldI q17), (own_sta q18 (Or.inr ⟨(hw _ (List.mem_of_getElem? (i := 6) rfl)), (hw _ (List.mem_of_getElem? (i := 41) rfl))⟩)), (own_exa q18), (own_fldI q19), (own_sta q20 (Or.inr ⟨(hw _ (List.mem_of_getElem? (i := 12) rfl)), (hw _ (List.mem_of_getElem? (i := 43) rfl))⟩)), (own_exa q20), (own_fldI q21), (own_sta q22 (Or.inr ⟨(hw _ (List.mem_of_getElem? (i := 6) rfl)), (hw _ (List.mem_of_getElem? (i := 45) rfl))⟩)), (own_exa q22), (own_fldI q23)⟩
  obtain ⟨n, o, h1, h2, h3, _, L, rfl, ⟨rfl, N, -⟩, hq⟩ := rm0 l s _ hw hS tables_1 i0 i1 s.heap s.heap.size (Old.start s) p e ha hc hk s m _ below hf ((Spec.applies_iff_loose hf).mp happ).1 ⟨rfl, State.Warmed39.refl s, rfl⟩ trivial
  refine ⟨n, _, h1, h2, h3, hpost _ _ _ _ _ _ ⟨Cond.after_iff.mpr rfl, Cond.after_iff.mpr (eq_i res_at (Term.int_eval (1)) rfl), trivial⟩ ⟨hq.1, hq.2.1, (hq.2.2.sift fun y hy => Or.inr (N y hy)).mono (by decide) (by decide)⟩⟩
theorem main_1_1 : Claimed_1_1 := comes_1 fun _ _ _ _ _ _ h hF => ⟨h.1, hF⟩
theorem main_1_2 : Claimed_1_2 := comes_1 fun _ _ _ _ _ _ h hF => ⟨h.2.1, hF⟩
end Jvm.Pilot.@@N@@
namespace Jvm.Pilot.@@N@@
open Jvm Jvm.ClassFile Sem Op Lib Jvm.Free Jvm.Stand Jvm.Pilot.@@N@@.Jvm.D
/-! MADE BY PROGRAM (witnessworld.py) out of the Statement's table words and the real class files: 14 classes; the members and pool entries that the words name. The judged class is class 1, her method 3. -/
namespace start1
open Jvm.ClassFile
def u (s : String) : CpInfo := .utf8 (stringToUtf16 s)
/-- a pool by its gaps: so many unusable entries, then the entry; so many at the end -/
def gap : Nat → List CpInfo → List CpInfo
  | 0, r => r
  | n + 1, r => .unusable :: gap n r
def poolList (es : List (Nat × CpInfo)) (last : Nat) : List CpInfo := es.foldr (fun e r => gap e.1 (e.2 :: r)) (gap last [])
def pool (es : List (Nat × CpInfo)) (last : Nat) : Array CpInfo := ⟨poolList es last⟩
def fileOf (pool : Array CpInfo) (this : Nat) (attrs : Array Attribute := #[]) (ms : Array MethodInfo := #[]) (fl : Nat := 33) (sup : Nat := 0) (ifs : Array Nat := #[]) (fds : Array FieldInfo := #[]) : ClassFile where
  minorVersion := 0
  majorVersion := 65
  constantPool := pool
  accessFlags := fl
  thisClass := this
  superClass := sup
  interfaces := ifs
  fields := fds
  methods := ms
  attributes := attrs
def plain (name : String) (sup : Option ClassId) : Class where
  name := name
  kind := .ordinary
  loader := none
  accessFlags := 33
  super := sup
  interfaces := #[]
  cf := none
  fields := #[]
  methods := #[]
  instanceTypes := #[]
  staticTypes := #[]
  resolved := #[]
  callSites := []
  init := .initialized
  statics := none
  mirror := none

def pool0 : Array CpInfo := pool [(5, u "<init>"), (0, u "()V"), (1, .class_ 10), (1, u "java/lang/Object")] 113

def k0m0 : Method := { name := "<init>", desc := "()V", sig := { parameters := [], returnType := none }, accessFlags := 1, code := none }
/-- java/lang/Object -/
def k0 : Class := { plain "java/lang/Object" none with
  accessFlags := 33
  interfaces := #[]
  cf := some (fileOf pool0 8 #[] #[{ accessFlags := 1, nameIndex := 5, descriptorIndex := 6, attributes := #[] }] 33 0 #[] #[])
  fields := #[]
  methods := #[k0m0]
  instanceTypes := #[]
  staticTypes := #[]
  resolved := Array.replicate 124 none
  statics := none }

def pool1 : Array CpInfo := pool [(2, .class_ 4), (1, u "java/lang/Object"), (0, u "<init>"), (0, u "()V"), (0, .fieldref 8 9), (0, .class_ 10), (0, .nameAndType 11 12), (0, u "com/example/resumatic/resumatic/core/RunState"), (0, u "PENDING"), (0, u "Lcom/example/resumatic/resumatic/core/RunState;"), (0, .fieldref 8 14), (0, .nameAndType 15 12), (0, u "RUNNING"), (0, .fieldref 8 17), (0, .nameAndType 18 12), (0, u "WAITING"), (0, .fieldref 8 20), (0, .nameAndType 21 12), (0, u "FAILED"), (0, .fieldref 8 23), (0, .nameAndType 24 12), (0, u "RESUME_ESCALATED"), (0, .fieldref 8 26), (0, .nameAndType 27 12), (0, u "COMPLETED"), (0, .fieldref 29 30), (0, .class_ 31), (0, .nameAndType 32 33), (0, u "com/example/resumatic/resumatic/core/ReasonCode"), (0, u "RESUME_ALLOWED"), (0, u "Lcom/example/resumatic/resumatic/core/ReasonCode;"), (0, .fieldref 29 35), (0, .nameAndType 36 33), (0, u "RESUME_MISSING_CHECKPOINT"), (0, .fieldref 29 38), (0, .nameAndType 39 33), (0, u "RESUME_UNKNOWN_INTERRUPTION_CLASS"), (0, .fieldref 29 41), (0, .nameAndType 42 33), (0, u "RESUME_NON_IDEMPOTENT_STEP"), (0, .fieldref 29 44), (0, .nameAndType 45 33), (0, u "RESUME_MISSING_RUNTIME_ARTIFACTS"), (0, .fieldref 29 47), (0, .nameAndType 48 33), (0, u "RESUME_ATTEMPT_LIMIT_REACHED"), (0, .integer 2147483647), (0, .methodref 51 52), (0, .class_ 53), (0, .nameAndType 54 55), (0, u "com/example/resumatic/resumatic/core/DecisionEngineDecidesRequestInPinLaw"), (0, u "stateOf"), (0, u "(I)Lcom/example/resumatic/resumatic/core/RunState;"), (0, .methodref 51 57), (0, .nameAndType 58 59), (0, u "codeOf"), (0, u "(I)Lcom/example/resumatic/resumatic/core/ReasonCode;"), (0, .methodref 61 62), (0, .class_ 63), (0, .nameAndType 64 65), (0, u "com/example/resumatic/resumatic/core/DecisionEngine"), (0, u "decidesRequestIn"), (0, u "(Lcom/example/resumatic/resumatic/core/RunState;)Z"), (0, .methodref 61 67), (0, .nameAndType 68 69), (0, u "stateAfter"), (0, u "(Lcom/example/resumatic/resumatic/core/ReasonCode;)Lcom/example/resumatic/resumatic/core/RunState;"), (3, u "law"), (0, u "(II)Z")] 2

def k1m0 : Method := { name := "<init>", desc := "()V", sig := { parameters := [], returnType := none }, accessFlags := 2, code := none }
def k1c1 : Code := { maxStack := 2, maxLocals := 1, code := method_2_code, exceptionTable := #[], attributes := #[] }
def k1m1 : Method := { name := "stateOf", desc := "(I)Lcom/example/resumatic/resumatic/core/RunState;", sig := { parameters := [.int], returnType := some (.object "com/example/resumatic/resumatic/core/RunState") }, accessFlags := 10, code := some k1c1 }
def k1c2 : Code := { maxStack := 2, maxLocals := 1, code := method_3_code, exceptionTable := #[], attributes := #[] }
def k1m2 : Method := { name := "codeOf", desc := "(I)Lcom/example/resumatic/resumatic/core/ReasonCode;", sig := { parameters := [.int], returnType := some (.object "com/example/resumatic/resumatic/core/ReasonCode") }, accessFlags := 10, code := some k1c2 }
def k1c3 : Code := { maxStack := 2, maxLocals := 7, code := code, exceptionTable := #[], attributes := #[] }
def k1m3 : Method := { name := "law", desc := "(II)Z", sig := { parameters := [.int, .int], returnType := some .boolean }, accessFlags := 9, code := some k1c3 }
/-- com/example/resumatic/resumatic/core/DecisionEngineDecidesRequestInPinLaw -/
def k1 : Class := { plain "com/example/resumatic/resumatic/core/DecisionEngineDecidesRequestInPinLaw" (some 0) with
  accessFlags := 49
  interfaces := #[]
  cf := some (fileOf pool1 51 #[] #[{ accessFlags := 2, nameIndex := 5, descriptorIndex := 6, attributes := #[] }, { accessFlags := 10, nameIndex := 54, descriptorIndex := 55, attributes := #[] }, { accessFlags := 10, nameIndex := 58, descriptorIndex := 59, attributes := #[] }, { accessFlags := 9, nameIndex := 73, descriptorIndex := 74, attributes := #[] }] 49 2 #[] #[])
  fields := #[]
  methods := #[k1m0, k1m1, k1m2, k1m3]
  instanceTypes := #[]
  staticTypes := #[]
  resolved := Array.replicate 77 none
  statics := none }

def pool2 : Array CpInfo := pool [(1, .class_ 2), (0, u "java/lang/constant/Constable"), (0, .class_ 4), (0, u "java/lang/Object")] 6

/-- java/lang/constant/Constable -/
def k2 : Class := { plain "java/lang/constant/Constable" (some 0) with
  accessFlags := 1537
  interfaces := #[]
  cf := some (fileOf pool2 1 #[] #[] 1537 3 #[] #[])
  fields := #[]
  methods := #[]
  instanceTypes := #[]
  staticTypes := #[]
  resolved := Array.replicate 11 none
  statics := none }

def pool3 : Array CpInfo := pool [(1, .class_ 2), (0, u "java/lang/Comparable"), (0, .class_ 4), (0, u "java/lang/Object")] 7

/-- java/lang/Comparable -/
def k3 : Class := { plain "java/lang/Comparable" (some 0) with
  accessFlags := 1537
  interfaces := #[]
  cf := some (fileOf pool3 1 #[] #[] 1537 3 #[] #[])
  fields := #[]
  methods := #[]
  instanceTypes := #[]
  staticTypes := #[]
  resolved := Array.replicate 12 none
  statics := none }

def pool4 : Array CpInfo := pool [(1, .class_ 2), (0, u "java/io/Serializable"), (0, .class_ 4), (0, u "java/lang/Object")] 2

/-- java/io/Serializable -/
def k4 : Class := { plain "java/io/Serializable" (some 0) with
  accessFlags := 1537
  interfaces := #[]
  cf := some (fileOf pool4 1 #[] #[] 1537 3 #[] #[])
  fields := #[]
  methods := #[]
  instanceTypes := #[]
  staticTypes := #[]
  resolved := Array.replicate 7 none
  statics := none }

def pool5 : Array CpInfo := pool [(2, .class_ 4), (1, u "java/lang/Enum"), (0, u "name"), (0, u "Ljava/lang/String;"), (2, u "ordinal"), (0, u "I"), (1, .class_ 14), (1, u "java/lang/Object"), (4, u "hash"), (86, .class_ 108), (1, u "java/lang/Enum$EnumDesc"), (2, .class_ 112), (0, u "java/lang/constant/Constable"), (0, .class_ 114), (0, u "java/lang/Comparable"), (0, .class_ 116), (0, u "java/io/Serializable")] 87

/-- java/lang/Enum -/
def k5 : Class := { plain "java/lang/Enum" (some 0) with
  accessFlags := 1057
  interfaces := #[2, 3, 4]
  cf := some (fileOf pool5 2 #[.nestMembers #[106]] #[] 1057 12 #[111, 113, 115] #[{ accessFlags := 18, nameIndex := 5, descriptorIndex := 6, attributes := #[] }, { accessFlags := 18, nameIndex := 9, descriptorIndex := 10, attributes := #[] }, { accessFlags := 2, nameIndex := 19, descriptorIndex := 10, attributes := #[] }])
  fields := #[{ name := "name", type := (.object "java/lang/String"), accessFlags := 18, slot := 0, constantValue := 0 }, { name := "ordinal", type := .int, accessFlags := 18, slot := 1, constantValue := 0 }, { name := "hash", type := .int, accessFlags := 2, slot := 2, constantValue := 0 }]
  methods := #[]
  instanceTypes := #[(.object "java/lang/String"), .int, .int]
  staticTypes := #[]
  resolved := Array.replicate 204 none
  statics := none }

def pool6 : Array CpInfo := pool [(1, .class_ 2), (0, u "com/example/resumatic/resumatic/core/RunState"), (2, u "PENDING"), (0, u "Lcom/example/resumatic/resumatic/core/RunState;"), (2, u "RUNNING"), (2, u "WAITING"), (2, u "FAILED"), (2, u "RESUME_ESCALATED"), (2, u "COMPLETED"), (2, u "$VALUES"), (0, u "[Lcom/example/resumatic/resumatic/core/RunState;"), (6, .class_ 34), (1, u "java/lang/Enum")] 106

/-- com/example/resumatic/resumatic/core/RunState -/
def k6 : Class := { plain "com/example/resumatic/resumatic/core/RunState" (some 5) with
  accessFlags := 16433
  interfaces := #[]
  cf := some (fileOf pool6 1 #[] #[] 16433 32 #[] #[{ accessFlags := 16409, nameIndex := 5, descriptorIndex := 6, attributes := #[] }, { accessFlags := 16409, nameIndex := 9, descriptorIndex := 6, attributes := #[] }, { accessFlags := 16409, nameIndex := 12, descriptorIndex := 6, attributes := #[] }, { accessFlags := 16409, nameIndex := 15, descriptorIndex := 6, attributes := #[] }, { accessFlags := 16409, nameIndex := 18, descriptorIndex := 6, attributes := #[] }, { accessFlags := 16409, nameIndex := 21, descriptorIndex := 6, attributes := #[] }, { accessFlags := 4122, nameIndex := 24, descriptorIndex := 25, attributes := #[] }])
  fields := #[{ name := "PENDING", type := (.object "com/example/resumatic/resumatic/core/RunState"), accessFlags := 16409, slot := 0, constantValue := 0 }, { name := "RUNNING", type := (.object "com/example/resumatic/resumatic/core/RunState"), accessFlags := 16409, slot := 1, constantValue := 0 }, { name := "WAITING", type := (.object "com/example/resumatic/resumatic/core/RunState"), accessFlags := 16409, slot := 2, constantValue := 0 }, { name := "FAILED", type := (.object "com/example/resumatic/resumatic/core/RunState"), accessFlags := 16409, slot := 3, constantValue := 0 }, { name := "RESUME_ESCALATED", type := (.object "com/example/resumatic/resumatic/core/RunState"), accessFlags := 16409, slot := 4, constantValue := 0 }, { name := "COMPLETED", type := (.object "com/example/resumatic/resumatic/core/RunState"), accessFlags := 16409, slot := 5, constantValue := 0 }, { name := "$VALUES", type := (.array (.object "com/example/resumatic/resumatic/core/RunState")), accessFlags := 4122, slot := 6, constantValue := 0 }]
  methods := #[]
  instanceTypes := #[(.object "java/lang/String"), .int, .int]
  staticTypes := #[(.object "com/example/resumatic/resumatic/core/RunState"), (.object "com/example/resumatic/resumatic/core/RunState"), (.object "com/example/resumatic/resumatic/core/RunState"), (.object "com/example/resumatic/resumatic/core/RunState"), (.object "com/example/resumatic/resumatic/core/RunState"), (.object "com/example/resumatic/resumatic/core/RunState"), (.array (.object "com/example/resumatic/resumatic/core/RunState"))]
  resolved := Array.replicate 141 none
  statics := some 0 }

def pool7 : Array CpInfo := pool [(1, .class_ 2), (0, u "com/example/resumatic/resumatic/core/ReasonCode"), (2, u "RESUME_ALLOWED"), (0, u "Lcom/example/resumatic/resumatic/core/ReasonCode;"), (2, u "RESUME_MISSING_CHECKPOINT"), (2, u "RESUME_UNKNOWN_INTERRUPTION_CLASS"), (2, u "RESUME_NON_IDEMPOTENT_STEP"), (2, u "RESUME_MISSING_RUNTIME_ARTIFACTS"), (2, u "RESUME_BLOCKED_COOLDOWN"), (2, u "RESUME_ATTEMPT_LIMIT_REACHED"), (2, u "$VALUES"), (0, u "[Lcom/example/resumatic/resumatic/core/ReasonCode;"), (6, .class_ 37), (1, u "java/lang/Enum")] 52

/-- com/example/resumatic/resumatic/core/ReasonCode -/
def k7 : Class := { plain "com/example/resumatic/resumatic/core/ReasonCode" (some 5) with
  accessFlags := 16433
  interfaces := #[]
  cf := some (fileOf pool7 1 #[] #[] 16433 35 #[] #[{ accessFlags := 16409, nameIndex := 5, descriptorIndex := 6, attributes := #[] }, { accessFlags := 16409, nameIndex := 9, descriptorIndex := 6, attributes := #[] }, { accessFlags := 16409, nameIndex := 12, descriptorIndex := 6, attributes := #[] }, { accessFlags := 16409, nameIndex := 15, descriptorIndex := 6, attributes := #[] }, { accessFlags := 16409, nameIndex := 18, descriptorIndex := 6, attributes := #[] }, { accessFlags := 16409, nameIndex := 21, descriptorIndex := 6, attributes := #[] }, { accessFlags := 16409, nameIndex := 24, descriptorIndex := 6, attributes := #[] }, { accessFlags := 4122, nameIndex := 27, descriptorIndex := 28, attributes := #[] }])
  fields := #[{ name := "RESUME_ALLOWED", type := (.object "com/example/resumatic/resumatic/core/ReasonCode"), accessFlags := 16409, slot := 0, constantValue := 0 }, { name := "RESUME_MISSING_CHECKPOINT", type := (.object "com/example/resumatic/resumatic/core/ReasonCode"), accessFlags := 16409, slot := 1, constantValue := 0 }, { name := "RESUME_UNKNOWN_INTERRUPTION_CLASS", type := (.object "com/example/resumatic/resumatic/core/ReasonCode"), accessFlags := 16409, slot := 2, constantValue := 0 }, { name := "RESUME_NON_IDEMPOTENT_STEP", type := (.object "com/example/resumatic/resumatic/core/ReasonCode"), accessFlags := 16409, slot := 3, constantValue := 0 }, { name := "RESUME_MISSING_RUNTIME_ARTIFACTS", type := (.object "com/example/resumatic/resumatic/core/ReasonCode"), accessFlags := 16409, slot := 4, constantValue := 0 }, { name := "RESUME_BLOCKED_COOLDOWN", type := (.object "com/example/resumatic/resumatic/core/ReasonCode"), accessFlags := 16409, slot := 5, constantValue := 0 }, { name := "RESUME_ATTEMPT_LIMIT_REACHED", type := (.object "com/example/resumatic/resumatic/core/ReasonCode"), accessFlags := 16409, slot := 6, constantValue := 0 }, { name := "$VALUES", type := (.array (.object "com/example/resumatic/resumatic/core/ReasonCode")), accessFlags := 4122, slot := 7, constantValue := 0 }]
  methods := #[]
  instanceTypes := #[(.object "java/lang/String"), .int, .int]
  staticTypes := #[(.object "com/example/resumatic/resumatic/core/ReasonCode"), (.object "com/example/resumatic/resumatic/core/ReasonCode"), (.object "com/example/resumatic/resumatic/core/ReasonCode"), (.object "com/example/resumatic/resumatic/core/ReasonCode"), (.object "com/example/resumatic/resumatic/core/ReasonCode"), (.object "com/example/resumatic/resumatic/core/ReasonCode"), (.object "com/example/resumatic/resumatic/core/ReasonCode"), (.array (.object "com/example/resumatic/resumatic/core/ReasonCode"))]
  resolved := Array.replicate 90 none
  statics := some 1 }

def pool8 : Array CpInfo := pool [(2, .class_ 4), (1, u "java/lang/Object"), (0, u "<init>"), (0, u "()V"), (1, .class_ 10), (1, u "com/example/resumatic/resumatic/core/DecisionEngine"), (27, .fieldref 39 40), (0, .class_ 41), (0, .nameAndType 42 43), (0, u "com/example/resumatic/resumatic/core/ReasonCode"), (0, u "RESUME_ATTEMPT_LIMIT_REACHED"), (0, u "Lcom/example/resumatic/resumatic/core/ReasonCode;"), (2, .fieldref 39 47), (0, .nameAndType 48 43), (0, u "RESUME_ALLOWED"), (7, .fieldref 57 58), (0, .class_ 59), (0, .nameAndType 60 61), (0, u "com/example/resumatic/resumatic/core/RunState"), (0, u "WAITING"), (0, u "Lcom/example/resumatic/resumatic/core/RunState;"), (0, .fieldref 57 63), (0, .nameAndType 64 61), (0, u "FAILED"), (0, .fieldref 57 66), (0, .nameAndType 67 61), (0, u "RESUME_ESCALATED"), (2, u "decidesRequestIn"), (0, u "(Lcom/example/resumatic/resumatic/core/RunState;)Z"), (169, u "stateAfter"), (0, u "(Lcom/example/resumatic/resumatic/core/ReasonCode;)Lcom/example/resumatic/resumatic/core/RunState;")] 38

def k8m0 : Method := { name := "<init>", desc := "()V", sig := { parameters := [], returnType := none }, accessFlags := 2, code := none }
def k8c1 : Code := { maxStack := 2, maxLocals := 1, code := prog_7_method_3_code, exceptionTable := #[], attributes := #[] }
def k8m1 : Method := { name := "decidesRequestIn", desc := "(Lcom/example/resumatic/resumatic/core/RunState;)Z", sig := { parameters := [(.object "com/example/resumatic/resumatic/core/RunState")], returnType := some .boolean }, accessFlags := 9, code := some k8c1 }
def k8c2 : Code := { maxStack := 2, maxLocals := 2, code := prog_7_method_7_code, exceptionTable := #[], attributes := #[] }
def k8m2 : Method := { name := "stateAfter", desc := "(Lcom/example/resumatic/resumatic/core/ReasonCode;)Lcom/example/resumatic/resumatic/core/RunState;", sig := { parameters := [(.object "com/example/resumatic/resumatic/core/ReasonCode")], returnType := some (.object "com/example/resumatic/resumatic/core/RunState") }, accessFlags := 9, code := some k8c2 }
/-- com/example/resumatic/resumatic/core/DecisionEngine -/
def k8 : Class := { plain "com/example/resumatic/resumatic/core/DecisionEngine" (some 0) with
  accessFlags := 49
  interfaces := #[]
  cf := some (fileOf pool8 8 #[] #[{ accessFlags := 2, nameIndex := 5, descriptorIndex := 6, attributes := #[] }, { accessFlags := 9, nameIndex := 70, descriptorIndex := 71, attributes := #[] }, { accessFlags := 9, nameIndex := 241, descriptorIndex := 242, attributes := #[] }] 49 2 #[] #[])
  fields := #[]
  methods := #[k8m0, k8m1, k8m2]
  instanceTypes := #[]
  staticTypes := #[]
  resolved := Array.replicate 281 none
  statics := none }

def pool9 : Array CpInfo := pool [(1, u "java/lang/Cloneable"), (0, .class_ 1), (0, u "java/lang/Object"), (0, .class_ 3)] 3

/-- java/lang/Cloneable -/
def k9 : Class := { plain "java/lang/Cloneable" (some 0) with
  accessFlags := 1537
  interfaces := #[]
  cf := some (fileOf pool9 2 #[] #[] 1537 4 #[] #[])
  fields := #[]
  methods := #[]
  instanceTypes := #[]
  staticTypes := #[]
  resolved := Array.replicate 8 none
  statics := none }

/-- the primitive byte -/
def k10 : Class := { plain "byte" none with kind := .primitive 'B', accessFlags := 0x411 }
/-- [B -/
def k11 : Class := { plain "[B" (some 0) with kind := .array 10 .byte, interfaces := #[9, 4], accessFlags := 1041 }

/-- the primitive int -/
def k12 : Class := { plain "int" none with kind := .primitive 'I', accessFlags := 0x411 }
/-- [I -/
def k13 : Class := { plain "[I" (some 0) with kind := .array 12 .int, interfaces := #[9, 4], accessFlags := 1041 }

def heap : Heap := #[{ cls := 6, slots := #[.ref 2, .ref 11, .ref 4, .ref 5, .ref 6, .ref 13, .null], vm := .statics 6 },
  { cls := 7, slots := #[.ref 7, .ref 9, .ref 10, .ref 3, .ref 12, .null, .ref 8, .null], vm := .statics 7 },
  { cls := 6, slots := #[.null, .int 0, .int 0], vm := .none },
  { cls := 7, slots := #[.null, .int 3, .int 0], vm := .none },
  { cls := 6, slots := #[.null, .int 2, .int 0], vm := .none },
  { cls := 6, slots := #[.null, .int 3, .int 0], vm := .none },
  { cls := 6, slots := #[.null, .int 4, .int 0], vm := .none },
  { cls := 7, slots := #[.null, .int 0, .int 0], vm := .none },
  { cls := 7, slots := #[.null, .int 6, .int 0], vm := .none },
  { cls := 7, slots := #[.null, .int 1, .int 0], vm := .none },
  { cls := 7, slots := #[.null, .int 2, .int 0], vm := .none },
  { cls := 6, slots := #[.null, .int 1, .int 0], vm := .none },
  { cls := 7, slots := #[.null, .int 4, .int 0], vm := .none },
  { cls := 6, slots := #[.null, .int 5, .int 0], vm := .none }]
def classes : Array Class := #[k0, k1, k2, k3, k4, k5, k6, k7, k8, k9, k10, k11, k12, k13]
def interned : List (Array UInt16 × Addr) := []
def slotsUsed : Nat := 51
def theMethod : MethodId := ⟨1, 3⟩
def args0 : Array Value := #[.int 5, .int 6]
def aboutOver (below : List Frame) : State where
  vm := { classes := classes, interned := interned.toArray }
  heap := heap
  slotsUsed := slotsUsed
  threads := #[{ frames := .invoking theMethod args0 :: below }]
def below0 : List Frame := [.native { method := ⟨0, 0⟩, args := #[] }]
def about1 : State := aboutOver below0
def p0 : Program := .bare "" "" ""
def e0 : Env := launch0.env 0 0 0
theorem w_frames : about1.frames = Frame.invoking theMethod args0 :: below0 := rfl
set_option maxRecDepth 65536 in
theorem w_args : argsFit about1.vm theMethod args0 = true := by decide +kernel
set_option maxRecDepth 65536 in
theorem w_heap : heapFits about1 = true := by decide +kernel
set_option maxRecDepth 65536 in
theorem w_runnable : about1.curStatus? = some .runnable := by decide +kernel
set_option maxRecDepth 65536 in
theorem w_alone : about1.alone = true := by decide +kernel
set_option maxRecDepth 65536 in
theorem w_named : about1.methodNamed? x = some theMethod := by decide +kernel
set_option maxRecDepth 65536 in
theorem w_hears : about1.hears theMethod below0 = true := by decide +kernel
set_option maxRecDepth 65536 in
theorem w_ripe : about1.ripe theMethod args0 below0 = true := by decide +kernel
theorem w_running : about1.status = .running := rfl
set_option maxRecDepth 65536 in
theorem w_room : about1.hasRoom e0.platform room_1 = true :=
  launch0.hasRoom_least _ room_1 (by decide +kernel) (by decide +kernel) (by decide +kernel) (by decide +kernel) (by decide +kernel) (by decide +kernel)
theorem allAtoms_all (ts : List Jvm.Cond) (a : Array Jvm.Value) (st : Jvm.State) : (allAtoms ts).before a st = ts.all (fun c => c.before a st) := by
  induction ts with
  | nil => rfl
  | cons c t ih =>
    show (Jvm.Cond.and c (allAtoms t)).before a st = _
    rw [Jvm.Cond.before_and, ih, List.all_cons]
def words1 : List Jvm.Cond := Jvm.Cond.code x code maxLocals ret :: tables_1
/-- a 'code' word, met by the world's own term for the bytes: nothing is compared byte by byte -/
theorem code_word {y : MethodName} {bytes : ByteArray} {mx : Nat} {rt : Option FieldType} {a : Array Value} {s : State} {m : MethodId} {meth : Method} {c : Code} (h1 : s.methodNamed? y = some m) (h2 : s.vm.method? m = some meth) (h3 : meth.code = some c) (h4 : c.code = bytes)
    (h5 : (c.maxLocals == mx && c.exceptionTable.isEmpty && decide (c.maxStack ≤ mostOperands) && decide (meth.sig.returnType = rt) && !meth.locks && decide (parseMethodDescriptor y.desc = some meth.sig)) = true) : (Jvm.Cond.code y bytes mx rt).before a s = true := by
  simp only [Bool.and_eq_true, beq_iff_eq, Bool.not_eq_true', decide_eq_true_eq] at h5
  obtain ⟨⟨⟨⟨⟨g1, g2⟩, g3⟩, g4⟩, g5⟩, g6⟩ := h5
  simp [Cond.before, Cond.holds, Cond.value, h1, h2, h3, h4, g1, g2, g3, g4, g5, g6]
def isCode : Jvm.Cond → Bool
  | .code _ _ _ _ => true
  | _ => false
theorem all_split {L : List Jvm.Cond} {P : Jvm.Cond → Bool} (h1 : L.all (fun c => isCode c || P c) = true) (h2 : ∀ c ∈ L.filter isCode, P c = true) : L.all P = true := by
  refine List.all_eq_true.mpr fun c hc => ?_
  have h := List.all_eq_true.mp h1 c hc
  rcases Bool.eq_false_or_eq_true (isCode c) with hi | hi
  · exact h2 c (List.mem_filter.mpr ⟨hc, hi⟩)
  · simpa [hi] using h
set_option maxRecDepth 65536 in
theorem w_c0 : (Jvm.Cond.code x code maxLocals ret).before args0 about1 = true := code_word (m := ⟨1, 3⟩) (meth := k1m3) (c := k1c3) (by decide +kernel) rfl rfl rfl (by decide +kernel)
set_option maxRecDepth 65536 in
theorem w_c1 : (Jvm.Cond.code ({ cls := "com/example/resumatic/resumatic/core/DecisionEngineDecidesRequestInPinLaw", name := "stateOf", desc := "(I)Lcom/example/resumatic/resumatic/core/RunState;" } : Jvm.MethodName) method_2_code (1 : Nat) (Option.some (Jvm.ClassFile.FieldType.object "com/example/resumatic/resumatic/core/RunState"))).before args0 about1 = true := code_word (m := ⟨1, 1⟩) (meth := k1m1) (c := k1c1) (by decide +kernel) rfl rfl rfl (by decide +kernel)
set_option maxRecDepth 65536 in
theorem w_c2 : (Jvm.Cond.code ({ cls := "com/example/resumatic/resumatic/core/DecisionEngineDecidesRequestInPinLaw", name := "codeOf", desc := "(I)Lcom/example/resumatic/resumatic/core/ReasonCode;" } : Jvm.MethodName) method_3_code (1 : Nat) (Option.some (Jvm.ClassFile.FieldType.object "com/example/resumatic/resumatic/core/ReasonCode"))).before args0 about1 = true := code_word (m := ⟨1, 2⟩) (meth := k1m2) (c := k1c2) (by decide +kernel) rfl rfl rfl (by decide +kernel)
set_option maxRecDepth 65536 in
theorem w_c3 : (Jvm.Cond.code ({ cls := "com/example/resumatic/resumatic/core/DecisionEngine", name := "decidesRequestIn", desc := "(Lcom/example/resumatic/resumatic/core/RunState;)Z" } : Jvm.MethodName) prog_7_method_3_code (1 : Nat) (Option.some Jvm.ClassFile.FieldType.boolean)).before args0 about1 = true := code_word (m := ⟨8, 1⟩) (meth := k8m1) (c := k8c1) (by decide +kernel) rfl rfl rfl (by decide +kernel)
set_option maxRecDepth 65536 in
theorem w_c4 : (Jvm.Cond.code ({ cls := "com/example/resumatic/resumatic/core/DecisionEngine", name := "stateAfter", desc := "(Lcom/example/resumatic/resumatic/core/ReasonCode;)Lcom/example/resumatic/resumatic/core/RunState;" } : Jvm.MethodName) prog_7_method_7_code (2 : Nat) (Option.some (Jvm.ClassFile.FieldType.object "com/example/resumatic/resumatic/core/RunState"))).before args0 about1 = true := code_word (m := ⟨8, 2⟩) (meth := k8m2) (c := k8c2) (by decide +kernel) rfl rfl rfl (by decide +kernel)
def codes1 : List Jvm.Cond := [Jvm.Cond.code x code maxLocals ret, Jvm.Cond.code ({ cls := "com/example/resumatic/resumatic/core/DecisionEngineDecidesRequestInPinLaw", name := "stateOf", desc := "(I)Lcom/example/resumatic/resumatic/core/RunState;" } : Jvm.MethodName) method_2_code (1 : Nat) (Option.some (Jvm.ClassFile.FieldType.object "com/example/resumatic/resumatic/core/RunState")), Jvm.Cond.code ({ cls := "com/example/resumatic/resumatic/core/DecisionEngineDecidesRequestInPinLaw", name := "codeOf", desc := "(I)Lcom/example/resumatic/resumatic/core/ReasonCode;" } : Jvm.MethodName) method_3_code (1 : Nat) (Option.some (Jvm.ClassFile.FieldType.object "com/example/resumatic/resumatic/core/ReasonCode")), Jvm.Cond.code ({ cls := "com/example/resumatic/resumatic/core/DecisionEngine", name := "decidesRequestIn", desc := "(Lcom/example/resumatic/resumatic/core/RunState;)Z" } : Jvm.MethodName) prog_7_method_3_code (1 : Nat) (Option.some Jvm.ClassFile.FieldType.boolean), Jvm.Cond.code ({ cls := "com/example/resumatic/resumatic/core/DecisionEngine", name := "stateAfter", desc := "(Lcom/example/resumatic/resumatic/core/ReasonCode;)Lcom/example/resumatic/resumatic/core/RunState;" } : Jvm.MethodName) prog_7_method_7_code (2 : Nat) (Option.some (Jvm.ClassFile.FieldType.object "com/example/resumatic/resumatic/core/RunState"))]
set_option maxRecDepth 65536 in
theorem codes_eq : words1.filter isCode = codes1 := rfl
theorem w_codes : ∀ c ∈ words1.filter isCode, c.before args0 about1 = true := by
  rw [codes_eq]
  intro c hc
  simp only [codes1, List.mem_cons, List.not_mem_nil, or_false] at hc
  rcases hc with rfl | rfl | rfl | rfl | rfl
  · exact w_c0
  · exact w_c1
  · exact w_c2
  · exact w_c3
  · exact w_c4
set_option maxRecDepth 65536 in
theorem w_t1 : (words1.take 24).all (fun c => isCode c || c.before args0 about1) = true := by decide +kernel
set_option maxRecDepth 65536 in
theorem w_t2 : (words1.drop 24).all (fun c => isCode c || c.before args0 about1) = true := by decide +kernel
theorem w_tables : (allAtoms (Jvm.Cond.code x code maxLocals ret :: tables_1)).before args0 about1 = true := by
  rw [allAtoms_all]
  show words1.all (fun c => c.before args0 about1) = true
  refine all_split ?_ w_codes
  rw [← List.take_append_drop 24 words1, List.all_append, w_t1, w_t2]
  rfl
set_option maxRecDepth 65536 in
theorem w_case : (Jvm.Cond.and given_1 narrow_1).before args0 about1 = true := by decide +kernel
theorem w_applies : (headSpec (Jvm.Cond.code x code maxLocals ret :: tables_1) room_1).applies x e0.platform about1 = true :=
  (Spec.applies_iff w_frames).mpr ⟨w_running, w_runnable, w_alone, w_named, w_hears, w_ripe, w_room, w_tables⟩
theorem atStart : AtStart classFile x code maxLocals ret World_1 tables_1 room_1 Calls_1 rest_1 Pre_1 launch0 p0 e0 about1 theMethod args0 below0 :=
  ⟨lists_1, trivial, launch0.admits_env _ _ _, launch0.least_env, fairChoices_fair.cas, fairChoices_fair.clock, w_frames, w_args, w_heap, w_applies, trivial, trivial, w_case⟩
end start1
theorem witness_1 : WitnessClaimed_1 := ⟨start1.p0, start1.e0, start1.about1, start1.theMethod, start1.args0, start1.below0, start1.atStart⟩
end Jvm.Pilot.@@N@@
