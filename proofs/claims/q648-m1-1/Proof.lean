import JvmDerived
import JvmDerived.Pilot.@@N@@Statement
import JvmDerived.Pilot.@@N@@Code
set_option linter.unusedVariables false
set_option linter.unusedSimpArgs false
namespace Jvm.RoadKit
open Sem ClassFile Op Lib Jvm.Stand Jvm.Free Jvm.LawKit
section New
variable {p : Program} {l : Launch} {e : Env} {R : Room} {s : State} {m : MethodId} {args : Array Value} {below : List Frame} {meth : Method} {c : Code} {T : State} {locs : List Loc} {cells slots : Nat}
theorem retI (X : Stand p l e R s m args below meth c T locs cells slots) (hx : p.tables.exec = Jvm.exec) {pc : Nat} {Ls : Array Slot} {z : Int32} {rest : List Value} (hret : meth.sig.returnType = some .int) (hd : decode c.code pc = .ok (.ireturn, 1)) {fs : List Frame}
    (hl : ∀ (f : JFrame) (acts : List Action), f.method = m → f.locked = none → f.entered = [] → (doReturn e (T.setTop f) acts (some (.int z))).1 = T.setFrames fs) : Steps p.tables e below (T.setTop (mkF m pc Ls (.int z :: rest))) (T.setFrames fs) := by
  have hm' : T.vm.method? m = some meth := X.method'
  have hn : narrow .int (.int z) = .int z := rfl
  show Steps p.tables e below (T.setTop { method := m, pc := pc, locals := Ls, stack := _ :: rest, locked := none }) _
  jvm_step X.here [X.here.top, hx, hd, hm', hret, hn]
  first | (intro acts; rw [hl _ acts rfl rfl rfl]) | rw [hl _ _ rfl rfl rfl]
  exact Steps.refl _
theorem own_retJ (X : Stand p l e R s m args below meth c T locs cells slots) (hx : p.tables.exec = Jvm.exec) {pc : Nat} {Ls : Array Slot} {z : Int64} {rest : List Value} (hret : meth.sig.returnType = some .long) (hd : decode c.code pc = .ok (.lreturn, 1)) {fs : List Frame}
    (hl : ∀ (f : JFrame) (acts : List Action), f.method = m → f.locked = none → f.entered = [] → (doReturn e (T.setTop f) acts (some (.long z))).1 = T.setFrames fs) : Steps p.tables e below (T.setTop (mkF m pc Ls (.long z :: rest))) (T.setFrames fs) := by
  have hm' : T.vm.method? m = some meth := X.method'
  have hn : narrow .long (.long z) = .long z := rfl
  show Steps p.tables e below (T.setTop { method := m, pc := pc, locals := Ls, stack := _ :: rest, locked := none }) _
  jvm_step X.here [X.here.top, hx, hd, hm', hret, hn]
  first | (intro acts; rw [hl _ acts rfl rfl rfl]) | rw [hl _ _ rfl rfl rfl]
  exact Steps.refl _
theorem own_catV {v : Value} (h : v.isRef = true) : v.category = 1 := by cases v <;> first | rfl | cases h
theorem own_retA (X : Stand p l e R s m args below meth c T locs cells slots) (hx : p.tables.exec = Jvm.exec) {pc : Nat} {Ls : Array Slot} {w : Value} {t : FieldType} {rest : List Value} (hret : meth.sig.returnType = some t) (ht : t.isReference = true) (hw : w.isRef = true) (hd : decode c.code pc = .ok (.areturn, 1)) {fs : List Frame}
    (hl : ∀ (f : JFrame) (acts : List Action), f.method = m → f.locked = none → f.entered = [] → (doReturn e (T.setTop f) acts (some w)).1 = T.setFrames fs) : Steps p.tables e below (T.setTop (mkF m pc Ls (w :: rest))) (T.setFrames fs) := by
  have hm' : T.vm.method? m = some meth := X.method'
  show Steps p.tables e below (T.setTop { method := m, pc := pc, locals := Ls, stack := w :: rest, locked := none }) _
  jvm_step X.here [X.here.top, hx, hd, hm', hret, ht, hw]
  first | (intro acts; rw [hl _ acts rfl rfl rfl]) | rw [hl _ _ rfl rfl rfl]
  exact Steps.refl _
variable {Z : State} {h : Heap}
theorem own_len (X : Stand p l e R s m args below meth c T locs cells slots) (hx : p.tables.exec = Jvm.exec) (hZ : Z.Warmed39 s.vm) (eT : T.heap = h) {a : Addr} {k : ClassId} {ty : FieldType} {z : Int32} {vs : List Value} {dv : Value} (F : Arv Z h a k ty z vs dv) {g : JFrame} (hg : g.method = m) {rest : List Value} (hs : g.stack = .ref a :: rest) (hd : decode c.code g.pc = .ok (.arraylength, 1)) (target : State)
    (hr : Steps p.tables e below (T.setTop { g with pc := g.pc + 1, stack := .int z :: rest }) target) : Steps p.tables e below (T.setTop g) target := by
  obtain ⟨cl, A, -, S, N, -, -⟩ := F
  refine X.arraylength hx (by rw [eT]; exact A.1) (State.isArrayOf_alike hZ.alike A.2.1) hg hs hd _ ?_
  rw [len_of S N]; exact hr
theorem own_aaload (X : Stand p l e R s m args below meth c T locs cells slots) (hx : p.tables.exec = Jvm.exec) (hZ : Z.Warmed39 s.vm) (eT : T.heap = h) {a : Addr} {k : ClassId} {ty : FieldType} {z : Int32} {vs : List Value} {dv : Value} (F : Arv Z h a k ty z vs dv) (hty : ty.isReference = true) {j : Int32} (hj : ¬ j < 0 ∧ j < z) {v : Value} (hv : vs.getD j.toNatClampNeg dv = v) {g : JFrame} (hg : g.method = m) {rest : List Value} (hs : g.stack = .int j :: .ref a :: rest) (hd : decode c.code g.pc = .ok (.aaload, 1)) (target : State)
    (hr : Steps p.tables e below (T.setTop { g with pc := g.pc + 1, stack := v :: rest }) target) : Steps p.tables e below (T.setTop g) target := by
  obtain ⟨cl, A, -, S, N, H, -⟩ := F
  have hin := inb_of S hj
  exact X.aaload hx (by rw [eT]; exact A.1) (State.isArrayOf_alike hZ.alike A.2.1) hty A.2.2 hin (H.at hin hv) hg hs hd _ hr
theorem own_baload (X : Stand p l e R s m args below meth c T locs cells slots) (hx : p.tables.exec = Jvm.exec) (hZ : Z.Warmed39 s.vm) (eT : T.heap = h) {a : Addr} {k : ClassId} {z : Int32} {vs : List Value} {dv : Value} (F : Arv Z h a k .byte z vs dv) {j : Int32} (hj : ¬ j < 0 ∧ j < z) {v : Value} (hv : vs.getD j.toNatClampNeg dv = v) {g : JFrame} (hg : g.method = m) {rest : List Value} (hs : g.stack = .int j :: .ref a :: rest) (hd : decode c.code g.pc = .ok (.baload, 1)) (target : State)
    (hr : Steps p.tables e below (T.setTop { g with pc := g.pc + 1, stack := v :: rest }) target) : Steps p.tables e below (T.setTop g) target := by
  obtain ⟨cl, A, -, S, N, H, -⟩ := F
  have hin := inb_of S hj
  exact X.baloadBytes hx (by rw [eT]; exact A.1) (State.isArrayOf_alike hZ.alike A.2.1) A.2.2 hin (H.at hin hv) hg hs hd _ hr
theorem own_stR (X : Stand p l e R s m args below meth c T locs cells slots) (hx : p.tables.exec = Jvm.exec) (hZ : Z.Warmed39 s.vm) (eT : T.heap = h) {a y : Addr} {k : ClassId} {C : String} {z : Int32} {vs : List Value} {dv : Value} (F : Arv Z h a k (.object C) z vs dv) (O : Ovr Z k C) (I : Ins Z h y C true) {j : Int32} (hj : ¬ j < 0 ∧ j < z) {i : Nat} (hi : j.toNatClampNeg = i) (hl : i < vs.length) {g : JFrame} (hg : g.method = m) {rest : List Value} (hs : g.stack = .ref y :: .int j :: .ref a :: rest) (hd : decode c.code g.pc = .ok (.aastore, 1)) :
    ∃ T' h', Stand p l e R s m args below meth c T' (locs ++ [⟨a, j.toNatClampNeg⟩]) cells slots ∧ T'.heap = h' ∧ Wr h h' a j.toNatClampNeg (.ref y) ∧ Arv Z h' a k (.object C) z (vs.set i (.ref y)) dv ∧ ∀ target, Steps p.tables e below (T'.setTop { g with pc := g.pc + 1, stack := rest }) target → Steps p.tables e below (T.setTop g) target := by
  obtain ⟨cl, A, q, S, N, H, G⟩ := F
  obtain ⟨T', h', X', e', W, st⟩ := stR X hx hZ eT A (inb_of S hj) rfl (Sto.ofV A q O I) hg hs hd
  exact ⟨T', h', X', e', W, Arv.set A q S N H G rfl W i hi hl, st⟩
theorem own_stC (X : Stand p l e R s m args below meth c T locs cells slots) (hx : p.tables.exec = Jvm.exec) (hZ : Z.Warmed39 s.vm) (eT : T.heap = h) {a : Addr} {k : ClassId} {z x : Int32} {vs : List Value} {dv : Value} (F : Arv Z h a k .char z vs dv) {j : Int32} (hj : ¬ j < 0 ∧ j < z) {i : Nat} (hi : j.toNatClampNeg = i) (hl : i < vs.length) {g : JFrame} (hg : g.method = m) {rest : List Value} (hs : g.stack = .int x :: .int j :: .ref a :: rest) (hd : decode c.code g.pc = .ok (.castore, 1)) :
    ∃ T' h', Stand p l e R s m args below meth c T' (locs ++ [⟨a, j.toNatClampNeg⟩]) cells slots ∧ T'.heap = h' ∧ Wr h h' a j.toNatClampNeg (.int (nar .char x)) ∧ Arv Z h' a k .char z (vs.set i (.int (nar .char x))) dv ∧ ∀ target, Steps p.tables e below (T'.setTop { g with pc := g.pc + 1, stack := rest }) target → Steps p.tables e below (T.setTop g) target := by
  obtain ⟨cl, A, q, S, N, H, G⟩ := F
  obtain ⟨T', h', X', e', W, st⟩ := stC X hx hZ eT A (inb_of S hj) hg hs hd
  exact ⟨T', h', X', e', W, Arv.set A q S N H G (fits_nar_char _) W i hi hl, st⟩
theorem own_stB (X : Stand p l e R s m args below meth c T locs cells slots) (hx : p.tables.exec = Jvm.exec) (hZ : Z.Warmed39 s.vm) (eT : T.heap = h) {a : Addr} {k : ClassId} {z x : Int32} {vs : List Value} {dv : Value} (F : Arv Z h a k .byte z vs dv) {j : Int32} (hj : ¬ j < 0 ∧ j < z) {i : Nat} (hi : j.toNatClampNeg = i) (hl : i < vs.length) {g : JFrame} (hg : g.method = m) {rest : List Value} (hs : g.stack = .int x :: .int j :: .ref a :: rest) (hd : decode c.code g.pc = .ok (.bastore, 1)) :
    ∃ T' h', Stand p l e R s m args below meth c T' (locs ++ [⟨a, j.toNatClampNeg⟩]) cells slots ∧ T'.heap = h' ∧ Wr h h' a j.toNatClampNeg (.int (nar .byte x)) ∧ Arv Z h' a k .byte z (vs.set i (.int (nar .byte x))) dv ∧ ∀ target, Steps p.tables e below (T'.setTop { g with pc := g.pc + 1, stack := rest }) target → Steps p.tables e below (T.setTop g) target := by
  obtain ⟨cl, A, q, S, N, H, G⟩ := F
  obtain ⟨T', h', X', e', W, st⟩ := stB X hx hZ eT A (inb_of S hj) hg hs hd
  exact ⟨T', h', X', e', W, Arv.set A q S N H G (fits_nar_byte _) W i hi hl, st⟩
end New
end Jvm.RoadKit
namespace Jvm.Pilot.@@N@@
open Jvm Jvm.ClassFile Sem Op Lib Jvm.Free Jvm.Stand Jvm.LawKit Jvm.RoadKit Bundle Jvm.Pilot.@@N@@.Jvm.D
abbrev oI (x : Int32) : Slot := .val (.int x)
abbrev oJ (x : Int64) : Slot := .val (.long x)
abbrev oR (a : Addr) : Slot := .val (.ref a)
abbrev oN : Slot := .val .null
abbrev oV (v : Value) : Slot := .val v
abbrev oU : Slot := .unset
abbrev oS : Slot := .second
abbrev oP (p : Program) (e : Env) (below : List Frame) (T : State) (g : JFrame) (t : State) : Prop := Steps p.tables e below (T.setTop g) t
def own_sv (Z : State) (C n d : String) : Addr := match (Term.static C n d).eval #[] Z none [] Z with | some (.ref a) => a | _ => 0
theorem own_sv_of {Z : State} {args : Array Value} {C n d : String} {a : Addr} (h : (Term.static C n d).eval args Z none [] Z = some (.ref a)) : (Term.static C n d).eval args Z none [] Z = some (.ref (own_sv Z C n d)) := by
  have h' : (Term.static C n d).eval #[] Z none [] Z = some (.ref a) := h
  rw [h]; unfold own_sv; rw [h']
theorem own_at {Z : State} {args : Array Value} {C n d K : String} (h : (Cond.exactly (Term.static C n d) K).value args Z none Z [] = some true) : (Term.static C n d).eval args Z none [] Z = some (.ref (own_sv Z C n d)) := by
  obtain ⟨a, ha⟩ := exa_v h
  exact own_sv_of ha
theorem own_sta {Z : State} {args : Array Value} {C n d K : String} (h : (Cond.exactly (Term.static C n d) K).value args Z none Z [] = some true) (hi : (Cond.initializedFor C n d).before args Z = true ∨ ((Cond.initialized C).before args Z = true ∧ (Cond.laysStatic C n d).before args Z = true)) : Sta Z Z.heap C n d (.ref (own_sv Z C n d)) := Sta.start (own_at h) hi
theorem own_exa {Z : State} {args : Array Value} {C n d K : String} (h : (Cond.exactly (Term.static C n d) K).value args Z none Z [] = some true) : Exa Z Z.heap (own_sv Z C n d) K := Exa.start (own_at h) h
theorem own_fldV {Z : State} {args : Array Value} {C n d O f fd : String} {v : Value} (h : (Term.field (Term.static C n d) O f fd).eval args Z none [] Z = some v) : Fld Z Z.heap (own_sv Z C n d) O f fd v := by
  obtain ⟨a, ha⟩ := fld_v h
  rw [fld_at (own_sv_of ha)] at h
  exact Fld.start h
theorem own_fldI {Z : State} {args : Array Value} {C n d O f fd : String} {k : Int32} (h : (Cond.eq (Term.field (Term.static C n d) O f fd) (Term.int k)).value args Z none Z [] = some true) : Fld Z Z.heap (own_sv Z C n d) O f fd (.int k) := by
  refine own_fldV (args := args) ?_
  cases hv : (Term.field (Term.static C n d) O f fd).eval args Z none [] Z with
  | none => simp [Cond.value, hv] at h
  | some v => cases v <;> simp_all [Cond.value, Term.eval]
abbrev own_Q (Q : Option Value → Heap → List Loc → Prop) (v : Option Value) (h : Heap) (L : List Loc) : Prop := Q v h L
theorem own_clamp (x : Int32) : x.toNatClampNeg = x.toInt.toNat := rfl
theorem own_and_le (x c : Int32) (hc : 0 ≤ c.toInt) : 0 ≤ (x &&& c).toInt ∧ (x &&& c).toInt ≤ c.toInt := by
  have hm : c.toBitVec.msb = false := by
    cases h : c.toBitVec.msb with
    | false => rfl
    | true =>
      have := BitVec.toInt_neg_of_msb_true h
      rw [Int32.toInt_toBitVec] at this
      omega
  have h : (x &&& c).toBitVec.msb = false := by
    rw [Int32.toBitVec_and, BitVec.msb_and, hm]; simp
  have e1 : (x &&& c).toInt = ((x &&& c).toBitVec.toNat : Int) := by
    rw [← Int32.toInt_toBitVec, BitVec.toInt_eq_toNat_of_msb h]
  have e2 : c.toInt = (c.toBitVec.toNat : Int) := by
    rw [← Int32.toInt_toBitVec, BitVec.toInt_eq_toNat_of_msb hm]
  have h3 : (x &&& c).toBitVec.toNat ≤ c.toBitVec.toNat := by
    rw [Int32.toBitVec_and, BitVec.toNat_and]; exact Nat.and_le_right
  omega
theorem own_rem {x y : Int32} (hx : 0 ≤ x.toInt) (hy : 0 < y.toInt) : (x - (x / y) * y).toInt = x.toInt % y.toInt := by
  have h1 : (x / y).toInt = x.toInt / y.toInt := by
    rw [Int32.toInt_div]
    rw [Int.tdiv_eq_ediv_of_nonneg hx]
    have := Int32.toInt_lt x
    have h2 : 0 ≤ x.toInt / y.toInt := Int.ediv_nonneg hx (by omega)
    have h3 : x.toInt / y.toInt ≤ x.toInt := Int.ediv_le_self _ hx
    apply Int.bmod_eq_of_le <;> omega
  rw [Int32.toInt_sub, Int32.toInt_mul, h1]
  have h2 : 0 ≤ x.toInt / y.toInt * y.toInt := Int.mul_nonneg (Int.ediv_nonneg hx (by omega)) (by omega)
  have h3 : x.toInt / y.toInt * y.toInt ≤ x.toInt := Int.ediv_mul_le _ (by omega)
  have h4 := Int32.toInt_lt x
  rw [Int.bmod_eq_of_le (n := x.toInt / y.toInt * y.toInt) (by omega) (by omega)]
  have h5 : x.toInt - x.toInt / y.toInt * y.toInt = x.toInt % y.toInt := by
    have := Int.emod_add_mul_ediv x.toInt y.toInt
    have h6 : x.toInt / y.toInt * y.toInt = y.toInt * (x.toInt / y.toInt) := Int.mul_comm _ _
    omega
  rw [h5]
  have h6 := Int.emod_nonneg x.toInt (b := y.toInt) (by omega)
  have h7 := Int.emod_lt_of_pos x.toInt hy
  have h8 := Int32.toInt_lt y
  apply Int.bmod_eq_of_le <;> omega
theorem own_mem {i : Int32} {n : Nat} (h0 : 0 ≤ i.toInt) (h1 : i.toInt < n) : ∃ k, k < n ∧ i = Int32.ofNat k := by
  refine ⟨i.toInt.toNat, by omega, ?_⟩
  apply Int32.toInt_inj.mp
  have := Int32.toInt_lt i
  rw [Int32.toInt_ofNat_of_lt (by omega)]
  omega
theorem own_old_le {Z : State} {n0 : Nat} {h : Heap} (O : Old Z n0 h) : n0 ≤ h.size := O.1 ▸ O.2.1
def own_Vals (Z : State) (a : Addr) (ty : FieldType) (z : Int32) (vs : List Value) (dv : Value) : Prop := ∃ cl : Cell, Arr Z Z.heap a cl ty ∧ FitC Z cl ∧ cl.slots.size = z.toNatClampNeg ∧ Has cl vs dv ∧ ∀ i, i < cl.slots.size → fits ty (vs.getD i dv) = true
theorem own_clone {Z : State} {h : Heap} {b : Addr} {cl : Cell} {ty : FieldType} {z : Int32} {vs : List Value} {dv : Value} (A : Arr Z h b (cloneOf cl) ty) (S : cl.slots.size = z.toNatClampNeg) (hz : ¬ z < 0) (H : Has cl vs dv) (G : ∀ i, i < cl.slots.size → fits ty (vs.getD i dv) = true) : Arv Z h b cl.cls ty z vs dv := ⟨_, A, rfl, S, hz, H, G⟩
theorem own_elem {Z : State} {args : Array Value} {C n d C2 n2 d2 : String} {i : Int32} {cl : Cell} {ty : FieldType} {j : Nat} (h : (Cond.eq (Term.elem (Term.static C n d) (Term.int i)) (Term.static C2 n2 d2)).value args Z none Z [] = some true) (ht : (Term.static C2 n2 d2).eval args Z none [] Z = some (.ref (own_sv Z C2 n2 d2))) (A : Arr Z Z.heap (own_sv Z C n d) cl ty) (hj : i.toNatClampNeg = j) : cl.slots[j]? = some (.ref (own_sv Z C2 n2 d2)) := by
  subst hj
  have hi : (Term.int i).eval args Z none [] Z = some (.int i) := Term.int_eval i
  cases hv : (Term.elem (Term.static C n d) (Term.int i)).eval args Z none [] Z with
  | none => simp [Cond.value, hv] at h
  | some w =>
    obtain ⟨⟨x, hx⟩, -⟩ := elem_v hv
    have h2 := (elem_in hv (own_sv_of hx) hi A.1).2
    rw [h2]
    cases w <;> simp_all [Cond.value]
theorem own_getD {P : Value → Prop} {dv : Value} (hd : P dv) : ∀ (vs : List Value) (h : ∀ v ∈ vs, P v) (i : Nat), P (vs.getD i dv)
  | [], _, _ => by simpa using hd
  | v :: vs, h, 0 => h v (List.mem_cons_self ..)
  | v :: vs, h, i + 1 => own_getD hd vs (fun w hw => h w (List.mem_cons_of_mem _ hw)) i
theorem own_vals {Z : State} {args : Array Value} {C n d C2 : String} {k : Int32} {vs : List Value} (hf : Fit Z) (h1 : (Cond.arrayOf (Term.static C n d) (.object C2)).value args Z none Z [] = some true) (h2 : (Cond.eq (Term.length (Term.static C n d)) (Term.int k)).value args Z none Z [] = some true) (hl : k.toNatClampNeg = vs.length) (hk : ¬ k < 0)
    (h3 : ∀ cl, Arr Z Z.heap (own_sv Z C n d) cl (.object C2) → HasL cl 0 vs) (h4 : ∀ v ∈ vs, fits (.object C2) v = true) : own_Vals Z (own_sv Z C n d) (.object C2) k vs .null := by
  obtain ⟨x, hx⟩ := arr_v h1
  have ev := own_sv_of hx
  obtain ⟨cl, A⟩ := Arr.start ev h1
  have hs : cl.slots.size = k.toNatClampNeg := by
    cases hv : (Term.length (Term.static C n d)).eval args Z none [] Z with
    | none => simp [Cond.value, hv] at h2
    | some w =>
      obtain ⟨a, cell, e1, e2, e3⟩ := Term.length_spec hv
      cases ev.symm.trans e1
      have e4 := A.fin (Vm.Alike.refl _)
      cases e4.symm.trans e2
      have hlt : cl.slots.size < 2 ^ 31 := SBG.length_lt ev e4 hv
      subst e3
      have e5 : cl.slots.size.toInt32 = k := by
        have hi : (Term.int k).eval args Z none [] Z = some (.int k) := Term.int_eval k
        simpa [Cond.value, hv, hi] using h2
      rw [← e5]
      have e6 := len_toInt hlt
      simp only [own_clamp]
      omega
  have H := h3 cl A
  refine ⟨cl, A, FitC.start hf A, hs, fun i hi => ?_, fun i _ => own_getD (P := fun v => fits (.object C2) v = true) rfl vs h4 i⟩
  have := HasL.at (dv := .null) vs 0 H i (by omega)
  simpa using this
theorem own_fldN {Z : State} {args : Array Value} {C n d O f fd : String} (h : (Cond.eq (Term.field (Term.static C n d) O f fd) Term.null).value args Z none Z [] = some true) : Fld Z Z.heap (own_sv Z C n d) O f fd .null := own_fldV (args := args) (null_v h)
theorem own_fldS {Z : State} {args : Array Value} {C n d O f fd C2 n2 d2 K2 : String} (h : (Cond.eq (Term.field (Term.static C n d) O f fd) (Term.static C2 n2 d2)).value args Z none Z [] = some true) (h2 : (Cond.exactly (Term.static C2 n2 d2) K2).value args Z none Z [] = some true) : Fld Z Z.heap (own_sv Z C n d) O f fd (.ref (own_sv Z C2 n2 d2)) := by
  refine own_fldV (args := args) ?_
  have e2 := own_at h2
  cases hv : (Term.field (Term.static C n d) O f fd).eval args Z none [] Z with
  | none => simp [Cond.value, hv] at h
  | some v => cases v <;> simp_all [Cond.value]
theorem own_fldL {Z : State} {args : Array Value} {C n d O f fd : String} {k : Int64} (h : (Cond.eq (Term.field (Term.static C n d) O f fd) (Term.long k)).value args Z none Z [] = some true) : Fld Z Z.heap (own_sv Z C n d) O f fd (.long k) := by
  refine own_fldV (args := args) ?_
  cases hv : (Term.field (Term.static C n d) O f fd).eval args Z none [] Z with
  | none => simp [Cond.value, hv] at h
  | some v => cases v <;> simp_all [Cond.value, Term.eval]
theorem own_staI {Z : State} {args : Array Value} {C n d : String} {k : Int32} (h : (Cond.eq (Term.static C n d) (Term.int k)).value args Z none Z [] = some true) (hi : (Cond.initializedFor C n d).before args Z = true ∨ ((Cond.initialized C).before args Z = true ∧ (Cond.laysStatic C n d).before args Z = true)) : Sta Z Z.heap C n d (.int k) := by
  refine Sta.start (args := args) ?_ hi
  cases hv : (Term.static C n d).eval args Z none [] Z with
  | none => simp [Cond.value, hv] at h
  | some v =>
    have hk : (Term.int k).eval args Z none [] Z = some (.int k) := Term.int_eval k
    cases v <;> simp_all [Cond.value]
def own_Cache (Z : State) (a : Addr) (C : String) (n : Nat) : Prop := ∃ cl : Cell, Arr Z Z.heap a cl (.object C) ∧ cl.slots.size = n ∧ ∀ j, j < n → ∃ x, cl.slots[j]? = some (.ref x) ∧ Exa Z Z.heap x C
theorem own_nsroot {Z : State} {a0 : Array Value} {O K : String} {n : Nat} (w : (Cond.noSuperclass O).before a0 Z = true) (wk : (Cond.instantiable K n).before a0 Z = true) (hn : O ≠ K) : NS Z O K := by
  obtain ⟨c, k, h1, h2, h3, -, -⟩ := Cond.noSuperclass_spec w
  obtain ⟨t, kt, g1, -⟩ := Cond.instantiable_spec wk
  have ne := ids_ne h1 g1 hn
  refine ⟨c, t, h1, g1, fun fuel => ?_⟩
  cases fuel with
  | zero => rfl
  | succ f => simp [Vm.isSubclassAux, ne, h2, h3]
theorem own_nsno {Z : State} {a0 : Array Value} {C S K : String} {n : Nat} (w : (Cond.superclass C S).before a0 Z = true) (wk : (Cond.instantiable K n).before a0 Z = true) (m : NS Z C K) (hn : C ≠ K) : ∃ c t, Z.vm.findClass C = some c ∧ Z.vm.findClass K = some t ∧ Z.vm.assignable c t = false := by
  obtain ⟨c, t, h0, g0, n3⟩ := m
  obtain ⟨p, k, kp, h1, h2, h3, h4, h5, -, h7⟩ := Cond.superclass_spec h0 w
  obtain ⟨t', k', g1, g2, g3, g4, -⟩ := Cond.instantiable_spec wk
  cases g0.symm.trans g1
  have g5 : k'.isInterface = false := by
    cases hq : k'.isInterface with
    | false => rfl
    | true => simp [hq] at g4
  have ne := ids_ne h0 g0 hn
  refine ⟨c, t, h0, g0, ?_⟩
  show Z.vm.assignableAux (255 + 1) c t = false
  simp [Vm.assignableAux, ne, h2, g2, h5, g3, g5, Vm.isSubclass, n3]
theorem own_fitsR {v : Value} {C : String} (h : v.isRef = true) : fits (.object C) v = true := by cases v <;> simp_all [Value.isRef, fits]
def own_si (Z : State) (C n d : String) : Int32 := match (Term.static C n d).eval #[] Z none [] Z with | some (.int a) => a | _ => 0
theorem own_si_of {Z : State} {args : Array Value} {C n d : String} (h : (Cond.isInt (Term.static C n d)).value args Z none Z [] = some true) : (Term.static C n d).eval args Z none [] Z = some (.int (own_si Z C n d)) := by
  obtain ⟨x, hx⟩ := is_v h
  have h' : (Term.static C n d).eval #[] Z none [] Z = some (.int x) := hx
  rw [hx]; unfold own_si; rw [h']
theorem own_sti {Z : State} {args : Array Value} {C n d : String} (h : (Cond.isInt (Term.static C n d)).value args Z none Z [] = some true) (hi : (Cond.initializedFor C n d).before args Z = true ∨ ((Cond.initialized C).before args Z = true ∧ (Cond.laysStatic C n d).before args Z = true)) : Sta Z Z.heap C n d (.int (own_si Z C n d)) := Sta.start (own_si_of h) hi
theorem own_stn {Z : State} {args : Array Value} {C n d : String} (h : (Cond.isInt (Term.static C n d)).value args Z none Z [] = some true) (hn : (Cond.not (Cond.eq (Term.static C n d) (Term.int 0))).value args Z none Z [] = some true) : ¬ own_si Z C n d = 0 := by
  have e := own_si_of h
  have h0 : (Term.int 0).eval args Z none [] Z = some (.int 0) := Term.int_eval 0
  have q := not_v hn
  intro z
  rw [z] at e
  simp [Cond.value, e, h0] at q
theorem own_char {c x : Int32} (h : c = (x &&& (255 : Int32))) : ¬ c < 0 ∧ ¬ (255 : Int32) < c := by
  have q := own_and_le x 255 (by decide)
  rw [← h] at q
  have e : (255 : Int32).toInt = 255 := by decide
  have e0 : (0 : Int32).toInt = 0 := by decide
  rw [Int32.lt_iff_toInt_lt, Int32.lt_iff_toInt_lt, e, e0]
  omega
theorem own_narc {c : Int32} (h : ¬ c < 0 ∧ ¬ (255 : Int32) < c) : nar .char c = c := by
  rw [Int32.lt_iff_toInt_lt, Int32.lt_iff_toInt_lt] at h
  have e : (255 : Int32).toInt = 255 := by decide
  have e0 : (0 : Int32).toInt = 0 := by decide
  rw [e, e0] at h
  obtain ⟨k, hk, rfl⟩ := own_mem (i := c) (n := 256) (by omega) (by omega)
  have t : ∀ k : Fin 256, nar .char (Int32.ofNat k.val) = Int32.ofNat k.val := by decide +kernel
  exact t ⟨k, hk⟩
theorem own_hb {cs : List Int32} (h : ∀ c ∈ cs, ¬ c < 0 ∧ ¬ (255 : Int32) < c) : ∀ c ∈ cs, ¬ c < 0 ∧ ¬ (65535 : Int32) < c := fun c hc => by
  have q := h c hc
  refine ⟨q.1, fun z => q.2 ?_⟩
  rw [Int32.lt_iff_toInt_lt] at z ⊢
  have e : (255 : Int32).toInt = 255 := by decide
  have e0 : (65535 : Int32).toInt = 65535 := by decide
  omega
theorem own_eqv {v : Option Value} {cs ds : List Int32} (h : (v = some (.int 1) ∧ cs = ds) ∨ (v = some (.int 0) ∧ ¬ cs = ds)) : v = some (.int (if cs = ds then (1 : Int32) else (0 : Int32))) := by
  rcases h with ⟨h1, h2⟩ | ⟨h1, h2⟩
  · rw [if_pos h2]; exact h1
  · rw [if_neg h2]; exact h1
theorem own_since (s : State) : s.Since s.vm 0 := (State.WarmedH.refl s).since 0
theorem own_rwmono {s t : State} {o : Outcome} {L : List Loc} {k n k' n' : Nat} (h : ReturnedEndW s o t L k n) (hk : k ≤ k') (hn : n ≤ n') : ReturnedEndW s o t L k' n' := ⟨h.1, h.2.1, h.2.2.1, h.2.2.2.mono hk hn⟩
theorem own_cache {Z : State} {args : Array Value} {C n d K : String} {k : Int32} {N : Nat} {rest : Cond} (h1 : (Cond.arrayOf (Term.static C n d) (.object K)).value args Z none Z [] = some true) (h2 : (Cond.eq (Term.length (Term.static C n d)) (Term.int k)).value args Z none Z [] = some true)
    (h3 : (Cond.all (Term.static C n d) (.and (.exactly (.elem (Term.static C n d) (.index 0)) K) rest)).value args Z none Z [] = some true) (hN : k.toNatClampNeg = N) : own_Cache Z (own_sv Z C n d) K N := by
  obtain ⟨x, hx⟩ := arr_v h1
  have ev := own_sv_of hx
  obtain ⟨cl, A⟩ := Arr.start ev h1
  have e4 := A.fin (Vm.Alike.refl _)
  have hs : cl.slots.size = k.toNatClampNeg ∧ cl.slots.size < 2 ^ 31 := by
    cases hv : (Term.length (Term.static C n d)).eval args Z none [] Z with
    | none => simp [Cond.value, hv] at h2
    | some w =>
      obtain ⟨a, cell, e1, e2, e3⟩ := Term.length_spec hv
      cases ev.symm.trans e1
      cases e4.symm.trans e2
      have hlt : cl.slots.size < 2 ^ 31 := SBG.length_lt ev e4 hv
      subst e3
      have e5 : cl.slots.size.toInt32 = k := by
        have hi : (Term.int k).eval args Z none [] Z = some (.int k) := Term.int_eval k
        simpa [Cond.value, hv, hi] using h2
      rw [← e5]
      have e6 := len_toInt hlt
      refine ⟨?_, hlt⟩
      simp only [own_clamp]
      omega
  refine ⟨cl, A, hs.1.trans hN, fun j hj => ?_⟩
  have q := Cond.all_elim ev e4 h3 j (by omega)
  obtain ⟨q1, -⟩ := and_e q
  obtain ⟨y, hy⟩ := exa_v q1
  have ev' : (Term.static C n d).eval args Z none [j] Z = some (.ref (own_sv Z C n d)) := ev
  have hj' : (Term.index 0).eval args Z none [j] Z = some (.int (Int32.ofNat j)) := Term.index_eval _
  have r := (elem_in hy ev' hj' A.1).2
  have e6 : (Int32.ofNat j).toNatClampNeg = j := by
    have := len_toInt (n := j) (by omega)
    simp only [own_clamp]
    have e7 : (Int32.ofNat j).toInt = j := this
    omega
  rw [e6] at r
  exact ⟨y, r, exa_at hy q1⟩
theorem own_cacheix {p : Int32} {cl : Cell} (h1 : ¬ p < (-128 : Int32)) (h2 : ¬ (127 : Int32) < p) (S : cl.slots.size = 256) : ¬ (p + (128 : Int32) < 0 ∨ cl.slots.size ≤ (p + (128 : Int32)).toNatClampNeg) ∧ (p + (128 : Int32)).toNatClampNeg < 256 := by
  rw [Int32.lt_iff_toInt_lt] at h1 h2 ⊢
  have e1 : (-128 : Int32).toInt = -128 := by decide
  have e2 : (127 : Int32).toInt = 127 := by decide
  have e3 : (0 : Int32).toInt = 0 := by decide
  have e4 : (128 : Int32).toInt = 128 := by decide
  have e5 : (p + (128 : Int32)).toInt = p.toInt + 128 := by
    rw [Int32.toInt_add, e4]
    apply Int.bmod_eq_of_le <;> omega
  simp only [own_clamp]
  omega
theorem own_staA {Z : State} {args : Array Value} {C n d : String} {ty : FieldType} (h : (Cond.arrayOf (Term.static C n d) ty).value args Z none Z [] = some true) (hi : (Cond.initializedFor C n d).before args Z = true ∨ ((Cond.initialized C).before args Z = true ∧ (Cond.laysStatic C n d).before args Z = true)) : Sta Z Z.heap C n d (.ref (own_sv Z C n d)) := by
  obtain ⟨a, ha⟩ := arr_v h
  exact Sta.start (own_sv_of ha) hi
end Jvm.Pilot.@@N@@
namespace Jvm.Pilot.@@N@@
open Jvm Jvm.ClassFile Sem Op Lib Jvm.Free Jvm.Stand Jvm.LawKit Jvm.RoadKit Bundle Jvm.Pilot.@@N@@.Jvm.D
def a_FLOW (Z : State) : Addr := own_sv Z "com/example/tempofold/tempofold/model/Method" "FLOW" "Lcom/example/tempofold/tempofold/model/Method;"
def a_SUM_DAYS (Z : State) : Addr := own_sv Z "com/example/tempofold/tempofold/model/Method" "SUM_DAYS" "Lcom/example/tempofold/tempofold/model/Method;"
def a_AVERAGE (Z : State) : Addr := own_sv Z "com/example/tempofold/tempofold/model/Method" "AVERAGE" "Lcom/example/tempofold/tempofold/model/Method;"
def a_AVERAGE_DAYS (Z : State) : Addr := own_sv Z "com/example/tempofold/tempofold/model/Method" "AVERAGE_DAYS" "Lcom/example/tempofold/tempofold/model/Method;"
def a_AVERAGE_DAYS_365 (Z : State) : Addr := own_sv Z "com/example/tempofold/tempofold/model/Method" "AVERAGE_DAYS_365" "Lcom/example/tempofold/tempofold/model/Method;"
def a_LAST (Z : State) : Addr := own_sv Z "com/example/tempofold/tempofold/model/Method" "LAST" "Lcom/example/tempofold/tempofold/model/Method;"
def a_FIRST (Z : State) : Addr := own_sv Z "com/example/tempofold/tempofold/model/Method" "FIRST" "Lcom/example/tempofold/tempofold/model/Method;"
def a_COMPOUND (Z : State) : Addr := own_sv Z "com/example/tempofold/tempofold/model/Method" "COMPOUND" "Lcom/example/tempofold/tempofold/model/Method;"
def a_FILL (Z : State) : Addr := own_sv Z "com/example/tempofold/tempofold/model/Method" "FILL" "Lcom/example/tempofold/tempofold/model/Method;"
def a_EQUAL_ALLOCATION_BALANCE (Z : State) : Addr := own_sv Z "com/example/tempofold/tempofold/model/Method" "EQUAL_ALLOCATION_BALANCE" "Lcom/example/tempofold/tempofold/model/Method;"
def a_NONE (Z : State) : Addr := own_sv Z "com/example/tempofold/tempofold/model/Skip" "NONE" "Lcom/example/tempofold/tempofold/model/Skip;"
def a_MISSING (Z : State) : Addr := own_sv Z "com/example/tempofold/tempofold/model/Skip" "MISSING" "Lcom/example/tempofold/tempofold/model/Skip;"
def a_ZEROS (Z : State) : Addr := own_sv Z "com/example/tempofold/tempofold/model/Skip" "ZEROS" "Lcom/example/tempofold/tempofold/model/Skip;"
def a_MISSING_AND_ZEROS (Z : State) : Addr := own_sv Z "com/example/tempofold/tempofold/model/Skip" "MISSING_AND_ZEROS" "Lcom/example/tempofold/tempofold/model/Skip;"
def St (Z : State) : Prop := (Sta Z Z.heap "com/example/tempofold/tempofold/model/Method" "FLOW" "Lcom/example/tempofold/tempofold/model/Method;" (.ref (a_FLOW Z))) ∧ (Exa Z Z.heap (a_FLOW Z) "com/example/tempofold/tempofold/model/Method$1") ∧ (Sta Z Z.heap "com/example/tempofold/tempofold/model/Method" "SUM_DAYS" "Lcom/example/tempofold/tempofold/model/Method;" (.ref (a_SUM_DAYS Z))) ∧ (Exa Z Z.heap (a_SUM_DAYS Z) "com/example/tempofold/tempofold/model/Method$2") ∧ (Sta Z Z.heap "com/example/tempofold/tempofold/model/Method" "AVERAGE" "Lcom/example/tempofold/tempofold/model/Method;" (.ref (a_AVERAGE Z))) ∧ (Exa Z Z.heap (a_AVERAGE Z) "com/example/tempofold/tempofold/model/Method$3") ∧ (Sta Z Z.heap "com/example/tempofold/tempofold/model/Method" "AVERAGE_DAYS" "Lcom/example/tempofold/tempofold/model/Method;" (.ref (a_AVERAGE_DAYS Z))) ∧ (Exa Z Z.heap (a_AVERAGE_DAYS Z) "com/example/tempofold/tempofold/model/Method$4") ∧ (Sta Z Z.heap "com/example/tempofold/tempofold/model/Method" "AVERAGE_DAYS_365" "Lcom/example/tempofold/tempofold/model/Method;" (.ref (a_AVERAGE_DAYS_365 Z))) ∧ (Exa Z Z.heap (a_AVERAGE_DAYS_365 Z) "com/example/tempofold/tempofold/model/Method$5") ∧ (Sta Z Z.heap "com/example/tempofold/tempofold/model/Method" "LAST" "Lcom/example/tempofold/tempofold/model/Method;" (.ref (a_LAST Z))) ∧ (Exa Z Z.heap (a_LAST Z) "com/example/tempofold/tempofold/model/Method$6") ∧ (Sta Z Z.heap "com/example/tempofold/tempofold/model/Method" "FIRST" "Lcom/example/tempofold/tempofold/model/Method;" (.ref (a_FIRST Z))) ∧ (Exa Z Z.heap (a_FIRST Z) "com/example/tempofold/tempofold/model/Method$7") ∧ (Sta Z Z.heap "com/example/tempofold/tempofold/model/Method" "COMPOUND" "Lcom/example/tempofold/tempofold/model/Method;" (.ref (a_COMPOUND Z))) ∧ (Exa Z Z.heap (a_COMPOUND Z) "com/example/tempofold/tempofold/model/Method$8") ∧ (Sta Z Z.heap "com/example/tempofold/tempofold/model/Method" "FILL" "Lcom/example/tempofold/tempofold/model/Method;" (.ref (a_FILL Z))) ∧ (Exa Z Z.heap (a_FILL Z) "com/example/tempofold/tempofold/model/Method$9") ∧ (Sta Z Z.heap "com/example/tempofold/tempofold/model/Method" "EQUAL_ALLOCATION_BALANCE" "Lcom/example/tempofold/tempofold/model/Method;" (.ref (a_EQUAL_ALLOCATION_BALANCE Z))) ∧ (Exa Z Z.heap (a_EQUAL_ALLOCATION_BALANCE Z) "com/example/tempofold/tempofold/model/Method$10") ∧ (Sta Z Z.heap "com/example/tempofold/tempofold/model/Skip" "NONE" "Lcom/example/tempofold/tempofold/model/Skip;" (.ref (a_NONE Z))) ∧ (Exa Z Z.heap (a_NONE Z) "com/example/tempofold/tempofold/model/Skip") ∧ (Sta Z Z.heap "com/example/tempofold/tempofold/model/Skip" "MISSING" "Lcom/example/tempofold/tempofold/model/Skip;" (.ref (a_MISSING Z))) ∧ (Exa Z Z.heap (a_MISSING Z) "com/example/tempofold/tempofold/model/Skip") ∧ (Sta Z Z.heap "com/example/tempofold/tempofold/model/Skip" "ZEROS" "Lcom/example/tempofold/tempofold/model/Skip;" (.ref (a_ZEROS Z))) ∧ (Exa Z Z.heap (a_ZEROS Z) "com/example/tempofold/tempofold/model/Skip") ∧ (Sta Z Z.heap "com/example/tempofold/tempofold/model/Skip" "MISSING_AND_ZEROS" "Lcom/example/tempofold/tempofold/model/Skip;" (.ref (a_MISSING_AND_ZEROS Z))) ∧ (Exa Z Z.heap (a_MISSING_AND_ZEROS Z) "com/example/tempofold/tempofold/model/Skip") ∧ (Fld Z Z.heap (a_MISSING Z) "java/lang/Enum" "ordinal" "I" (.int (1 : Int32))) ∧ (Fld Z Z.heap (a_MISSING_AND_ZEROS Z) "java/lang/Enum" "ordinal" "I" (.int (3 : Int32))) ∧ (Fld Z Z.heap (a_ZEROS Z) "java/lang/Enum" "ordinal" "I" (.int (2 : Int32))) ∧ (Fld Z Z.heap (a_NONE Z) "java/lang/Enum" "ordinal" "I" (.int (0 : Int32)))
theorem s_a_FLOW {Z : State} (h : St Z) : Sta Z Z.heap "com/example/tempofold/tempofold/model/Method" "FLOW" "Lcom/example/tempofold/tempofold/model/Method;" (.ref (a_FLOW Z)) := h.1
theorem e_a_FLOW {Z : State} (h : St Z) : Exa Z Z.heap (a_FLOW Z) "com/example/tempofold/tempofold/model/Method$1" := h.2.1
theorem s_a_SUM_DAYS {Z : State} (h : St Z) : Sta Z Z.heap "com/example/tempofold/tempofold/model/Method" "SUM_DAYS" "Lcom/example/tempofold/tempofold/model/Method;" (.ref (a_SUM_DAYS Z)) := h.2.2.1
theorem e_a_SUM_DAYS {Z : State} (h : St Z) : Exa Z Z.heap (a_SUM_DAYS Z) "com/example/tempofold/tempofold/model/Method$2" := h.2.2.2.1
theorem s_a_AVERAGE {Z : State} (h : St Z) : Sta Z Z.heap "com/example/tempofold/tempofold/model/Method" "AVERAGE" "Lcom/example/tempofold/tempofold/model/Method;" (.ref (a_AVERAGE Z)) := h.2.2.2.2.1
theorem e_a_AVERAGE {Z : State} (h : St Z) : Exa Z Z.heap (a_AVERAGE Z) "com/example/tempofold/tempofold/model/Method$3" := h.2.2.2.2.2.1
theorem s_a_AVERAGE_DAYS {Z : State} (h : St Z) : Sta Z Z.heap "com/example/tempofold/tempofold/model/Method" "AVERAGE_DAYS" "Lcom/example/tempofold/tempofold/model/Method;" (.ref (a_AVERAGE_DAYS Z)) := h.2.2.2.2.2.2.1
theorem e_a_AVERAGE_DAYS {Z : State} (h : St Z) : Exa Z Z.heap (a_AVERAGE_DAYS Z) "com/example/tempofold/tempofold/model/Method$4" := h.2.2.2.2.2.2.2.1
theorem s_a_AVERAGE_DAYS_365 {Z : State} (h : St Z) : Sta Z Z.heap "com/example/tempofold/tempofold/model/Method" "AVERAGE_DAYS_365" "Lcom/example/tempofold/tempofold/model/Method;" (.ref (a_AVERAGE_DAYS_365 Z)) := h.2.2.2.2.2.2.2.2.1
theorem e_a_AVERAGE_DAYS_365 {Z : State} (h : St Z) : Exa Z Z.heap (a_AVERAGE_DAYS_365 Z) "com/example/tempofold/tempofold/model/Method$5" := h.2.2.2.2.2.2.2.2.2.1
theorem s_a_LAST {Z : State} (h : St Z) : Sta Z Z.heap "com/example/tempofold/tempofold/model/Method" "LAST" "Lcom/example/tempofold/tempofold/model/Method;" (.ref (a_LAST Z)) := h.2.2.2.2.2.2.2.2.2.2.1
theorem e_a_LAST {Z : State} (h : St Z) : Exa Z Z.heap (a_LAST Z) "com/example/tempofold/tempofold/model/Method$6" := h.2.2.2.2.2.2.2.2.2.2.2.1
theorem s_a_FIRST {Z : State} (h : St Z) : Sta Z Z.heap "com/example/tempofold/tempofold/model/Method" "FIRST" "Lcom/example/tempofold/tempofold/model/Method;" (.ref (a_FIRST Z)) := h.2.2.2.2.2.2.2.2.2.2.2.2.1
theorem e_a_FIRST {Z : State} (h : St Z) : Exa Z Z.heap (a_FIRST Z) "com/example/tempofold/tempofold/model/Method$7" := h.2.2.2.2.2.2.2.2.2.2.2.2.2.1
theorem s_a_COMPOUND {Z : State} (h : St Z) : Sta Z Z.heap "com/example/tempofold/tempofold/model/Method" "COMPOUND" "Lcom/example/tempofold/tempofold/model/Method;" (.ref (a_COMPOUND Z)) := h.2.2.2.2.2.2.2.2.2.2.2.2.2.2.1
theorem e_a_COMPOUND {Z : State} (h : St Z) : Exa Z Z.heap (a_COMPOUND Z) "com/example/tempofold/tempofold/model/Method$8" := h.2.2.2.2.2.2.2.2.2.2.2.2.2.2.2.1
theorem s_a_FILL {Z : State} (h : St Z) : Sta Z Z.heap "com/example/tempofold/tempofold/model/Method" "FILL" "Lcom/example/tempofold/tempofold/model/Method;" (.ref (a_FILL Z)) := h.2.2.2.2.2.2.2.2.2.2.2.2.2.2.2.2.1
theorem e_a_FILL {Z : State} (h : St Z) : Exa Z Z.heap (a_FILL Z) "com/example/tempofold/tempofold/model/Method$9" := h.2.2.2.2.2.2.2.2.2.2.2.2.2.2.2.2.2.1
theorem s_a_EQUAL_ALLOCATION_BALANCE {Z : State} (h : St Z) : Sta Z Z.heap "com/example/tempofold/tempofold/model/Method" "EQUAL_ALLOCATION_BALANCE" "Lcom/example/tempofold/tempofold/model/Method;" (.ref (a_EQUAL_ALLOCATION_BALANCE Z)) := h.2.2.2.2.2.2.2.2.2.2.2.2.2.2.2.2.2.2.1
theorem e_a_EQUAL_ALLOCATION_BALANCE {Z : State} (h : St Z) : Exa Z Z.heap (a_EQUAL_ALLOCATION_BALANCE Z) "com/example/tempofold/tempofold/model/Method$10" := h.2.2.2.2.2.2.2.2.2.2.2.2.2.2.2.2.2.2.2.1
theorem s_a_NONE {Z : State} (h : St Z) : Sta Z Z.heap "com/example/tempofold/tempofold/model/Skip" "NONE" "Lcom/example/tempofold/tempofold/model/Skip;" (.ref (a_NONE Z)) := h.2.2.2.2.2.2.2.2.2.2.2.2.2.2.2.2.2.2.2.2.1
theorem e_a_NONE {Z : State} (h : St Z) : Exa Z Z.heap (a_NONE Z) "com/example/tempofold/tempofold/model/Skip" := h.2.2.2.2.2.2.2.2.2.2.2.2.2.2.2.2.2.2.2.2.2.1
theorem s_a_MISSING {Z : State} (h : St Z) : Sta Z Z.heap "com/example/tempofold/tempofold/model/Skip" "MISSING" "Lcom/example/tempofold/tempofold/model/Skip;" (.ref (a_MISSING Z)) := h.2.2.2.2.2.2.2.2.2.2.2.2.2.2.2.2.2.2.2.2.2.2.1
theorem e_a_MISSING {Z : State} (h : St Z) : Exa Z Z.heap (a_MISSING Z) "com/example/tempofold/tempofold/model/Skip" := h.2.2.2.2.2.2.2.2.2.2.2.2.2.2.2.2.2.2.2.2.2.2.2.1
theorem s_a_ZEROS {Z : State} (h : St Z) : Sta Z Z.heap "com/example/tempofold/tempofold/model/Skip" "ZEROS" "Lcom/example/tempofold/tempofold/model/Skip;" (.ref (a_ZEROS Z)) := h.2.2.2.2.2.2.2.2.2.2.2.2.2.2.2.2.2.2.2.2.2.2.2.2.1
theorem e_a_ZEROS {Z : State} (h : St Z) : Exa Z Z.heap (a_ZEROS Z) "com/example/tempofold/tempofold/model/Skip" := h.2.2.2.2.2.2.2.2.2.2.2.2.2.2.2.2.2.2.2.2.2.2.2.2.2.1
theorem s_a_MISSING_AND_ZEROS {Z : State} (h : St Z) : Sta Z Z.heap "com/example/tempofold/tempofold/model/Skip" "MISSING_AND_ZEROS" "Lcom/example/tempofold/tempofold/model/Skip;" (.ref (a_MISSING_AND_ZEROS Z)) := h.2.2.2.2.2.2.2.2.2.2.2.2.2.2.2.2.2.2.2.2.2.2.2.2.2.2.1
theorem e_a_MISSING_AND_ZEROS {Z : State} (h : St Z) : Exa Z Z.heap (a_MISSING_AND_ZEROS Z) "com/example/tempofold/tempofold/model/Skip" := h.2.2.2.2.2.2.2.2.2.2.2.2.2.2.2.2.2.2.2.2.2.2.2.2.2.2.2.1
theorem f_a_MISSING_ordinal {Z : State} (h : St Z) : Fld Z Z.heap (a_MISSING Z) "java/lang/Enum" "ordinal" "I" (.int (1 : Int32)) := h.2.2.2.2.2.2.2.2.2.2.2.2.2.2.2.2.2.2.2.2.2.2.2.2.2.2.2.2.1
theorem f_a_MISSING_AND_ZEROS_ordinal {Z : State} (h : St Z) : Fld Z Z.heap (a_MISSING_AND_ZEROS Z) "java/lang/Enum" "ordinal" "I" (.int (3 : Int32)) := h.2.2.2.2.2.2.2.2.2.2.2.2.2.2.2.2.2.2.2.2.2.2.2.2.2.2.2.2.2.1
theorem f_a_ZEROS_ordinal {Z : State} (h : St Z) : Fld Z Z.heap (a_ZEROS Z) "java/lang/Enum" "ordinal" "I" (.int (2 : Int32)) := h.2.2.2.2.2.2.2.2.2.2.2.2.2.2.2.2.2.2.2.2.2.2.2.2.2.2.2.2.2.2.1
theorem f_a_NONE_ordinal {Z : State} (h : St Z) : Fld Z Z.heap (a_NONE Z) "java/lang/Enum" "ordinal" "I" (.int (0 : Int32)) := h.2.2.2.2.2.2.2.2.2.2.2.2.2.2.2.2.2.2.2.2.2.2.2.2.2.2.2.2.2.2.2
theorem own_wS {Z : State} {a0 : Array Value} (hw : ∀ d ∈ tables_1, d.before a0 Z = true) : ∀ a ∈ Bundle.stringAtoms, a.before a0 Z = true := by
  intro a ha
  simp only [Bundle.stringAtoms, List.mem_cons, List.not_mem_nil, or_false] at ha
  rcases ha with rfl | rfl | rfl | rfl | rfl | rfl | rfl
  · exact (hw _ (List.mem_of_getElem? (i := 61) rfl))
  · exact (hw _ (List.mem_of_getElem? (i := 62) rfl))
  · exact (hw _ (List.mem_of_getElem? (i := 63) rfl))
  · exact (hw _ (List.mem_of_getElem? (i := 64) rfl))
  · exact (hw _ (List.mem_of_getElem? (i := 65) rfl))
  · exact (hw _ (List.mem_of_getElem? (i := 66) rfl))
  · exact (hw _ (List.mem_of_getElem? (i := 67) rfl))
theorem d2_0 : decode jdk_30_method_1_code 0 = .ok (.aload_n 0, 1) := by decide +kernel
theorem d2_1 : decode jdk_30_method_1_code 1 = .ok (.invokespecial 1, 3) := by decide +kernel
theorem d2_4 : decode jdk_30_method_1_code 4 = .ok (.return_, 1) := by decide +kernel
theorem ef_2 (m : MethodId) (x0 : Addr) : entryFrame m #[(.ref x0)] 1 = mkF m 0 #[.val (.ref x0)] [] := by first | (simp [entryFrame, mkF, argsToLocals, Value.category]; done) | rfl
theorem pn_0 : plainName "java/lang/Record" = true := by first | (simp [plainName, overriddenIn]; done) | decide +kernel
set_option maxRecDepth 65536 in
set_option maxHeartbeats 40000000 in
theorem rm2 (l : Launch) (Z : State) (a0 : Array Value) (hw : ∀ d ∈ tables_1, d.before a0 Z = true) (hS : St Z) (ws : List Jvm.Cond) (r0 : Addr) (h0 : Heap) (n0 : Nat) (O0 : Old Z n0 h0) :
    MetFree l (⟨"java/lang/Record", "<init>", "()V"⟩ : MethodName) (head1 (Jvm.Cond.code (⟨"java/lang/Record", "<init>", "()V"⟩ : MethodName) jdk_30_method_1_code 1 none :: ws) ({ frames := 1, cells := 0, slots := 0, locals := 12 } : Room)) (fun a U => a = #[(.ref r0)] ∧ Z.Warmed39 U.vm ∧ U.heap = h0) (fun _ _ _ _ _ => True) (fun _ U o U' => ∃ v L, o = .returned v ∧ own_Q (fun v hE L => v = none ∧ Fr n0 L ∧ Keep h0 hE []) v U'.heap L ∧ FrameEnd U o U' L ({ frames := 1, cells := 0, slots := 0, locals := 12 } : Room).cells ({ frames := 1, cells := 0, slots := 0, locals := 12 } : Room).slots) := by
  refine MetFree.of_bodySF (plainFor_of_name pn_0) hisR ?_
  intro p e s m args below meth c s₁ Bd hml0 hP hK
  obtain ⟨rfl, hZ, hh⟩ := hP
  have hx := Bd.exec
  have hby := Bd.bytes
  have hml : c.maxLocals = 1 := hml0
  have hown : s.vm.findClass "java/lang/Record" = some m.cls := findClass_of_methodNamed Bd.named
  have hnm := (name_of_methodNamed Bd.named Bd.method).1
  have X0 : Stand p l e ({ frames := 1, cells := 0, slots := 0, locals := 12 } : Room) s m #[(.ref r0)] below meth c s₁ [] 0 0 := Stand.of_body Bd
  have e0 : s₁.heap = h0 := by rw [← hh, Bd.state]; rfl
  have N0 := Fr.nil n0
  have pre0 : ∀ t, Steps p.tables e below (s₁.setTop (mkF m 0 #[oR r0] [])) t → Steps p.tables e below (s₁.setTop (entryFrame m #[(.ref r0)] 1)) t := fun t k => castTop (ef_2 m r0) k
  obtain ⟨T1, X1, e1, st1⟩ := initO X0 hx hZ hown (hw _ (List.mem_of_getElem? (i := 57) rfl)) (hw _ (List.mem_of_getElem? (i := 58) rfl)) (hw _ (List.mem_of_getElem? (i := 59) rfl)) e0 (g := (mkF m 1 #[oR r0] [(.ref r0)])) rfl (by rw [hml]; rfl) rfl (hb hby d2_1) (by decide) (W := 0) (by show 2 * 0 + _ ≤ _; exact Nat.le_of_eq rfl) (by decide)
  obtain ⟨fs, hr, hrun, hended, hW, hsame⟩ := X1.leave (v := none) (fun _ => rfl)
  refine ⟨_, _, pre0 _ ?_, hrun, hended, _, _, rfl, ?_, ⟨_, rfl⟩, hW, hsame.mono (by decide) (by decide)⟩
  · show oP p e below s₁ (mkF m 0 #[oR r0] []) _
    refine XS.aloadN X0.here hx rfl (hb hby d2_0) rfl rfl ?_
    show oP p e below s₁ (mkF m 1 #[oR r0] [(.ref r0)]) _
    refine st1 _ ?_
    show oP p e below T1 (mkF m 4 #[oR r0] []) _
    exact X1.returnOut hx Bd.returns (hb hby d2_4) hr
  · show (none : Option Value) = none ∧ Fr n0 _ ∧ Keep h0 T1.heap []
    rw [e1]
    exact ⟨rfl, N0, (Keep.refl h0 [])⟩
theorem d4_0 : decode jdk_31_method_11_code 0 = .ok (.aload_n 0, 1) := by decide +kernel
theorem d4_1 : decode jdk_31_method_11_code 1 = .ok (.ifnonnull 12, 3) := by decide +kernel
theorem d4_13 : decode jdk_31_method_11_code 13 = .ok (.aload_n 0, 1) := by decide +kernel
theorem d4_14 : decode jdk_31_method_11_code 14 = .ok (.areturn, 1) := by decide +kernel
def fn4 (Z : State) (r0 : Addr) (r1 : Addr) : Addr :=
  r0
theorem ef_4 (m : MethodId) (x0 : Addr) (x1 : Addr) : entryFrame m #[(.ref x0), (.ref x1)] 2 = mkF m 0 #[.val (.ref x0), .val (.ref x1)] [] := by first | (simp [entryFrame, mkF, argsToLocals, Value.category]; done) | rfl
theorem pn_1 : plainName "java/util/Objects" = true := by first | (simp [plainName, overriddenIn]; done) | decide +kernel
set_option maxRecDepth 65536 in
set_option maxHeartbeats 40000000 in
theorem rm4 (l : Launch) (Z : State) (a0 : Array Value) (hw : ∀ d ∈ tables_1, d.before a0 Z = true) (hS : St Z) (ws : List Jvm.Cond) (r0 : Addr) (r1 : Addr) (h0 : Heap) (n0 : Nat) (O0 : Old Z n0 h0) :
    MetFree l (⟨"java/util/Objects", "requireNonNull", "(Ljava/lang/Object;Ljava/lang/String;)Ljava/lang/Object;"⟩ : MethodName) (head1 (Jvm.Cond.code (⟨"java/util/Objects", "requireNonNull", "(Ljava/lang/Object;Ljava/lang/String;)Ljava/lang/Object;"⟩ : MethodName) jdk_31_method_11_code 2 (some (.object "java/lang/Object")) :: ws) ({ frames := 0, cells := 0, slots := 0, locals := 0 } : Room)) (fun a U => a = #[(.ref r0), (.ref r1)] ∧ Z.Warmed39 U.vm ∧ U.heap = h0) (fun _ _ _ _ _ => True) (fun _ U o U' => ∃ v L, o = .returned v ∧ own_Q (fun v hE L => v = some (.ref (fn4 Z r0 r1)) ∧ Fr n0 L ∧ hE = h0) v U'.heap L ∧ FrameEnd U o U' L ({ frames := 0, cells := 0, slots := 0, locals := 0 } : Room).cells ({ frames := 0, cells := 0, slots := 0, locals := 0 } : Room).slots) := by
  refine MetFree.of_bodySF (plainFor_of_name pn_1) hisR ?_
  intro p e s m args below meth c s₁ Bd hml0 hP hK
  obtain ⟨rfl, hZ, hh⟩ := hP
  have hx := Bd.exec
  have hby := Bd.bytes
  have hml : c.maxLocals = 2 := hml0
  have hown : s.vm.findClass "java/util/Objects" = some m.cls := findClass_of_methodNamed Bd.named
  have X0 : Stand p l e ({ frames := 0, cells := 0, slots := 0, locals := 0 } : Room) s m #[(.ref r0), (.ref r1)] below meth c s₁ [] 0 0 := Stand.of_body Bd
  have e0 : s₁.heap = h0 := by rw [← hh, Bd.state]; rfl
  have N0 := Fr.nil n0
  have pre0 : ∀ t, Steps p.tables e below (s₁.setTop (mkF m 0 #[oR r0, oR r1] [])) t → Steps p.tables e below (s₁.setTop (entryFrame m #[(.ref r0), (.ref r1)] 2)) t := fun t k => castTop (ef_4 m r0 r1) k
  obtain ⟨fs, hr, hrun, hended, hW, hsame⟩ := X0.leave (v := some (.ref r0)) (fun h => by rw [Bd.returns] at h; cases h)
  refine ⟨_, _, pre0 _ ?_, hrun, hended, _, _, rfl, ?_, ⟨_, rfl⟩, hW, hsame.mono (by decide) (by decide)⟩
  · show oP p e below s₁ (mkF m 0 #[oR r0, oR r1] []) _
    refine XS.aloadN X0.here hx rfl (hb hby d4_0) rfl rfl ?_
    show oP p e below s₁ (mkF m 1 #[oR r0, oR r1] [(.ref r0)]) _
    refine XS.ifnonnullYes X0.here hx rfl (pc0 := 1) (pc' := 13) rfl (hb hby d4_1) rfl (by decide) (by decide) ?_
    show oP p e below s₁ (mkF m 13 #[oR r0, oR r1] []) _
    refine XS.aloadN X0.here hx rfl (hb hby d4_13) rfl rfl ?_
    show oP p e below s₁ (mkF m 14 #[oR r0, oR r1] [(.ref r0)]) _
    exact own_retA X0 hx Bd.returns rfl rfl (hb hby d4_14) hr
  · show (some (.ref r0) : Option Value) = some (.ref (fn4 Z r0 r1)) ∧ Fr n0 _ ∧ s₁.heap = h0
    rw [e0]
    refine ⟨?_, N0, rfl⟩
    rfl
theorem d1_0 : decode prog_67_method_1_code 0 = .ok (.aload_n 0, 1) := by decide +kernel
theorem d1_1 : decode prog_67_method_1_code 1 = .ok (.invokespecial 1, 3) := by decide +kernel
theorem pd_0 : parseMethodDescriptor "()V" = some ⟨[], none⟩ := by decide +kernel
theorem d1_4 : decode prog_67_method_1_code 4 = .ok (.aload_n 1, 1) := by decide +kernel
theorem d1_5 : decode prog_67_method_1_code 5 = .ok (.ldc 7, 2) := by decide +kernel
theorem d1_7 : decode prog_67_method_1_code 7 = .ok (.invokestatic 9, 3) := by decide +kernel
theorem pd_1 : parseMethodDescriptor "(Ljava/lang/Object;Ljava/lang/String;)Ljava/lang/Object;" = some ⟨[(.object "java/lang/Object"), (.object "java/lang/String")], some (.object "java/lang/Object")⟩ := by decide +kernel
theorem d1_10 : decode prog_67_method_1_code 10 = .ok (.pop, 1) := by decide +kernel
theorem d1_11 : decode prog_67_method_1_code 11 = .ok (.aload_n 2, 1) := by decide +kernel
theorem d1_12 : decode prog_67_method_1_code 12 = .ok (.ldc 15, 2) := by decide +kernel
theorem d1_14 : decode prog_67_method_1_code 14 = .ok (.invokestatic 9, 3) := by decide +kernel
theorem d1_17 : decode prog_67_method_1_code 17 = .ok (.pop, 1) := by decide +kernel
theorem d1_18 : decode prog_67_method_1_code 18 = .ok (.aload_n 0, 1) := by decide +kernel
theorem d1_19 : decode prog_67_method_1_code 19 = .ok (.aload_n 1, 1) := by decide +kernel
theorem d1_20 : decode prog_67_method_1_code 20 = .ok (.putfield 17, 3) := by decide +kernel
theorem d1_23 : decode prog_67_method_1_code 23 = .ok (.aload_n 0, 1) := by decide +kernel
theorem d1_24 : decode prog_67_method_1_code 24 = .ok (.aload_n 2, 1) := by decide +kernel
theorem d1_25 : decode prog_67_method_1_code 25 = .ok (.putfield 22, 3) := by decide +kernel
theorem d1_28 : decode prog_67_method_1_code 28 = .ok (.return_, 1) := by decide +kernel
theorem ef_1 (m : MethodId) (x0 : Addr) (x1 : Addr) (x2 : Addr) : entryFrame m #[(.ref x0), (.ref x1), (.ref x2)] 3 = mkF m 0 #[.val (.ref x0), .val (.ref x1), .val (.ref x2)] [] := by first | (simp [entryFrame, mkF, argsToLocals, Value.category]; done) | rfl
theorem pn_2 : plainName "com/example/tempofold/tempofold/model/Rule" = true := by first | (simp [plainName, overriddenIn]; done) | decide +kernel
set_option maxRecDepth 65536 in
set_option maxHeartbeats 40000000 in
theorem rm1 (l : Launch) (Z : State) (a0 : Array Value) (hw : ∀ d ∈ tables_1, d.before a0 Z = true) (hS : St Z) (ws : List Jvm.Cond) (r0 : Addr) (r1 : Addr) (r2 : Addr) (h0 : Heap) (n0 : Nat) (O0 : Old Z n0 h0) (E_r0 : Exa Z h0 r0 "com/example/tempofold/tempofold/model/Rule") (F_method_r0 : Fld Z h0 r0 "com/example/tempofold/tempofold/model/Rule" "method" "Lcom/example/tempofold/tempofold/model/Method;" .null) (F_skip_r0 : Fld Z h0 r0 "com/example/tempofold/tempofold/model/Rule" "skip" "Lcom/example/tempofold/tempofold/model/Skip;" .null) (g_r0 : n0 ≤ r0) :
    MetFree l (⟨"com/example/tempofold/tempofold/model/Rule", "<init>", "(Lcom/example/tempofold/tempofold/model/Method;Lcom/example/tempofold/tempofold/model/Skip;)V"⟩ : MethodName) (head1 (Jvm.Cond.code (⟨"com/example/tempofold/tempofold/model/Rule", "<init>", "(Lcom/example/tempofold/tempofold/model/Method;Lcom/example/tempofold/tempofold/model/Skip;)V"⟩ : MethodName) prog_67_method_1_code 3 none :: ws) ({ frames := 2, cells := 4, slots := 48, locals := 24 } : Room)) (fun a U => a = #[(.ref r0), (.ref r1), (.ref r2)] ∧ Z.Warmed39 U.vm ∧ U.heap = h0) (fun _ _ _ _ _ => True) (fun _ U o U' => ∃ v L, o = .returned v ∧ own_Q (fun v hE L => v = none ∧ Fr n0 L ∧ Keep h0 hE [r0] ∧ Exa Z hE r0 "com/example/tempofold/tempofold/model/Rule" ∧ Fld Z hE r0 "com/example/tempofold/tempofold/model/Rule" "method" "Lcom/example/tempofold/tempofold/model/Method;" (.ref r1) ∧ Fld Z hE r0 "com/example/tempofold/tempofold/model/Rule" "skip" "Lcom/example/tempofold/tempofold/model/Skip;" (.ref r2)) v U'.heap L ∧ ReturnedEndW U o U' L ({ frames := 2, cells := 4, slots := 48, locals := 24 } : Room).cells ({ frames := 2, cells := 4, slots := 48, locals := 24 } : Room).slots) := by
  refine MetFree.of_bodySF (plainFor_of_name pn_2) hisR ?_
  intro p e s m args below meth c s₁ Bd hml0 hP hK
  obtain ⟨rfl, hZ, hh⟩ := hP
  have hx := Bd.exec
  have hby := Bd.bytes
  have hml : c.maxLocals = 3 := hml0
  have hown : s.vm.findClass "com/example/tempofold/tempofold/model/Rule" = some m.cls := findClass_of_methodNamed Bd.named
  have hnm := (name_of_methodNamed Bd.named Bd.method).1
  have X0 : Stand p l e ({ frames := 2, cells := 4, slots := 48, locals := 24 } : Room) (s.setVm s.vm) m #[(.ref r0), (.ref r1), (.ref r2)] below meth c s₁ [] 0 0 := Stand.of_body Bd
  have e0 : s₁.heap = h0 := by rw [← hh, Bd.state]; rfl
  have N0 := Fr.nil n0
  have pre0 : ∀ t, Steps p.tables e below (s₁.setTop (mkF m 0 #[oR r0, oR r1, oR r2] [])) t → Steps p.tables e below (s₁.setTop (entryFrame m #[(.ref r0), (.ref r1), (.ref r2)] 3)) t := fun t k => castTop (ef_1 m r0 r1 r2) k
  have hSi : s.Since s.vm 0 := own_since s
  have hki0 : 0 ≤ h0.size := Nat.zero_le _
  obtain ⟨_, _, ⟨T2, L2, k2, n2⟩, -, X2, ⟨Lc2, hQ2, l2, y2, z2⟩, st2⟩ := X0.specialBack hx (y := (⟨"java/lang/Record", "<init>", "()V"⟩ : MethodName)) rfl hown (mvT hZ (hw _ (List.mem_of_getElem? (i := 52) rfl))) (mvT hZ (hw _ (List.mem_of_getElem? (i := 53) rfl))) (mvT hZ (hw _ (List.mem_of_getElem? (i := 56) rfl))) (by decide) (backOf (W := 0) (rm2 l Z a0 hw hS [] r0 h0 n0 O0 ) hZ (hw _ (List.mem_of_getElem? (i := 56) rfl)) (hw _ (List.mem_of_getElem? (i := 55) rfl)) (by decide) (by decide)) (g := (mkF m 1 #[oR r0, oR r1, oR r2] [(.ref r0)])) rfl (by rw [hml]; rfl) (Steps.refl _) (a := r0) (argsL := []) (rest := []) (lenOf pd_0 rfl) rfl (by show 2 * 0 + _ ≤ _; exact Nat.le_of_eq rfl) (hb hby d1_1) (fun _ _ => ⟨rfl, e0, (by decide : 0 + 0 ≤ _), (by decide : 0 + 0 ≤ _)⟩)
  dsimp only [Pt.U, Pt.locs, Pt.cells, Pt.slots] at X2 l2 y2 z2 st2 hQ2
  subst l2 y2 z2
  obtain ⟨v2, N2q, K2q⟩ := hQ2
  subst v2
  have N2 := Fr.app N0 N2q
  have O2 := O0.keep K2q all0
  have Kc2 := (Keep.refl h0 [r0]).trans K2q all0
  have fx4 := (Nat.le_trans hki0 K2q.1)
  obtain ⟨b3, T3, h3, kk3, X3, e3, E3, hSi, hki3, hZ, hown, st3⟩ := ldcS X2 hx hZ hown (hw _ (List.mem_of_getElem? (i := 60) rfl)) (own_wS hw) rfl hSi fx4 (g := (mkF m 5 #[oR r0, oR r1, oR r2] [(.ref r1)])) rfl (hb hby d1_5) (n := 24) (by decide) (by decide) (by decide) (by decide)
  have O3 := O2.ext E3
  have Kc3 := Kc2.ext E3
  obtain ⟨_, _, ⟨T5, L5, k5, n5⟩, -, X5, ⟨Lc5, hQ5, l5, y5, z5⟩, st5⟩ := Jvm.LawKit.callS X3 hx (y := (⟨"java/util/Objects", "requireNonNull", "(Ljava/lang/Object;Ljava/lang/String;)Ljava/lang/Object;"⟩ : MethodName)) hown (mvT hZ (hw _ (List.mem_of_getElem? (i := 68) rfl))) (mvT hZ (hw _ (List.mem_of_getElem? (i := 69) rfl))) (mvT hZ (hw _ (List.mem_of_getElem? (i := 70) rfl))) (mvT hZ (hw _ (List.mem_of_getElem? (i := 71) rfl))) (by decide) (backOf (W := 0) (rm4 l Z a0 hw hS [] r1 b3 h3 n0 O3) hZ (hw _ (List.mem_of_getElem? (i := 71) rfl)) (hw _ (List.mem_of_getElem? (i := 70) rfl)) (by decide) (by decide)) (g := (mkF m 7 #[oR r0, oR r1, oR r2] [(.ref b3), (.ref r1)])) rfl (by rw [hml]; rfl) (argsL := [(.ref r1), (.ref b3)]) (rest := []) (lenOf pd_1 rfl) rfl (by show 2 * 0 + _ ≤ _; exact Nat.le_of_eq rfl) (hb hby d1_7) (fun _ _ => ⟨rfl, e3, (by decide : 2 + 0 ≤ _), (by decide : 28 + 0 ≤ _)⟩)
  dsimp only [Pt.U, Pt.locs, Pt.cells, Pt.slots] at X5 l5 y5 z5 st5 hQ5
  subst l5 y5 z5
  obtain ⟨v5, N5q, h5q⟩ := hQ5
  have w5 : (fn4 Z r1 b3) = r1 := rfl
  rw [w5] at v5
  subst v5
  have N5 := Fr.app N2 N5q
  obtain ⟨b6, T6, h6, kk6, X6, e6, E6, hSi, hki6, hZ, hown, st6⟩ := ldcS X5 hx hZ hown (hw _ (List.mem_of_getElem? (i := 72) rfl)) (own_wS hw) h5q hSi hki3 (g := (mkF m 12 #[oR r0, oR r1, oR r2] [(.ref r2)])) rfl (hb hby d1_12) (n := 16) (by decide) (by decide) (by decide) (by decide)
  have O6 := O3.ext E6
  have Kc6 := Kc3.ext E6
  obtain ⟨_, _, ⟨T7, L7, k7, n7⟩, -, X7, ⟨Lc7, hQ7, l7, y7, z7⟩, st7⟩ := Jvm.LawKit.callS X6 hx (y := (⟨"java/util/Objects", "requireNonNull", "(Ljava/lang/Object;Ljava/lang/String;)Ljava/lang/Object;"⟩ : MethodName)) hown (mvT hZ (hw _ (List.mem_of_getElem? (i := 68) rfl))) (mvT hZ (hw _ (List.mem_of_getElem? (i := 69) rfl))) (mvT hZ (hw _ (List.mem_of_getElem? (i := 70) rfl))) (mvT hZ (hw _ (List.mem_of_getElem? (i := 71) rfl))) (by decide) (backOf (W := 0) (rm4 l Z a0 hw hS [] r2 b6 h6 n0 O6) hZ (hw _ (List.mem_of_getElem? (i := 71) rfl)) (hw _ (List.mem_of_getElem? (i := 70) rfl)) (by decide) (by decide)) (g := (mkF m 14 #[oR r0, oR r1, oR r2] [(.ref b6), (.ref r2)])) rfl (by rw [hml]; rfl) (argsL := [(.ref r2), (.ref b6)]) (rest := []) (lenOf pd_1 rfl) rfl (by show 2 * 0 + _ ≤ _; exact Nat.le_of_eq rfl) (hb hby d1_14) (fun _ _ => ⟨rfl, e6, (by decide : 4 + 0 ≤ _), (by decide : 48 + 0 ≤ _)⟩)
  dsimp only [Pt.U, Pt.locs, Pt.cells, Pt.slots] at X7 l7 y7 z7 st7 hQ7
  subst l7 y7 z7
  obtain ⟨v7, N7q, h7q⟩ := hQ7
  have w7 : (fn4 Z r2 b6) = r2 := rfl
  rw [w7] at v7
  subst v7
  have N7 := Fr.app N5 N7q
  have fx8 := (((E_r0.keep K2q).ext E3).ext E6)
  have fx9 := (((F_method_r0.keep K2q nin0).ext E3).ext E6)
  obtain ⟨T10, h10, X10, e10, W10, st10⟩ := putF X7 hx hZ hown (host := "") (Or.inl (hw _ (List.mem_of_getElem? (i := 73) rfl))) Via.refl h7q fx9 fx8 (Or.inr ⟨(hw _ (List.mem_of_getElem? (i := 74) rfl)), rfl, hnm⟩) (hw _ (List.mem_of_getElem? (i := 47) rfl)) (ty := (.object "com/example/tempofold/tempofold/model/Method")) (by decide) rfl rfl (g := (mkF m 20 #[oR r0, oR r1, oR r2] [(.ref r1), (.ref r0)])) rfl rfl (hb hby d1_20)
  have N10 := Fr.snoc X10 N7 g_r0
  have O10 := O6.wr W10 g_r0
  have Kc10 := Kc6.wr W10 (Or.inl (List.mem_of_getElem? (i := 0) rfl))
  have Fw10 := fx9.same W10
  have fx11 := (fx8.wr W10)
  have fx12 := ((((F_skip_r0.keep K2q nin0).ext E3).ext E6).other W10 (Or.inr (slot_ne (Or.inr (hw _ (List.mem_of_getElem? (i := 76) rfl))) (Or.inr (hw _ (List.mem_of_getElem? (i := 74) rfl))) (by decide) (t := (.object "com/example/tempofold/tempofold/model/Skip")) (t' := (.object "com/example/tempofold/tempofold/model/Method")) (by decide) (by decide))))
  obtain ⟨T13, h13, X13, e13, W13, st13⟩ := putF X10 hx hZ hown (host := "") (Or.inl (hw _ (List.mem_of_getElem? (i := 75) rfl))) Via.refl e10 fx12 fx11 (Or.inr ⟨(hw _ (List.mem_of_getElem? (i := 76) rfl)), rfl, hnm⟩) (hw _ (List.mem_of_getElem? (i := 47) rfl)) (ty := (.object "com/example/tempofold/tempofold/model/Skip")) (by decide) rfl rfl (g := (mkF m 25 #[oR r0, oR r1, oR r2] [(.ref r2), (.ref r0)])) rfl rfl (hb hby d1_25)
  have N13 := Fr.snoc X13 N10 g_r0
  have O13 := O10.wr W13 g_r0
  have Kc13 := Kc10.wr W13 (Or.inl (List.mem_of_getElem? (i := 0) rfl))
  have Fw13 := fx12.same W13
  have fx14 := (Nat.le_trans (Nat.le_trans hki6 (Keep.of_wr W10).1) (Keep.of_wr W13).1)
  obtain ⟨fs, hr, hrun, hended, hRW⟩ := Stand.leaveW X13 hSi (by rw [e13]; exact fx14) (v := none) (fun _ => rfl)
  refine ⟨_, _, pre0 _ ?_, hrun, hended, _, _, rfl, ?_, own_rwmono hRW (by decide) (by decide)⟩
  · show oP p e below s₁ (mkF m 0 #[oR r0, oR r1, oR r2] []) _
    refine XS.aloadN X0.here hx rfl (hb hby d1_0) rfl rfl ?_
    show oP p e below s₁ (mkF m 1 #[oR r0, oR r1, oR r2] [(.ref r0)]) _
    refine st2.trans ?_
    show oP p e below T2 (mkF m 4 #[oR r0, oR r1, oR r2] []) _
    refine XS.aloadN X2.here hx rfl (hb hby d1_4) rfl rfl ?_
    show oP p e below T2 (mkF m 5 #[oR r0, oR r1, oR r2] [(.ref r1)]) _
    refine st3 _ ?_
    show oP p e below T3 (mkF m 7 #[oR r0, oR r1, oR r2] [(.ref b3), (.ref r1)]) _
    refine st5 _ ?_
    show oP p e below T5 (mkF m 10 #[oR r0, oR r1, oR r2] [(.ref r1)]) _
    refine XS.pop X5.here hx rfl (hb hby d1_10) rfl rfl ?_
    show oP p e below T5 (mkF m 11 #[oR r0, oR r1, oR r2] []) _
    refine XS.aloadN X5.here hx rfl (hb hby d1_11) rfl rfl ?_
    show oP p e below T5 (mkF m 12 #[oR r0, oR r1, oR r2] [(.ref r2)]) _
    refine st6 _ ?_
    show oP p e below T6 (mkF m 14 #[oR r0, oR r1, oR r2] [(.ref b6), (.ref r2)]) _
    refine st7 _ ?_
    show oP p e below T7 (mkF m 17 #[oR r0, oR r1, oR r2] [(.ref r2)]) _
    refine XS.pop X7.here hx rfl (hb hby d1_17) rfl rfl ?_
    show oP p e below T7 (mkF m 18 #[oR r0, oR r1, oR r2] []) _
    refine XS.aloadN X7.here hx rfl (hb hby d1_18) rfl rfl ?_
    show oP p e below T7 (mkF m 19 #[oR r0, oR r1, oR r2] [(.ref r0)]) _
    refine XS.aloadN X7.here hx rfl (hb hby d1_19) rfl rfl ?_
    show oP p e below T7 (mkF m 20 #[oR r0, oR r1, oR r2] [(.ref r1), (.ref r0)]) _
    refine st10 _ ?_
    show oP p e below T10 (mkF m 23 #[oR r0, oR r1, oR r2] []) _
    refine XS.aloadN X10.here hx rfl (hb hby d1_23) rfl rfl ?_
    show oP p e below T10 (mkF m 24 #[oR r0, oR r1, oR r2] [(.ref r0)]) _
    refine XS.aloadN X10.here hx rfl (hb hby d1_24) rfl rfl ?_
    show oP p e below T10 (mkF m 25 #[oR r0, oR r1, oR r2] [(.ref r2), (.ref r0)]) _
    refine st13 _ ?_
    show oP p e below T13 (mkF m 28 #[oR r0, oR r1, oR r2] []) _
    exact X13.returnOut hx Bd.returns (hb hby d1_28) hr
  · show (none : Option Value) = none ∧ Fr n0 _ ∧ Keep h0 T13.heap [r0] ∧ Exa Z T13.heap r0 "com/example/tempofold/tempofold/model/Rule" ∧ Fld Z T13.heap r0 "com/example/tempofold/tempofold/model/Rule" "method" "Lcom/example/tempofold/tempofold/model/Method;" (.ref r1) ∧ Fld Z T13.heap r0 "com/example/tempofold/tempofold/model/Rule" "skip" "Lcom/example/tempofold/tempofold/model/Skip;" (.ref r2)
    rw [e13]
    have fx15 := (fx11.wr W13)
    have fx16 := (Fw10.other W13 (Or.inr (slot_ne (Or.inr (hw _ (List.mem_of_getElem? (i := 74) rfl))) (Or.inr (hw _ (List.mem_of_getElem? (i := 76) rfl))) (by decide) (t := (.object "com/example/tempofold/tempofold/model/Method")) (t' := (.object "com/example/tempofold/tempofold/model/Skip")) (by decide) (by decide))))
    exact ⟨rfl, N13, Kc13, fx15, fx16, Fw13⟩
theorem d5_0 : decode prog_67_method_4_code 0 = .ok (.aload_n 1, 1) := by decide +kernel
theorem d5_1 : decode prog_67_method_4_code 1 = .ok (.instanceof 18, 3) := by decide +kernel
theorem d5_4 : decode prog_67_method_4_code 4 = .ok (.ifCond .eq 35, 3) := by decide +kernel
theorem d5_7 : decode prog_67_method_4_code 7 = .ok (.aload_n 0, 1) := by decide +kernel
theorem d5_8 : decode prog_67_method_4_code 8 = .ok (.getfield 17, 3) := by decide +kernel
theorem d5_11 : decode prog_67_method_4_code 11 = .ok (.aload_n 1, 1) := by decide +kernel
theorem d5_12 : decode prog_67_method_4_code 12 = .ok (.checkcast 18, 3) := by decide +kernel
theorem d5_15 : decode prog_67_method_4_code 15 = .ok (.getfield 17, 3) := by decide +kernel
theorem d5_18 : decode prog_67_method_4_code 18 = .ok (.if_acmp .ne 21, 3) := by decide +kernel
theorem d5_21 : decode prog_67_method_4_code 21 = .ok (.aload_n 0, 1) := by decide +kernel
theorem d5_22 : decode prog_67_method_4_code 22 = .ok (.getfield 22, 3) := by decide +kernel
theorem d5_25 : decode prog_67_method_4_code 25 = .ok (.aload_n 1, 1) := by decide +kernel
theorem d5_26 : decode prog_67_method_4_code 26 = .ok (.checkcast 18, 3) := by decide +kernel
theorem d5_29 : decode prog_67_method_4_code 29 = .ok (.getfield 22, 3) := by decide +kernel
theorem d5_32 : decode prog_67_method_4_code 32 = .ok (.if_acmp .ne 7, 3) := by decide +kernel
theorem d5_35 : decode prog_67_method_4_code 35 = .ok (.iconst 1, 1) := by decide +kernel
theorem d5_36 : decode prog_67_method_4_code 36 = .ok (.goto 4, 3) := by decide +kernel
theorem d5_40 : decode prog_67_method_4_code 40 = .ok (.ireturn, 1) := by decide +kernel
theorem d5_39 : decode prog_67_method_4_code 39 = .ok (.iconst 0, 1) := by decide +kernel
def fn5q (Z : State) (r0 : Addr) (r1 : Addr) (m1 : Addr) (s1 : Addr) (m2 : Addr) (s2 : Addr) : Int32 :=
  if m1 = m2 then
    if s1 = s2 then
      (1 : Int32)
    else
      (0 : Int32)
  else
    (0 : Int32)
theorem ef_5q (m : MethodId) (x0 : Addr) (x1 : Addr) : entryFrame m #[(.ref x0), (.ref x1)] 2 = mkF m 0 #[.val (.ref x0), .val (.ref x1)] [] := by first | (simp [entryFrame, mkF, argsToLocals, Value.category]; done) | rfl
set_option maxRecDepth 65536 in
set_option maxHeartbeats 40000000 in
theorem rm5q (l : Launch) (Z : State) (a0 : Array Value) (hw : ∀ d ∈ tables_1, d.before a0 Z = true) (hS : St Z) (ws : List Jvm.Cond) (r0 : Addr) (r1 : Addr) (m1 : Addr) (s1 : Addr) (m2 : Addr) (s2 : Addr) (h0 : Heap) (n0 : Nat) (O0 : Old Z n0 h0) (E_r1 : Exa Z h0 r1 "com/example/tempofold/tempofold/model/Rule") (F_method_r0 : Fld Z h0 r0 "com/example/tempofold/tempofold/model/Rule" "method" "Lcom/example/tempofold/tempofold/model/Method;" (.ref m1)) (F_skip_r0 : Fld Z h0 r0 "com/example/tempofold/tempofold/model/Rule" "skip" "Lcom/example/tempofold/tempofold/model/Skip;" (.ref s1)) (F_method_r1 : Fld Z h0 r1 "com/example/tempofold/tempofold/model/Rule" "method" "Lcom/example/tempofold/tempofold/model/Method;" (.ref m2)) (F_skip_r1 : Fld Z h0 r1 "com/example/tempofold/tempofold/model/Rule" "skip" "Lcom/example/tempofold/tempofold/model/Skip;" (.ref s2)) :
    MetFree l (⟨"com/example/tempofold/tempofold/model/Rule", "equals", "(Ljava/lang/Object;)Z"⟩ : MethodName) (head1 (Jvm.Cond.code (⟨"com/example/tempofold/tempofold/model/Rule", "equals", "(Ljava/lang/Object;)Z"⟩ : MethodName) prog_67_method_4_code 2 (some .boolean) :: ws) ({ frames := 0, cells := 0, slots := 0, locals := 0 } : Room)) (fun a U => a = #[(.ref r0), (.ref r1)] ∧ Z.Warmed39 U.vm ∧ U.heap = h0) (fun _ _ _ _ _ => True) (fun _ U o U' => ∃ v L, o = .returned v ∧ own_Q (fun v hE L => v = some (.int (fn5q Z r0 r1 m1 s1 m2 s2)) ∧ Fr n0 L ∧ Keep h0 hE []) v U'.heap L ∧ FrameEnd U o U' L ({ frames := 0, cells := 0, slots := 0, locals := 0 } : Room).cells ({ frames := 0, cells := 0, slots := 0, locals := 0 } : Room).slots) := by
  refine MetFree.of_bodySF (plainFor_of_name pn_2) hisR ?_
  intro p e s m args below meth c s₁ Bd hml0 hP hK
  obtain ⟨rfl, hZ, hh⟩ := hP
  have hx := Bd.exec
  have hby := Bd.bytes
  have hml : c.maxLocals = 2 := hml0
  have hown : s.vm.findClass "com/example/tempofold/tempofold/model/Rule" = some m.cls := findClass_of_methodNamed Bd.named
  have hnm := (name_of_methodNamed Bd.named Bd.method).1
  have X0 : Stand p l e ({ frames := 0, cells := 0, slots := 0, locals := 0 } : Room) s m #[(.ref r0), (.ref r1)] below meth c s₁ [] 0 0 := Stand.of_body Bd
  have e0 : s₁.heap = h0 := by rw [← hh, Bd.state]; rfl
  have N0 := Fr.nil n0
  have pre0 : ∀ t, Steps p.tables e below (s₁.setTop (mkF m 0 #[oR r0, oR r1] [])) t → Steps p.tables e below (s₁.setTop (entryFrame m #[(.ref r0), (.ref r1)] 2)) t := fun t k => castTop (ef_5q m r0 r1) k
  obtain ⟨T17, X17, e17, st17⟩ := instY X0 hx hZ hown (hw _ (List.mem_of_getElem? (i := 82) rfl)) e0 (Ins.of_exa E_r1 (hw _ (List.mem_of_getElem? (i := 83) rfl))) (g := (mkF m 1 #[oR r0, oR r1] [(.ref r1)])) rfl rfl (hb hby d5_1)
  obtain ⟨T18, X18, e18, st18⟩ := getF X17 hx hZ hown (host := "") (Or.inl (hw _ (List.mem_of_getElem? (i := 73) rfl))) Via.refl e17 F_method_r0 (g := (mkF m 8 #[oR r0, oR r1] [(.ref r0)])) rfl rfl (hb hby d5_8)
  obtain ⟨T19, X19, e19, st19⟩ := castY X18 hx hZ hown (hw _ (List.mem_of_getElem? (i := 82) rfl)) e18 (Ins.of_exa E_r1 (hw _ (List.mem_of_getElem? (i := 83) rfl))) (g := (mkF m 12 #[oR r0, oR r1] [(.ref r1), (.ref m1)])) rfl rfl (hb hby d5_12)
  obtain ⟨T20, X20, e20, st20⟩ := getF X19 hx hZ hown (host := "") (Or.inl (hw _ (List.mem_of_getElem? (i := 73) rfl))) Via.refl e19 F_method_r1 (g := (mkF m 15 #[oR r0, oR r1] [(.ref r1), (.ref m1)])) rfl rfl (hb hby d5_15)
  have pre21 : ∀ t, oP p e below T20 (mkF m 18 #[oR r0, oR r1] [(.ref m2), (.ref m1)]) t → oP p e below s₁ (entryFrame m #[(.ref r0), (.ref r1)] 2) t := fun t k => pre0 t (by
    show oP p e below s₁ (mkF m 0 #[oR r0, oR r1] []) _
    refine XS.aloadN X0.here hx rfl (hb hby d5_0) rfl rfl ?_
    show oP p e below s₁ (mkF m 1 #[oR r0, oR r1] [(.ref r1)]) _
    refine st17 _ ?_
    show oP p e below T17 (mkF m 4 #[oR r0, oR r1] [(.int (1 : Int32))]) _
    refine XS.ifNo X17.here hx rfl (hb hby d5_4) rfl ((if0 _ _).trans (feq (by decide : ¬ ((1 : Int32) = (0 : Int32)))).1) ?_
    show oP p e below T17 (mkF m 7 #[oR r0, oR r1] []) _
    refine XS.aloadN X17.here hx rfl (hb hby d5_7) rfl rfl ?_
    show oP p e below T17 (mkF m 8 #[oR r0, oR r1] [(.ref r0)]) _
    refine st18 _ ?_
    show oP p e below T18 (mkF m 11 #[oR r0, oR r1] [(.ref m1)]) _
    refine XS.aloadN X18.here hx rfl (hb hby d5_11) rfl rfl ?_
    show oP p e below T18 (mkF m 12 #[oR r0, oR r1] [(.ref r1), (.ref m1)]) _
    refine st19 _ ?_
    show oP p e below T19 (mkF m 15 #[oR r0, oR r1] [(.ref r1), (.ref m1)]) _
    refine st20 _ ?_
    exact k)
  by_cases hc22 : m1 = m2
  · obtain ⟨T23, X23, e23, st23⟩ := getF X20 hx hZ hown (host := "") (Or.inl (hw _ (List.mem_of_getElem? (i := 75) rfl))) Via.refl e20 F_skip_r0 (g := (mkF m 22 #[oR r0, oR r1] [(.ref r0)])) rfl rfl (hb hby d5_22)
    obtain ⟨T24, X24, e24, st24⟩ := castY X23 hx hZ hown (hw _ (List.mem_of_getElem? (i := 82) rfl)) e23 (Ins.of_exa E_r1 (hw _ (List.mem_of_getElem? (i := 83) rfl))) (g := (mkF m 26 #[oR r0, oR r1] [(.ref r1), (.ref s1)])) rfl rfl (hb hby d5_26)
    obtain ⟨T25, X25, e25, st25⟩ := getF X24 hx hZ hown (host := "") (Or.inl (hw _ (List.mem_of_getElem? (i := 75) rfl))) Via.refl e24 F_skip_r1 (g := (mkF m 29 #[oR r0, oR r1] [(.ref r1), (.ref s1)])) rfl rfl (hb hby d5_29)
    have pre26 : ∀ t, oP p e below T25 (mkF m 32 #[oR r0, oR r1] [(.ref s2), (.ref s1)]) t → oP p e below s₁ (entryFrame m #[(.ref r0), (.ref r1)] 2) t := fun t k => pre21 t (by
      show oP p e below T20 (mkF m 18 #[oR r0, oR r1] [(.ref m2), (.ref m1)]) _
      refine Jvm.RoadKit.acmp (g := (mkF m 18 #[oR r0, oR r1] [(.ref m2), (.ref m1)])) X20 hx rfl rfl rfl (pc0 := 18) (pc' := 21) (same := true) rfl (hb hby d5_18) rfl (decide_eq_true (congrArg Value.ref hc22)) (by decide) (by decide) ?_
      show oP p e below T20 (mkF m 21 #[oR r0, oR r1] []) _
      refine XS.aloadN X20.here hx rfl (hb hby d5_21) rfl rfl ?_
      show oP p e below T20 (mkF m 22 #[oR r0, oR r1] [(.ref r0)]) _
      refine st23 _ ?_
      show oP p e below T23 (mkF m 25 #[oR r0, oR r1] [(.ref s1)]) _
      refine XS.aloadN X23.here hx rfl (hb hby d5_25) rfl rfl ?_
      show oP p e below T23 (mkF m 26 #[oR r0, oR r1] [(.ref r1), (.ref s1)]) _
      refine st24 _ ?_
      show oP p e below T24 (mkF m 29 #[oR r0, oR r1] [(.ref r1), (.ref s1)]) _
      refine st25 _ ?_
      exact k)
    by_cases hc27 : s1 = s2
    · obtain ⟨fs, hr, hrun, hended, hW, hsame⟩ := X25.leave (v := some (.int (1 : Int32))) (fun h => by rw [Bd.returns] at h; cases h)
      refine ⟨_, _, pre26 _ ?_, hrun, hended, _, _, rfl, ?_, ⟨_, rfl⟩, hW, hsame.mono (by decide) (by decide)⟩
      · show oP p e below T25 (mkF m 32 #[oR r0, oR r1] [(.ref s2), (.ref s1)]) _
        refine Jvm.RoadKit.acmp (g := (mkF m 32 #[oR r0, oR r1] [(.ref s2), (.ref s1)])) X25 hx rfl rfl rfl (pc0 := 32) (pc' := 35) (same := true) rfl (hb hby d5_32) rfl (decide_eq_true (congrArg Value.ref hc27)) (by decide) (by decide) ?_
        show oP p e below T25 (mkF m 35 #[oR r0, oR r1] []) _
        refine XS.iconst X25.here hx rfl (hb hby d5_35) ?_
        show oP p e below T25 (mkF m 36 #[oR r0, oR r1] [(.int (1 : Int32))]) _
        refine XS.goto X25.here hx rfl (pc0 := 36) (pc' := 40) rfl (hb hby d5_36) (by decide) (by decide) ?_
        show oP p e below T25 (mkF m 40 #[oR r0, oR r1] [(.int (1 : Int32))]) _
        exact retN X25 hx (t := .boolean) Bd.returns (by simp) (hb hby d5_40) hr
      · show (some (.int (1 : Int32)) : Option Value) = some (.int (fn5q Z r0 r1 m1 s1 m2 s2)) ∧ Fr n0 _ ∧ Keep h0 T25.heap []
        rw [e25]
        refine ⟨?_, N0, (Keep.refl h0 [])⟩
        unfold fn5q
        rw [if_pos hc22, if_pos hc27]
    · obtain ⟨fs, hr, hrun, hended, hW, hsame⟩ := X25.leave (v := some (.int (0 : Int32))) (fun h => by rw [Bd.returns] at h; cases h)
      refine ⟨_, _, pre26 _ ?_, hrun, hended, _, _, rfl, ?_, ⟨_, rfl⟩, hW, hsame.mono (by decide) (by decide)⟩
      · show oP p e below T25 (mkF m 32 #[oR r0, oR r1] [(.ref s2), (.ref s1)]) _
        refine Jvm.RoadKit.acmp (g := (mkF m 32 #[oR r0, oR r1] [(.ref s2), (.ref s1)])) X25 hx rfl rfl rfl (pc0 := 32) (pc' := 39) (same := false) rfl (hb hby d5_32) rfl (decide_eq_false fun q => hc27 (Value.ref.inj q)) (by decide) (by decide) ?_
        show oP p e below T25 (mkF m 39 #[oR r0, oR r1] []) _
        refine XS.iconst X25.here hx rfl (hb hby d5_39) ?_
        show oP p e below T25 (mkF m 40 #[oR r0, oR r1] [(.int (0 : Int32))]) _
        exact retN X25 hx (t := .boolean) Bd.returns (by simp) (hb hby d5_40) hr
      · show (some (.int (0 : Int32)) : Option Value) = some (.int (fn5q Z r0 r1 m1 s1 m2 s2)) ∧ Fr n0 _ ∧ Keep h0 T25.heap []
        rw [e25]
        refine ⟨?_, N0, (Keep.refl h0 [])⟩
        unfold fn5q
        rw [if_pos hc22, if_neg hc27]
  · obtain ⟨fs, hr, hrun, hended, hW, hsame⟩ := X20.leave (v := some (.int (0 : Int32))) (fun h => by rw [Bd.returns] at h; cases h)
    refine ⟨_, _, pre21 _ ?_, hrun, hended, _, _, rfl, ?_, ⟨_, rfl⟩, hW, hsame.mono (by decide) (by decide)⟩
    · show oP p e below T20 (mkF m 18 #[oR r0, oR r1] [(.ref m2), (.ref m1)]) _
      refine Jvm.RoadKit.acmp (g := (mkF m 18 #[oR r0, oR r1] [(.ref m2), (.ref m1)])) X20 hx rfl rfl rfl (pc0 := 18) (pc' := 39) (same := false) rfl (hb hby d5_18) rfl (decide_eq_false fun q => hc22 (Value.ref.inj q)) (by decide) (by decide) ?_
      show oP p e below T20 (mkF m 39 #[oR r0, oR r1] []) _
      refine XS.iconst X20.here hx rfl (hb hby d5_39) ?_
      show oP p e below T20 (mkF m 40 #[oR r0, oR r1] [(.int (0 : Int32))]) _
      exact retN X20 hx (t := .boolean) Bd.returns (by simp) (hb hby d5_40) hr
    · show (some (.int (0 : Int32)) : Option Value) = some (.int (fn5q Z r0 r1 m1 s1 m2 s2)) ∧ Fr n0 _ ∧ Keep h0 T20.heap []
      rw [e20]
      refine ⟨?_, N0, (Keep.refl h0 [])⟩
      unfold fn5q
      rw [if_neg hc22]
def fn5n (Z : State) (r0 : Addr) : Int32 :=
  (0 : Int32)
theorem ef_5n (m : MethodId) (x0 : Addr) : entryFrame m #[(.ref x0), .null] 2 = mkF m 0 #[.val (.ref x0), .val .null] [] := by first | (simp [entryFrame, mkF, argsToLocals, Value.category]; done) | rfl
set_option maxRecDepth 65536 in
set_option maxHeartbeats 40000000 in
theorem rm5n (l : Launch) (Z : State) (a0 : Array Value) (hw : ∀ d ∈ tables_1, d.before a0 Z = true) (hS : St Z) (ws : List Jvm.Cond) (r0 : Addr) (h0 : Heap) (n0 : Nat) (O0 : Old Z n0 h0) :
    MetFree l (⟨"com/example/tempofold/tempofold/model/Rule", "equals", "(Ljava/lang/Object;)Z"⟩ : MethodName) (head1 (Jvm.Cond.code (⟨"com/example/tempofold/tempofold/model/Rule", "equals", "(Ljava/lang/Object;)Z"⟩ : MethodName) prog_67_method_4_code 2 (some .boolean) :: ws) ({ frames := 0, cells := 0, slots := 0, locals := 0 } : Room)) (fun a U => a = #[(.ref r0), .null] ∧ Z.Warmed39 U.vm ∧ U.heap = h0) (fun _ _ _ _ _ => True) (fun _ U o U' => ∃ v L, o = .returned v ∧ own_Q (fun v hE L => v = some (.int (fn5n Z r0)) ∧ Fr n0 L ∧ Keep h0 hE []) v U'.heap L ∧ FrameEnd U o U' L ({ frames := 0, cells := 0, slots := 0, locals := 0 } : Room).cells ({ frames := 0, cells := 0, slots := 0, locals := 0 } : Room).slots) := by
  refine MetFree.of_bodySF (plainFor_of_name pn_2) hisR ?_
  intro p e s m args below meth c s₁ Bd hml0 hP hK
  obtain ⟨rfl, hZ, hh⟩ := hP
  have hx := Bd.exec
  have hby := Bd.bytes
  have hml : c.maxLocals = 2 := hml0
  have hown : s.vm.findClass "com/example/tempofold/tempofold/model/Rule" = some m.cls := findClass_of_methodNamed Bd.named
  have hnm := (name_of_methodNamed Bd.named Bd.method).1
  have X0 : Stand p l e ({ frames := 0, cells := 0, slots := 0, locals := 0 } : Room) s m #[(.ref r0), .null] below meth c s₁ [] 0 0 := Stand.of_body Bd
  have e0 : s₁.heap = h0 := by rw [← hh, Bd.state]; rfl
  have N0 := Fr.nil n0
  have pre0 : ∀ t, Steps p.tables e below (s₁.setTop (mkF m 0 #[oR r0, oN] [])) t → Steps p.tables e below (s₁.setTop (entryFrame m #[(.ref r0), .null] 2)) t := fun t k => castTop (ef_5n m r0) k
  obtain ⟨fs, hr, hrun, hended, hW, hsame⟩ := X0.leave (v := some (.int (0 : Int32))) (fun h => by rw [Bd.returns] at h; cases h)
  refine ⟨_, _, pre0 _ ?_, hrun, hended, _, _, rfl, ?_, ⟨_, rfl⟩, hW, hsame.mono (by decide) (by decide)⟩
  · show oP p e below s₁ (mkF m 0 #[oR r0, oN] []) _
    refine XS.aloadN X0.here hx rfl (hb hby d5_0) rfl rfl ?_
    show oP p e below s₁ (mkF m 1 #[oR r0, oN] [.null]) _
    refine X0.instanceofNull hx (g := (mkF m 1 #[oR r0, oN] [.null])) rfl rfl (hb hby d5_1) _ ?_
    show oP p e below s₁ (mkF m 4 #[oR r0, oN] [(.int (0 : Int32))]) _
    refine XS.ifYes X0.here hx rfl (pc0 := 4) (pc' := 39) rfl (hb hby d5_4) rfl ((if0 _ _).trans (teq (by decide : (0 : Int32) = (0 : Int32))).1) (by decide) (by decide) ?_
    show oP p e below s₁ (mkF m 39 #[oR r0, oN] []) _
    refine XS.iconst X0.here hx rfl (hb hby d5_39) ?_
    show oP p e below s₁ (mkF m 40 #[oR r0, oN] [(.int (0 : Int32))]) _
    exact retN X0 hx (t := .boolean) Bd.returns (by simp) (hb hby d5_40) hr
  · show (some (.int (0 : Int32)) : Option Value) = some (.int (fn5n Z r0)) ∧ Fr n0 _ ∧ Keep h0 s₁.heap []
    rw [e0]
    refine ⟨?_, N0, (Keep.refl h0 [])⟩
    rfl
def fn5o (Z : State) (r0 : Addr) (r1 : Addr) (KC : String) : Int32 :=
  (0 : Int32)
theorem ef_5o (m : MethodId) (x0 : Addr) (x1 : Addr) : entryFrame m #[(.ref x0), (.ref x1)] 2 = mkF m 0 #[.val (.ref x0), .val (.ref x1)] [] := by first | (simp [entryFrame, mkF, argsToLocals, Value.category]; done) | rfl
set_option maxRecDepth 65536 in
set_option maxHeartbeats 40000000 in
theorem rm5o (l : Launch) (Z : State) (a0 : Array Value) (hw : ∀ d ∈ tables_1, d.before a0 Z = true) (hS : St Z) (ws : List Jvm.Cond) (r0 : Addr) (r1 : Addr) (KC : String) (h0 : Heap) (n0 : Nat) (O0 : Old Z n0 h0) (E_r1 : Exa Z h0 r1 KC) (hno : ∃ c t, Z.vm.findClass KC = some c ∧ Z.vm.findClass "com/example/tempofold/tempofold/model/Rule" = some t ∧ Z.vm.assignable c t = false) :
    MetFree l (⟨"com/example/tempofold/tempofold/model/Rule", "equals", "(Ljava/lang/Object;)Z"⟩ : MethodName) (head1 (Jvm.Cond.code (⟨"com/example/tempofold/tempofold/model/Rule", "equals", "(Ljava/lang/Object;)Z"⟩ : MethodName) prog_67_method_4_code 2 (some .boolean) :: ws) ({ frames := 0, cells := 0, slots := 0, locals := 0 } : Room)) (fun a U => a = #[(.ref r0), (.ref r1)] ∧ Z.Warmed39 U.vm ∧ U.heap = h0) (fun _ _ _ _ _ => True) (fun _ U o U' => ∃ v L, o = .returned v ∧ own_Q (fun v hE L => v = some (.int (fn5o Z r0 r1 KC)) ∧ Fr n0 L ∧ Keep h0 hE []) v U'.heap L ∧ FrameEnd U o U' L ({ frames := 0, cells := 0, slots := 0, locals := 0 } : Room).cells ({ frames := 0, cells := 0, slots := 0, locals := 0 } : Room).slots) := by
  refine MetFree.of_bodySF (plainFor_of_name pn_2) hisR ?_
  intro p e s m args below meth c s₁ Bd hml0 hP hK
  obtain ⟨rfl, hZ, hh⟩ := hP
  have hx := Bd.exec
  have hby := Bd.bytes
  have hml : c.maxLocals = 2 := hml0
  have hown : s.vm.findClass "com/example/tempofold/tempofold/model/Rule" = some m.cls := findClass_of_methodNamed Bd.named
  have hnm := (name_of_methodNamed Bd.named Bd.method).1
  have X0 : Stand p l e ({ frames := 0, cells := 0, slots := 0, locals := 0 } : Room) s m #[(.ref r0), (.ref r1)] below meth c s₁ [] 0 0 := Stand.of_body Bd
  have e0 : s₁.heap = h0 := by rw [← hh, Bd.state]; rfl
  have N0 := Fr.nil n0
  have pre0 : ∀ t, Steps p.tables e below (s₁.setTop (mkF m 0 #[oR r0, oR r1] [])) t → Steps p.tables e below (s₁.setTop (entryFrame m #[(.ref r0), (.ref r1)] 2)) t := fun t k => castTop (ef_5o m r0 r1) k
  obtain ⟨T28, X28, e28, st28⟩ := instNo X0 hx hZ hown (hw _ (List.mem_of_getElem? (i := 82) rfl)) e0 E_r1 hno (g := (mkF m 1 #[oR r0, oR r1] [(.ref r1)])) rfl rfl (hb hby d5_1)
  obtain ⟨fs, hr, hrun, hended, hW, hsame⟩ := X28.leave (v := some (.int (0 : Int32))) (fun h => by rw [Bd.returns] at h; cases h)
  refine ⟨_, _, pre0 _ ?_, hrun, hended, _, _, rfl, ?_, ⟨_, rfl⟩, hW, hsame.mono (by decide) (by decide)⟩
  · show oP p e below s₁ (mkF m 0 #[oR r0, oR r1] []) _
    refine XS.aloadN X0.here hx rfl (hb hby d5_0) rfl rfl ?_
    show oP p e below s₁ (mkF m 1 #[oR r0, oR r1] [(.ref r1)]) _
    refine st28 _ ?_
    show oP p e below T28 (mkF m 4 #[oR r0, oR r1] [(.int (0 : Int32))]) _
    refine XS.ifYes X28.here hx rfl (pc0 := 4) (pc' := 39) rfl (hb hby d5_4) rfl ((if0 _ _).trans (teq (by decide : (0 : Int32) = (0 : Int32))).1) (by decide) (by decide) ?_
    show oP p e below T28 (mkF m 39 #[oR r0, oR r1] []) _
    refine XS.iconst X28.here hx rfl (hb hby d5_39) ?_
    show oP p e below T28 (mkF m 40 #[oR r0, oR r1] [(.int (0 : Int32))]) _
    exact retN X28 hx (t := .boolean) Bd.returns (by simp) (hb hby d5_40) hr
  · show (some (.int (0 : Int32)) : Option Value) = some (.int (fn5o Z r0 r1 KC)) ∧ Fr n0 _ ∧ Keep h0 T28.heap []
    rw [e28]
    refine ⟨?_, N0, (Keep.refl h0 [])⟩
    rfl
theorem rng_rem10 (k : Int32) : ((k &&& (2147483647 : Int32)) - ((k &&& (2147483647 : Int32)) / (10 : Int32)) * (10 : Int32)) = (0 : Int32) ∨ ((k &&& (2147483647 : Int32)) - ((k &&& (2147483647 : Int32)) / (10 : Int32)) * (10 : Int32)) = (1 : Int32) ∨ ((k &&& (2147483647 : Int32)) - ((k &&& (2147483647 : Int32)) / (10 : Int32)) * (10 : Int32)) = (2 : Int32) ∨ ((k &&& (2147483647 : Int32)) - ((k &&& (2147483647 : Int32)) / (10 : Int32)) * (10 : Int32)) = (3 : Int32) ∨ ((k &&& (2147483647 : Int32)) - ((k &&& (2147483647 : Int32)) / (10 : Int32)) * (10 : Int32)) = (4 : Int32) ∨ ((k &&& (2147483647 : Int32)) - ((k &&& (2147483647 : Int32)) / (10 : Int32)) * (10 : Int32)) = (5 : Int32) ∨ ((k &&& (2147483647 : Int32)) - ((k &&& (2147483647 : Int32)) / (10 : Int32)) * (10 : Int32)) = (6 : Int32) ∨ ((k &&& (2147483647 : Int32)) - ((k &&& (2147483647 : Int32)) / (10 : Int32)) * (10 : Int32)) = (7 : Int32) ∨ ((k &&& (2147483647 : Int32)) - ((k &&& (2147483647 : Int32)) / (10 : Int32)) * (10 : Int32)) = (8 : Int32) ∨ ((k &&& (2147483647 : Int32)) - ((k &&& (2147483647 : Int32)) / (10 : Int32)) * (10 : Int32)) = (9 : Int32) := by
  have h := own_rem (own_and_le k 2147483647 (by decide)).1 (y := 10) (by decide)
  have h5 : (10 : Int32).toInt = 10 := by decide
  rw [h5] at h
  obtain ⟨j, hj, e⟩ := own_mem (n := 10) (i := ((k &&& (2147483647 : Int32)) - ((k &&& (2147483647 : Int32)) / (10 : Int32)) * (10 : Int32))) (by omega) (by omega)
  rw [e]
  match j, hj with
  | 0, _ => decide
  | 1, _ => decide
  | 2, _ => decide
  | 3, _ => decide
  | 4, _ => decide
  | 5, _ => decide
  | 6, _ => decide
  | 7, _ => decide
  | 8, _ => decide
  | 9, _ => decide
theorem rng_rem4 (k : Int32) : ((k &&& (2147483647 : Int32)) - ((k &&& (2147483647 : Int32)) / (4 : Int32)) * (4 : Int32)) = (0 : Int32) ∨ ((k &&& (2147483647 : Int32)) - ((k &&& (2147483647 : Int32)) / (4 : Int32)) * (4 : Int32)) = (1 : Int32) ∨ ((k &&& (2147483647 : Int32)) - ((k &&& (2147483647 : Int32)) / (4 : Int32)) * (4 : Int32)) = (2 : Int32) ∨ ((k &&& (2147483647 : Int32)) - ((k &&& (2147483647 : Int32)) / (4 : Int32)) * (4 : Int32)) = (3 : Int32) := by
  have h := own_rem (own_and_le k 2147483647 (by decide)).1 (y := 4) (by decide)
  have h5 : (4 : Int32).toInt = 4 := by decide
  rw [h5] at h
  obtain ⟨j, hj, e⟩ := own_mem (n := 4) (i := ((k &&& (2147483647 : Int32)) - ((k &&& (2147483647 : Int32)) / (4 : Int32)) * (4 : Int32))) (by omega) (by omega)
  rw [e]
  match j, hj with
  | 0, _ => decide
  | 1, _ => decide
  | 2, _ => decide
  | 3, _ => decide
theorem rng_mask3 (k : Int32) : (k &&& (3 : Int32)) = (0 : Int32) ∨ (k &&& (3 : Int32)) = (1 : Int32) ∨ (k &&& (3 : Int32)) = (2 : Int32) ∨ (k &&& (3 : Int32)) = (3 : Int32) := by
  have h := own_and_le k 3 (by decide)
  obtain ⟨j, hj, e⟩ := own_mem (n := 4) h.1 (Int.lt_of_le_of_lt h.2 (by decide))
  rw [e]
  match j, hj with
  | 0, _ => decide
  | 1, _ => decide
  | 2, _ => decide
  | 3, _ => decide
def sel1 (Z : State) (i : Int32) : Addr := if i = (0 : Int32) then (a_FLOW Z) else if i = (1 : Int32) then (a_SUM_DAYS Z) else if i = (2 : Int32) then (a_AVERAGE Z) else if i = (3 : Int32) then (a_AVERAGE_DAYS Z) else if i = (4 : Int32) then (a_AVERAGE_DAYS_365 Z) else if i = (5 : Int32) then (a_LAST Z) else if i = (6 : Int32) then (a_FIRST Z) else if i = (7 : Int32) then (a_COMPOUND Z) else if i = (8 : Int32) then (a_FILL Z) else (a_EQUAL_ALLOCATION_BALANCE Z)
theorem sel1_at (Z : State) {i : Int32} (r : i = (0 : Int32) ∨ i = (1 : Int32) ∨ i = (2 : Int32) ∨ i = (3 : Int32) ∨ i = (4 : Int32) ∨ i = (5 : Int32) ∨ i = (6 : Int32) ∨ i = (7 : Int32) ∨ i = (8 : Int32) ∨ i = (9 : Int32)) : ([(.ref (a_FLOW Z)), (.ref (a_SUM_DAYS Z)), (.ref (a_AVERAGE Z)), (.ref (a_AVERAGE_DAYS Z)), (.ref (a_AVERAGE_DAYS_365 Z)), (.ref (a_LAST Z)), (.ref (a_FIRST Z)), (.ref (a_COMPOUND Z)), (.ref (a_FILL Z)), (.ref (a_EQUAL_ALLOCATION_BALANCE Z))] : List Value).getD i.toNatClampNeg .null = .ref (sel1 Z i) := by
  rcases r with rfl | rfl | rfl | rfl | rfl | rfl | rfl | rfl | rfl | rfl <;> rfl
theorem sel1_in {i : Int32} (r : i = (0 : Int32) ∨ i = (1 : Int32) ∨ i = (2 : Int32) ∨ i = (3 : Int32) ∨ i = (4 : Int32) ∨ i = (5 : Int32) ∨ i = (6 : Int32) ∨ i = (7 : Int32) ∨ i = (8 : Int32) ∨ i = (9 : Int32)) : ¬ i < 0 ∧ i < (10 : Int32) := by
  rcases r with rfl | rfl | rfl | rfl | rfl | rfl | rfl | rfl | rfl | rfl <;> decide
theorem sel1_inj {Z : State} (hS : St Z) {i j : Int32} (r : i = (0 : Int32) ∨ i = (1 : Int32) ∨ i = (2 : Int32) ∨ i = (3 : Int32) ∨ i = (4 : Int32) ∨ i = (5 : Int32) ∨ i = (6 : Int32) ∨ i = (7 : Int32) ∨ i = (8 : Int32) ∨ i = (9 : Int32)) (r2 : j = (0 : Int32) ∨ j = (1 : Int32) ∨ j = (2 : Int32) ∨ j = (3 : Int32) ∨ j = (4 : Int32) ∨ j = (5 : Int32) ∨ j = (6 : Int32) ∨ j = (7 : Int32) ∨ j = (8 : Int32) ∨ j = (9 : Int32)) (q : sel1 Z i = sel1 Z j) : i = j := by
  have k0 := (ne_exa (e_a_FLOW hS) (e_a_SUM_DAYS hS) (by decide))
  have k1 := (ne_exa (e_a_FLOW hS) (e_a_AVERAGE hS) (by decide))
  have k2 := (ne_exa (e_a_FLOW hS) (e_a_AVERAGE_DAYS hS) (by decide))
  have k3 := (ne_exa (e_a_FLOW hS) (e_a_AVERAGE_DAYS_365 hS) (by decide))
  have k4 := (ne_exa (e_a_FLOW hS) (e_a_LAST hS) (by decide))
  have k5 := (ne_exa (e_a_FLOW hS) (e_a_FIRST hS) (by decide))
  have k6 := (ne_exa (e_a_FLOW hS) (e_a_COMPOUND hS) (by decide))
  have k7 := (ne_exa (e_a_FLOW hS) (e_a_FILL hS) (by decide))
  have k8 := (ne_exa (e_a_FLOW hS) (e_a_EQUAL_ALLOCATION_BALANCE hS) (by decide))
  have k9 := (ne_exa (e_a_SUM_DAYS hS) (e_a_AVERAGE hS) (by decide))
  have k10 := (ne_exa (e_a_SUM_DAYS hS) (e_a_AVERAGE_DAYS hS) (by decide))
  have k11 := (ne_exa (e_a_SUM_DAYS hS) (e_a_AVERAGE_DAYS_365 hS) (by decide))
  have k12 := (ne_exa (e_a_SUM_DAYS hS) (e_a_LAST hS) (by decide))
  have k13 := (ne_exa (e_a_SUM_DAYS hS) (e_a_FIRST hS) (by decide))
  have k14 := (ne_exa (e_a_SUM_DAYS hS) (e_a_COMPOUND hS) (by decide))
  have k15 := (ne_exa (e_a_SUM_DAYS hS) (e_a_FILL hS) (by decide))
  have k16 := (ne_exa (e_a_SUM_DAYS hS) (e_a_EQUAL_ALLOCATION_BALANCE hS) (by decide))
  have k17 := (ne_exa (e_a_AVERAGE hS) (e_a_AVERAGE_DAYS hS) (by decide))
  have k18 := (ne_exa (e_a_AVERAGE hS) (e_a_AVERAGE_DAYS_365 hS) (by decide))
  have k19 := (ne_exa (e_a_AVERAGE hS) (e_a_LAST hS) (by decide))
  have k20 := (ne_exa (e_a_AVERAGE hS) (e_a_FIRST hS) (by decide))
  have k21 := (ne_exa (e_a_AVERAGE hS) (e_a_COMPOUND hS) (by decide))
  have k22 := (ne_exa (e_a_AVERAGE hS) (e_a_FILL hS) (by decide))
  have k23 := (ne_exa (e_a_AVERAGE hS) (e_a_EQUAL_ALLOCATION_BALANCE hS) (by decide))
  have k24 := (ne_exa (e_a_AVERAGE_DAYS hS) (e_a_AVERAGE_DAYS_365 hS) (by decide))
  have k25 := (ne_exa (e_a_AVERAGE_DAYS hS) (e_a_LAST hS) (by decide))
  have k26 := (ne_exa (e_a_AVERAGE_DAYS hS) (e_a_FIRST hS) (by decide))
  have k27 := (ne_exa (e_a_AVERAGE_DAYS hS) (e_a_COMPOUND hS) (by decide))
  have k28 := (ne_exa (e_a_AVERAGE_DAYS hS) (e_a_FILL hS) (by decide))
  have k29 := (ne_exa (e_a_AVERAGE_DAYS hS) (e_a_EQUAL_ALLOCATION_BALANCE hS) (by decide))
  have k30 := (ne_exa (e_a_AVERAGE_DAYS_365 hS) (e_a_LAST hS) (by decide))
  have k31 := (ne_exa (e_a_AVERAGE_DAYS_365 hS) (e_a_FIRST hS) (by decide))
  have k32 := (ne_exa (e_a_AVERAGE_DAYS_365 hS) (e_a_COMPOUND hS) (by decide))
  have k33 := (ne_exa (e_a_AVERAGE_DAYS_365 hS) (e_a_FILL hS) (by decide))
  have k34 := (ne_exa (e_a_AVERAGE_DAYS_365 hS) (e_a_EQUAL_ALLOCATION_BALANCE hS) (by decide))
  have k35 := (ne_exa (e_a_LAST hS) (e_a_FIRST hS) (by decide))
  have k36 := (ne_exa (e_a_LAST hS) (e_a_COMPOUND hS) (by decide))
  have k37 := (ne_exa (e_a_LAST hS) (e_a_FILL hS) (by decide))
  have k38 := (ne_exa (e_a_LAST hS) (e_a_EQUAL_ALLOCATION_BALANCE hS) (by decide))
  have k39 := (ne_exa (e_a_FIRST hS) (e_a_COMPOUND hS) (by decide))
  have k40 := (ne_exa (e_a_FIRST hS) (e_a_FILL hS) (by decide))
  have k41 := (ne_exa (e_a_FIRST hS) (e_a_EQUAL_ALLOCATION_BALANCE hS) (by decide))
  have k42 := (ne_exa (e_a_COMPOUND hS) (e_a_FILL hS) (by decide))
  have k43 := (ne_exa (e_a_COMPOUND hS) (e_a_EQUAL_ALLOCATION_BALANCE hS) (by decide))
  have k44 := (ne_exa (e_a_FILL hS) (e_a_EQUAL_ALLOCATION_BALANCE hS) (by decide))
  have v0 : sel1 Z (0 : Int32) = (a_FLOW Z) := rfl
  have v1 : sel1 Z (1 : Int32) = (a_SUM_DAYS Z) := rfl
  have v2 : sel1 Z (2 : Int32) = (a_AVERAGE Z) := rfl
  have v3 : sel1 Z (3 : Int32) = (a_AVERAGE_DAYS Z) := rfl
  have v4 : sel1 Z (4 : Int32) = (a_AVERAGE_DAYS_365 Z) := rfl
  have v5 : sel1 Z (5 : Int32) = (a_LAST Z) := rfl
  have v6 : sel1 Z (6 : Int32) = (a_FIRST Z) := rfl
  have v7 : sel1 Z (7 : Int32) = (a_COMPOUND Z) := rfl
  have v8 : sel1 Z (8 : Int32) = (a_FILL Z) := rfl
  have v9 : sel1 Z (9 : Int32) = (a_EQUAL_ALLOCATION_BALANCE Z) := rfl
  rcases r with rfl | rfl | rfl | rfl | rfl | rfl | rfl | rfl | rfl | rfl <;> rcases r2 with rfl | rfl | rfl | rfl | rfl | rfl | rfl | rfl | rfl | rfl
  · rfl
  · exact (k0 (v0.symm.trans (q.trans v1))).elim
  · exact (k1 (v0.symm.trans (q.trans v2))).elim
  · exact (k2 (v0.symm.trans (q.trans v3))).elim
  · exact (k3 (v0.symm.trans (q.trans v4))).elim
  · exact (k4 (v0.symm.trans (q.trans v5))).elim
  · exact (k5 (v0.symm.trans (q.trans v6))).elim
  · exact (k6 (v0.symm.trans (q.trans v7))).elim
  · exact (k7 (v0.symm.trans (q.trans v8))).elim
  · exact (k8 (v0.symm.trans (q.trans v9))).elim
  · exact (k0 (v0.symm.trans (q.symm.trans v1))).elim
  · rfl
  · exact (k9 (v1.symm.trans (q.trans v2))).elim
  · exact (k10 (v1.symm.trans (q.trans v3))).elim
  · exact (k11 (v1.symm.trans (q.trans v4))).elim
  · exact (k12 (v1.symm.trans (q.trans v5))).elim
  · exact (k13 (v1.symm.trans (q.trans v6))).elim
  · exact (k14 (v1.symm.trans (q.trans v7))).elim
  · exact (k15 (v1.symm.trans (q.trans v8))).elim
  · exact (k16 (v1.symm.trans (q.trans v9))).elim
  · exact (k1 (v0.symm.trans (q.symm.trans v2))).elim
  · exact (k9 (v1.symm.trans (q.symm.trans v2))).elim
  · rfl
  · exact (k17 (v2.symm.trans (q.trans v3))).elim
  · exact (k18 (v2.symm.trans (q.trans v4))).elim
  · exact (k19 (v2.symm.trans (q.trans v5))).elim
  · exact (k20 (v2.symm.trans (q.trans v6))).elim
  · exact (k21 (v2.symm.trans (q.trans v7))).elim
  · exact (k22 (v2.symm.trans (q.trans v8))).elim
  · exact (k23 (v2.symm.trans (q.trans v9))).elim
  · exact (k2 (v0.symm.trans (q.symm.trans v3))).elim
  · exact (k10 (v1.symm.trans (q.symm.trans v3))).elim
  · exact (k17 (v2.symm.trans (q.symm.trans v3))).elim
  · rfl
  · exact (k24 (v3.symm.trans (q.trans v4))).elim
  · exact (k25 (v3.symm.trans (q.trans v5))).elim
  · exact (k26 (v3.symm.trans (q.trans v6))).elim
  · exact (k27 (v3.symm.trans (q.trans v7))).elim
  · exact (k28 (v3.symm.trans (q.trans v8))).elim
  · exact (k29 (v3.symm.trans (q.trans v9))).elim
  · exact (k3 (v0.symm.trans (q.symm.trans v4))).elim
  · exact (k11 (v1.symm.trans (q.symm.trans v4))).elim
  · exact (k18 (v2.symm.trans (q.symm.trans v4))).elim
  · exact (k24 (v3.symm.trans (q.symm.trans v4))).elim
  · rfl
  · exact (k30 (v4.symm.trans (q.trans v5))).elim
  · exact (k31 (v4.symm.trans (q.trans v6))).elim
  · exact (k32 (v4.symm.trans (q.trans v7))).elim
  · exact (k33 (v4.symm.trans (q.trans v8))).elim
  · exact (k34 (v4.symm.trans (q.trans v9))).elim
  · exact (k4 (v0.symm.trans (q.symm.trans v5))).elim
  · exact (k12 (v1.symm.trans (q.symm.trans v5))).elim
  · exact (k19 (v2.symm.trans (q.symm.trans v5))).elim
  · exact (k25 (v3.symm.trans (q.symm.trans v5))).elim
  · exact (k30 (v4.symm.trans (q.symm.trans v5))).elim
  · rfl
  · exact (k35 (v5.symm.trans (q.trans v6))).elim
  · exact (k36 (v5.symm.trans (q.trans v7))).elim
  · exact (k37 (v5.symm.trans (q.trans v8))).elim
  · exact (k38 (v5.symm.trans (q.trans v9))).elim
  · exact (k5 (v0.symm.trans (q.symm.trans v6))).elim
  · exact (k13 (v1.symm.trans (q.symm.trans v6))).elim
  · exact (k20 (v2.symm.trans (q.symm.trans v6))).elim
  · exact (k26 (v3.symm.trans (q.symm.trans v6))).elim
  · exact (k31 (v4.symm.trans (q.symm.trans v6))).elim
  · exact (k35 (v5.symm.trans (q.symm.trans v6))).elim
  · rfl
  · exact (k39 (v6.symm.trans (q.trans v7))).elim
  · exact (k40 (v6.symm.trans (q.trans v8))).elim
  · exact (k41 (v6.symm.trans (q.trans v9))).elim
  · exact (k6 (v0.symm.trans (q.symm.trans v7))).elim
  · exact (k14 (v1.symm.trans (q.symm.trans v7))).elim
  · exact (k21 (v2.symm.trans (q.symm.trans v7))).elim
  · exact (k27 (v3.symm.trans (q.symm.trans v7))).elim
  · exact (k32 (v4.symm.trans (q.symm.trans v7))).elim
  · exact (k36 (v5.symm.trans (q.symm.trans v7))).elim
  · exact (k39 (v6.symm.trans (q.symm.trans v7))).elim
  · rfl
  · exact (k42 (v7.symm.trans (q.trans v8))).elim
  · exact (k43 (v7.symm.trans (q.trans v9))).elim
  · exact (k7 (v0.symm.trans (q.symm.trans v8))).elim
  · exact (k15 (v1.symm.trans (q.symm.trans v8))).elim
  · exact (k22 (v2.symm.trans (q.symm.trans v8))).elim
  · exact (k28 (v3.symm.trans (q.symm.trans v8))).elim
  · exact (k33 (v4.symm.trans (q.symm.trans v8))).elim
  · exact (k37 (v5.symm.trans (q.symm.trans v8))).elim
  · exact (k40 (v6.symm.trans (q.symm.trans v8))).elim
  · exact (k42 (v7.symm.trans (q.symm.trans v8))).elim
  · rfl
  · exact (k44 (v8.symm.trans (q.trans v9))).elim
  · exact (k8 (v0.symm.trans (q.symm.trans v9))).elim
  · exact (k16 (v1.symm.trans (q.symm.trans v9))).elim
  · exact (k23 (v2.symm.trans (q.symm.trans v9))).elim
  · exact (k29 (v3.symm.trans (q.symm.trans v9))).elim
  · exact (k34 (v4.symm.trans (q.symm.trans v9))).elim
  · exact (k38 (v5.symm.trans (q.symm.trans v9))).elim
  · exact (k41 (v6.symm.trans (q.symm.trans v9))).elim
  · exact (k43 (v7.symm.trans (q.symm.trans v9))).elim
  · exact (k44 (v8.symm.trans (q.symm.trans v9))).elim
  · rfl
def sel2 (Z : State) (i : Int32) : Addr := if i = (0 : Int32) then (a_NONE Z) else if i = (1 : Int32) then (a_MISSING Z) else if i = (2 : Int32) then (a_ZEROS Z) else (a_MISSING_AND_ZEROS Z)
theorem sel2_at (Z : State) {i : Int32} (r : i = (0 : Int32) ∨ i = (1 : Int32) ∨ i = (2 : Int32) ∨ i = (3 : Int32)) : ([(.ref (a_NONE Z)), (.ref (a_MISSING Z)), (.ref (a_ZEROS Z)), (.ref (a_MISSING_AND_ZEROS Z))] : List Value).getD i.toNatClampNeg .null = .ref (sel2 Z i) := by
  rcases r with rfl | rfl | rfl | rfl <;> rfl
theorem sel2_in {i : Int32} (r : i = (0 : Int32) ∨ i = (1 : Int32) ∨ i = (2 : Int32) ∨ i = (3 : Int32)) : ¬ i < 0 ∧ i < (4 : Int32) := by
  rcases r with rfl | rfl | rfl | rfl <;> decide
theorem sel2_inj {Z : State} (hS : St Z) {i j : Int32} (r : i = (0 : Int32) ∨ i = (1 : Int32) ∨ i = (2 : Int32) ∨ i = (3 : Int32)) (r2 : j = (0 : Int32) ∨ j = (1 : Int32) ∨ j = (2 : Int32) ∨ j = (3 : Int32)) (q : sel2 Z i = sel2 Z j) : i = j := by
  have k0 := ((f_a_NONE_ordinal hS).ne (f_a_MISSING_ordinal hS) (by decide))
  have k1 := ((f_a_NONE_ordinal hS).ne (f_a_ZEROS_ordinal hS) (by decide))
  have k2 := ((f_a_NONE_ordinal hS).ne (f_a_MISSING_AND_ZEROS_ordinal hS) (by decide))
  have k3 := ((f_a_MISSING_ordinal hS).ne (f_a_ZEROS_ordinal hS) (by decide))
  have k4 := ((f_a_MISSING_ordinal hS).ne (f_a_MISSING_AND_ZEROS_ordinal hS) (by decide))
  have k5 := ((f_a_ZEROS_ordinal hS).ne (f_a_MISSING_AND_ZEROS_ordinal hS) (by decide))
  have v0 : sel2 Z (0 : Int32) = (a_NONE Z) := rfl
  have v1 : sel2 Z (1 : Int32) = (a_MISSING Z) := rfl
  have v2 : sel2 Z (2 : Int32) = (a_ZEROS Z) := rfl
  have v3 : sel2 Z (3 : Int32) = (a_MISSING_AND_ZEROS Z) := rfl
  rcases r with rfl | rfl | rfl | rfl <;> rcases r2 with rfl | rfl | rfl | rfl
  · rfl
  · exact (k0 (v0.symm.trans (q.trans v1))).elim
  · exact (k1 (v0.symm.trans (q.trans v2))).elim
  · exact (k2 (v0.symm.trans (q.trans v3))).elim
  · exact (k0 (v0.symm.trans (q.symm.trans v1))).elim
  · rfl
  · exact (k3 (v1.symm.trans (q.trans v2))).elim
  · exact (k4 (v1.symm.trans (q.trans v3))).elim
  · exact (k1 (v0.symm.trans (q.symm.trans v2))).elim
  · exact (k3 (v1.symm.trans (q.symm.trans v2))).elim
  · rfl
  · exact (k5 (v2.symm.trans (q.trans v3))).elim
  · exact (k2 (v0.symm.trans (q.symm.trans v3))).elim
  · exact (k4 (v1.symm.trans (q.symm.trans v3))).elim
  · exact (k5 (v2.symm.trans (q.symm.trans v3))).elim
  · rfl
theorem pd_2 : parseMethodDescriptor "(Lcom/example/tempofold/tempofold/model/Method;Lcom/example/tempofold/tempofold/model/Skip;)V" = some ⟨[(.object "com/example/tempofold/tempofold/model/Method"), (.object "com/example/tempofold/tempofold/model/Skip")], none⟩ := by decide +kernel
theorem pd_3 : parseMethodDescriptor "(Ljava/lang/Object;)Z" = some ⟨[(.object "java/lang/Object")], some .boolean⟩ := by decide +kernel
theorem own_cls {Z : State} {a0 : Array Value} (hS : St Z) (hw : ∀ d ∈ tables_1, d.before a0 Z = true) {i : Int32} (r : i = (0 : Int32) ∨ i = (1 : Int32) ∨ i = (2 : Int32) ∨ i = (3 : Int32) ∨ i = (4 : Int32) ∨ i = (5 : Int32) ∨ i = (6 : Int32) ∨ i = (7 : Int32) ∨ i = (8 : Int32) ∨ i = (9 : Int32)) : ∃ KC : String, Exa Z Z.heap (sel1 Z i) KC ∧ ∃ c t, Z.vm.findClass KC = some c ∧ Z.vm.findClass "com/example/tempofold/tempofold/model/Rule" = some t ∧ Z.vm.assignable c t = false := by
  rcases r with rfl | rfl | rfl | rfl | rfl | rfl | rfl | rfl | rfl | rfl
  · exact ⟨"com/example/tempofold/tempofold/model/Method$1", e_a_FLOW hS, (own_nsno (hw _ (List.mem_of_getElem? (i := 88) rfl)) (hw _ (List.mem_of_getElem? (i := 47) rfl)) (NS.step (hw _ (List.mem_of_getElem? (i := 88) rfl)) (NS.step (hw _ (List.mem_of_getElem? (i := 85) rfl)) (NS.step (hw _ (List.mem_of_getElem? (i := 86) rfl)) (own_nsroot (hw _ (List.mem_of_getElem? (i := 87) rfl)) (hw _ (List.mem_of_getElem? (i := 47) rfl)) (by decide)) (by decide)) (by decide)) (by decide)) (by decide))⟩
  · exact ⟨"com/example/tempofold/tempofold/model/Method$2", e_a_SUM_DAYS hS, (own_nsno (hw _ (List.mem_of_getElem? (i := 95) rfl)) (hw _ (List.mem_of_getElem? (i := 47) rfl)) (NS.step (hw _ (List.mem_of_getElem? (i := 95) rfl)) (NS.step (hw _ (List.mem_of_getElem? (i := 85) rfl)) (NS.step (hw _ (List.mem_of_getElem? (i := 86) rfl)) (own_nsroot (hw _ (List.mem_of_getElem? (i := 87) rfl)) (hw _ (List.mem_of_getElem? (i := 47) rfl)) (by decide)) (by decide)) (by decide)) (by decide)) (by decide))⟩
  · exact ⟨"com/example/tempofold/tempofold/model/Method$3", e_a_AVERAGE hS, (own_nsno (hw _ (List.mem_of_getElem? (i := 92) rfl)) (hw _ (List.mem_of_getElem? (i := 47) rfl)) (NS.step (hw _ (List.mem_of_getElem? (i := 92) rfl)) (NS.step (hw _ (List.mem_of_getElem? (i := 85) rfl)) (NS.step (hw _ (List.mem_of_getElem? (i := 86) rfl)) (own_nsroot (hw _ (List.mem_of_getElem? (i := 87) rfl)) (hw _ (List.mem_of_getElem? (i := 47) rfl)) (by decide)) (by decide)) (by decide)) (by decide)) (by decide))⟩
  · exact ⟨"com/example/tempofold/tempofold/model/Method$4", e_a_AVERAGE_DAYS hS, (own_nsno (hw _ (List.mem_of_getElem? (i := 84) rfl)) (hw _ (List.mem_of_getElem? (i := 47) rfl)) (NS.step (hw _ (List.mem_of_getElem? (i := 84) rfl)) (NS.step (hw _ (List.mem_of_getElem? (i := 85) rfl)) (NS.step (hw _ (List.mem_of_getElem? (i := 86) rfl)) (own_nsroot (hw _ (List.mem_of_getElem? (i := 87) rfl)) (hw _ (List.mem_of_getElem? (i := 47) rfl)) (by decide)) (by decide)) (by decide)) (by decide)) (by decide))⟩
  · exact ⟨"com/example/tempofold/tempofold/model/Method$5", e_a_AVERAGE_DAYS_365 hS, (own_nsno (hw _ (List.mem_of_getElem? (i := 93) rfl)) (hw _ (List.mem_of_getElem? (i := 47) rfl)) (NS.step (hw _ (List.mem_of_getElem? (i := 93) rfl)) (NS.step (hw _ (List.mem_of_getElem? (i := 85) rfl)) (NS.step (hw _ (List.mem_of_getElem? (i := 86) rfl)) (own_nsroot (hw _ (List.mem_of_getElem? (i := 87) rfl)) (hw _ (List.mem_of_getElem? (i := 47) rfl)) (by decide)) (by decide)) (by decide)) (by decide)) (by decide))⟩
  · exact ⟨"com/example/tempofold/tempofold/model/Method$6", e_a_LAST hS, (own_nsno (hw _ (List.mem_of_getElem? (i := 89) rfl)) (hw _ (List.mem_of_getElem? (i := 47) rfl)) (NS.step (hw _ (List.mem_of_getElem? (i := 89) rfl)) (NS.step (hw _ (List.mem_of_getElem? (i := 85) rfl)) (NS.step (hw _ (List.mem_of_getElem? (i := 86) rfl)) (own_nsroot (hw _ (List.mem_of_getElem? (i := 87) rfl)) (hw _ (List.mem_of_getElem? (i := 47) rfl)) (by decide)) (by decide)) (by decide)) (by decide)) (by decide))⟩
  · exact ⟨"com/example/tempofold/tempofold/model/Method$7", e_a_FIRST hS, (own_nsno (hw _ (List.mem_of_getElem? (i := 96) rfl)) (hw _ (List.mem_of_getElem? (i := 47) rfl)) (NS.step (hw _ (List.mem_of_getElem? (i := 96) rfl)) (NS.step (hw _ (List.mem_of_getElem? (i := 85) rfl)) (NS.step (hw _ (List.mem_of_getElem? (i := 86) rfl)) (own_nsroot (hw _ (List.mem_of_getElem? (i := 87) rfl)) (hw _ (List.mem_of_getElem? (i := 47) rfl)) (by decide)) (by decide)) (by decide)) (by decide)) (by decide))⟩
  · exact ⟨"com/example/tempofold/tempofold/model/Method$8", e_a_COMPOUND hS, (own_nsno (hw _ (List.mem_of_getElem? (i := 90) rfl)) (hw _ (List.mem_of_getElem? (i := 47) rfl)) (NS.step (hw _ (List.mem_of_getElem? (i := 90) rfl)) (NS.step (hw _ (List.mem_of_getElem? (i := 85) rfl)) (NS.step (hw _ (List.mem_of_getElem? (i := 86) rfl)) (own_nsroot (hw _ (List.mem_of_getElem? (i := 87) rfl)) (hw _ (List.mem_of_getElem? (i := 47) rfl)) (by decide)) (by decide)) (by decide)) (by decide)) (by decide))⟩
  · exact ⟨"com/example/tempofold/tempofold/model/Method$9", e_a_FILL hS, (own_nsno (hw _ (List.mem_of_getElem? (i := 91) rfl)) (hw _ (List.mem_of_getElem? (i := 47) rfl)) (NS.step (hw _ (List.mem_of_getElem? (i := 91) rfl)) (NS.step (hw _ (List.mem_of_getElem? (i := 85) rfl)) (NS.step (hw _ (List.mem_of_getElem? (i := 86) rfl)) (own_nsroot (hw _ (List.mem_of_getElem? (i := 87) rfl)) (hw _ (List.mem_of_getElem? (i := 47) rfl)) (by decide)) (by decide)) (by decide)) (by decide)) (by decide))⟩
  · exact ⟨"com/example/tempofold/tempofold/model/Method$10", e_a_EQUAL_ALLOCATION_BALANCE hS, (own_nsno (hw _ (List.mem_of_getElem? (i := 94) rfl)) (hw _ (List.mem_of_getElem? (i := 47) rfl)) (NS.step (hw _ (List.mem_of_getElem? (i := 94) rfl)) (NS.step (hw _ (List.mem_of_getElem? (i := 85) rfl)) (NS.step (hw _ (List.mem_of_getElem? (i := 86) rfl)) (own_nsroot (hw _ (List.mem_of_getElem? (i := 87) rfl)) (hw _ (List.mem_of_getElem? (i := 47) rfl)) (by decide)) (by decide)) (by decide)) (by decide)) (by decide))⟩
theorem ef_0 (m : MethodId) (x0 : Int32) (x1 : Int32) (x2 : Int32) (x3 : Int32) (x4 : Int32) : entryFrame m #[(.int x0), (.int x1), (.int x2), (.int x3), (.int x4)] maxLocals = mkF m 0 #[.val (.int x0), .val (.int x1), .val (.int x2), .val (.int x3), .val (.int x4), .unset, .unset, .unset, .unset, .unset, .unset, .unset, .unset, .unset, .unset, .unset, .unset] [] := by first | (simp [entryFrame, mkF, argsToLocals, Value.category, maxLocals]; done) | rfl
theorem pn_3 : plainName "com/example/tempofold/tempofold/model/RuleEqualsPinLaw" = true := by first | (simp [plainName, overriddenIn]; done) | decide +kernel
set_option maxRecDepth 65536 in
set_option maxHeartbeats 40000000 in
theorem rm0 (l : Launch) (Z : State) (a0 : Array Value) (hw : ∀ d ∈ tables_1, d.before a0 Z = true) (hS : St Z) (ws : List Jvm.Cond) (p0 : Int32) (p1 : Int32) (p2 : Int32) (p3 : Int32) (p4 : Int32) (h0 : Heap) (n0 : Nat) (O0 : Old Z n0 h0) :
    MetFree l x (head1 (Jvm.Cond.code x code maxLocals ret :: ws) room_1) (fun a U => a = #[(.int p0), (.int p1), (.int p2), (.int p3), (.int p4)] ∧ Z.Warmed39 U.vm ∧ U.heap = h0) (fun _ _ _ _ _ => True) (fun _ U o U' => ∃ v L, o = .returned v ∧ own_Q (fun v hE L => v = some (.int (1 : Int32)) ∧ Fr n0 L ∧ Keep h0 hE []) v U'.heap L ∧ ReturnedEndW U o U' L room_1.cells room_1.slots) := by
  refine MetFree.of_bodySF (plainFor_of_name pn_3) hisR ?_
  intro p e s m args below meth c s₁ Bd hml0 hP hK
  obtain ⟨rfl, hZ, hh⟩ := hP
  have hx := Bd.exec
  have hby := Bd.bytes
  have hml : c.maxLocals = 17 := hml0
  have hown : s.vm.findClass "com/example/tempofold/tempofold/model/RuleEqualsPinLaw" = some m.cls := findClass_of_methodNamed Bd.named
  have hnm := (name_of_methodNamed Bd.named Bd.method).1
  have X0 : Stand p l e room_1 (s.setVm s.vm) m #[(.int p0), (.int p1), (.int p2), (.int p3), (.int p4)] below meth c s₁ [] 0 0 := Stand.of_body Bd
  have e0 : s₁.heap = h0 := by rw [← hh, Bd.state]; rfl
  have N0 := Fr.nil n0
  have pre0 : ∀ t, Steps p.tables e below (s₁.setTop (mkF m 0 #[oI p0, oI p1, oI p2, oI p3, oI p4, oU, oU, oU, oU, oU, oU, oU, oU, oU, oU, oU, oU] [])) t → Steps p.tables e below (s₁.setTop (entryFrame m #[(.int p0), (.int p1), (.int p2), (.int p3), (.int p4)] maxLocals)) t := fun t k => castTop (ef_0 m p0 p1 p2 p3 p4) k
  have hSi : s.Since s.vm 0 := own_since s
  have hki0 : 0 ≤ h0.size := Nat.zero_le _
  obtain ⟨T29, h29, k29, X29, e29, E29, A29, Ov29, st29⟩ := newR X0 hx hZ hown (hw _ (List.mem_of_getElem? (i := 0) rfl)) (hw _ (List.mem_of_getElem? (i := 1) rfl)) e0 (g := (mkF m 2 #[oI p0, oI p1, oI p2, oI p3, oI p4, oU, oU, oU, oU, oU, oU, oU, oU, oU, oU, oU, oU] [(.int (10 : Int32))])) rfl (hb hby at_2) rfl (by decide) (cap := 10) (by decide) (by decide) (by decide) (by decide)
  obtain ⟨b29, g29⟩ : ∃ z, z = h0.size := ⟨_, rfl⟩
  have g_b29 : n0 ≤ b29 := Nat.le_trans (own_old_le O0) (Nat.le_of_eq g29.symm)
  have sz_b29 : h0.size ≤ b29 := Nat.le_trans (Keep.refl h0 []).1 (Nat.le_of_eq g29.symm)
  rw [← g29] at A29 st29
  have O29 := O0.ext E29
  have Kc29 := (Keep.refl h0 []).ext E29
  have V29 : Arv Z h29 b29 k29 (.object "com/example/tempofold/tempofold/model/Method") (10 : Int32) [.null, .null, .null, .null, .null, .null, .null, .null, .null, .null] .null := (Arv.new A29 (by decide)).pad (pad_rep [] .null 10)
  obtain ⟨T30, X30, e30, st30⟩ := getS2 X29 hx hZ hown (host := "") (Or.inl (hw _ (List.mem_of_getElem? (i := 2) rfl))) Via.refl e29 ((s_a_FLOW hS).ext O29.2) (g := (mkF m 7 #[oI p0, oI p1, oI p2, oI p3, oI p4, oU, oU, oU, oU, oU, oU, oU, oU, oU, oU, oU, oU] [(.int (0 : Int32)), (.ref b29), (.ref b29)])) rfl (hb hby at_7)
  obtain ⟨T31, h31, X31, e31, W31, V31', st31⟩ := own_stR X30 hx hZ e30 V29 Ov29 (Ins.of_exa ((e_a_FLOW hS).ext O29.2) (hw _ (List.mem_of_getElem? (i := 5) rfl))) (j := (0 : Int32)) ⟨by decide, by decide⟩ rfl (by decide : ((0 : Int32) : Int32).toNatClampNeg < 10) (g := (mkF m 10 #[oI p0, oI p1, oI p2, oI p3, oI p4, oU, oU, oU, oU, oU, oU, oU, oU, oU, oU, oU, oU] [(.ref (a_FLOW Z)), (.int (0 : Int32)), (.ref b29), (.ref b29)])) rfl rfl (hb hby at_10)
  have N31 := Fr.snoc X31 N0 g_b29
  have O31 := O29.wr W31 g_b29
  have Kc31 := Kc29.wr W31 (Or.inr sz_b29)
  have V31 : Arv Z h31 b29 k29 (.object "com/example/tempofold/tempofold/model/Method") (10 : Int32) [(.ref (a_FLOW Z)), .null, .null, .null, .null, .null, .null, .null, .null, .null] .null := V31'
  obtain ⟨T32, X32, e32, st32⟩ := getS2 X31 hx hZ hown (host := "") (Or.inl (hw _ (List.mem_of_getElem? (i := 6) rfl))) Via.refl e31 ((s_a_SUM_DAYS hS).ext O31.2) (g := (mkF m 13 #[oI p0, oI p1, oI p2, oI p3, oI p4, oU, oU, oU, oU, oU, oU, oU, oU, oU, oU, oU, oU] [(.int (1 : Int32)), (.ref b29), (.ref b29)])) rfl (hb hby at_13)
  obtain ⟨T33, h33, X33, e33, W33, V33', st33⟩ := own_stR X32 hx hZ e32 V31 Ov29 (Ins.of_exa ((e_a_SUM_DAYS hS).ext O31.2) (hw _ (List.mem_of_getElem? (i := 8) rfl))) (j := (1 : Int32)) ⟨by decide, by decide⟩ rfl (by decide : ((1 : Int32) : Int32).toNatClampNeg < 10) (g := (mkF m 16 #[oI p0, oI p1, oI p2, oI p3, oI p4, oU, oU, oU, oU, oU, oU, oU, oU, oU, oU, oU, oU] [(.ref (a_SUM_DAYS Z)), (.int (1 : Int32)), (.ref b29), (.ref b29)])) rfl rfl (hb hby at_16)
  have N33 := Fr.snoc X33 N31 g_b29
  have O33 := O31.wr W33 g_b29
  have Kc33 := Kc31.wr W33 (Or.inr sz_b29)
  have V33 : Arv Z h33 b29 k29 (.object "com/example/tempofold/tempofold/model/Method") (10 : Int32) [(.ref (a_FLOW Z)), (.ref (a_SUM_DAYS Z)), .null, .null, .null, .null, .null, .null, .null, .null] .null := V33'
  obtain ⟨T34, X34, e34, st34⟩ := getS2 X33 hx hZ hown (host := "") (Or.inl (hw _ (List.mem_of_getElem? (i := 9) rfl))) Via.refl e33 ((s_a_AVERAGE hS).ext O33.2) (g := (mkF m 19 #[oI p0, oI p1, oI p2, oI p3, oI p4, oU, oU, oU, oU, oU, oU, oU, oU, oU, oU, oU, oU] [(.int (2 : Int32)), (.ref b29), (.ref b29)])) rfl (hb hby at_19)
  obtain ⟨T35, h35, X35, e35, W35, V35', st35⟩ := own_stR X34 hx hZ e34 V33 Ov29 (Ins.of_exa ((e_a_AVERAGE hS).ext O33.2) (hw _ (List.mem_of_getElem? (i := 11) rfl))) (j := (2 : Int32)) ⟨by decide, by decide⟩ rfl (by decide : ((2 : Int32) : Int32).toNatClampNeg < 10) (g := (mkF m 22 #[oI p0, oI p1, oI p2, oI p3, oI p4, oU, oU, oU, oU, oU, oU, oU, oU, oU, oU, oU, oU] [(.ref (a_AVERAGE Z)), (.int (2 : Int32)), (.ref b29), (.ref b29)])) rfl rfl (hb hby at_22)
  have N35 := Fr.snoc X35 N33 g_b29
  have O35 := O33.wr W35 g_b29
  have Kc35 := Kc33.wr W35 (Or.inr sz_b29)
  have V35 : Arv Z h35 b29 k29 (.object "com/example/tempofold/tempofold/model/Method") (10 : Int32) [(.ref (a_FLOW Z)), (.ref (a_SUM_DAYS Z)), (.ref (a_AVERAGE Z)), .null, .null, .null, .null, .null, .null, .null] .null := V35'
  obtain ⟨T36, X36, e36, st36⟩ := getS2 X35 hx hZ hown (host := "") (Or.inl (hw _ (List.mem_of_getElem? (i := 12) rfl))) Via.refl e35 ((s_a_AVERAGE_DAYS hS).ext O35.2) (g := (mkF m 25 #[oI p0, oI p1, oI p2, oI p3, oI p4, oU, oU, oU, oU, oU, oU, oU, oU, oU, oU, oU, oU] [(.int (3 : Int32)), (.ref b29), (.ref b29)])) rfl (hb hby at_25)
  obtain ⟨T37, h37, X37, e37, W37, V37', st37⟩ := own_stR X36 hx hZ e36 V35 Ov29 (Ins.of_exa ((e_a_AVERAGE_DAYS hS).ext O35.2) (hw _ (List.mem_of_getElem? (i := 14) rfl))) (j := (3 : Int32)) ⟨by decide, by decide⟩ rfl (by decide : ((3 : Int32) : Int32).toNatClampNeg < 10) (g := (mkF m 28 #[oI p0, oI p1, oI p2, oI p3, oI p4, oU, oU, oU, oU, oU, oU, oU, oU, oU, oU, oU, oU] [(.ref (a_AVERAGE_DAYS Z)), (.int (3 : Int32)), (.ref b29), (.ref b29)])) rfl rfl (hb hby at_28)
  have N37 := Fr.snoc X37 N35 g_b29
  have O37 := O35.wr W37 g_b29
  have Kc37 := Kc35.wr W37 (Or.inr sz_b29)
  have V37 : Arv Z h37 b29 k29 (.object "com/example/tempofold/tempofold/model/Method") (10 : Int32) [(.ref (a_FLOW Z)), (.ref (a_SUM_DAYS Z)), (.ref (a_AVERAGE Z)), (.ref (a_AVERAGE_DAYS Z)), .null, .null, .null, .null, .null, .null] .null := V37'
  obtain ⟨T38, X38, e38, st38⟩ := getS2 X37 hx hZ hown (host := "") (Or.inl (hw _ (List.mem_of_getElem? (i := 15) rfl))) Via.refl e37 ((s_a_AVERAGE_DAYS_365 hS).ext O37.2) (g := (mkF m 31 #[oI p0, oI p1, oI p2, oI p3, oI p4, oU, oU, oU, oU, oU, oU, oU, oU, oU, oU, oU, oU] [(.int (4 : Int32)), (.ref b29), (.ref b29)])) rfl (hb hby at_31)
  obtain ⟨T39, h39, X39, e39, W39, V39', st39⟩ := own_stR X38 hx hZ e38 V37 Ov29 (Ins.of_exa ((e_a_AVERAGE_DAYS_365 hS).ext O37.2) (hw _ (List.mem_of_getElem? (i := 17) rfl))) (j := (4 : Int32)) ⟨by decide, by decide⟩ rfl (by decide : ((4 : Int32) : Int32).toNatClampNeg < 10) (g := (mkF m 34 #[oI p0, oI p1, oI p2, oI p3, oI p4, oU, oU, oU, oU, oU, oU, oU, oU, oU, oU, oU, oU] [(.ref (a_AVERAGE_DAYS_365 Z)), (.int (4 : Int32)), (.ref b29), (.ref b29)])) rfl rfl (hb hby at_34)
  have N39 := Fr.snoc X39 N37 g_b29
  have O39 := O37.wr W39 g_b29
  have Kc39 := Kc37.wr W39 (Or.inr sz_b29)
  have V39 : Arv Z h39 b29 k29 (.object "com/example/tempofold/tempofold/model/Method") (10 : Int32) [(.ref (a_FLOW Z)), (.ref (a_SUM_DAYS Z)), (.ref (a_AVERAGE Z)), (.ref (a_AVERAGE_DAYS Z)), (.ref (a_AVERAGE_DAYS_365 Z)), .null, .null, .null, .null, .null] .null := V39'
  obtain ⟨T40, X40, e40, st40⟩ := getS2 X39 hx hZ hown (host := "") (Or.inl (hw _ (List.mem_of_getElem? (i := 18) rfl))) Via.refl e39 ((s_a_LAST hS).ext O39.2) (g := (mkF m 37 #[oI p0, oI p1, oI p2, oI p3, oI p4, oU, oU, oU, oU, oU, oU, oU, oU, oU, oU, oU, oU] [(.int (5 : Int32)), (.ref b29), (.ref b29)])) rfl (hb hby at_37)
  obtain ⟨T41, h41, X41, e41, W41, V41', st41⟩ := own_stR X40 hx hZ e40 V39 Ov29 (Ins.of_exa ((e_a_LAST hS).ext O39.2) (hw _ (List.mem_of_getElem? (i := 20) rfl))) (j := (5 : Int32)) ⟨by decide, by decide⟩ rfl (by decide : ((5 : Int32) : Int32).toNatClampNeg < 10) (g := (mkF m 40 #[oI p0, oI p1, oI p2, oI p3, oI p4, oU, oU, oU, oU, oU, oU, oU, oU, oU, oU, oU, oU] [(.ref (a_LAST Z)), (.int (5 : Int32)), (.ref b29), (.ref b29)])) rfl rfl (hb hby at_40)
  have N41 := Fr.snoc X41 N39 g_b29
  have O41 := O39.wr W41 g_b29
  have Kc41 := Kc39.wr W41 (Or.inr sz_b29)
  have V41 : Arv Z h41 b29 k29 (.object "com/example/tempofold/tempofold/model/Method") (10 : Int32) [(.ref (a_FLOW Z)), (.ref (a_SUM_DAYS Z)), (.ref (a_AVERAGE Z)), (.ref (a_AVERAGE_DAYS Z)), (.ref (a_AVERAGE_DAYS_365 Z)), (.ref (a_LAST Z)), .null, .null, .null, .null] .null := V41'
  obtain ⟨T42, X42, e42, st42⟩ := getS2 X41 hx hZ hown (host := "") (Or.inl (hw _ (List.mem_of_getElem? (i := 21) rfl))) Via.refl e41 ((s_a_FIRST hS).ext O41.2) (g := (mkF m 44 #[oI p0, oI p1, oI p2, oI p3, oI p4, oU, oU, oU, oU, oU, oU, oU, oU, oU, oU, oU, oU] [(.int (6 : Int32)), (.ref b29), (.ref b29)])) rfl (hb hby at_44)
  obtain ⟨T43, h43, X43, e43, W43, V43', st43⟩ := own_stR X42 hx hZ e42 V41 Ov29 (Ins.of_exa ((e_a_FIRST hS).ext O41.2) (hw _ (List.mem_of_getElem? (i := 23) rfl))) (j := (6 : Int32)) ⟨by decide, by decide⟩ rfl (by decide : ((6 : Int32) : Int32).toNatClampNeg < 10) (g := (mkF m 47 #[oI p0, oI p1, oI p2, oI p3, oI p4, oU, oU, oU, oU, oU, oU, oU, oU, oU, oU, oU, oU] [(.ref (a_FIRST Z)), (.int (6 : Int32)), (.ref b29), (.ref b29)])) rfl rfl (hb hby at_47)
  have N43 := Fr.snoc X43 N41 g_b29
  have O43 := O41.wr W43 g_b29
  have Kc43 := Kc41.wr W43 (Or.inr sz_b29)
  have V43 : Arv Z h43 b29 k29 (.object "com/example/tempofold/tempofold/model/Method") (10 : Int32) [(.ref (a_FLOW Z)), (.ref (a_SUM_DAYS Z)), (.ref (a_AVERAGE Z)), (.ref (a_AVERAGE_DAYS Z)), (.ref (a_AVERAGE_DAYS_365 Z)), (.ref (a_LAST Z)), (.ref (a_FIRST Z)), .null, .null, .null] .null := V43'
  obtain ⟨T44, X44, e44, st44⟩ := getS2 X43 hx hZ hown (host := "") (Or.inl (hw _ (List.mem_of_getElem? (i := 24) rfl))) Via.refl e43 ((s_a_COMPOUND hS).ext O43.2) (g := (mkF m 51 #[oI p0, oI p1, oI p2, oI p3, oI p4, oU, oU, oU, oU, oU, oU, oU, oU, oU, oU, oU, oU] [(.int (7 : Int32)), (.ref b29), (.ref b29)])) rfl (hb hby at_51)
  obtain ⟨T45, h45, X45, e45, W45, V45', st45⟩ := own_stR X44 hx hZ e44 V43 Ov29 (Ins.of_exa ((e_a_COMPOUND hS).ext O43.2) (hw _ (List.mem_of_getElem? (i := 26) rfl))) (j := (7 : Int32)) ⟨by decide, by decide⟩ rfl (by decide : ((7 : Int32) : Int32).toNatClampNeg < 10) (g := (mkF m 54 #[oI p0, oI p1, oI p2, oI p3, oI p4, oU, oU, oU, oU, oU, oU, oU, oU, oU, oU, oU, oU] [(.ref (a_COMPOUND Z)), (.int (7 : Int32)), (.ref b29), (.ref b29)])) rfl rfl (hb hby at_54)
  have N45 := Fr.snoc X45 N43 g_b29
  have O45 := O43.wr W45 g_b29
  have Kc45 := Kc43.wr W45 (Or.inr sz_b29)
  have V45 : Arv Z h45 b29 k29 (.object "com/example/tempofold/tempofold/model/Method") (10 : Int32) [(.ref (a_FLOW Z)), (.ref (a_SUM_DAYS Z)), (.ref (a_AVERAGE Z)), (.ref (a_AVERAGE_DAYS Z)), (.ref (a_AVERAGE_DAYS_365 Z)), (.ref (a_LAST Z)), (.ref (a_FIRST Z)), (.ref (a_COMPOUND Z)), .null, .null] .null := V45'
  obtain ⟨T46, X46, e46, st46⟩ := getS2 X45 hx hZ hown (host := "") (Or.inl (hw _ (List.mem_of_getElem? (i := 27) rfl))) Via.refl e45 ((s_a_FILL hS).ext O45.2) (g := (mkF m 58 #[oI p0, oI p1, oI p2, oI p3, oI p4, oU, oU, oU, oU, oU, oU, oU, oU, oU, oU, oU, oU] [(.int (8 : Int32)), (.ref b29), (.ref b29)])) rfl (hb hby at_58)
  obtain ⟨T47, h47, X47, e47, W47, V47', st47⟩ := own_stR X46 hx hZ e46 V45 Ov29 (Ins.of_exa ((e_a_FILL hS).ext O45.2) (hw _ (List.mem_of_getElem? (i := 29) rfl))) (j := (8 : Int32)) ⟨by decide, by decide⟩ rfl (by decide : ((8 : Int32) : Int32).toNatClampNeg < 10) (g := (mkF m 61 #[oI p0, oI p1, oI p2, oI p3, oI p4, oU, oU, oU, oU, oU, oU, oU, oU, oU, oU, oU, oU] [(.ref (a_FILL Z)), (.int (8 : Int32)), (.ref b29), (.ref b29)])) rfl rfl (hb hby at_61)
  have N47 := Fr.snoc X47 N45 g_b29
  have O47 := O45.wr W47 g_b29
  have Kc47 := Kc45.wr W47 (Or.inr sz_b29)
  have V47 : Arv Z h47 b29 k29 (.object "com/example/tempofold/tempofold/model/Method") (10 : Int32) [(.ref (a_FLOW Z)), (.ref (a_SUM_DAYS Z)), (.ref (a_AVERAGE Z)), (.ref (a_AVERAGE_DAYS Z)), (.ref (a_AVERAGE_DAYS_365 Z)), (.ref (a_LAST Z)), (.ref (a_FIRST Z)), (.ref (a_COMPOUND Z)), (.ref (a_FILL Z)), .null] .null := V47'
  obtain ⟨T48, X48, e48, st48⟩ := getS2 X47 hx hZ hown (host := "") (Or.inl (hw _ (List.mem_of_getElem? (i := 30) rfl))) Via.refl e47 ((s_a_EQUAL_ALLOCATION_BALANCE hS).ext O47.2) (g := (mkF m 65 #[oI p0, oI p1, oI p2, oI p3, oI p4, oU, oU, oU, oU, oU, oU, oU, oU, oU, oU, oU, oU] [(.int (9 : Int32)), (.ref b29), (.ref b29)])) rfl (hb hby at_65)
  obtain ⟨T49, h49, X49, e49, W49, V49', st49⟩ := own_stR X48 hx hZ e48 V47 Ov29 (Ins.of_exa ((e_a_EQUAL_ALLOCATION_BALANCE hS).ext O47.2) (hw _ (List.mem_of_getElem? (i := 32) rfl))) (j := (9 : Int32)) ⟨by decide, by decide⟩ rfl (by decide : ((9 : Int32) : Int32).toNatClampNeg < 10) (g := (mkF m 68 #[oI p0, oI p1, oI p2, oI p3, oI p4, oU, oU, oU, oU, oU, oU, oU, oU, oU, oU, oU, oU] [(.ref (a_EQUAL_ALLOCATION_BALANCE Z)), (.int (9 : Int32)), (.ref b29), (.ref b29)])) rfl rfl (hb hby at_68)
  have N49 := Fr.snoc X49 N47 g_b29
  have O49 := O47.wr W49 g_b29
  have Kc49 := Kc47.wr W49 (Or.inr sz_b29)
  have V49 : Arv Z h49 b29 k29 (.object "com/example/tempofold/tempofold/model/Method") (10 : Int32) [(.ref (a_FLOW Z)), (.ref (a_SUM_DAYS Z)), (.ref (a_AVERAGE Z)), (.ref (a_AVERAGE_DAYS Z)), (.ref (a_AVERAGE_DAYS_365 Z)), (.ref (a_LAST Z)), (.ref (a_FIRST Z)), (.ref (a_COMPOUND Z)), (.ref (a_FILL Z)), (.ref (a_EQUAL_ALLOCATION_BALANCE Z))] .null := V49'
  obtain ⟨T50, h50, k50, X50, e50, E50, A50, Ov50, st50⟩ := newR X49 hx hZ hown (hw _ (List.mem_of_getElem? (i := 33) rfl)) (hw _ (List.mem_of_getElem? (i := 34) rfl)) e49 (g := (mkF m 72 #[oI p0, oI p1, oI p2, oI p3, oI p4, oR b29, oU, oU, oU, oU, oU, oU, oU, oU, oU, oU, oU] [(.int (4 : Int32))])) rfl (hb hby at_72) rfl (by decide) (cap := 4) (by decide) (by decide) (by decide) (by decide)
  obtain ⟨b50, g50⟩ : ∃ z, z = h49.size := ⟨_, rfl⟩
  have g_b50 : n0 ≤ b50 := Nat.le_trans (own_old_le O49) (Nat.le_of_eq g50.symm)
  have sz_b50 : h0.size ≤ b50 := Nat.le_trans Kc49.1 (Nat.le_of_eq g50.symm)
  have ne_b29_b50 : b29 ≠ b50 := Nat.ne_of_lt (Nat.lt_of_lt_of_le V49.lt (Nat.le_of_eq g50.symm))
  rw [← g50] at A50 st50
  have O50 := O49.ext E50
  have Kc50 := Kc49.ext E50
  have V50 : Arv Z h50 b50 k50 (.object "com/example/tempofold/tempofold/model/Skip") (4 : Int32) [.null, .null, .null, .null] .null := (Arv.new A50 (by decide)).pad (pad_rep [] .null 4)
  obtain ⟨T51, X51, e51, st51⟩ := getS2 X50 hx hZ hown (host := "") (Or.inl (hw _ (List.mem_of_getElem? (i := 35) rfl))) Via.refl e50 ((s_a_NONE hS).ext O50.2) (g := (mkF m 77 #[oI p0, oI p1, oI p2, oI p3, oI p4, oR b29, oU, oU, oU, oU, oU, oU, oU, oU, oU, oU, oU] [(.int (0 : Int32)), (.ref b50), (.ref b50)])) rfl (hb hby at_77)
  obtain ⟨T52, h52, X52, e52, W52, V52', st52⟩ := own_stR X51 hx hZ e51 V50 Ov50 (Ins.of_exa ((e_a_NONE hS).ext O50.2) (hw _ (List.mem_of_getElem? (i := 38) rfl))) (j := (0 : Int32)) ⟨by decide, by decide⟩ rfl (by decide : ((0 : Int32) : Int32).toNatClampNeg < 4) (g := (mkF m 80 #[oI p0, oI p1, oI p2, oI p3, oI p4, oR b29, oU, oU, oU, oU, oU, oU, oU, oU, oU, oU, oU] [(.ref (a_NONE Z)), (.int (0 : Int32)), (.ref b50), (.ref b50)])) rfl rfl (hb hby at_80)
  have N52 := Fr.snoc X52 N49 g_b50
  have O52 := O50.wr W52 g_b50
  have Kc52 := Kc50.wr W52 (Or.inr sz_b50)
  have V52 : Arv Z h52 b50 k50 (.object "com/example/tempofold/tempofold/model/Skip") (4 : Int32) [(.ref (a_NONE Z)), .null, .null, .null] .null := V52'
  obtain ⟨T53, X53, e53, st53⟩ := getS2 X52 hx hZ hown (host := "") (Or.inl (hw _ (List.mem_of_getElem? (i := 39) rfl))) Via.refl e52 ((s_a_MISSING hS).ext O52.2) (g := (mkF m 83 #[oI p0, oI p1, oI p2, oI p3, oI p4, oR b29, oU, oU, oU, oU, oU, oU, oU, oU, oU, oU, oU] [(.int (1 : Int32)), (.ref b50), (.ref b50)])) rfl (hb hby at_83)
  obtain ⟨T54, h54, X54, e54, W54, V54', st54⟩ := own_stR X53 hx hZ e53 V52 Ov50 (Ins.of_exa ((e_a_MISSING hS).ext O52.2) (hw _ (List.mem_of_getElem? (i := 38) rfl))) (j := (1 : Int32)) ⟨by decide, by decide⟩ rfl (by decide : ((1 : Int32) : Int32).toNatClampNeg < 4) (g := (mkF m 86 #[oI p0, oI p1, oI p2, oI p3, oI p4, oR b29, oU, oU, oU, oU, oU, oU, oU, oU, oU, oU, oU] [(.ref (a_MISSING Z)), (.int (1 : Int32)), (.ref b50), (.ref b50)])) rfl rfl (hb hby at_86)
  have N54 := Fr.snoc X54 N52 g_b50
  have O54 := O52.wr W54 g_b50
  have Kc54 := Kc52.wr W54 (Or.inr sz_b50)
  have V54 : Arv Z h54 b50 k50 (.object "com/example/tempofold/tempofold/model/Skip") (4 : Int32) [(.ref (a_NONE Z)), (.ref (a_MISSING Z)), .null, .null] .null := V54'
  obtain ⟨T55, X55, e55, st55⟩ := getS2 X54 hx hZ hown (host := "") (Or.inl (hw _ (List.mem_of_getElem? (i := 41) rfl))) Via.refl e54 ((s_a_ZEROS hS).ext O54.2) (g := (mkF m 89 #[oI p0, oI p1, oI p2, oI p3, oI p4, oR b29, oU, oU, oU, oU, oU, oU, oU, oU, oU, oU, oU] [(.int (2 : Int32)), (.ref b50), (.ref b50)])) rfl (hb hby at_89)
  obtain ⟨T56, h56, X56, e56, W56, V56', st56⟩ := own_stR X55 hx hZ e55 V54 Ov50 (Ins.of_exa ((e_a_ZEROS hS).ext O54.2) (hw _ (List.mem_of_getElem? (i := 38) rfl))) (j := (2 : Int32)) ⟨by decide, by decide⟩ rfl (by decide : ((2 : Int32) : Int32).toNatClampNeg < 4) (g := (mkF m 92 #[oI p0, oI p1, oI p2, oI p3, oI p4, oR b29, oU, oU, oU, oU, oU, oU, oU, oU, oU, oU, oU] [(.ref (a_ZEROS Z)), (.int (2 : Int32)), (.ref b50), (.ref b50)])) rfl rfl (hb hby at_92)
  have N56 := Fr.snoc X56 N54 g_b50
  have O56 := O54.wr W56 g_b50
  have Kc56 := Kc54.wr W56 (Or.inr sz_b50)
  have V56 : Arv Z h56 b50 k50 (.object "com/example/tempofold/tempofold/model/Skip") (4 : Int32) [(.ref (a_NONE Z)), (.ref (a_MISSING Z)), (.ref (a_ZEROS Z)), .null] .null := V56'
  obtain ⟨T57, X57, e57, st57⟩ := getS2 X56 hx hZ hown (host := "") (Or.inl (hw _ (List.mem_of_getElem? (i := 43) rfl))) Via.refl e56 ((s_a_MISSING_AND_ZEROS hS).ext O56.2) (g := (mkF m 95 #[oI p0, oI p1, oI p2, oI p3, oI p4, oR b29, oU, oU, oU, oU, oU, oU, oU, oU, oU, oU, oU] [(.int (3 : Int32)), (.ref b50), (.ref b50)])) rfl (hb hby at_95)
  obtain ⟨T58, h58, X58, e58, W58, V58', st58⟩ := own_stR X57 hx hZ e57 V56 Ov50 (Ins.of_exa ((e_a_MISSING_AND_ZEROS hS).ext O56.2) (hw _ (List.mem_of_getElem? (i := 38) rfl))) (j := (3 : Int32)) ⟨by decide, by decide⟩ rfl (by decide : ((3 : Int32) : Int32).toNatClampNeg < 4) (g := (mkF m 98 #[oI p0, oI p1, oI p2, oI p3, oI p4, oR b29, oU, oU, oU, oU, oU, oU, oU, oU, oU, oU, oU] [(.ref (a_MISSING_AND_ZEROS Z)), (.int (3 : Int32)), (.ref b50), (.ref b50)])) rfl rfl (hb hby at_98)
  have N58 := Fr.snoc X58 N56 g_b50
  have O58 := O56.wr W58 g_b50
  have Kc58 := Kc56.wr W58 (Or.inr sz_b50)
  have V58 : Arv Z h58 b50 k50 (.object "com/example/tempofold/tempofold/model/Skip") (4 : Int32) [(.ref (a_NONE Z)), (.ref (a_MISSING Z)), (.ref (a_ZEROS Z)), (.ref (a_MISSING_AND_ZEROS Z))] .null := V58'
  obtain ⟨i, hi⟩ : ∃ z, z = ((p0 &&& (2147483647 : Int32)) - ((p0 &&& (2147483647 : Int32)) / (10 : Int32)) * (10 : Int32)) := ⟨_, rfl⟩
  have ri : i = (0 : Int32) ∨ i = (1 : Int32) ∨ i = (2 : Int32) ∨ i = (3 : Int32) ∨ i = (4 : Int32) ∨ i = (5 : Int32) ∨ i = (6 : Int32) ∨ i = (7 : Int32) ∨ i = (8 : Int32) ∨ i = (9 : Int32) := by rw [hi]; exact rng_rem10 p0
  obtain ⟨si, hsi⟩ : ∃ z, z = ((p1 &&& (2147483647 : Int32)) - ((p1 &&& (2147483647 : Int32)) / (4 : Int32)) * (4 : Int32)) := ⟨_, rfl⟩
  have rsi : si = (0 : Int32) ∨ si = (1 : Int32) ∨ si = (2 : Int32) ∨ si = (3 : Int32) := by rw [hsi]; exact rng_rem4 p1
  obtain ⟨j, hj⟩ : ∃ z, z = ((p2 &&& (2147483647 : Int32)) - ((p2 &&& (2147483647 : Int32)) / (10 : Int32)) * (10 : Int32)) := ⟨_, rfl⟩
  have rj : j = (0 : Int32) ∨ j = (1 : Int32) ∨ j = (2 : Int32) ∨ j = (3 : Int32) ∨ j = (4 : Int32) ∨ j = (5 : Int32) ∨ j = (6 : Int32) ∨ j = (7 : Int32) ∨ j = (8 : Int32) ∨ j = (9 : Int32) := by rw [hj]; exact rng_rem10 p2
  obtain ⟨sj, hsj⟩ : ∃ z, z = ((p3 &&& (2147483647 : Int32)) - ((p3 &&& (2147483647 : Int32)) / (4 : Int32)) * (4 : Int32)) := ⟨_, rfl⟩
  have rsj : sj = (0 : Int32) ∨ sj = (1 : Int32) ∨ sj = (2 : Int32) ∨ sj = (3 : Int32) := by rw [hsj]; exact rng_rem4 p3
  obtain ⟨T59, h59, X59, e59, E59, A59, D59, -, st59⟩ := newO X58 hx hZ hown (hw _ (List.mem_of_getElem? (i := 46) rfl)) (hw _ (List.mem_of_getElem? (i := 47) rfl)) (hw _ (List.mem_of_getElem? (i := 48) rfl)) e58 (g := (mkF m 135 #[oI p0, oI p1, oI p2, oI p3, oI p4, oR b29, oR b50, oI i, oI si, oI j, oI sj, oU, oU, oU, oU, oU, oU] [])) rfl (hb hby at_135) (by decide) (by decide)
  obtain ⟨b59, g59⟩ : ∃ z, z = h58.size := ⟨_, rfl⟩
  have g_b59 : n0 ≤ b59 := Nat.le_trans (own_old_le O58) (Nat.le_of_eq g59.symm)
  have sz_b59 : h0.size ≤ b59 := Nat.le_trans Kc58.1 (Nat.le_of_eq g59.symm)
  have fx60 := (((((V49.ext E50).other W52 ne_b29_b50).other W54 ne_b29_b50).other W56 ne_b29_b50).other W58 ne_b29_b50)
  have ne_b29_b59 : b29 ≠ b59 := Nat.ne_of_lt (Nat.lt_of_lt_of_le fx60.lt (Nat.le_of_eq g59.symm))
  have ne_b50_b59 : b50 ≠ b59 := Nat.ne_of_lt (Nat.lt_of_lt_of_le V58.lt (Nat.le_of_eq g59.symm))
  rw [← g59] at A59 D59 st59
  have O59 := O58.ext E59
  have Kc59 := Kc58.ext E59
  have F_method_b59 : Fld Z h59 b59 "com/example/tempofold/tempofold/model/Rule" "method" "Lcom/example/tempofold/tempofold/model/Method;" .null := D59 (Or.inr (hw _ (List.mem_of_getElem? (i := 74) rfl))) (ty := (.object "com/example/tempofold/tempofold/model/Method")) (by decide)
  have F_skip_b59 : Fld Z h59 b59 "com/example/tempofold/tempofold/model/Rule" "skip" "Lcom/example/tempofold/tempofold/model/Skip;" .null := D59 (Or.inr (hw _ (List.mem_of_getElem? (i := 76) rfl))) (ty := (.object "com/example/tempofold/tempofold/model/Skip")) (by decide)
  have fx61 := (fx60.ext E59)
  have fx62 := (V58.ext E59)
  have fx64 := (Nat.le_trans (Nat.le_trans (Nat.le_trans (Nat.le_trans (Nat.le_trans (Nat.le_trans (Nat.le_trans (Nat.le_trans (Nat.le_trans (Nat.le_trans (Nat.le_trans (Nat.le_trans (Nat.le_trans (Nat.le_trans (Nat.le_trans (Nat.le_trans (Nat.le_trans hki0 E29.1) (Keep.of_wr W31).1) (Keep.of_wr W33).1) (Keep.of_wr W35).1) (Keep.of_wr W37).1) (Keep.of_wr W39).1) (Keep.of_wr W41).1) (Keep.of_wr W43).1) (Keep.of_wr W45).1) (Keep.of_wr W47).1) (Keep.of_wr W49).1) E50.1) (Keep.of_wr W52).1) (Keep.of_wr W54).1) (Keep.of_wr W56).1) (Keep.of_wr W58).1) E59.1)
  obtain ⟨_, _, ⟨T63, L63, k63, n63⟩, -, X63, hsi63, hge63, ⟨Lc63, hQ63, l63, y63, z63⟩, st63⟩ := X59.specialBackS hx (y := (⟨"com/example/tempofold/tempofold/model/Rule", "<init>", "(Lcom/example/tempofold/tempofold/model/Method;Lcom/example/tempofold/tempofold/model/Skip;)V"⟩ : MethodName)) rfl hown (mvT hZ (hw _ (List.mem_of_getElem? (i := 49) rfl))) (mvT hZ (hw _ (List.mem_of_getElem? (i := 50) rfl))) (mvT hZ (hw _ (List.mem_of_getElem? (i := 51) rfl))) (by decide) (backOfS (W := 1) (rm1 l Z a0 hw hS [] b59 (sel1 Z i) (sel2 Z si) h59 n0 O59 A59 F_method_b59 F_skip_b59 g_b59) hZ (hw _ (List.mem_of_getElem? (i := 51) rfl)) (hw _ (List.mem_of_getElem? (i := 48) rfl)) (by decide) (by decide)) (g := (mkF m 149 #[oI p0, oI p1, oI p2, oI p3, oI p4, oR b29, oR b50, oI i, oI si, oI j, oI sj, oU, oU, oU, oU, oU, oU] [(.ref (sel2 Z si)), (.ref (sel1 Z i)), (.ref b59), (.ref b59)])) rfl (by rw [hml]; rfl) (Steps.refl _) (a := b59) (argsL := [(.ref (sel1 Z i)), (.ref (sel2 Z si))]) (rest := [(.ref b59)]) (lenOf pd_2 rfl) rfl (by show 2 * 0 + _ ≤ _; exact Nat.le_of_eq rfl) (hb hby at_149) (fun _ _ => ⟨rfl, e59, (by decide : 3 + 4 ≤ _), (by decide : 16 + 48 ≤ _)⟩)
  dsimp only [Pt.U, Pt.locs, Pt.cells, Pt.slots] at X63 l63 y63 z63 st63 hQ63 hsi63 hge63
  subst l63 y63 z63
  have hZ63' := hZ
  have hown63' := hown
  obtain ⟨X63, hSi, hZ, hown⟩ := rebS hSi (by rw [e59]; exact fx64) X63 hsi63 hge63 hZ hown
  obtain ⟨v63, N63q, K63q, po63_0, po63_1, po63_2⟩ := hQ63
  subst v63
  have N63 := Fr.app N58 N63q
  have O63 := O59.keep K63q (allS g_b59 all0)
  have Kc63 := Kc59.trans K63q (allS (Or.inr sz_b59) all0)
  obtain ⟨T65, h65, X65, e65, E65, A65, D65, -, st65⟩ := newO X63 hx hZ hown (hw _ (List.mem_of_getElem? (i := 46) rfl)) (hw _ (List.mem_of_getElem? (i := 47) rfl)) (hw _ (List.mem_of_getElem? (i := 48) rfl)) rfl (g := (mkF m 154 #[oI p0, oI p1, oI p2, oI p3, oI p4, oR b29, oR b50, oI i, oI si, oI j, oI sj, oR b59, oU, oU, oU, oU, oU] [])) rfl (hb hby at_154) (by decide) (by decide)
  obtain ⟨b65, g65⟩ : ∃ z, z = T63.heap.size := ⟨_, rfl⟩
  have g_b65 : n0 ≤ b65 := Nat.le_trans (own_old_le O63) (Nat.le_of_eq g65.symm)
  have sz_b65 : h0.size ≤ b65 := Nat.le_trans Kc63.1 (Nat.le_of_eq g65.symm)
  have fx66 := (fx61.keep K63q (ninS ne_b29_b59 nin0))
  have ne_b29_b65 : b29 ≠ b65 := Nat.ne_of_lt (Nat.lt_of_lt_of_le fx66.lt (Nat.le_of_eq g65.symm))
  have fx67 := (fx62.keep K63q (ninS ne_b50_b59 nin0))
  have ne_b50_b65 : b50 ≠ b65 := Nat.ne_of_lt (Nat.lt_of_lt_of_le fx67.lt (Nat.le_of_eq g65.symm))
  have ne_b59_b65 : b59 ≠ b65 := Nat.ne_of_lt (Nat.lt_of_lt_of_le po63_0.lt (Nat.le_of_eq g65.symm))
  rw [← g65] at A65 D65 st65
  have O65 := O63.ext E65
  have Kc65 := Kc63.ext E65
  have F_method_b65 : Fld Z h65 b65 "com/example/tempofold/tempofold/model/Rule" "method" "Lcom/example/tempofold/tempofold/model/Method;" .null := D65 (Or.inr (hw _ (List.mem_of_getElem? (i := 74) rfl))) (ty := (.object "com/example/tempofold/tempofold/model/Method")) (by decide)
  have F_skip_b65 : Fld Z h65 b65 "com/example/tempofold/tempofold/model/Rule" "skip" "Lcom/example/tempofold/tempofold/model/Skip;" .null := D65 (Or.inr (hw _ (List.mem_of_getElem? (i := 76) rfl))) (ty := (.object "com/example/tempofold/tempofold/model/Skip")) (by decide)
  have fx68 := (fx66.ext E65)
  have fx69 := (fx67.ext E65)
  have fx71 := (Nat.le_trans (Nat.le_refl _) E65.1)
  obtain ⟨_, _, ⟨T70, L70, k70, n70⟩, -, X70, hsi70, hge70, ⟨Lc70, hQ70, l70, y70, z70⟩, st70⟩ := X65.specialBackS hx (y := (⟨"com/example/tempofold/tempofold/model/Rule", "<init>", "(Lcom/example/tempofold/tempofold/model/Method;Lcom/example/tempofold/tempofold/model/Skip;)V"⟩ : MethodName)) rfl hown (mvT hZ (hw _ (List.mem_of_getElem? (i := 49) rfl))) (mvT hZ (hw _ (List.mem_of_getElem? (i := 50) rfl))) (mvT hZ (hw _ (List.mem_of_getElem? (i := 51) rfl))) (by decide) (backOfS (W := 1) (rm1 l Z a0 hw hS [] b65 (sel1 Z j) (sel2 Z sj) h65 n0 O65 A65 F_method_b65 F_skip_b65 g_b65) hZ (hw _ (List.mem_of_getElem? (i := 51) rfl)) (hw _ (List.mem_of_getElem? (i := 48) rfl)) (by decide) (by decide)) (g := (mkF m 168 #[oI p0, oI p1, oI p2, oI p3, oI p4, oR b29, oR b50, oI i, oI si, oI j, oI sj, oR b59, oU, oU, oU, oU, oU] [(.ref (sel2 Z sj)), (.ref (sel1 Z j)), (.ref b65), (.ref b65)])) rfl (by rw [hml]; rfl) (Steps.refl _) (a := b65) (argsL := [(.ref (sel1 Z j)), (.ref (sel2 Z sj))]) (rest := [(.ref b65)]) (lenOf pd_2 rfl) rfl (by show 2 * 0 + _ ≤ _; exact Nat.le_of_eq rfl) (hb hby at_168) (fun _ _ => ⟨rfl, e65, (by decide : 8 + 4 ≤ _), (by decide : 66 + 48 ≤ _)⟩)
  dsimp only [Pt.U, Pt.locs, Pt.cells, Pt.slots] at X70 l70 y70 z70 st70 hQ70 hsi70 hge70
  subst l70 y70 z70
  have hZ70' := hZ
  obtain ⟨X70, hSi, hZ, hown⟩ := rebS hSi (by rw [e65]; exact fx71) X70 hsi70 hge70 hZ hown
  obtain ⟨v70, N70q, K70q, po70_0, po70_1, po70_2⟩ := hQ70
  subst v70
  have N70 := Fr.app N63 N70q
  have O70 := O65.keep K70q (allS g_b65 all0)
  have Kc70 := Kc65.trans K70q (allS (Or.inr sz_b65) all0)
  obtain ⟨k, hk⟩ : ∃ z, z = (p4 &&& (3 : Int32)) := ⟨_, rfl⟩
  have rk : k = (0 : Int32) ∨ k = (1 : Int32) ∨ k = (2 : Int32) ∨ k = (3 : Int32) := by rw [hk]; exact rng_mask3 p4
  have pre72 : ∀ t, oP p e below T70 (mkF m 177 #[oI p0, oI p1, oI p2, oI p3, oI p4, oR b29, oR b50, oI i, oI si, oI j, oI sj, oR b59, oR b65, oU, oU, oU, oU] [(.int k)]) t → oP p e below s₁ (entryFrame m #[(.int p0), (.int p1), (.int p2), (.int p3), (.int p4)] maxLocals) t := fun t k => pre0 t (by
    show oP p e below s₁ (mkF m 0 #[oI p0, oI p1, oI p2, oI p3, oI p4, oU, oU, oU, oU, oU, oU, oU, oU, oU, oU, oU, oU] []) _
    refine XS.bipush X0.here hx rfl (hb hby at_0) ?_
    show oP p e below s₁ (mkF m 2 #[oI p0, oI p1, oI p2, oI p3, oI p4, oU, oU, oU, oU, oU, oU, oU, oU, oU, oU, oU, oU] [(.int (10 : Int32))]) _
    refine st29 _ ?_
    show oP p e below T29 (mkF m 5 #[oI p0, oI p1, oI p2, oI p3, oI p4, oU, oU, oU, oU, oU, oU, oU, oU, oU, oU, oU, oU] [(.ref b29)]) _
    refine XS.dup X29.here hx rfl (hb hby at_5) rfl rfl ?_
    show oP p e below T29 (mkF m 6 #[oI p0, oI p1, oI p2, oI p3, oI p4, oU, oU, oU, oU, oU, oU, oU, oU, oU, oU, oU, oU] [(.ref b29), (.ref b29)]) _
    refine XS.iconst X29.here hx rfl (hb hby at_6) ?_
    show oP p e below T29 (mkF m 7 #[oI p0, oI p1, oI p2, oI p3, oI p4, oU, oU, oU, oU, oU, oU, oU, oU, oU, oU, oU, oU] [(.int (0 : Int32)), (.ref b29), (.ref b29)]) _
    refine st30 _ ?_
    show oP p e below T30 (mkF m 10 #[oI p0, oI p1, oI p2, oI p3, oI p4, oU, oU, oU, oU, oU, oU, oU, oU, oU, oU, oU, oU] [(.ref (a_FLOW Z)), (.int (0 : Int32)), (.ref b29), (.ref b29)]) _
    refine st31 _ ?_
    show oP p e below T31 (mkF m 11 #[oI p0, oI p1, oI p2, oI p3, oI p4, oU, oU, oU, oU, oU, oU, oU, oU, oU, oU, oU, oU] [(.ref b29)]) _
    refine XS.dup X31.here hx rfl (hb hby at_11) rfl rfl ?_
    show oP p e below T31 (mkF m 12 #[oI p0, oI p1, oI p2, oI p3, oI p4, oU, oU, oU, oU, oU, oU, oU, oU, oU, oU, oU, oU] [(.ref b29), (.ref b29)]) _
    refine XS.iconst X31.here hx rfl (hb hby at_12) ?_
    show oP p e below T31 (mkF m 13 #[oI p0, oI p1, oI p2, oI p3, oI p4, oU, oU, oU, oU, oU, oU, oU, oU, oU, oU, oU, oU] [(.int (1 : Int32)), (.ref b29), (.ref b29)]) _
    refine st32 _ ?_
    show oP p e below T32 (mkF m 16 #[oI p0, oI p1, oI p2, oI p3, oI p4, oU, oU, oU, oU, oU, oU, oU, oU, oU, oU, oU, oU] [(.ref (a_SUM_DAYS Z)), (.int (1 : Int32)), (.ref b29), (.ref b29)]) _
    refine st33 _ ?_
    show oP p e below T33 (mkF m 17 #[oI p0, oI p1, oI p2, oI p3, oI p4, oU, oU, oU, oU, oU, oU, oU, oU, oU, oU, oU, oU] [(.ref b29)]) _
    refine XS.dup X33.here hx rfl (hb hby at_17) rfl rfl ?_
    show oP p e below T33 (mkF m 18 #[oI p0, oI p1, oI p2, oI p3, oI p4, oU, oU, oU, oU, oU, oU, oU, oU, oU, oU, oU, oU] [(.ref b29), (.ref b29)]) _
    refine XS.iconst X33.here hx rfl (hb hby at_18) ?_
    show oP p e below T33 (mkF m 19 #[oI p0, oI p1, oI p2, oI p3, oI p4, oU, oU, oU, oU, oU, oU, oU, oU, oU, oU, oU, oU] [(.int (2 : Int32)), (.ref b29), (.ref b29)]) _
    refine st34 _ ?_
    show oP p e below T34 (mkF m 22 #[oI p0, oI p1, oI p2, oI p3, oI p4, oU, oU, oU, oU, oU, oU, oU, oU, oU, oU, oU, oU] [(.ref (a_AVERAGE Z)), (.int (2 : Int32)), (.ref b29), (.ref b29)]) _
    refine st35 _ ?_
    show oP p e below T35 (mkF m 23 #[oI p0, oI p1, oI p2, oI p3, oI p4, oU, oU, oU, oU, oU, oU, oU, oU, oU, oU, oU, oU] [(.ref b29)]) _
    refine XS.dup X35.here hx rfl (hb hby at_23) rfl rfl ?_
    show oP p e below T35 (mkF m 24 #[oI p0, oI p1, oI p2, oI p3, oI p4, oU, oU, oU, oU, oU, oU, oU, oU, oU, oU, oU, oU] [(.ref b29), (.ref b29)]) _
    refine XS.iconst X35.here hx rfl (hb hby at_24) ?_
    show oP p e below T35 (mkF m 25 #[oI p0, oI p1, oI p2, oI p3, oI p4, oU, oU, oU, oU, oU, oU, oU, oU, oU, oU, oU, oU] [(.int (3 : Int32)), (.ref b29), (.ref b29)]) _
    refine st36 _ ?_
    show oP p e below T36 (mkF m 28 #[oI p0, oI p1, oI p2, oI p3, oI p4, oU, oU, oU, oU, oU, oU, oU, oU, oU, oU, oU, oU] [(.ref (a_AVERAGE_DAYS Z)), (.int (3 : Int32)), (.ref b29), (.ref b29)]) _
    refine st37 _ ?_
    show oP p e below T37 (mkF m 29 #[oI p0, oI p1, oI p2, oI p3, oI p4, oU, oU, oU, oU, oU, oU, oU, oU, oU, oU, oU, oU] [(.ref b29)]) _
    refine XS.dup X37.here hx rfl (hb hby at_29) rfl rfl ?_
    show oP p e below T37 (mkF m 30 #[oI p0, oI p1, oI p2, oI p3, oI p4, oU, oU, oU, oU, oU, oU, oU, oU, oU, oU, oU, oU] [(.ref b29), (.ref b29)]) _
    refine XS.iconst X37.here hx rfl (hb hby at_30) ?_
    show oP p e below T37 (mkF m 31 #[oI p0, oI p1, oI p2, oI p3, oI p4, oU, oU, oU, oU, oU, oU, oU, oU, oU, oU, oU, oU] [(.int (4 : Int32)), (.ref b29), (.ref b29)]) _
    refine st38 _ ?_
    show oP p e below T38 (mkF m 34 #[oI p0, oI p1, oI p2, oI p3, oI p4, oU, oU, oU, oU, oU, oU, oU, oU, oU, oU, oU, oU] [(.ref (a_AVERAGE_DAYS_365 Z)), (.int (4 : Int32)), (.ref b29), (.ref b29)]) _
    refine st39 _ ?_
    show oP p e below T39 (mkF m 35 #[oI p0, oI p1, oI p2, oI p3, oI p4, oU, oU, oU, oU, oU, oU, oU, oU, oU, oU, oU, oU] [(.ref b29)]) _
    refine XS.dup X39.here hx rfl (hb hby at_35) rfl rfl ?_
    show oP p e below T39 (mkF m 36 #[oI p0, oI p1, oI p2, oI p3, oI p4, oU, oU, oU, oU, oU, oU, oU, oU, oU, oU, oU, oU] [(.ref b29), (.ref b29)]) _
    refine XS.iconst X39.here hx rfl (hb hby at_36) ?_
    show oP p e below T39 (mkF m 37 #[oI p0, oI p1, oI p2, oI p3, oI p4, oU, oU, oU, oU, oU, oU, oU, oU, oU, oU, oU, oU] [(.int (5 : Int32)), (.ref b29), (.ref b29)]) _
    refine st40 _ ?_
    show oP p e below T40 (mkF m 40 #[oI p0, oI p1, oI p2, oI p3, oI p4, oU, oU, oU, oU, oU, oU, oU, oU, oU, oU, oU, oU] [(.ref (a_LAST Z)), (.int (5 : Int32)), (.ref b29), (.ref b29)]) _
    refine st41 _ ?_
    show oP p e below T41 (mkF m 41 #[oI p0, oI p1, oI p2, oI p3, oI p4, oU, oU, oU, oU, oU, oU, oU, oU, oU, oU, oU, oU] [(.ref b29)]) _
    refine XS.dup X41.here hx rfl (hb hby at_41) rfl rfl ?_
    show oP p e below T41 (mkF m 42 #[oI p0, oI p1, oI p2, oI p3, oI p4, oU, oU, oU, oU, oU, oU, oU, oU, oU, oU, oU, oU] [(.ref b29), (.ref b29)]) _
    refine XS.bipush X41.here hx rfl (hb hby at_42) ?_
    show oP p e below T41 (mkF m 44 #[oI p0, oI p1, oI p2, oI p3, oI p4, oU, oU, oU, oU, oU, oU, oU, oU, oU, oU, oU, oU] [(.int (6 : Int32)), (.ref b29), (.ref b29)]) _
    refine st42 _ ?_
    show oP p e below T42 (mkF m 47 #[oI p0, oI p1, oI p2, oI p3, oI p4, oU, oU, oU, oU, oU, oU, oU, oU, oU, oU, oU, oU] [(.ref (a_FIRST Z)), (.int (6 : Int32)), (.ref b29), (.ref b29)]) _
    refine st43 _ ?_
    show oP p e below T43 (mkF m 48 #[oI p0, oI p1, oI p2, oI p3, oI p4, oU, oU, oU, oU, oU, oU, oU, oU, oU, oU, oU, oU] [(.ref b29)]) _
    refine XS.dup X43.here hx rfl (hb hby at_48) rfl rfl ?_
    show oP p e below T43 (mkF m 49 #[oI p0, oI p1, oI p2, oI p3, oI p4, oU, oU, oU, oU, oU, oU, oU, oU, oU, oU, oU, oU] [(.ref b29), (.ref b29)]) _
    refine XS.bipush X43.here hx rfl (hb hby at_49) ?_
    show oP p e below T43 (mkF m 51 #[oI p0, oI p1, oI p2, oI p3, oI p4, oU, oU, oU, oU, oU, oU, oU, oU, oU, oU, oU, oU] [(.int (7 : Int32)), (.ref b29), (.ref b29)]) _
    refine st44 _ ?_
    show oP p e below T44 (mkF m 54 #[oI p0, oI p1, oI p2, oI p3, oI p4, oU, oU, oU, oU, oU, oU, oU, oU, oU, oU, oU, oU] [(.ref (a_COMPOUND Z)), (.int (7 : Int32)), (.ref b29), (.ref b29)]) _
    refine st45 _ ?_
    show oP p e below T45 (mkF m 55 #[oI p0, oI p1, oI p2, oI p3, oI p4, oU, oU, oU, oU, oU, oU, oU, oU, oU, oU, oU, oU] [(.ref b29)]) _
    refine XS.dup X45.here hx rfl (hb hby at_55) rfl rfl ?_
    show oP p e below T45 (mkF m 56 #[oI p0, oI p1, oI p2, oI p3, oI p4, oU, oU, oU, oU, oU, oU, oU, oU, oU, oU, oU, oU] [(.ref b29), (.ref b29)]) _
    refine XS.bipush X45.here hx rfl (hb hby at_56) ?_
    show oP p e below T45 (mkF m 58 #[oI p0, oI p1, oI p2, oI p3, oI p4, oU, oU, oU, oU, oU, oU, oU, oU, oU, oU, oU, oU] [(.int (8 : Int32)), (.ref b29), (.ref b29)]) _
    refine st46 _ ?_
    show oP p e below T46 (mkF m 61 #[oI p0, oI p1, oI p2, oI p3, oI p4, oU, oU, oU, oU, oU, oU, oU, oU, oU, oU, oU, oU] [(.ref (a_FILL Z)), (.int (8 : Int32)), (.ref b29), (.ref b29)]) _
    refine st47 _ ?_
    show oP p e below T47 (mkF m 62 #[oI p0, oI p1, oI p2, oI p3, oI p4, oU, oU, oU, oU, oU, oU, oU, oU, oU, oU, oU, oU] [(.ref b29)]) _
    refine XS.dup X47.here hx rfl (hb hby at_62) rfl rfl ?_
    show oP p e below T47 (mkF m 63 #[oI p0, oI p1, oI p2, oI p3, oI p4, oU, oU, oU, oU, oU, oU, oU, oU, oU, oU, oU, oU] [(.ref b29), (.ref b29)]) _
    refine XS.bipush X47.here hx rfl (hb hby at_63) ?_
    show oP p e below T47 (mkF m 65 #[oI p0, oI p1, oI p2, oI p3, oI p4, oU, oU, oU, oU, oU, oU, oU, oU, oU, oU, oU, oU] [(.int (9 : Int32)), (.ref b29), (.ref b29)]) _
    refine st48 _ ?_
    show oP p e below T48 (mkF m 68 #[oI p0, oI p1, oI p2, oI p3, oI p4, oU, oU, oU, oU, oU, oU, oU, oU, oU, oU, oU, oU] [(.ref (a_EQUAL_ALLOCATION_BALANCE Z)), (.int (9 : Int32)), (.ref b29), (.ref b29)]) _
    refine st49 _ ?_
    show oP p e below T49 (mkF m 69 #[oI p0, oI p1, oI p2, oI p3, oI p4, oU, oU, oU, oU, oU, oU, oU, oU, oU, oU, oU, oU] [(.ref b29)]) _
    refine XS.astore X49.here hx rfl (hb hby at_69) rfl rfl (l' := #[oI p0, oI p1, oI p2, oI p3, oI p4, oR b29, oU, oU, oU, oU, oU, oU, oU, oU, oU, oU, oU]) rfl ?_
    show oP p e below T49 (mkF m 71 #[oI p0, oI p1, oI p2, oI p3, oI p4, oR b29, oU, oU, oU, oU, oU, oU, oU, oU, oU, oU, oU] []) _
    refine XS.iconst X49.here hx rfl (hb hby at_71) ?_
    show oP p e below T49 (mkF m 72 #[oI p0, oI p1, oI p2, oI p3, oI p4, oR b29, oU, oU, oU, oU, oU, oU, oU, oU, oU, oU, oU] [(.int (4 : Int32))]) _
    refine st50 _ ?_
    show oP p e below T50 (mkF m 75 #[oI p0, oI p1, oI p2, oI p3, oI p4, oR b29, oU, oU, oU, oU, oU, oU, oU, oU, oU, oU, oU] [(.ref b50)]) _
    refine XS.dup X50.here hx rfl (hb hby at_75) rfl rfl ?_
    show oP p e below T50 (mkF m 76 #[oI p0, oI p1, oI p2, oI p3, oI p4, oR b29, oU, oU, oU, oU, oU, oU, oU, oU, oU, oU, oU] [(.ref b50), (.ref b50)]) _
    refine XS.iconst X50.here hx rfl (hb hby at_76) ?_
    show oP p e below T50 (mkF m 77 #[oI p0, oI p1, oI p2, oI p3, oI p4, oR b29, oU, oU, oU, oU, oU, oU, oU, oU, oU, oU, oU] [(.int (0 : Int32)), (.ref b50), (.ref b50)]) _
    refine st51 _ ?_
    show oP p e below T51 (mkF m 80 #[oI p0, oI p1, oI p2, oI p3, oI p4, oR b29, oU, oU, oU, oU, oU, oU, oU, oU, oU, oU, oU] [(.ref (a_NONE Z)), (.int (0 : Int32)), (.ref b50), (.ref b50)]) _
    refine st52 _ ?_
    show oP p e below T52 (mkF m 81 #[oI p0, oI p1, oI p2, oI p3, oI p4, oR b29, oU, oU, oU, oU, oU, oU, oU, oU, oU, oU, oU] [(.ref b50)]) _
    refine XS.dup X52.here hx rfl (hb hby at_81) rfl rfl ?_
    show oP p e below T52 (mkF m 82 #[oI p0, oI p1, oI p2, oI p3, oI p4, oR b29, oU, oU, oU, oU, oU, oU, oU, oU, oU, oU, oU] [(.ref b50), (.ref b50)]) _
    refine XS.iconst X52.here hx rfl (hb hby at_82) ?_
    show oP p e below T52 (mkF m 83 #[oI p0, oI p1, oI p2, oI p3, oI p4, oR b29, oU, oU, oU, oU, oU, oU, oU, oU, oU, oU, oU] [(.int (1 : Int32)), (.ref b50), (.ref b50)]) _
    refine st53 _ ?_
    show oP p e below T53 (mkF m 86 #[oI p0, oI p1, oI p2, oI p3, oI p4, oR b29, oU, oU, oU, oU, oU, oU, oU, oU, oU, oU, oU] [(.ref (a_MISSING Z)), (.int (1 : Int32)), (.ref b50), (.ref b50)]) _
    refine st54 _ ?_
    show oP p e below T54 (mkF m 87 #[oI p0, oI p1, oI p2, oI p3, oI p4, oR b29, oU, oU, oU, oU, oU, oU, oU, oU, oU, oU, oU] [(.ref b50)]) _
    refine XS.dup X54.here hx rfl (hb hby at_87) rfl rfl ?_
    show oP p e below T54 (mkF m 88 #[oI p0, oI p1, oI p2, oI p3, oI p4, oR b29, oU, oU, oU, oU, oU, oU, oU, oU, oU, oU, oU] [(.ref b50), (.ref b50)]) _
    refine XS.iconst X54.here hx rfl (hb hby at_88) ?_
    show oP p e below T54 (mkF m 89 #[oI p0, oI p1, oI p2, oI p3, oI p4, oR b29, oU, oU, oU, oU, oU, oU, oU, oU, oU, oU, oU] [(.int (2 : Int32)), (.ref b50), (.ref b50)]) _
    refine st55 _ ?_
    show oP p e below T55 (mkF m 92 #[oI p0, oI p1, oI p2, oI p3, oI p4, oR b29, oU, oU, oU, oU, oU, oU, oU, oU, oU, oU, oU] [(.ref (a_ZEROS Z)), (.int (2 : Int32)), (.ref b50), (.ref b50)]) _
    refine st56 _ ?_
    show oP p e below T56 (mkF m 93 #[oI p0, oI p1, oI p2, oI p3, oI p4, oR b29, oU, oU, oU, oU, oU, oU, oU, oU, oU, oU, oU] [(.ref b50)]) _
    refine XS.dup X56.here hx rfl (hb hby at_93) rfl rfl ?_
    show oP p e below T56 (mkF m 94 #[oI p0, oI p1, oI p2, oI p3, oI p4, oR b29, oU, oU, oU, oU, oU, oU, oU, oU, oU, oU, oU] [(.ref b50), (.ref b50)]) _
    refine XS.iconst X56.here hx rfl (hb hby at_94) ?_
    show oP p e below T56 (mkF m 95 #[oI p0, oI p1, oI p2, oI p3, oI p4, oR b29, oU, oU, oU, oU, oU, oU, oU, oU, oU, oU, oU] [(.int (3 : Int32)), (.ref b50), (.ref b50)]) _
    refine st57 _ ?_
    show oP p e below T57 (mkF m 98 #[oI p0, oI p1, oI p2, oI p3, oI p4, oR b29, oU, oU, oU, oU, oU, oU, oU, oU, oU, oU, oU] [(.ref (a_MISSING_AND_ZEROS Z)), (.int (3 : Int32)), (.ref b50), (.ref b50)]) _
    refine st58 _ ?_
    show oP p e below T58 (mkF m 99 #[oI p0, oI p1, oI p2, oI p3, oI p4, oR b29, oU, oU, oU, oU, oU, oU, oU, oU, oU, oU, oU] [(.ref b50)]) _
    refine XS.astore X58.here hx rfl (hb hby at_99) rfl rfl (l' := #[oI p0, oI p1, oI p2, oI p3, oI p4, oR b29, oR b50, oU, oU, oU, oU, oU, oU, oU, oU, oU, oU]) rfl ?_
    show oP p e below T58 (mkF m 101 #[oI p0, oI p1, oI p2, oI p3, oI p4, oR b29, oR b50, oU, oU, oU, oU, oU, oU, oU, oU, oU, oU] []) _
    refine XS.iloadN X58.here hx rfl (hb hby at_101) rfl ?_
    show oP p e below T58 (mkF m 102 #[oI p0, oI p1, oI p2, oI p3, oI p4, oR b29, oR b50, oU, oU, oU, oU, oU, oU, oU, oU, oU, oU] [(.int p0)]) _
    refine X58.ldcInt hx hown63' (mvT hZ63' (hw _ (List.mem_of_getElem? (i := 45) rfl))) (g := (mkF m 102 #[oI p0, oI p1, oI p2, oI p3, oI p4, oR b29, oR b50, oU, oU, oU, oU, oU, oU, oU, oU, oU, oU] [(.int p0)])) rfl (hb hby at_102) _ ?_
    show oP p e below T58 (mkF m 104 #[oI p0, oI p1, oI p2, oI p3, oI p4, oR b29, oR b50, oU, oU, oU, oU, oU, oU, oU, oU, oU, oU] [(.int (2147483647 : Int32)), (.int p0)]) _
    refine XS.iand X58.here hx rfl (hb hby at_104) rfl ?_
    show oP p e below T58 (mkF m 105 #[oI p0, oI p1, oI p2, oI p3, oI p4, oR b29, oR b50, oU, oU, oU, oU, oU, oU, oU, oU, oU, oU] [(.int (p0 &&& (2147483647 : Int32)))]) _
    refine XS.bipush X58.here hx rfl (hb hby at_105) ?_
    show oP p e below T58 (mkF m 107 #[oI p0, oI p1, oI p2, oI p3, oI p4, oR b29, oR b50, oU, oU, oU, oU, oU, oU, oU, oU, oU, oU] [(.int (10 : Int32)), (.int (p0 &&& (2147483647 : Int32)))]) _
    refine XS.irem X58.here hx rfl (hb hby at_107) rfl (by decide) ?_
    show oP p e below T58 (mkF m 108 #[oI p0, oI p1, oI p2, oI p3, oI p4, oR b29, oR b50, oU, oU, oU, oU, oU, oU, oU, oU, oU, oU] [(.int ((p0 &&& (2147483647 : Int32)) - ((p0 &&& (2147483647 : Int32)) / (10 : Int32)) * (10 : Int32)))]) _
    rw [← hi]
    show oP p e below T58 (mkF m 108 #[oI p0, oI p1, oI p2, oI p3, oI p4, oR b29, oR b50, oU, oU, oU, oU, oU, oU, oU, oU, oU, oU] [(.int i)]) _
    refine XS.istore X58.here hx rfl (hb hby at_108) rfl (l' := #[oI p0, oI p1, oI p2, oI p3, oI p4, oR b29, oR b50, oI i, oU, oU, oU, oU, oU, oU, oU, oU, oU]) rfl ?_
    show oP p e below T58 (mkF m 110 #[oI p0, oI p1, oI p2, oI p3, oI p4, oR b29, oR b50, oI i, oU, oU, oU, oU, oU, oU, oU, oU, oU] []) _
    refine XS.iloadN X58.here hx rfl (hb hby at_110) rfl ?_
    show oP p e below T58 (mkF m 111 #[oI p0, oI p1, oI p2, oI p3, oI p4, oR b29, oR b50, oI i, oU, oU, oU, oU, oU, oU, oU, oU, oU] [(.int p1)]) _
    refine X58.ldcInt hx hown63' (mvT hZ63' (hw _ (List.mem_of_getElem? (i := 45) rfl))) (g := (mkF m 111 #[oI p0, oI p1, oI p2, oI p3, oI p4, oR b29, oR b50, oI i, oU, oU, oU, oU, oU, oU, oU, oU, oU] [(.int p1)])) rfl (hb hby at_111) _ ?_
    show oP p e below T58 (mkF m 113 #[oI p0, oI p1, oI p2, oI p3, oI p4, oR b29, oR b50, oI i, oU, oU, oU, oU, oU, oU, oU, oU, oU] [(.int (2147483647 : Int32)), (.int p1)]) _
    refine XS.iand X58.here hx rfl (hb hby at_113) rfl ?_
    show oP p e below T58 (mkF m 114 #[oI p0, oI p1, oI p2, oI p3, oI p4, oR b29, oR b50, oI i, oU, oU, oU, oU, oU, oU, oU, oU, oU] [(.int (p1 &&& (2147483647 : Int32)))]) _
    refine XS.iconst X58.here hx rfl (hb hby at_114) ?_
    show oP p e below T58 (mkF m 115 #[oI p0, oI p1, oI p2, oI p3, oI p4, oR b29, oR b50, oI i, oU, oU, oU, oU, oU, oU, oU, oU, oU] [(.int (4 : Int32)), (.int (p1 &&& (2147483647 : Int32)))]) _
    refine XS.irem X58.here hx rfl (hb hby at_115) rfl (by decide) ?_
    show oP p e below T58 (mkF m 116 #[oI p0, oI p1, oI p2, oI p3, oI p4, oR b29, oR b50, oI i, oU, oU, oU, oU, oU, oU, oU, oU, oU] [(.int ((p1 &&& (2147483647 : Int32)) - ((p1 &&& (2147483647 : Int32)) / (4 : Int32)) * (4 : Int32)))]) _
    rw [← hsi]
    show oP p e below T58 (mkF m 116 #[oI p0, oI p1, oI p2, oI p3, oI p4, oR b29, oR b50, oI i, oU, oU, oU, oU, oU, oU, oU, oU, oU] [(.int si)]) _
    refine XS.istore X58.here hx rfl (hb hby at_116) rfl (l' := #[oI p0, oI p1, oI p2, oI p3, oI p4, oR b29, oR b50, oI i, oI si, oU, oU, oU, oU, oU, oU, oU, oU]) rfl ?_
    show oP p e below T58 (mkF m 118 #[oI p0, oI p1, oI p2, oI p3, oI p4, oR b29, oR b50, oI i, oI si, oU, oU, oU, oU, oU, oU, oU, oU] []) _
    refine XS.iloadN X58.here hx rfl (hb hby at_118) rfl ?_
    show oP p e below T58 (mkF m 119 #[oI p0, oI p1, oI p2, oI p3, oI p4, oR b29, oR b50, oI i, oI si, oU, oU, oU, oU, oU, oU, oU, oU] [(.int p2)]) _
    refine X58.ldcInt hx hown63' (mvT hZ63' (hw _ (List.mem_of_getElem? (i := 45) rfl))) (g := (mkF m 119 #[oI p0, oI p1, oI p2, oI p3, oI p4, oR b29, oR b50, oI i, oI si, oU, oU, oU, oU, oU, oU, oU, oU] [(.int p2)])) rfl (hb hby at_119) _ ?_
    show oP p e below T58 (mkF m 121 #[oI p0, oI p1, oI p2, oI p3, oI p4, oR b29, oR b50, oI i, oI si, oU, oU, oU, oU, oU, oU, oU, oU] [(.int (2147483647 : Int32)), (.int p2)]) _
    refine XS.iand X58.here hx rfl (hb hby at_121) rfl ?_
    show oP p e below T58 (mkF m 122 #[oI p0, oI p1, oI p2, oI p3, oI p4, oR b29, oR b50, oI i, oI si, oU, oU, oU, oU, oU, oU, oU, oU] [(.int (p2 &&& (2147483647 : Int32)))]) _
    refine XS.bipush X58.here hx rfl (hb hby at_122) ?_
    show oP p e below T58 (mkF m 124 #[oI p0, oI p1, oI p2, oI p3, oI p4, oR b29, oR b50, oI i, oI si, oU, oU, oU, oU, oU, oU, oU, oU] [(.int (10 : Int32)), (.int (p2 &&& (2147483647 : Int32)))]) _
    refine XS.irem X58.here hx rfl (hb hby at_124) rfl (by decide) ?_
    show oP p e below T58 (mkF m 125 #[oI p0, oI p1, oI p2, oI p3, oI p4, oR b29, oR b50, oI i, oI si, oU, oU, oU, oU, oU, oU, oU, oU] [(.int ((p2 &&& (2147483647 : Int32)) - ((p2 &&& (2147483647 : Int32)) / (10 : Int32)) * (10 : Int32)))]) _
    rw [← hj]
    show oP p e below T58 (mkF m 125 #[oI p0, oI p1, oI p2, oI p3, oI p4, oR b29, oR b50, oI i, oI si, oU, oU, oU, oU, oU, oU, oU, oU] [(.int j)]) _
    refine XS.istore X58.here hx rfl (hb hby at_125) rfl (l' := #[oI p0, oI p1, oI p2, oI p3, oI p4, oR b29, oR b50, oI i, oI si, oI j, oU, oU, oU, oU, oU, oU, oU]) rfl ?_
    show oP p e below T58 (mkF m 127 #[oI p0, oI p1, oI p2, oI p3, oI p4, oR b29, oR b50, oI i, oI si, oI j, oU, oU, oU, oU, oU, oU, oU] []) _
    refine XS.iloadN X58.here hx rfl (hb hby at_127) rfl ?_
    show oP p e below T58 (mkF m 128 #[oI p0, oI p1, oI p2, oI p3, oI p4, oR b29, oR b50, oI i, oI si, oI j, oU, oU, oU, oU, oU, oU, oU] [(.int p3)]) _
    refine X58.ldcInt hx hown63' (mvT hZ63' (hw _ (List.mem_of_getElem? (i := 45) rfl))) (g := (mkF m 128 #[oI p0, oI p1, oI p2, oI p3, oI p4, oR b29, oR b50, oI i, oI si, oI j, oU, oU, oU, oU, oU, oU, oU] [(.int p3)])) rfl (hb hby at_128) _ ?_
    show oP p e below T58 (mkF m 130 #[oI p0, oI p1, oI p2, oI p3, oI p4, oR b29, oR b50, oI i, oI si, oI j, oU, oU, oU, oU, oU, oU, oU] [(.int (2147483647 : Int32)), (.int p3)]) _
    refine XS.iand X58.here hx rfl (hb hby at_130) rfl ?_
    show oP p e below T58 (mkF m 131 #[oI p0, oI p1, oI p2, oI p3, oI p4, oR b29, oR b50, oI i, oI si, oI j, oU, oU, oU, oU, oU, oU, oU] [(.int (p3 &&& (2147483647 : Int32)))]) _
    refine XS.iconst X58.here hx rfl (hb hby at_131) ?_
    show oP p e below T58 (mkF m 132 #[oI p0, oI p1, oI p2, oI p3, oI p4, oR b29, oR b50, oI i, oI si, oI j, oU, oU, oU, oU, oU, oU, oU] [(.int (4 : Int32)), (.int (p3 &&& (2147483647 : Int32)))]) _
    refine XS.irem X58.here hx rfl (hb hby at_132) rfl (by decide) ?_
    show oP p e below T58 (mkF m 133 #[oI p0, oI p1, oI p2, oI p3, oI p4, oR b29, oR b50, oI i, oI si, oI j, oU, oU, oU, oU, oU, oU, oU] [(.int ((p3 &&& (2147483647 : Int32)) - ((p3 &&& (2147483647 : Int32)) / (4 : Int32)) * (4 : Int32)))]) _
    rw [← hsj]
    show oP p e below T58 (mkF m 133 #[oI p0, oI p1, oI p2, oI p3, oI p4, oR b29, oR b50, oI i, oI si, oI j, oU, oU, oU, oU, oU, oU, oU] [(.int sj)]) _
    refine XS.istore X58.here hx rfl (hb hby at_133) rfl (l' := #[oI p0, oI p1, oI p2, oI p3, oI p4, oR b29, oR b50, oI i, oI si, oI j, oI sj, oU, oU, oU, oU, oU, oU]) rfl ?_
    show oP p e below T58 (mkF m 135 #[oI p0, oI p1, oI p2, oI p3, oI p4, oR b29, oR b50, oI i, oI si, oI j, oI sj, oU, oU, oU, oU, oU, oU] []) _
    refine st59 _ ?_
    show oP p e below T59 (mkF m 138 #[oI p0, oI p1, oI p2, oI p3, oI p4, oR b29, oR b50, oI i, oI si, oI j, oI sj, oU, oU, oU, oU, oU, oU] [(.ref b59)]) _
    refine XS.dup X59.here hx rfl (hb hby at_138) rfl rfl ?_
    show oP p e below T59 (mkF m 139 #[oI p0, oI p1, oI p2, oI p3, oI p4, oR b29, oR b50, oI i, oI si, oI j, oI sj, oU, oU, oU, oU, oU, oU] [(.ref b59), (.ref b59)]) _
    refine XS.aload X59.here hx rfl (hb hby at_139) rfl rfl ?_
    show oP p e below T59 (mkF m 141 #[oI p0, oI p1, oI p2, oI p3, oI p4, oR b29, oR b50, oI i, oI si, oI j, oI sj, oU, oU, oU, oU, oU, oU] [(.ref b29), (.ref b59), (.ref b59)]) _
    refine XS.iload X59.here hx rfl (hb hby at_141) rfl ?_
    show oP p e below T59 (mkF m 143 #[oI p0, oI p1, oI p2, oI p3, oI p4, oR b29, oR b50, oI i, oI si, oI j, oI sj, oU, oU, oU, oU, oU, oU] [(.int i), (.ref b29), (.ref b59), (.ref b59)]) _
    refine own_aaload X59 hx hZ63' e59 fx61 rfl (j := i) (sel1_in ri) (v := (.ref (sel1 Z i))) (sel1_at Z ri) (g := (mkF m 143 #[oI p0, oI p1, oI p2, oI p3, oI p4, oR b29, oR b50, oI i, oI si, oI j, oI sj, oU, oU, oU, oU, oU, oU] [(.int i), (.ref b29), (.ref b59), (.ref b59)])) rfl rfl (hb hby at_143) _ ?_
    show oP p e below T59 (mkF m 144 #[oI p0, oI p1, oI p2, oI p3, oI p4, oR b29, oR b50, oI i, oI si, oI j, oI sj, oU, oU, oU, oU, oU, oU] [(.ref (sel1 Z i)), (.ref b59), (.ref b59)]) _
    refine XS.aload X59.here hx rfl (hb hby at_144) rfl rfl ?_
    show oP p e below T59 (mkF m 146 #[oI p0, oI p1, oI p2, oI p3, oI p4, oR b29, oR b50, oI i, oI si, oI j, oI sj, oU, oU, oU, oU, oU, oU] [(.ref b50), (.ref (sel1 Z i)), (.ref b59), (.ref b59)]) _
    refine XS.iload X59.here hx rfl (hb hby at_146) rfl ?_
    show oP p e below T59 (mkF m 148 #[oI p0, oI p1, oI p2, oI p3, oI p4, oR b29, oR b50, oI i, oI si, oI j, oI sj, oU, oU, oU, oU, oU, oU] [(.int si), (.ref b50), (.ref (sel1 Z i)), (.ref b59), (.ref b59)]) _
    refine own_aaload X59 hx hZ63' e59 fx62 rfl (j := si) (sel2_in rsi) (v := (.ref (sel2 Z si))) (sel2_at Z rsi) (g := (mkF m 148 #[oI p0, oI p1, oI p2, oI p3, oI p4, oR b29, oR b50, oI i, oI si, oI j, oI sj, oU, oU, oU, oU, oU, oU] [(.int si), (.ref b50), (.ref (sel1 Z i)), (.ref b59), (.ref b59)])) rfl rfl (hb hby at_148) _ ?_
    show oP p e below T59 (mkF m 149 #[oI p0, oI p1, oI p2, oI p3, oI p4, oR b29, oR b50, oI i, oI si, oI j, oI sj, oU, oU, oU, oU, oU, oU] [(.ref (sel2 Z si)), (.ref (sel1 Z i)), (.ref b59), (.ref b59)]) _
    refine st63.trans ?_
    show oP p e below T63 (mkF m 152 #[oI p0, oI p1, oI p2, oI p3, oI p4, oR b29, oR b50, oI i, oI si, oI j, oI sj, oU, oU, oU, oU, oU, oU] [(.ref b59)]) _
    refine XS.astore X63.here hx rfl (hb hby at_152) rfl rfl (l' := #[oI p0, oI p1, oI p2, oI p3, oI p4, oR b29, oR b50, oI i, oI si, oI j, oI sj, oR b59, oU, oU, oU, oU, oU]) rfl ?_
    show oP p e below T63 (mkF m 154 #[oI p0, oI p1, oI p2, oI p3, oI p4, oR b29, oR b50, oI i, oI si, oI j, oI sj, oR b59, oU, oU, oU, oU, oU] []) _
    refine st65 _ ?_
    show oP p e below T65 (mkF m 157 #[oI p0, oI p1, oI p2, oI p3, oI p4, oR b29, oR b50, oI i, oI si, oI j, oI sj, oR b59, oU, oU, oU, oU, oU] [(.ref b65)]) _
    refine XS.dup X65.here hx rfl (hb hby at_157) rfl rfl ?_
    show oP p e below T65 (mkF m 158 #[oI p0, oI p1, oI p2, oI p3, oI p4, oR b29, oR b50, oI i, oI si, oI j, oI sj, oR b59, oU, oU, oU, oU, oU] [(.ref b65), (.ref b65)]) _
    refine XS.aload X65.here hx rfl (hb hby at_158) rfl rfl ?_
    show oP p e below T65 (mkF m 160 #[oI p0, oI p1, oI p2, oI p3, oI p4, oR b29, oR b50, oI i, oI si, oI j, oI sj, oR b59, oU, oU, oU, oU, oU] [(.ref b29), (.ref b65), (.ref b65)]) _
    refine XS.iload X65.here hx rfl (hb hby at_160) rfl ?_
    show oP p e below T65 (mkF m 162 #[oI p0, oI p1, oI p2, oI p3, oI p4, oR b29, oR b50, oI i, oI si, oI j, oI sj, oR b59, oU, oU, oU, oU, oU] [(.int j), (.ref b29), (.ref b65), (.ref b65)]) _
    refine own_aaload X65 hx hZ70' e65 fx68 rfl (j := j) (sel1_in rj) (v := (.ref (sel1 Z j))) (sel1_at Z rj) (g := (mkF m 162 #[oI p0, oI p1, oI p2, oI p3, oI p4, oR b29, oR b50, oI i, oI si, oI j, oI sj, oR b59, oU, oU, oU, oU, oU] [(.int j), (.ref b29), (.ref b65), (.ref b65)])) rfl rfl (hb hby at_162) _ ?_
    show oP p e below T65 (mkF m 163 #[oI p0, oI p1, oI p2, oI p3, oI p4, oR b29, oR b50, oI i, oI si, oI j, oI sj, oR b59, oU, oU, oU, oU, oU] [(.ref (sel1 Z j)), (.ref b65), (.ref b65)]) _
    refine XS.aload X65.here hx rfl (hb hby at_163) rfl rfl ?_
    show oP p e below T65 (mkF m 165 #[oI p0, oI p1, oI p2, oI p3, oI p4, oR b29, oR b50, oI i, oI si, oI j, oI sj, oR b59, oU, oU, oU, oU, oU] [(.ref b50), (.ref (sel1 Z j)), (.ref b65), (.ref b65)]) _
    refine XS.iload X65.here hx rfl (hb hby at_165) rfl ?_
    show oP p e below T65 (mkF m 167 #[oI p0, oI p1, oI p2, oI p3, oI p4, oR b29, oR b50, oI i, oI si, oI j, oI sj, oR b59, oU, oU, oU, oU, oU] [(.int sj), (.ref b50), (.ref (sel1 Z j)), (.ref b65), (.ref b65)]) _
    refine own_aaload X65 hx hZ70' e65 fx69 rfl (j := sj) (sel2_in rsj) (v := (.ref (sel2 Z sj))) (sel2_at Z rsj) (g := (mkF m 167 #[oI p0, oI p1, oI p2, oI p3, oI p4, oR b29, oR b50, oI i, oI si, oI j, oI sj, oR b59, oU, oU, oU, oU, oU] [(.int sj), (.ref b50), (.ref (sel1 Z j)), (.ref b65), (.ref b65)])) rfl rfl (hb hby at_167) _ ?_
    show oP p e below T65 (mkF m 168 #[oI p0, oI p1, oI p2, oI p3, oI p4, oR b29, oR b50, oI i, oI si, oI j, oI sj, oR b59, oU, oU, oU, oU, oU] [(.ref (sel2 Z sj)), (.ref (sel1 Z j)), (.ref b65), (.ref b65)]) _
    refine st70.trans ?_
    show oP p e below T70 (mkF m 171 #[oI p0, oI p1, oI p2, oI p3, oI p4, oR b29, oR b50, oI i, oI si, oI j, oI sj, oR b59, oU, oU, oU, oU, oU] [(.ref b65)]) _
    refine XS.astore X70.here hx rfl (hb hby at_171) rfl rfl (l' := #[oI p0, oI p1, oI p2, oI p3, oI p4, oR b29, oR b50, oI i, oI si, oI j, oI sj, oR b59, oR b65, oU, oU, oU, oU]) rfl ?_
    show oP p e below T70 (mkF m 173 #[oI p0, oI p1, oI p2, oI p3, oI p4, oR b29, oR b50, oI i, oI si, oI j, oI sj, oR b59, oR b65, oU, oU, oU, oU] []) _
    refine XS.iload X70.here hx rfl (hb hby at_173) rfl ?_
    show oP p e below T70 (mkF m 175 #[oI p0, oI p1, oI p2, oI p3, oI p4, oR b29, oR b50, oI i, oI si, oI j, oI sj, oR b59, oR b65, oU, oU, oU, oU] [(.int p4)]) _
    refine XS.iconst X70.here hx rfl (hb hby at_175) ?_
    show oP p e below T70 (mkF m 176 #[oI p0, oI p1, oI p2, oI p3, oI p4, oR b29, oR b50, oI i, oI si, oI j, oI sj, oR b59, oR b65, oU, oU, oU, oU] [(.int (3 : Int32)), (.int p4)]) _
    refine XS.iand X70.here hx rfl (hb hby at_176) rfl ?_
    show oP p e below T70 (mkF m 177 #[oI p0, oI p1, oI p2, oI p3, oI p4, oR b29, oR b50, oI i, oI si, oI j, oI sj, oR b59, oR b65, oU, oU, oU, oU] [(.int (p4 &&& (3 : Int32)))]) _
    rw [← hk]
    exact k)
  rcases rk with rfl | rfl | rfl | rfl
  · have pre73 : ∀ t, oP p e below T70 (mkF m 192 #[oI p0, oI p1, oI p2, oI p3, oI p4, oR b29, oR b50, oI i, oI si, oI j, oI sj, oR b59, oR b65, oI (0 : Int32), oR b65, oU, oU] [(.int j), (.int i)]) t → oP p e below s₁ (entryFrame m #[(.int p0), (.int p1), (.int p2), (.int p3), (.int p4)] maxLocals) t := fun t k => pre72 t (by
      show oP p e below T70 (mkF m 177 #[oI p0, oI p1, oI p2, oI p3, oI p4, oR b29, oR b50, oI i, oI si, oI j, oI sj, oR b59, oR b65, oU, oU, oU, oU] [(.int (0 : Int32))]) _
      refine XS.istore X70.here hx rfl (hb hby at_177) rfl (l' := #[oI p0, oI p1, oI p2, oI p3, oI p4, oR b29, oR b50, oI i, oI si, oI j, oI sj, oR b59, oR b65, oI (0 : Int32), oU, oU, oU]) rfl ?_
      show oP p e below T70 (mkF m 179 #[oI p0, oI p1, oI p2, oI p3, oI p4, oR b29, oR b50, oI i, oI si, oI j, oI sj, oR b59, oR b65, oI (0 : Int32), oU, oU, oU] []) _
      refine XS.iload X70.here hx rfl (hb hby at_179) rfl ?_
      show oP p e below T70 (mkF m 181 #[oI p0, oI p1, oI p2, oI p3, oI p4, oR b29, oR b50, oI i, oI si, oI j, oI sj, oR b59, oR b65, oI (0 : Int32), oU, oU, oU] [(.int (0 : Int32))]) _
      refine XS.ifNo X70.here hx rfl (hb hby at_181) rfl ((if0 _ _).trans (teq (by decide : (0 : Int32) = (0 : Int32))).2) ?_
      show oP p e below T70 (mkF m 184 #[oI p0, oI p1, oI p2, oI p3, oI p4, oR b29, oR b50, oI i, oI si, oI j, oI sj, oR b59, oR b65, oI (0 : Int32), oU, oU, oU] []) _
      refine XS.aload X70.here hx rfl (hb hby at_184) rfl rfl ?_
      show oP p e below T70 (mkF m 186 #[oI p0, oI p1, oI p2, oI p3, oI p4, oR b29, oR b50, oI i, oI si, oI j, oI sj, oR b59, oR b65, oI (0 : Int32), oU, oU, oU] [(.ref b65)]) _
      refine XS.astore X70.here hx rfl (hb hby at_186) rfl rfl (l' := #[oI p0, oI p1, oI p2, oI p3, oI p4, oR b29, oR b50, oI i, oI si, oI j, oI sj, oR b59, oR b65, oI (0 : Int32), oR b65, oU, oU]) rfl ?_
      show oP p e below T70 (mkF m 188 #[oI p0, oI p1, oI p2, oI p3, oI p4, oR b29, oR b50, oI i, oI si, oI j, oI sj, oR b59, oR b65, oI (0 : Int32), oR b65, oU, oU] []) _
      refine XS.iload X70.here hx rfl (hb hby at_188) rfl ?_
      show oP p e below T70 (mkF m 190 #[oI p0, oI p1, oI p2, oI p3, oI p4, oR b29, oR b50, oI i, oI si, oI j, oI sj, oR b59, oR b65, oI (0 : Int32), oR b65, oU, oU] [(.int i)]) _
      refine XS.iload X70.here hx rfl (hb hby at_190) rfl ?_
      exact k)
    by_cases hc74 : i = j
    · have pre75 : ∀ t, oP p e below T70 (mkF m 199 #[oI p0, oI p1, oI p2, oI p3, oI p4, oR b29, oR b50, oI i, oI si, oI j, oI sj, oR b59, oR b65, oI (0 : Int32), oR b65, oU, oU] [(.int sj), (.int si)]) t → oP p e below s₁ (entryFrame m #[(.int p0), (.int p1), (.int p2), (.int p3), (.int p4)] maxLocals) t := fun t k => pre73 t (by
        show oP p e below T70 (mkF m 192 #[oI p0, oI p1, oI p2, oI p3, oI p4, oR b29, oR b50, oI i, oI si, oI j, oI sj, oR b59, oR b65, oI (0 : Int32), oR b65, oU, oU] [(.int j), (.int i)]) _
        refine XS.icmpNo X70.here hx rfl (hb hby at_192) rfl (teq hc74).2 ?_
        show oP p e below T70 (mkF m 195 #[oI p0, oI p1, oI p2, oI p3, oI p4, oR b29, oR b50, oI i, oI si, oI j, oI sj, oR b59, oR b65, oI (0 : Int32), oR b65, oU, oU] []) _
        refine XS.iload X70.here hx rfl (hb hby at_195) rfl ?_
        show oP p e below T70 (mkF m 197 #[oI p0, oI p1, oI p2, oI p3, oI p4, oR b29, oR b50, oI i, oI si, oI j, oI sj, oR b59, oR b65, oI (0 : Int32), oR b65, oU, oU] [(.int si)]) _
        refine XS.iload X70.here hx rfl (hb hby at_197) rfl ?_
        exact k)
      by_cases hc76 : si = sj
      · have fx77 := ((po63_0.ext E65).keep K70q)
        have fx79 := ((po63_1.ext E65).keep K70q (ninS ne_b59_b65 nin0))
        have fx80 := ((po63_2.ext E65).keep K70q (ninS ne_b59_b65 nin0))
        obtain ⟨cq78, kq78, q78a, q78b, q78c⟩ := isOf hZ rfl fx77
        obtain ⟨_, _, ⟨T78, L78, k78, n78⟩, -, X78, ⟨Lc78, hQ78, l78, y78, z78⟩, st78⟩ := X70.virtualBack hx (y := (⟨"com/example/tempofold/tempofold/model/Rule", "equals", "(Ljava/lang/Object;)Z"⟩ : MethodName)) (z := (⟨"com/example/tempofold/tempofold/model/Rule", "equals", "(Ljava/lang/Object;)Z"⟩ : MethodName)) hown (mvT hZ (hw _ (List.mem_of_getElem? (i := 77) rfl))) (mvT hZ (hw _ (List.mem_of_getElem? (i := 78) rfl))) (notFace_of_selects (args := #[]) (mvT hZ (hw _ (List.mem_of_getElem? (i := 80) rfl)))) (mvT hZ (hw _ (List.mem_of_getElem? (i := 80) rfl))) (mvT hZ (hw _ (List.mem_of_getElem? (i := 79) rfl))) (by decide) (backOf (W := 0) (rm5q l Z a0 hw hS [] b59 b65 (sel1 Z i) (sel2 Z si) (sel1 Z j) (sel2 Z sj) T70.heap n0 O70 po70_0 fx79 fx80 po70_1 po70_2) hZ (hw _ (List.mem_of_getElem? (i := 81) rfl)) (hw _ (List.mem_of_getElem? (i := 48) rfl)) (by decide) (by decide)) q78a q78c (g := (mkF m 257 #[oI p0, oI p1, oI p2, oI p3, oI p4, oR b29, oR b50, oI i, oI si, oI j, oI sj, oR b59, oR b65, oI (0 : Int32), oR b65, oI (1 : Int32), oU] [(.ref b65), (.ref b59)])) rfl (by rw [hml]; rfl) (Steps.refl _) (argsL := [(.ref b65)]) (rest := []) (lenOf pd_3 rfl) rfl (by show 2 * 0 + _ ≤ _; exact Nat.le_of_eq rfl) (hb hby at_257) (fun _ _ => ⟨rfl, rfl, (by decide : 12 + 0 ≤ _), (by decide : 114 + 0 ≤ _)⟩)
        dsimp only [Pt.U, Pt.locs, Pt.cells, Pt.slots] at X78 l78 y78 z78 st78 hQ78
        subst l78 y78 z78
        obtain ⟨v78, N78q, K78q⟩ := hQ78
        have w78 : (fn5q Z b59 b65 (sel1 Z i) (sel2 Z si) (sel1 Z j) (sel2 Z sj)) = (1 : Int32) := by unfold fn5q; rw [if_pos (congrArg (sel1 Z) hc74), if_pos (congrArg (sel2 Z) hc76)]; all_goals first | rfl | decide
        rw [w78] at v78
        subst v78
        have N78 := Fr.app N70 N78q
        have O78 := O70.keep K78q all0
        have Kc78 := Kc70.trans K78q all0
        have fx81 := (po70_0.keep K78q)
        have fx83 := (po70_1.keep K78q nin0)
        have fx84 := (po70_2.keep K78q nin0)
        have fx85 := (fx79.keep K78q nin0)
        have fx86 := (fx80.keep K78q nin0)
        have fx87 := (fx77.keep K78q)
        obtain ⟨cq82, kq82, q82a, q82b, q82c⟩ := isOf hZ rfl fx81
        obtain ⟨_, _, ⟨T82, L82, k82, n82⟩, -, X82, ⟨Lc82, hQ82, l82, y82, z82⟩, st82⟩ := X78.virtualBack hx (y := (⟨"com/example/tempofold/tempofold/model/Rule", "equals", "(Ljava/lang/Object;)Z"⟩ : MethodName)) (z := (⟨"com/example/tempofold/tempofold/model/Rule", "equals", "(Ljava/lang/Object;)Z"⟩ : MethodName)) hown (mvT hZ (hw _ (List.mem_of_getElem? (i := 77) rfl))) (mvT hZ (hw _ (List.mem_of_getElem? (i := 78) rfl))) (notFace_of_selects (args := #[]) (mvT hZ (hw _ (List.mem_of_getElem? (i := 80) rfl)))) (mvT hZ (hw _ (List.mem_of_getElem? (i := 80) rfl))) (mvT hZ (hw _ (List.mem_of_getElem? (i := 79) rfl))) (by decide) (backOf (W := 0) (rm5q l Z a0 hw hS [] b65 b59 (sel1 Z j) (sel2 Z sj) (sel1 Z i) (sel2 Z si) T78.heap n0 O78 fx87 fx83 fx84 fx85 fx86) hZ (hw _ (List.mem_of_getElem? (i := 81) rfl)) (hw _ (List.mem_of_getElem? (i := 48) rfl)) (by decide) (by decide)) q82a q82c (g := (mkF m 278 #[oI p0, oI p1, oI p2, oI p3, oI p4, oR b29, oR b50, oI i, oI si, oI j, oI sj, oR b59, oR b65, oI (0 : Int32), oR b65, oI (1 : Int32), oI (1 : Int32)] [(.ref b59), (.ref b65)])) rfl (by rw [hml]; rfl) (Steps.refl _) (argsL := [(.ref b59)]) (rest := []) (lenOf pd_3 rfl) rfl (by show 2 * 0 + _ ≤ _; exact Nat.le_of_eq rfl) (hb hby at_278) (fun _ _ => ⟨rfl, rfl, (by decide : 12 + 0 ≤ _), (by decide : 114 + 0 ≤ _)⟩)
        dsimp only [Pt.U, Pt.locs, Pt.cells, Pt.slots] at X82 l82 y82 z82 st82 hQ82
        subst l82 y82 z82
        obtain ⟨v82, N82q, K82q⟩ := hQ82
        have w82 : (fn5q Z b65 b59 (sel1 Z j) (sel2 Z sj) (sel1 Z i) (sel2 Z si)) = (1 : Int32) := by unfold fn5q; rw [if_pos (congrArg (sel1 Z) (Eq.symm hc74)), if_pos (congrArg (sel2 Z) (Eq.symm hc76))]; all_goals first | rfl | decide
        rw [w82] at v82
        subst v82
        have N82 := Fr.app N78 N82q
        have O82 := O78.keep K82q all0
        have Kc82 := Kc78.trans K82q all0
        have fx88 := (Nat.le_trans (Nat.le_trans (Nat.le_refl _) K78q.1) K82q.1)
        obtain ⟨fs, hr, hrun, hended, hRW⟩ := Stand.leaveW X82 hSi fx88 (v := some (.int (1 : Int32))) (fun h => by rw [Bd.returns] at h; cases h)
        refine ⟨_, _, pre75 _ ?_, hrun, hended, _, _, rfl, ?_, own_rwmono hRW (by decide) (by decide)⟩
        · show oP p e below T70 (mkF m 199 #[oI p0, oI p1, oI p2, oI p3, oI p4, oR b29, oR b50, oI i, oI si, oI j, oI sj, oR b59, oR b65, oI (0 : Int32), oR b65, oU, oU] [(.int sj), (.int si)]) _
          refine XS.icmpNo X70.here hx rfl (hb hby at_199) rfl (teq hc76).2 ?_
          show oP p e below T70 (mkF m 202 #[oI p0, oI p1, oI p2, oI p3, oI p4, oR b29, oR b50, oI i, oI si, oI j, oI sj, oR b59, oR b65, oI (0 : Int32), oR b65, oU, oU] []) _
          refine XS.iconst X70.here hx rfl (hb hby at_202) ?_
          show oP p e below T70 (mkF m 203 #[oI p0, oI p1, oI p2, oI p3, oI p4, oR b29, oR b50, oI i, oI si, oI j, oI sj, oR b59, oR b65, oI (0 : Int32), oR b65, oU, oU] [(.int (1 : Int32))]) _
          refine XS.goto X70.here hx rfl (pc0 := 203) (pc' := 207) rfl (hb hby at_203) (by decide) (by decide) ?_
          show oP p e below T70 (mkF m 207 #[oI p0, oI p1, oI p2, oI p3, oI p4, oR b29, oR b50, oI i, oI si, oI j, oI sj, oR b59, oR b65, oI (0 : Int32), oR b65, oU, oU] [(.int (1 : Int32))]) _
          refine XS.istore X70.here hx rfl (hb hby at_207) rfl (l' := #[oI p0, oI p1, oI p2, oI p3, oI p4, oR b29, oR b50, oI i, oI si, oI j, oI sj, oR b59, oR b65, oI (0 : Int32), oR b65, oI (1 : Int32), oU]) rfl ?_
          show oP p e below T70 (mkF m 209 #[oI p0, oI p1, oI p2, oI p3, oI p4, oR b29, oR b50, oI i, oI si, oI j, oI sj, oR b59, oR b65, oI (0 : Int32), oR b65, oI (1 : Int32), oU] []) _
          refine XS.goto X70.here hx rfl (pc0 := 209) (pc' := 253) rfl (hb hby at_209) (by decide) (by decide) ?_
          show oP p e below T70 (mkF m 253 #[oI p0, oI p1, oI p2, oI p3, oI p4, oR b29, oR b50, oI i, oI si, oI j, oI sj, oR b59, oR b65, oI (0 : Int32), oR b65, oI (1 : Int32), oU] []) _
          refine XS.aload X70.here hx rfl (hb hby at_253) rfl rfl ?_
          show oP p e below T70 (mkF m 255 #[oI p0, oI p1, oI p2, oI p3, oI p4, oR b29, oR b50, oI i, oI si, oI j, oI sj, oR b59, oR b65, oI (0 : Int32), oR b65, oI (1 : Int32), oU] [(.ref b59)]) _
          refine XS.aload X70.here hx rfl (hb hby at_255) rfl rfl ?_
          show oP p e below T70 (mkF m 257 #[oI p0, oI p1, oI p2, oI p3, oI p4, oR b29, oR b50, oI i, oI si, oI j, oI sj, oR b59, oR b65, oI (0 : Int32), oR b65, oI (1 : Int32), oU] [(.ref b65), (.ref b59)]) _
          refine st78.trans ?_
          show oP p e below T78 (mkF m 260 #[oI p0, oI p1, oI p2, oI p3, oI p4, oR b29, oR b50, oI i, oI si, oI j, oI sj, oR b59, oR b65, oI (0 : Int32), oR b65, oI (1 : Int32), oU] [(.int (1 : Int32))]) _
          refine XS.istore X78.here hx rfl (hb hby at_260) rfl (l' := #[oI p0, oI p1, oI p2, oI p3, oI p4, oR b29, oR b50, oI i, oI si, oI j, oI sj, oR b59, oR b65, oI (0 : Int32), oR b65, oI (1 : Int32), oI (1 : Int32)]) rfl ?_
          show oP p e below T78 (mkF m 262 #[oI p0, oI p1, oI p2, oI p3, oI p4, oR b29, oR b50, oI i, oI si, oI j, oI sj, oR b59, oR b65, oI (0 : Int32), oR b65, oI (1 : Int32), oI (1 : Int32)] []) _
          refine XS.iload X78.here hx rfl (hb hby at_262) rfl ?_
          show oP p e below T78 (mkF m 264 #[oI p0, oI p1, oI p2, oI p3, oI p4, oR b29, oR b50, oI i, oI si, oI j, oI sj, oR b59, oR b65, oI (0 : Int32), oR b65, oI (1 : Int32), oI (1 : Int32)] [(.int (0 : Int32))]) _
          refine XS.ifNo X78.here hx rfl (hb hby at_264) rfl ((if0 _ _).trans (teq (by decide : (0 : Int32) = (0 : Int32))).2) ?_
          show oP p e below T78 (mkF m 267 #[oI p0, oI p1, oI p2, oI p3, oI p4, oR b29, oR b50, oI i, oI si, oI j, oI sj, oR b59, oR b65, oI (0 : Int32), oR b65, oI (1 : Int32), oI (1 : Int32)] []) _
          refine XS.iload X78.here hx rfl (hb hby at_267) rfl ?_
          show oP p e below T78 (mkF m 269 #[oI p0, oI p1, oI p2, oI p3, oI p4, oR b29, oR b50, oI i, oI si, oI j, oI sj, oR b59, oR b65, oI (0 : Int32), oR b65, oI (1 : Int32), oI (1 : Int32)] [(.int (1 : Int32))]) _
          refine XS.iload X78.here hx rfl (hb hby at_269) rfl ?_
          show oP p e below T78 (mkF m 271 #[oI p0, oI p1, oI p2, oI p3, oI p4, oR b29, oR b50, oI i, oI si, oI j, oI sj, oR b59, oR b65, oI (0 : Int32), oR b65, oI (1 : Int32), oI (1 : Int32)] [(.int (1 : Int32)), (.int (1 : Int32))]) _
          refine XS.icmpNo X78.here hx rfl (hb hby at_271) rfl (teq (by decide : (1 : Int32) = (1 : Int32))).2 ?_
          show oP p e below T78 (mkF m 274 #[oI p0, oI p1, oI p2, oI p3, oI p4, oR b29, oR b50, oI i, oI si, oI j, oI sj, oR b59, oR b65, oI (0 : Int32), oR b65, oI (1 : Int32), oI (1 : Int32)] []) _
          refine XS.aload X78.here hx rfl (hb hby at_274) rfl rfl ?_
          show oP p e below T78 (mkF m 276 #[oI p0, oI p1, oI p2, oI p3, oI p4, oR b29, oR b50, oI i, oI si, oI j, oI sj, oR b59, oR b65, oI (0 : Int32), oR b65, oI (1 : Int32), oI (1 : Int32)] [(.ref b65)]) _
          refine XS.aload X78.here hx rfl (hb hby at_276) rfl rfl ?_
          show oP p e below T78 (mkF m 278 #[oI p0, oI p1, oI p2, oI p3, oI p4, oR b29, oR b50, oI i, oI si, oI j, oI sj, oR b59, oR b65, oI (0 : Int32), oR b65, oI (1 : Int32), oI (1 : Int32)] [(.ref b59), (.ref b65)]) _
          refine st82.trans ?_
          show oP p e below T82 (mkF m 281 #[oI p0, oI p1, oI p2, oI p3, oI p4, oR b29, oR b50, oI i, oI si, oI j, oI sj, oR b59, oR b65, oI (0 : Int32), oR b65, oI (1 : Int32), oI (1 : Int32)] [(.int (1 : Int32))]) _
          refine XS.iload X82.here hx rfl (hb hby at_281) rfl ?_
          show oP p e below T82 (mkF m 283 #[oI p0, oI p1, oI p2, oI p3, oI p4, oR b29, oR b50, oI i, oI si, oI j, oI sj, oR b59, oR b65, oI (0 : Int32), oR b65, oI (1 : Int32), oI (1 : Int32)] [(.int (1 : Int32)), (.int (1 : Int32))]) _
          refine XS.icmpNo X82.here hx rfl (hb hby at_283) rfl (teq (by decide : (1 : Int32) = (1 : Int32))).2 ?_
          show oP p e below T82 (mkF m 286 #[oI p0, oI p1, oI p2, oI p3, oI p4, oR b29, oR b50, oI i, oI si, oI j, oI sj, oR b59, oR b65, oI (0 : Int32), oR b65, oI (1 : Int32), oI (1 : Int32)] []) _
          refine XS.iconst X82.here hx rfl (hb hby at_286) ?_
          show oP p e below T82 (mkF m 287 #[oI p0, oI p1, oI p2, oI p3, oI p4, oR b29, oR b50, oI i, oI si, oI j, oI sj, oR b59, oR b65, oI (0 : Int32), oR b65, oI (1 : Int32), oI (1 : Int32)] [(.int (1 : Int32))]) _
          refine XS.goto X82.here hx rfl (pc0 := 287) (pc' := 291) rfl (hb hby at_287) (by decide) (by decide) ?_
          show oP p e below T82 (mkF m 291 #[oI p0, oI p1, oI p2, oI p3, oI p4, oR b29, oR b50, oI i, oI si, oI j, oI sj, oR b59, oR b65, oI (0 : Int32), oR b65, oI (1 : Int32), oI (1 : Int32)] [(.int (1 : Int32))]) _
          exact retN X82 hx (t := .boolean) Bd.returns (by simp) (hb hby at_291) hr
        · show (some (.int (1 : Int32)) : Option Value) = some (.int (1 : Int32)) ∧ Fr n0 _ ∧ Keep h0 T82.heap []
          exact ⟨rfl, N82, Kc82⟩
      · have fx89 := ((po63_0.ext E65).keep K70q)
        have fx91 := ((po63_1.ext E65).keep K70q (ninS ne_b59_b65 nin0))
        have fx92 := ((po63_2.ext E65).keep K70q (ninS ne_b59_b65 nin0))
        obtain ⟨cq90, kq90, q90a, q90b, q90c⟩ := isOf hZ rfl fx89
        obtain ⟨_, _, ⟨T90, L90, k90, n90⟩, -, X90, ⟨Lc90, hQ90, l90, y90, z90⟩, st90⟩ := X70.virtualBack hx (y := (⟨"com/example/tempofold/tempofold/model/Rule", "equals", "(Ljava/lang/Object;)Z"⟩ : MethodName)) (z := (⟨"com/example/tempofold/tempofold/model/Rule", "equals", "(Ljava/lang/Object;)Z"⟩ : MethodName)) hown (mvT hZ (hw _ (List.mem_of_getElem? (i := 77) rfl))) (mvT hZ (hw _ (List.mem_of_getElem? (i := 78) rfl))) (notFace_of_selects (args := #[]) (mvT hZ (hw _ (List.mem_of_getElem? (i := 80) rfl)))) (mvT hZ (hw _ (List.mem_of_getElem? (i := 80) rfl))) (mvT hZ (hw _ (List.mem_of_getElem? (i := 79) rfl))) (by decide) (backOf (W := 0) (rm5q l Z a0 hw hS [] b59 b65 (sel1 Z i) (sel2 Z si) (sel1 Z j) (sel2 Z sj) T70.heap n0 O70 po70_0 fx91 fx92 po70_1 po70_2) hZ (hw _ (List.mem_of_getElem? (i := 81) rfl)) (hw _ (List.mem_of_getElem? (i := 48) rfl)) (by decide) (by decide)) q90a q90c (g := (mkF m 257 #[oI p0, oI p1, oI p2, oI p3, oI p4, oR b29, oR b50, oI i, oI si, oI j, oI sj, oR b59, oR b65, oI (0 : Int32), oR b65, oI (0 : Int32), oU] [(.ref b65), (.ref b59)])) rfl (by rw [hml]; rfl) (Steps.refl _) (argsL := [(.ref b65)]) (rest := []) (lenOf pd_3 rfl) rfl (by show 2 * 0 + _ ≤ _; exact Nat.le_of_eq rfl) (hb hby at_257) (fun _ _ => ⟨rfl, rfl, (by decide : 12 + 0 ≤ _), (by decide : 114 + 0 ≤ _)⟩)
        dsimp only [Pt.U, Pt.locs, Pt.cells, Pt.slots] at X90 l90 y90 z90 st90 hQ90
        subst l90 y90 z90
        obtain ⟨v90, N90q, K90q⟩ := hQ90
        have w90 : (fn5q Z b59 b65 (sel1 Z i) (sel2 Z si) (sel1 Z j) (sel2 Z sj)) = (0 : Int32) := by unfold fn5q; rw [if_pos (congrArg (sel1 Z) hc74), if_neg (fun q => hc76 (sel2_inj hS rsi rsj q))]; all_goals first | rfl | decide
        rw [w90] at v90
        subst v90
        have N90 := Fr.app N70 N90q
        have O90 := O70.keep K90q all0
        have Kc90 := Kc70.trans K90q all0
        have fx93 := (po70_0.keep K90q)
        have fx95 := (po70_1.keep K90q nin0)
        have fx96 := (po70_2.keep K90q nin0)
        have fx97 := (fx91.keep K90q nin0)
        have fx98 := (fx92.keep K90q nin0)
        have fx99 := (fx89.keep K90q)
        obtain ⟨cq94, kq94, q94a, q94b, q94c⟩ := isOf hZ rfl fx93
        obtain ⟨_, _, ⟨T94, L94, k94, n94⟩, -, X94, ⟨Lc94, hQ94, l94, y94, z94⟩, st94⟩ := X90.virtualBack hx (y := (⟨"com/example/tempofold/tempofold/model/Rule", "equals", "(Ljava/lang/Object;)Z"⟩ : MethodName)) (z := (⟨"com/example/tempofold/tempofold/model/Rule", "equals", "(Ljava/lang/Object;)Z"⟩ : MethodName)) hown (mvT hZ (hw _ (List.mem_of_getElem? (i := 77) rfl))) (mvT hZ (hw _ (List.mem_of_getElem? (i := 78) rfl))) (notFace_of_selects (args := #[]) (mvT hZ (hw _ (List.mem_of_getElem? (i := 80) rfl)))) (mvT hZ (hw _ (List.mem_of_getElem? (i := 80) rfl))) (mvT hZ (hw _ (List.mem_of_getElem? (i := 79) rfl))) (by decide) (backOf (W := 0) (rm5q l Z a0 hw hS [] b65 b59 (sel1 Z j) (sel2 Z sj) (sel1 Z i) (sel2 Z si) T90.heap n0 O90 fx99 fx95 fx96 fx97 fx98) hZ (hw _ (List.mem_of_getElem? (i := 81) rfl)) (hw _ (List.mem_of_getElem? (i := 48) rfl)) (by decide) (by decide)) q94a q94c (g := (mkF m 278 #[oI p0, oI p1, oI p2, oI p3, oI p4, oR b29, oR b50, oI i, oI si, oI j, oI sj, oR b59, oR b65, oI (0 : Int32), oR b65, oI (0 : Int32), oI (0 : Int32)] [(.ref b59), (.ref b65)])) rfl (by rw [hml]; rfl) (Steps.refl _) (argsL := [(.ref b59)]) (rest := []) (lenOf pd_3 rfl) rfl (by show 2 * 0 + _ ≤ _; exact Nat.le_of_eq rfl) (hb hby at_278) (fun _ _ => ⟨rfl, rfl, (by decide : 12 + 0 ≤ _), (by decide : 114 + 0 ≤ _)⟩)
        dsimp only [Pt.U, Pt.locs, Pt.cells, Pt.slots] at X94 l94 y94 z94 st94 hQ94
        subst l94 y94 z94
        obtain ⟨v94, N94q, K94q⟩ := hQ94
        have w94 : (fn5q Z b65 b59 (sel1 Z j) (sel2 Z sj) (sel1 Z i) (sel2 Z si)) = (0 : Int32) := by unfold fn5q; rw [if_pos (congrArg (sel1 Z) (Eq.symm hc74)), if_neg (fun q => (fun q => hc76 (Eq.symm q)) (sel2_inj hS rsj rsi q))]; all_goals first | rfl | decide
        rw [w94] at v94
        subst v94
        have N94 := Fr.app N90 N94q
        have O94 := O90.keep K94q all0
        have Kc94 := Kc90.trans K94q all0
        have fx100 := (Nat.le_trans (Nat.le_trans (Nat.le_refl _) K90q.1) K94q.1)
        obtain ⟨fs, hr, hrun, hended, hRW⟩ := Stand.leaveW X94 hSi fx100 (v := some (.int (1 : Int32))) (fun h => by rw [Bd.returns] at h; cases h)
        refine ⟨_, _, pre75 _ ?_, hrun, hended, _, _, rfl, ?_, own_rwmono hRW (by decide) (by decide)⟩
        · show oP p e below T70 (mkF m 199 #[oI p0, oI p1, oI p2, oI p3, oI p4, oR b29, oR b50, oI i, oI si, oI j, oI sj, oR b59, oR b65, oI (0 : Int32), oR b65, oU, oU] [(.int sj), (.int si)]) _
          refine XS.icmpYes X70.here hx rfl (pc0 := 199) (pc' := 206) rfl (hb hby at_199) rfl (feq hc76).2 (by decide) (by decide) ?_
          show oP p e below T70 (mkF m 206 #[oI p0, oI p1, oI p2, oI p3, oI p4, oR b29, oR b50, oI i, oI si, oI j, oI sj, oR b59, oR b65, oI (0 : Int32), oR b65, oU, oU] []) _
          refine XS.iconst X70.here hx rfl (hb hby at_206) ?_
          show oP p e below T70 (mkF m 207 #[oI p0, oI p1, oI p2, oI p3, oI p4, oR b29, oR b50, oI i, oI si, oI j, oI sj, oR b59, oR b65, oI (0 : Int32), oR b65, oU, oU] [(.int (0 : Int32))]) _
          refine XS.istore X70.here hx rfl (hb hby at_207) rfl (l' := #[oI p0, oI p1, oI p2, oI p3, oI p4, oR b29, oR b50, oI i, oI si, oI j, oI sj, oR b59, oR b65, oI (0 : Int32), oR b65, oI (0 : Int32), oU]) rfl ?_
          show oP p e below T70 (mkF m 209 #[oI p0, oI p1, oI p2, oI p3, oI p4, oR b29, oR b50, oI i, oI si, oI j, oI sj, oR b59, oR b65, oI (0 : Int32), oR b65, oI (0 : Int32), oU] []) _
          refine XS.goto X70.here hx rfl (pc0 := 209) (pc' := 253) rfl (hb hby at_209) (by decide) (by decide) ?_
          show oP p e below T70 (mkF m 253 #[oI p0, oI p1, oI p2, oI p3, oI p4, oR b29, oR b50, oI i, oI si, oI j, oI sj, oR b59, oR b65, oI (0 : Int32), oR b65, oI (0 : Int32), oU] []) _
          refine XS.aload X70.here hx rfl (hb hby at_253) rfl rfl ?_
          show oP p e below T70 (mkF m 255 #[oI p0, oI p1, oI p2, oI p3, oI p4, oR b29, oR b50, oI i, oI si, oI j, oI sj, oR b59, oR b65, oI (0 : Int32), oR b65, oI (0 : Int32), oU] [(.ref b59)]) _
          refine XS.aload X70.here hx rfl (hb hby at_255) rfl rfl ?_
          show oP p e below T70 (mkF m 257 #[oI p0, oI p1, oI p2, oI p3, oI p4, oR b29, oR b50, oI i, oI si, oI j, oI sj, oR b59, oR b65, oI (0 : Int32), oR b65, oI (0 : Int32), oU] [(.ref b65), (.ref b59)]) _
          refine st90.trans ?_
          show oP p e below T90 (mkF m 260 #[oI p0, oI p1, oI p2, oI p3, oI p4, oR b29, oR b50, oI i, oI si, oI j, oI sj, oR b59, oR b65, oI (0 : Int32), oR b65, oI (0 : Int32), oU] [(.int (0 : Int32))]) _
          refine XS.istore X90.here hx rfl (hb hby at_260) rfl (l' := #[oI p0, oI p1, oI p2, oI p3, oI p4, oR b29, oR b50, oI i, oI si, oI j, oI sj, oR b59, oR b65, oI (0 : Int32), oR b65, oI (0 : Int32), oI (0 : Int32)]) rfl ?_
          show oP p e below T90 (mkF m 262 #[oI p0, oI p1, oI p2, oI p3, oI p4, oR b29, oR b50, oI i, oI si, oI j, oI sj, oR b59, oR b65, oI (0 : Int32), oR b65, oI (0 : Int32), oI (0 : Int32)] []) _
          refine XS.iload X90.here hx rfl (hb hby at_262) rfl ?_
          show oP p e below T90 (mkF m 264 #[oI p0, oI p1, oI p2, oI p3, oI p4, oR b29, oR b50, oI i, oI si, oI j, oI sj, oR b59, oR b65, oI (0 : Int32), oR b65, oI (0 : Int32), oI (0 : Int32)] [(.int (0 : Int32))]) _
          refine XS.ifNo X90.here hx rfl (hb hby at_264) rfl ((if0 _ _).trans (teq (by decide : (0 : Int32) = (0 : Int32))).2) ?_
          show oP p e below T90 (mkF m 267 #[oI p0, oI p1, oI p2, oI p3, oI p4, oR b29, oR b50, oI i, oI si, oI j, oI sj, oR b59, oR b65, oI (0 : Int32), oR b65, oI (0 : Int32), oI (0 : Int32)] []) _
          refine XS.iload X90.here hx rfl (hb hby at_267) rfl ?_
          show oP p e below T90 (mkF m 269 #[oI p0, oI p1, oI p2, oI p3, oI p4, oR b29, oR b50, oI i, oI si, oI j, oI sj, oR b59, oR b65, oI (0 : Int32), oR b65, oI (0 : Int32), oI (0 : Int32)] [(.int (0 : Int32))]) _
          refine XS.iload X90.here hx rfl (hb hby at_269) rfl ?_
          show oP p e below T90 (mkF m 271 #[oI p0, oI p1, oI p2, oI p3, oI p4, oR b29, oR b50, oI i, oI si, oI j, oI sj, oR b59, oR b65, oI (0 : Int32), oR b65, oI (0 : Int32), oI (0 : Int32)] [(.int (0 : Int32)), (.int (0 : Int32))]) _
          refine XS.icmpNo X90.here hx rfl (hb hby at_271) rfl (teq (by decide : (0 : Int32) = (0 : Int32))).2 ?_
          show oP p e below T90 (mkF m 274 #[oI p0, oI p1, oI p2, oI p3, oI p4, oR b29, oR b50, oI i, oI si, oI j, oI sj, oR b59, oR b65, oI (0 : Int32), oR b65, oI (0 : Int32), oI (0 : Int32)] []) _
          refine XS.aload X90.here hx rfl (hb hby at_274) rfl rfl ?_
          show oP p e below T90 (mkF m 276 #[oI p0, oI p1, oI p2, oI p3, oI p4, oR b29, oR b50, oI i, oI si, oI j, oI sj, oR b59, oR b65, oI (0 : Int32), oR b65, oI (0 : Int32), oI (0 : Int32)] [(.ref b65)]) _
          refine XS.aload X90.here hx rfl (hb hby at_276) rfl rfl ?_
          show oP p e below T90 (mkF m 278 #[oI p0, oI p1, oI p2, oI p3, oI p4, oR b29, oR b50, oI i, oI si, oI j, oI sj, oR b59, oR b65, oI (0 : Int32), oR b65, oI (0 : Int32), oI (0 : Int32)] [(.ref b59), (.ref b65)]) _
          refine st94.trans ?_
          show oP p e below T94 (mkF m 281 #[oI p0, oI p1, oI p2, oI p3, oI p4, oR b29, oR b50, oI i, oI si, oI j, oI sj, oR b59, oR b65, oI (0 : Int32), oR b65, oI (0 : Int32), oI (0 : Int32)] [(.int (0 : Int32))]) _
          refine XS.iload X94.here hx rfl (hb hby at_281) rfl ?_
          show oP p e below T94 (mkF m 283 #[oI p0, oI p1, oI p2, oI p3, oI p4, oR b29, oR b50, oI i, oI si, oI j, oI sj, oR b59, oR b65, oI (0 : Int32), oR b65, oI (0 : Int32), oI (0 : Int32)] [(.int (0 : Int32)), (.int (0 : Int32))]) _
          refine XS.icmpNo X94.here hx rfl (hb hby at_283) rfl (teq (by decide : (0 : Int32) = (0 : Int32))).2 ?_
          show oP p e below T94 (mkF m 286 #[oI p0, oI p1, oI p2, oI p3, oI p4, oR b29, oR b50, oI i, oI si, oI j, oI sj, oR b59, oR b65, oI (0 : Int32), oR b65, oI (0 : Int32), oI (0 : Int32)] []) _
          refine XS.iconst X94.here hx rfl (hb hby at_286) ?_
          show oP p e below T94 (mkF m 287 #[oI p0, oI p1, oI p2, oI p3, oI p4, oR b29, oR b50, oI i, oI si, oI j, oI sj, oR b59, oR b65, oI (0 : Int32), oR b65, oI (0 : Int32), oI (0 : Int32)] [(.int (1 : Int32))]) _
          refine XS.goto X94.here hx rfl (pc0 := 287) (pc' := 291) rfl (hb hby at_287) (by decide) (by decide) ?_
          show oP p e below T94 (mkF m 291 #[oI p0, oI p1, oI p2, oI p3, oI p4, oR b29, oR b50, oI i, oI si, oI j, oI sj, oR b59, oR b65, oI (0 : Int32), oR b65, oI (0 : Int32), oI (0 : Int32)] [(.int (1 : Int32))]) _
          exact retN X94 hx (t := .boolean) Bd.returns (by simp) (hb hby at_291) hr
        · show (some (.int (1 : Int32)) : Option Value) = some (.int (1 : Int32)) ∧ Fr n0 _ ∧ Keep h0 T94.heap []
          exact ⟨rfl, N94, Kc94⟩
    · have fx101 := ((po63_0.ext E65).keep K70q)
      have fx103 := ((po63_1.ext E65).keep K70q (ninS ne_b59_b65 nin0))
      have fx104 := ((po63_2.ext E65).keep K70q (ninS ne_b59_b65 nin0))
      obtain ⟨cq102, kq102, q102a, q102b, q102c⟩ := isOf hZ rfl fx101
      obtain ⟨_, _, ⟨T102, L102, k102, n102⟩, -, X102, ⟨Lc102, hQ102, l102, y102, z102⟩, st102⟩ := X70.virtualBack hx (y := (⟨"com/example/tempofold/tempofold/model/Rule", "equals", "(Ljava/lang/Object;)Z"⟩ : MethodName)) (z := (⟨"com/example/tempofold/tempofold/model/Rule", "equals", "(Ljava/lang/Object;)Z"⟩ : MethodName)) hown (mvT hZ (hw _ (List.mem_of_getElem? (i := 77) rfl))) (mvT hZ (hw _ (List.mem_of_getElem? (i := 78) rfl))) (notFace_of_selects (args := #[]) (mvT hZ (hw _ (List.mem_of_getElem? (i := 80) rfl)))) (mvT hZ (hw _ (List.mem_of_getElem? (i := 80) rfl))) (mvT hZ (hw _ (List.mem_of_getElem? (i := 79) rfl))) (by decide) (backOf (W := 0) (rm5q l Z a0 hw hS [] b59 b65 (sel1 Z i) (sel2 Z si) (sel1 Z j) (sel2 Z sj) T70.heap n0 O70 po70_0 fx103 fx104 po70_1 po70_2) hZ (hw _ (List.mem_of_getElem? (i := 81) rfl)) (hw _ (List.mem_of_getElem? (i := 48) rfl)) (by decide) (by decide)) q102a q102c (g := (mkF m 257 #[oI p0, oI p1, oI p2, oI p3, oI p4, oR b29, oR b50, oI i, oI si, oI j, oI sj, oR b59, oR b65, oI (0 : Int32), oR b65, oI (0 : Int32), oU] [(.ref b65), (.ref b59)])) rfl (by rw [hml]; rfl) (Steps.refl _) (argsL := [(.ref b65)]) (rest := []) (lenOf pd_3 rfl) rfl (by show 2 * 0 + _ ≤ _; exact Nat.le_of_eq rfl) (hb hby at_257) (fun _ _ => ⟨rfl, rfl, (by decide : 12 + 0 ≤ _), (by decide : 114 + 0 ≤ _)⟩)
      dsimp only [Pt.U, Pt.locs, Pt.cells, Pt.slots] at X102 l102 y102 z102 st102 hQ102
      subst l102 y102 z102
      obtain ⟨v102, N102q, K102q⟩ := hQ102
      have w102 : (fn5q Z b59 b65 (sel1 Z i) (sel2 Z si) (sel1 Z j) (sel2 Z sj)) = (0 : Int32) := by unfold fn5q; rw [if_neg (fun q => hc74 (sel1_inj hS ri rj q))]; all_goals first | rfl | decide
      rw [w102] at v102
      subst v102
      have N102 := Fr.app N70 N102q
      have O102 := O70.keep K102q all0
      have Kc102 := Kc70.trans K102q all0
      have fx105 := (po70_0.keep K102q)
      have fx107 := (po70_1.keep K102q nin0)
      have fx108 := (po70_2.keep K102q nin0)
      have fx109 := (fx103.keep K102q nin0)
      have fx110 := (fx104.keep K102q nin0)
      have fx111 := (fx101.keep K102q)
      obtain ⟨cq106, kq106, q106a, q106b, q106c⟩ := isOf hZ rfl fx105
      obtain ⟨_, _, ⟨T106, L106, k106, n106⟩, -, X106, ⟨Lc106, hQ106, l106, y106, z106⟩, st106⟩ := X102.virtualBack hx (y := (⟨"com/example/tempofold/tempofold/model/Rule", "equals", "(Ljava/lang/Object;)Z"⟩ : MethodName)) (z := (⟨"com/example/tempofold/tempofold/model/Rule", "equals", "(Ljava/lang/Object;)Z"⟩ : MethodName)) hown (mvT hZ (hw _ (List.mem_of_getElem? (i := 77) rfl))) (mvT hZ (hw _ (List.mem_of_getElem? (i := 78) rfl))) (notFace_of_selects (args := #[]) (mvT hZ (hw _ (List.mem_of_getElem? (i := 80) rfl)))) (mvT hZ (hw _ (List.mem_of_getElem? (i := 80) rfl))) (mvT hZ (hw _ (List.mem_of_getElem? (i := 79) rfl))) (by decide) (backOf (W := 0) (rm5q l Z a0 hw hS [] b65 b59 (sel1 Z j) (sel2 Z sj) (sel1 Z i) (sel2 Z si) T102.heap n0 O102 fx111 fx107 fx108 fx109 fx110) hZ (hw _ (List.mem_of_getElem? (i := 81) rfl)) (hw _ (List.mem_of_getElem? (i := 48) rfl)) (by decide) (by decide)) q106a q106c (g := (mkF m 278 #[oI p0, oI p1, oI p2, oI p3, oI p4, oR b29, oR b50, oI i, oI si, oI j, oI sj, oR b59, oR b65, oI (0 : Int32), oR b65, oI (0 : Int32), oI (0 : Int32)] [(.ref b59), (.ref b65)])) rfl (by rw [hml]; rfl) (Steps.refl _) (argsL := [(.ref b59)]) (rest := []) (lenOf pd_3 rfl) rfl (by show 2 * 0 + _ ≤ _; exact Nat.le_of_eq rfl) (hb hby at_278) (fun _ _ => ⟨rfl, rfl, (by decide : 12 + 0 ≤ _), (by decide : 114 + 0 ≤ _)⟩)
      dsimp only [Pt.U, Pt.locs, Pt.cells, Pt.slots] at X106 l106 y106 z106 st106 hQ106
      subst l106 y106 z106
      obtain ⟨v106, N106q, K106q⟩ := hQ106
      have w106 : (fn5q Z b65 b59 (sel1 Z j) (sel2 Z sj) (sel1 Z i) (sel2 Z si)) = (0 : Int32) := by unfold fn5q; rw [if_neg (fun q => (fun q => hc74 (Eq.symm q)) (sel1_inj hS rj ri q))]; all_goals first | rfl | decide
      rw [w106] at v106
      subst v106
      have N106 := Fr.app N102 N106q
      have O106 := O102.keep K106q all0
      have Kc106 := Kc102.trans K106q all0
      have fx112 := (Nat.le_trans (Nat.le_trans (Nat.le_refl _) K102q.1) K106q.1)
      obtain ⟨fs, hr, hrun, hended, hRW⟩ := Stand.leaveW X106 hSi fx112 (v := some (.int (1 : Int32))) (fun h => by rw [Bd.returns] at h; cases h)
      refine ⟨_, _, pre73 _ ?_, hrun, hended, _, _, rfl, ?_, own_rwmono hRW (by decide) (by decide)⟩
      · show oP p e below T70 (mkF m 192 #[oI p0, oI p1, oI p2, oI p3, oI p4, oR b29, oR b50, oI i, oI si, oI j, oI sj, oR b59, oR b65, oI (0 : Int32), oR b65, oU, oU] [(.int j), (.int i)]) _
        refine XS.icmpYes X70.here hx rfl (pc0 := 192) (pc' := 206) rfl (hb hby at_192) rfl (feq hc74).2 (by decide) (by decide) ?_
        show oP p e below T70 (mkF m 206 #[oI p0, oI p1, oI p2, oI p3, oI p4, oR b29, oR b50, oI i, oI si, oI j, oI sj, oR b59, oR b65, oI (0 : Int32), oR b65, oU, oU] []) _
        refine XS.iconst X70.here hx rfl (hb hby at_206) ?_
        show oP p e below T70 (mkF m 207 #[oI p0, oI p1, oI p2, oI p3, oI p4, oR b29, oR b50, oI i, oI si, oI j, oI sj, oR b59, oR b65, oI (0 : Int32), oR b65, oU, oU] [(.int (0 : Int32))]) _
        refine XS.istore X70.here hx rfl (hb hby at_207) rfl (l' := #[oI p0, oI p1, oI p2, oI p3, oI p4, oR b29, oR b50, oI i, oI si, oI j, oI sj, oR b59, oR b65, oI (0 : Int32), oR b65, oI (0 : Int32), oU]) rfl ?_
        show oP p e below T70 (mkF m 209 #[oI p0, oI p1, oI p2, oI p3, oI p4, oR b29, oR b50, oI i, oI si, oI j, oI sj, oR b59, oR b65, oI (0 : Int32), oR b65, oI (0 : Int32), oU] []) _
        refine XS.goto X70.here hx rfl (pc0 := 209) (pc' := 253) rfl (hb hby at_209) (by decide) (by decide) ?_
        show oP p e below T70 (mkF m 253 #[oI p0, oI p1, oI p2, oI p3, oI p4, oR b29, oR b50, oI i, oI si, oI j, oI sj, oR b59, oR b65, oI (0 : Int32), oR b65, oI (0 : Int32), oU] []) _
        refine XS.aload X70.here hx rfl (hb hby at_253) rfl rfl ?_
        show oP p e below T70 (mkF m 255 #[oI p0, oI p1, oI p2, oI p3, oI p4, oR b29, oR b50, oI i, oI si, oI j, oI sj, oR b59, oR b65, oI (0 : Int32), oR b65, oI (0 : Int32), oU] [(.ref b59)]) _
        refine XS.aload X70.here hx rfl (hb hby at_255) rfl rfl ?_
        show oP p e below T70 (mkF m 257 #[oI p0, oI p1, oI p2, oI p3, oI p4, oR b29, oR b50, oI i, oI si, oI j, oI sj, oR b59, oR b65, oI (0 : Int32), oR b65, oI (0 : Int32), oU] [(.ref b65), (.ref b59)]) _
        refine st102.trans ?_
        show oP p e below T102 (mkF m 260 #[oI p0, oI p1, oI p2, oI p3, oI p4, oR b29, oR b50, oI i, oI si, oI j, oI sj, oR b59, oR b65, oI (0 : Int32), oR b65, oI (0 : Int32), oU] [(.int (0 : Int32))]) _
        refine XS.istore X102.here hx rfl (hb hby at_260) rfl (l' := #[oI p0, oI p1, oI p2, oI p3, oI p4, oR b29, oR b50, oI i, oI si, oI j, oI sj, oR b59, oR b65, oI (0 : Int32), oR b65, oI (0 : Int32), oI (0 : Int32)]) rfl ?_
        show oP p e below T102 (mkF m 262 #[oI p0, oI p1, oI p2, oI p3, oI p4, oR b29, oR b50, oI i, oI si, oI j, oI sj, oR b59, oR b65, oI (0 : Int32), oR b65, oI (0 : Int32), oI (0 : Int32)] []) _
        refine XS.iload X102.here hx rfl (hb hby at_262) rfl ?_
        show oP p e below T102 (mkF m 264 #[oI p0, oI p1, oI p2, oI p3, oI p4, oR b29, oR b50, oI i, oI si, oI j, oI sj, oR b59, oR b65, oI (0 : Int32), oR b65, oI (0 : Int32), oI (0 : Int32)] [(.int (0 : Int32))]) _
        refine XS.ifNo X102.here hx rfl (hb hby at_264) rfl ((if0 _ _).trans (teq (by decide : (0 : Int32) = (0 : Int32))).2) ?_
        show oP p e below T102 (mkF m 267 #[oI p0, oI p1, oI p2, oI p3, oI p4, oR b29, oR b50, oI i, oI si, oI j, oI sj, oR b59, oR b65, oI (0 : Int32), oR b65, oI (0 : Int32), oI (0 : Int32)] []) _
        refine XS.iload X102.here hx rfl (hb hby at_267) rfl ?_
        show oP p e below T102 (mkF m 269 #[oI p0, oI p1, oI p2, oI p3, oI p4, oR b29, oR b50, oI i, oI si, oI j, oI sj, oR b59, oR b65, oI (0 : Int32), oR b65, oI (0 : Int32), oI (0 : Int32)] [(.int (0 : Int32))]) _
        refine XS.iload X102.here hx rfl (hb hby at_269) rfl ?_
        show oP p e below T102 (mkF m 271 #[oI p0, oI p1, oI p2, oI p3, oI p4, oR b29, oR b50, oI i, oI si, oI j, oI sj, oR b59, oR b65, oI (0 : Int32), oR b65, oI (0 : Int32), oI (0 : Int32)] [(.int (0 : Int32)), (.int (0 : Int32))]) _
        refine XS.icmpNo X102.here hx rfl (hb hby at_271) rfl (teq (by decide : (0 : Int32) = (0 : Int32))).2 ?_
        show oP p e below T102 (mkF m 274 #[oI p0, oI p1, oI p2, oI p3, oI p4, oR b29, oR b50, oI i, oI si, oI j, oI sj, oR b59, oR b65, oI (0 : Int32), oR b65, oI (0 : Int32), oI (0 : Int32)] []) _
        refine XS.aload X102.here hx rfl (hb hby at_274) rfl rfl ?_
        show oP p e below T102 (mkF m 276 #[oI p0, oI p1, oI p2, oI p3, oI p4, oR b29, oR b50, oI i, oI si, oI j, oI sj, oR b59, oR b65, oI (0 : Int32), oR b65, oI (0 : Int32), oI (0 : Int32)] [(.ref b65)]) _
        refine XS.aload X102.here hx rfl (hb hby at_276) rfl rfl ?_
        show oP p e below T102 (mkF m 278 #[oI p0, oI p1, oI p2, oI p3, oI p4, oR b29, oR b50, oI i, oI si, oI j, oI sj, oR b59, oR b65, oI (0 : Int32), oR b65, oI (0 : Int32), oI (0 : Int32)] [(.ref b59), (.ref b65)]) _
        refine st106.trans ?_
        show oP p e below T106 (mkF m 281 #[oI p0, oI p1, oI p2, oI p3, oI p4, oR b29, oR b50, oI i, oI si, oI j, oI sj, oR b59, oR b65, oI (0 : Int32), oR b65, oI (0 : Int32), oI (0 : Int32)] [(.int (0 : Int32))]) _
        refine XS.iload X106.here hx rfl (hb hby at_281) rfl ?_
        show oP p e below T106 (mkF m 283 #[oI p0, oI p1, oI p2, oI p3, oI p4, oR b29, oR b50, oI i, oI si, oI j, oI sj, oR b59, oR b65, oI (0 : Int32), oR b65, oI (0 : Int32), oI (0 : Int32)] [(.int (0 : Int32)), (.int (0 : Int32))]) _
        refine XS.icmpNo X106.here hx rfl (hb hby at_283) rfl (teq (by decide : (0 : Int32) = (0 : Int32))).2 ?_
        show oP p e below T106 (mkF m 286 #[oI p0, oI p1, oI p2, oI p3, oI p4, oR b29, oR b50, oI i, oI si, oI j, oI sj, oR b59, oR b65, oI (0 : Int32), oR b65, oI (0 : Int32), oI (0 : Int32)] []) _
        refine XS.iconst X106.here hx rfl (hb hby at_286) ?_
        show oP p e below T106 (mkF m 287 #[oI p0, oI p1, oI p2, oI p3, oI p4, oR b29, oR b50, oI i, oI si, oI j, oI sj, oR b59, oR b65, oI (0 : Int32), oR b65, oI (0 : Int32), oI (0 : Int32)] [(.int (1 : Int32))]) _
        refine XS.goto X106.here hx rfl (pc0 := 287) (pc' := 291) rfl (hb hby at_287) (by decide) (by decide) ?_
        show oP p e below T106 (mkF m 291 #[oI p0, oI p1, oI p2, oI p3, oI p4, oR b29, oR b50, oI i, oI si, oI j, oI sj, oR b59, oR b65, oI (0 : Int32), oR b65, oI (0 : Int32), oI (0 : Int32)] [(.int (1 : Int32))]) _
        exact retN X106 hx (t := .boolean) Bd.returns (by simp) (hb hby at_291) hr
      · show (some (.int (1 : Int32)) : Option Value) = some (.int (1 : Int32)) ∧ Fr n0 _ ∧ Keep h0 T106.heap []
        exact ⟨rfl, N106, Kc106⟩
  · have fx113 := ((po63_0.ext E65).keep K70q)
    have fx115 := ((po63_1.ext E65).keep K70q (ninS ne_b59_b65 nin0))
    have fx116 := ((po63_2.ext E65).keep K70q (ninS ne_b59_b65 nin0))
    obtain ⟨cq114, kq114, q114a, q114b, q114c⟩ := isOf hZ rfl fx113
    obtain ⟨_, _, ⟨T114, L114, k114, n114⟩, -, X114, ⟨Lc114, hQ114, l114, y114, z114⟩, st114⟩ := X70.virtualBack hx (y := (⟨"com/example/tempofold/tempofold/model/Rule", "equals", "(Ljava/lang/Object;)Z"⟩ : MethodName)) (z := (⟨"com/example/tempofold/tempofold/model/Rule", "equals", "(Ljava/lang/Object;)Z"⟩ : MethodName)) hown (mvT hZ (hw _ (List.mem_of_getElem? (i := 77) rfl))) (mvT hZ (hw _ (List.mem_of_getElem? (i := 78) rfl))) (notFace_of_selects (args := #[]) (mvT hZ (hw _ (List.mem_of_getElem? (i := 80) rfl)))) (mvT hZ (hw _ (List.mem_of_getElem? (i := 80) rfl))) (mvT hZ (hw _ (List.mem_of_getElem? (i := 79) rfl))) (by decide) (backOf (W := 0) (rm5q l Z a0 hw hS [] b59 b59 (sel1 Z i) (sel2 Z si) (sel1 Z i) (sel2 Z si) T70.heap n0 O70 fx113 fx115 fx116 fx115 fx116) hZ (hw _ (List.mem_of_getElem? (i := 81) rfl)) (hw _ (List.mem_of_getElem? (i := 48) rfl)) (by decide) (by decide)) q114a q114c (g := (mkF m 257 #[oI p0, oI p1, oI p2, oI p3, oI p4, oR b29, oR b50, oI i, oI si, oI j, oI sj, oR b59, oR b65, oI (1 : Int32), oR b59, oI (1 : Int32), oU] [(.ref b59), (.ref b59)])) rfl (by rw [hml]; rfl) (Steps.refl _) (argsL := [(.ref b59)]) (rest := []) (lenOf pd_3 rfl) rfl (by show 2 * 0 + _ ≤ _; exact Nat.le_of_eq rfl) (hb hby at_257) (fun _ _ => ⟨rfl, rfl, (by decide : 12 + 0 ≤ _), (by decide : 114 + 0 ≤ _)⟩)
    dsimp only [Pt.U, Pt.locs, Pt.cells, Pt.slots] at X114 l114 y114 z114 st114 hQ114
    subst l114 y114 z114
    obtain ⟨v114, N114q, K114q⟩ := hQ114
    have w114 : (fn5q Z b59 b59 (sel1 Z i) (sel2 Z si) (sel1 Z i) (sel2 Z si)) = (1 : Int32) := by unfold fn5q; rw [if_pos (rfl : (sel1 Z i) = (sel1 Z i)), if_pos (rfl : (sel2 Z si) = (sel2 Z si))]; all_goals first | rfl | decide
    rw [w114] at v114
    subst v114
    have N114 := Fr.app N70 N114q
    have O114 := O70.keep K114q all0
    have Kc114 := Kc70.trans K114q all0
    have fx117 := (Nat.le_trans (Nat.le_refl _) K114q.1)
    obtain ⟨fs, hr, hrun, hended, hRW⟩ := Stand.leaveW X114 hSi fx117 (v := some (.int (1 : Int32))) (fun h => by rw [Bd.returns] at h; cases h)
    refine ⟨_, _, pre72 _ ?_, hrun, hended, _, _, rfl, ?_, own_rwmono hRW (by decide) (by decide)⟩
    · show oP p e below T70 (mkF m 177 #[oI p0, oI p1, oI p2, oI p3, oI p4, oR b29, oR b50, oI i, oI si, oI j, oI sj, oR b59, oR b65, oU, oU, oU, oU] [(.int (1 : Int32))]) _
      refine XS.istore X70.here hx rfl (hb hby at_177) rfl (l' := #[oI p0, oI p1, oI p2, oI p3, oI p4, oR b29, oR b50, oI i, oI si, oI j, oI sj, oR b59, oR b65, oI (1 : Int32), oU, oU, oU]) rfl ?_
      show oP p e below T70 (mkF m 179 #[oI p0, oI p1, oI p2, oI p3, oI p4, oR b29, oR b50, oI i, oI si, oI j, oI sj, oR b59, oR b65, oI (1 : Int32), oU, oU, oU] []) _
      refine XS.iload X70.here hx rfl (hb hby at_179) rfl ?_
      show oP p e below T70 (mkF m 181 #[oI p0, oI p1, oI p2, oI p3, oI p4, oR b29, oR b50, oI i, oI si, oI j, oI sj, oR b59, oR b65, oI (1 : Int32), oU, oU, oU] [(.int (1 : Int32))]) _
      refine XS.ifYes X70.here hx rfl (pc0 := 181) (pc' := 212) rfl (hb hby at_181) rfl ((if0 _ _).trans (feq (by decide : ¬ ((1 : Int32) = (0 : Int32)))).2) (by decide) (by decide) ?_
      show oP p e below T70 (mkF m 212 #[oI p0, oI p1, oI p2, oI p3, oI p4, oR b29, oR b50, oI i, oI si, oI j, oI sj, oR b59, oR b65, oI (1 : Int32), oU, oU, oU] []) _
      refine XS.iload X70.here hx rfl (hb hby at_212) rfl ?_
      show oP p e below T70 (mkF m 214 #[oI p0, oI p1, oI p2, oI p3, oI p4, oR b29, oR b50, oI i, oI si, oI j, oI sj, oR b59, oR b65, oI (1 : Int32), oU, oU, oU] [(.int (1 : Int32))]) _
      refine XS.iconst X70.here hx rfl (hb hby at_214) ?_
      show oP p e below T70 (mkF m 215 #[oI p0, oI p1, oI p2, oI p3, oI p4, oR b29, oR b50, oI i, oI si, oI j, oI sj, oR b59, oR b65, oI (1 : Int32), oU, oU, oU] [(.int (1 : Int32)), (.int (1 : Int32))]) _
      refine XS.icmpNo X70.here hx rfl (hb hby at_215) rfl (teq (by decide : (1 : Int32) = (1 : Int32))).2 ?_
      show oP p e below T70 (mkF m 218 #[oI p0, oI p1, oI p2, oI p3, oI p4, oR b29, oR b50, oI i, oI si, oI j, oI sj, oR b59, oR b65, oI (1 : Int32), oU, oU, oU] []) _
      refine XS.aload X70.here hx rfl (hb hby at_218) rfl rfl ?_
      show oP p e below T70 (mkF m 220 #[oI p0, oI p1, oI p2, oI p3, oI p4, oR b29, oR b50, oI i, oI si, oI j, oI sj, oR b59, oR b65, oI (1 : Int32), oU, oU, oU] [(.ref b59)]) _
      refine XS.astore X70.here hx rfl (hb hby at_220) rfl rfl (l' := #[oI p0, oI p1, oI p2, oI p3, oI p4, oR b29, oR b50, oI i, oI si, oI j, oI sj, oR b59, oR b65, oI (1 : Int32), oR b59, oU, oU]) rfl ?_
      show oP p e below T70 (mkF m 222 #[oI p0, oI p1, oI p2, oI p3, oI p4, oR b29, oR b50, oI i, oI si, oI j, oI sj, oR b59, oR b65, oI (1 : Int32), oR b59, oU, oU] []) _
      refine XS.iconst X70.here hx rfl (hb hby at_222) ?_
      show oP p e below T70 (mkF m 223 #[oI p0, oI p1, oI p2, oI p3, oI p4, oR b29, oR b50, oI i, oI si, oI j, oI sj, oR b59, oR b65, oI (1 : Int32), oR b59, oU, oU] [(.int (1 : Int32))]) _
      refine XS.istore X70.here hx rfl (hb hby at_223) rfl (l' := #[oI p0, oI p1, oI p2, oI p3, oI p4, oR b29, oR b50, oI i, oI si, oI j, oI sj, oR b59, oR b65, oI (1 : Int32), oR b59, oI (1 : Int32), oU]) rfl ?_
      show oP p e below T70 (mkF m 225 #[oI p0, oI p1, oI p2, oI p3, oI p4, oR b29, oR b50, oI i, oI si, oI j, oI sj, oR b59, oR b65, oI (1 : Int32), oR b59, oI (1 : Int32), oU] []) _
      refine XS.goto X70.here hx rfl (pc0 := 225) (pc' := 253) rfl (hb hby at_225) (by decide) (by decide) ?_
      show oP p e below T70 (mkF m 253 #[oI p0, oI p1, oI p2, oI p3, oI p4, oR b29, oR b50, oI i, oI si, oI j, oI sj, oR b59, oR b65, oI (1 : Int32), oR b59, oI (1 : Int32), oU] []) _
      refine XS.aload X70.here hx rfl (hb hby at_253) rfl rfl ?_
      show oP p e below T70 (mkF m 255 #[oI p0, oI p1, oI p2, oI p3, oI p4, oR b29, oR b50, oI i, oI si, oI j, oI sj, oR b59, oR b65, oI (1 : Int32), oR b59, oI (1 : Int32), oU] [(.ref b59)]) _
      refine XS.aload X70.here hx rfl (hb hby at_255) rfl rfl ?_
      show oP p e below T70 (mkF m 257 #[oI p0, oI p1, oI p2, oI p3, oI p4, oR b29, oR b50, oI i, oI si, oI j, oI sj, oR b59, oR b65, oI (1 : Int32), oR b59, oI (1 : Int32), oU] [(.ref b59), (.ref b59)]) _
      refine st114.trans ?_
      show oP p e below T114 (mkF m 260 #[oI p0, oI p1, oI p2, oI p3, oI p4, oR b29, oR b50, oI i, oI si, oI j, oI sj, oR b59, oR b65, oI (1 : Int32), oR b59, oI (1 : Int32), oU] [(.int (1 : Int32))]) _
      refine XS.istore X114.here hx rfl (hb hby at_260) rfl (l' := #[oI p0, oI p1, oI p2, oI p3, oI p4, oR b29, oR b50, oI i, oI si, oI j, oI sj, oR b59, oR b65, oI (1 : Int32), oR b59, oI (1 : Int32), oI (1 : Int32)]) rfl ?_
      show oP p e below T114 (mkF m 262 #[oI p0, oI p1, oI p2, oI p3, oI p4, oR b29, oR b50, oI i, oI si, oI j, oI sj, oR b59, oR b65, oI (1 : Int32), oR b59, oI (1 : Int32), oI (1 : Int32)] []) _
      refine XS.iload X114.here hx rfl (hb hby at_262) rfl ?_
      show oP p e below T114 (mkF m 264 #[oI p0, oI p1, oI p2, oI p3, oI p4, oR b29, oR b50, oI i, oI si, oI j, oI sj, oR b59, oR b65, oI (1 : Int32), oR b59, oI (1 : Int32), oI (1 : Int32)] [(.int (1 : Int32))]) _
      refine XS.ifYes X114.here hx rfl (pc0 := 264) (pc' := 292) rfl (hb hby at_264) rfl ((if0 _ _).trans (feq (by decide : ¬ ((1 : Int32) = (0 : Int32)))).2) (by decide) (by decide) ?_
      show oP p e below T114 (mkF m 292 #[oI p0, oI p1, oI p2, oI p3, oI p4, oR b29, oR b50, oI i, oI si, oI j, oI sj, oR b59, oR b65, oI (1 : Int32), oR b59, oI (1 : Int32), oI (1 : Int32)] []) _
      refine XS.iload X114.here hx rfl (hb hby at_292) rfl ?_
      show oP p e below T114 (mkF m 294 #[oI p0, oI p1, oI p2, oI p3, oI p4, oR b29, oR b50, oI i, oI si, oI j, oI sj, oR b59, oR b65, oI (1 : Int32), oR b59, oI (1 : Int32), oI (1 : Int32)] [(.int (1 : Int32))]) _
      refine XS.iload X114.here hx rfl (hb hby at_294) rfl ?_
      show oP p e below T114 (mkF m 296 #[oI p0, oI p1, oI p2, oI p3, oI p4, oR b29, oR b50, oI i, oI si, oI j, oI sj, oR b59, oR b65, oI (1 : Int32), oR b59, oI (1 : Int32), oI (1 : Int32)] [(.int (1 : Int32)), (.int (1 : Int32))]) _
      refine XS.icmpNo X114.here hx rfl (hb hby at_296) rfl (teq (by decide : (1 : Int32) = (1 : Int32))).2 ?_
      show oP p e below T114 (mkF m 299 #[oI p0, oI p1, oI p2, oI p3, oI p4, oR b29, oR b50, oI i, oI si, oI j, oI sj, oR b59, oR b65, oI (1 : Int32), oR b59, oI (1 : Int32), oI (1 : Int32)] []) _
      refine XS.iconst X114.here hx rfl (hb hby at_299) ?_
      show oP p e below T114 (mkF m 300 #[oI p0, oI p1, oI p2, oI p3, oI p4, oR b29, oR b50, oI i, oI si, oI j, oI sj, oR b59, oR b65, oI (1 : Int32), oR b59, oI (1 : Int32), oI (1 : Int32)] [(.int (1 : Int32))]) _
      refine XS.goto X114.here hx rfl (pc0 := 300) (pc' := 304) rfl (hb hby at_300) (by decide) (by decide) ?_
      show oP p e below T114 (mkF m 304 #[oI p0, oI p1, oI p2, oI p3, oI p4, oR b29, oR b50, oI i, oI si, oI j, oI sj, oR b59, oR b65, oI (1 : Int32), oR b59, oI (1 : Int32), oI (1 : Int32)] [(.int (1 : Int32))]) _
      exact retN X114 hx (t := .boolean) Bd.returns (by simp) (hb hby at_304) hr
    · show (some (.int (1 : Int32)) : Option Value) = some (.int (1 : Int32)) ∧ Fr n0 _ ∧ Keep h0 T114.heap []
      exact ⟨rfl, N114, Kc114⟩
  · have fx118 := ((po63_0.ext E65).keep K70q)
    obtain ⟨cq119, kq119, q119a, q119b, q119c⟩ := isOf hZ rfl fx118
    obtain ⟨_, _, ⟨T119, L119, k119, n119⟩, -, X119, ⟨Lc119, hQ119, l119, y119, z119⟩, st119⟩ := X70.virtualBack hx (y := (⟨"com/example/tempofold/tempofold/model/Rule", "equals", "(Ljava/lang/Object;)Z"⟩ : MethodName)) (z := (⟨"com/example/tempofold/tempofold/model/Rule", "equals", "(Ljava/lang/Object;)Z"⟩ : MethodName)) hown (mvT hZ (hw _ (List.mem_of_getElem? (i := 77) rfl))) (mvT hZ (hw _ (List.mem_of_getElem? (i := 78) rfl))) (notFace_of_selects (args := #[]) (mvT hZ (hw _ (List.mem_of_getElem? (i := 80) rfl)))) (mvT hZ (hw _ (List.mem_of_getElem? (i := 80) rfl))) (mvT hZ (hw _ (List.mem_of_getElem? (i := 79) rfl))) (by decide) (backOf (W := 0) (rm5n l Z a0 hw hS [] b59 T70.heap n0 O70 ) hZ (hw _ (List.mem_of_getElem? (i := 81) rfl)) (hw _ (List.mem_of_getElem? (i := 48) rfl)) (by decide) (by decide)) q119a q119c (g := (mkF m 257 #[oI p0, oI p1, oI p2, oI p3, oI p4, oR b29, oR b50, oI i, oI si, oI j, oI sj, oR b59, oR b65, oI (2 : Int32), oN, oI (0 : Int32), oU] [.null, (.ref b59)])) rfl (by rw [hml]; rfl) (Steps.refl _) (argsL := [.null]) (rest := []) (lenOf pd_3 rfl) rfl (by show 2 * 0 + _ ≤ _; exact Nat.le_of_eq rfl) (hb hby at_257) (fun _ _ => ⟨rfl, rfl, (by decide : 12 + 0 ≤ _), (by decide : 114 + 0 ≤ _)⟩)
    dsimp only [Pt.U, Pt.locs, Pt.cells, Pt.slots] at X119 l119 y119 z119 st119 hQ119
    subst l119 y119 z119
    obtain ⟨v119, N119q, K119q⟩ := hQ119
    have w119 : (fn5n Z b59) = (0 : Int32) := rfl
    rw [w119] at v119
    subst v119
    have N119 := Fr.app N70 N119q
    have O119 := O70.keep K119q all0
    have Kc119 := Kc70.trans K119q all0
    have fx120 := (Nat.le_trans (Nat.le_refl _) K119q.1)
    obtain ⟨fs, hr, hrun, hended, hRW⟩ := Stand.leaveW X119 hSi fx120 (v := some (.int (1 : Int32))) (fun h => by rw [Bd.returns] at h; cases h)
    refine ⟨_, _, pre72 _ ?_, hrun, hended, _, _, rfl, ?_, own_rwmono hRW (by decide) (by decide)⟩
    · show oP p e below T70 (mkF m 177 #[oI p0, oI p1, oI p2, oI p3, oI p4, oR b29, oR b50, oI i, oI si, oI j, oI sj, oR b59, oR b65, oU, oU, oU, oU] [(.int (2 : Int32))]) _
      refine XS.istore X70.here hx rfl (hb hby at_177) rfl (l' := #[oI p0, oI p1, oI p2, oI p3, oI p4, oR b29, oR b50, oI i, oI si, oI j, oI sj, oR b59, oR b65, oI (2 : Int32), oU, oU, oU]) rfl ?_
      show oP p e below T70 (mkF m 179 #[oI p0, oI p1, oI p2, oI p3, oI p4, oR b29, oR b50, oI i, oI si, oI j, oI sj, oR b59, oR b65, oI (2 : Int32), oU, oU, oU] []) _
      refine XS.iload X70.here hx rfl (hb hby at_179) rfl ?_
      show oP p e below T70 (mkF m 181 #[oI p0, oI p1, oI p2, oI p3, oI p4, oR b29, oR b50, oI i, oI si, oI j, oI sj, oR b59, oR b65, oI (2 : Int32), oU, oU, oU] [(.int (2 : Int32))]) _
      refine XS.ifYes X70.here hx rfl (pc0 := 181) (pc' := 212) rfl (hb hby at_181) rfl ((if0 _ _).trans (feq (by decide : ¬ ((2 : Int32) = (0 : Int32)))).2) (by decide) (by decide) ?_
      show oP p e below T70 (mkF m 212 #[oI p0, oI p1, oI p2, oI p3, oI p4, oR b29, oR b50, oI i, oI si, oI j, oI sj, oR b59, oR b65, oI (2 : Int32), oU, oU, oU] []) _
      refine XS.iload X70.here hx rfl (hb hby at_212) rfl ?_
      show oP p e below T70 (mkF m 214 #[oI p0, oI p1, oI p2, oI p3, oI p4, oR b29, oR b50, oI i, oI si, oI j, oI sj, oR b59, oR b65, oI (2 : Int32), oU, oU, oU] [(.int (2 : Int32))]) _
      refine XS.iconst X70.here hx rfl (hb hby at_214) ?_
      show oP p e below T70 (mkF m 215 #[oI p0, oI p1, oI p2, oI p3, oI p4, oR b29, oR b50, oI i, oI si, oI j, oI sj, oR b59, oR b65, oI (2 : Int32), oU, oU, oU] [(.int (1 : Int32)), (.int (2 : Int32))]) _
      refine XS.icmpYes X70.here hx rfl (pc0 := 215) (pc' := 228) rfl (hb hby at_215) rfl (feq (by decide : ¬ ((2 : Int32) = (1 : Int32)))).2 (by decide) (by decide) ?_
      show oP p e below T70 (mkF m 228 #[oI p0, oI p1, oI p2, oI p3, oI p4, oR b29, oR b50, oI i, oI si, oI j, oI sj, oR b59, oR b65, oI (2 : Int32), oU, oU, oU] []) _
      refine XS.iload X70.here hx rfl (hb hby at_228) rfl ?_
      show oP p e below T70 (mkF m 230 #[oI p0, oI p1, oI p2, oI p3, oI p4, oR b29, oR b50, oI i, oI si, oI j, oI sj, oR b59, oR b65, oI (2 : Int32), oU, oU, oU] [(.int (2 : Int32))]) _
      refine XS.iconst X70.here hx rfl (hb hby at_230) ?_
      show oP p e below T70 (mkF m 231 #[oI p0, oI p1, oI p2, oI p3, oI p4, oR b29, oR b50, oI i, oI si, oI j, oI sj, oR b59, oR b65, oI (2 : Int32), oU, oU, oU] [(.int (2 : Int32)), (.int (2 : Int32))]) _
      refine XS.icmpNo X70.here hx rfl (hb hby at_231) rfl (teq (by decide : (2 : Int32) = (2 : Int32))).2 ?_
      show oP p e below T70 (mkF m 234 #[oI p0, oI p1, oI p2, oI p3, oI p4, oR b29, oR b50, oI i, oI si, oI j, oI sj, oR b59, oR b65, oI (2 : Int32), oU, oU, oU] []) _
      refine XS.aconstNull X70.here hx rfl (hb hby at_234) ?_
      show oP p e below T70 (mkF m 235 #[oI p0, oI p1, oI p2, oI p3, oI p4, oR b29, oR b50, oI i, oI si, oI j, oI sj, oR b59, oR b65, oI (2 : Int32), oU, oU, oU] [.null]) _
      refine XS.astore X70.here hx rfl (hb hby at_235) rfl rfl (l' := #[oI p0, oI p1, oI p2, oI p3, oI p4, oR b29, oR b50, oI i, oI si, oI j, oI sj, oR b59, oR b65, oI (2 : Int32), oN, oU, oU]) rfl ?_
      show oP p e below T70 (mkF m 237 #[oI p0, oI p1, oI p2, oI p3, oI p4, oR b29, oR b50, oI i, oI si, oI j, oI sj, oR b59, oR b65, oI (2 : Int32), oN, oU, oU] []) _
      refine XS.iconst X70.here hx rfl (hb hby at_237) ?_
      show oP p e below T70 (mkF m 238 #[oI p0, oI p1, oI p2, oI p3, oI p4, oR b29, oR b50, oI i, oI si, oI j, oI sj, oR b59, oR b65, oI (2 : Int32), oN, oU, oU] [(.int (0 : Int32))]) _
      refine XS.istore X70.here hx rfl (hb hby at_238) rfl (l' := #[oI p0, oI p1, oI p2, oI p3, oI p4, oR b29, oR b50, oI i, oI si, oI j, oI sj, oR b59, oR b65, oI (2 : Int32), oN, oI (0 : Int32), oU]) rfl ?_
      show oP p e below T70 (mkF m 240 #[oI p0, oI p1, oI p2, oI p3, oI p4, oR b29, oR b50, oI i, oI si, oI j, oI sj, oR b59, oR b65, oI (2 : Int32), oN, oI (0 : Int32), oU] []) _
      refine XS.goto X70.here hx rfl (pc0 := 240) (pc' := 253) rfl (hb hby at_240) (by decide) (by decide) ?_
      show oP p e below T70 (mkF m 253 #[oI p0, oI p1, oI p2, oI p3, oI p4, oR b29, oR b50, oI i, oI si, oI j, oI sj, oR b59, oR b65, oI (2 : Int32), oN, oI (0 : Int32), oU] []) _
      refine XS.aload X70.here hx rfl (hb hby at_253) rfl rfl ?_
      show oP p e below T70 (mkF m 255 #[oI p0, oI p1, oI p2, oI p3, oI p4, oR b29, oR b50, oI i, oI si, oI j, oI sj, oR b59, oR b65, oI (2 : Int32), oN, oI (0 : Int32), oU] [(.ref b59)]) _
      refine XS.aload X70.here hx rfl (hb hby at_255) rfl rfl ?_
      show oP p e below T70 (mkF m 257 #[oI p0, oI p1, oI p2, oI p3, oI p4, oR b29, oR b50, oI i, oI si, oI j, oI sj, oR b59, oR b65, oI (2 : Int32), oN, oI (0 : Int32), oU] [.null, (.ref b59)]) _
      refine st119.trans ?_
      show oP p e below T119 (mkF m 260 #[oI p0, oI p1, oI p2, oI p3, oI p4, oR b29, oR b50, oI i, oI si, oI j, oI sj, oR b59, oR b65, oI (2 : Int32), oN, oI (0 : Int32), oU] [(.int (0 : Int32))]) _
      refine XS.istore X119.here hx rfl (hb hby at_260) rfl (l' := #[oI p0, oI p1, oI p2, oI p3, oI p4, oR b29, oR b50, oI i, oI si, oI j, oI sj, oR b59, oR b65, oI (2 : Int32), oN, oI (0 : Int32), oI (0 : Int32)]) rfl ?_
      show oP p e below T119 (mkF m 262 #[oI p0, oI p1, oI p2, oI p3, oI p4, oR b29, oR b50, oI i, oI si, oI j, oI sj, oR b59, oR b65, oI (2 : Int32), oN, oI (0 : Int32), oI (0 : Int32)] []) _
      refine XS.iload X119.here hx rfl (hb hby at_262) rfl ?_
      show oP p e below T119 (mkF m 264 #[oI p0, oI p1, oI p2, oI p3, oI p4, oR b29, oR b50, oI i, oI si, oI j, oI sj, oR b59, oR b65, oI (2 : Int32), oN, oI (0 : Int32), oI (0 : Int32)] [(.int (2 : Int32))]) _
      refine XS.ifYes X119.here hx rfl (pc0 := 264) (pc' := 292) rfl (hb hby at_264) rfl ((if0 _ _).trans (feq (by decide : ¬ ((2 : Int32) = (0 : Int32)))).2) (by decide) (by decide) ?_
      show oP p e below T119 (mkF m 292 #[oI p0, oI p1, oI p2, oI p3, oI p4, oR b29, oR b50, oI i, oI si, oI j, oI sj, oR b59, oR b65, oI (2 : Int32), oN, oI (0 : Int32), oI (0 : Int32)] []) _
      refine XS.iload X119.here hx rfl (hb hby at_292) rfl ?_
      show oP p e below T119 (mkF m 294 #[oI p0, oI p1, oI p2, oI p3, oI p4, oR b29, oR b50, oI i, oI si, oI j, oI sj, oR b59, oR b65, oI (2 : Int32), oN, oI (0 : Int32), oI (0 : Int32)] [(.int (0 : Int32))]) _
      refine XS.iload X119.here hx rfl (hb hby at_294) rfl ?_
      show oP p e below T119 (mkF m 296 #[oI p0, oI p1, oI p2, oI p3, oI p4, oR b29, oR b50, oI i, oI si, oI j, oI sj, oR b59, oR b65, oI (2 : Int32), oN, oI (0 : Int32), oI (0 : Int32)] [(.int (0 : Int32)), (.int (0 : Int32))]) _
      refine XS.icmpNo X119.here hx rfl (hb hby at_296) rfl (teq (by decide : (0 : Int32) = (0 : Int32))).2 ?_
      show oP p e below T119 (mkF m 299 #[oI p0, oI p1, oI p2, oI p3, oI p4, oR b29, oR b50, oI i, oI si, oI j, oI sj, oR b59, oR b65, oI (2 : Int32), oN, oI (0 : Int32), oI (0 : Int32)] []) _
      refine XS.iconst X119.here hx rfl (hb hby at_299) ?_
      show oP p e below T119 (mkF m 300 #[oI p0, oI p1, oI p2, oI p3, oI p4, oR b29, oR b50, oI i, oI si, oI j, oI sj, oR b59, oR b65, oI (2 : Int32), oN, oI (0 : Int32), oI (0 : Int32)] [(.int (1 : Int32))]) _
      refine XS.goto X119.here hx rfl (pc0 := 300) (pc' := 304) rfl (hb hby at_300) (by decide) (by decide) ?_
      show oP p e below T119 (mkF m 304 #[oI p0, oI p1, oI p2, oI p3, oI p4, oR b29, oR b50, oI i, oI si, oI j, oI sj, oR b59, oR b65, oI (2 : Int32), oN, oI (0 : Int32), oI (0 : Int32)] [(.int (1 : Int32))]) _
      exact retN X119 hx (t := .boolean) Bd.returns (by simp) (hb hby at_304) hr
    · show (some (.int (1 : Int32)) : Option Value) = some (.int (1 : Int32)) ∧ Fr n0 _ ∧ Keep h0 T119.heap []
      exact ⟨rfl, N119, Kc119⟩
  · have fx121 := (fx68.keep K70q (ninS ne_b29_b65 nin0))
    obtain ⟨KC, EKC, hnoK⟩ := own_cls hS hw ri
    have fx122 := ((po63_0.ext E65).keep K70q)
    obtain ⟨cq123, kq123, q123a, q123b, q123c⟩ := isOf hZ rfl fx122
    obtain ⟨_, _, ⟨T123, L123, k123, n123⟩, -, X123, ⟨Lc123, hQ123, l123, y123, z123⟩, st123⟩ := X70.virtualBack hx (y := (⟨"com/example/tempofold/tempofold/model/Rule", "equals", "(Ljava/lang/Object;)Z"⟩ : MethodName)) (z := (⟨"com/example/tempofold/tempofold/model/Rule", "equals", "(Ljava/lang/Object;)Z"⟩ : MethodName)) hown (mvT hZ (hw _ (List.mem_of_getElem? (i := 77) rfl))) (mvT hZ (hw _ (List.mem_of_getElem? (i := 78) rfl))) (notFace_of_selects (args := #[]) (mvT hZ (hw _ (List.mem_of_getElem? (i := 80) rfl)))) (mvT hZ (hw _ (List.mem_of_getElem? (i := 80) rfl))) (mvT hZ (hw _ (List.mem_of_getElem? (i := 79) rfl))) (by decide) (backOf (W := 0) (rm5o l Z a0 hw hS [] b59 (sel1 Z i) KC T70.heap n0 O70 (EKC.ext O70.2) hnoK) hZ (hw _ (List.mem_of_getElem? (i := 81) rfl)) (hw _ (List.mem_of_getElem? (i := 48) rfl)) (by decide) (by decide)) q123a q123c (g := (mkF m 257 #[oI p0, oI p1, oI p2, oI p3, oI p4, oR b29, oR b50, oI i, oI si, oI j, oI sj, oR b59, oR b65, oI (3 : Int32), oR (sel1 Z i), oI (0 : Int32), oU] [(.ref (sel1 Z i)), (.ref b59)])) rfl (by rw [hml]; rfl) (Steps.refl _) (argsL := [(.ref (sel1 Z i))]) (rest := []) (lenOf pd_3 rfl) rfl (by show 2 * 0 + _ ≤ _; exact Nat.le_of_eq rfl) (hb hby at_257) (fun _ _ => ⟨rfl, rfl, (by decide : 12 + 0 ≤ _), (by decide : 114 + 0 ≤ _)⟩)
    dsimp only [Pt.U, Pt.locs, Pt.cells, Pt.slots] at X123 l123 y123 z123 st123 hQ123
    subst l123 y123 z123
    obtain ⟨v123, N123q, K123q⟩ := hQ123
    have w123 : (fn5o Z b59 (sel1 Z i) KC) = (0 : Int32) := rfl
    rw [w123] at v123
    subst v123
    have N123 := Fr.app N70 N123q
    have O123 := O70.keep K123q all0
    have Kc123 := Kc70.trans K123q all0
    have fx124 := (Nat.le_trans (Nat.le_refl _) K123q.1)
    obtain ⟨fs, hr, hrun, hended, hRW⟩ := Stand.leaveW X123 hSi fx124 (v := some (.int (1 : Int32))) (fun h => by rw [Bd.returns] at h; cases h)
    refine ⟨_, _, pre72 _ ?_, hrun, hended, _, _, rfl, ?_, own_rwmono hRW (by decide) (by decide)⟩
    · show oP p e below T70 (mkF m 177 #[oI p0, oI p1, oI p2, oI p3, oI p4, oR b29, oR b50, oI i, oI si, oI j, oI sj, oR b59, oR b65, oU, oU, oU, oU] [(.int (3 : Int32))]) _
      refine XS.istore X70.here hx rfl (hb hby at_177) rfl (l' := #[oI p0, oI p1, oI p2, oI p3, oI p4, oR b29, oR b50, oI i, oI si, oI j, oI sj, oR b59, oR b65, oI (3 : Int32), oU, oU, oU]) rfl ?_
      show oP p e below T70 (mkF m 179 #[oI p0, oI p1, oI p2, oI p3, oI p4, oR b29, oR b50, oI i, oI si, oI j, oI sj, oR b59, oR b65, oI (3 : Int32), oU, oU, oU] []) _
      refine XS.iload X70.here hx rfl (hb hby at_179) rfl ?_
      show oP p e below T70 (mkF m 181 #[oI p0, oI p1, oI p2, oI p3, oI p4, oR b29, oR b50, oI i, oI si, oI j, oI sj, oR b59, oR b65, oI (3 : Int32), oU, oU, oU] [(.int (3 : Int32))]) _
      refine XS.ifYes X70.here hx rfl (pc0 := 181) (pc' := 212) rfl (hb hby at_181) rfl ((if0 _ _).trans (feq (by decide : ¬ ((3 : Int32) = (0 : Int32)))).2) (by decide) (by decide) ?_
      show oP p e below T70 (mkF m 212 #[oI p0, oI p1, oI p2, oI p3, oI p4, oR b29, oR b50, oI i, oI si, oI j, oI sj, oR b59, oR b65, oI (3 : Int32), oU, oU, oU] []) _
      refine XS.iload X70.here hx rfl (hb hby at_212) rfl ?_
      show oP p e below T70 (mkF m 214 #[oI p0, oI p1, oI p2, oI p3, oI p4, oR b29, oR b50, oI i, oI si, oI j, oI sj, oR b59, oR b65, oI (3 : Int32), oU, oU, oU] [(.int (3 : Int32))]) _
      refine XS.iconst X70.here hx rfl (hb hby at_214) ?_
      show oP p e below T70 (mkF m 215 #[oI p0, oI p1, oI p2, oI p3, oI p4, oR b29, oR b50, oI i, oI si, oI j, oI sj, oR b59, oR b65, oI (3 : Int32), oU, oU, oU] [(.int (1 : Int32)), (.int (3 : Int32))]) _
      refine XS.icmpYes X70.here hx rfl (pc0 := 215) (pc' := 228) rfl (hb hby at_215) rfl (feq (by decide : ¬ ((3 : Int32) = (1 : Int32)))).2 (by decide) (by decide) ?_
      show oP p e below T70 (mkF m 228 #[oI p0, oI p1, oI p2, oI p3, oI p4, oR b29, oR b50, oI i, oI si, oI j, oI sj, oR b59, oR b65, oI (3 : Int32), oU, oU, oU] []) _
      refine XS.iload X70.here hx rfl (hb hby at_228) rfl ?_
      show oP p e below T70 (mkF m 230 #[oI p0, oI p1, oI p2, oI p3, oI p4, oR b29, oR b50, oI i, oI si, oI j, oI sj, oR b59, oR b65, oI (3 : Int32), oU, oU, oU] [(.int (3 : Int32))]) _
      refine XS.iconst X70.here hx rfl (hb hby at_230) ?_
      show oP p e below T70 (mkF m 231 #[oI p0, oI p1, oI p2, oI p3, oI p4, oR b29, oR b50, oI i, oI si, oI j, oI sj, oR b59, oR b65, oI (3 : Int32), oU, oU, oU] [(.int (2 : Int32)), (.int (3 : Int32))]) _
      refine XS.icmpYes X70.here hx rfl (pc0 := 231) (pc' := 243) rfl (hb hby at_231) rfl (feq (by decide : ¬ ((3 : Int32) = (2 : Int32)))).2 (by decide) (by decide) ?_
      show oP p e below T70 (mkF m 243 #[oI p0, oI p1, oI p2, oI p3, oI p4, oR b29, oR b50, oI i, oI si, oI j, oI sj, oR b59, oR b65, oI (3 : Int32), oU, oU, oU] []) _
      refine XS.aload X70.here hx rfl (hb hby at_243) rfl rfl ?_
      show oP p e below T70 (mkF m 245 #[oI p0, oI p1, oI p2, oI p3, oI p4, oR b29, oR b50, oI i, oI si, oI j, oI sj, oR b59, oR b65, oI (3 : Int32), oU, oU, oU] [(.ref b29)]) _
      refine XS.iload X70.here hx rfl (hb hby at_245) rfl ?_
      show oP p e below T70 (mkF m 247 #[oI p0, oI p1, oI p2, oI p3, oI p4, oR b29, oR b50, oI i, oI si, oI j, oI sj, oR b59, oR b65, oI (3 : Int32), oU, oU, oU] [(.int i), (.ref b29)]) _
      refine own_aaload X70 hx hZ rfl fx121 rfl (j := i) (sel1_in ri) (v := (.ref (sel1 Z i))) (sel1_at Z ri) (g := (mkF m 247 #[oI p0, oI p1, oI p2, oI p3, oI p4, oR b29, oR b50, oI i, oI si, oI j, oI sj, oR b59, oR b65, oI (3 : Int32), oU, oU, oU] [(.int i), (.ref b29)])) rfl rfl (hb hby at_247) _ ?_
      show oP p e below T70 (mkF m 248 #[oI p0, oI p1, oI p2, oI p3, oI p4, oR b29, oR b50, oI i, oI si, oI j, oI sj, oR b59, oR b65, oI (3 : Int32), oU, oU, oU] [(.ref (sel1 Z i))]) _
      refine XS.astore X70.here hx rfl (hb hby at_248) rfl rfl (l' := #[oI p0, oI p1, oI p2, oI p3, oI p4, oR b29, oR b50, oI i, oI si, oI j, oI sj, oR b59, oR b65, oI (3 : Int32), oR (sel1 Z i), oU, oU]) rfl ?_
      show oP p e below T70 (mkF m 250 #[oI p0, oI p1, oI p2, oI p3, oI p4, oR b29, oR b50, oI i, oI si, oI j, oI sj, oR b59, oR b65, oI (3 : Int32), oR (sel1 Z i), oU, oU] []) _
      refine XS.iconst X70.here hx rfl (hb hby at_250) ?_
      show oP p e below T70 (mkF m 251 #[oI p0, oI p1, oI p2, oI p3, oI p4, oR b29, oR b50, oI i, oI si, oI j, oI sj, oR b59, oR b65, oI (3 : Int32), oR (sel1 Z i), oU, oU] [(.int (0 : Int32))]) _
      refine XS.istore X70.here hx rfl (hb hby at_251) rfl (l' := #[oI p0, oI p1, oI p2, oI p3, oI p4, oR b29, oR b50, oI i, oI si, oI j, oI sj, oR b59, oR b65, oI (3 : Int32), oR (sel1 Z i), oI (0 : Int32), oU]) rfl ?_
      show oP p e below T70 (mkF m 253 #[oI p0, oI p1, oI p2, oI p3, oI p4, oR b29, oR b50, oI i, oI si, oI j, oI sj, oR b59, oR b65, oI (3 : Int32), oR (sel1 Z i), oI (0 : Int32), oU] []) _
      refine XS.aload X70.here hx rfl (hb hby at_253) rfl rfl ?_
      show oP p e below T70 (mkF m 255 #[oI p0, oI p1, oI p2, oI p3, oI p4, oR b29, oR b50, oI i, oI si, oI j, oI sj, oR b59, oR b65, oI (3 : Int32), oR (sel1 Z i), oI (0 : Int32), oU] [(.ref b59)]) _
      refine XS.aload X70.here hx rfl (hb hby at_255) rfl rfl ?_
      show oP p e below T70 (mkF m 257 #[oI p0, oI p1, oI p2, oI p3, oI p4, oR b29, oR b50, oI i, oI si, oI j, oI sj, oR b59, oR b65, oI (3 : Int32), oR (sel1 Z i), oI (0 : Int32), oU] [(.ref (sel1 Z i)), (.ref b59)]) _
      refine st123.trans ?_
      show oP p e below T123 (mkF m 260 #[oI p0, oI p1, oI p2, oI p3, oI p4, oR b29, oR b50, oI i, oI si, oI j, oI sj, oR b59, oR b65, oI (3 : Int32), oR (sel1 Z i), oI (0 : Int32), oU] [(.int (0 : Int32))]) _
      refine XS.istore X123.here hx rfl (hb hby at_260) rfl (l' := #[oI p0, oI p1, oI p2, oI p3, oI p4, oR b29, oR b50, oI i, oI si, oI j, oI sj, oR b59, oR b65, oI (3 : Int32), oR (sel1 Z i), oI (0 : Int32), oI (0 : Int32)]) rfl ?_
      show oP p e below T123 (mkF m 262 #[oI p0, oI p1, oI p2, oI p3, oI p4, oR b29, oR b50, oI i, oI si, oI j, oI sj, oR b59, oR b65, oI (3 : Int32), oR (sel1 Z i), oI (0 : Int32), oI (0 : Int32)] []) _
      refine XS.iload X123.here hx rfl (hb hby at_262) rfl ?_
      show oP p e below T123 (mkF m 264 #[oI p0, oI p1, oI p2, oI p3, oI p4, oR b29, oR b50, oI i, oI si, oI j, oI sj, oR b59, oR b65, oI (3 : Int32), oR (sel1 Z i), oI (0 : Int32), oI (0 : Int32)] [(.int (3 : Int32))]) _
      refine XS.ifYes X123.here hx rfl (pc0 := 264) (pc' := 292) rfl (hb hby at_264) rfl ((if0 _ _).trans (feq (by decide : ¬ ((3 : Int32) = (0 : Int32)))).2) (by decide) (by decide) ?_
      show oP p e below T123 (mkF m 292 #[oI p0, oI p1, oI p2, oI p3, oI p4, oR b29, oR b50, oI i, oI si, oI j, oI sj, oR b59, oR b65, oI (3 : Int32), oR (sel1 Z i), oI (0 : Int32), oI (0 : Int32)] []) _
      refine XS.iload X123.here hx rfl (hb hby at_292) rfl ?_
      show oP p e below T123 (mkF m 294 #[oI p0, oI p1, oI p2, oI p3, oI p4, oR b29, oR b50, oI i, oI si, oI j, oI sj, oR b59, oR b65, oI (3 : Int32), oR (sel1 Z i), oI (0 : Int32), oI (0 : Int32)] [(.int (0 : Int32))]) _
      refine XS.iload X123.here hx rfl (hb hby at_294) rfl ?_
      show oP p e below T123 (mkF m 296 #[oI p0, oI p1, oI p2, oI p3, oI p4, oR b29, oR b50, oI i, oI si, oI j, oI sj, oR b59, oR b65, oI (3 : Int32), oR (sel1 Z i), oI (0 : Int32), oI (0 : Int32)] [(.int (0 : Int32)), (.int (0 : Int32))]) _
      refine XS.icmpNo X123.here hx rfl (hb hby at_296) rfl (teq (by decide : (0 : Int32) = (0 : Int32))).2 ?_
      show oP p e below T123 (mkF m 299 #[oI p0, oI p1, oI p2, oI p3, oI p4, oR b29, oR b50, oI i, oI si, oI j, oI sj, oR b59, oR b65, oI (3 : Int32), oR (sel1 Z i), oI (0 : Int32), oI (0 : Int32)] []) _
      refine XS.iconst X123.here hx rfl (hb hby at_299) ?_
      show oP p e below T123 (mkF m 300 #[oI p0, oI p1, oI p2, oI p3, oI p4, oR b29, oR b50, oI i, oI si, oI j, oI sj, oR b59, oR b65, oI (3 : Int32), oR (sel1 Z i), oI (0 : Int32), oI (0 : Int32)] [(.int (1 : Int32))]) _
      refine XS.goto X123.here hx rfl (pc0 := 300) (pc' := 304) rfl (hb hby at_300) (by decide) (by decide) ?_
      show oP p e below T123 (mkF m 304 #[oI p0, oI p1, oI p2, oI p3, oI p4, oR b29, oR b50, oI i, oI si, oI j, oI sj, oR b59, oR b65, oI (3 : Int32), oR (sel1 Z i), oI (0 : Int32), oI (0 : Int32)] [(.int (1 : Int32))]) _
      exact retN X123 hx (t := .boolean) Bd.returns (by simp) (hb hby at_304) hr
    · show (some (.int (1 : Int32)) : Option Value) = some (.int (1 : Int32)) ∧ Fr n0 _ ∧ Keep h0 T123.heap []
      exact ⟨rfl, N123, Kc123⟩
set_option maxRecDepth 65536 in
set_option maxHeartbeats 40000000 in
theorem comes_1 {Post : Tables → Env → Array Value → State → Outcome → State → Prop} (hpost : ∀ tb e args s v u, (limb_1_1.after args s (.returned v) u = true ∧ limb_1_2.after args s (.returned v) u = true ∧ True) → ReturnedEndW s (.returned v) u (Jvm.fieldLocs frame_1_writes args s ++ Jvm.arrayLocs frame_1_arrays args s ++ Jvm.staticLocs frame_1_statics s) 24 2176 → Post tb e args s (.returned v) u) :
    ArmFor flags0 classFile x code maxLocals ret World_1 tables_1 room_1 Calls_1 rest_1 Pre_1 Post := by
  intro l hfl _ _ p e ha hc hk s m args below hf hA hF happ hP
  obtain ⟨hcalls, hrest, hpre⟩ := hP
  obtain ⟨-, -, -, hnamed, -, -, -, hat⟩ := (Spec.applies_iff hf).mp happ
  obtain ⟨hg, hn⟩ := and_e (Cond.before_iff.mp (show (Jvm.Cond.and given_1 narrow_1).before args s = true from hpre))
  obtain ⟨g1, g2⟩ := and_e hg
  obtain ⟨g3, g4⟩ := and_e g2
  obtain ⟨g5, g6⟩ := and_e g4
  obtain ⟨g7, g8⟩ := and_e g6
  obtain ⟨g9, g10⟩ := and_e g8
  obtain ⟨w0, w1, w2, w3, w4, rfl⟩ : ∃ w0 w1 w2 w3 w4 : Value, args = #[w0, w1, w2, w3, w4] := by
    have hs : args.size = 5 := by simpa [Cond.value, given_1] using g1
    obtain ⟨L⟩ := args
    match L, hs with
    | [w0, w1, w2, w3, w4], _ => exact ⟨w0, w1, w2, w3, w4, rfl⟩
  have hw := fun d (hd : d ∈ tables_1) => atoms_spec (ws := Jvm.Cond.code x code maxLocals ret :: tables_1) hat d (List.mem_cons_of_mem _ hd)
  have hfit : Fit s := fun {y c} hc i hi => by
    obtain ⟨ha, rfl⟩ := Array.getElem?_eq_some_iff.mp hc
    have q := List.all_eq_true.mp ((Array.all_eq_true_iff_forall_mem.mp hF) _ (Array.getElem_mem ha)) i (List.mem_range.mpr hi)
    simpa [Array.getElem?_eq_getElem hi] using q
  obtain ⟨i0, ei0⟩ := is_v g3
  obtain rfl : w0 = (.int i0) := Option.some.inj ei0
  obtain ⟨i1, ei1⟩ := is_v g5
  obtain rfl : w1 = (.int i1) := Option.some.inj ei1
  obtain ⟨i2, ei2⟩ := is_v g7
  obtain rfl : w2 = (.int i2) := Option.some.inj ei2
  obtain ⟨i3, ei3⟩ := is_v g9
  obtain rfl : w3 = (.int i3) := Option.some.inj ei3
  obtain ⟨i4, ei4⟩ := is_v g10
  obtain rfl : w4 = (.int i4) := Option.some.inj ei4
  obtain ⟨q0, hn0⟩ := and_e hn
  obtain ⟨q1, hn1⟩ := and_e hn0
  obtain ⟨q2, hn2⟩ := and_e hn1
  obtain ⟨q3, hn3⟩ := and_e hn2
  obtain ⟨q4, hn4⟩ := and_e hn3
  obtain ⟨q5, hn5⟩ := and_e hn4
  obtain ⟨q6, hn6⟩ := and_e hn5
  obtain ⟨q7, hn7⟩ := and_e hn6
  obtain ⟨q8, hn8⟩ := and_e hn7
  obtain ⟨q9, hn9⟩ := and_e hn8
  obtain ⟨q10, hn10⟩ := and_e hn9
  obtain ⟨q11, hn11⟩ := and_e hn10
  obtain ⟨q12, hn12⟩ := and_e hn11
  obtain ⟨q13, hn13⟩ := and_e hn12
  obtain ⟨q14, hn14⟩ := and_e hn13
  obtain ⟨q15, hn15⟩ := and_e hn14
  obtain ⟨q16, hn16⟩ := and_e hn15
  have q17 := hn16
  have hS : St s := ⟨(own_sta q0 (Or.inr ⟨(hw _ (List.mem_of_getElem? (i := 3) rfl)), (hw _ (List.mem_of_getElem? (i := 4) rfl))⟩)), (own_exa q0), (own_sta q1 (Or.inr ⟨(hw _ (List.mem_of_getElem? (i := 3) rfl)), (hw _ (List.mem_of_getElem? (i := 7) rfl))⟩)), (own_exa q1), (own_sta q2 (Or.inr ⟨(hw _ (List.mem_of_getElem? (i := 3) rfl)), (hw _ (List.mem_of_getElem? (i := 10) rfl))⟩)), (own_exa q2), (own_sta q3 (Or.inr ⟨(hw _ (List.mem_of_getElem? (i := 3) rfl)), (hw _ (List.mem_of_getElem? (i := 13) rfl))⟩)), (own_exa q3), (own_sta q4 (Or.inr ⟨(hw _ (List.mem_of_getElem? (i := 3) rfl)), (hw _ (List.mem_of_getElem? (i := 16) rfl))⟩)), (own_exa q4), (own_sta q5 (Or.inr ⟨(hw _ (List.mem_of_getElem? (i := 3) rfl)), (hw _ (List.mem_of_getElem? (i := 19) rfl))⟩)), (own_exa q5), (own_sta q6 (Or.inr ⟨(hw _ (List.mem_of_getElem? (i := 3) rfl)), (hw _ (List.mem_of_getElem? (i := 22) rfl))⟩)), (own_exa q6), (own_sta q7 (Or.inr ⟨(hw _ (List.mem_of_getElem? (i := 3) rfl)), (hw _ (List.mem_of_getElem? (i := 25) rfl))⟩)), (own_exa q7), (own_sta q8 (Or.inr ⟨(hw _ (List.mem_of_getElem? (i := 3) rfl)), (hw _ (List.mem_of_getElem? (i := 28) rfl))⟩)), (own_exa q8), (own_sta q9 (Or.inr ⟨(hw _ (List.mem_of_getElem? (i := 3) rfl)), (hw _ (List.mem_of_getElem? (i := 31) rfl))⟩)), (own_exa q9), (own_sta q10 (Or.inr ⟨(hw _ (List.mem_of_getElem? (i := 36) rfl)), (hw _ (List.mem_of_getElem? (i := 37) rfl))⟩)), (own_exa q10), (own_sta q11 (Or.inr ⟨(hw _ (List.mem_of_getElem? (i := 36) rfl)), (hw _ (List.mem_of_getElem? (i := 40) rfl))⟩)), (own_exa q11), (own_sta q12 (Or.inr ⟨(hw _ (List.mem_of_getElem? (i := 36) rfl)), (hw _ (List.mem_of_getElem? (i := 42) rfl))⟩)), (own_exa q12), (own_sta q13 (Or.inr ⟨(hw _ (List.mem_of_getElem? (i := 36) rfl)), (hw _ (List.mem_of_getElem? (i := 44) rfl))⟩)), (own_exa q13), (own_fldI q14), (own_fldI q15), (own_fldI q16), (own_fldI q17)⟩
  obtain ⟨n, o, h1, h2, h3, _, L, rfl, ⟨rfl, N, -⟩, hq⟩ := rm0 l s _ hw hS tables_1 i0 i1 i2 i3 i4 s.heap s.heap.size (Old.start s) p e ha hc hk s m _ below hf ((Spec.applies_iff_loose hf).mp happ).1 ⟨rfl, State.Warmed39.refl s, rfl⟩ trivial
  refine ⟨n, _, h1, h2, h3, hpost _ _ _ _ _ _ ⟨Cond.after_iff.mpr rfl, Cond.after_iff.mpr (eq_i res_at (Term.int_eval (1)) rfl), trivial⟩ ⟨hq.1, hq.2.1, hq.2.2.1, (hq.2.2.2.sift fun y hy => Or.inr (N y hy)).mono (by decide) (by decide)⟩⟩
theorem main_1_1 : Claimed_1_1 := comes_1 fun _ _ _ _ _ _ h hF => ⟨h.1, hF⟩
theorem main_1_2 : Claimed_1_2 := comes_1 fun _ _ _ _ _ _ h hF => ⟨h.2.1, hF⟩
end Jvm.Pilot.@@N@@
namespace Jvm.Pilot.@@N@@
open Jvm Jvm.ClassFile Sem Op Lib Jvm.Free Jvm.Stand Jvm.Pilot.@@N@@.Jvm.D
/-! MADE BY PROGRAM (witnessworld.py) out of the Statement's table words and the real class files: 32 classes; the members and pool entries that the words name. The judged class is class 1, her method 1. -/
namespace start1
open Jvm.ClassFile
def u (s : String) : CpInfo := .utf8 (stringToUtf16 s)
/-- a pool by its gaps: so many unusable entries, then the entry; so many at the end -/
def gap : Nat → List CpInfo → List CpInfo
  | 0, r => r
  | n + 1, r => .unusable :: gap n r
def poolList (es : List (Nat × CpInfo)) (last : Nat) : List CpInfo := es.foldr (fun e r => gap e.1 (e.2 :: r)) (gap last [])
def pool (es : List (Nat × CpInfo)) (last : Nat) : Array CpInfo := ⟨poolList es last⟩
def fileOf (pool : Array CpInfo) (this : Nat) (attrs : Array Attribute := #[]) (ms : Array MethodInfo := #[]) (fl : Nat := 33) (sup : Nat := 0) (ifs : Array Nat := #[]) (fds : Array FieldInfo := #[]) : ClassFile where
  minorVersion := 0
  majorVersion := 65
  constantPool := pool
  accessFlags := fl
  thisClass := this
  superClass := sup
  interfaces := ifs
  fields := fds
  methods := ms
  attributes := attrs
def plain (name : String) (sup : Option ClassId) : Class where
  name := name
  kind := .ordinary
  loader := none
  accessFlags := 33
  super := sup
  interfaces := #[]
  cf := none
  fields := #[]
  methods := #[]
  instanceTypes := #[]
  staticTypes := #[]
  resolved := #[]
  callSites := []
  init := .initialized
  statics := none
  mirror := none

def pool0 : Array CpInfo := pool [(5, u "<init>"), (0, u "()V"), (1, .class_ 10), (1, u "java/lang/Object")] 113

def k0c0 : Code := { maxStack := 0, maxLocals := 1, code := object_method_1_code, exceptionTable := #[], attributes := #[] }
def k0m0 : Method := { name := "<init>", desc := "()V", sig := { parameters := [], returnType := none }, accessFlags := 1, code := some k0c0 }
/-- java/lang/Object -/
def k0 : Class := { plain "java/lang/Object" none with
  accessFlags := 33
  interfaces := #[]
  cf := some (fileOf pool0 8 #[] #[{ accessFlags := 1, nameIndex := 5, descriptorIndex := 6, attributes := #[] }] 33 0 #[] #[])
  fields := #[]
  methods := #[k0m0]
  instanceTypes := #[]
  staticTypes := #[]
  resolved := Array.replicate 124 none
  statics := none }

def pool1 : Array CpInfo := pool [(2, .class_ 4), (1, u "java/lang/Object"), (0, u "<init>"), (0, u "()V"), (0, .class_ 8), (0, u "com/example/tempofold/tempofold/model/Method"), (0, .fieldref 7 10), (0, .nameAndType 11 12), (0, u "FLOW"), (0, u "Lcom/example/tempofold/tempofold/model/Method;"), (0, .fieldref 7 14), (0, .nameAndType 15 12), (0, u "SUM_DAYS"), (0, .fieldref 7 17), (0, .nameAndType 18 12), (0, u "AVERAGE"), (0, .fieldref 7 20), (0, .nameAndType 21 12), (0, u "AVERAGE_DAYS"), (0, .fieldref 7 23), (0, .nameAndType 24 12), (0, u "AVERAGE_DAYS_365"), (0, .fieldref 7 26), (0, .nameAndType 27 12), (0, u "LAST"), (0, .fieldref 7 29), (0, .nameAndType 30 12), (0, u "FIRST"), (0, .fieldref 7 32), (0, .nameAndType 33 12), (0, u "COMPOUND"), (0, .fieldref 7 35), (0, .nameAndType 36 12), (0, u "FILL"), (0, .fieldref 7 38), (0, .nameAndType 39 12), (0, u "EQUAL_ALLOCATION_BALANCE"), (0, .class_ 41), (0, u "com/example/tempofold/tempofold/model/Skip"), (0, .fieldref 40 43), (0, .nameAndType 44 45), (0, u "NONE"), (0, u "Lcom/example/tempofold/tempofold/model/Skip;"), (0, .fieldref 40 47), (0, .nameAndType 48 45), (0, u "MISSING"), (0, .fieldref 40 50), (0, .nameAndType 51 45), (0, u "ZEROS"), (0, .fieldref 40 53), (0, .nameAndType 54 45), (0, u "MISSING_AND_ZEROS"), (0, .integer 2147483647), (0, .class_ 57), (0, u "com/example/tempofold/tempofold/model/Rule"), (0, .methodref 56 59), (0, .nameAndType 5 60), (0, u "(Lcom/example/tempofold/tempofold/model/Method;Lcom/example/tempofold/tempofold/model/Skip;)V"), (0, .methodref 56 62), (0, .nameAndType 63 64), (0, u "equals"), (0, u "(Ljava/lang/Object;)Z"), (0, .class_ 66), (0, u "com/example/tempofold/tempofold/model/RuleEqualsPinLaw"), (2, u "law"), (0, u "(IIIII)Z")] 7

def k1m0 : Method := { name := "<init>", desc := "()V", sig := { parameters := [], returnType := none }, accessFlags := 1, code := none }
def k1c1 : Code := { maxStack := 5, maxLocals := 17, code := code, exceptionTable := #[], attributes := #[] }
def k1m1 : Method := { name := "law", desc := "(IIIII)Z", sig := { parameters := [.int, .int, .int, .int, .int], returnType := some .boolean }, accessFlags := 9, code := some k1c1 }
/-- com/example/tempofold/tempofold/model/RuleEqualsPinLaw -/
def k1 : Class := { plain "com/example/tempofold/tempofold/model/RuleEqualsPinLaw" (some 0) with
  accessFlags := 49
  interfaces := #[]
  cf := some (fileOf pool1 65 #[] #[{ accessFlags := 1, nameIndex := 5, descriptorIndex := 6, attributes := #[] }, { accessFlags := 9, nameIndex := 69, descriptorIndex := 70, attributes := #[] }] 49 2 #[] #[])
  fields := #[]
  methods := #[k1m0, k1m1]
  instanceTypes := #[]
  staticTypes := #[]
  resolved := Array.replicate 78 none
  statics := none }

def pool2 : Array CpInfo := pool [(1, .class_ 2), (0, u "java/lang/constant/Constable"), (0, .class_ 4), (0, u "java/lang/Object")] 6

/-- java/lang/constant/Constable -/
def k2 : Class := { plain "java/lang/constant/Constable" (some 0) with
  accessFlags := 1537
  interfaces := #[]
  cf := some (fileOf pool2 1 #[] #[] 1537 3 #[] #[])
  fields := #[]
  methods := #[]
  instanceTypes := #[]
  staticTypes := #[]
  resolved := Array.replicate 11 none
  statics := none }

def pool3 : Array CpInfo := pool [(1, .class_ 2), (0, u "java/lang/Comparable"), (0, .class_ 4), (0, u "java/lang/Object")] 7

/-- java/lang/Comparable -/
def k3 : Class := { plain "java/lang/Comparable" (some 0) with
  accessFlags := 1537
  interfaces := #[]
  cf := some (fileOf pool3 1 #[] #[] 1537 3 #[] #[])
  fields := #[]
  methods := #[]
  instanceTypes := #[]
  staticTypes := #[]
  resolved := Array.replicate 12 none
  statics := none }

def pool4 : Array CpInfo := pool [(1, .class_ 2), (0, u "java/io/Serializable"), (0, .class_ 4), (0, u "java/lang/Object")] 2

/-- java/io/Serializable -/
def k4 : Class := { plain "java/io/Serializable" (some 0) with
  accessFlags := 1537
  interfaces := #[]
  cf := some (fileOf pool4 1 #[] #[] 1537 3 #[] #[])
  fields := #[]
  methods := #[]
  instanceTypes := #[]
  staticTypes := #[]
  resolved := Array.replicate 7 none
  statics := none }

def pool5 : Array CpInfo := pool [(2, .class_ 4), (1, u "java/lang/Enum"), (0, u "name"), (0, u "Ljava/lang/String;"), (2, u "ordinal"), (0, u "I"), (1, .class_ 14), (1, u "java/lang/Object"), (4, u "hash"), (86, .class_ 108), (1, u "java/lang/Enum$EnumDesc"), (2, .class_ 112), (0, u "java/lang/constant/Constable"), (0, .class_ 114), (0, u "java/lang/Comparable"), (0, .class_ 116), (0, u "java/io/Serializable")] 87

/-- java/lang/Enum -/
def k5 : Class := { plain "java/lang/Enum" (some 0) with
  accessFlags := 1057
  interfaces := #[2, 3, 4]
  cf := some (fileOf pool5 2 #[.nestMembers #[106]] #[] 1057 12 #[111, 113, 115] #[{ accessFlags := 18, nameIndex := 5, descriptorIndex := 6, attributes := #[] }, { accessFlags := 18, nameIndex := 9, descriptorIndex := 10, attributes := #[] }, { accessFlags := 2, nameIndex := 19, descriptorIndex := 10, attributes := #[] }])
  fields := #[{ name := "name", type := (.object "java/lang/String"), accessFlags := 18, slot := 0, constantValue := 0 }, { name := "ordinal", type := .int, accessFlags := 18, slot := 1, constantValue := 0 }, { name := "hash", type := .int, accessFlags := 2, slot := 2, constantValue := 0 }]
  methods := #[]
  instanceTypes := #[(.object "java/lang/String"), .int, .int]
  staticTypes := #[]
  resolved := Array.replicate 204 none
  statics := none }

def pool6 : Array CpInfo := pool [(2, .class_ 4), (1, u "com/example/tempofold/tempofold/model/Named"), (56, .class_ 62), (0, u "java/lang/Object")] 27

/-- com/example/tempofold/tempofold/model/Named -/
def k6 : Class := { plain "com/example/tempofold/tempofold/model/Named" (some 0) with
  accessFlags := 1537
  interfaces := #[]
  cf := some (fileOf pool6 2 #[] #[] 1537 61 #[] #[])
  fields := #[]
  methods := #[]
  instanceTypes := #[]
  staticTypes := #[]
  resolved := Array.replicate 90 none
  statics := none }

def pool7 : Array CpInfo := pool [(1, .class_ 2), (0, u "com/example/tempofold/tempofold/model/Method"), (2, u "FLOW"), (0, u "Lcom/example/tempofold/tempofold/model/Method;"), (2, u "SUM_DAYS"), (2, u "AVERAGE"), (2, u "AVERAGE_DAYS"), (2, u "AVERAGE_DAYS_365"), (2, u "LAST"), (2, u "FIRST"), (2, u "COMPOUND"), (2, u "FILL"), (2, u "EQUAL_ALLOCATION_BALANCE"), (2, u "$VALUES"), (0, u "[Lcom/example/tempofold/tempofold/model/Method;"), (6, .class_ 46), (1, u "java/lang/Enum"), (14, u "names"), (0, u "Ljava/util/List;"), (7, .class_ 72), (1, u "com/example/tempofold/tempofold/model/Named"), (279, .class_ 353), (0, u "com/example/tempofold/tempofold/model/Method$1"), (9, .class_ 364), (0, u "com/example/tempofold/tempofold/model/Method$2"), (6, .class_ 372), (0, u "com/example/tempofold/tempofold/model/Method$3"), (4, .class_ 378), (0, u "com/example/tempofold/tempofold/model/Method$4"), (8, .class_ 388), (0, u "com/example/tempofold/tempofold/model/Method$5"), (8, .class_ 398), (0, u "com/example/tempofold/tempofold/model/Method$6"), (8, .class_ 408), (0, u "com/example/tempofold/tempofold/model/Method$7"), (8, .class_ 418), (0, u "com/example/tempofold/tempofold/model/Method$8"), (6, .class_ 426), (0, u "com/example/tempofold/tempofold/model/Method$9"), (4, .class_ 432), (0, u "com/example/tempofold/tempofold/model/Method$10"), (7, u "MEAN_EXTRA_DECIMALS"), (0, u "I"), (2, u "DOUBLE_ROOT_BITS"), (37, .class_ 483), (0, u "com/example/tempofold/tempofold/model/Method$WeightedMean"), (0, .class_ 485), (0, u "com/example/tempofold/tempofold/model/Method$LastKept"), (0, .class_ 487), (0, u "com/example/tempofold/tempofold/model/Method$FirstKept"), (0, .class_ 489), (0, u "com/example/tempofold/tempofold/model/Method$Compounded"), (0, .class_ 491), (0, u "com/example/tempofold/tempofold/model/Method$Total"), (0, .class_ 493), (0, u "com/example/tempofold/tempofold/model/Method$OneByOne")] 32

/-- com/example/tempofold/tempofold/model/Method -/
def k7 : Class := { plain "com/example/tempofold/tempofold/model/Method" (some 5) with
  accessFlags := 17441
  interfaces := #[6]
  cf := some (fileOf pool7 1 #[.nestMembers #[482, 484, 486, 488, 490, 492, 431, 425, 417, 407, 397, 387, 377, 371, 363, 352]] #[] 17441 44 #[70] #[{ accessFlags := 16409, nameIndex := 5, descriptorIndex := 6, attributes := #[] }, { accessFlags := 16409, nameIndex := 9, descriptorIndex := 6, attributes := #[] }, { accessFlags := 16409, nameIndex := 12, descriptorIndex := 6, attributes := #[] }, { accessFlags := 16409, nameIndex := 15, descriptorIndex := 6, attributes := #[] }, { accessFlags := 16409, nameIndex := 18, descriptorIndex := 6, attributes := #[] }, { accessFlags := 16409, nameIndex := 21, descriptorIndex := 6, attributes := #[] }, { accessFlags := 16409, nameIndex := 24, descriptorIndex := 6, attributes := #[] }, { accessFlags := 16409, nameIndex := 27, descriptorIndex := 6, attributes := #[] }, { accessFlags := 16409, nameIndex := 30, descriptorIndex := 6, attributes := #[] }, { accessFlags := 16409, nameIndex := 33, descriptorIndex := 6, attributes := #[] }, { accessFlags := 26, nameIndex := 440, descriptorIndex := 441, attributes := #[] }, { accessFlags := 26, nameIndex := 444, descriptorIndex := 441, attributes := #[] }, { accessFlags := 18, nameIndex := 61, descriptorIndex := 62, attributes := #[] }, { accessFlags := 4122, nameIndex := 36, descriptorIndex := 37, attributes := #[] }])
  fields := #[{ name := "FLOW", type := (.object "com/example/tempofold/tempofold/model/Method"), accessFlags := 16409, slot := 0, constantValue := 0 }, { name := "SUM_DAYS", type := (.object "com/example/tempofold/tempofold/model/Method"), accessFlags := 16409, slot := 1, constantValue := 0 }, { name := "AVERAGE", type := (.object "com/example/tempofold/tempofold/model/Method"), accessFlags := 16409, slot := 2, constantValue := 0 }, { name := "AVERAGE_DAYS", type := (.object "com/example/tempofold/tempofold/model/Method"), accessFlags := 16409, slot := 3, constantValue := 0 }, { name := "AVERAGE_DAYS_365", type := (.object "com/example/tempofold/tempofold/model/Method"), accessFlags := 16409, slot := 4, constantValue := 0 }, { name := "LAST", type := (.object "com/example/tempofold/tempofold/model/Method"), accessFlags := 16409, slot := 5, constantValue := 0 }, { name := "FIRST", type := (.object "com/example/tempofold/tempofold/model/Method"), accessFlags := 16409, slot := 6, constantValue := 0 }, { name := "COMPOUND", type := (.object "com/example/tempofold/tempofold/model/Method"), accessFlags := 16409, slot := 7, constantValue := 0 }, { name := "FILL", type := (.object "com/example/tempofold/tempofold/model/Method"), accessFlags := 16409, slot := 8, constantValue := 0 }, { name := "EQUAL_ALLOCATION_BALANCE", type := (.object "com/example/tempofold/tempofold/model/Method"), accessFlags := 16409, slot := 9, constantValue := 0 }, { name := "MEAN_EXTRA_DECIMALS", type := .int, accessFlags := 26, slot := 10, constantValue := 0 }, { name := "DOUBLE_ROOT_BITS", type := .int, accessFlags := 26, slot := 11, constantValue := 0 }, { name := "names", type := (.object "java/util/List"), accessFlags := 18, slot := 3, constantValue := 0 }, { name := "$VALUES", type := (.array (.object "com/example/tempofold/tempofold/model/Method")), accessFlags := 4122, slot := 12, constantValue := 0 }]
  methods := #[]
  instanceTypes := #[(.object "java/lang/String"), .int, .int, (.object "java/util/List")]
  staticTypes := #[(.object "com/example/tempofold/tempofold/model/Method"), (.object "com/example/tempofold/tempofold/model/Method"), (.object "com/example/tempofold/tempofold/model/Method"), (.object "com/example/tempofold/tempofold/model/Method"), (.object "com/example/tempofold/tempofold/model/Method"), (.object "com/example/tempofold/tempofold/model/Method"), (.object "com/example/tempofold/tempofold/model/Method"), (.object "com/example/tempofold/tempofold/model/Method"), (.object "com/example/tempofold/tempofold/model/Method"), (.object "com/example/tempofold/tempofold/model/Method"), .int, .int, (.array (.object "com/example/tempofold/tempofold/model/Method"))]
  resolved := Array.replicate 526 none
  statics := some 0 }

def pool8 : Array CpInfo := pool [(2, .class_ 4), (1, u "com/example/tempofold/tempofold/model/Method"), (15, .class_ 21), (0, u "com/example/tempofold/tempofold/model/Method$1")] 36

/-- com/example/tempofold/tempofold/model/Method$1 -/
def k8 : Class := { plain "com/example/tempofold/tempofold/model/Method$1" (some 7) with
  accessFlags := 16432
  interfaces := #[]
  cf := some (fileOf pool8 20 #[.nestHost 2] #[] 16432 2 #[] #[])
  fields := #[]
  methods := #[]
  instanceTypes := #[(.object "java/lang/String"), .int, .int, (.object "java/util/List")]
  staticTypes := #[]
  resolved := Array.replicate 58 none
  statics := none }

def pool9 : Array CpInfo := pool [(2, .class_ 4), (1, u "com/example/tempofold/tempofold/model/Method"), (15, .class_ 21), (0, u "com/example/tempofold/tempofold/model/Method$2")] 39

/-- com/example/tempofold/tempofold/model/Method$2 -/
def k9 : Class := { plain "com/example/tempofold/tempofold/model/Method$2" (some 7) with
  accessFlags := 16432
  interfaces := #[]
  cf := some (fileOf pool9 20 #[.nestHost 2] #[] 16432 2 #[] #[])
  fields := #[]
  methods := #[]
  instanceTypes := #[(.object "java/lang/String"), .int, .int, (.object "java/util/List")]
  staticTypes := #[]
  resolved := Array.replicate 61 none
  statics := none }

def pool10 : Array CpInfo := pool [(2, .class_ 4), (1, u "com/example/tempofold/tempofold/model/Method"), (15, .class_ 21), (0, u "com/example/tempofold/tempofold/model/Method$3")] 33

/-- com/example/tempofold/tempofold/model/Method$3 -/
def k10 : Class := { plain "com/example/tempofold/tempofold/model/Method$3" (some 7) with
  accessFlags := 16432
  interfaces := #[]
  cf := some (fileOf pool10 20 #[.nestHost 2] #[] 16432 2 #[] #[])
  fields := #[]
  methods := #[]
  instanceTypes := #[(.object "java/lang/String"), .int, .int, (.object "java/util/List")]
  staticTypes := #[]
  resolved := Array.replicate 55 none
  statics := none }

def pool11 : Array CpInfo := pool [(2, .class_ 4), (1, u "com/example/tempofold/tempofold/model/Method"), (15, .class_ 21), (0, u "com/example/tempofold/tempofold/model/Method$4")] 35

/-- com/example/tempofold/tempofold/model/Method$4 -/
def k11 : Class := { plain "com/example/tempofold/tempofold/model/Method$4" (some 7) with
  accessFlags := 16432
  interfaces := #[]
  cf := some (fileOf pool11 20 #[.nestHost 2] #[] 16432 2 #[] #[])
  fields := #[]
  methods := #[]
  instanceTypes := #[(.object "java/lang/String"), .int, .int, (.object "java/util/List")]
  staticTypes := #[]
  resolved := Array.replicate 57 none
  statics := none }

def pool12 : Array CpInfo := pool [(2, .class_ 4), (1, u "com/example/tempofold/tempofold/model/Method"), (15, .class_ 21), (0, u "com/example/tempofold/tempofold/model/Method$5")] 35

/-- com/example/tempofold/tempofold/model/Method$5 -/
def k12 : Class := { plain "com/example/tempofold/tempofold/model/Method$5" (some 7) with
  accessFlags := 16432
  interfaces := #[]
  cf := some (fileOf pool12 20 #[.nestHost 2] #[] 16432 2 #[] #[])
  fields := #[]
  methods := #[]
  instanceTypes := #[(.object "java/lang/String"), .int, .int, (.object "java/util/List")]
  staticTypes := #[]
  resolved := Array.replicate 57 none
  statics := none }

def pool13 : Array CpInfo := pool [(2, .class_ 4), (1, u "com/example/tempofold/tempofold/model/Method"), (17, .class_ 23), (0, u "com/example/tempofold/tempofold/model/Method$6")] 15

/-- com/example/tempofold/tempofold/model/Method$6 -/
def k13 : Class := { plain "com/example/tempofold/tempofold/model/Method$6" (some 7) with
  accessFlags := 16432
  interfaces := #[]
  cf := some (fileOf pool13 22 #[.nestHost 2] #[] 16432 2 #[] #[])
  fields := #[]
  methods := #[]
  instanceTypes := #[(.object "java/lang/String"), .int, .int, (.object "java/util/List")]
  staticTypes := #[]
  resolved := Array.replicate 39 none
  statics := none }

def pool14 : Array CpInfo := pool [(2, .class_ 4), (1, u "com/example/tempofold/tempofold/model/Method"), (11, .class_ 17), (0, u "com/example/tempofold/tempofold/model/Method$7")] 15

/-- com/example/tempofold/tempofold/model/Method$7 -/
def k14 : Class := { plain "com/example/tempofold/tempofold/model/Method$7" (some 7) with
  accessFlags := 16432
  interfaces := #[]
  cf := some (fileOf pool14 16 #[.nestHost 2] #[] 16432 2 #[] #[])
  fields := #[]
  methods := #[]
  instanceTypes := #[(.object "java/lang/String"), .int, .int, (.object "java/util/List")]
  staticTypes := #[]
  resolved := Array.replicate 33 none
  statics := none }

def pool15 : Array CpInfo := pool [(2, .class_ 4), (1, u "com/example/tempofold/tempofold/model/Method"), (50, .class_ 57), (1, u "com/example/tempofold/tempofold/model/Method$8")] 43

/-- com/example/tempofold/tempofold/model/Method$8 -/
def k15 : Class := { plain "com/example/tempofold/tempofold/model/Method$8" (some 7) with
  accessFlags := 16432
  interfaces := #[]
  cf := some (fileOf pool15 55 #[.nestHost 2] #[] 16432 2 #[] #[])
  fields := #[]
  methods := #[]
  instanceTypes := #[(.object "java/lang/String"), .int, .int, (.object "java/util/List")]
  staticTypes := #[]
  resolved := Array.replicate 101 none
  statics := none }

def pool16 : Array CpInfo := pool [(2, .class_ 4), (1, u "com/example/tempofold/tempofold/model/Method"), (11, .class_ 17), (0, u "com/example/tempofold/tempofold/model/Method$9")] 14

/-- com/example/tempofold/tempofold/model/Method$9 -/
def k16 : Class := { plain "com/example/tempofold/tempofold/model/Method$9" (some 7) with
  accessFlags := 16432
  interfaces := #[]
  cf := some (fileOf pool16 16 #[.nestHost 2] #[] 16432 2 #[] #[])
  fields := #[]
  methods := #[]
  instanceTypes := #[(.object "java/lang/String"), .int, .int, (.object "java/util/List")]
  staticTypes := #[]
  resolved := Array.replicate 32 none
  statics := none }

def pool17 : Array CpInfo := pool [(2, .class_ 4), (1, u "com/example/tempofold/tempofold/model/Method"), (11, .class_ 17), (0, u "com/example/tempofold/tempofold/model/Method$10")] 14

/-- com/example/tempofold/tempofold/model/Method$10 -/
def k17 : Class := { plain "com/example/tempofold/tempofold/model/Method$10" (some 7) with
  accessFlags := 16432
  interfaces := #[]
  cf := some (fileOf pool17 16 #[.nestHost 2] #[] 16432 2 #[] #[])
  fields := #[]
  methods := #[]
  instanceTypes := #[(.object "java/lang/String"), .int, .int, (.object "java/util/List")]
  staticTypes := #[]
  resolved := Array.replicate 32 none
  statics := none }

def pool18 : Array CpInfo := pool [(1, .class_ 2), (0, u "com/example/tempofold/tempofold/model/Skip"), (2, u "NONE"), (0, u "Lcom/example/tempofold/tempofold/model/Skip;"), (2, u "MISSING"), (2, u "ZEROS"), (2, u "MISSING_AND_ZEROS"), (2, u "$VALUES"), (0, u "[Lcom/example/tempofold/tempofold/model/Skip;"), (6, .class_ 28), (1, u "java/lang/Enum"), (8, u "name"), (0, u "Ljava/lang/String;"), (2, u "missing"), (0, u "Z"), (2, u "zeros"), (7, .class_ 55), (1, u "com/example/tempofold/tempofold/model/Named")] 51

/-- com/example/tempofold/tempofold/model/Skip -/
def k18 : Class := { plain "com/example/tempofold/tempofold/model/Skip" (some 5) with
  accessFlags := 16433
  interfaces := #[6]
  cf := some (fileOf pool18 1 #[] #[] 16433 26 #[53] #[{ accessFlags := 16409, nameIndex := 5, descriptorIndex := 6, attributes := #[] }, { accessFlags := 16409, nameIndex := 9, descriptorIndex := 6, attributes := #[] }, { accessFlags := 16409, nameIndex := 12, descriptorIndex := 6, attributes := #[] }, { accessFlags := 16409, nameIndex := 15, descriptorIndex := 6, attributes := #[] }, { accessFlags := 18, nameIndex := 37, descriptorIndex := 38, attributes := #[] }, { accessFlags := 18, nameIndex := 41, descriptorIndex := 42, attributes := #[] }, { accessFlags := 18, nameIndex := 45, descriptorIndex := 42, attributes := #[] }, { accessFlags := 4122, nameIndex := 18, descriptorIndex := 19, attributes := #[] }])
  fields := #[{ name := "NONE", type := (.object "com/example/tempofold/tempofold/model/Skip"), accessFlags := 16409, slot := 0, constantValue := 0 }, { name := "MISSING", type := (.object "com/example/tempofold/tempofold/model/Skip"), accessFlags := 16409, slot := 1, constantValue := 0 }, { name := "ZEROS", type := (.object "com/example/tempofold/tempofold/model/Skip"), accessFlags := 16409, slot := 2, constantValue := 0 }, { name := "MISSING_AND_ZEROS", type := (.object "com/example/tempofold/tempofold/model/Skip"), accessFlags := 16409, slot := 3, constantValue := 0 }, { name := "name", type := (.object "java/lang/String"), accessFlags := 18, slot := 3, constantValue := 0 }, { name := "missing", type := .boolean, accessFlags := 18, slot := 4, constantValue := 0 }, { name := "zeros", type := .boolean, accessFlags := 18, slot := 5, constantValue := 0 }, { name := "$VALUES", type := (.array (.object "com/example/tempofold/tempofold/model/Skip")), accessFlags := 4122, slot := 4, constantValue := 0 }]
  methods := #[]
  instanceTypes := #[(.object "java/lang/String"), .int, .int, (.object "java/lang/String"), .boolean, .boolean]
  staticTypes := #[(.object "com/example/tempofold/tempofold/model/Skip"), (.object "com/example/tempofold/tempofold/model/Skip"), (.object "com/example/tempofold/tempofold/model/Skip"), (.object "com/example/tempofold/tempofold/model/Skip"), (.array (.object "com/example/tempofold/tempofold/model/Skip"))]
  resolved := Array.replicate 107 none
  statics := some 1 }

def pool19 : Array CpInfo := pool [(1, .methodref 2 3), (0, .class_ 4), (0, .nameAndType 5 6), (0, u "java/lang/Object"), (0, u "<init>"), (0, u "()V"), (0, .class_ 8), (0, u "java/lang/Record")] 13

def k19c0 : Code := { maxStack := 1, maxLocals := 1, code := jdk_30_method_1_code, exceptionTable := #[], attributes := #[] }
def k19m0 : Method := { name := "<init>", desc := "()V", sig := { parameters := [], returnType := none }, accessFlags := 4, code := some k19c0 }
/-- java/lang/Record -/
def k19 : Class := { plain "java/lang/Record" (some 0) with
  accessFlags := 1057
  interfaces := #[]
  cf := some (fileOf pool19 7 #[] #[{ accessFlags := 4, nameIndex := 5, descriptorIndex := 6, attributes := #[] }] 1057 2 #[] #[])
  fields := #[]
  methods := #[k19m0]
  instanceTypes := #[]
  staticTypes := #[]
  resolved := Array.replicate 22 none
  statics := none }

def pool20 : Array CpInfo := pool [(1, .methodref 2 3), (0, .class_ 4), (0, .nameAndType 5 6), (0, u "java/lang/Record"), (0, u "<init>"), (0, u "()V"), (0, .string 8), (0, u "method"), (0, .methodref 10 11), (0, .class_ 12), (0, .nameAndType 13 14), (0, u "java/util/Objects"), (0, u "requireNonNull"), (0, u "(Ljava/lang/Object;Ljava/lang/String;)Ljava/lang/Object;"), (0, .string 16), (0, u "skip"), (0, .fieldref 18 19), (0, .class_ 20), (0, .nameAndType 8 21), (0, u "com/example/tempofold/tempofold/model/Rule"), (0, u "Lcom/example/tempofold/tempofold/model/Method;"), (0, .fieldref 18 23), (0, .nameAndType 16 24), (0, u "Lcom/example/tempofold/tempofold/model/Skip;"), (7, u "(Lcom/example/tempofold/tempofold/model/Method;Lcom/example/tempofold/tempofold/model/Skip;)V"), (26, u "equals"), (0, u "(Ljava/lang/Object;)Z")] 26

def k20c0 : Code := { maxStack := 2, maxLocals := 3, code := prog_67_method_1_code, exceptionTable := #[], attributes := #[] }
def k20m0 : Method := { name := "<init>", desc := "(Lcom/example/tempofold/tempofold/model/Method;Lcom/example/tempofold/tempofold/model/Skip;)V", sig := { parameters := [(.object "com/example/tempofold/tempofold/model/Method"), (.object "com/example/tempofold/tempofold/model/Skip")], returnType := none }, accessFlags := 1, code := some k20c0 }
def k20c1 : Code := { maxStack := 2, maxLocals := 2, code := prog_67_method_4_code, exceptionTable := #[], attributes := #[] }
def k20m1 : Method := { name := "equals", desc := "(Ljava/lang/Object;)Z", sig := { parameters := [(.object "java/lang/Object")], returnType := some .boolean }, accessFlags := 1, code := some k20c1 }
/-- com/example/tempofold/tempofold/model/Rule -/
def k20 : Class := { plain "com/example/tempofold/tempofold/model/Rule" (some 19) with
  accessFlags := 49
  interfaces := #[]
  cf := some (fileOf pool20 18 #[] #[{ accessFlags := 1, nameIndex := 5, descriptorIndex := 32, attributes := #[] }, { accessFlags := 1, nameIndex := 59, descriptorIndex := 60, attributes := #[] }] 49 2 #[] #[{ accessFlags := 18, nameIndex := 8, descriptorIndex := 21, attributes := #[] }, { accessFlags := 18, nameIndex := 16, descriptorIndex := 24, attributes := #[] }])
  fields := #[{ name := "method", type := (.object "com/example/tempofold/tempofold/model/Method"), accessFlags := 18, slot := 0, constantValue := 0 }, { name := "skip", type := (.object "com/example/tempofold/tempofold/model/Skip"), accessFlags := 18, slot := 1, constantValue := 0 }]
  methods := #[k20m0, k20m1]
  instanceTypes := #[(.object "com/example/tempofold/tempofold/model/Method"), (.object "com/example/tempofold/tempofold/model/Skip")]
  staticTypes := #[]
  resolved := Array.replicate 87 none
  statics := none }

def pool21 : Array CpInfo := pool [(2, .class_ 4), (1, u "java/lang/CharSequence"), (42, .class_ 48), (0, u "java/lang/CharSequence$1CodePointIterator"), (10, .class_ 60), (0, u "java/lang/CharSequence$1CharIterator"), (5, .class_ 67), (0, u "java/lang/Object")] 63

/-- java/lang/CharSequence -/
def k21 : Class := { plain "java/lang/CharSequence" (some 0) with
  accessFlags := 1537
  interfaces := #[]
  cf := some (fileOf pool21 2 #[.nestMembers #[47, 59]] #[] 1537 66 #[] #[])
  fields := #[]
  methods := #[]
  instanceTypes := #[]
  staticTypes := #[]
  resolved := Array.replicate 131 none
  statics := none }

def pool22 : Array CpInfo := pool [(1, .class_ 2), (0, u "java/lang/constant/ConstantDesc"), (0, .class_ 4), (0, u "java/lang/Object")] 32

/-- java/lang/constant/ConstantDesc -/
def k22 : Class := { plain "java/lang/constant/ConstantDesc" (some 0) with
  accessFlags := 1537
  interfaces := #[]
  cf := some (fileOf pool22 1 #[] #[] 1537 3 #[] #[])
  fields := #[]
  methods := #[]
  instanceTypes := #[]
  staticTypes := #[]
  resolved := Array.replicate 37 none
  statics := none }

def pool23 : Array CpInfo := pool [(2, .class_ 4), (1, u "java/lang/Object"), (0, u "<init>"), (0, u "()V"), (3, .class_ 12), (1, u "java/lang/String"), (0, u "value"), (0, u "[B"), (2, u "coder"), (0, u "B"), (2, u "hash"), (0, u "I"), (2, u "hashIsZero"), (0, u "Z"), (13, u "COMPACT_STRINGS"), (534, .class_ 576), (0, u "java/lang/CharSequence"), (22, u "CASE_INSENSITIVE_ORDER"), (0, u "Ljava/util/Comparator;"), (500, u "serialPersistentFields"), (0, u "[Ljava/io/ObjectStreamField;"), (0, .class_ 1104), (0, u "java/lang/String$CaseInsensitiveComparator"), (1, .class_ 1107), (0, u "java/io/Serializable"), (0, .class_ 1109), (0, u "java/lang/Comparable"), (0, .class_ 1111), (0, u "java/lang/constant/Constable"), (0, .class_ 1113), (0, u "java/lang/constant/ConstantDesc"), (2, u "serialVersionUID"), (0, u "J"), (3, u "REPL"), (0, u "C"), (2, u "LATIN1"), (1, u "UTF16")] 323

def k23m0 : Method := { name := "<init>", desc := "()V", sig := { parameters := [], returnType := none }, accessFlags := 1, code := none }
/-- java/lang/String -/
def k23 : Class := { plain "java/lang/String" (some 0) with
  accessFlags := 49
  interfaces := #[4, 3, 21, 2, 22]
  cf := some (fileOf pool23 10 #[.nestMembers #[1103]] #[{ accessFlags := 1, nameIndex := 5, descriptorIndex := 6, attributes := #[] }] 49 2 #[1106, 1108, 575, 1110, 1112] #[{ accessFlags := 18, nameIndex := 13, descriptorIndex := 14, attributes := #[] }, { accessFlags := 18, nameIndex := 17, descriptorIndex := 18, attributes := #[] }, { accessFlags := 2, nameIndex := 21, descriptorIndex := 22, attributes := #[] }, { accessFlags := 2, nameIndex := 25, descriptorIndex := 26, attributes := #[] }, { accessFlags := 26, nameIndex := 1116, descriptorIndex := 1117, attributes := #[] }, { accessFlags := 24, nameIndex := 40, descriptorIndex := 26, attributes := #[] }, { accessFlags := 26, nameIndex := 1101, descriptorIndex := 1102, attributes := #[] }, { accessFlags := 26, nameIndex := 1121, descriptorIndex := 1122, attributes := #[] }, { accessFlags := 25, nameIndex := 599, descriptorIndex := 600, attributes := #[] }, { accessFlags := 24, nameIndex := 1125, descriptorIndex := 18, attributes := #[] }, { accessFlags := 24, nameIndex := 1127, descriptorIndex := 18, attributes := #[] }])
  fields := #[{ name := "value", type := (.array .byte), accessFlags := 18, slot := 0, constantValue := 0 }, { name := "coder", type := .byte, accessFlags := 18, slot := 1, constantValue := 0 }, { name := "hash", type := .int, accessFlags := 2, slot := 2, constantValue := 0 }, { name := "hashIsZero", type := .boolean, accessFlags := 2, slot := 3, constantValue := 0 }, { name := "serialVersionUID", type := .long, accessFlags := 26, slot := 0, constantValue := 0 }, { name := "COMPACT_STRINGS", type := .boolean, accessFlags := 24, slot := 1, constantValue := 0 }, { name := "serialPersistentFields", type := (.array (.object "java/io/ObjectStreamField")), accessFlags := 26, slot := 2, constantValue := 0 }, { name := "REPL", type := .char, accessFlags := 26, slot := 3, constantValue := 0 }, { name := "CASE_INSENSITIVE_ORDER", type := (.object "java/util/Comparator"), accessFlags := 25, slot := 4, constantValue := 0 }, { name := "LATIN1", type := .byte, accessFlags := 24, slot := 5, constantValue := 0 }, { name := "UTF16", type := .byte, accessFlags := 24, slot := 6, constantValue := 0 }]
  methods := #[k23m0]
  instanceTypes := #[(.array .byte), .byte, .int, .boolean]
  staticTypes := #[.long, .boolean, (.array (.object "java/io/ObjectStreamField")), .char, (.object "java/util/Comparator"), .byte, .byte]
  resolved := Array.replicate 1451 none
  statics := none }

def pool24 : Array CpInfo := pool [(2, .class_ 4), (1, u "java/lang/Object"), (0, u "<init>"), (0, u "()V"), (35, .class_ 44), (1, u "java/util/Objects"), (0, u "requireNonNull"), (48, u "(Ljava/lang/Object;Ljava/lang/String;)Ljava/lang/Object;")] 89

def k24m0 : Method := { name := "<init>", desc := "()V", sig := { parameters := [], returnType := none }, accessFlags := 2, code := none }
def k24c1 : Code := { maxStack := 3, maxLocals := 2, code := jdk_31_method_11_code, exceptionTable := #[], attributes := #[] }
def k24m1 : Method := { name := "requireNonNull", desc := "(Ljava/lang/Object;Ljava/lang/String;)Ljava/lang/Object;", sig := { parameters := [(.object "java/lang/Object"), (.object "java/lang/String")], returnType := some (.object "java/lang/Object") }, accessFlags := 9, code := some k24c1 }
/-- java/util/Objects -/
def k24 : Class := { plain "java/util/Objects" (some 0) with
  accessFlags := 49
  interfaces := #[]
  cf := some (fileOf pool24 42 #[] #[{ accessFlags := 2, nameIndex := 5, descriptorIndex := 6, attributes := #[] }, { accessFlags := 9, nameIndex := 45, descriptorIndex := 94, attributes := #[] }] 49 2 #[] #[])
  fields := #[]
  methods := #[k24m0, k24m1]
  instanceTypes := #[]
  staticTypes := #[]
  resolved := Array.replicate 184 none
  statics := none }

def pool25 : Array CpInfo := pool [(1, u "java/lang/Cloneable"), (0, .class_ 1), (0, u "java/lang/Object"), (0, .class_ 3)] 3

/-- java/lang/Cloneable -/
def k25 : Class := { plain "java/lang/Cloneable" (some 0) with
  accessFlags := 1537
  interfaces := #[]
  cf := some (fileOf pool25 2 #[] #[] 1537 4 #[] #[])
  fields := #[]
  methods := #[]
  instanceTypes := #[]
  staticTypes := #[]
  resolved := Array.replicate 8 none
  statics := none }

/-- the primitive byte -/
def k26 : Class := { plain "byte" none with kind := .primitive 'B', accessFlags := 0x411 }
/-- [B -/
def k27 : Class := { plain "[B" (some 0) with kind := .array 26 .byte, interfaces := #[25, 4], accessFlags := 1041 }

/-- the primitive int -/
def k28 : Class := { plain "int" none with kind := .primitive 'I', accessFlags := 0x411 }
/-- [I -/
def k29 : Class := { plain "[I" (some 0) with kind := .array 28 .int, interfaces := #[25, 4], accessFlags := 1041 }

/-- [Lcom/example/tempofold/tempofold/model/Method; -/
def k30 : Class := { plain "[Lcom/example/tempofold/tempofold/model/Method;" (some 0) with kind := .array 7 (.object "com/example/tempofold/tempofold/model/Method"), interfaces := #[25, 4], accessFlags := 1041 }

/-- [Lcom/example/tempofold/tempofold/model/Skip; -/
def k31 : Class := { plain "[Lcom/example/tempofold/tempofold/model/Skip;" (some 0) with kind := .array 18 (.object "com/example/tempofold/tempofold/model/Skip"), interfaces := #[25, 4], accessFlags := 1041 }

def heap : Heap := #[{ cls := 7, slots := #[.ref 2, .ref 3, .ref 4, .ref 5, .ref 6, .ref 7, .ref 8, .ref 9, .ref 10, .ref 11, .int 0, .int 0, .null], vm := .statics 7 },
  { cls := 18, slots := #[.ref 12, .ref 13, .ref 14, .ref 15, .null], vm := .statics 18 },
  { cls := 8, slots := #[.null, .int 0, .int 0, .null], vm := .none },
  { cls := 9, slots := #[.null, .int 0, .int 0, .null], vm := .none },
  { cls := 10, slots := #[.null, .int 0, .int 0, .null], vm := .none },
  { cls := 11, slots := #[.null, .int 0, .int 0, .null], vm := .none },
  { cls := 12, slots := #[.null, .int 0, .int 0, .null], vm := .none },
  { cls := 13, slots := #[.null, .int 0, .int 0, .null], vm := .none },
  { cls := 14, slots := #[.null, .int 0, .int 0, .null], vm := .none },
  { cls := 15, slots := #[.null, .int 0, .int 0, .null], vm := .none },
  { cls := 16, slots := #[.null, .int 0, .int 0, .null], vm := .none },
  { cls := 17, slots := #[.null, .int 0, .int 0, .null], vm := .none },
  { cls := 18, slots := #[.null, .int 0, .int 0, .null, .int 0, .int 0], vm := .none },
  { cls := 18, slots := #[.null, .int 1, .int 0, .null, .int 0, .int 0], vm := .none },
  { cls := 18, slots := #[.null, .int 2, .int 0, .null, .int 0, .int 0], vm := .none },
  { cls := 18, slots := #[.null, .int 3, .int 0, .null, .int 0, .int 0], vm := .none }]
def classes : Array Class := #[k0, k1, k2, k3, k4, k5, k6, k7, k8, k9, k10, k11, k12, k13, k14, k15, k16, k17, k18, k19, k20, k21, k22, k23, k24, k25, k26, k27, k28, k29, k30, k31]
def interned : List (Array UInt16 × Addr) := []
def slotsUsed : Nat := 82
def theMethod : MethodId := ⟨1, 1⟩
def args0 : Array Value := #[.int 5, .int 6, .int 7, .int 8, .int 9]
def aboutOver (below : List Frame) : State where
  vm := { classes := classes, interned := interned.toArray }
  heap := heap
  slotsUsed := slotsUsed
  threads := #[{ frames := .invoking theMethod args0 :: below }]
def below0 : List Frame := [.native { method := ⟨0, 0⟩, args := #[] }]
def about1 : State := aboutOver below0
def p0 : Program := .bare "" "" ""
def e0 : Env := launch0.env 0 0 0
theorem w_frames : about1.frames = Frame.invoking theMethod args0 :: below0 := rfl
set_option maxRecDepth 65536 in
theorem w_args : argsFit about1.vm theMethod args0 = true := by decide +kernel
set_option maxRecDepth 65536 in
theorem w_heap : heapFits about1 = true := by decide +kernel
set_option maxRecDepth 65536 in
theorem w_runnable : about1.curStatus? = some .runnable := by decide +kernel
set_option maxRecDepth 65536 in
theorem w_alone : about1.alone = true := by decide +kernel
set_option maxRecDepth 65536 in
theorem w_named : about1.methodNamed? x = some theMethod := by decide +kernel
set_option maxRecDepth 65536 in
theorem w_hears : about1.hears theMethod below0 = true := by decide +kernel
set_option maxRecDepth 65536 in
theorem w_ripe : about1.ripe theMethod args0 below0 = true := by decide +kernel
theorem w_running : about1.status = .running := rfl
set_option maxRecDepth 65536 in
theorem w_room : about1.hasRoom e0.platform room_1 = true :=
  launch0.hasRoom_least _ room_1 (by decide +kernel) (by decide +kernel) (by decide +kernel) (by decide +kernel) (by decide +kernel) (by decide +kernel)
theorem allAtoms_all (ts : List Jvm.Cond) (a : Array Jvm.Value) (st : Jvm.State) : (allAtoms ts).before a st = ts.all (fun c => c.before a st) := by
  induction ts with
  | nil => rfl
  | cons c t ih =>
    show (Jvm.Cond.and c (allAtoms t)).before a st = _
    rw [Jvm.Cond.before_and, ih, List.all_cons]
def words1 : List Jvm.Cond := Jvm.Cond.code x code maxLocals ret :: tables_1
/-- a 'code' word, met by the world's own term for the bytes: nothing is compared byte by byte -/
theorem code_word {y : MethodName} {bytes : ByteArray} {mx : Nat} {rt : Option FieldType} {a : Array Value} {s : State} {m : MethodId} {meth : Method} {c : Code} (h1 : s.methodNamed? y = some m) (h2 : s.vm.method? m = some meth) (h3 : meth.code = some c) (h4 : c.code = bytes)
    (h5 : (c.maxLocals == mx && c.exceptionTable.isEmpty && decide (c.maxStack ≤ mostOperands) && decide (meth.sig.returnType = rt) && !meth.locks && decide (parseMethodDescriptor y.desc = some meth.sig)) = true) : (Jvm.Cond.code y bytes mx rt).before a s = true := by
  simp only [Bool.and_eq_true, beq_iff_eq, Bool.not_eq_true', decide_eq_true_eq] at h5
  obtain ⟨⟨⟨⟨⟨g1, g2⟩, g3⟩, g4⟩, g5⟩, g6⟩ := h5
  simp [Cond.before, Cond.holds, Cond.value, h1, h2, h3, h4, g1, g2, g3, g4, g5, g6]
def isCode : Jvm.Cond → Bool
  | .code _ _ _ _ => true
  | _ => false
theorem all_split {L : List Jvm.Cond} {P : Jvm.Cond → Bool} (h1 : L.all (fun c => isCode c || P c) = true) (h2 : ∀ c ∈ L.filter isCode, P c = true) : L.all P = true := by
  refine List.all_eq_true.mpr fun c hc => ?_
  have h := List.all_eq_true.mp h1 c hc
  rcases Bool.eq_false_or_eq_true (isCode c) with hi | hi
  · exact h2 c (List.mem_filter.mpr ⟨hc, hi⟩)
  · simpa [hi] using h
set_option maxRecDepth 65536 in
theorem w_c0 : (Jvm.Cond.code x code maxLocals ret).before args0 about1 = true := code_word (m := ⟨1, 1⟩) (meth := k1m1) (c := k1c1) (by decide +kernel) rfl rfl rfl (by decide +kernel)
set_option maxRecDepth 65536 in
theorem w_c1 : (Jvm.Cond.code ({ cls := "com/example/tempofold/tempofold/model/Rule", name := "<init>", desc := "(Lcom/example/tempofold/tempofold/model/Method;Lcom/example/tempofold/tempofold/model/Skip;)V" } : Jvm.MethodName) prog_67_method_1_code (3 : Nat) (Option.none : Option Jvm.ClassFile.FieldType)).before args0 about1 = true := code_word (m := ⟨20, 0⟩) (meth := k20m0) (c := k20c0) (by decide +kernel) rfl rfl rfl (by decide +kernel)
set_option maxRecDepth 65536 in
theorem w_c2 : (Jvm.Cond.code ({ cls := "java/lang/Record", name := "<init>", desc := "()V" } : Jvm.MethodName) jdk_30_method_1_code (1 : Nat) (Option.none : Option Jvm.ClassFile.FieldType)).before args0 about1 = true := code_word (m := ⟨19, 0⟩) (meth := k19m0) (c := k19c0) (by decide +kernel) rfl rfl rfl (by decide +kernel)
set_option maxRecDepth 65536 in
theorem w_c3 : (Jvm.Cond.code ({ cls := "java/lang/Object", name := "<init>", desc := "()V" } : Jvm.MethodName) object_method_1_code (1 : Nat) (Option.none : Option Jvm.ClassFile.FieldType)).before args0 about1 = true := code_word (m := ⟨0, 0⟩) (meth := k0m0) (c := k0c0) (by decide +kernel) rfl rfl rfl (by decide +kernel)
set_option maxRecDepth 65536 in
theorem w_c4 : (Jvm.Cond.code ({ cls := "java/util/Objects", name := "requireNonNull", desc := "(Ljava/lang/Object;Ljava/lang/String;)Ljava/lang/Object;" } : Jvm.MethodName) jdk_31_method_11_code (2 : Nat) (Option.some (Jvm.ClassFile.FieldType.object "java/lang/Object"))).before args0 about1 = true := code_word (m := ⟨24, 1⟩) (meth := k24m1) (c := k24c1) (by decide +kernel) rfl rfl rfl (by decide +kernel)
set_option maxRecDepth 65536 in
theorem w_c5 : (Jvm.Cond.code ({ cls := "com/example/tempofold/tempofold/model/Rule", name := "equals", desc := "(Ljava/lang/Object;)Z" } : Jvm.MethodName) prog_67_method_4_code (2 : Nat) (Option.some Jvm.ClassFile.FieldType.boolean)).before args0 about1 = true := code_word (m := ⟨20, 1⟩) (meth := k20m1) (c := k20c1) (by decide +kernel) rfl rfl rfl (by decide +kernel)
def codes1 : List Jvm.Cond := [Jvm.Cond.code x code maxLocals ret, Jvm.Cond.code ({ cls := "com/example/tempofold/tempofold/model/Rule", name := "<init>", desc := "(Lcom/example/tempofold/tempofold/model/Method;Lcom/example/tempofold/tempofold/model/Skip;)V" } : Jvm.MethodName) prog_67_method_1_code (3 : Nat) (Option.none : Option Jvm.ClassFile.FieldType), Jvm.Cond.code ({ cls := "java/lang/Record", name := "<init>", desc := "()V" } : Jvm.MethodName) jdk_30_method_1_code (1 : Nat) (Option.none : Option Jvm.ClassFile.FieldType), Jvm.Cond.code ({ cls := "java/lang/Object", name := "<init>", desc := "()V" } : Jvm.MethodName) object_method_1_code (1 : Nat) (Option.none : Option Jvm.ClassFile.FieldType), Jvm.Cond.code ({ cls := "java/util/Objects", name := "requireNonNull", desc := "(Ljava/lang/Object;Ljava/lang/String;)Ljava/lang/Object;" } : Jvm.MethodName) jdk_31_method_11_code (2 : Nat) (Option.some (Jvm.ClassFile.FieldType.object "java/lang/Object")), Jvm.Cond.code ({ cls := "com/example/tempofold/tempofold/model/Rule", name := "equals", desc := "(Ljava/lang/Object;)Z" } : Jvm.MethodName) prog_67_method_4_code (2 : Nat) (Option.some Jvm.ClassFile.FieldType.boolean)]
set_option maxRecDepth 65536 in
theorem codes_eq : words1.filter isCode = codes1 := rfl
theorem w_codes : ∀ c ∈ words1.filter isCode, c.before args0 about1 = true := by
  rw [codes_eq]
  intro c hc
  simp only [codes1, List.mem_cons, List.not_mem_nil, or_false] at hc
  rcases hc with rfl | rfl | rfl | rfl | rfl | rfl
  · exact w_c0
  · exact w_c1
  · exact w_c2
  · exact w_c3
  · exact w_c4
  · exact w_c5
set_option maxRecDepth 65536 in
theorem w_t1 : (words1.take 24).all (fun c => isCode c || c.before args0 about1) = true := by decide +kernel
set_option maxRecDepth 65536 in
theorem w_t2 : ((words1.drop 24).take 24).all (fun c => isCode c || c.before args0 about1) = true := by decide +kernel
set_option maxRecDepth 65536 in
theorem w_t3 : (((words1.drop 24).drop 24).take 24).all (fun c => isCode c || c.before args0 about1) = true := by decide +kernel
set_option maxRecDepth 65536 in
theorem w_t4 : ((((words1.drop 24).drop 24).drop 24).take 24).all (fun c => isCode c || c.before args0 about1) = true := by decide +kernel
set_option maxRecDepth 65536 in
theorem w_t5 : ((((words1.drop 24).drop 24).drop 24).drop 24).all (fun c => isCode c || c.before args0 about1) = true := by decide +kernel
theorem w_tables : (allAtoms (Jvm.Cond.code x code maxLocals ret :: tables_1)).before args0 about1 = true := by
  rw [allAtoms_all]
  show words1.all (fun c => c.before args0 about1) = true
  refine all_split ?_ w_codes
  rw [← List.take_append_drop 24 words1, List.all_append, w_t1, ← List.take_append_drop 24 (words1.drop 24), List.all_append, w_t2, ← List.take_append_drop 24 ((words1.drop 24).drop 24), List.all_append, w_t3, ← List.take_append_drop 24 (((words1.drop 24).drop 24).drop 24), List.all_append, w_t4, w_t5]
  rfl
set_option maxRecDepth 65536 in
theorem w_case : (Jvm.Cond.and given_1 narrow_1).before args0 about1 = true := by decide +kernel
theorem w_applies : (headSpec (Jvm.Cond.code x code maxLocals ret :: tables_1) room_1).applies x e0.platform about1 = true :=
  (Spec.applies_iff w_frames).mpr ⟨w_running, w_runnable, w_alone, w_named, w_hears, w_ripe, w_room, w_tables⟩
theorem atStart : AtStart classFile x code maxLocals ret World_1 tables_1 room_1 Calls_1 rest_1 Pre_1 launch0 p0 e0 about1 theMethod args0 below0 :=
  ⟨lists_1, trivial, launch0.admits_env _ _ _, launch0.least_env, fairChoices_fair.cas, fairChoices_fair.clock, w_frames, w_args, w_heap, w_applies, trivial, trivial, w_case⟩
end start1
theorem witness_1 : WitnessClaimed_1 := ⟨start1.p0, start1.e0, start1.about1, start1.theMethod, start1.args0, start1.below0, start1.atStart⟩
end Jvm.Pilot.@@N@@
