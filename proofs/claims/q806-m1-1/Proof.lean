import JvmDerived
import JvmDerived.Pilot.@@N@@Statement
import JvmDerived.Pilot.@@N@@Code
set_option linter.unusedVariables false
set_option linter.unusedSimpArgs false
namespace Jvm.RoadKit
open Sem ClassFile Op Lib Jvm.Stand Jvm.Free Jvm.LawKit
section New
variable {p : Program} {l : Launch} {e : Env} {R : Room} {s : State} {m : MethodId} {args : Array Value} {below : List Frame} {meth : Method} {c : Code} {T : State} {locs : List Loc} {cells slots : Nat}
theorem retI (X : Stand p l e R s m args below meth c T locs cells slots) (hx : p.tables.exec = Jvm.exec) {pc : Nat} {Ls : Array Slot} {z : Int32} {rest : List Value} (hret : meth.sig.returnType = some .int) (hd : decode c.code pc = .ok (.ireturn, 1)) {fs : List Frame}
    (hl : ∀ (f : JFrame) (acts : List Action), f.method = m → f.locked = none → f.entered = [] → (doReturn e (T.setTop f) acts (some (.int z))).1 = T.setFrames fs) : Steps p.tables e below (T.setTop (mkF m pc Ls (.int z :: rest))) (T.setFrames fs) := by
  have hm' : T.vm.method? m = some meth := X.method'
  have hn : narrow .int (.int z) = .int z := rfl
  show Steps p.tables e below (T.setTop { method := m, pc := pc, locals := Ls, stack := _ :: rest, locked := none }) _
  jvm_step X.here [X.here.top, hx, hd, hm', hret, hn]
  first | (intro acts; rw [hl _ acts rfl rfl rfl]) | rw [hl _ _ rfl rfl rfl]
  exact Steps.refl _
theorem own_retJ (X : Stand p l e R s m args below meth c T locs cells slots) (hx : p.tables.exec = Jvm.exec) {pc : Nat} {Ls : Array Slot} {z : Int64} {rest : List Value} (hret : meth.sig.returnType = some .long) (hd : decode c.code pc = .ok (.lreturn, 1)) {fs : List Frame}
    (hl : ∀ (f : JFrame) (acts : List Action), f.method = m → f.locked = none → f.entered = [] → (doReturn e (T.setTop f) acts (some (.long z))).1 = T.setFrames fs) : Steps p.tables e below (T.setTop (mkF m pc Ls (.long z :: rest))) (T.setFrames fs) := by
  have hm' : T.vm.method? m = some meth := X.method'
  have hn : narrow .long (.long z) = .long z := rfl
  show Steps p.tables e below (T.setTop { method := m, pc := pc, locals := Ls, stack := _ :: rest, locked := none }) _
  jvm_step X.here [X.here.top, hx, hd, hm', hret, hn]
  first | (intro acts; rw [hl _ acts rfl rfl rfl]) | rw [hl _ _ rfl rfl rfl]
  exact Steps.refl _
theorem own_catV {v : Value} (h : v.isRef = true) : v.category = 1 := by cases v <;> first | rfl | cases h
theorem own_retA (X : Stand p l e R s m args below meth c T locs cells slots) (hx : p.tables.exec = Jvm.exec) {pc : Nat} {Ls : Array Slot} {w : Value} {t : FieldType} {rest : List Value} (hret : meth.sig.returnType = some t) (ht : t.isReference = true) (hw : w.isRef = true) (hd : decode c.code pc = .ok (.areturn, 1)) {fs : List Frame}
    (hl : ∀ (f : JFrame) (acts : List Action), f.method = m → f.locked = none → f.entered = [] → (doReturn e (T.setTop f) acts (some w)).1 = T.setFrames fs) : Steps p.tables e below (T.setTop (mkF m pc Ls (w :: rest))) (T.setFrames fs) := by
  have hm' : T.vm.method? m = some meth := X.method'
  show Steps p.tables e below (T.setTop { method := m, pc := pc, locals := Ls, stack := w :: rest, locked := none }) _
  jvm_step X.here [X.here.top, hx, hd, hm', hret, ht, hw]
  first | (intro acts; rw [hl _ acts rfl rfl rfl]) | rw [hl _ _ rfl rfl rfl]
  exact Steps.refl _
variable {Z : State} {h : Heap}
theorem own_len (X : Stand p l e R s m args below meth c T locs cells slots) (hx : p.tables.exec = Jvm.exec) (hZ : Z.Warmed39 s.vm) (eT : T.heap = h) {a : Addr} {k : ClassId} {ty : FieldType} {z : Int32} {vs : List Value} {dv : Value} (F : Arv Z h a k ty z vs dv) {g : JFrame} (hg : g.method = m) {rest : List Value} (hs : g.stack = .ref a :: rest) (hd : decode c.code g.pc = .ok (.arraylength, 1)) (target : State)
    (hr : Steps p.tables e below (T.setTop { g with pc := g.pc + 1, stack := .int z :: rest }) target) : Steps p.tables e below (T.setTop g) target := by
  obtain ⟨cl, A, -, S, N, -, -⟩ := F
  refine X.arraylength hx (by rw [eT]; exact A.1) (State.isArrayOf_alike hZ.alike A.2.1) hg hs hd _ ?_
  rw [len_of S N]; exact hr
theorem own_aaload (X : Stand p l e R s m args below meth c T locs cells slots) (hx : p.tables.exec = Jvm.exec) (hZ : Z.Warmed39 s.vm) (eT : T.heap = h) {a : Addr} {k : ClassId} {ty : FieldType} {z : Int32} {vs : List Value} {dv : Value} (F : Arv Z h a k ty z vs dv) (hty : ty.isReference = true) {j : Int32} (hj : ¬ j < 0 ∧ j < z) {v : Value} (hv : vs.getD j.toNatClampNeg dv = v) {g : JFrame} (hg : g.method = m) {rest : List Value} (hs : g.stack = .int j :: .ref a :: rest) (hd : decode c.code g.pc = .ok (.aaload, 1)) (target : State)
    (hr : Steps p.tables e below (T.setTop { g with pc := g.pc + 1, stack := v :: rest }) target) : Steps p.tables e below (T.setTop g) target := by
  obtain ⟨cl, A, -, S, N, H, -⟩ := F
  have hin := inb_of S hj
  exact X.aaload hx (by rw [eT]; exact A.1) (State.isArrayOf_alike hZ.alike A.2.1) hty A.2.2 hin (H.at hin hv) hg hs hd _ hr
theorem own_baload (X : Stand p l e R s m args below meth c T locs cells slots) (hx : p.tables.exec = Jvm.exec) (hZ : Z.Warmed39 s.vm) (eT : T.heap = h) {a : Addr} {k : ClassId} {z : Int32} {vs : List Value} {dv : Value} (F : Arv Z h a k .byte z vs dv) {j : Int32} (hj : ¬ j < 0 ∧ j < z) {v : Value} (hv : vs.getD j.toNatClampNeg dv = v) {g : JFrame} (hg : g.method = m) {rest : List Value} (hs : g.stack = .int j :: .ref a :: rest) (hd : decode c.code g.pc = .ok (.baload, 1)) (target : State)
    (hr : Steps p.tables e below (T.setTop { g with pc := g.pc + 1, stack := v :: rest }) target) : Steps p.tables e below (T.setTop g) target := by
  obtain ⟨cl, A, -, S, N, H, -⟩ := F
  have hin := inb_of S hj
  exact X.baloadBytes hx (by rw [eT]; exact A.1) (State.isArrayOf_alike hZ.alike A.2.1) A.2.2 hin (H.at hin hv) hg hs hd _ hr
theorem own_stR (X : Stand p l e R s m args below meth c T locs cells slots) (hx : p.tables.exec = Jvm.exec) (hZ : Z.Warmed39 s.vm) (eT : T.heap = h) {a y : Addr} {k : ClassId} {C : String} {z : Int32} {vs : List Value} {dv : Value} (F : Arv Z h a k (.object C) z vs dv) (O : Ovr Z k C) (I : Ins Z h y C true) {j : Int32} (hj : ¬ j < 0 ∧ j < z) {i : Nat} (hi : j.toNatClampNeg = i) (hl : i < vs.length) {g : JFrame} (hg : g.method = m) {rest : List Value} (hs : g.stack = .ref y :: .int j :: .ref a :: rest) (hd : decode c.code g.pc = .ok (.aastore, 1)) :
    ∃ T' h', Stand p l e R s m args below meth c T' (locs ++ [⟨a, j.toNatClampNeg⟩]) cells slots ∧ T'.heap = h' ∧ Wr h h' a j.toNatClampNeg (.ref y) ∧ Arv Z h' a k (.object C) z (vs.set i (.ref y)) dv ∧ ∀ target, Steps p.tables e below (T'.setTop { g with pc := g.pc + 1, stack := rest }) target → Steps p.tables e below (T.setTop g) target := by
  obtain ⟨cl, A, q, S, N, H, G⟩ := F
  obtain ⟨T', h', X', e', W, st⟩ := stR X hx hZ eT A (inb_of S hj) rfl (Sto.ofV A q O I) hg hs hd
  exact ⟨T', h', X', e', W, Arv.set A q S N H G rfl W i hi hl, st⟩
theorem own_stC (X : Stand p l e R s m args below meth c T locs cells slots) (hx : p.tables.exec = Jvm.exec) (hZ : Z.Warmed39 s.vm) (eT : T.heap = h) {a : Addr} {k : ClassId} {z x : Int32} {vs : List Value} {dv : Value} (F : Arv Z h a k .char z vs dv) {j : Int32} (hj : ¬ j < 0 ∧ j < z) {i : Nat} (hi : j.toNatClampNeg = i) (hl : i < vs.length) {g : JFrame} (hg : g.method = m) {rest : List Value} (hs : g.stack = .int x :: .int j :: .ref a :: rest) (hd : decode c.code g.pc = .ok (.castore, 1)) :
    ∃ T' h', Stand p l e R s m args below meth c T' (locs ++ [⟨a, j.toNatClampNeg⟩]) cells slots ∧ T'.heap = h' ∧ Wr h h' a j.toNatClampNeg (.int (nar .char x)) ∧ Arv Z h' a k .char z (vs.set i (.int (nar .char x))) dv ∧ ∀ target, Steps p.tables e below (T'.setTop { g with pc := g.pc + 1, stack := rest }) target → Steps p.tables e below (T.setTop g) target := by
  obtain ⟨cl, A, q, S, N, H, G⟩ := F
  obtain ⟨T', h', X', e', W, st⟩ := stC X hx hZ eT A (inb_of S hj) hg hs hd
  exact ⟨T', h', X', e', W, Arv.set A q S N H G (fits_nar_char _) W i hi hl, st⟩
theorem own_stB (X : Stand p l e R s m args below meth c T locs cells slots) (hx : p.tables.exec = Jvm.exec) (hZ : Z.Warmed39 s.vm) (eT : T.heap = h) {a : Addr} {k : ClassId} {z x : Int32} {vs : List Value} {dv : Value} (F : Arv Z h a k .byte z vs dv) {j : Int32} (hj : ¬ j < 0 ∧ j < z) {i : Nat} (hi : j.toNatClampNeg = i) (hl : i < vs.length) {g : JFrame} (hg : g.method = m) {rest : List Value} (hs : g.stack = .int x :: .int j :: .ref a :: rest) (hd : decode c.code g.pc = .ok (.bastore, 1)) :
    ∃ T' h', Stand p l e R s m args below meth c T' (locs ++ [⟨a, j.toNatClampNeg⟩]) cells slots ∧ T'.heap = h' ∧ Wr h h' a j.toNatClampNeg (.int (nar .byte x)) ∧ Arv Z h' a k .byte z (vs.set i (.int (nar .byte x))) dv ∧ ∀ target, Steps p.tables e below (T'.setTop { g with pc := g.pc + 1, stack := rest }) target → Steps p.tables e below (T.setTop g) target := by
  obtain ⟨cl, A, q, S, N, H, G⟩ := F
  obtain ⟨T', h', X', e', W, st⟩ := stB X hx hZ eT A (inb_of S hj) hg hs hd
  exact ⟨T', h', X', e', W, Arv.set A q S N H G (fits_nar_byte _) W i hi hl, st⟩
end New
end Jvm.RoadKit
namespace Jvm.Pilot.@@N@@
open Jvm Jvm.ClassFile Sem Op Lib Jvm.Free Jvm.Stand Jvm.LawKit Jvm.RoadKit Bundle Jvm.Pilot.@@N@@.Jvm.D
abbrev oI (x : Int32) : Slot := .val (.int x)
abbrev oJ (x : Int64) : Slot := .val (.long x)
abbrev oR (a : Addr) : Slot := .val (.ref a)
abbrev oN : Slot := .val .null
abbrev oV (v : Value) : Slot := .val v
abbrev oU : Slot := .unset
abbrev oS : Slot := .second
abbrev oP (p : Program) (e : Env) (below : List Frame) (T : State) (g : JFrame) (t : State) : Prop := Steps p.tables e below (T.setTop g) t
def own_sv (Z : State) (C n d : String) : Addr := match (Term.static C n d).eval #[] Z none [] Z with | some (.ref a) => a | _ => 0
theorem own_sv_of {Z : State} {args : Array Value} {C n d : String} {a : Addr} (h : (Term.static C n d).eval args Z none [] Z = some (.ref a)) : (Term.static C n d).eval args Z none [] Z = some (.ref (own_sv Z C n d)) := by
  have h' : (Term.static C n d).eval #[] Z none [] Z = some (.ref a) := h
  rw [h]; unfold own_sv; rw [h']
theorem own_at {Z : State} {args : Array Value} {C n d K : String} (h : (Cond.exactly (Term.static C n d) K).value args Z none Z [] = some true) : (Term.static C n d).eval args Z none [] Z = some (.ref (own_sv Z C n d)) := by
  obtain ⟨a, ha⟩ := exa_v h
  exact own_sv_of ha
theorem own_sta {Z : State} {args : Array Value} {C n d K : String} (h : (Cond.exactly (Term.static C n d) K).value args Z none Z [] = some true) (hi : (Cond.initializedFor C n d).before args Z = true ∨ ((Cond.initialized C).before args Z = true ∧ (Cond.laysStatic C n d).before args Z = true)) : Sta Z Z.heap C n d (.ref (own_sv Z C n d)) := Sta.start (own_at h) hi
theorem own_exa {Z : State} {args : Array Value} {C n d K : String} (h : (Cond.exactly (Term.static C n d) K).value args Z none Z [] = some true) : Exa Z Z.heap (own_sv Z C n d) K := Exa.start (own_at h) h
theorem own_fldV {Z : State} {args : Array Value} {C n d O f fd : String} {v : Value} (h : (Term.field (Term.static C n d) O f fd).eval args Z none [] Z = some v) : Fld Z Z.heap (own_sv Z C n d) O f fd v := by
  obtain ⟨a, ha⟩ := fld_v h
  rw [fld_at (own_sv_of ha)] at h
  exact Fld.start h
theorem own_fldI {Z : State} {args : Array Value} {C n d O f fd : String} {k : Int32} (h : (Cond.eq (Term.field (Term.static C n d) O f fd) (Term.int k)).value args Z none Z [] = some true) : Fld Z Z.heap (own_sv Z C n d) O f fd (.int k) := by
  refine own_fldV (args := args) ?_
  cases hv : (Term.field (Term.static C n d) O f fd).eval args Z none [] Z with
  | none => simp [Cond.value, hv] at h
  | some v => cases v <;> simp_all [Cond.value, Term.eval]
abbrev own_Q (Q : Option Value → Heap → List Loc → Prop) (v : Option Value) (h : Heap) (L : List Loc) : Prop := Q v h L
theorem own_clamp (x : Int32) : x.toNatClampNeg = x.toInt.toNat := rfl
theorem own_and_le (x c : Int32) (hc : 0 ≤ c.toInt) : 0 ≤ (x &&& c).toInt ∧ (x &&& c).toInt ≤ c.toInt := by
  have hm : c.toBitVec.msb = false := by
    cases h : c.toBitVec.msb with
    | false => rfl
    | true =>
      have := BitVec.toInt_neg_of_msb_true h
      rw [Int32.toInt_toBitVec] at this
      omega
  have h : (x &&& c).toBitVec.msb = false := by
    rw [Int32.toBitVec_and, BitVec.msb_and, hm]; simp
  have e1 : (x &&& c).toInt = ((x &&& c).toBitVec.toNat : Int) := by
    rw [← Int32.toInt_toBitVec, BitVec.toInt_eq_toNat_of_msb h]
  have e2 : c.toInt = (c.toBitVec.toNat : Int) := by
    rw [← Int32.toInt_toBitVec, BitVec.toInt_eq_toNat_of_msb hm]
  have h3 : (x &&& c).toBitVec.toNat ≤ c.toBitVec.toNat := by
    rw [Int32.toBitVec_and, BitVec.toNat_and]; exact Nat.and_le_right
  omega
theorem own_rem {x y : Int32} (hx : 0 ≤ x.toInt) (hy : 0 < y.toInt) : (x - (x / y) * y).toInt = x.toInt % y.toInt := by
  have h1 : (x / y).toInt = x.toInt / y.toInt := by
    rw [Int32.toInt_div]
    rw [Int.tdiv_eq_ediv_of_nonneg hx]
    have := Int32.toInt_lt x
    have h2 : 0 ≤ x.toInt / y.toInt := Int.ediv_nonneg hx (by omega)
    have h3 : x.toInt / y.toInt ≤ x.toInt := Int.ediv_le_self _ hx
    apply Int.bmod_eq_of_le <;> omega
  rw [Int32.toInt_sub, Int32.toInt_mul, h1]
  have h2 : 0 ≤ x.toInt / y.toInt * y.toInt := Int.mul_nonneg (Int.ediv_nonneg hx (by omega)) (by omega)
  have h3 : x.toInt / y.toInt * y.toInt ≤ x.toInt := Int.ediv_mul_le _ (by omega)
  have h4 := Int32.toInt_lt x
  rw [Int.bmod_eq_of_le (n := x.toInt / y.toInt * y.toInt) (by omega) (by omega)]
  have h5 : x.toInt - x.toInt / y.toInt * y.toInt = x.toInt % y.toInt := by
    have := Int.emod_add_mul_ediv x.toInt y.toInt
    have h6 : x.toInt / y.toInt * y.toInt = y.toInt * (x.toInt / y.toInt) := Int.mul_comm _ _
    omega
  rw [h5]
  have h6 := Int.emod_nonneg x.toInt (b := y.toInt) (by omega)
  have h7 := Int.emod_lt_of_pos x.toInt hy
  have h8 := Int32.toInt_lt y
  apply Int.bmod_eq_of_le <;> omega
theorem own_mem {i : Int32} {n : Nat} (h0 : 0 ≤ i.toInt) (h1 : i.toInt < n) : ∃ k, k < n ∧ i = Int32.ofNat k := by
  refine ⟨i.toInt.toNat, by omega, ?_⟩
  apply Int32.toInt_inj.mp
  have := Int32.toInt_lt i
  rw [Int32.toInt_ofNat_of_lt (by omega)]
  omega
theorem own_old_le {Z : State} {n0 : Nat} {h : Heap} (O : Old Z n0 h) : n0 ≤ h.size := O.1 ▸ O.2.1
def own_Vals (Z : State) (a : Addr) (ty : FieldType) (z : Int32) (vs : List Value) (dv : Value) : Prop := ∃ cl : Cell, Arr Z Z.heap a cl ty ∧ FitC Z cl ∧ cl.slots.size = z.toNatClampNeg ∧ Has cl vs dv ∧ ∀ i, i < cl.slots.size → fits ty (vs.getD i dv) = true
theorem own_clone {Z : State} {h : Heap} {b : Addr} {cl : Cell} {ty : FieldType} {z : Int32} {vs : List Value} {dv : Value} (A : Arr Z h b (cloneOf cl) ty) (S : cl.slots.size = z.toNatClampNeg) (hz : ¬ z < 0) (H : Has cl vs dv) (G : ∀ i, i < cl.slots.size → fits ty (vs.getD i dv) = true) : Arv Z h b cl.cls ty z vs dv := ⟨_, A, rfl, S, hz, H, G⟩
theorem own_elem {Z : State} {args : Array Value} {C n d C2 n2 d2 : String} {i : Int32} {cl : Cell} {ty : FieldType} {j : Nat} (h : (Cond.eq (Term.elem (Term.static C n d) (Term.int i)) (Term.static C2 n2 d2)).value args Z none Z [] = some true) (ht : (Term.static C2 n2 d2).eval args Z none [] Z = some (.ref (own_sv Z C2 n2 d2))) (A : Arr Z Z.heap (own_sv Z C n d) cl ty) (hj : i.toNatClampNeg = j) : cl.slots[j]? = some (.ref (own_sv Z C2 n2 d2)) := by
  subst hj
  have hi : (Term.int i).eval args Z none [] Z = some (.int i) := Term.int_eval i
  cases hv : (Term.elem (Term.static C n d) (Term.int i)).eval args Z none [] Z with
  | none => simp [Cond.value, hv] at h
  | some w =>
    obtain ⟨⟨x, hx⟩, -⟩ := elem_v hv
    have h2 := (elem_in hv (own_sv_of hx) hi A.1).2
    rw [h2]
    cases w <;> simp_all [Cond.value]
theorem own_getD {P : Value → Prop} {dv : Value} (hd : P dv) : ∀ (vs : List Value) (h : ∀ v ∈ vs, P v) (i : Nat), P (vs.getD i dv)
  | [], _, _ => by simpa using hd
  | v :: vs, h, 0 => h v (List.mem_cons_self ..)
  | v :: vs, h, i + 1 => own_getD hd vs (fun w hw => h w (List.mem_cons_of_mem _ hw)) i
theorem own_vals {Z : State} {args : Array Value} {C n d C2 : String} {k : Int32} {vs : List Value} (hf : Fit Z) (h1 : (Cond.arrayOf (Term.static C n d) (.object C2)).value args Z none Z [] = some true) (h2 : (Cond.eq (Term.length (Term.static C n d)) (Term.int k)).value args Z none Z [] = some true) (hl : k.toNatClampNeg = vs.length) (hk : ¬ k < 0)
    (h3 : ∀ cl, Arr Z Z.heap (own_sv Z C n d) cl (.object C2) → HasL cl 0 vs) (h4 : ∀ v ∈ vs, fits (.object C2) v = true) : own_Vals Z (own_sv Z C n d) (.object C2) k vs .null := by
  obtain ⟨x, hx⟩ := arr_v h1
  have ev := own_sv_of hx
  obtain ⟨cl, A⟩ := Arr.start ev h1
  have hs : cl.slots.size = k.toNatClampNeg := by
    cases hv : (Term.length (Term.static C n d)).eval args Z none [] Z with
    | none => simp [Cond.value, hv] at h2
    | some w =>
      obtain ⟨a, cell, e1, e2, e3⟩ := Term.length_spec hv
      cases ev.symm.trans e1
      have e4 := A.fin (Vm.Alike.refl _)
      cases e4.symm.trans e2
      have hlt : cl.slots.size < 2 ^ 31 := SBG.length_lt ev e4 hv
      subst e3
      have e5 : cl.slots.size.toInt32 = k := by
        have hi : (Term.int k).eval args Z none [] Z = some (.int k) := Term.int_eval k
        simpa [Cond.value, hv, hi] using h2
      rw [← e5]
      have e6 := len_toInt hlt
      simp only [own_clamp]
      omega
  have H := h3 cl A
  refine ⟨cl, A, FitC.start hf A, hs, fun i hi => ?_, fun i _ => own_getD (P := fun v => fits (.object C2) v = true) rfl vs h4 i⟩
  have := HasL.at (dv := .null) vs 0 H i (by omega)
  simpa using this
theorem own_fldN {Z : State} {args : Array Value} {C n d O f fd : String} (h : (Cond.eq (Term.field (Term.static C n d) O f fd) Term.null).value args Z none Z [] = some true) : Fld Z Z.heap (own_sv Z C n d) O f fd .null := own_fldV (args := args) (null_v h)
theorem own_fldS {Z : State} {args : Array Value} {C n d O f fd C2 n2 d2 K2 : String} (h : (Cond.eq (Term.field (Term.static C n d) O f fd) (Term.static C2 n2 d2)).value args Z none Z [] = some true) (h2 : (Cond.exactly (Term.static C2 n2 d2) K2).value args Z none Z [] = some true) : Fld Z Z.heap (own_sv Z C n d) O f fd (.ref (own_sv Z C2 n2 d2)) := by
  refine own_fldV (args := args) ?_
  have e2 := own_at h2
  cases hv : (Term.field (Term.static C n d) O f fd).eval args Z none [] Z with
  | none => simp [Cond.value, hv] at h
  | some v => cases v <;> simp_all [Cond.value]
theorem own_fldL {Z : State} {args : Array Value} {C n d O f fd : String} {k : Int64} (h : (Cond.eq (Term.field (Term.static C n d) O f fd) (Term.long k)).value args Z none Z [] = some true) : Fld Z Z.heap (own_sv Z C n d) O f fd (.long k) := by
  refine own_fldV (args := args) ?_
  cases hv : (Term.field (Term.static C n d) O f fd).eval args Z none [] Z with
  | none => simp [Cond.value, hv] at h
  | some v => cases v <;> simp_all [Cond.value, Term.eval]
theorem own_staI {Z : State} {args : Array Value} {C n d : String} {k : Int32} (h : (Cond.eq (Term.static C n d) (Term.int k)).value args Z none Z [] = some true) (hi : (Cond.initializedFor C n d).before args Z = true ∨ ((Cond.initialized C).before args Z = true ∧ (Cond.laysStatic C n d).before args Z = true)) : Sta Z Z.heap C n d (.int k) := by
  refine Sta.start (args := args) ?_ hi
  cases hv : (Term.static C n d).eval args Z none [] Z with
  | none => simp [Cond.value, hv] at h
  | some v =>
    have hk : (Term.int k).eval args Z none [] Z = some (.int k) := Term.int_eval k
    cases v <;> simp_all [Cond.value]
def own_Cache (Z : State) (a : Addr) (C : String) (n : Nat) : Prop := ∃ cl : Cell, Arr Z Z.heap a cl (.object C) ∧ cl.slots.size = n ∧ ∀ j, j < n → ∃ x, cl.slots[j]? = some (.ref x) ∧ Exa Z Z.heap x C
theorem own_nsroot {Z : State} {a0 : Array Value} {O K : String} {n : Nat} (w : (Cond.noSuperclass O).before a0 Z = true) (wk : (Cond.instantiable K n).before a0 Z = true) (hn : O ≠ K) : NS Z O K := by
  obtain ⟨c, k, h1, h2, h3, -, -⟩ := Cond.noSuperclass_spec w
  obtain ⟨t, kt, g1, -⟩ := Cond.instantiable_spec wk
  have ne := ids_ne h1 g1 hn
  refine ⟨c, t, h1, g1, fun fuel => ?_⟩
  cases fuel with
  | zero => rfl
  | succ f => simp [Vm.isSubclassAux, ne, h2, h3]
theorem own_nsno {Z : State} {a0 : Array Value} {C S K : String} {n : Nat} (w : (Cond.superclass C S).before a0 Z = true) (wk : (Cond.instantiable K n).before a0 Z = true) (m : NS Z C K) (hn : C ≠ K) : ∃ c t, Z.vm.findClass C = some c ∧ Z.vm.findClass K = some t ∧ Z.vm.assignable c t = false := by
  obtain ⟨c, t, h0, g0, n3⟩ := m
  obtain ⟨p, k, kp, h1, h2, h3, h4, h5, -, h7⟩ := Cond.superclass_spec h0 w
  obtain ⟨t', k', g1, g2, g3, g4, -⟩ := Cond.instantiable_spec wk
  cases g0.symm.trans g1
  have g5 : k'.isInterface = false := by
    cases hq : k'.isInterface with
    | false => rfl
    | true => simp [hq] at g4
  have ne := ids_ne h0 g0 hn
  refine ⟨c, t, h0, g0, ?_⟩
  show Z.vm.assignableAux (255 + 1) c t = false
  simp [Vm.assignableAux, ne, h2, g2, h5, g3, g5, Vm.isSubclass, n3]
theorem own_fitsR {v : Value} {C : String} (h : v.isRef = true) : fits (.object C) v = true := by cases v <;> simp_all [Value.isRef, fits]
def own_si (Z : State) (C n d : String) : Int32 := match (Term.static C n d).eval #[] Z none [] Z with | some (.int a) => a | _ => 0
theorem own_si_of {Z : State} {args : Array Value} {C n d : String} (h : (Cond.isInt (Term.static C n d)).value args Z none Z [] = some true) : (Term.static C n d).eval args Z none [] Z = some (.int (own_si Z C n d)) := by
  obtain ⟨x, hx⟩ := is_v h
  have h' : (Term.static C n d).eval #[] Z none [] Z = some (.int x) := hx
  rw [hx]; unfold own_si; rw [h']
theorem own_sti {Z : State} {args : Array Value} {C n d : String} (h : (Cond.isInt (Term.static C n d)).value args Z none Z [] = some true) (hi : (Cond.initializedFor C n d).before args Z = true ∨ ((Cond.initialized C).before args Z = true ∧ (Cond.laysStatic C n d).before args Z = true)) : Sta Z Z.heap C n d (.int (own_si Z C n d)) := Sta.start (own_si_of h) hi
theorem own_stn {Z : State} {args : Array Value} {C n d : String} (h : (Cond.isInt (Term.static C n d)).value args Z none Z [] = some true) (hn : (Cond.not (Cond.eq (Term.static C n d) (Term.int 0))).value args Z none Z [] = some true) : ¬ own_si Z C n d = 0 := by
  have e := own_si_of h
  have h0 : (Term.int 0).eval args Z none [] Z = some (.int 0) := Term.int_eval 0
  have q := not_v hn
  intro z
  rw [z] at e
  simp [Cond.value, e, h0] at q
theorem own_char {c x : Int32} (h : c = (x &&& (255 : Int32))) : ¬ c < 0 ∧ ¬ (255 : Int32) < c := by
  have q := own_and_le x 255 (by decide)
  rw [← h] at q
  have e : (255 : Int32).toInt = 255 := by decide
  have e0 : (0 : Int32).toInt = 0 := by decide
  rw [Int32.lt_iff_toInt_lt, Int32.lt_iff_toInt_lt, e, e0]
  omega
theorem own_narc {c : Int32} (h : ¬ c < 0 ∧ ¬ (255 : Int32) < c) : nar .char c = c := by
  rw [Int32.lt_iff_toInt_lt, Int32.lt_iff_toInt_lt] at h
  have e : (255 : Int32).toInt = 255 := by decide
  have e0 : (0 : Int32).toInt = 0 := by decide
  rw [e, e0] at h
  obtain ⟨k, hk, rfl⟩ := own_mem (i := c) (n := 256) (by omega) (by omega)
  have t : ∀ k : Fin 256, nar .char (Int32.ofNat k.val) = Int32.ofNat k.val := by decide +kernel
  exact t ⟨k, hk⟩
theorem own_hb {cs : List Int32} (h : ∀ c ∈ cs, ¬ c < 0 ∧ ¬ (255 : Int32) < c) : ∀ c ∈ cs, ¬ c < 0 ∧ ¬ (65535 : Int32) < c := fun c hc => by
  have q := h c hc
  refine ⟨q.1, fun z => q.2 ?_⟩
  rw [Int32.lt_iff_toInt_lt] at z ⊢
  have e : (255 : Int32).toInt = 255 := by decide
  have e0 : (65535 : Int32).toInt = 65535 := by decide
  omega
theorem own_eqv {v : Option Value} {cs ds : List Int32} (h : (v = some (.int 1) ∧ cs = ds) ∨ (v = some (.int 0) ∧ ¬ cs = ds)) : v = some (.int (if cs = ds then (1 : Int32) else (0 : Int32))) := by
  rcases h with ⟨h1, h2⟩ | ⟨h1, h2⟩
  · rw [if_pos h2]; exact h1
  · rw [if_neg h2]; exact h1
theorem own_since (s : State) : s.Since s.vm 0 := (State.WarmedH.refl s).since 0
theorem own_rwmono {s t : State} {o : Outcome} {L : List Loc} {k n k' n' : Nat} (h : ReturnedEndW s o t L k n) (hk : k ≤ k') (hn : n ≤ n') : ReturnedEndW s o t L k' n' := ⟨h.1, h.2.1, h.2.2.1, h.2.2.2.mono hk hn⟩
theorem own_cache {Z : State} {args : Array Value} {C n d K : String} {k : Int32} {N : Nat} {rest : Cond} (h1 : (Cond.arrayOf (Term.static C n d) (.object K)).value args Z none Z [] = some true) (h2 : (Cond.eq (Term.length (Term.static C n d)) (Term.int k)).value args Z none Z [] = some true)
    (h3 : (Cond.all (Term.static C n d) (.and (.exactly (.elem (Term.static C n d) (.index 0)) K) rest)).value args Z none Z [] = some true) (hN : k.toNatClampNeg = N) : own_Cache Z (own_sv Z C n d) K N := by
  obtain ⟨x, hx⟩ := arr_v h1
  have ev := own_sv_of hx
  obtain ⟨cl, A⟩ := Arr.start ev h1
  have e4 := A.fin (Vm.Alike.refl _)
  have hs : cl.slots.size = k.toNatClampNeg ∧ cl.slots.size < 2 ^ 31 := by
    cases hv : (Term.length (Term.static C n d)).eval args Z none [] Z with
    | none => simp [Cond.value, hv] at h2
    | some w =>
      obtain ⟨a, cell, e1, e2, e3⟩ := Term.length_spec hv
      cases ev.symm.trans e1
      cases e4.symm.trans e2
      have hlt : cl.slots.size < 2 ^ 31 := SBG.length_lt ev e4 hv
      subst e3
      have e5 : cl.slots.size.toInt32 = k := by
        have hi : (Term.int k).eval args Z none [] Z = some (.int k) := Term.int_eval k
        simpa [Cond.value, hv, hi] using h2
      rw [← e5]
      have e6 := len_toInt hlt
      refine ⟨?_, hlt⟩
      simp only [own_clamp]
      omega
  refine ⟨cl, A, hs.1.trans hN, fun j hj => ?_⟩
  have q := Cond.all_elim ev e4 h3 j (by omega)
  obtain ⟨q1, -⟩ := and_e q
  obtain ⟨y, hy⟩ := exa_v q1
  have ev' : (Term.static C n d).eval args Z none [j] Z = some (.ref (own_sv Z C n d)) := ev
  have hj' : (Term.index 0).eval args Z none [j] Z = some (.int (Int32.ofNat j)) := Term.index_eval _
  have r := (elem_in hy ev' hj' A.1).2
  have e6 : (Int32.ofNat j).toNatClampNeg = j := by
    have := len_toInt (n := j) (by omega)
    simp only [own_clamp]
    have e7 : (Int32.ofNat j).toInt = j := this
    omega
  rw [e6] at r
  exact ⟨y, r, exa_at hy q1⟩
theorem own_cacheix {p : Int32} {n : Nat} {cl : Cell} (h1 : ¬ p < (-128 : Int32)) (h2 : ¬ (127 : Int32) < p) (S : cl.slots.size = 256) : ¬ (p + (128 : Int32) < 0 ∨ cl.slots.size ≤ (p + (128 : Int32)).toNatClampNeg) ∧ (p + (128 : Int32)).toNatClampNeg < 256 := by
  rw [Int32.lt_iff_toInt_lt] at h1 h2 ⊢
  have e1 : (-128 : Int32).toInt = -128 := by decide
  have e2 : (127 : Int32).toInt = 127 := by decide
  have e3 : (0 : Int32).toInt = 0 := by decide
  have e4 : (128 : Int32).toInt = 128 := by decide
  have e5 : (p + (128 : Int32)).toInt = p.toInt + 128 := by
    rw [Int32.toInt_add, e4]
    apply Int.bmod_eq_of_le <;> omega
  simp only [own_clamp]
  omega
theorem own_staA {Z : State} {args : Array Value} {C n d : String} {ty : FieldType} (h : (Cond.arrayOf (Term.static C n d) ty).value args Z none Z [] = some true) (hi : (Cond.initializedFor C n d).before args Z = true ∨ ((Cond.initialized C).before args Z = true ∧ (Cond.laysStatic C n d).before args Z = true)) : Sta Z Z.heap C n d (.ref (own_sv Z C n d)) := by
  obtain ⟨a, ha⟩ := arr_v h
  exact Sta.start (own_sv_of ha) hi
end Jvm.Pilot.@@N@@
namespace Jvm.Pilot.@@N@@
open Jvm Jvm.ClassFile Sem Op Lib Jvm.Free Jvm.Stand Jvm.LawKit Jvm.RoadKit Bundle Jvm.Pilot.@@N@@.Jvm.D
def a__VALUES (Z : State) : Addr := own_sv Z "com/example/meerkat/meerkat/ResponseCode" "$VALUES" "[Lcom/example/meerkat/meerkat/ResponseCode;"
def a_LICENSED (Z : State) : Addr := own_sv Z "com/example/meerkat/meerkat/ResponseCode" "LICENSED" "Lcom/example/meerkat/meerkat/ResponseCode;"
def a_NOT_LICENSED (Z : State) : Addr := own_sv Z "com/example/meerkat/meerkat/ResponseCode" "NOT_LICENSED" "Lcom/example/meerkat/meerkat/ResponseCode;"
def a_LICENSED_OLD_KEY (Z : State) : Addr := own_sv Z "com/example/meerkat/meerkat/ResponseCode" "LICENSED_OLD_KEY" "Lcom/example/meerkat/meerkat/ResponseCode;"
def a_ERROR_NOT_MARKET_MANAGED (Z : State) : Addr := own_sv Z "com/example/meerkat/meerkat/ResponseCode" "ERROR_NOT_MARKET_MANAGED" "Lcom/example/meerkat/meerkat/ResponseCode;"
def a_ERROR_SERVER_FAILURE (Z : State) : Addr := own_sv Z "com/example/meerkat/meerkat/ResponseCode" "ERROR_SERVER_FAILURE" "Lcom/example/meerkat/meerkat/ResponseCode;"
def a_ERROR_OVER_QUOTA (Z : State) : Addr := own_sv Z "com/example/meerkat/meerkat/ResponseCode" "ERROR_OVER_QUOTA" "Lcom/example/meerkat/meerkat/ResponseCode;"
def a_ERROR_CONTACTING_SERVER (Z : State) : Addr := own_sv Z "com/example/meerkat/meerkat/ResponseCode" "ERROR_CONTACTING_SERVER" "Lcom/example/meerkat/meerkat/ResponseCode;"
def a_ERROR_INVALID_PACKAGE_NAME (Z : State) : Addr := own_sv Z "com/example/meerkat/meerkat/ResponseCode" "ERROR_INVALID_PACKAGE_NAME" "Lcom/example/meerkat/meerkat/ResponseCode;"
def a_ERROR_NON_MATCHING_UID (Z : State) : Addr := own_sv Z "com/example/meerkat/meerkat/ResponseCode" "ERROR_NON_MATCHING_UID" "Lcom/example/meerkat/meerkat/ResponseCode;"
def St (Z : State) : Prop := (Sta Z Z.heap "com/example/meerkat/meerkat/ResponseCode" "$VALUES" "[Lcom/example/meerkat/meerkat/ResponseCode;" (.ref (a__VALUES Z))) ∧ (Exa Z Z.heap (a__VALUES Z) "[Lcom/example/meerkat/meerkat/ResponseCode;") ∧ (Sta Z Z.heap "com/example/meerkat/meerkat/ResponseCode" "LICENSED" "Lcom/example/meerkat/meerkat/ResponseCode;" (.ref (a_LICENSED Z))) ∧ (Exa Z Z.heap (a_LICENSED Z) "com/example/meerkat/meerkat/ResponseCode") ∧ (Sta Z Z.heap "com/example/meerkat/meerkat/ResponseCode" "NOT_LICENSED" "Lcom/example/meerkat/meerkat/ResponseCode;" (.ref (a_NOT_LICENSED Z))) ∧ (Exa Z Z.heap (a_NOT_LICENSED Z) "com/example/meerkat/meerkat/ResponseCode") ∧ (Sta Z Z.heap "com/example/meerkat/meerkat/ResponseCode" "LICENSED_OLD_KEY" "Lcom/example/meerkat/meerkat/ResponseCode;" (.ref (a_LICENSED_OLD_KEY Z))) ∧ (Exa Z Z.heap (a_LICENSED_OLD_KEY Z) "com/example/meerkat/meerkat/ResponseCode") ∧ (Sta Z Z.heap "com/example/meerkat/meerkat/ResponseCode" "ERROR_NOT_MARKET_MANAGED" "Lcom/example/meerkat/meerkat/ResponseCode;" (.ref (a_ERROR_NOT_MARKET_MANAGED Z))) ∧ (Exa Z Z.heap (a_ERROR_NOT_MARKET_MANAGED Z) "com/example/meerkat/meerkat/ResponseCode") ∧ (Sta Z Z.heap "com/example/meerkat/meerkat/ResponseCode" "ERROR_SERVER_FAILURE" "Lcom/example/meerkat/meerkat/ResponseCode;" (.ref (a_ERROR_SERVER_FAILURE Z))) ∧ (Exa Z Z.heap (a_ERROR_SERVER_FAILURE Z) "com/example/meerkat/meerkat/ResponseCode") ∧ (Sta Z Z.heap "com/example/meerkat/meerkat/ResponseCode" "ERROR_OVER_QUOTA" "Lcom/example/meerkat/meerkat/ResponseCode;" (.ref (a_ERROR_OVER_QUOTA Z))) ∧ (Exa Z Z.heap (a_ERROR_OVER_QUOTA Z) "com/example/meerkat/meerkat/ResponseCode") ∧ (Sta Z Z.heap "com/example/meerkat/meerkat/ResponseCode" "ERROR_CONTACTING_SERVER" "Lcom/example/meerkat/meerkat/ResponseCode;" (.ref (a_ERROR_CONTACTING_SERVER Z))) ∧ (Exa Z Z.heap (a_ERROR_CONTACTING_SERVER Z) "com/example/meerkat/meerkat/ResponseCode") ∧ (Sta Z Z.heap "com/example/meerkat/meerkat/ResponseCode" "ERROR_INVALID_PACKAGE_NAME" "Lcom/example/meerkat/meerkat/ResponseCode;" (.ref (a_ERROR_INVALID_PACKAGE_NAME Z))) ∧ (Exa Z Z.heap (a_ERROR_INVALID_PACKAGE_NAME Z) "com/example/meerkat/meerkat/ResponseCode") ∧ (Sta Z Z.heap "com/example/meerkat/meerkat/ResponseCode" "ERROR_NON_MATCHING_UID" "Lcom/example/meerkat/meerkat/ResponseCode;" (.ref (a_ERROR_NON_MATCHING_UID Z))) ∧ (Exa Z Z.heap (a_ERROR_NON_MATCHING_UID Z) "com/example/meerkat/meerkat/ResponseCode") ∧ (Fld Z Z.heap (a_LICENSED Z) "com/example/meerkat/meerkat/ResponseCode" "value" "I" (.int (0 : Int32))) ∧ (Fld Z Z.heap (a_NOT_LICENSED Z) "com/example/meerkat/meerkat/ResponseCode" "value" "I" (.int (1 : Int32))) ∧ (Fld Z Z.heap (a_LICENSED_OLD_KEY Z) "com/example/meerkat/meerkat/ResponseCode" "value" "I" (.int (2 : Int32))) ∧ (Fld Z Z.heap (a_ERROR_NOT_MARKET_MANAGED Z) "com/example/meerkat/meerkat/ResponseCode" "value" "I" (.int (3 : Int32))) ∧ (Fld Z Z.heap (a_ERROR_SERVER_FAILURE Z) "com/example/meerkat/meerkat/ResponseCode" "value" "I" (.int (4 : Int32))) ∧ (Fld Z Z.heap (a_ERROR_OVER_QUOTA Z) "com/example/meerkat/meerkat/ResponseCode" "value" "I" (.int (5 : Int32))) ∧ (Fld Z Z.heap (a_ERROR_CONTACTING_SERVER Z) "com/example/meerkat/meerkat/ResponseCode" "value" "I" (.int (257 : Int32))) ∧ (Fld Z Z.heap (a_ERROR_INVALID_PACKAGE_NAME Z) "com/example/meerkat/meerkat/ResponseCode" "value" "I" (.int (258 : Int32))) ∧ (Fld Z Z.heap (a_ERROR_NON_MATCHING_UID Z) "com/example/meerkat/meerkat/ResponseCode" "value" "I" (.int (259 : Int32))) ∧ (own_Vals Z (a__VALUES Z) (.object "com/example/meerkat/meerkat/ResponseCode") (9 : Int32) [(.ref (a_LICENSED Z)), (.ref (a_NOT_LICENSED Z)), (.ref (a_LICENSED_OLD_KEY Z)), (.ref (a_ERROR_NOT_MARKET_MANAGED Z)), (.ref (a_ERROR_SERVER_FAILURE Z)), (.ref (a_ERROR_OVER_QUOTA Z)), (.ref (a_ERROR_CONTACTING_SERVER Z)), (.ref (a_ERROR_INVALID_PACKAGE_NAME Z)), (.ref (a_ERROR_NON_MATCHING_UID Z))] .null)
theorem s_a__VALUES {Z : State} (h : St Z) : Sta Z Z.heap "com/example/meerkat/meerkat/ResponseCode" "$VALUES" "[Lcom/example/meerkat/meerkat/ResponseCode;" (.ref (a__VALUES Z)) := h.1
theorem e_a__VALUES {Z : State} (h : St Z) : Exa Z Z.heap (a__VALUES Z) "[Lcom/example/meerkat/meerkat/ResponseCode;" := h.2.1
theorem s_a_LICENSED {Z : State} (h : St Z) : Sta Z Z.heap "com/example/meerkat/meerkat/ResponseCode" "LICENSED" "Lcom/example/meerkat/meerkat/ResponseCode;" (.ref (a_LICENSED Z)) := h.2.2.1
theorem e_a_LICENSED {Z : State} (h : St Z) : Exa Z Z.heap (a_LICENSED Z) "com/example/meerkat/meerkat/ResponseCode" := h.2.2.2.1
theorem s_a_NOT_LICENSED {Z : State} (h : St Z) : Sta Z Z.heap "com/example/meerkat/meerkat/ResponseCode" "NOT_LICENSED" "Lcom/example/meerkat/meerkat/ResponseCode;" (.ref (a_NOT_LICENSED Z)) := h.2.2.2.2.1
theorem e_a_NOT_LICENSED {Z : State} (h : St Z) : Exa Z Z.heap (a_NOT_LICENSED Z) "com/example/meerkat/meerkat/ResponseCode" := h.2.2.2.2.2.1
theorem s_a_LICENSED_OLD_KEY {Z : State} (h : St Z) : Sta Z Z.heap "com/example/meerkat/meerkat/ResponseCode" "LICENSED_OLD_KEY" "Lcom/example/meerkat/meerkat/ResponseCode;" (.ref (a_LICENSED_OLD_KEY Z)) := h.2.2.2.2.2.2.1
theorem e_a_LICENSED_OLD_KEY {Z : State} (h : St Z) : Exa Z Z.heap (a_LICENSED_OLD_KEY Z) "com/example/meerkat/meerkat/ResponseCode" := h.2.2.2.2.2.2.2.1
theorem s_a_ERROR_NOT_MARKET_MANAGED {Z : State} (h : St Z) : Sta Z Z.heap "com/example/meerkat/meerkat/ResponseCode" "ERROR_NOT_MARKET_MANAGED" "Lcom/example/meerkat/meerkat/ResponseCode;" (.ref (a_ERROR_NOT_MARKET_MANAGED Z)) := h.2.2.2.2.2.2.2.2.1
theorem e_a_ERROR_NOT_MARKET_MANAGED {Z : State} (h : St Z) : Exa Z Z.heap (a_ERROR_NOT_MARKET_MANAGED Z) "com/example/meerkat/meerkat/ResponseCode" := h.2.2.2.2.2.2.2.2.2.1
theorem s_a_ERROR_SERVER_FAILURE {Z : State} (h : St Z) : Sta Z Z.heap "com/example/meerkat/meerkat/ResponseCode" "ERROR_SERVER_FAILURE" "Lcom/example/meerkat/meerkat/ResponseCode;" (.ref (a_ERROR_SERVER_FAILURE Z)) := h.2.2.2.2.2.2.2.2.2.2.1
theorem e_a_ERROR_SERVER_FAILURE {Z : State} (h : St Z) : Exa Z Z.heap (a_ERROR_SERVER_FAILURE Z) "com/example/meerkat/meerkat/ResponseCode" := h.2.2.2.2.2.2.2.2.2.2.2.1
theorem s_a_ERROR_OVER_QUOTA {Z : State} (h : St Z) : Sta Z Z.heap "com/example/meerkat/meerkat/ResponseCode" "ERROR_OVER_QUOTA" "Lcom/example/meerkat/meerkat/ResponseCode;" (.ref (a_ERROR_OVER_QUOTA Z)) := h.2.2.2.2.2.2.2.2.2.2.2.2.1
theorem e_a_ERROR_OVER_QUOTA {Z : State} (h : St Z) : Exa Z Z.heap (a_ERROR_OVER_QUOTA Z) "com/example/meerkat/meerkat/ResponseCode" := h.2.2.2.2.2.2.2.2.2.2.2.2.2.1
theorem s_a_ERROR_CONTACTING_SERVER {Z : State} (h : St Z) : Sta Z Z.heap "com/example/meerkat/meerkat/ResponseCode" "ERROR_CONTACTING_SERVER" "Lcom/example/meerkat/meerkat/ResponseCode;" (.ref (a_ERROR_CONTACTING_SERVER Z)) := h.2.2.2.2.2.2.2.2.2.2.2.2.2.2.1
theorem e_a_ERROR_CONTACTING_SERVER {Z : State} (h : St Z) : Exa Z Z.heap (a_ERROR_CONTACTING_SERVER Z) "com/example/meerkat/meerkat/ResponseCode" := h.2.2.2.2.2.2.2.2.2.2.2.2.2.2.2.1
theorem s_a_ERROR_INVALID_PACKAGE_NAME {Z : State} (h : St Z) : Sta Z Z.heap "com/example/meerkat/meerkat/ResponseCode" "ERROR_INVALID_PACKAGE_NAME" "Lcom/example/meerkat/meerkat/ResponseCode;" (.ref (a_ERROR_INVALID_PACKAGE_NAME Z)) := h.2.2.2.2.2.2.2.2.2.2.2.2.2.2.2.2.1
theorem e_a_ERROR_INVALID_PACKAGE_NAME {Z : State} (h : St Z) : Exa Z Z.heap (a_ERROR_INVALID_PACKAGE_NAME Z) "com/example/meerkat/meerkat/ResponseCode" := h.2.2.2.2.2.2.2.2.2.2.2.2.2.2.2.2.2.1
theorem s_a_ERROR_NON_MATCHING_UID {Z : State} (h : St Z) : Sta Z Z.heap "com/example/meerkat/meerkat/ResponseCode" "ERROR_NON_MATCHING_UID" "Lcom/example/meerkat/meerkat/ResponseCode;" (.ref (a_ERROR_NON_MATCHING_UID Z)) := h.2.2.2.2.2.2.2.2.2.2.2.2.2.2.2.2.2.2.1
theorem e_a_ERROR_NON_MATCHING_UID {Z : State} (h : St Z) : Exa Z Z.heap (a_ERROR_NON_MATCHING_UID Z) "com/example/meerkat/meerkat/ResponseCode" := h.2.2.2.2.2.2.2.2.2.2.2.2.2.2.2.2.2.2.2.1
theorem f_a_LICENSED_value {Z : State} (h : St Z) : Fld Z Z.heap (a_LICENSED Z) "com/example/meerkat/meerkat/ResponseCode" "value" "I" (.int (0 : Int32)) := h.2.2.2.2.2.2.2.2.2.2.2.2.2.2.2.2.2.2.2.2.1
theorem f_a_NOT_LICENSED_value {Z : State} (h : St Z) : Fld Z Z.heap (a_NOT_LICENSED Z) "com/example/meerkat/meerkat/ResponseCode" "value" "I" (.int (1 : Int32)) := h.2.2.2.2.2.2.2.2.2.2.2.2.2.2.2.2.2.2.2.2.2.1
theorem f_a_LICENSED_OLD_KEY_value {Z : State} (h : St Z) : Fld Z Z.heap (a_LICENSED_OLD_KEY Z) "com/example/meerkat/meerkat/ResponseCode" "value" "I" (.int (2 : Int32)) := h.2.2.2.2.2.2.2.2.2.2.2.2.2.2.2.2.2.2.2.2.2.2.1
theorem f_a_ERROR_NOT_MARKET_MANAGED_value {Z : State} (h : St Z) : Fld Z Z.heap (a_ERROR_NOT_MARKET_MANAGED Z) "com/example/meerkat/meerkat/ResponseCode" "value" "I" (.int (3 : Int32)) := h.2.2.2.2.2.2.2.2.2.2.2.2.2.2.2.2.2.2.2.2.2.2.2.1
theorem f_a_ERROR_SERVER_FAILURE_value {Z : State} (h : St Z) : Fld Z Z.heap (a_ERROR_SERVER_FAILURE Z) "com/example/meerkat/meerkat/ResponseCode" "value" "I" (.int (4 : Int32)) := h.2.2.2.2.2.2.2.2.2.2.2.2.2.2.2.2.2.2.2.2.2.2.2.2.1
theorem f_a_ERROR_OVER_QUOTA_value {Z : State} (h : St Z) : Fld Z Z.heap (a_ERROR_OVER_QUOTA Z) "com/example/meerkat/meerkat/ResponseCode" "value" "I" (.int (5 : Int32)) := h.2.2.2.2.2.2.2.2.2.2.2.2.2.2.2.2.2.2.2.2.2.2.2.2.2.1
theorem f_a_ERROR_CONTACTING_SERVER_value {Z : State} (h : St Z) : Fld Z Z.heap (a_ERROR_CONTACTING_SERVER Z) "com/example/meerkat/meerkat/ResponseCode" "value" "I" (.int (257 : Int32)) := h.2.2.2.2.2.2.2.2.2.2.2.2.2.2.2.2.2.2.2.2.2.2.2.2.2.2.1
theorem f_a_ERROR_INVALID_PACKAGE_NAME_value {Z : State} (h : St Z) : Fld Z Z.heap (a_ERROR_INVALID_PACKAGE_NAME Z) "com/example/meerkat/meerkat/ResponseCode" "value" "I" (.int (258 : Int32)) := h.2.2.2.2.2.2.2.2.2.2.2.2.2.2.2.2.2.2.2.2.2.2.2.2.2.2.2.1
theorem f_a_ERROR_NON_MATCHING_UID_value {Z : State} (h : St Z) : Fld Z Z.heap (a_ERROR_NON_MATCHING_UID Z) "com/example/meerkat/meerkat/ResponseCode" "value" "I" (.int (259 : Int32)) := h.2.2.2.2.2.2.2.2.2.2.2.2.2.2.2.2.2.2.2.2.2.2.2.2.2.2.2.2.1
theorem v_a__VALUES {Z : State} (h : St Z) : own_Vals Z (a__VALUES Z) (.object "com/example/meerkat/meerkat/ResponseCode") (9 : Int32) [(.ref (a_LICENSED Z)), (.ref (a_NOT_LICENSED Z)), (.ref (a_LICENSED_OLD_KEY Z)), (.ref (a_ERROR_NOT_MARKET_MANAGED Z)), (.ref (a_ERROR_SERVER_FAILURE Z)), (.ref (a_ERROR_OVER_QUOTA Z)), (.ref (a_ERROR_CONTACTING_SERVER Z)), (.ref (a_ERROR_INVALID_PACKAGE_NAME Z)), (.ref (a_ERROR_NON_MATCHING_UID Z))] .null := h.2.2.2.2.2.2.2.2.2.2.2.2.2.2.2.2.2.2.2.2.2.2.2.2.2.2.2.2.2
theorem d3_0 : decode prog_37_method_1_code 0 = .ok (.getstatic 31, 3) := by decide +kernel
theorem d3_3 : decode prog_37_method_1_code 3 = .ok (.invokevirtual 35, 3) := by decide +kernel
theorem d3_6 : decode prog_37_method_1_code 6 = .ok (.checkcast 36, 3) := by decide +kernel
theorem d3_9 : decode prog_37_method_1_code 9 = .ok (.areturn, 1) := by decide +kernel
theorem ef_3 (m : MethodId)  : entryFrame m #[] 0 = mkF m 0 #[] [] := by first | (simp [entryFrame, mkF, argsToLocals, Value.category]; done) | rfl
theorem pn_0 : plainName "com/example/meerkat/meerkat/ResponseCode" = true := by first | (simp [plainName, overriddenIn]; done) | decide +kernel
set_option maxRecDepth 65536 in
set_option maxHeartbeats 40000000 in
theorem rm3 (l : Launch) (Z : State) (a0 : Array Value) (hw : ∀ d ∈ tables_1, d.before a0 Z = true) (hS : St Z) (ws : List Jvm.Cond)  (h0 : Heap) (n0 : Nat) (O0 : Old Z n0 h0) :
    MetFree l (⟨"com/example/meerkat/meerkat/ResponseCode", "values", "()[Lcom/example/meerkat/meerkat/ResponseCode;"⟩ : MethodName) (head1 (Jvm.Cond.code (⟨"com/example/meerkat/meerkat/ResponseCode", "values", "()[Lcom/example/meerkat/meerkat/ResponseCode;"⟩ : MethodName) prog_37_method_1_code 0 (some (.array (.object "com/example/meerkat/meerkat/ResponseCode"))) :: ws) ({ frames := 1, cells := 1, slots := 9, locals := 14 } : Room)) (fun a U => a = #[] ∧ Z.Warmed39 U.vm ∧ U.heap = h0) (fun _ _ _ _ _ => True) (fun _ U o U' => ∃ v L, o = .returned v ∧ own_Q (fun v hE L => ∃ (b : Addr), ∃ (kb : ClassId), v = some (.ref b) ∧ Fr n0 L ∧ Keep h0 hE [] ∧ h0.size ≤ b ∧ Arv Z hE b kb (.object "com/example/meerkat/meerkat/ResponseCode") (9 : Int32) [(.ref (a_LICENSED Z)), (.ref (a_NOT_LICENSED Z)), (.ref (a_LICENSED_OLD_KEY Z)), (.ref (a_ERROR_NOT_MARKET_MANAGED Z)), (.ref (a_ERROR_SERVER_FAILURE Z)), (.ref (a_ERROR_OVER_QUOTA Z)), (.ref (a_ERROR_CONTACTING_SERVER Z)), (.ref (a_ERROR_INVALID_PACKAGE_NAME Z)), (.ref (a_ERROR_NON_MATCHING_UID Z))] .null) v U'.heap L ∧ FrameEnd U o U' L ({ frames := 1, cells := 1, slots := 9, locals := 14 } : Room).cells ({ frames := 1, cells := 1, slots := 9, locals := 14 } : Room).slots) := by
  refine MetFree.of_bodySF (plainFor_of_name pn_0) hisR ?_
  intro p e s m args below meth c s₁ Bd hml0 hP hK
  obtain ⟨rfl, hZ, hh⟩ := hP
  have hx := Bd.exec
  have hby := Bd.bytes
  have hml : c.maxLocals = 0 := hml0
  have hown : s.vm.findClass "com/example/meerkat/meerkat/ResponseCode" = some m.cls := findClass_of_methodNamed Bd.named
  have hnm := (name_of_methodNamed Bd.named Bd.method).1
  have X0 : Stand p l e ({ frames := 1, cells := 1, slots := 9, locals := 14 } : Room) s m #[] below meth c s₁ [] 0 0 := Stand.of_body Bd
  have e0 : s₁.heap = h0 := by rw [← hh, Bd.state]; rfl
  have N0 := Fr.nil n0
  have pre0 : ∀ t, Steps p.tables e below (s₁.setTop (mkF m 0 #[] [])) t → Steps p.tables e below (s₁.setTop (entryFrame m #[] 0)) t := fun t k => castTop (ef_3 m ) k
  obtain ⟨cl, Ac, Fc, Sc, Hc, Gc⟩ := v_a__VALUES hS
  obtain ⟨T1, X1, e1, st1⟩ := getS2 X0 hx hZ hown (host := "") (Or.inl (hw _ (List.mem_of_getElem? (i := 11) rfl))) Via.refl e0 ((s_a__VALUES hS).ext O0.2) (g := (mkF m 0 #[] [])) rfl (hb hby d3_0)
  obtain ⟨T2, h2, X2, e2, E2, A2, Ex2, st2⟩ := cloneA X1 hx hZ hown (hw _ (List.mem_of_getElem? (i := 13) rfl)) (hw _ (List.mem_of_getElem? (i := 14) rfl)) (hw _ (List.mem_of_getElem? (i := 18) rfl)) (hw _ (List.mem_of_getElem? (i := 16) rfl)) (hw _ (List.mem_of_getElem? (i := 17) rfl)) (hw _ (List.mem_of_getElem? (i := 19) rfl)) e1 ((Ac).ext O0.2) ((e_a__VALUES hS).ext O0.2) Fc (g := (mkF m 3 #[] [(.ref (a__VALUES Z))])) rfl (by rw [hml]; rfl) rfl (hb hby d3_3) (by decide) (W := 0) (cap := 9) (by show 2 * 0 + _ ≤ _; exact Nat.le_of_eq rfl) (by decide) (Nat.le_of_eq Sc) (by decide) (by decide)
  obtain ⟨b2, g2⟩ : ∃ z, z = h0.size := ⟨_, rfl⟩
  have g_b2 : n0 ≤ b2 := Nat.le_trans (own_old_le O0) (Nat.le_of_eq g2.symm)
  have sz_b2 : h0.size ≤ b2 := Nat.le_trans (Keep.refl h0 []).1 (Nat.le_of_eq g2.symm)
  rw [← g2] at A2 Ex2 st2
  have O2 := O0.ext E2
  have Kc2 := (Keep.refl h0 []).ext E2
  have V2 : Arv Z h2 b2 cl.cls (.object "com/example/meerkat/meerkat/ResponseCode") (9 : Int32) [(.ref (a_LICENSED Z)), (.ref (a_NOT_LICENSED Z)), (.ref (a_LICENSED_OLD_KEY Z)), (.ref (a_ERROR_NOT_MARKET_MANAGED Z)), (.ref (a_ERROR_SERVER_FAILURE Z)), (.ref (a_ERROR_OVER_QUOTA Z)), (.ref (a_ERROR_CONTACTING_SERVER Z)), (.ref (a_ERROR_INVALID_PACKAGE_NAME Z)), (.ref (a_ERROR_NON_MATCHING_UID Z))] .null := own_clone A2 Sc (by decide) Hc Gc
  obtain ⟨T3, X3, e3, st3⟩ := castY X2 hx hZ hown (hw _ (List.mem_of_getElem? (i := 30) rfl)) e2 (Ins.of_exa Ex2 (hw _ (List.mem_of_getElem? (i := 31) rfl))) (g := (mkF m 6 #[] [(.ref b2)])) rfl rfl (hb hby d3_6)
  obtain ⟨fs, hr, hrun, hended, hW, hsame⟩ := X3.leave (v := some (.ref b2)) (fun h => by rw [Bd.returns] at h; cases h)
  refine ⟨_, _, pre0 _ ?_, hrun, hended, _, _, rfl, ?_, ⟨_, rfl⟩, hW, hsame.mono (by decide) (by decide)⟩
  · show oP p e below s₁ (mkF m 0 #[] []) _
    refine st1 _ ?_
    show oP p e below T1 (mkF m 3 #[] [(.ref (a__VALUES Z))]) _
    refine st2 _ ?_
    show oP p e below T2 (mkF m 6 #[] [(.ref b2)]) _
    refine st3 _ ?_
    show oP p e below T3 (mkF m 9 #[] [(.ref b2)]) _
    exact own_retA X3 hx Bd.returns rfl rfl (hb hby d3_9) hr
  · show ∃ (b : Addr), ∃ (kb : ClassId), (some (.ref b2) : Option Value) = some (.ref b) ∧ Fr n0 _ ∧ Keep h0 T3.heap [] ∧ h0.size ≤ b ∧ Arv Z T3.heap b kb (.object "com/example/meerkat/meerkat/ResponseCode") (9 : Int32) [(.ref (a_LICENSED Z)), (.ref (a_NOT_LICENSED Z)), (.ref (a_LICENSED_OLD_KEY Z)), (.ref (a_ERROR_NOT_MARKET_MANAGED Z)), (.ref (a_ERROR_SERVER_FAILURE Z)), (.ref (a_ERROR_OVER_QUOTA Z)), (.ref (a_ERROR_CONTACTING_SERVER Z)), (.ref (a_ERROR_INVALID_PACKAGE_NAME Z)), (.ref (a_ERROR_NON_MATCHING_UID Z))] .null
    rw [e3]
    exact ⟨b2, cl.cls, rfl, N0, Kc2, sz_b2, V2⟩
theorem d1_0 : decode method_3_code 0 = .ok (.iload 4, 2) := by decide +kernel
theorem d1_2 : decode method_3_code 2 = .ok (.bipush 7, 2) := by decide +kernel
theorem d1_4 : decode method_3_code 4 = .ok (.iand, 1) := by decide +kernel
theorem d1_5 : decode method_3_code 5 = .ok (.istore 5, 2) := by decide +kernel
theorem d1_7 : decode method_3_code 7 = .ok (.iload 5, 2) := by decide +kernel
theorem d1_9 : decode method_3_code 9 = .ok (.ifCond .ne 5, 3) := by decide +kernel
theorem d1_12 : decode method_3_code 12 = .ok (.lload_n 0, 1) := by decide +kernel
theorem d1_13 : decode method_3_code 13 = .ok (.lreturn, 1) := by decide +kernel
theorem d1_14 : decode method_3_code 14 = .ok (.iload 5, 2) := by decide +kernel
theorem d1_16 : decode method_3_code 16 = .ok (.iconst 1, 1) := by decide +kernel
theorem d1_17 : decode method_3_code 17 = .ok (.if_icmp .ne 9, 3) := by decide +kernel
theorem d1_20 : decode method_3_code 20 = .ok (.lload_n 2, 1) := by decide +kernel
theorem d1_21 : decode method_3_code 21 = .ok (.ldc2_w 51, 3) := by decide +kernel
theorem d1_24 : decode method_3_code 24 = .ok (.land, 1) := by decide +kernel
theorem d1_25 : decode method_3_code 25 = .ok (.lreturn, 1) := by decide +kernel
theorem d1_26 : decode method_3_code 26 = .ok (.iload 5, 2) := by decide +kernel
theorem d1_28 : decode method_3_code 28 = .ok (.iconst 2, 1) := by decide +kernel
theorem d1_29 : decode method_3_code 29 = .ok (.if_icmp .ne 13, 3) := by decide +kernel
theorem d1_32 : decode method_3_code 32 = .ok (.ldc2_w 53, 3) := by decide +kernel
theorem d1_35 : decode method_3_code 35 = .ok (.lload_n 2, 1) := by decide +kernel
theorem d1_36 : decode method_3_code 36 = .ok (.ldc2_w 51, 3) := by decide +kernel
theorem d1_39 : decode method_3_code 39 = .ok (.land, 1) := by decide +kernel
theorem d1_40 : decode method_3_code 40 = .ok (.ladd, 1) := by decide +kernel
theorem d1_41 : decode method_3_code 41 = .ok (.lreturn, 1) := by decide +kernel
theorem d1_42 : decode method_3_code 42 = .ok (.iload 5, 2) := by decide +kernel
theorem d1_44 : decode method_3_code 44 = .ok (.iconst 3, 1) := by decide +kernel
theorem d1_45 : decode method_3_code 45 = .ok (.if_icmp .ne 14, 3) := by decide +kernel
theorem d1_48 : decode method_3_code 48 = .ok (.lload_n 0, 1) := by decide +kernel
theorem d1_49 : decode method_3_code 49 = .ok (.bipush 32, 2) := by decide +kernel
theorem d1_51 : decode method_3_code 51 = .ok (.lshl, 1) := by decide +kernel
theorem d1_52 : decode method_3_code 52 = .ok (.lload_n 2, 1) := by decide +kernel
theorem d1_53 : decode method_3_code 53 = .ok (.ldc2_w 55, 3) := by decide +kernel
theorem d1_56 : decode method_3_code 56 = .ok (.land, 1) := by decide +kernel
theorem d1_57 : decode method_3_code 57 = .ok (.ladd, 1) := by decide +kernel
theorem d1_58 : decode method_3_code 58 = .ok (.lreturn, 1) := by decide +kernel
theorem d1_59 : decode method_3_code 59 = .ok (.iload 5, 2) := by decide +kernel
theorem d1_61 : decode method_3_code 61 = .ok (.iconst 4, 1) := by decide +kernel
theorem d1_62 : decode method_3_code 62 = .ok (.if_icmp .ne 10, 3) := by decide +kernel
theorem d1_65 : decode method_3_code 65 = .ok (.lload_n 2, 1) := by decide +kernel
theorem d1_66 : decode method_3_code 66 = .ok (.ldc2_w 55, 3) := by decide +kernel
theorem d1_69 : decode method_3_code 69 = .ok (.land, 1) := by decide +kernel
theorem d1_70 : decode method_3_code 70 = .ok (.lneg, 1) := by decide +kernel
theorem d1_71 : decode method_3_code 71 = .ok (.lreturn, 1) := by decide +kernel
theorem d1_72 : decode method_3_code 72 = .ok (.iload 5, 2) := by decide +kernel
theorem d1_74 : decode method_3_code 74 = .ok (.iconst 5, 1) := by decide +kernel
theorem d1_75 : decode method_3_code 75 = .ok (.if_icmp .ne 13, 3) := by decide +kernel
theorem d1_78 : decode method_3_code 78 = .ok (.ldc2_w 57, 3) := by decide +kernel
theorem d1_81 : decode method_3_code 81 = .ok (.lload_n 2, 1) := by decide +kernel
theorem d1_82 : decode method_3_code 82 = .ok (.ldc2_w 55, 3) := by decide +kernel
theorem d1_85 : decode method_3_code 85 = .ok (.land, 1) := by decide +kernel
theorem d1_86 : decode method_3_code 86 = .ok (.ladd, 1) := by decide +kernel
theorem d1_87 : decode method_3_code 87 = .ok (.lreturn, 1) := by decide +kernel
theorem d1_88 : decode method_3_code 88 = .ok (.iload 5, 2) := by decide +kernel
theorem d1_90 : decode method_3_code 90 = .ok (.bipush 6, 2) := by decide +kernel
theorem d1_92 : decode method_3_code 92 = .ok (.if_icmp .ne 13, 3) := by decide +kernel
theorem d1_95 : decode method_3_code 95 = .ok (.ldc2_w 59, 3) := by decide +kernel
theorem d1_98 : decode method_3_code 98 = .ok (.lload_n 2, 1) := by decide +kernel
theorem d1_99 : decode method_3_code 99 = .ok (.ldc2_w 55, 3) := by decide +kernel
theorem d1_102 : decode method_3_code 102 = .ok (.land, 1) := by decide +kernel
theorem d1_103 : decode method_3_code 103 = .ok (.lsub, 1) := by decide +kernel
theorem d1_104 : decode method_3_code 104 = .ok (.lreturn, 1) := by decide +kernel
theorem d1_105 : decode method_3_code 105 = .ok (.lload_n 2, 1) := by decide +kernel
theorem d1_106 : decode method_3_code 106 = .ok (.ldc2_w 55, 3) := by decide +kernel
theorem d1_109 : decode method_3_code 109 = .ok (.land, 1) := by decide +kernel
theorem d1_110 : decode method_3_code 110 = .ok (.lreturn, 1) := by decide +kernel
def fn1 (Z : State) (q0 : Int64) (q1 : Int64) (p2 : Int32) : Int64 :=
  if (p2 &&& (7 : Int32)) = (0 : Int32) then
    q0
  else
    if (p2 &&& (7 : Int32)) = (1 : Int32) then
      (q1 &&& (7 : Int64))
    else
      if (p2 &&& (7 : Int32)) = (2 : Int32) then
        ((255 : Int64) + (q1 &&& (7 : Int64)))
      else
        if (p2 &&& (7 : Int32)) = (3 : Int32) then
          ((q0 <<< ((32 : Int32) &&& 0x3f).toInt64) + (q1 &&& (511 : Int64)))
        else
          if (p2 &&& (7 : Int32)) = (4 : Int32) then
            (-(q1 &&& (511 : Int64)))
          else
            if (p2 &&& (7 : Int32)) = (5 : Int32) then
              ((-9223372036854775808 : Int64) + (q1 &&& (511 : Int64)))
            else
              if (p2 &&& (7 : Int32)) = (6 : Int32) then
                ((9223372036854775807 : Int64) - (q1 &&& (511 : Int64)))
              else
                (q1 &&& (511 : Int64))
theorem ef_1 (m : MethodId) (x0 : Int64) (x1 : Int64) (x2 : Int32) : entryFrame m #[(.long x0), (.long x1), (.int x2)] 6 = mkF m 0 #[.val (.long x0), .second, .val (.long x1), .second, .val (.int x2), .unset] [] := by first | (simp [entryFrame, mkF, argsToLocals, Value.category]; done) | rfl
theorem pn_1 : plainName "com/example/meerkat/meerkat/ResponseCodeForValuePinLaw" = true := by first | (simp [plainName, overriddenIn]; done) | decide +kernel
set_option maxRecDepth 65536 in
set_option maxHeartbeats 40000000 in
theorem rm1 (l : Launch) (Z : State) (a0 : Array Value) (hw : ∀ d ∈ tables_1, d.before a0 Z = true) (hS : St Z) (ws : List Jvm.Cond) (q0 : Int64) (q1 : Int64) (p2 : Int32) (h0 : Heap) (n0 : Nat) (O0 : Old Z n0 h0) :
    MetFree l (⟨"com/example/meerkat/meerkat/ResponseCodeForValuePinLaw", "pick", "(JJI)J"⟩ : MethodName) (head1 (Jvm.Cond.code (⟨"com/example/meerkat/meerkat/ResponseCodeForValuePinLaw", "pick", "(JJI)J"⟩ : MethodName) method_3_code 6 (some .long) :: ws) ({ frames := 0, cells := 0, slots := 0, locals := 0 } : Room)) (fun a U => a = #[(.long q0), (.long q1), (.int p2)] ∧ Z.Warmed39 U.vm ∧ U.heap = h0) (fun _ _ _ _ _ => True) (fun _ U o U' => ∃ v L, o = .returned v ∧ own_Q (fun v hE L => v = some (.long (fn1 Z q0 q1 p2)) ∧ Fr n0 L ∧ hE = h0) v U'.heap L ∧ FrameEnd U o U' L ({ frames := 0, cells := 0, slots := 0, locals := 0 } : Room).cells ({ frames := 0, cells := 0, slots := 0, locals := 0 } : Room).slots) := by
  refine MetFree.of_bodySF (plainFor_of_name pn_1) hisR ?_
  intro p e s m args below meth c s₁ Bd hml0 hP hK
  obtain ⟨rfl, hZ, hh⟩ := hP
  have hx := Bd.exec
  have hby := Bd.bytes
  have hml : c.maxLocals = 6 := hml0
  have hown : s.vm.findClass "com/example/meerkat/meerkat/ResponseCodeForValuePinLaw" = some m.cls := findClass_of_methodNamed Bd.named
  have X0 : Stand p l e ({ frames := 0, cells := 0, slots := 0, locals := 0 } : Room) s m #[(.long q0), (.long q1), (.int p2)] below meth c s₁ [] 0 0 := Stand.of_body Bd
  have e0 : s₁.heap = h0 := by rw [← hh, Bd.state]; rfl
  have N0 := Fr.nil n0
  have pre0 : ∀ t, Steps p.tables e below (s₁.setTop (mkF m 0 #[oJ q0, oS, oJ q1, oS, oI p2, oU] [])) t → Steps p.tables e below (s₁.setTop (entryFrame m #[(.long q0), (.long q1), (.int p2)] 6)) t := fun t k => castTop (ef_1 m q0 q1 p2) k
  have pre4 : ∀ t, oP p e below s₁ (mkF m 9 #[oJ q0, oS, oJ q1, oS, oI p2, oI (p2 &&& (7 : Int32))] [(.int (p2 &&& (7 : Int32)))]) t → oP p e below s₁ (entryFrame m #[(.long q0), (.long q1), (.int p2)] 6) t := fun t k => pre0 t (by
    show oP p e below s₁ (mkF m 0 #[oJ q0, oS, oJ q1, oS, oI p2, oU] []) _
    refine XS.iload X0.here hx rfl (hb hby d1_0) rfl ?_
    show oP p e below s₁ (mkF m 2 #[oJ q0, oS, oJ q1, oS, oI p2, oU] [(.int p2)]) _
    refine XS.bipush X0.here hx rfl (hb hby d1_2) ?_
    show oP p e below s₁ (mkF m 4 #[oJ q0, oS, oJ q1, oS, oI p2, oU] [(.int (7 : Int32)), (.int p2)]) _
    refine XS.iand X0.here hx rfl (hb hby d1_4) rfl ?_
    show oP p e below s₁ (mkF m 5 #[oJ q0, oS, oJ q1, oS, oI p2, oU] [(.int (p2 &&& (7 : Int32)))]) _
    refine XS.istore X0.here hx rfl (hb hby d1_5) rfl (l' := #[oJ q0, oS, oJ q1, oS, oI p2, oI (p2 &&& (7 : Int32))]) rfl ?_
    show oP p e below s₁ (mkF m 7 #[oJ q0, oS, oJ q1, oS, oI p2, oI (p2 &&& (7 : Int32))] []) _
    refine XS.iload X0.here hx rfl (hb hby d1_7) rfl ?_
    exact k)
  by_cases hc5 : (p2 &&& (7 : Int32)) = (0 : Int32)
  · obtain ⟨fs, hr, hrun, hended, hW, hsame⟩ := X0.leave (v := some (.long q0)) (fun h => by rw [Bd.returns] at h; cases h)
    refine ⟨_, _, pre4 _ ?_, hrun, hended, _, _, rfl, ?_, ⟨_, rfl⟩, hW, hsame.mono (by decide) (by decide)⟩
    · show oP p e below s₁ (mkF m 9 #[oJ q0, oS, oJ q1, oS, oI p2, oI (p2 &&& (7 : Int32))] [(.int (p2 &&& (7 : Int32)))]) _
      refine XS.ifNo X0.here hx rfl (hb hby d1_9) rfl ((if0 _ _).trans (teq hc5).2) ?_
      show oP p e below s₁ (mkF m 12 #[oJ q0, oS, oJ q1, oS, oI p2, oI (p2 &&& (7 : Int32))] []) _
      refine XS.lloadN X0.here hx rfl (hb hby d1_12) rfl ?_
      show oP p e below s₁ (mkF m 13 #[oJ q0, oS, oJ q1, oS, oI p2, oI (p2 &&& (7 : Int32))] [(.long q0)]) _
      exact own_retJ X0 hx Bd.returns (hb hby d1_13) hr
    · show (some (.long q0) : Option Value) = some (.long (fn1 Z q0 q1 p2)) ∧ Fr n0 _ ∧ s₁.heap = h0
      rw [e0]
      refine ⟨?_, N0, rfl⟩
      unfold fn1
      rw [if_pos hc5]
  · have pre6 : ∀ t, oP p e below s₁ (mkF m 17 #[oJ q0, oS, oJ q1, oS, oI p2, oI (p2 &&& (7 : Int32))] [(.int (1 : Int32)), (.int (p2 &&& (7 : Int32)))]) t → oP p e below s₁ (entryFrame m #[(.long q0), (.long q1), (.int p2)] 6) t := fun t k => pre4 t (by
      show oP p e below s₁ (mkF m 9 #[oJ q0, oS, oJ q1, oS, oI p2, oI (p2 &&& (7 : Int32))] [(.int (p2 &&& (7 : Int32)))]) _
      refine XS.ifYes X0.here hx rfl (pc0 := 9) (pc' := 14) rfl (hb hby d1_9) rfl ((if0 _ _).trans (feq hc5).2) (by decide) (by decide) ?_
      show oP p e below s₁ (mkF m 14 #[oJ q0, oS, oJ q1, oS, oI p2, oI (p2 &&& (7 : Int32))] []) _
      refine XS.iload X0.here hx rfl (hb hby d1_14) rfl ?_
      show oP p e below s₁ (mkF m 16 #[oJ q0, oS, oJ q1, oS, oI p2, oI (p2 &&& (7 : Int32))] [(.int (p2 &&& (7 : Int32)))]) _
      refine XS.iconst X0.here hx rfl (hb hby d1_16) ?_
      exact k)
    by_cases hc7 : (p2 &&& (7 : Int32)) = (1 : Int32)
    · obtain ⟨fs, hr, hrun, hended, hW, hsame⟩ := X0.leave (v := some (.long (q1 &&& (7 : Int64)))) (fun h => by rw [Bd.returns] at h; cases h)
      refine ⟨_, _, pre6 _ ?_, hrun, hended, _, _, rfl, ?_, ⟨_, rfl⟩, hW, hsame.mono (by decide) (by decide)⟩
      · show oP p e below s₁ (mkF m 17 #[oJ q0, oS, oJ q1, oS, oI p2, oI (p2 &&& (7 : Int32))] [(.int (1 : Int32)), (.int (p2 &&& (7 : Int32)))]) _
        refine XS.icmpNo X0.here hx rfl (hb hby d1_17) rfl (teq hc7).2 ?_
        show oP p e below s₁ (mkF m 20 #[oJ q0, oS, oJ q1, oS, oI p2, oI (p2 &&& (7 : Int32))] []) _
        refine XS.lloadN X0.here hx rfl (hb hby d1_20) rfl ?_
        show oP p e below s₁ (mkF m 21 #[oJ q0, oS, oJ q1, oS, oI p2, oI (p2 &&& (7 : Int32))] [(.long q1)]) _
        refine X0.ldc2Long hx hown (mvT hZ (hw _ (List.mem_of_getElem? (i := 48) rfl))) (g := (mkF m 21 #[oJ q0, oS, oJ q1, oS, oI p2, oI (p2 &&& (7 : Int32))] [(.long q1)])) rfl (hb hby d1_21) _ ?_
        show oP p e below s₁ (mkF m 24 #[oJ q0, oS, oJ q1, oS, oI p2, oI (p2 &&& (7 : Int32))] [(.long (7 : Int64)), (.long q1)]) _
        refine XS.land X0.here hx rfl (hb hby d1_24) rfl ?_
        show oP p e below s₁ (mkF m 25 #[oJ q0, oS, oJ q1, oS, oI p2, oI (p2 &&& (7 : Int32))] [(.long (q1 &&& (7 : Int64)))]) _
        exact own_retJ X0 hx Bd.returns (hb hby d1_25) hr
      · show (some (.long (q1 &&& (7 : Int64))) : Option Value) = some (.long (fn1 Z q0 q1 p2)) ∧ Fr n0 _ ∧ s₁.heap = h0
        rw [e0]
        refine ⟨?_, N0, rfl⟩
        unfold fn1
        rw [if_neg hc5, if_pos hc7]
    · have pre8 : ∀ t, oP p e below s₁ (mkF m 29 #[oJ q0, oS, oJ q1, oS, oI p2, oI (p2 &&& (7 : Int32))] [(.int (2 : Int32)), (.int (p2 &&& (7 : Int32)))]) t → oP p e below s₁ (entryFrame m #[(.long q0), (.long q1), (.int p2)] 6) t := fun t k => pre6 t (by
        show oP p e below s₁ (mkF m 17 #[oJ q0, oS, oJ q1, oS, oI p2, oI (p2 &&& (7 : Int32))] [(.int (1 : Int32)), (.int (p2 &&& (7 : Int32)))]) _
        refine XS.icmpYes X0.here hx rfl (pc0 := 17) (pc' := 26) rfl (hb hby d1_17) rfl (feq hc7).2 (by decide) (by decide) ?_
        show oP p e below s₁ (mkF m 26 #[oJ q0, oS, oJ q1, oS, oI p2, oI (p2 &&& (7 : Int32))] []) _
        refine XS.iload X0.here hx rfl (hb hby d1_26) rfl ?_
        show oP p e below s₁ (mkF m 28 #[oJ q0, oS, oJ q1, oS, oI p2, oI (p2 &&& (7 : Int32))] [(.int (p2 &&& (7 : Int32)))]) _
        refine XS.iconst X0.here hx rfl (hb hby d1_28) ?_
        exact k)
      by_cases hc9 : (p2 &&& (7 : Int32)) = (2 : Int32)
      · obtain ⟨fs, hr, hrun, hended, hW, hsame⟩ := X0.leave (v := some (.long ((255 : Int64) + (q1 &&& (7 : Int64))))) (fun h => by rw [Bd.returns] at h; cases h)
        refine ⟨_, _, pre8 _ ?_, hrun, hended, _, _, rfl, ?_, ⟨_, rfl⟩, hW, hsame.mono (by decide) (by decide)⟩
        · show oP p e below s₁ (mkF m 29 #[oJ q0, oS, oJ q1, oS, oI p2, oI (p2 &&& (7 : Int32))] [(.int (2 : Int32)), (.int (p2 &&& (7 : Int32)))]) _
          refine XS.icmpNo X0.here hx rfl (hb hby d1_29) rfl (teq hc9).2 ?_
          show oP p e below s₁ (mkF m 32 #[oJ q0, oS, oJ q1, oS, oI p2, oI (p2 &&& (7 : Int32))] []) _
          refine X0.ldc2Long hx hown (mvT hZ (hw _ (List.mem_of_getElem? (i := 47) rfl))) (g := (mkF m 32 #[oJ q0, oS, oJ q1, oS, oI p2, oI (p2 &&& (7 : Int32))] [])) rfl (hb hby d1_32) _ ?_
          show oP p e below s₁ (mkF m 35 #[oJ q0, oS, oJ q1, oS, oI p2, oI (p2 &&& (7 : Int32))] [(.long (255 : Int64))]) _
          refine XS.lloadN X0.here hx rfl (hb hby d1_35) rfl ?_
          show oP p e below s₁ (mkF m 36 #[oJ q0, oS, oJ q1, oS, oI p2, oI (p2 &&& (7 : Int32))] [(.long q1), (.long (255 : Int64))]) _
          refine X0.ldc2Long hx hown (mvT hZ (hw _ (List.mem_of_getElem? (i := 48) rfl))) (g := (mkF m 36 #[oJ q0, oS, oJ q1, oS, oI p2, oI (p2 &&& (7 : Int32))] [(.long q1), (.long (255 : Int64))])) rfl (hb hby d1_36) _ ?_
          show oP p e below s₁ (mkF m 39 #[oJ q0, oS, oJ q1, oS, oI p2, oI (p2 &&& (7 : Int32))] [(.long (7 : Int64)), (.long q1), (.long (255 : Int64))]) _
          refine XS.land X0.here hx rfl (hb hby d1_39) rfl ?_
          show oP p e below s₁ (mkF m 40 #[oJ q0, oS, oJ q1, oS, oI p2, oI (p2 &&& (7 : Int32))] [(.long (q1 &&& (7 : Int64))), (.long (255 : Int64))]) _
          refine XS.ladd X0.here hx rfl (hb hby d1_40) rfl ?_
          show oP p e below s₁ (mkF m 41 #[oJ q0, oS, oJ q1, oS, oI p2, oI (p2 &&& (7 : Int32))] [(.long ((255 : Int64) + (q1 &&& (7 : Int64))))]) _
          exact own_retJ X0 hx Bd.returns (hb hby d1_41) hr
        · show (some (.long ((255 : Int64) + (q1 &&& (7 : Int64)))) : Option Value) = some (.long (fn1 Z q0 q1 p2)) ∧ Fr n0 _ ∧ s₁.heap = h0
          rw [e0]
          refine ⟨?_, N0, rfl⟩
          unfold fn1
          rw [if_neg hc5, if_neg hc7, if_pos hc9]
      · have pre10 : ∀ t, oP p e below s₁ (mkF m 45 #[oJ q0, oS, oJ q1, oS, oI p2, oI (p2 &&& (7 : Int32))] [(.int (3 : Int32)), (.int (p2 &&& (7 : Int32)))]) t → oP p e below s₁ (entryFrame m #[(.long q0), (.long q1), (.int p2)] 6) t := fun t k => pre8 t (by
          show oP p e below s₁ (mkF m 29 #[oJ q0, oS, oJ q1, oS, oI p2, oI (p2 &&& (7 : Int32))] [(.int (2 : Int32)), (.int (p2 &&& (7 : Int32)))]) _
          refine XS.icmpYes X0.here hx rfl (pc0 := 29) (pc' := 42) rfl (hb hby d1_29) rfl (feq hc9).2 (by decide) (by decide) ?_
          show oP p e below s₁ (mkF m 42 #[oJ q0, oS, oJ q1, oS, oI p2, oI (p2 &&& (7 : Int32))] []) _
          refine XS.iload X0.here hx rfl (hb hby d1_42) rfl ?_
          show oP p e below s₁ (mkF m 44 #[oJ q0, oS, oJ q1, oS, oI p2, oI (p2 &&& (7 : Int32))] [(.int (p2 &&& (7 : Int32)))]) _
          refine XS.iconst X0.here hx rfl (hb hby d1_44) ?_
          exact k)
        by_cases hc11 : (p2 &&& (7 : Int32)) = (3 : Int32)
        · obtain ⟨fs, hr, hrun, hended, hW, hsame⟩ := X0.leave (v := some (.long ((q0 <<< ((32 : Int32) &&& 0x3f).toInt64) + (q1 &&& (511 : Int64))))) (fun h => by rw [Bd.returns] at h; cases h)
          refine ⟨_, _, pre10 _ ?_, hrun, hended, _, _, rfl, ?_, ⟨_, rfl⟩, hW, hsame.mono (by decide) (by decide)⟩
          · show oP p e below s₁ (mkF m 45 #[oJ q0, oS, oJ q1, oS, oI p2, oI (p2 &&& (7 : Int32))] [(.int (3 : Int32)), (.int (p2 &&& (7 : Int32)))]) _
            refine XS.icmpNo X0.here hx rfl (hb hby d1_45) rfl (teq hc11).2 ?_
            show oP p e below s₁ (mkF m 48 #[oJ q0, oS, oJ q1, oS, oI p2, oI (p2 &&& (7 : Int32))] []) _
            refine XS.lloadN X0.here hx rfl (hb hby d1_48) rfl ?_
            show oP p e below s₁ (mkF m 49 #[oJ q0, oS, oJ q1, oS, oI p2, oI (p2 &&& (7 : Int32))] [(.long q0)]) _
            refine XS.bipush X0.here hx rfl (hb hby d1_49) ?_
            show oP p e below s₁ (mkF m 51 #[oJ q0, oS, oJ q1, oS, oI p2, oI (p2 &&& (7 : Int32))] [(.int (32 : Int32)), (.long q0)]) _
            refine XS.lshl X0.here hx rfl (hb hby d1_51) rfl ?_
            show oP p e below s₁ (mkF m 52 #[oJ q0, oS, oJ q1, oS, oI p2, oI (p2 &&& (7 : Int32))] [(.long (q0 <<< ((32 : Int32) &&& 0x3f).toInt64))]) _
            refine XS.lloadN X0.here hx rfl (hb hby d1_52) rfl ?_
            show oP p e below s₁ (mkF m 53 #[oJ q0, oS, oJ q1, oS, oI p2, oI (p2 &&& (7 : Int32))] [(.long q1), (.long (q0 <<< ((32 : Int32) &&& 0x3f).toInt64))]) _
            refine X0.ldc2Long hx hown (mvT hZ (hw _ (List.mem_of_getElem? (i := 40) rfl))) (g := (mkF m 53 #[oJ q0, oS, oJ q1, oS, oI p2, oI (p2 &&& (7 : Int32))] [(.long q1), (.long (q0 <<< ((32 : Int32) &&& 0x3f).toInt64))])) rfl (hb hby d1_53) _ ?_
            show oP p e below s₁ (mkF m 56 #[oJ q0, oS, oJ q1, oS, oI p2, oI (p2 &&& (7 : Int32))] [(.long (511 : Int64)), (.long q1), (.long (q0 <<< ((32 : Int32) &&& 0x3f).toInt64))]) _
            refine XS.land X0.here hx rfl (hb hby d1_56) rfl ?_
            show oP p e below s₁ (mkF m 57 #[oJ q0, oS, oJ q1, oS, oI p2, oI (p2 &&& (7 : Int32))] [(.long (q1 &&& (511 : Int64))), (.long (q0 <<< ((32 : Int32) &&& 0x3f).toInt64))]) _
            refine XS.ladd X0.here hx rfl (hb hby d1_57) rfl ?_
            show oP p e below s₁ (mkF m 58 #[oJ q0, oS, oJ q1, oS, oI p2, oI (p2 &&& (7 : Int32))] [(.long ((q0 <<< ((32 : Int32) &&& 0x3f).toInt64) + (q1 &&& (511 : Int64))))]) _
            exact own_retJ X0 hx Bd.returns (hb hby d1_58) hr
          · show (some (.long ((q0 <<< ((32 : Int32) &&& 0x3f).toInt64) + (q1 &&& (511 : Int64)))) : Option Value) = some (.long (fn1 Z q0 q1 p2)) ∧ Fr n0 _ ∧ s₁.heap = h0
            rw [e0]
            refine ⟨?_, N0, rfl⟩
            unfold fn1
            rw [if_neg hc5, if_neg hc7, if_neg hc9, if_pos hc11]
        · have pre12 : ∀ t, oP p e below s₁ (mkF m 62 #[oJ q0, oS, oJ q1, oS, oI p2, oI (p2 &&& (7 : Int32))] [(.int (4 : Int32)), (.int (p2 &&& (7 : Int32)))]) t → oP p e below s₁ (entryFrame m #[(.long q0), (.long q1), (.int p2)] 6) t := fun t k => pre10 t (by
            show oP p e below s₁ (mkF m 45 #[oJ q0, oS, oJ q1, oS, oI p2, oI (p2 &&& (7 : Int32))] [(.int (3 : Int32)), (.int (p2 &&& (7 : Int32)))]) _
            refine XS.icmpYes X0.here hx rfl (pc0 := 45) (pc' := 59) rfl (hb hby d1_45) rfl (feq hc11).2 (by decide) (by decide) ?_
            show oP p e below s₁ (mkF m 59 #[oJ q0, oS, oJ q1, oS, oI p2, oI (p2 &&& (7 : Int32))] []) _
            refine XS.iload X0.here hx rfl (hb hby d1_59) rfl ?_
            show oP p e below s₁ (mkF m 61 #[oJ q0, oS, oJ q1, oS, oI p2, oI (p2 &&& (7 : Int32))] [(.int (p2 &&& (7 : Int32)))]) _
            refine XS.iconst X0.here hx rfl (hb hby d1_61) ?_
            exact k)
          by_cases hc13 : (p2 &&& (7 : Int32)) = (4 : Int32)
          · obtain ⟨fs, hr, hrun, hended, hW, hsame⟩ := X0.leave (v := some (.long (-(q1 &&& (511 : Int64))))) (fun h => by rw [Bd.returns] at h; cases h)
            refine ⟨_, _, pre12 _ ?_, hrun, hended, _, _, rfl, ?_, ⟨_, rfl⟩, hW, hsame.mono (by decide) (by decide)⟩
            · show oP p e below s₁ (mkF m 62 #[oJ q0, oS, oJ q1, oS, oI p2, oI (p2 &&& (7 : Int32))] [(.int (4 : Int32)), (.int (p2 &&& (7 : Int32)))]) _
              refine XS.icmpNo X0.here hx rfl (hb hby d1_62) rfl (teq hc13).2 ?_
              show oP p e below s₁ (mkF m 65 #[oJ q0, oS, oJ q1, oS, oI p2, oI (p2 &&& (7 : Int32))] []) _
              refine XS.lloadN X0.here hx rfl (hb hby d1_65) rfl ?_
              show oP p e below s₁ (mkF m 66 #[oJ q0, oS, oJ q1, oS, oI p2, oI (p2 &&& (7 : Int32))] [(.long q1)]) _
              refine X0.ldc2Long hx hown (mvT hZ (hw _ (List.mem_of_getElem? (i := 40) rfl))) (g := (mkF m 66 #[oJ q0, oS, oJ q1, oS, oI p2, oI (p2 &&& (7 : Int32))] [(.long q1)])) rfl (hb hby d1_66) _ ?_
              show oP p e below s₁ (mkF m 69 #[oJ q0, oS, oJ q1, oS, oI p2, oI (p2 &&& (7 : Int32))] [(.long (511 : Int64)), (.long q1)]) _
              refine XS.land X0.here hx rfl (hb hby d1_69) rfl ?_
              show oP p e below s₁ (mkF m 70 #[oJ q0, oS, oJ q1, oS, oI p2, oI (p2 &&& (7 : Int32))] [(.long (q1 &&& (511 : Int64)))]) _
              refine XS.lneg X0.here hx rfl (hb hby d1_70) rfl ?_
              show oP p e below s₁ (mkF m 71 #[oJ q0, oS, oJ q1, oS, oI p2, oI (p2 &&& (7 : Int32))] [(.long (-(q1 &&& (511 : Int64))))]) _
              exact own_retJ X0 hx Bd.returns (hb hby d1_71) hr
            · show (some (.long (-(q1 &&& (511 : Int64)))) : Option Value) = some (.long (fn1 Z q0 q1 p2)) ∧ Fr n0 _ ∧ s₁.heap = h0
              rw [e0]
              refine ⟨?_, N0, rfl⟩
              unfold fn1
              rw [if_neg hc5, if_neg hc7, if_neg hc9, if_neg hc11, if_pos hc13]
          · have pre14 : ∀ t, oP p e below s₁ (mkF m 75 #[oJ q0, oS, oJ q1, oS, oI p2, oI (p2 &&& (7 : Int32))] [(.int (5 : Int32)), (.int (p2 &&& (7 : Int32)))]) t → oP p e below s₁ (entryFrame m #[(.long q0), (.long q1), (.int p2)] 6) t := fun t k => pre12 t (by
              show oP p e below s₁ (mkF m 62 #[oJ q0, oS, oJ q1, oS, oI p2, oI (p2 &&& (7 : Int32))] [(.int (4 : Int32)), (.int (p2 &&& (7 : Int32)))]) _
              refine XS.icmpYes X0.here hx rfl (pc0 := 62) (pc' := 72) rfl (hb hby d1_62) rfl (feq hc13).2 (by decide) (by decide) ?_
              show oP p e below s₁ (mkF m 72 #[oJ q0, oS, oJ q1, oS, oI p2, oI (p2 &&& (7 : Int32))] []) _
              refine XS.iload X0.here hx rfl (hb hby d1_72) rfl ?_
              show oP p e below s₁ (mkF m 74 #[oJ q0, oS, oJ q1, oS, oI p2, oI (p2 &&& (7 : Int32))] [(.int (p2 &&& (7 : Int32)))]) _
              refine XS.iconst X0.here hx rfl (hb hby d1_74) ?_
              exact k)
            by_cases hc15 : (p2 &&& (7 : Int32)) = (5 : Int32)
            · obtain ⟨fs, hr, hrun, hended, hW, hsame⟩ := X0.leave (v := some (.long ((-9223372036854775808 : Int64) + (q1 &&& (511 : Int64))))) (fun h => by rw [Bd.returns] at h; cases h)
              refine ⟨_, _, pre14 _ ?_, hrun, hended, _, _, rfl, ?_, ⟨_, rfl⟩, hW, hsame.mono (by decide) (by decide)⟩
              · show oP p e below s₁ (mkF m 75 #[oJ q0, oS, oJ q1, oS, oI p2, oI (p2 &&& (7 : Int32))] [(.int (5 : Int32)), (.int (p2 &&& (7 : Int32)))]) _
                refine XS.icmpNo X0.here hx rfl (hb hby d1_75) rfl (teq hc15).2 ?_
                show oP p e below s₁ (mkF m 78 #[oJ q0, oS, oJ q1, oS, oI p2, oI (p2 &&& (7 : Int32))] []) _
                refine X0.ldc2Long hx hown (mvT hZ (hw _ (List.mem_of_getElem? (i := 46) rfl))) (g := (mkF m 78 #[oJ q0, oS, oJ q1, oS, oI p2, oI (p2 &&& (7 : Int32))] [])) rfl (hb hby d1_78) _ ?_
                show oP p e below s₁ (mkF m 81 #[oJ q0, oS, oJ q1, oS, oI p2, oI (p2 &&& (7 : Int32))] [(.long (-9223372036854775808 : Int64))]) _
                refine XS.lloadN X0.here hx rfl (hb hby d1_81) rfl ?_
                show oP p e below s₁ (mkF m 82 #[oJ q0, oS, oJ q1, oS, oI p2, oI (p2 &&& (7 : Int32))] [(.long q1), (.long (-9223372036854775808 : Int64))]) _
                refine X0.ldc2Long hx hown (mvT hZ (hw _ (List.mem_of_getElem? (i := 40) rfl))) (g := (mkF m 82 #[oJ q0, oS, oJ q1, oS, oI p2, oI (p2 &&& (7 : Int32))] [(.long q1), (.long (-9223372036854775808 : Int64))])) rfl (hb hby d1_82) _ ?_
                show oP p e below s₁ (mkF m 85 #[oJ q0, oS, oJ q1, oS, oI p2, oI (p2 &&& (7 : Int32))] [(.long (511 : Int64)), (.long q1), (.long (-9223372036854775808 : Int64))]) _
                refine XS.land X0.here hx rfl (hb hby d1_85) rfl ?_
                show oP p e below s₁ (mkF m 86 #[oJ q0, oS, oJ q1, oS, oI p2, oI (p2 &&& (7 : Int32))] [(.long (q1 &&& (511 : Int64))), (.long (-9223372036854775808 : Int64))]) _
                refine XS.ladd X0.here hx rfl (hb hby d1_86) rfl ?_
                show oP p e below s₁ (mkF m 87 #[oJ q0, oS, oJ q1, oS, oI p2, oI (p2 &&& (7 : Int32))] [(.long ((-9223372036854775808 : Int64) + (q1 &&& (511 : Int64))))]) _
                exact own_retJ X0 hx Bd.returns (hb hby d1_87) hr
              · show (some (.long ((-9223372036854775808 : Int64) + (q1 &&& (511 : Int64)))) : Option Value) = some (.long (fn1 Z q0 q1 p2)) ∧ Fr n0 _ ∧ s₁.heap = h0
                rw [e0]
                refine ⟨?_, N0, rfl⟩
                unfold fn1
                rw [if_neg hc5, if_neg hc7, if_neg hc9, if_neg hc11, if_neg hc13, if_pos hc15]
            · have pre16 : ∀ t, oP p e below s₁ (mkF m 92 #[oJ q0, oS, oJ q1, oS, oI p2, oI (p2 &&& (7 : Int32))] [(.int (6 : Int32)), (.int (p2 &&& (7 : Int32)))]) t → oP p e below s₁ (entryFrame m #[(.long q0), (.long q1), (.int p2)] 6) t := fun t k => pre14 t (by
                show oP p e below s₁ (mkF m 75 #[oJ q0, oS, oJ q1, oS, oI p2, oI (p2 &&& (7 : Int32))] [(.int (5 : Int32)), (.int (p2 &&& (7 : Int32)))]) _
                refine XS.icmpYes X0.here hx rfl (pc0 := 75) (pc' := 88) rfl (hb hby d1_75) rfl (feq hc15).2 (by decide) (by decide) ?_
                show oP p e below s₁ (mkF m 88 #[oJ q0, oS, oJ q1, oS, oI p2, oI (p2 &&& (7 : Int32))] []) _
                refine XS.iload X0.here hx rfl (hb hby d1_88) rfl ?_
                show oP p e below s₁ (mkF m 90 #[oJ q0, oS, oJ q1, oS, oI p2, oI (p2 &&& (7 : Int32))] [(.int (p2 &&& (7 : Int32)))]) _
                refine XS.bipush X0.here hx rfl (hb hby d1_90) ?_
                exact k)
              by_cases hc17 : (p2 &&& (7 : Int32)) = (6 : Int32)
              · obtain ⟨fs, hr, hrun, hended, hW, hsame⟩ := X0.leave (v := some (.long ((9223372036854775807 : Int64) - (q1 &&& (511 : Int64))))) (fun h => by rw [Bd.returns] at h; cases h)
                refine ⟨_, _, pre16 _ ?_, hrun, hended, _, _, rfl, ?_, ⟨_, rfl⟩, hW, hsame.mono (by decide) (by decide)⟩
                · show oP p e below s₁ (mkF m 92 #[oJ q0, oS, oJ q1, oS, oI p2, oI (p2 &&& (7 : Int32))] [(.int (6 : Int32)), (.int (p2 &&& (7 : Int32)))]) _
                  refine XS.icmpNo X0.here hx rfl (hb hby d1_92) rfl (teq hc17).2 ?_
                  show oP p e below s₁ (mkF m 95 #[oJ q0, oS, oJ q1, oS, oI p2, oI (p2 &&& (7 : Int32))] []) _
                  refine X0.ldc2Long hx hown (mvT hZ (hw _ (List.mem_of_getElem? (i := 52) rfl))) (g := (mkF m 95 #[oJ q0, oS, oJ q1, oS, oI p2, oI (p2 &&& (7 : Int32))] [])) rfl (hb hby d1_95) _ ?_
                  show oP p e below s₁ (mkF m 98 #[oJ q0, oS, oJ q1, oS, oI p2, oI (p2 &&& (7 : Int32))] [(.long (9223372036854775807 : Int64))]) _
                  refine XS.lloadN X0.here hx rfl (hb hby d1_98) rfl ?_
                  show oP p e below s₁ (mkF m 99 #[oJ q0, oS, oJ q1, oS, oI p2, oI (p2 &&& (7 : Int32))] [(.long q1), (.long (9223372036854775807 : Int64))]) _
                  refine X0.ldc2Long hx hown (mvT hZ (hw _ (List.mem_of_getElem? (i := 40) rfl))) (g := (mkF m 99 #[oJ q0, oS, oJ q1, oS, oI p2, oI (p2 &&& (7 : Int32))] [(.long q1), (.long (9223372036854775807 : Int64))])) rfl (hb hby d1_99) _ ?_
                  show oP p e below s₁ (mkF m 102 #[oJ q0, oS, oJ q1, oS, oI p2, oI (p2 &&& (7 : Int32))] [(.long (511 : Int64)), (.long q1), (.long (9223372036854775807 : Int64))]) _
                  refine XS.land X0.here hx rfl (hb hby d1_102) rfl ?_
                  show oP p e below s₁ (mkF m 103 #[oJ q0, oS, oJ q1, oS, oI p2, oI (p2 &&& (7 : Int32))] [(.long (q1 &&& (511 : Int64))), (.long (9223372036854775807 : Int64))]) _
                  refine XS.lsub X0.here hx rfl (hb hby d1_103) rfl ?_
                  show oP p e below s₁ (mkF m 104 #[oJ q0, oS, oJ q1, oS, oI p2, oI (p2 &&& (7 : Int32))] [(.long ((9223372036854775807 : Int64) - (q1 &&& (511 : Int64))))]) _
                  exact own_retJ X0 hx Bd.returns (hb hby d1_104) hr
                · show (some (.long ((9223372036854775807 : Int64) - (q1 &&& (511 : Int64)))) : Option Value) = some (.long (fn1 Z q0 q1 p2)) ∧ Fr n0 _ ∧ s₁.heap = h0
                  rw [e0]
                  refine ⟨?_, N0, rfl⟩
                  unfold fn1
                  rw [if_neg hc5, if_neg hc7, if_neg hc9, if_neg hc11, if_neg hc13, if_neg hc15, if_pos hc17]
              · obtain ⟨fs, hr, hrun, hended, hW, hsame⟩ := X0.leave (v := some (.long (q1 &&& (511 : Int64)))) (fun h => by rw [Bd.returns] at h; cases h)
                refine ⟨_, _, pre16 _ ?_, hrun, hended, _, _, rfl, ?_, ⟨_, rfl⟩, hW, hsame.mono (by decide) (by decide)⟩
                · show oP p e below s₁ (mkF m 92 #[oJ q0, oS, oJ q1, oS, oI p2, oI (p2 &&& (7 : Int32))] [(.int (6 : Int32)), (.int (p2 &&& (7 : Int32)))]) _
                  refine XS.icmpYes X0.here hx rfl (pc0 := 92) (pc' := 105) rfl (hb hby d1_92) rfl (feq hc17).2 (by decide) (by decide) ?_
                  show oP p e below s₁ (mkF m 105 #[oJ q0, oS, oJ q1, oS, oI p2, oI (p2 &&& (7 : Int32))] []) _
                  refine XS.lloadN X0.here hx rfl (hb hby d1_105) rfl ?_
                  show oP p e below s₁ (mkF m 106 #[oJ q0, oS, oJ q1, oS, oI p2, oI (p2 &&& (7 : Int32))] [(.long q1)]) _
                  refine X0.ldc2Long hx hown (mvT hZ (hw _ (List.mem_of_getElem? (i := 40) rfl))) (g := (mkF m 106 #[oJ q0, oS, oJ q1, oS, oI p2, oI (p2 &&& (7 : Int32))] [(.long q1)])) rfl (hb hby d1_106) _ ?_
                  show oP p e below s₁ (mkF m 109 #[oJ q0, oS, oJ q1, oS, oI p2, oI (p2 &&& (7 : Int32))] [(.long (511 : Int64)), (.long q1)]) _
                  refine XS.land X0.here hx rfl (hb hby d1_109) rfl ?_
                  show oP p e below s₁ (mkF m 110 #[oJ q0, oS, oJ q1, oS, oI p2, oI (p2 &&& (7 : Int32))] [(.long (q1 &&& (511 : Int64)))]) _
                  exact own_retJ X0 hx Bd.returns (hb hby d1_110) hr
                · show (some (.long (q1 &&& (511 : Int64))) : Option Value) = some (.long (fn1 Z q0 q1 p2)) ∧ Fr n0 _ ∧ s₁.heap = h0
                  rw [e0]
                  refine ⟨?_, N0, rfl⟩
                  unfold fn1
                  rw [if_neg hc5, if_neg hc7, if_neg hc9, if_neg hc11, if_neg hc13, if_neg hc15, if_neg hc17]
theorem d2_0 : decode prog_37_method_6_code 0 = .ok (.invokestatic 58, 3) := by decide +kernel
theorem pd_0 : parseMethodDescriptor "()[Lcom/example/meerkat/meerkat/ResponseCode;" = some ⟨[], some (.array (.object "com/example/meerkat/meerkat/ResponseCode"))⟩ := by decide +kernel
theorem d2_3 : decode prog_37_method_6_code 3 = .ok (.astore_n 2, 1) := by decide +kernel
theorem d2_4 : decode prog_37_method_6_code 4 = .ok (.aload_n 2, 1) := by decide +kernel
theorem d2_5 : decode prog_37_method_6_code 5 = .ok (.arraylength, 1) := by decide +kernel
theorem d2_6 : decode prog_37_method_6_code 6 = .ok (.istore_n 3, 1) := by decide +kernel
theorem d2_7 : decode prog_37_method_6_code 7 = .ok (.iconst 0, 1) := by decide +kernel
theorem d2_8 : decode prog_37_method_6_code 8 = .ok (.istore 4, 2) := by decide +kernel
theorem d2_10 : decode prog_37_method_6_code 10 = .ok (.iload 4, 2) := by decide +kernel
theorem d2_12 : decode prog_37_method_6_code 12 = .ok (.iload_n 3, 1) := by decide +kernel
theorem d2_13 : decode prog_37_method_6_code 13 = .ok (.if_icmp .ge 29, 3) := by decide +kernel
theorem d2_16 : decode prog_37_method_6_code 16 = .ok (.aload_n 2, 1) := by decide +kernel
theorem d2_17 : decode prog_37_method_6_code 17 = .ok (.iload 4, 2) := by decide +kernel
theorem d2_19 : decode prog_37_method_6_code 19 = .ok (.aaload, 1) := by decide +kernel
theorem d2_20 : decode prog_37_method_6_code 20 = .ok (.astore 5, 2) := by decide +kernel
theorem d2_22 : decode prog_37_method_6_code 22 = .ok (.aload 5, 2) := by decide +kernel
theorem d2_24 : decode prog_37_method_6_code 24 = .ok (.getfield 50, 3) := by decide +kernel
theorem d2_27 : decode prog_37_method_6_code 27 = .ok (.i2l, 1) := by decide +kernel
theorem d2_28 : decode prog_37_method_6_code 28 = .ok (.lload_n 0, 1) := by decide +kernel
theorem d2_29 : decode prog_37_method_6_code 29 = .ok (.lcmp, 1) := by decide +kernel
theorem d2_30 : decode prog_37_method_6_code 30 = .ok (.ifCond .ne 6, 3) := by decide +kernel
theorem d2_33 : decode prog_37_method_6_code 33 = .ok (.aload 5, 2) := by decide +kernel
theorem d2_35 : decode prog_37_method_6_code 35 = .ok (.areturn, 1) := by decide +kernel
theorem d2_36 : decode prog_37_method_6_code 36 = .ok (.iinc 4 1, 3) := by decide +kernel
theorem d2_39 : decode prog_37_method_6_code 39 = .ok (.goto (-29), 3) := by decide +kernel
theorem d2_42 : decode prog_37_method_6_code 42 = .ok (.aconst_null, 1) := by decide +kernel
theorem d2_43 : decode prog_37_method_6_code 43 = .ok (.areturn, 1) := by decide +kernel
def fn2 (Z : State) (q0 : Int64) : Value :=
  if (lcmpW (0 : Int64) q0) = (0 : Int32) then
    (.ref (a_LICENSED Z))
  else
    if (lcmpW (1 : Int64) q0) = (0 : Int32) then
      (.ref (a_NOT_LICENSED Z))
    else
      if (lcmpW (2 : Int64) q0) = (0 : Int32) then
        (.ref (a_LICENSED_OLD_KEY Z))
      else
        if (lcmpW (3 : Int64) q0) = (0 : Int32) then
          (.ref (a_ERROR_NOT_MARKET_MANAGED Z))
        else
          if (lcmpW (4 : Int64) q0) = (0 : Int32) then
            (.ref (a_ERROR_SERVER_FAILURE Z))
          else
            if (lcmpW (5 : Int64) q0) = (0 : Int32) then
              (.ref (a_ERROR_OVER_QUOTA Z))
            else
              if (lcmpW (257 : Int64) q0) = (0 : Int32) then
                (.ref (a_ERROR_CONTACTING_SERVER Z))
              else
                if (lcmpW (258 : Int64) q0) = (0 : Int32) then
                  (.ref (a_ERROR_INVALID_PACKAGE_NAME Z))
                else
                  if (lcmpW (259 : Int64) q0) = (0 : Int32) then
                    (.ref (a_ERROR_NON_MATCHING_UID Z))
                  else
                    .null
theorem fn2_ref (Z : State) (q0 : Int64) : (fn2 Z q0).isRef = true := by
  unfold fn2
  repeat' split
  all_goals rfl
theorem ef_2 (m : MethodId) (x0 : Int64) : entryFrame m #[(.long x0)] 6 = mkF m 0 #[.val (.long x0), .second, .unset, .unset, .unset, .unset] [] := by first | (simp [entryFrame, mkF, argsToLocals, Value.category]; done) | rfl
set_option maxRecDepth 65536 in
set_option maxHeartbeats 40000000 in
theorem rm2 (l : Launch) (Z : State) (a0 : Array Value) (hw : ∀ d ∈ tables_1, d.before a0 Z = true) (hS : St Z) (ws : List Jvm.Cond) (q0 : Int64) (h0 : Heap) (n0 : Nat) (O0 : Old Z n0 h0) :
    MetFree l (⟨"com/example/meerkat/meerkat/ResponseCode", "forValue", "(J)Lcom/example/meerkat/meerkat/ResponseCode;"⟩ : MethodName) (head1 (Jvm.Cond.code (⟨"com/example/meerkat/meerkat/ResponseCode", "forValue", "(J)Lcom/example/meerkat/meerkat/ResponseCode;"⟩ : MethodName) prog_37_method_6_code 6 (some (.object "com/example/meerkat/meerkat/ResponseCode")) :: ws) ({ frames := 2, cells := 1, slots := 9, locals := 25 } : Room)) (fun a U => a = #[(.long q0)] ∧ Z.Warmed39 U.vm ∧ U.heap = h0) (fun _ _ _ _ _ => True) (fun _ U o U' => ∃ v L, o = .returned v ∧ own_Q (fun v hE L => v = some (fn2 Z q0) ∧ Fr n0 L ∧ Keep h0 hE []) v U'.heap L ∧ FrameEnd U o U' L ({ frames := 2, cells := 1, slots := 9, locals := 25 } : Room).cells ({ frames := 2, cells := 1, slots := 9, locals := 25 } : Room).slots) := by
  refine MetFree.of_bodySF (plainFor_of_name pn_0) hisR ?_
  intro p e s m args below meth c s₁ Bd hml0 hP hK
  obtain ⟨rfl, hZ, hh⟩ := hP
  have hx := Bd.exec
  have hby := Bd.bytes
  have hml : c.maxLocals = 6 := hml0
  have hown : s.vm.findClass "com/example/meerkat/meerkat/ResponseCode" = some m.cls := findClass_of_methodNamed Bd.named
  have hnm := (name_of_methodNamed Bd.named Bd.method).1
  have X0 : Stand p l e ({ frames := 2, cells := 1, slots := 9, locals := 25 } : Room) s m #[(.long q0)] below meth c s₁ [] 0 0 := Stand.of_body Bd
  have e0 : s₁.heap = h0 := by rw [← hh, Bd.state]; rfl
  have N0 := Fr.nil n0
  have pre0 : ∀ t, Steps p.tables e below (s₁.setTop (mkF m 0 #[oJ q0, oS, oU, oU, oU, oU] [])) t → Steps p.tables e below (s₁.setTop (entryFrame m #[(.long q0)] 6)) t := fun t k => castTop (ef_2 m q0) k
  obtain ⟨_, _, ⟨T18, L18, k18, n18⟩, -, X18, ⟨Lc18, hQ18, l18, y18, z18⟩, st18⟩ := Jvm.LawKit.callS X0 hx (y := (⟨"com/example/meerkat/meerkat/ResponseCode", "values", "()[Lcom/example/meerkat/meerkat/ResponseCode;"⟩ : MethodName)) hown (mvT hZ (hw _ (List.mem_of_getElem? (i := 8) rfl))) (mvT hZ (hw _ (List.mem_of_getElem? (i := 9) rfl))) (mvT hZ (hw _ (List.mem_of_getElem? (i := 6) rfl))) (mvT hZ (hw _ (List.mem_of_getElem? (i := 10) rfl))) (by decide) (backOf (W := 0) (rm3 l Z a0 hw hS []  h0 n0 O0 ) hZ (hw _ (List.mem_of_getElem? (i := 10) rfl)) (hw _ (List.mem_of_getElem? (i := 6) rfl)) (by decide) (by decide)) (g := (mkF m 0 #[oJ q0, oS, oU, oU, oU, oU] [])) rfl (by rw [hml]; rfl) (argsL := []) (rest := []) (lenOf pd_0 rfl) rfl (by show 2 * 0 + _ ≤ _; exact Nat.le_of_eq rfl) (hb hby d2_0) (fun _ _ => ⟨rfl, e0, (by decide : 0 + 1 ≤ _), (by decide : 0 + 9 ≤ _)⟩)
  dsimp only [Pt.U, Pt.locs, Pt.cells, Pt.slots] at X18 l18 y18 z18 st18 hQ18
  subst l18 y18 z18
  obtain ⟨b_18, kb_18, v18, N18q, K18q, po18_0, po18_1⟩ := hQ18
  subst v18
  have N18 := Fr.app N0 N18q
  have O18 := O0.keep K18q all0
  have Kc18 := (Keep.refl h0 []).trans K18q all0
  have g_b_18 : n0 ≤ b_18 := Nat.le_trans (own_old_le O0) po18_0
  have sz_b_18 : h0.size ≤ b_18 := Nat.le_trans (Keep.refl h0 []).1 po18_0
  obtain ⟨T19, X19, e19, st19⟩ := getF X18 hx hZ hown (host := "") (Or.inl (hw _ (List.mem_of_getElem? (i := 32) rfl))) Via.refl rfl ((f_a_LICENSED_value hS).ext O18.2) (g := (mkF m 24 #[oJ q0, oS, oR b_18, oI (9 : Int32), oI (0 : Int32), oR (a_LICENSED Z)] [(.ref (a_LICENSED Z))])) rfl rfl (hb hby d2_24)
  have pre20 : ∀ t, oP p e below T19 (mkF m 30 #[oJ q0, oS, oR b_18, oI (9 : Int32), oI (0 : Int32), oR (a_LICENSED Z)] [(.int (lcmpW (0 : Int64) q0))]) t → oP p e below s₁ (entryFrame m #[(.long q0)] 6) t := fun t k => pre0 t (by
    show oP p e below s₁ (mkF m 0 #[oJ q0, oS, oU, oU, oU, oU] []) _
    refine st18 _ ?_
    show oP p e below T18 (mkF m 3 #[oJ q0, oS, oU, oU, oU, oU] [(.ref b_18)]) _
    refine XS.astoreN X18.here hx rfl (hb hby d2_3) rfl rfl (l' := #[oJ q0, oS, oR b_18, oU, oU, oU]) rfl ?_
    show oP p e below T18 (mkF m 4 #[oJ q0, oS, oR b_18, oU, oU, oU] []) _
    refine XS.aloadN X18.here hx rfl (hb hby d2_4) rfl rfl ?_
    show oP p e below T18 (mkF m 5 #[oJ q0, oS, oR b_18, oU, oU, oU] [(.ref b_18)]) _
    refine own_len X18 hx hZ rfl po18_1 (g := (mkF m 5 #[oJ q0, oS, oR b_18, oU, oU, oU] [(.ref b_18)])) rfl rfl (hb hby d2_5) _ ?_
    show oP p e below T18 (mkF m 6 #[oJ q0, oS, oR b_18, oU, oU, oU] [(.int (9 : Int32))]) _
    refine XS.istoreN X18.here hx rfl (hb hby d2_6) rfl (l' := #[oJ q0, oS, oR b_18, oI (9 : Int32), oU, oU]) rfl ?_
    show oP p e below T18 (mkF m 7 #[oJ q0, oS, oR b_18, oI (9 : Int32), oU, oU] []) _
    refine XS.iconst X18.here hx rfl (hb hby d2_7) ?_
    show oP p e below T18 (mkF m 8 #[oJ q0, oS, oR b_18, oI (9 : Int32), oU, oU] [(.int (0 : Int32))]) _
    refine XS.istore X18.here hx rfl (hb hby d2_8) rfl (l' := #[oJ q0, oS, oR b_18, oI (9 : Int32), oI (0 : Int32), oU]) rfl ?_
    show oP p e below T18 (mkF m 10 #[oJ q0, oS, oR b_18, oI (9 : Int32), oI (0 : Int32), oU] []) _
    refine XS.iload X18.here hx rfl (hb hby d2_10) rfl ?_
    show oP p e below T18 (mkF m 12 #[oJ q0, oS, oR b_18, oI (9 : Int32), oI (0 : Int32), oU] [(.int (0 : Int32))]) _
    refine XS.iloadN X18.here hx rfl (hb hby d2_12) rfl ?_
    show oP p e below T18 (mkF m 13 #[oJ q0, oS, oR b_18, oI (9 : Int32), oI (0 : Int32), oU] [(.int (9 : Int32)), (.int (0 : Int32))]) _
    refine XS.icmpNo X18.here hx rfl (hb hby d2_13) rfl (tlt (by decide : (0 : Int32) < (9 : Int32))).2.1 ?_
    show oP p e below T18 (mkF m 16 #[oJ q0, oS, oR b_18, oI (9 : Int32), oI (0 : Int32), oU] []) _
    refine XS.aloadN X18.here hx rfl (hb hby d2_16) rfl rfl ?_
    show oP p e below T18 (mkF m 17 #[oJ q0, oS, oR b_18, oI (9 : Int32), oI (0 : Int32), oU] [(.ref b_18)]) _
    refine XS.iload X18.here hx rfl (hb hby d2_17) rfl ?_
    show oP p e below T18 (mkF m 19 #[oJ q0, oS, oR b_18, oI (9 : Int32), oI (0 : Int32), oU] [(.int (0 : Int32)), (.ref b_18)]) _
    refine own_aaload X18 hx hZ rfl po18_1 rfl (j := (0 : Int32)) ⟨by decide, by decide⟩ (v := (.ref (a_LICENSED Z))) rfl (g := (mkF m 19 #[oJ q0, oS, oR b_18, oI (9 : Int32), oI (0 : Int32), oU] [(.int (0 : Int32)), (.ref b_18)])) rfl rfl (hb hby d2_19) _ ?_
    show oP p e below T18 (mkF m 20 #[oJ q0, oS, oR b_18, oI (9 : Int32), oI (0 : Int32), oU] [(.ref (a_LICENSED Z))]) _
    refine XS.astore X18.here hx rfl (hb hby d2_20) rfl rfl (l' := #[oJ q0, oS, oR b_18, oI (9 : Int32), oI (0 : Int32), oR (a_LICENSED Z)]) rfl ?_
    show oP p e below T18 (mkF m 22 #[oJ q0, oS, oR b_18, oI (9 : Int32), oI (0 : Int32), oR (a_LICENSED Z)] []) _
    refine XS.aload X18.here hx rfl (hb hby d2_22) rfl rfl ?_
    show oP p e below T18 (mkF m 24 #[oJ q0, oS, oR b_18, oI (9 : Int32), oI (0 : Int32), oR (a_LICENSED Z)] [(.ref (a_LICENSED Z))]) _
    refine st19 _ ?_
    show oP p e below T19 (mkF m 27 #[oJ q0, oS, oR b_18, oI (9 : Int32), oI (0 : Int32), oR (a_LICENSED Z)] [(.int (0 : Int32))]) _
    refine XS.i2l X19.here hx rfl (hb hby d2_27) rfl ?_
    show oP p e below T19 (mkF m 28 #[oJ q0, oS, oR b_18, oI (9 : Int32), oI (0 : Int32), oR (a_LICENSED Z)] [(.long (0 : Int64))]) _
    refine XS.lloadN X19.here hx rfl (hb hby d2_28) rfl ?_
    show oP p e below T19 (mkF m 29 #[oJ q0, oS, oR b_18, oI (9 : Int32), oI (0 : Int32), oR (a_LICENSED Z)] [(.long q0), (.long (0 : Int64))]) _
    refine XS.lcmp X19.here hx rfl (hb hby d2_29) rfl ?_
    exact k)
  by_cases hc21 : (lcmpW (0 : Int64) q0) = (0 : Int32)
  · obtain ⟨fs, hr, hrun, hended, hW, hsame⟩ := X19.leave (v := some (.ref (a_LICENSED Z))) (fun h => by rw [Bd.returns] at h; cases h)
    refine ⟨_, _, pre20 _ ?_, hrun, hended, _, _, rfl, ?_, ⟨_, rfl⟩, hW, hsame.mono (by decide) (by decide)⟩
    · show oP p e below T19 (mkF m 30 #[oJ q0, oS, oR b_18, oI (9 : Int32), oI (0 : Int32), oR (a_LICENSED Z)] [(.int (lcmpW (0 : Int64) q0))]) _
      refine XS.ifNo X19.here hx rfl (hb hby d2_30) rfl ((if0 _ _).trans (teq hc21).2) ?_
      show oP p e below T19 (mkF m 33 #[oJ q0, oS, oR b_18, oI (9 : Int32), oI (0 : Int32), oR (a_LICENSED Z)] []) _
      refine XS.aload X19.here hx rfl (hb hby d2_33) rfl rfl ?_
      show oP p e below T19 (mkF m 35 #[oJ q0, oS, oR b_18, oI (9 : Int32), oI (0 : Int32), oR (a_LICENSED Z)] [(.ref (a_LICENSED Z))]) _
      exact own_retA X19 hx Bd.returns rfl rfl (hb hby d2_35) hr
    · show (some (.ref (a_LICENSED Z)) : Option Value) = some (fn2 Z q0) ∧ Fr n0 _ ∧ Keep h0 T19.heap []
      rw [e19]
      refine ⟨?_, N18, Kc18⟩
      unfold fn2
      rw [if_pos hc21]
  · obtain ⟨T22, X22, e22, st22⟩ := getF X19 hx hZ hown (host := "") (Or.inl (hw _ (List.mem_of_getElem? (i := 32) rfl))) Via.refl e19 ((f_a_NOT_LICENSED_value hS).ext O18.2) (g := (mkF m 24 #[oJ q0, oS, oR b_18, oI (9 : Int32), oI (1 : Int32), oR (a_NOT_LICENSED Z)] [(.ref (a_NOT_LICENSED Z))])) rfl rfl (hb hby d2_24)
    have pre23 : ∀ t, oP p e below T22 (mkF m 30 #[oJ q0, oS, oR b_18, oI (9 : Int32), oI (1 : Int32), oR (a_NOT_LICENSED Z)] [(.int (lcmpW (1 : Int64) q0))]) t → oP p e below s₁ (entryFrame m #[(.long q0)] 6) t := fun t k => pre20 t (by
      show oP p e below T19 (mkF m 30 #[oJ q0, oS, oR b_18, oI (9 : Int32), oI (0 : Int32), oR (a_LICENSED Z)] [(.int (lcmpW (0 : Int64) q0))]) _
      refine XS.ifYes X19.here hx rfl (pc0 := 30) (pc' := 36) rfl (hb hby d2_30) rfl ((if0 _ _).trans (feq hc21).2) (by decide) (by decide) ?_
      show oP p e below T19 (mkF m 36 #[oJ q0, oS, oR b_18, oI (9 : Int32), oI (0 : Int32), oR (a_LICENSED Z)] []) _
      refine XS.iinc X19.here hx rfl (hb hby d2_36) rfl (l' := #[oJ q0, oS, oR b_18, oI (9 : Int32), oI (1 : Int32), oR (a_LICENSED Z)]) rfl ?_
      show oP p e below T19 (mkF m 39 #[oJ q0, oS, oR b_18, oI (9 : Int32), oI (1 : Int32), oR (a_LICENSED Z)] []) _
      refine XS.goto X19.here hx rfl (pc0 := 39) (pc' := 10) rfl (hb hby d2_39) (by decide) (by decide) ?_
      show oP p e below T19 (mkF m 10 #[oJ q0, oS, oR b_18, oI (9 : Int32), oI (1 : Int32), oR (a_LICENSED Z)] []) _
      refine XS.iload X19.here hx rfl (hb hby d2_10) rfl ?_
      show oP p e below T19 (mkF m 12 #[oJ q0, oS, oR b_18, oI (9 : Int32), oI (1 : Int32), oR (a_LICENSED Z)] [(.int (1 : Int32))]) _
      refine XS.iloadN X19.here hx rfl (hb hby d2_12) rfl ?_
      show oP p e below T19 (mkF m 13 #[oJ q0, oS, oR b_18, oI (9 : Int32), oI (1 : Int32), oR (a_LICENSED Z)] [(.int (9 : Int32)), (.int (1 : Int32))]) _
      refine XS.icmpNo X19.here hx rfl (hb hby d2_13) rfl (tlt (by decide : (1 : Int32) < (9 : Int32))).2.1 ?_
      show oP p e below T19 (mkF m 16 #[oJ q0, oS, oR b_18, oI (9 : Int32), oI (1 : Int32), oR (a_LICENSED Z)] []) _
      refine XS.aloadN X19.here hx rfl (hb hby d2_16) rfl rfl ?_
      show oP p e below T19 (mkF m 17 #[oJ q0, oS, oR b_18, oI (9 : Int32), oI (1 : Int32), oR (a_LICENSED Z)] [(.ref b_18)]) _
      refine XS.iload X19.here hx rfl (hb hby d2_17) rfl ?_
      show oP p e below T19 (mkF m 19 #[oJ q0, oS, oR b_18, oI (9 : Int32), oI (1 : Int32), oR (a_LICENSED Z)] [(.int (1 : Int32)), (.ref b_18)]) _
      refine own_aaload X19 hx hZ e19 po18_1 rfl (j := (1 : Int32)) ⟨by decide, by decide⟩ (v := (.ref (a_NOT_LICENSED Z))) rfl (g := (mkF m 19 #[oJ q0, oS, oR b_18, oI (9 : Int32), oI (1 : Int32), oR (a_LICENSED Z)] [(.int (1 : Int32)), (.ref b_18)])) rfl rfl (hb hby d2_19) _ ?_
      show oP p e below T19 (mkF m 20 #[oJ q0, oS, oR b_18, oI (9 : Int32), oI (1 : Int32), oR (a_LICENSED Z)] [(.ref (a_NOT_LICENSED Z))]) _
      refine XS.astore X19.here hx rfl (hb hby d2_20) rfl rfl (l' := #[oJ q0, oS, oR b_18, oI (9 : Int32), oI (1 : Int32), oR (a_NOT_LICENSED Z)]) rfl ?_
      show oP p e below T19 (mkF m 22 #[oJ q0, oS, oR b_18, oI (9 : Int32), oI (1 : Int32), oR (a_NOT_LICENSED Z)] []) _
      refine XS.aload X19.here hx rfl (hb hby d2_22) rfl rfl ?_
      show oP p e below T19 (mkF m 24 #[oJ q0, oS, oR b_18, oI (9 : Int32), oI (1 : Int32), oR (a_NOT_LICENSED Z)] [(.ref (a_NOT_LICENSED Z))]) _
      refine st22 _ ?_
      show oP p e below T22 (mkF m 27 #[oJ q0, oS, oR b_18, oI (9 : Int32), oI (1 : Int32), oR (a_NOT_LICENSED Z)] [(.int (1 : Int32))]) _
      refine XS.i2l X22.here hx rfl (hb hby d2_27) rfl ?_
      show oP p e below T22 (mkF m 28 #[oJ q0, oS, oR b_18, oI (9 : Int32), oI (1 : Int32), oR (a_NOT_LICENSED Z)] [(.long (1 : Int64))]) _
      refine XS.lloadN X22.here hx rfl (hb hby d2_28) rfl ?_
      show oP p e below T22 (mkF m 29 #[oJ q0, oS, oR b_18, oI (9 : Int32), oI (1 : Int32), oR (a_NOT_LICENSED Z)] [(.long q0), (.long (1 : Int64))]) _
      refine XS.lcmp X22.here hx rfl (hb hby d2_29) rfl ?_
      exact k)
    by_cases hc24 : (lcmpW (1 : Int64) q0) = (0 : Int32)
    · obtain ⟨fs, hr, hrun, hended, hW, hsame⟩ := X22.leave (v := some (.ref (a_NOT_LICENSED Z))) (fun h => by rw [Bd.returns] at h; cases h)
      refine ⟨_, _, pre23 _ ?_, hrun, hended, _, _, rfl, ?_, ⟨_, rfl⟩, hW, hsame.mono (by decide) (by decide)⟩
      · show oP p e below T22 (mkF m 30 #[oJ q0, oS, oR b_18, oI (9 : Int32), oI (1 : Int32), oR (a_NOT_LICENSED Z)] [(.int (lcmpW (1 : Int64) q0))]) _
        refine XS.ifNo X22.here hx rfl (hb hby d2_30) rfl ((if0 _ _).trans (teq hc24).2) ?_
        show oP p e below T22 (mkF m 33 #[oJ q0, oS, oR b_18, oI (9 : Int32), oI (1 : Int32), oR (a_NOT_LICENSED Z)] []) _
        refine XS.aload X22.here hx rfl (hb hby d2_33) rfl rfl ?_
        show oP p e below T22 (mkF m 35 #[oJ q0, oS, oR b_18, oI (9 : Int32), oI (1 : Int32), oR (a_NOT_LICENSED Z)] [(.ref (a_NOT_LICENSED Z))]) _
        exact own_retA X22 hx Bd.returns rfl rfl (hb hby d2_35) hr
      · show (some (.ref (a_NOT_LICENSED Z)) : Option Value) = some (fn2 Z q0) ∧ Fr n0 _ ∧ Keep h0 T22.heap []
        rw [e22]
        refine ⟨?_, N18, Kc18⟩
        unfold fn2
        rw [if_neg hc21, if_pos hc24]
    · obtain ⟨T25, X25, e25, st25⟩ := getF X22 hx hZ hown (host := "") (Or.inl (hw _ (List.mem_of_getElem? (i := 32) rfl))) Via.refl e22 ((f_a_LICENSED_OLD_KEY_value hS).ext O18.2) (g := (mkF m 24 #[oJ q0, oS, oR b_18, oI (9 : Int32), oI (2 : Int32), oR (a_LICENSED_OLD_KEY Z)] [(.ref (a_LICENSED_OLD_KEY Z))])) rfl rfl (hb hby d2_24)
      have pre26 : ∀ t, oP p e below T25 (mkF m 30 #[oJ q0, oS, oR b_18, oI (9 : Int32), oI (2 : Int32), oR (a_LICENSED_OLD_KEY Z)] [(.int (lcmpW (2 : Int64) q0))]) t → oP p e below s₁ (entryFrame m #[(.long q0)] 6) t := fun t k => pre23 t (by
        show oP p e below T22 (mkF m 30 #[oJ q0, oS, oR b_18, oI (9 : Int32), oI (1 : Int32), oR (a_NOT_LICENSED Z)] [(.int (lcmpW (1 : Int64) q0))]) _
        refine XS.ifYes X22.here hx rfl (pc0 := 30) (pc' := 36) rfl (hb hby d2_30) rfl ((if0 _ _).trans (feq hc24).2) (by decide) (by decide) ?_
        show oP p e below T22 (mkF m 36 #[oJ q0, oS, oR b_18, oI (9 : Int32), oI (1 : Int32), oR (a_NOT_LICENSED Z)] []) _
        refine XS.iinc X22.here hx rfl (hb hby d2_36) rfl (l' := #[oJ q0, oS, oR b_18, oI (9 : Int32), oI (2 : Int32), oR (a_NOT_LICENSED Z)]) rfl ?_
        show oP p e below T22 (mkF m 39 #[oJ q0, oS, oR b_18, oI (9 : Int32), oI (2 : Int32), oR (a_NOT_LICENSED Z)] []) _
        refine XS.goto X22.here hx rfl (pc0 := 39) (pc' := 10) rfl (hb hby d2_39) (by decide) (by decide) ?_
        show oP p e below T22 (mkF m 10 #[oJ q0, oS, oR b_18, oI (9 : Int32), oI (2 : Int32), oR (a_NOT_LICENSED Z)] []) _
        refine XS.iload X22.here hx rfl (hb hby d2_10) rfl ?_
        show oP p e below T22 (mkF m 12 #[oJ q0, oS, oR b_18, oI (9 : Int32), oI (2 : Int32), oR (a_NOT_LICENSED Z)] [(.int (2 : Int32))]) _
        refine XS.iloadN X22.here hx rfl (hb hby d2_12) rfl ?_
        show oP p e below T22 (mkF m 13 #[oJ q0, oS, oR b_18, oI (9 : Int32), oI (2 : Int32), oR (a_NOT_LICENSED Z)] [(.int (9 : Int32)), (.int (2 : Int32))]) _
        refine XS.icmpNo X22.here hx rfl (hb hby d2_13) rfl (tlt (by decide : (2 : Int32) < (9 : Int32))).2.1 ?_
        show oP p e below T22 (mkF m 16 #[oJ q0, oS, oR b_18, oI (9 : Int32), oI (2 : Int32), oR (a_NOT_LICENSED Z)] []) _
        refine XS.aloadN X22.here hx rfl (hb hby d2_16) rfl rfl ?_
        show oP p e below T22 (mkF m 17 #[oJ q0, oS, oR b_18, oI (9 : Int32), oI (2 : Int32), oR (a_NOT_LICENSED Z)] [(.ref b_18)]) _
        refine XS.iload X22.here hx rfl (hb hby d2_17) rfl ?_
        show oP p e below T22 (mkF m 19 #[oJ q0, oS, oR b_18, oI (9 : Int32), oI (2 : Int32), oR (a_NOT_LICENSED Z)] [(.int (2 : Int32)), (.ref b_18)]) _
        refine own_aaload X22 hx hZ e22 po18_1 rfl (j := (2 : Int32)) ⟨by decide, by decide⟩ (v := (.ref (a_LICENSED_OLD_KEY Z))) rfl (g := (mkF m 19 #[oJ q0, oS, oR b_18, oI (9 : Int32), oI (2 : Int32), oR (a_NOT_LICENSED Z)] [(.int (2 : Int32)), (.ref b_18)])) rfl rfl (hb hby d2_19) _ ?_
        show oP p e below T22 (mkF m 20 #[oJ q0, oS, oR b_18, oI (9 : Int32), oI (2 : Int32), oR (a_NOT_LICENSED Z)] [(.ref (a_LICENSED_OLD_KEY Z))]) _
        refine XS.astore X22.here hx rfl (hb hby d2_20) rfl rfl (l' := #[oJ q0, oS, oR b_18, oI (9 : Int32), oI (2 : Int32), oR (a_LICENSED_OLD_KEY Z)]) rfl ?_
        show oP p e below T22 (mkF m 22 #[oJ q0, oS, oR b_18, oI (9 : Int32), oI (2 : Int32), oR (a_LICENSED_OLD_KEY Z)] []) _
        refine XS.aload X22.here hx rfl (hb hby d2_22) rfl rfl ?_
        show oP p e below T22 (mkF m 24 #[oJ q0, oS, oR b_18, oI (9 : Int32), oI (2 : Int32), oR (a_LICENSED_OLD_KEY Z)] [(.ref (a_LICENSED_OLD_KEY Z))]) _
        refine st25 _ ?_
        show oP p e below T25 (mkF m 27 #[oJ q0, oS, oR b_18, oI (9 : Int32), oI (2 : Int32), oR (a_LICENSED_OLD_KEY Z)] [(.int (2 : Int32))]) _
        refine XS.i2l X25.here hx rfl (hb hby d2_27) rfl ?_
        show oP p e below T25 (mkF m 28 #[oJ q0, oS, oR b_18, oI (9 : Int32), oI (2 : Int32), oR (a_LICENSED_OLD_KEY Z)] [(.long (2 : Int64))]) _
        refine XS.lloadN X25.here hx rfl (hb hby d2_28) rfl ?_
        show oP p e below T25 (mkF m 29 #[oJ q0, oS, oR b_18, oI (9 : Int32), oI (2 : Int32), oR (a_LICENSED_OLD_KEY Z)] [(.long q0), (.long (2 : Int64))]) _
        refine XS.lcmp X25.here hx rfl (hb hby d2_29) rfl ?_
        exact k)
      by_cases hc27 : (lcmpW (2 : Int64) q0) = (0 : Int32)
      · obtain ⟨fs, hr, hrun, hended, hW, hsame⟩ := X25.leave (v := some (.ref (a_LICENSED_OLD_KEY Z))) (fun h => by rw [Bd.returns] at h; cases h)
        refine ⟨_, _, pre26 _ ?_, hrun, hended, _, _, rfl, ?_, ⟨_, rfl⟩, hW, hsame.mono (by decide) (by decide)⟩
        · show oP p e below T25 (mkF m 30 #[oJ q0, oS, oR b_18, oI (9 : Int32), oI (2 : Int32), oR (a_LICENSED_OLD_KEY Z)] [(.int (lcmpW (2 : Int64) q0))]) _
          refine XS.ifNo X25.here hx rfl (hb hby d2_30) rfl ((if0 _ _).trans (teq hc27).2) ?_
          show oP p e below T25 (mkF m 33 #[oJ q0, oS, oR b_18, oI (9 : Int32), oI (2 : Int32), oR (a_LICENSED_OLD_KEY Z)] []) _
          refine XS.aload X25.here hx rfl (hb hby d2_33) rfl rfl ?_
          show oP p e below T25 (mkF m 35 #[oJ q0, oS, oR b_18, oI (9 : Int32), oI (2 : Int32), oR (a_LICENSED_OLD_KEY Z)] [(.ref (a_LICENSED_OLD_KEY Z))]) _
          exact own_retA X25 hx Bd.returns rfl rfl (hb hby d2_35) hr
        · show (some (.ref (a_LICENSED_OLD_KEY Z)) : Option Value) = some (fn2 Z q0) ∧ Fr n0 _ ∧ Keep h0 T25.heap []
          rw [e25]
          refine ⟨?_, N18, Kc18⟩
          unfold fn2
          rw [if_neg hc21, if_neg hc24, if_pos hc27]
      · obtain ⟨T28, X28, e28, st28⟩ := getF X25 hx hZ hown (host := "") (Or.inl (hw _ (List.mem_of_getElem? (i := 32) rfl))) Via.refl e25 ((f_a_ERROR_NOT_MARKET_MANAGED_value hS).ext O18.2) (g := (mkF m 24 #[oJ q0, oS, oR b_18, oI (9 : Int32), oI (3 : Int32), oR (a_ERROR_NOT_MARKET_MANAGED Z)] [(.ref (a_ERROR_NOT_MARKET_MANAGED Z))])) rfl rfl (hb hby d2_24)
        have pre29 : ∀ t, oP p e below T28 (mkF m 30 #[oJ q0, oS, oR b_18, oI (9 : Int32), oI (3 : Int32), oR (a_ERROR_NOT_MARKET_MANAGED Z)] [(.int (lcmpW (3 : Int64) q0))]) t → oP p e below s₁ (entryFrame m #[(.long q0)] 6) t := fun t k => pre26 t (by
          show oP p e below T25 (mkF m 30 #[oJ q0, oS, oR b_18, oI (9 : Int32), oI (2 : Int32), oR (a_LICENSED_OLD_KEY Z)] [(.int (lcmpW (2 : Int64) q0))]) _
          refine XS.ifYes X25.here hx rfl (pc0 := 30) (pc' := 36) rfl (hb hby d2_30) rfl ((if0 _ _).trans (feq hc27).2) (by decide) (by decide) ?_
          show oP p e below T25 (mkF m 36 #[oJ q0, oS, oR b_18, oI (9 : Int32), oI (2 : Int32), oR (a_LICENSED_OLD_KEY Z)] []) _
          refine XS.iinc X25.here hx rfl (hb hby d2_36) rfl (l' := #[oJ q0, oS, oR b_18, oI (9 : Int32), oI (3 : Int32), oR (a_LICENSED_OLD_KEY Z)]) rfl ?_
          show oP p e below T25 (mkF m 39 #[oJ q0, oS, oR b_18, oI (9 : Int32), oI (3 : Int32), oR (a_LICENSED_OLD_KEY Z)] []) _
          refine XS.goto X25.here hx rfl (pc0 := 39) (pc' := 10) rfl (hb hby d2_39) (by decide) (by decide) ?_
          show oP p e below T25 (mkF m 10 #[oJ q0, oS, oR b_18, oI (9 : Int32), oI (3 : Int32), oR (a_LICENSED_OLD_KEY Z)] []) _
          refine XS.iload X25.here hx rfl (hb hby d2_10) rfl ?_
          show oP p e below T25 (mkF m 12 #[oJ q0, oS, oR b_18, oI (9 : Int32), oI (3 : Int32), oR (a_LICENSED_OLD_KEY Z)] [(.int (3 : Int32))]) _
          refine XS.iloadN X25.here hx rfl (hb hby d2_12) rfl ?_
          show oP p e below T25 (mkF m 13 #[oJ q0, oS, oR b_18, oI (9 : Int32), oI (3 : Int32), oR (a_LICENSED_OLD_KEY Z)] [(.int (9 : Int32)), (.int (3 : Int32))]) _
          refine XS.icmpNo X25.here hx rfl (hb hby d2_13) rfl (tlt (by decide : (3 : Int32) < (9 : Int32))).2.1 ?_
          show oP p e below T25 (mkF m 16 #[oJ q0, oS, oR b_18, oI (9 : Int32), oI (3 : Int32), oR (a_LICENSED_OLD_KEY Z)] []) _
          refine XS.aloadN X25.here hx rfl (hb hby d2_16) rfl rfl ?_
          show oP p e below T25 (mkF m 17 #[oJ q0, oS, oR b_18, oI (9 : Int32), oI (3 : Int32), oR (a_LICENSED_OLD_KEY Z)] [(.ref b_18)]) _
          refine XS.iload X25.here hx rfl (hb hby d2_17) rfl ?_
          show oP p e below T25 (mkF m 19 #[oJ q0, oS, oR b_18, oI (9 : Int32), oI (3 : Int32), oR (a_LICENSED_OLD_KEY Z)] [(.int (3 : Int32)), (.ref b_18)]) _
          refine own_aaload X25 hx hZ e25 po18_1 rfl (j := (3 : Int32)) ⟨by decide, by decide⟩ (v := (.ref (a_ERROR_NOT_MARKET_MANAGED Z))) rfl (g := (mkF m 19 #[oJ q0, oS, oR b_18, oI (9 : Int32), oI (3 : Int32), oR (a_LICENSED_OLD_KEY Z)] [(.int (3 : Int32)), (.ref b_18)])) rfl rfl (hb hby d2_19) _ ?_
          show oP p e below T25 (mkF m 20 #[oJ q0, oS, oR b_18, oI (9 : Int32), oI (3 : Int32), oR (a_LICENSED_OLD_KEY Z)] [(.ref (a_ERROR_NOT_MARKET_MANAGED Z))]) _
          refine XS.astore X25.here hx rfl (hb hby d2_20) rfl rfl (l' := #[oJ q0, oS, oR b_18, oI (9 : Int32), oI (3 : Int32), oR (a_ERROR_NOT_MARKET_MANAGED Z)]) rfl ?_
          show oP p e below T25 (mkF m 22 #[oJ q0, oS, oR b_18, oI (9 : Int32), oI (3 : Int32), oR (a_ERROR_NOT_MARKET_MANAGED Z)] []) _
          refine XS.aload X25.here hx rfl (hb hby d2_22) rfl rfl ?_
          show oP p e below T25 (mkF m 24 #[oJ q0, oS, oR b_18, oI (9 : Int32), oI (3 : Int32), oR (a_ERROR_NOT_MARKET_MANAGED Z)] [(.ref (a_ERROR_NOT_MARKET_MANAGED Z))]) _
          refine st28 _ ?_
          show oP p e below T28 (mkF m 27 #[oJ q0, oS, oR b_18, oI (9 : Int32), oI (3 : Int32), oR (a_ERROR_NOT_MARKET_MANAGED Z)] [(.int (3 : Int32))]) _
          refine XS.i2l X28.here hx rfl (hb hby d2_27) rfl ?_
          show oP p e below T28 (mkF m 28 #[oJ q0, oS, oR b_18, oI (9 : Int32), oI (3 : Int32), oR (a_ERROR_NOT_MARKET_MANAGED Z)] [(.long (3 : Int64))]) _
          refine XS.lloadN X28.here hx rfl (hb hby d2_28) rfl ?_
          show oP p e below T28 (mkF m 29 #[oJ q0, oS, oR b_18, oI (9 : Int32), oI (3 : Int32), oR (a_ERROR_NOT_MARKET_MANAGED Z)] [(.long q0), (.long (3 : Int64))]) _
          refine XS.lcmp X28.here hx rfl (hb hby d2_29) rfl ?_
          exact k)
        by_cases hc30 : (lcmpW (3 : Int64) q0) = (0 : Int32)
        · obtain ⟨fs, hr, hrun, hended, hW, hsame⟩ := X28.leave (v := some (.ref (a_ERROR_NOT_MARKET_MANAGED Z))) (fun h => by rw [Bd.returns] at h; cases h)
          refine ⟨_, _, pre29 _ ?_, hrun, hended, _, _, rfl, ?_, ⟨_, rfl⟩, hW, hsame.mono (by decide) (by decide)⟩
          · show oP p e below T28 (mkF m 30 #[oJ q0, oS, oR b_18, oI (9 : Int32), oI (3 : Int32), oR (a_ERROR_NOT_MARKET_MANAGED Z)] [(.int (lcmpW (3 : Int64) q0))]) _
            refine XS.ifNo X28.here hx rfl (hb hby d2_30) rfl ((if0 _ _).trans (teq hc30).2) ?_
            show oP p e below T28 (mkF m 33 #[oJ q0, oS, oR b_18, oI (9 : Int32), oI (3 : Int32), oR (a_ERROR_NOT_MARKET_MANAGED Z)] []) _
            refine XS.aload X28.here hx rfl (hb hby d2_33) rfl rfl ?_
            show oP p e below T28 (mkF m 35 #[oJ q0, oS, oR b_18, oI (9 : Int32), oI (3 : Int32), oR (a_ERROR_NOT_MARKET_MANAGED Z)] [(.ref (a_ERROR_NOT_MARKET_MANAGED Z))]) _
            exact own_retA X28 hx Bd.returns rfl rfl (hb hby d2_35) hr
          · show (some (.ref (a_ERROR_NOT_MARKET_MANAGED Z)) : Option Value) = some (fn2 Z q0) ∧ Fr n0 _ ∧ Keep h0 T28.heap []
            rw [e28]
            refine ⟨?_, N18, Kc18⟩
            unfold fn2
            rw [if_neg hc21, if_neg hc24, if_neg hc27, if_pos hc30]
        · obtain ⟨T31, X31, e31, st31⟩ := getF X28 hx hZ hown (host := "") (Or.inl (hw _ (List.mem_of_getElem? (i := 32) rfl))) Via.refl e28 ((f_a_ERROR_SERVER_FAILURE_value hS).ext O18.2) (g := (mkF m 24 #[oJ q0, oS, oR b_18, oI (9 : Int32), oI (4 : Int32), oR (a_ERROR_SERVER_FAILURE Z)] [(.ref (a_ERROR_SERVER_FAILURE Z))])) rfl rfl (hb hby d2_24)
          have pre32 : ∀ t, oP p e below T31 (mkF m 30 #[oJ q0, oS, oR b_18, oI (9 : Int32), oI (4 : Int32), oR (a_ERROR_SERVER_FAILURE Z)] [(.int (lcmpW (4 : Int64) q0))]) t → oP p e below s₁ (entryFrame m #[(.long q0)] 6) t := fun t k => pre29 t (by
            show oP p e below T28 (mkF m 30 #[oJ q0, oS, oR b_18, oI (9 : Int32), oI (3 : Int32), oR (a_ERROR_NOT_MARKET_MANAGED Z)] [(.int (lcmpW (3 : Int64) q0))]) _
            refine XS.ifYes X28.here hx rfl (pc0 := 30) (pc' := 36) rfl (hb hby d2_30) rfl ((if0 _ _).trans (feq hc30).2) (by decide) (by decide) ?_
            show oP p e below T28 (mkF m 36 #[oJ q0, oS, oR b_18, oI (9 : Int32), oI (3 : Int32), oR (a_ERROR_NOT_MARKET_MANAGED Z)] []) _
            refine XS.iinc X28.here hx rfl (hb hby d2_36) rfl (l' := #[oJ q0, oS, oR b_18, oI (9 : Int32), oI (4 : Int32), oR (a_ERROR_NOT_MARKET_MANAGED Z)]) rfl ?_
            show oP p e below T28 (mkF m 39 #[oJ q0, oS, oR b_18, oI (9 : Int32), oI (4 : Int32), oR (a_ERROR_NOT_MARKET_MANAGED Z)] []) _
            refine XS.goto X28.here hx rfl (pc0 := 39) (pc' := 10) rfl (hb hby d2_39) (by decide) (by decide) ?_
            show oP p e below T28 (mkF m 10 #[oJ q0, oS, oR b_18, oI (9 : Int32), oI (4 : Int32), oR (a_ERROR_NOT_MARKET_MANAGED Z)] []) _
            refine XS.iload X28.here hx rfl (hb hby d2_10) rfl ?_
            show oP p e below T28 (mkF m 12 #[oJ q0, oS, oR b_18, oI (9 : Int32), oI (4 : Int32), oR (a_ERROR_NOT_MARKET_MANAGED Z)] [(.int (4 : Int32))]) _
            refine XS.iloadN X28.here hx rfl (hb hby d2_12) rfl ?_
            show oP p e below T28 (mkF m 13 #[oJ q0, oS, oR b_18, oI (9 : Int32), oI (4 : Int32), oR (a_ERROR_NOT_MARKET_MANAGED Z)] [(.int (9 : Int32)), (.int (4 : Int32))]) _
            refine XS.icmpNo X28.here hx rfl (hb hby d2_13) rfl (tlt (by decide : (4 : Int32) < (9 : Int32))).2.1 ?_
            show oP p e below T28 (mkF m 16 #[oJ q0, oS, oR b_18, oI (9 : Int32), oI (4 : Int32), oR (a_ERROR_NOT_MARKET_MANAGED Z)] []) _
            refine XS.aloadN X28.here hx rfl (hb hby d2_16) rfl rfl ?_
            show oP p e below T28 (mkF m 17 #[oJ q0, oS, oR b_18, oI (9 : Int32), oI (4 : Int32), oR (a_ERROR_NOT_MARKET_MANAGED Z)] [(.ref b_18)]) _
            refine XS.iload X28.here hx rfl (hb hby d2_17) rfl ?_
            show oP p e below T28 (mkF m 19 #[oJ q0, oS, oR b_18, oI (9 : Int32), oI (4 : Int32), oR (a_ERROR_NOT_MARKET_MANAGED Z)] [(.int (4 : Int32)), (.ref b_18)]) _
            refine own_aaload X28 hx hZ e28 po18_1 rfl (j := (4 : Int32)) ⟨by decide, by decide⟩ (v := (.ref (a_ERROR_SERVER_FAILURE Z))) rfl (g := (mkF m 19 #[oJ q0, oS, oR b_18, oI (9 : Int32), oI (4 : Int32), oR (a_ERROR_NOT_MARKET_MANAGED Z)] [(.int (4 : Int32)), (.ref b_18)])) rfl rfl (hb hby d2_19) _ ?_
            show oP p e below T28 (mkF m 20 #[oJ q0, oS, oR b_18, oI (9 : Int32), oI (4 : Int32), oR (a_ERROR_NOT_MARKET_MANAGED Z)] [(.ref (a_ERROR_SERVER_FAILURE Z))]) _
            refine XS.astore X28.here hx rfl (hb hby d2_20) rfl rfl (l' := #[oJ q0, oS, oR b_18, oI (9 : Int32), oI (4 : Int32), oR (a_ERROR_SERVER_FAILURE Z)]) rfl ?_
            show oP p e below T28 (mkF m 22 #[oJ q0, oS, oR b_18, oI (9 : Int32), oI (4 : Int32), oR (a_ERROR_SERVER_FAILURE Z)] []) _
            refine XS.aload X28.here hx rfl (hb hby d2_22) rfl rfl ?_
            show oP p e below T28 (mkF m 24 #[oJ q0, oS, oR b_18, oI (9 : Int32), oI (4 : Int32), oR (a_ERROR_SERVER_FAILURE Z)] [(.ref (a_ERROR_SERVER_FAILURE Z))]) _
            refine st31 _ ?_
            show oP p e below T31 (mkF m 27 #[oJ q0, oS, oR b_18, oI (9 : Int32), oI (4 : Int32), oR (a_ERROR_SERVER_FAILURE Z)] [(.int (4 : Int32))]) _
            refine XS.i2l X31.here hx rfl (hb hby d2_27) rfl ?_
            show oP p e below T31 (mkF m 28 #[oJ q0, oS, oR b_18, oI (9 : Int32), oI (4 : Int32), oR (a_ERROR_SERVER_FAILURE Z)] [(.long (4 : Int64))]) _
            refine XS.lloadN X31.here hx rfl (hb hby d2_28) rfl ?_
            show oP p e below T31 (mkF m 29 #[oJ q0, oS, oR b_18, oI (9 : Int32), oI (4 : Int32), oR (a_ERROR_SERVER_FAILURE Z)] [(.long q0), (.long (4 : Int64))]) _
            refine XS.lcmp X31.here hx rfl (hb hby d2_29) rfl ?_
            exact k)
          by_cases hc33 : (lcmpW (4 : Int64) q0) = (0 : Int32)
          · obtain ⟨fs, hr, hrun, hended, hW, hsame⟩ := X31.leave (v := some (.ref (a_ERROR_SERVER_FAILURE Z))) (fun h => by rw [Bd.returns] at h; cases h)
            refine ⟨_, _, pre32 _ ?_, hrun, hended, _, _, rfl, ?_, ⟨_, rfl⟩, hW, hsame.mono (by decide) (by decide)⟩
            · show oP p e below T31 (mkF m 30 #[oJ q0, oS, oR b_18, oI (9 : Int32), oI (4 : Int32), oR (a_ERROR_SERVER_FAILURE Z)] [(.int (lcmpW (4 : Int64) q0))]) _
              refine XS.ifNo X31.here hx rfl (hb hby d2_30) rfl ((if0 _ _).trans (teq hc33).2) ?_
              show oP p e below T31 (mkF m 33 #[oJ q0, oS, oR b_18, oI (9 : Int32), oI (4 : Int32), oR (a_ERROR_SERVER_FAILURE Z)] []) _
              refine XS.aload X31.here hx rfl (hb hby d2_33) rfl rfl ?_
              show oP p e below T31 (mkF m 35 #[oJ q0, oS, oR b_18, oI (9 : Int32), oI (4 : Int32), oR (a_ERROR_SERVER_FAILURE Z)] [(.ref (a_ERROR_SERVER_FAILURE Z))]) _
              exact own_retA X31 hx Bd.returns rfl rfl (hb hby d2_35) hr
            · show (some (.ref (a_ERROR_SERVER_FAILURE Z)) : Option Value) = some (fn2 Z q0) ∧ Fr n0 _ ∧ Keep h0 T31.heap []
              rw [e31]
              refine ⟨?_, N18, Kc18⟩
              unfold fn2
              rw [if_neg hc21, if_neg hc24, if_neg hc27, if_neg hc30, if_pos hc33]
          · obtain ⟨T34, X34, e34, st34⟩ := getF X31 hx hZ hown (host := "") (Or.inl (hw _ (List.mem_of_getElem? (i := 32) rfl))) Via.refl e31 ((f_a_ERROR_OVER_QUOTA_value hS).ext O18.2) (g := (mkF m 24 #[oJ q0, oS, oR b_18, oI (9 : Int32), oI (5 : Int32), oR (a_ERROR_OVER_QUOTA Z)] [(.ref (a_ERROR_OVER_QUOTA Z))])) rfl rfl (hb hby d2_24)
            have pre35 : ∀ t, oP p e below T34 (mkF m 30 #[oJ q0, oS, oR b_18, oI (9 : Int32), oI (5 : Int32), oR (a_ERROR_OVER_QUOTA Z)] [(.int (lcmpW (5 : Int64) q0))]) t → oP p e below s₁ (entryFrame m #[(.long q0)] 6) t := fun t k => pre32 t (by
              show oP p e below T31 (mkF m 30 #[oJ q0, oS, oR b_18, oI (9 : Int32), oI (4 : Int32), oR (a_ERROR_SERVER_FAILURE Z)] [(.int (lcmpW (4 : Int64) q0))]) _
              refine XS.ifYes X31.here hx rfl (pc0 := 30) (pc' := 36) rfl (hb hby d2_30) rfl ((if0 _ _).trans (feq hc33).2) (by decide) (by decide) ?_
              show oP p e below T31 (mkF m 36 #[oJ q0, oS, oR b_18, oI (9 : Int32), oI (4 : Int32), oR (a_ERROR_SERVER_FAILURE Z)] []) _
              refine XS.iinc X31.here hx rfl (hb hby d2_36) rfl (l' := #[oJ q0, oS, oR b_18, oI (9 : Int32), oI (5 : Int32), oR (a_ERROR_SERVER_FAILURE Z)]) rfl ?_
              show oP p e below T31 (mkF m 39 #[oJ q0, oS, oR b_18, oI (9 : Int32), oI (5 : Int32), oR (a_ERROR_SERVER_FAILURE Z)] []) _
              refine XS.goto X31.here hx rfl (pc0 := 39) (pc' := 10) rfl (hb hby d2_39) (by decide) (by decide) ?_
              show oP p e below T31 (mkF m 10 #[oJ q0, oS, oR b_18, oI (9 : Int32), oI (5 : Int32), oR (a_ERROR_SERVER_FAILURE Z)] []) _
              refine XS.iload X31.here hx rfl (hb hby d2_10) rfl ?_
              show oP p e below T31 (mkF m 12 #[oJ q0, oS, oR b_18, oI (9 : Int32), oI (5 : Int32), oR (a_ERROR_SERVER_FAILURE Z)] [(.int (5 : Int32))]) _
              refine XS.iloadN X31.here hx rfl (hb hby d2_12) rfl ?_
              show oP p e below T31 (mkF m 13 #[oJ q0, oS, oR b_18, oI (9 : Int32), oI (5 : Int32), oR (a_ERROR_SERVER_FAILURE Z)] [(.int (9 : Int32)), (.int (5 : Int32))]) _
              refine XS.icmpNo X31.here hx rfl (hb hby d2_13) rfl (tlt (by decide : (5 : Int32) < (9 : Int32))).2.1 ?_
              show oP p e below T31 (mkF m 16 #[oJ q0, oS, oR b_18, oI (9 : Int32), oI (5 : Int32), oR (a_ERROR_SERVER_FAILURE Z)] []) _
              refine XS.aloadN X31.here hx rfl (hb hby d2_16) rfl rfl ?_
              show oP p e below T31 (mkF m 17 #[oJ q0, oS, oR b_18, oI (9 : Int32), oI (5 : Int32), oR (a_ERROR_SERVER_FAILURE Z)] [(.ref b_18)]) _
              refine XS.iload X31.here hx rfl (hb hby d2_17) rfl ?_
              show oP p e below T31 (mkF m 19 #[oJ q0, oS, oR b_18, oI (9 : Int32), oI (5 : Int32), oR (a_ERROR_SERVER_FAILURE Z)] [(.int (5 : Int32)), (.ref b_18)]) _
              refine own_aaload X31 hx hZ e31 po18_1 rfl (j := (5 : Int32)) ⟨by decide, by decide⟩ (v := (.ref (a_ERROR_OVER_QUOTA Z))) rfl (g := (mkF m 19 #[oJ q0, oS, oR b_18, oI (9 : Int32), oI (5 : Int32), oR (a_ERROR_SERVER_FAILURE Z)] [(.int (5 : Int32)), (.ref b_18)])) rfl rfl (hb hby d2_19) _ ?_
              show oP p e below T31 (mkF m 20 #[oJ q0, oS, oR b_18, oI (9 : Int32), oI (5 : Int32), oR (a_ERROR_SERVER_FAILURE Z)] [(.ref (a_ERROR_OVER_QUOTA Z))]) _
              refine XS.astore X31.here hx rfl (hb hby d2_20) rfl rfl (l' := #[oJ q0, oS, oR b_18, oI (9 : Int32), oI (5 : Int32), oR (a_ERROR_OVER_QUOTA Z)]) rfl ?_
              show oP p e below T31 (mkF m 22 #[oJ q0, oS, oR b_18, oI (9 : Int32), oI (5 : Int32), oR (a_ERROR_OVER_QUOTA Z)] []) _
              refine XS.aload X31.here hx rfl (hb hby d2_22) rfl rfl ?_
              show oP p e below T31 (mkF m 24 #[oJ q0, oS, oR b_18, oI (9 : Int32), oI (5 : Int32), oR (a_ERROR_OVER_QUOTA Z)] [(.ref (a_ERROR_OVER_QUOTA Z))]) _
              refine st34 _ ?_
              show oP p e below T34 (mkF m 27 #[oJ q0, oS, oR b_18, oI (9 : Int32), oI (5 : Int32), oR (a_ERROR_OVER_QUOTA Z)] [(.int (5 : Int32))]) _
              refine XS.i2l X34.here hx rfl (hb hby d2_27) rfl ?_
              show oP p e below T34 (mkF m 28 #[oJ q0, oS, oR b_18, oI (9 : Int32), oI (5 : Int32), oR (a_ERROR_OVER_QUOTA Z)] [(.long (5 : Int64))]) _
              refine XS.lloadN X34.here hx rfl (hb hby d2_28) rfl ?_
              show oP p e below T34 (mkF m 29 #[oJ q0, oS, oR b_18, oI (9 : Int32), oI (5 : Int32), oR (a_ERROR_OVER_QUOTA Z)] [(.long q0), (.long (5 : Int64))]) _
              refine XS.lcmp X34.here hx rfl (hb hby d2_29) rfl ?_
              exact k)
            by_cases hc36 : (lcmpW (5 : Int64) q0) = (0 : Int32)
            · obtain ⟨fs, hr, hrun, hended, hW, hsame⟩ := X34.leave (v := some (.ref (a_ERROR_OVER_QUOTA Z))) (fun h => by rw [Bd.returns] at h; cases h)
              refine ⟨_, _, pre35 _ ?_, hrun, hended, _, _, rfl, ?_, ⟨_, rfl⟩, hW, hsame.mono (by decide) (by decide)⟩
              · show oP p e below T34 (mkF m 30 #[oJ q0, oS, oR b_18, oI (9 : Int32), oI (5 : Int32), oR (a_ERROR_OVER_QUOTA Z)] [(.int (lcmpW (5 : Int64) q0))]) _
                refine XS.ifNo X34.here hx rfl (hb hby d2_30) rfl ((if0 _ _).trans (teq hc36).2) ?_
                show oP p e below T34 (mkF m 33 #[oJ q0, oS, oR b_18, oI (9 : Int32), oI (5 : Int32), oR (a_ERROR_OVER_QUOTA Z)] []) _
                refine XS.aload X34.here hx rfl (hb hby d2_33) rfl rfl ?_
                show oP p e below T34 (mkF m 35 #[oJ q0, oS, oR b_18, oI (9 : Int32), oI (5 : Int32), oR (a_ERROR_OVER_QUOTA Z)] [(.ref (a_ERROR_OVER_QUOTA Z))]) _
                exact own_retA X34 hx Bd.returns rfl rfl (hb hby d2_35) hr
              · show (some (.ref (a_ERROR_OVER_QUOTA Z)) : Option Value) = some (fn2 Z q0) ∧ Fr n0 _ ∧ Keep h0 T34.heap []
                rw [e34]
                refine ⟨?_, N18, Kc18⟩
                unfold fn2
                rw [if_neg hc21, if_neg hc24, if_neg hc27, if_neg hc30, if_neg hc33, if_pos hc36]
            · obtain ⟨T37, X37, e37, st37⟩ := getF X34 hx hZ hown (host := "") (Or.inl (hw _ (List.mem_of_getElem? (i := 32) rfl))) Via.refl e34 ((f_a_ERROR_CONTACTING_SERVER_value hS).ext O18.2) (g := (mkF m 24 #[oJ q0, oS, oR b_18, oI (9 : Int32), oI (6 : Int32), oR (a_ERROR_CONTACTING_SERVER Z)] [(.ref (a_ERROR_CONTACTING_SERVER Z))])) rfl rfl (hb hby d2_24)
              have pre38 : ∀ t, oP p e below T37 (mkF m 30 #[oJ q0, oS, oR b_18, oI (9 : Int32), oI (6 : Int32), oR (a_ERROR_CONTACTING_SERVER Z)] [(.int (lcmpW (257 : Int64) q0))]) t → oP p e below s₁ (entryFrame m #[(.long q0)] 6) t := fun t k => pre35 t (by
                show oP p e below T34 (mkF m 30 #[oJ q0, oS, oR b_18, oI (9 : Int32), oI (5 : Int32), oR (a_ERROR_OVER_QUOTA Z)] [(.int (lcmpW (5 : Int64) q0))]) _
                refine XS.ifYes X34.here hx rfl (pc0 := 30) (pc' := 36) rfl (hb hby d2_30) rfl ((if0 _ _).trans (feq hc36).2) (by decide) (by decide) ?_
                show oP p e below T34 (mkF m 36 #[oJ q0, oS, oR b_18, oI (9 : Int32), oI (5 : Int32), oR (a_ERROR_OVER_QUOTA Z)] []) _
                refine XS.iinc X34.here hx rfl (hb hby d2_36) rfl (l' := #[oJ q0, oS, oR b_18, oI (9 : Int32), oI (6 : Int32), oR (a_ERROR_OVER_QUOTA Z)]) rfl ?_
                show oP p e below T34 (mkF m 39 #[oJ q0, oS, oR b_18, oI (9 : Int32), oI (6 : Int32), oR (a_ERROR_OVER_QUOTA Z)] []) _
                refine XS.goto X34.here hx rfl (pc0 := 39) (pc' := 10) rfl (hb hby d2_39) (by decide) (by decide) ?_
                show oP p e below T34 (mkF m 10 #[oJ q0, oS, oR b_18, oI (9 : Int32), oI (6 : Int32), oR (a_ERROR_OVER_QUOTA Z)] []) _
                refine XS.iload X34.here hx rfl (hb hby d2_10) rfl ?_
                show oP p e below T34 (mkF m 12 #[oJ q0, oS, oR b_18, oI (9 : Int32), oI (6 : Int32), oR (a_ERROR_OVER_QUOTA Z)] [(.int (6 : Int32))]) _
                refine XS.iloadN X34.here hx rfl (hb hby d2_12) rfl ?_
                show oP p e below T34 (mkF m 13 #[oJ q0, oS, oR b_18, oI (9 : Int32), oI (6 : Int32), oR (a_ERROR_OVER_QUOTA Z)] [(.int (9 : Int32)), (.int (6 : Int32))]) _
                refine XS.icmpNo X34.here hx rfl (hb hby d2_13) rfl (tlt (by decide : (6 : Int32) < (9 : Int32))).2.1 ?_
                show oP p e below T34 (mkF m 16 #[oJ q0, oS, oR b_18, oI (9 : Int32), oI (6 : Int32), oR (a_ERROR_OVER_QUOTA Z)] []) _
                refine XS.aloadN X34.here hx rfl (hb hby d2_16) rfl rfl ?_
                show oP p e below T34 (mkF m 17 #[oJ q0, oS, oR b_18, oI (9 : Int32), oI (6 : Int32), oR (a_ERROR_OVER_QUOTA Z)] [(.ref b_18)]) _
                refine XS.iload X34.here hx rfl (hb hby d2_17) rfl ?_
                show oP p e below T34 (mkF m 19 #[oJ q0, oS, oR b_18, oI (9 : Int32), oI (6 : Int32), oR (a_ERROR_OVER_QUOTA Z)] [(.int (6 : Int32)), (.ref b_18)]) _
                refine own_aaload X34 hx hZ e34 po18_1 rfl (j := (6 : Int32)) ⟨by decide, by decide⟩ (v := (.ref (a_ERROR_CONTACTING_SERVER Z))) rfl (g := (mkF m 19 #[oJ q0, oS, oR b_18, oI (9 : Int32), oI (6 : Int32), oR (a_ERROR_OVER_QUOTA Z)] [(.int (6 : Int32)), (.ref b_18)])) rfl rfl (hb hby d2_19) _ ?_
                show oP p e below T34 (mkF m 20 #[oJ q0, oS, oR b_18, oI (9 : Int32), oI (6 : Int32), oR (a_ERROR_OVER_QUOTA Z)] [(.ref (a_ERROR_CONTACTING_SERVER Z))]) _
                refine XS.astore X34.here hx rfl (hb hby d2_20) rfl rfl (l' := #[oJ q0, oS, oR b_18, oI (9 : Int32), oI (6 : Int32), oR (a_ERROR_CONTACTING_SERVER Z)]) rfl ?_
                show oP p e below T34 (mkF m 22 #[oJ q0, oS, oR b_18, oI (9 : Int32), oI (6 : Int32), oR (a_ERROR_CONTACTING_SERVER Z)] []) _
                refine XS.aload X34.here hx rfl (hb hby d2_22) rfl rfl ?_
                show oP p e below T34 (mkF m 24 #[oJ q0, oS, oR b_18, oI (9 : Int32), oI (6 : Int32), oR (a_ERROR_CONTACTING_SERVER Z)] [(.ref (a_ERROR_CONTACTING_SERVER Z))]) _
                refine st37 _ ?_
                show oP p e below T37 (mkF m 27 #[oJ q0, oS, oR b_18, oI (9 : Int32), oI (6 : Int32), oR (a_ERROR_CONTACTING_SERVER Z)] [(.int (257 : Int32))]) _
                refine XS.i2l X37.here hx rfl (hb hby d2_27) rfl ?_
                show oP p e below T37 (mkF m 28 #[oJ q0, oS, oR b_18, oI (9 : Int32), oI (6 : Int32), oR (a_ERROR_CONTACTING_SERVER Z)] [(.long (257 : Int64))]) _
                refine XS.lloadN X37.here hx rfl (hb hby d2_28) rfl ?_
                show oP p e below T37 (mkF m 29 #[oJ q0, oS, oR b_18, oI (9 : Int32), oI (6 : Int32), oR (a_ERROR_CONTACTING_SERVER Z)] [(.long q0), (.long (257 : Int64))]) _
                refine XS.lcmp X37.here hx rfl (hb hby d2_29) rfl ?_
                exact k)
              by_cases hc39 : (lcmpW (257 : Int64) q0) = (0 : Int32)
              · obtain ⟨fs, hr, hrun, hended, hW, hsame⟩ := X37.leave (v := some (.ref (a_ERROR_CONTACTING_SERVER Z))) (fun h => by rw [Bd.returns] at h; cases h)
                refine ⟨_, _, pre38 _ ?_, hrun, hended, _, _, rfl, ?_, ⟨_, rfl⟩, hW, hsame.mono (by decide) (by decide)⟩
                · show oP p e below T37 (mkF m 30 #[oJ q0, oS, oR b_18, oI (9 : Int32), oI (6 : Int32), oR (a_ERROR_CONTACTING_SERVER Z)] [(.int (lcmpW (257 : Int64) q0))]) _
                  refine XS.ifNo X37.here hx rfl (hb hby d2_30) rfl ((if0 _ _).trans (teq hc39).2) ?_
                  show oP p e below T37 (mkF m 33 #[oJ q0, oS, oR b_18, oI (9 : Int32), oI (6 : Int32), oR (a_ERROR_CONTACTING_SERVER Z)] []) _
                  refine XS.aload X37.here hx rfl (hb hby d2_33) rfl rfl ?_
                  show oP p e below T37 (mkF m 35 #[oJ q0, oS, oR b_18, oI (9 : Int32), oI (6 : Int32), oR (a_ERROR_CONTACTING_SERVER Z)] [(.ref (a_ERROR_CONTACTING_SERVER Z))]) _
                  exact own_retA X37 hx Bd.returns rfl rfl (hb hby d2_35) hr
                · show (some (.ref (a_ERROR_CONTACTING_SERVER Z)) : Option Value) = some (fn2 Z q0) ∧ Fr n0 _ ∧ Keep h0 T37.heap []
                  rw [e37]
                  refine ⟨?_, N18, Kc18⟩
                  unfold fn2
                  rw [if_neg hc21, if_neg hc24, if_neg hc27, if_neg hc30, if_neg hc33, if_neg hc36, if_pos hc39]
              · obtain ⟨T40, X40, e40, st40⟩ := getF X37 hx hZ hown (host := "") (Or.inl (hw _ (List.mem_of_getElem? (i := 32) rfl))) Via.refl e37 ((f_a_ERROR_INVALID_PACKAGE_NAME_value hS).ext O18.2) (g := (mkF m 24 #[oJ q0, oS, oR b_18, oI (9 : Int32), oI (7 : Int32), oR (a_ERROR_INVALID_PACKAGE_NAME Z)] [(.ref (a_ERROR_INVALID_PACKAGE_NAME Z))])) rfl rfl (hb hby d2_24)
                have pre41 : ∀ t, oP p e below T40 (mkF m 30 #[oJ q0, oS, oR b_18, oI (9 : Int32), oI (7 : Int32), oR (a_ERROR_INVALID_PACKAGE_NAME Z)] [(.int (lcmpW (258 : Int64) q0))]) t → oP p e below s₁ (entryFrame m #[(.long q0)] 6) t := fun t k => pre38 t (by
                  show oP p e below T37 (mkF m 30 #[oJ q0, oS, oR b_18, oI (9 : Int32), oI (6 : Int32), oR (a_ERROR_CONTACTING_SERVER Z)] [(.int (lcmpW (257 : Int64) q0))]) _
                  refine XS.ifYes X37.here hx rfl (pc0 := 30) (pc' := 36) rfl (hb hby d2_30) rfl ((if0 _ _).trans (feq hc39).2) (by decide) (by decide) ?_
                  show oP p e below T37 (mkF m 36 #[oJ q0, oS, oR b_18, oI (9 : Int32), oI (6 : Int32), oR (a_ERROR_CONTACTING_SERVER Z)] []) _
                  refine XS.iinc X37.here hx rfl (hb hby d2_36) rfl (l' := #[oJ q0, oS, oR b_18, oI (9 : Int32), oI (7 : Int32), oR (a_ERROR_CONTACTING_SERVER Z)]) rfl ?_
                  show oP p e below T37 (mkF m 39 #[oJ q0, oS, oR b_18, oI (9 : Int32), oI (7 : Int32), oR (a_ERROR_CONTACTING_SERVER Z)] []) _
                  refine XS.goto X37.here hx rfl (pc0 := 39) (pc' := 10) rfl (hb hby d2_39) (by decide) (by decide) ?_
                  show oP p e below T37 (mkF m 10 #[oJ q0, oS, oR b_18, oI (9 : Int32), oI (7 : Int32), oR (a_ERROR_CONTACTING_SERVER Z)] []) _
                  refine XS.iload X37.here hx rfl (hb hby d2_10) rfl ?_
                  show oP p e below T37 (mkF m 12 #[oJ q0, oS, oR b_18, oI (9 : Int32), oI (7 : Int32), oR (a_ERROR_CONTACTING_SERVER Z)] [(.int (7 : Int32))]) _
                  refine XS.iloadN X37.here hx rfl (hb hby d2_12) rfl ?_
                  show oP p e below T37 (mkF m 13 #[oJ q0, oS, oR b_18, oI (9 : Int32), oI (7 : Int32), oR (a_ERROR_CONTACTING_SERVER Z)] [(.int (9 : Int32)), (.int (7 : Int32))]) _
                  refine XS.icmpNo X37.here hx rfl (hb hby d2_13) rfl (tlt (by decide : (7 : Int32) < (9 : Int32))).2.1 ?_
                  show oP p e below T37 (mkF m 16 #[oJ q0, oS, oR b_18, oI (9 : Int32), oI (7 : Int32), oR (a_ERROR_CONTACTING_SERVER Z)] []) _
                  refine XS.aloadN X37.here hx rfl (hb hby d2_16) rfl rfl ?_
                  show oP p e below T37 (mkF m 17 #[oJ q0, oS, oR b_18, oI (9 : Int32), oI (7 : Int32), oR (a_ERROR_CONTACTING_SERVER Z)] [(.ref b_18)]) _
                  refine XS.iload X37.here hx rfl (hb hby d2_17) rfl ?_
                  show oP p e below T37 (mkF m 19 #[oJ q0, oS, oR b_18, oI (9 : Int32), oI (7 : Int32), oR (a_ERROR_CONTACTING_SERVER Z)] [(.int (7 : Int32)), (.ref b_18)]) _
                  refine own_aaload X37 hx hZ e37 po18_1 rfl (j := (7 : Int32)) ⟨by decide, by decide⟩ (v := (.ref (a_ERROR_INVALID_PACKAGE_NAME Z))) rfl (g := (mkF m 19 #[oJ q0, oS, oR b_18, oI (9 : Int32), oI (7 : Int32), oR (a_ERROR_CONTACTING_SERVER Z)] [(.int (7 : Int32)), (.ref b_18)])) rfl rfl (hb hby d2_19) _ ?_
                  show oP p e below T37 (mkF m 20 #[oJ q0, oS, oR b_18, oI (9 : Int32), oI (7 : Int32), oR (a_ERROR_CONTACTING_SERVER Z)] [(.ref (a_ERROR_INVALID_PACKAGE_NAME Z))]) _
                  refine XS.astore X37.here hx rfl (hb hby d2_20) rfl rfl (l' := #[oJ q0, oS, oR b_18, oI (9 : Int32), oI (7 : Int32), oR (a_ERROR_INVALID_PACKAGE_NAME Z)]) rfl ?_
                  show oP p e below T37 (mkF m 22 #[oJ q0, oS, oR b_18, oI (9 : Int32), oI (7 : Int32), oR (a_ERROR_INVALID_PACKAGE_NAME Z)] []) _
                  refine XS.aload X37.here hx rfl (hb hby d2_22) rfl rfl ?_
                  show oP p e below T37 (mkF m 24 #[oJ q0, oS, oR b_18, oI (9 : Int32), oI (7 : Int32), oR (a_ERROR_INVALID_PACKAGE_NAME Z)] [(.ref (a_ERROR_INVALID_PACKAGE_NAME Z))]) _
                  refine st40 _ ?_
                  show oP p e below T40 (mkF m 27 #[oJ q0, oS, oR b_18, oI (9 : Int32), oI (7 : Int32), oR (a_ERROR_INVALID_PACKAGE_NAME Z)] [(.int (258 : Int32))]) _
                  refine XS.i2l X40.here hx rfl (hb hby d2_27) rfl ?_
                  show oP p e below T40 (mkF m 28 #[oJ q0, oS, oR b_18, oI (9 : Int32), oI (7 : Int32), oR (a_ERROR_INVALID_PACKAGE_NAME Z)] [(.long (258 : Int64))]) _
                  refine XS.lloadN X40.here hx rfl (hb hby d2_28) rfl ?_
                  show oP p e below T40 (mkF m 29 #[oJ q0, oS, oR b_18, oI (9 : Int32), oI (7 : Int32), oR (a_ERROR_INVALID_PACKAGE_NAME Z)] [(.long q0), (.long (258 : Int64))]) _
                  refine XS.lcmp X40.here hx rfl (hb hby d2_29) rfl ?_
                  exact k)
                by_cases hc42 : (lcmpW (258 : Int64) q0) = (0 : Int32)
                · obtain ⟨fs, hr, hrun, hended, hW, hsame⟩ := X40.leave (v := some (.ref (a_ERROR_INVALID_PACKAGE_NAME Z))) (fun h => by rw [Bd.returns] at h; cases h)
                  refine ⟨_, _, pre41 _ ?_, hrun, hended, _, _, rfl, ?_, ⟨_, rfl⟩, hW, hsame.mono (by decide) (by decide)⟩
                  · show oP p e below T40 (mkF m 30 #[oJ q0, oS, oR b_18, oI (9 : Int32), oI (7 : Int32), oR (a_ERROR_INVALID_PACKAGE_NAME Z)] [(.int (lcmpW (258 : Int64) q0))]) _
                    refine XS.ifNo X40.here hx rfl (hb hby d2_30) rfl ((if0 _ _).trans (teq hc42).2) ?_
                    show oP p e below T40 (mkF m 33 #[oJ q0, oS, oR b_18, oI (9 : Int32), oI (7 : Int32), oR (a_ERROR_INVALID_PACKAGE_NAME Z)] []) _
                    refine XS.aload X40.here hx rfl (hb hby d2_33) rfl rfl ?_
                    show oP p e below T40 (mkF m 35 #[oJ q0, oS, oR b_18, oI (9 : Int32), oI (7 : Int32), oR (a_ERROR_INVALID_PACKAGE_NAME Z)] [(.ref (a_ERROR_INVALID_PACKAGE_NAME Z))]) _
                    exact own_retA X40 hx Bd.returns rfl rfl (hb hby d2_35) hr
                  · show (some (.ref (a_ERROR_INVALID_PACKAGE_NAME Z)) : Option Value) = some (fn2 Z q0) ∧ Fr n0 _ ∧ Keep h0 T40.heap []
                    rw [e40]
                    refine ⟨?_, N18, Kc18⟩
                    unfold fn2
                    rw [if_neg hc21, if_neg hc24, if_neg hc27, if_neg hc30, if_neg hc33, if_neg hc36, if_neg hc39, if_pos hc42]
                · obtain ⟨T43, X43, e43, st43⟩ := getF X40 hx hZ hown (host := "") (Or.inl (hw _ (List.mem_of_getElem? (i := 32) rfl))) Via.refl e40 ((f_a_ERROR_NON_MATCHING_UID_value hS).ext O18.2) (g := (mkF m 24 #[oJ q0, oS, oR b_18, oI (9 : Int32), oI (8 : Int32), oR (a_ERROR_NON_MATCHING_UID Z)] [(.ref (a_ERROR_NON_MATCHING_UID Z))])) rfl rfl (hb hby d2_24)
                  have pre44 : ∀ t, oP p e below T43 (mkF m 30 #[oJ q0, oS, oR b_18, oI (9 : Int32), oI (8 : Int32), oR (a_ERROR_NON_MATCHING_UID Z)] [(.int (lcmpW (259 : Int64) q0))]) t → oP p e below s₁ (entryFrame m #[(.long q0)] 6) t := fun t k => pre41 t (by
                    show oP p e below T40 (mkF m 30 #[oJ q0, oS, oR b_18, oI (9 : Int32), oI (7 : Int32), oR (a_ERROR_INVALID_PACKAGE_NAME Z)] [(.int (lcmpW (258 : Int64) q0))]) _
                    refine XS.ifYes X40.here hx rfl (pc0 := 30) (pc' := 36) rfl (hb hby d2_30) rfl ((if0 _ _).trans (feq hc42).2) (by decide) (by decide) ?_
                    show oP p e below T40 (mkF m 36 #[oJ q0, oS, oR b_18, oI (9 : Int32), oI (7 : Int32), oR (a_ERROR_INVALID_PACKAGE_NAME Z)] []) _
                    refine XS.iinc X40.here hx rfl (hb hby d2_36) rfl (l' := #[oJ q0, oS, oR b_18, oI (9 : Int32), oI (8 : Int32), oR (a_ERROR_INVALID_PACKAGE_NAME Z)]) rfl ?_
                    show oP p e below T40 (mkF m 39 #[oJ q0, oS, oR b_18, oI (9 : Int32), oI (8 : Int32), oR (a_ERROR_INVALID_PACKAGE_NAME Z)] []) _
                    refine XS.goto X40.here hx rfl (pc0 := 39) (pc' := 10) rfl (hb hby d2_39) (by decide) (by decide) ?_
                    show oP p e below T40 (mkF m 10 #[oJ q0, oS, oR b_18, oI (9 : Int32), oI (8 : Int32), oR (a_ERROR_INVALID_PACKAGE_NAME Z)] []) _
                    refine XS.iload X40.here hx rfl (hb hby d2_10) rfl ?_
                    show oP p e below T40 (mkF m 12 #[oJ q0, oS, oR b_18, oI (9 : Int32), oI (8 : Int32), oR (a_ERROR_INVALID_PACKAGE_NAME Z)] [(.int (8 : Int32))]) _
                    refine XS.iloadN X40.here hx rfl (hb hby d2_12) rfl ?_
                    show oP p e below T40 (mkF m 13 #[oJ q0, oS, oR b_18, oI (9 : Int32), oI (8 : Int32), oR (a_ERROR_INVALID_PACKAGE_NAME Z)] [(.int (9 : Int32)), (.int (8 : Int32))]) _
                    refine XS.icmpNo X40.here hx rfl (hb hby d2_13) rfl (tlt (by decide : (8 : Int32) < (9 : Int32))).2.1 ?_
                    show oP p e below T40 (mkF m 16 #[oJ q0, oS, oR b_18, oI (9 : Int32), oI (8 : Int32), oR (a_ERROR_INVALID_PACKAGE_NAME Z)] []) _
                    refine XS.aloadN X40.here hx rfl (hb hby d2_16) rfl rfl ?_
                    show oP p e below T40 (mkF m 17 #[oJ q0, oS, oR b_18, oI (9 : Int32), oI (8 : Int32), oR (a_ERROR_INVALID_PACKAGE_NAME Z)] [(.ref b_18)]) _
                    refine XS.iload X40.here hx rfl (hb hby d2_17) rfl ?_
                    show oP p e below T40 (mkF m 19 #[oJ q0, oS, oR b_18, oI (9 : Int32), oI (8 : Int32), oR (a_ERROR_INVALID_PACKAGE_NAME Z)] [(.int (8 : Int32)), (.ref b_18)]) _
                    refine own_aaload X40 hx hZ e40 po18_1 rfl (j := (8 : Int32)) ⟨by decide, by decide⟩ (v := (.ref (a_ERROR_NON_MATCHING_UID Z))) rfl (g := (mkF m 19 #[oJ q0, oS, oR b_18, oI (9 : Int32), oI (8 : Int32), oR (a_ERROR_INVALID_PACKAGE_NAME Z)] [(.int (8 : Int32)), (.ref b_18)])) rfl rfl (hb hby d2_19) _ ?_
                    show oP p e below T40 (mkF m 20 #[oJ q0, oS, oR b_18, oI (9 : Int32), oI (8 : Int32), oR (a_ERROR_INVALID_PACKAGE_NAME Z)] [(.ref (a_ERROR_NON_MATCHING_UID Z))]) _
                    refine XS.astore X40.here hx rfl (hb hby d2_20) rfl rfl (l' := #[oJ q0, oS, oR b_18, oI (9 : Int32), oI (8 : Int32), oR (a_ERROR_NON_MATCHING_UID Z)]) rfl ?_
                    show oP p e below T40 (mkF m 22 #[oJ q0, oS, oR b_18, oI (9 : Int32), oI (8 : Int32), oR (a_ERROR_NON_MATCHING_UID Z)] []) _
                    refine XS.aload X40.here hx rfl (hb hby d2_22) rfl rfl ?_
                    show oP p e below T40 (mkF m 24 #[oJ q0, oS, oR b_18, oI (9 : Int32), oI (8 : Int32), oR (a_ERROR_NON_MATCHING_UID Z)] [(.ref (a_ERROR_NON_MATCHING_UID Z))]) _
                    refine st43 _ ?_
                    show oP p e below T43 (mkF m 27 #[oJ q0, oS, oR b_18, oI (9 : Int32), oI (8 : Int32), oR (a_ERROR_NON_MATCHING_UID Z)] [(.int (259 : Int32))]) _
                    refine XS.i2l X43.here hx rfl (hb hby d2_27) rfl ?_
                    show oP p e below T43 (mkF m 28 #[oJ q0, oS, oR b_18, oI (9 : Int32), oI (8 : Int32), oR (a_ERROR_NON_MATCHING_UID Z)] [(.long (259 : Int64))]) _
                    refine XS.lloadN X43.here hx rfl (hb hby d2_28) rfl ?_
                    show oP p e below T43 (mkF m 29 #[oJ q0, oS, oR b_18, oI (9 : Int32), oI (8 : Int32), oR (a_ERROR_NON_MATCHING_UID Z)] [(.long q0), (.long (259 : Int64))]) _
                    refine XS.lcmp X43.here hx rfl (hb hby d2_29) rfl ?_
                    exact k)
                  by_cases hc45 : (lcmpW (259 : Int64) q0) = (0 : Int32)
                  · obtain ⟨fs, hr, hrun, hended, hW, hsame⟩ := X43.leave (v := some (.ref (a_ERROR_NON_MATCHING_UID Z))) (fun h => by rw [Bd.returns] at h; cases h)
                    refine ⟨_, _, pre44 _ ?_, hrun, hended, _, _, rfl, ?_, ⟨_, rfl⟩, hW, hsame.mono (by decide) (by decide)⟩
                    · show oP p e below T43 (mkF m 30 #[oJ q0, oS, oR b_18, oI (9 : Int32), oI (8 : Int32), oR (a_ERROR_NON_MATCHING_UID Z)] [(.int (lcmpW (259 : Int64) q0))]) _
                      refine XS.ifNo X43.here hx rfl (hb hby d2_30) rfl ((if0 _ _).trans (teq hc45).2) ?_
                      show oP p e below T43 (mkF m 33 #[oJ q0, oS, oR b_18, oI (9 : Int32), oI (8 : Int32), oR (a_ERROR_NON_MATCHING_UID Z)] []) _
                      refine XS.aload X43.here hx rfl (hb hby d2_33) rfl rfl ?_
                      show oP p e below T43 (mkF m 35 #[oJ q0, oS, oR b_18, oI (9 : Int32), oI (8 : Int32), oR (a_ERROR_NON_MATCHING_UID Z)] [(.ref (a_ERROR_NON_MATCHING_UID Z))]) _
                      exact own_retA X43 hx Bd.returns rfl rfl (hb hby d2_35) hr
                    · show (some (.ref (a_ERROR_NON_MATCHING_UID Z)) : Option Value) = some (fn2 Z q0) ∧ Fr n0 _ ∧ Keep h0 T43.heap []
                      rw [e43]
                      refine ⟨?_, N18, Kc18⟩
                      unfold fn2
                      rw [if_neg hc21, if_neg hc24, if_neg hc27, if_neg hc30, if_neg hc33, if_neg hc36, if_neg hc39, if_neg hc42, if_pos hc45]
                  · obtain ⟨fs, hr, hrun, hended, hW, hsame⟩ := X43.leave (v := some .null) (fun h => by rw [Bd.returns] at h; cases h)
                    refine ⟨_, _, pre44 _ ?_, hrun, hended, _, _, rfl, ?_, ⟨_, rfl⟩, hW, hsame.mono (by decide) (by decide)⟩
                    · show oP p e below T43 (mkF m 30 #[oJ q0, oS, oR b_18, oI (9 : Int32), oI (8 : Int32), oR (a_ERROR_NON_MATCHING_UID Z)] [(.int (lcmpW (259 : Int64) q0))]) _
                      refine XS.ifYes X43.here hx rfl (pc0 := 30) (pc' := 36) rfl (hb hby d2_30) rfl ((if0 _ _).trans (feq hc45).2) (by decide) (by decide) ?_
                      show oP p e below T43 (mkF m 36 #[oJ q0, oS, oR b_18, oI (9 : Int32), oI (8 : Int32), oR (a_ERROR_NON_MATCHING_UID Z)] []) _
                      refine XS.iinc X43.here hx rfl (hb hby d2_36) rfl (l' := #[oJ q0, oS, oR b_18, oI (9 : Int32), oI (9 : Int32), oR (a_ERROR_NON_MATCHING_UID Z)]) rfl ?_
                      show oP p e below T43 (mkF m 39 #[oJ q0, oS, oR b_18, oI (9 : Int32), oI (9 : Int32), oR (a_ERROR_NON_MATCHING_UID Z)] []) _
                      refine XS.goto X43.here hx rfl (pc0 := 39) (pc' := 10) rfl (hb hby d2_39) (by decide) (by decide) ?_
                      show oP p e below T43 (mkF m 10 #[oJ q0, oS, oR b_18, oI (9 : Int32), oI (9 : Int32), oR (a_ERROR_NON_MATCHING_UID Z)] []) _
                      refine XS.iload X43.here hx rfl (hb hby d2_10) rfl ?_
                      show oP p e below T43 (mkF m 12 #[oJ q0, oS, oR b_18, oI (9 : Int32), oI (9 : Int32), oR (a_ERROR_NON_MATCHING_UID Z)] [(.int (9 : Int32))]) _
                      refine XS.iloadN X43.here hx rfl (hb hby d2_12) rfl ?_
                      show oP p e below T43 (mkF m 13 #[oJ q0, oS, oR b_18, oI (9 : Int32), oI (9 : Int32), oR (a_ERROR_NON_MATCHING_UID Z)] [(.int (9 : Int32)), (.int (9 : Int32))]) _
                      refine XS.icmpYes X43.here hx rfl (pc0 := 13) (pc' := 42) rfl (hb hby d2_13) rfl (flt (by decide : ¬ ((9 : Int32) < (9 : Int32)))).2.1 (by decide) (by decide) ?_
                      show oP p e below T43 (mkF m 42 #[oJ q0, oS, oR b_18, oI (9 : Int32), oI (9 : Int32), oR (a_ERROR_NON_MATCHING_UID Z)] []) _
                      refine XS.aconstNull X43.here hx rfl (hb hby d2_42) ?_
                      show oP p e below T43 (mkF m 43 #[oJ q0, oS, oR b_18, oI (9 : Int32), oI (9 : Int32), oR (a_ERROR_NON_MATCHING_UID Z)] [.null]) _
                      exact own_retA X43 hx Bd.returns rfl rfl (hb hby d2_43) hr
                    · show (some .null : Option Value) = some (fn2 Z q0) ∧ Fr n0 _ ∧ Keep h0 T43.heap []
                      rw [e43]
                      refine ⟨?_, N18, Kc18⟩
                      unfold fn2
                      rw [if_neg hc21, if_neg hc24, if_neg hc27, if_neg hc30, if_neg hc33, if_neg hc36, if_neg hc39, if_neg hc42, if_neg hc45]
theorem d4_0 : decode method_2_code 0 = .ok (.lload_n 0, 1) := by decide +kernel
theorem d4_1 : decode method_2_code 1 = .ok (.lconst 0, 1) := by decide +kernel
theorem d4_2 : decode method_2_code 2 = .ok (.lcmp, 1) := by decide +kernel
theorem d4_3 : decode method_2_code 3 = .ok (.ifCond .ne 7, 3) := by decide +kernel
theorem d4_6 : decode method_2_code 6 = .ok (.getstatic 7, 3) := by decide +kernel
theorem d4_9 : decode method_2_code 9 = .ok (.areturn, 1) := by decide +kernel
theorem d4_10 : decode method_2_code 10 = .ok (.lload_n 0, 1) := by decide +kernel
theorem d4_11 : decode method_2_code 11 = .ok (.lconst 1, 1) := by decide +kernel
theorem d4_12 : decode method_2_code 12 = .ok (.lcmp, 1) := by decide +kernel
theorem d4_13 : decode method_2_code 13 = .ok (.ifCond .ne 7, 3) := by decide +kernel
theorem d4_16 : decode method_2_code 16 = .ok (.getstatic 13, 3) := by decide +kernel
theorem d4_19 : decode method_2_code 19 = .ok (.areturn, 1) := by decide +kernel
theorem d4_20 : decode method_2_code 20 = .ok (.lload_n 0, 1) := by decide +kernel
theorem d4_21 : decode method_2_code 21 = .ok (.ldc2_w 16, 3) := by decide +kernel
theorem d4_24 : decode method_2_code 24 = .ok (.lcmp, 1) := by decide +kernel
theorem d4_25 : decode method_2_code 25 = .ok (.ifCond .ne 7, 3) := by decide +kernel
theorem d4_28 : decode method_2_code 28 = .ok (.getstatic 18, 3) := by decide +kernel
theorem d4_31 : decode method_2_code 31 = .ok (.areturn, 1) := by decide +kernel
theorem d4_32 : decode method_2_code 32 = .ok (.lload_n 0, 1) := by decide +kernel
theorem d4_33 : decode method_2_code 33 = .ok (.ldc2_w 21, 3) := by decide +kernel
theorem d4_36 : decode method_2_code 36 = .ok (.lcmp, 1) := by decide +kernel
theorem d4_37 : decode method_2_code 37 = .ok (.ifCond .ne 7, 3) := by decide +kernel
theorem d4_40 : decode method_2_code 40 = .ok (.getstatic 23, 3) := by decide +kernel
theorem d4_43 : decode method_2_code 43 = .ok (.areturn, 1) := by decide +kernel
theorem d4_44 : decode method_2_code 44 = .ok (.lload_n 0, 1) := by decide +kernel
theorem d4_45 : decode method_2_code 45 = .ok (.ldc2_w 26, 3) := by decide +kernel
theorem d4_48 : decode method_2_code 48 = .ok (.lcmp, 1) := by decide +kernel
theorem d4_49 : decode method_2_code 49 = .ok (.ifCond .ne 7, 3) := by decide +kernel
theorem d4_52 : decode method_2_code 52 = .ok (.getstatic 28, 3) := by decide +kernel
theorem d4_55 : decode method_2_code 55 = .ok (.areturn, 1) := by decide +kernel
theorem d4_56 : decode method_2_code 56 = .ok (.lload_n 0, 1) := by decide +kernel
theorem d4_57 : decode method_2_code 57 = .ok (.ldc2_w 31, 3) := by decide +kernel
theorem d4_60 : decode method_2_code 60 = .ok (.lcmp, 1) := by decide +kernel
theorem d4_61 : decode method_2_code 61 = .ok (.ifCond .ne 7, 3) := by decide +kernel
theorem d4_64 : decode method_2_code 64 = .ok (.getstatic 33, 3) := by decide +kernel
theorem d4_67 : decode method_2_code 67 = .ok (.areturn, 1) := by decide +kernel
theorem d4_68 : decode method_2_code 68 = .ok (.lload_n 0, 1) := by decide +kernel
theorem d4_69 : decode method_2_code 69 = .ok (.ldc2_w 36, 3) := by decide +kernel
theorem d4_72 : decode method_2_code 72 = .ok (.lcmp, 1) := by decide +kernel
theorem d4_73 : decode method_2_code 73 = .ok (.ifCond .ne 7, 3) := by decide +kernel
theorem d4_76 : decode method_2_code 76 = .ok (.getstatic 38, 3) := by decide +kernel
theorem d4_79 : decode method_2_code 79 = .ok (.areturn, 1) := by decide +kernel
theorem d4_80 : decode method_2_code 80 = .ok (.lload_n 0, 1) := by decide +kernel
theorem d4_81 : decode method_2_code 81 = .ok (.ldc2_w 41, 3) := by decide +kernel
theorem d4_84 : decode method_2_code 84 = .ok (.lcmp, 1) := by decide +kernel
theorem d4_85 : decode method_2_code 85 = .ok (.ifCond .ne 7, 3) := by decide +kernel
theorem d4_88 : decode method_2_code 88 = .ok (.getstatic 43, 3) := by decide +kernel
theorem d4_91 : decode method_2_code 91 = .ok (.areturn, 1) := by decide +kernel
theorem d4_92 : decode method_2_code 92 = .ok (.lload_n 0, 1) := by decide +kernel
theorem d4_93 : decode method_2_code 93 = .ok (.ldc2_w 46, 3) := by decide +kernel
theorem d4_96 : decode method_2_code 96 = .ok (.lcmp, 1) := by decide +kernel
theorem d4_97 : decode method_2_code 97 = .ok (.ifCond .ne 7, 3) := by decide +kernel
theorem d4_100 : decode method_2_code 100 = .ok (.getstatic 48, 3) := by decide +kernel
theorem d4_103 : decode method_2_code 103 = .ok (.areturn, 1) := by decide +kernel
theorem d4_104 : decode method_2_code 104 = .ok (.aconst_null, 1) := by decide +kernel
theorem d4_105 : decode method_2_code 105 = .ok (.areturn, 1) := by decide +kernel
def fn4 (Z : State) (q0 : Int64) : Value :=
  if (lcmpW q0 (0 : Int64)) = (0 : Int32) then
    (.ref (a_LICENSED Z))
  else
    if (lcmpW q0 (1 : Int64)) = (0 : Int32) then
      (.ref (a_NOT_LICENSED Z))
    else
      if (lcmpW q0 (2 : Int64)) = (0 : Int32) then
        (.ref (a_LICENSED_OLD_KEY Z))
      else
        if (lcmpW q0 (3 : Int64)) = (0 : Int32) then
          (.ref (a_ERROR_NOT_MARKET_MANAGED Z))
        else
          if (lcmpW q0 (4 : Int64)) = (0 : Int32) then
            (.ref (a_ERROR_SERVER_FAILURE Z))
          else
            if (lcmpW q0 (5 : Int64)) = (0 : Int32) then
              (.ref (a_ERROR_OVER_QUOTA Z))
            else
              if (lcmpW q0 (257 : Int64)) = (0 : Int32) then
                (.ref (a_ERROR_CONTACTING_SERVER Z))
              else
                if (lcmpW q0 (258 : Int64)) = (0 : Int32) then
                  (.ref (a_ERROR_INVALID_PACKAGE_NAME Z))
                else
                  if (lcmpW q0 (259 : Int64)) = (0 : Int32) then
                    (.ref (a_ERROR_NON_MATCHING_UID Z))
                  else
                    .null
theorem fn4_ref (Z : State) (q0 : Int64) : (fn4 Z q0).isRef = true := by
  unfold fn4
  repeat' split
  all_goals rfl
theorem ef_4 (m : MethodId) (x0 : Int64) : entryFrame m #[(.long x0)] 2 = mkF m 0 #[.val (.long x0), .second] [] := by first | (simp [entryFrame, mkF, argsToLocals, Value.category]; done) | rfl
set_option maxRecDepth 65536 in
set_option maxHeartbeats 40000000 in
theorem rm4 (l : Launch) (Z : State) (a0 : Array Value) (hw : ∀ d ∈ tables_1, d.before a0 Z = true) (hS : St Z) (ws : List Jvm.Cond) (q0 : Int64) (h0 : Heap) (n0 : Nat) (O0 : Old Z n0 h0) :
    MetFree l (⟨"com/example/meerkat/meerkat/ResponseCodeForValuePinLaw", "expected", "(J)Lcom/example/meerkat/meerkat/ResponseCode;"⟩ : MethodName) (head1 (Jvm.Cond.code (⟨"com/example/meerkat/meerkat/ResponseCodeForValuePinLaw", "expected", "(J)Lcom/example/meerkat/meerkat/ResponseCode;"⟩ : MethodName) method_2_code 2 (some (.object "com/example/meerkat/meerkat/ResponseCode")) :: ws) ({ frames := 0, cells := 0, slots := 0, locals := 0 } : Room)) (fun a U => a = #[(.long q0)] ∧ Z.Warmed39 U.vm ∧ U.heap = h0) (fun _ _ _ _ _ => True) (fun _ U o U' => ∃ v L, o = .returned v ∧ own_Q (fun v hE L => v = some (fn4 Z q0) ∧ Fr n0 L ∧ hE = h0) v U'.heap L ∧ FrameEnd U o U' L ({ frames := 0, cells := 0, slots := 0, locals := 0 } : Room).cells ({ frames := 0, cells := 0, slots := 0, locals := 0 } : Room).slots) := by
  refine MetFree.of_bodySF (plainFor_of_name pn_1) hisR ?_
  intro p e s m args below meth c s₁ Bd hml0 hP hK
  obtain ⟨rfl, hZ, hh⟩ := hP
  have hx := Bd.exec
  have hby := Bd.bytes
  have hml : c.maxLocals = 2 := hml0
  have hown : s.vm.findClass "com/example/meerkat/meerkat/ResponseCodeForValuePinLaw" = some m.cls := findClass_of_methodNamed Bd.named
  have X0 : Stand p l e ({ frames := 0, cells := 0, slots := 0, locals := 0 } : Room) s m #[(.long q0)] below meth c s₁ [] 0 0 := Stand.of_body Bd
  have e0 : s₁.heap = h0 := by rw [← hh, Bd.state]; rfl
  have N0 := Fr.nil n0
  have pre0 : ∀ t, Steps p.tables e below (s₁.setTop (mkF m 0 #[oJ q0, oS] [])) t → Steps p.tables e below (s₁.setTop (entryFrame m #[(.long q0)] 2)) t := fun t k => castTop (ef_4 m q0) k
  have pre46 : ∀ t, oP p e below s₁ (mkF m 3 #[oJ q0, oS] [(.int (lcmpW q0 (0 : Int64)))]) t → oP p e below s₁ (entryFrame m #[(.long q0)] 2) t := fun t k => pre0 t (by
    show oP p e below s₁ (mkF m 0 #[oJ q0, oS] []) _
    refine XS.lloadN X0.here hx rfl (hb hby d4_0) rfl ?_
    show oP p e below s₁ (mkF m 1 #[oJ q0, oS] [(.long q0)]) _
    refine XS.lconst X0.here hx rfl (hb hby d4_1) ?_
    show oP p e below s₁ (mkF m 2 #[oJ q0, oS] [(.long (0 : Int64)), (.long q0)]) _
    refine XS.lcmp X0.here hx rfl (hb hby d4_2) rfl ?_
    exact k)
  by_cases hc47 : (lcmpW q0 (0 : Int64)) = (0 : Int32)
  · obtain ⟨T48, X48, e48, st48⟩ := getS2 X0 hx hZ hown (host := "") (Or.inl (hw _ (List.mem_of_getElem? (i := 50) rfl))) Via.refl e0 ((s_a_LICENSED hS).ext O0.2) (g := (mkF m 6 #[oJ q0, oS] [])) rfl (hb hby d4_6)
    obtain ⟨fs, hr, hrun, hended, hW, hsame⟩ := X48.leave (v := some (.ref (a_LICENSED Z))) (fun h => by rw [Bd.returns] at h; cases h)
    refine ⟨_, _, pre46 _ ?_, hrun, hended, _, _, rfl, ?_, ⟨_, rfl⟩, hW, hsame.mono (by decide) (by decide)⟩
    · show oP p e below s₁ (mkF m 3 #[oJ q0, oS] [(.int (lcmpW q0 (0 : Int64)))]) _
      refine XS.ifNo X0.here hx rfl (hb hby d4_3) rfl ((if0 _ _).trans (teq hc47).2) ?_
      show oP p e below s₁ (mkF m 6 #[oJ q0, oS] []) _
      refine st48 _ ?_
      show oP p e below T48 (mkF m 9 #[oJ q0, oS] [(.ref (a_LICENSED Z))]) _
      exact own_retA X48 hx Bd.returns rfl rfl (hb hby d4_9) hr
    · show (some (.ref (a_LICENSED Z)) : Option Value) = some (fn4 Z q0) ∧ Fr n0 _ ∧ T48.heap = h0
      rw [e48]
      refine ⟨?_, N0, rfl⟩
      unfold fn4
      rw [if_pos hc47]
  · have pre49 : ∀ t, oP p e below s₁ (mkF m 13 #[oJ q0, oS] [(.int (lcmpW q0 (1 : Int64)))]) t → oP p e below s₁ (entryFrame m #[(.long q0)] 2) t := fun t k => pre46 t (by
      show oP p e below s₁ (mkF m 3 #[oJ q0, oS] [(.int (lcmpW q0 (0 : Int64)))]) _
      refine XS.ifYes X0.here hx rfl (pc0 := 3) (pc' := 10) rfl (hb hby d4_3) rfl ((if0 _ _).trans (feq hc47).2) (by decide) (by decide) ?_
      show oP p e below s₁ (mkF m 10 #[oJ q0, oS] []) _
      refine XS.lloadN X0.here hx rfl (hb hby d4_10) rfl ?_
      show oP p e below s₁ (mkF m 11 #[oJ q0, oS] [(.long q0)]) _
      refine XS.lconst X0.here hx rfl (hb hby d4_11) ?_
      show oP p e below s₁ (mkF m 12 #[oJ q0, oS] [(.long (1 : Int64)), (.long q0)]) _
      refine XS.lcmp X0.here hx rfl (hb hby d4_12) rfl ?_
      exact k)
    by_cases hc50 : (lcmpW q0 (1 : Int64)) = (0 : Int32)
    · obtain ⟨T51, X51, e51, st51⟩ := getS2 X0 hx hZ hown (host := "") (Or.inl (hw _ (List.mem_of_getElem? (i := 53) rfl))) Via.refl e0 ((s_a_NOT_LICENSED hS).ext O0.2) (g := (mkF m 16 #[oJ q0, oS] [])) rfl (hb hby d4_16)
      obtain ⟨fs, hr, hrun, hended, hW, hsame⟩ := X51.leave (v := some (.ref (a_NOT_LICENSED Z))) (fun h => by rw [Bd.returns] at h; cases h)
      refine ⟨_, _, pre49 _ ?_, hrun, hended, _, _, rfl, ?_, ⟨_, rfl⟩, hW, hsame.mono (by decide) (by decide)⟩
      · show oP p e below s₁ (mkF m 13 #[oJ q0, oS] [(.int (lcmpW q0 (1 : Int64)))]) _
        refine XS.ifNo X0.here hx rfl (hb hby d4_13) rfl ((if0 _ _).trans (teq hc50).2) ?_
        show oP p e below s₁ (mkF m 16 #[oJ q0, oS] []) _
        refine st51 _ ?_
        show oP p e below T51 (mkF m 19 #[oJ q0, oS] [(.ref (a_NOT_LICENSED Z))]) _
        exact own_retA X51 hx Bd.returns rfl rfl (hb hby d4_19) hr
      · show (some (.ref (a_NOT_LICENSED Z)) : Option Value) = some (fn4 Z q0) ∧ Fr n0 _ ∧ T51.heap = h0
        rw [e51]
        refine ⟨?_, N0, rfl⟩
        unfold fn4
        rw [if_neg hc47, if_pos hc50]
    · have pre52 : ∀ t, oP p e below s₁ (mkF m 25 #[oJ q0, oS] [(.int (lcmpW q0 (2 : Int64)))]) t → oP p e below s₁ (entryFrame m #[(.long q0)] 2) t := fun t k => pre49 t (by
        show oP p e below s₁ (mkF m 13 #[oJ q0, oS] [(.int (lcmpW q0 (1 : Int64)))]) _
        refine XS.ifYes X0.here hx rfl (pc0 := 13) (pc' := 20) rfl (hb hby d4_13) rfl ((if0 _ _).trans (feq hc50).2) (by decide) (by decide) ?_
        show oP p e below s₁ (mkF m 20 #[oJ q0, oS] []) _
        refine XS.lloadN X0.here hx rfl (hb hby d4_20) rfl ?_
        show oP p e below s₁ (mkF m 21 #[oJ q0, oS] [(.long q0)]) _
        refine X0.ldc2Long hx hown (mvT hZ (hw _ (List.mem_of_getElem? (i := 37) rfl))) (g := (mkF m 21 #[oJ q0, oS] [(.long q0)])) rfl (hb hby d4_21) _ ?_
        show oP p e below s₁ (mkF m 24 #[oJ q0, oS] [(.long (2 : Int64)), (.long q0)]) _
        refine XS.lcmp X0.here hx rfl (hb hby d4_24) rfl ?_
        exact k)
      by_cases hc53 : (lcmpW q0 (2 : Int64)) = (0 : Int32)
      · obtain ⟨T54, X54, e54, st54⟩ := getS2 X0 hx hZ hown (host := "") (Or.inl (hw _ (List.mem_of_getElem? (i := 54) rfl))) Via.refl e0 ((s_a_LICENSED_OLD_KEY hS).ext O0.2) (g := (mkF m 28 #[oJ q0, oS] [])) rfl (hb hby d4_28)
        obtain ⟨fs, hr, hrun, hended, hW, hsame⟩ := X54.leave (v := some (.ref (a_LICENSED_OLD_KEY Z))) (fun h => by rw [Bd.returns] at h; cases h)
        refine ⟨_, _, pre52 _ ?_, hrun, hended, _, _, rfl, ?_, ⟨_, rfl⟩, hW, hsame.mono (by decide) (by decide)⟩
        · show oP p e below s₁ (mkF m 25 #[oJ q0, oS] [(.int (lcmpW q0 (2 : Int64)))]) _
          refine XS.ifNo X0.here hx rfl (hb hby d4_25) rfl ((if0 _ _).trans (teq hc53).2) ?_
          show oP p e below s₁ (mkF m 28 #[oJ q0, oS] []) _
          refine st54 _ ?_
          show oP p e below T54 (mkF m 31 #[oJ q0, oS] [(.ref (a_LICENSED_OLD_KEY Z))]) _
          exact own_retA X54 hx Bd.returns rfl rfl (hb hby d4_31) hr
        · show (some (.ref (a_LICENSED_OLD_KEY Z)) : Option Value) = some (fn4 Z q0) ∧ Fr n0 _ ∧ T54.heap = h0
          rw [e54]
          refine ⟨?_, N0, rfl⟩
          unfold fn4
          rw [if_neg hc47, if_neg hc50, if_pos hc53]
      · have pre55 : ∀ t, oP p e below s₁ (mkF m 37 #[oJ q0, oS] [(.int (lcmpW q0 (3 : Int64)))]) t → oP p e below s₁ (entryFrame m #[(.long q0)] 2) t := fun t k => pre52 t (by
          show oP p e below s₁ (mkF m 25 #[oJ q0, oS] [(.int (lcmpW q0 (2 : Int64)))]) _
          refine XS.ifYes X0.here hx rfl (pc0 := 25) (pc' := 32) rfl (hb hby d4_25) rfl ((if0 _ _).trans (feq hc53).2) (by decide) (by decide) ?_
          show oP p e below s₁ (mkF m 32 #[oJ q0, oS] []) _
          refine XS.lloadN X0.here hx rfl (hb hby d4_32) rfl ?_
          show oP p e below s₁ (mkF m 33 #[oJ q0, oS] [(.long q0)]) _
          refine X0.ldc2Long hx hown (mvT hZ (hw _ (List.mem_of_getElem? (i := 38) rfl))) (g := (mkF m 33 #[oJ q0, oS] [(.long q0)])) rfl (hb hby d4_33) _ ?_
          show oP p e below s₁ (mkF m 36 #[oJ q0, oS] [(.long (3 : Int64)), (.long q0)]) _
          refine XS.lcmp X0.here hx rfl (hb hby d4_36) rfl ?_
          exact k)
        by_cases hc56 : (lcmpW q0 (3 : Int64)) = (0 : Int32)
        · obtain ⟨T57, X57, e57, st57⟩ := getS2 X0 hx hZ hown (host := "") (Or.inl (hw _ (List.mem_of_getElem? (i := 39) rfl))) Via.refl e0 ((s_a_ERROR_NOT_MARKET_MANAGED hS).ext O0.2) (g := (mkF m 40 #[oJ q0, oS] [])) rfl (hb hby d4_40)
          obtain ⟨fs, hr, hrun, hended, hW, hsame⟩ := X57.leave (v := some (.ref (a_ERROR_NOT_MARKET_MANAGED Z))) (fun h => by rw [Bd.returns] at h; cases h)
          refine ⟨_, _, pre55 _ ?_, hrun, hended, _, _, rfl, ?_, ⟨_, rfl⟩, hW, hsame.mono (by decide) (by decide)⟩
          · show oP p e below s₁ (mkF m 37 #[oJ q0, oS] [(.int (lcmpW q0 (3 : Int64)))]) _
            refine XS.ifNo X0.here hx rfl (hb hby d4_37) rfl ((if0 _ _).trans (teq hc56).2) ?_
            show oP p e below s₁ (mkF m 40 #[oJ q0, oS] []) _
            refine st57 _ ?_
            show oP p e below T57 (mkF m 43 #[oJ q0, oS] [(.ref (a_ERROR_NOT_MARKET_MANAGED Z))]) _
            exact own_retA X57 hx Bd.returns rfl rfl (hb hby d4_43) hr
          · show (some (.ref (a_ERROR_NOT_MARKET_MANAGED Z)) : Option Value) = some (fn4 Z q0) ∧ Fr n0 _ ∧ T57.heap = h0
            rw [e57]
            refine ⟨?_, N0, rfl⟩
            unfold fn4
            rw [if_neg hc47, if_neg hc50, if_neg hc53, if_pos hc56]
        · have pre58 : ∀ t, oP p e below s₁ (mkF m 49 #[oJ q0, oS] [(.int (lcmpW q0 (4 : Int64)))]) t → oP p e below s₁ (entryFrame m #[(.long q0)] 2) t := fun t k => pre55 t (by
            show oP p e below s₁ (mkF m 37 #[oJ q0, oS] [(.int (lcmpW q0 (3 : Int64)))]) _
            refine XS.ifYes X0.here hx rfl (pc0 := 37) (pc' := 44) rfl (hb hby d4_37) rfl ((if0 _ _).trans (feq hc56).2) (by decide) (by decide) ?_
            show oP p e below s₁ (mkF m 44 #[oJ q0, oS] []) _
            refine XS.lloadN X0.here hx rfl (hb hby d4_44) rfl ?_
            show oP p e below s₁ (mkF m 45 #[oJ q0, oS] [(.long q0)]) _
            refine X0.ldc2Long hx hown (mvT hZ (hw _ (List.mem_of_getElem? (i := 41) rfl))) (g := (mkF m 45 #[oJ q0, oS] [(.long q0)])) rfl (hb hby d4_45) _ ?_
            show oP p e below s₁ (mkF m 48 #[oJ q0, oS] [(.long (4 : Int64)), (.long q0)]) _
            refine XS.lcmp X0.here hx rfl (hb hby d4_48) rfl ?_
            exact k)
          by_cases hc59 : (lcmpW q0 (4 : Int64)) = (0 : Int32)
          · obtain ⟨T60, X60, e60, st60⟩ := getS2 X0 hx hZ hown (host := "") (Or.inl (hw _ (List.mem_of_getElem? (i := 55) rfl))) Via.refl e0 ((s_a_ERROR_SERVER_FAILURE hS).ext O0.2) (g := (mkF m 52 #[oJ q0, oS] [])) rfl (hb hby d4_52)
            obtain ⟨fs, hr, hrun, hended, hW, hsame⟩ := X60.leave (v := some (.ref (a_ERROR_SERVER_FAILURE Z))) (fun h => by rw [Bd.returns] at h; cases h)
            refine ⟨_, _, pre58 _ ?_, hrun, hended, _, _, rfl, ?_, ⟨_, rfl⟩, hW, hsame.mono (by decide) (by decide)⟩
            · show oP p e below s₁ (mkF m 49 #[oJ q0, oS] [(.int (lcmpW q0 (4 : Int64)))]) _
              refine XS.ifNo X0.here hx rfl (hb hby d4_49) rfl ((if0 _ _).trans (teq hc59).2) ?_
              show oP p e below s₁ (mkF m 52 #[oJ q0, oS] []) _
              refine st60 _ ?_
              show oP p e below T60 (mkF m 55 #[oJ q0, oS] [(.ref (a_ERROR_SERVER_FAILURE Z))]) _
              exact own_retA X60 hx Bd.returns rfl rfl (hb hby d4_55) hr
            · show (some (.ref (a_ERROR_SERVER_FAILURE Z)) : Option Value) = some (fn4 Z q0) ∧ Fr n0 _ ∧ T60.heap = h0
              rw [e60]
              refine ⟨?_, N0, rfl⟩
              unfold fn4
              rw [if_neg hc47, if_neg hc50, if_neg hc53, if_neg hc56, if_pos hc59]
          · have pre61 : ∀ t, oP p e below s₁ (mkF m 61 #[oJ q0, oS] [(.int (lcmpW q0 (5 : Int64)))]) t → oP p e below s₁ (entryFrame m #[(.long q0)] 2) t := fun t k => pre58 t (by
              show oP p e below s₁ (mkF m 49 #[oJ q0, oS] [(.int (lcmpW q0 (4 : Int64)))]) _
              refine XS.ifYes X0.here hx rfl (pc0 := 49) (pc' := 56) rfl (hb hby d4_49) rfl ((if0 _ _).trans (feq hc59).2) (by decide) (by decide) ?_
              show oP p e below s₁ (mkF m 56 #[oJ q0, oS] []) _
              refine XS.lloadN X0.here hx rfl (hb hby d4_56) rfl ?_
              show oP p e below s₁ (mkF m 57 #[oJ q0, oS] [(.long q0)]) _
              refine X0.ldc2Long hx hown (mvT hZ (hw _ (List.mem_of_getElem? (i := 42) rfl))) (g := (mkF m 57 #[oJ q0, oS] [(.long q0)])) rfl (hb hby d4_57) _ ?_
              show oP p e below s₁ (mkF m 60 #[oJ q0, oS] [(.long (5 : Int64)), (.long q0)]) _
              refine XS.lcmp X0.here hx rfl (hb hby d4_60) rfl ?_
              exact k)
            by_cases hc62 : (lcmpW q0 (5 : Int64)) = (0 : Int32)
            · obtain ⟨T63, X63, e63, st63⟩ := getS2 X0 hx hZ hown (host := "") (Or.inl (hw _ (List.mem_of_getElem? (i := 51) rfl))) Via.refl e0 ((s_a_ERROR_OVER_QUOTA hS).ext O0.2) (g := (mkF m 64 #[oJ q0, oS] [])) rfl (hb hby d4_64)
              obtain ⟨fs, hr, hrun, hended, hW, hsame⟩ := X63.leave (v := some (.ref (a_ERROR_OVER_QUOTA Z))) (fun h => by rw [Bd.returns] at h; cases h)
              refine ⟨_, _, pre61 _ ?_, hrun, hended, _, _, rfl, ?_, ⟨_, rfl⟩, hW, hsame.mono (by decide) (by decide)⟩
              · show oP p e below s₁ (mkF m 61 #[oJ q0, oS] [(.int (lcmpW q0 (5 : Int64)))]) _
                refine XS.ifNo X0.here hx rfl (hb hby d4_61) rfl ((if0 _ _).trans (teq hc62).2) ?_
                show oP p e below s₁ (mkF m 64 #[oJ q0, oS] []) _
                refine st63 _ ?_
                show oP p e below T63 (mkF m 67 #[oJ q0, oS] [(.ref (a_ERROR_OVER_QUOTA Z))]) _
                exact own_retA X63 hx Bd.returns rfl rfl (hb hby d4_67) hr
              · show (some (.ref (a_ERROR_OVER_QUOTA Z)) : Option Value) = some (fn4 Z q0) ∧ Fr n0 _ ∧ T63.heap = h0
                rw [e63]
                refine ⟨?_, N0, rfl⟩
                unfold fn4
                rw [if_neg hc47, if_neg hc50, if_neg hc53, if_neg hc56, if_neg hc59, if_pos hc62]
            · have pre64 : ∀ t, oP p e below s₁ (mkF m 73 #[oJ q0, oS] [(.int (lcmpW q0 (257 : Int64)))]) t → oP p e below s₁ (entryFrame m #[(.long q0)] 2) t := fun t k => pre61 t (by
                show oP p e below s₁ (mkF m 61 #[oJ q0, oS] [(.int (lcmpW q0 (5 : Int64)))]) _
                refine XS.ifYes X0.here hx rfl (pc0 := 61) (pc' := 68) rfl (hb hby d4_61) rfl ((if0 _ _).trans (feq hc62).2) (by decide) (by decide) ?_
                show oP p e below s₁ (mkF m 68 #[oJ q0, oS] []) _
                refine XS.lloadN X0.here hx rfl (hb hby d4_68) rfl ?_
                show oP p e below s₁ (mkF m 69 #[oJ q0, oS] [(.long q0)]) _
                refine X0.ldc2Long hx hown (mvT hZ (hw _ (List.mem_of_getElem? (i := 43) rfl))) (g := (mkF m 69 #[oJ q0, oS] [(.long q0)])) rfl (hb hby d4_69) _ ?_
                show oP p e below s₁ (mkF m 72 #[oJ q0, oS] [(.long (257 : Int64)), (.long q0)]) _
                refine XS.lcmp X0.here hx rfl (hb hby d4_72) rfl ?_
                exact k)
              by_cases hc65 : (lcmpW q0 (257 : Int64)) = (0 : Int32)
              · obtain ⟨T66, X66, e66, st66⟩ := getS2 X0 hx hZ hown (host := "") (Or.inl (hw _ (List.mem_of_getElem? (i := 57) rfl))) Via.refl e0 ((s_a_ERROR_CONTACTING_SERVER hS).ext O0.2) (g := (mkF m 76 #[oJ q0, oS] [])) rfl (hb hby d4_76)
                obtain ⟨fs, hr, hrun, hended, hW, hsame⟩ := X66.leave (v := some (.ref (a_ERROR_CONTACTING_SERVER Z))) (fun h => by rw [Bd.returns] at h; cases h)
                refine ⟨_, _, pre64 _ ?_, hrun, hended, _, _, rfl, ?_, ⟨_, rfl⟩, hW, hsame.mono (by decide) (by decide)⟩
                · show oP p e below s₁ (mkF m 73 #[oJ q0, oS] [(.int (lcmpW q0 (257 : Int64)))]) _
                  refine XS.ifNo X0.here hx rfl (hb hby d4_73) rfl ((if0 _ _).trans (teq hc65).2) ?_
                  show oP p e below s₁ (mkF m 76 #[oJ q0, oS] []) _
                  refine st66 _ ?_
                  show oP p e below T66 (mkF m 79 #[oJ q0, oS] [(.ref (a_ERROR_CONTACTING_SERVER Z))]) _
                  exact own_retA X66 hx Bd.returns rfl rfl (hb hby d4_79) hr
                · show (some (.ref (a_ERROR_CONTACTING_SERVER Z)) : Option Value) = some (fn4 Z q0) ∧ Fr n0 _ ∧ T66.heap = h0
                  rw [e66]
                  refine ⟨?_, N0, rfl⟩
                  unfold fn4
                  rw [if_neg hc47, if_neg hc50, if_neg hc53, if_neg hc56, if_neg hc59, if_neg hc62, if_pos hc65]
              · have pre67 : ∀ t, oP p e below s₁ (mkF m 85 #[oJ q0, oS] [(.int (lcmpW q0 (258 : Int64)))]) t → oP p e below s₁ (entryFrame m #[(.long q0)] 2) t := fun t k => pre64 t (by
                  show oP p e below s₁ (mkF m 73 #[oJ q0, oS] [(.int (lcmpW q0 (257 : Int64)))]) _
                  refine XS.ifYes X0.here hx rfl (pc0 := 73) (pc' := 80) rfl (hb hby d4_73) rfl ((if0 _ _).trans (feq hc65).2) (by decide) (by decide) ?_
                  show oP p e below s₁ (mkF m 80 #[oJ q0, oS] []) _
                  refine XS.lloadN X0.here hx rfl (hb hby d4_80) rfl ?_
                  show oP p e below s₁ (mkF m 81 #[oJ q0, oS] [(.long q0)]) _
                  refine X0.ldc2Long hx hown (mvT hZ (hw _ (List.mem_of_getElem? (i := 44) rfl))) (g := (mkF m 81 #[oJ q0, oS] [(.long q0)])) rfl (hb hby d4_81) _ ?_
                  show oP p e below s₁ (mkF m 84 #[oJ q0, oS] [(.long (258 : Int64)), (.long q0)]) _
                  refine XS.lcmp X0.here hx rfl (hb hby d4_84) rfl ?_
                  exact k)
                by_cases hc68 : (lcmpW q0 (258 : Int64)) = (0 : Int32)
                · obtain ⟨T69, X69, e69, st69⟩ := getS2 X0 hx hZ hown (host := "") (Or.inl (hw _ (List.mem_of_getElem? (i := 49) rfl))) Via.refl e0 ((s_a_ERROR_INVALID_PACKAGE_NAME hS).ext O0.2) (g := (mkF m 88 #[oJ q0, oS] [])) rfl (hb hby d4_88)
                  obtain ⟨fs, hr, hrun, hended, hW, hsame⟩ := X69.leave (v := some (.ref (a_ERROR_INVALID_PACKAGE_NAME Z))) (fun h => by rw [Bd.returns] at h; cases h)
                  refine ⟨_, _, pre67 _ ?_, hrun, hended, _, _, rfl, ?_, ⟨_, rfl⟩, hW, hsame.mono (by decide) (by decide)⟩
                  · show oP p e below s₁ (mkF m 85 #[oJ q0, oS] [(.int (lcmpW q0 (258 : Int64)))]) _
                    refine XS.ifNo X0.here hx rfl (hb hby d4_85) rfl ((if0 _ _).trans (teq hc68).2) ?_
                    show oP p e below s₁ (mkF m 88 #[oJ q0, oS] []) _
                    refine st69 _ ?_
                    show oP p e below T69 (mkF m 91 #[oJ q0, oS] [(.ref (a_ERROR_INVALID_PACKAGE_NAME Z))]) _
                    exact own_retA X69 hx Bd.returns rfl rfl (hb hby d4_91) hr
                  · show (some (.ref (a_ERROR_INVALID_PACKAGE_NAME Z)) : Option Value) = some (fn4 Z q0) ∧ Fr n0 _ ∧ T69.heap = h0
                    rw [e69]
                    refine ⟨?_, N0, rfl⟩
                    unfold fn4
                    rw [if_neg hc47, if_neg hc50, if_neg hc53, if_neg hc56, if_neg hc59, if_neg hc62, if_neg hc65, if_pos hc68]
                · have pre70 : ∀ t, oP p e below s₁ (mkF m 97 #[oJ q0, oS] [(.int (lcmpW q0 (259 : Int64)))]) t → oP p e below s₁ (entryFrame m #[(.long q0)] 2) t := fun t k => pre67 t (by
                    show oP p e below s₁ (mkF m 85 #[oJ q0, oS] [(.int (lcmpW q0 (258 : Int64)))]) _
                    refine XS.ifYes X0.here hx rfl (pc0 := 85) (pc' := 92) rfl (hb hby d4_85) rfl ((if0 _ _).trans (feq hc68).2) (by decide) (by decide) ?_
                    show oP p e below s₁ (mkF m 92 #[oJ q0, oS] []) _
                    refine XS.lloadN X0.here hx rfl (hb hby d4_92) rfl ?_
                    show oP p e below s₁ (mkF m 93 #[oJ q0, oS] [(.long q0)]) _
                    refine X0.ldc2Long hx hown (mvT hZ (hw _ (List.mem_of_getElem? (i := 45) rfl))) (g := (mkF m 93 #[oJ q0, oS] [(.long q0)])) rfl (hb hby d4_93) _ ?_
                    show oP p e below s₁ (mkF m 96 #[oJ q0, oS] [(.long (259 : Int64)), (.long q0)]) _
                    refine XS.lcmp X0.here hx rfl (hb hby d4_96) rfl ?_
                    exact k)
                  by_cases hc71 : (lcmpW q0 (259 : Int64)) = (0 : Int32)
                  · obtain ⟨T72, X72, e72, st72⟩ := getS2 X0 hx hZ hown (host := "") (Or.inl (hw _ (List.mem_of_getElem? (i := 56) rfl))) Via.refl e0 ((s_a_ERROR_NON_MATCHING_UID hS).ext O0.2) (g := (mkF m 100 #[oJ q0, oS] [])) rfl (hb hby d4_100)
                    obtain ⟨fs, hr, hrun, hended, hW, hsame⟩ := X72.leave (v := some (.ref (a_ERROR_NON_MATCHING_UID Z))) (fun h => by rw [Bd.returns] at h; cases h)
                    refine ⟨_, _, pre70 _ ?_, hrun, hended, _, _, rfl, ?_, ⟨_, rfl⟩, hW, hsame.mono (by decide) (by decide)⟩
                    · show oP p e below s₁ (mkF m 97 #[oJ q0, oS] [(.int (lcmpW q0 (259 : Int64)))]) _
                      refine XS.ifNo X0.here hx rfl (hb hby d4_97) rfl ((if0 _ _).trans (teq hc71).2) ?_
                      show oP p e below s₁ (mkF m 100 #[oJ q0, oS] []) _
                      refine st72 _ ?_
                      show oP p e below T72 (mkF m 103 #[oJ q0, oS] [(.ref (a_ERROR_NON_MATCHING_UID Z))]) _
                      exact own_retA X72 hx Bd.returns rfl rfl (hb hby d4_103) hr
                    · show (some (.ref (a_ERROR_NON_MATCHING_UID Z)) : Option Value) = some (fn4 Z q0) ∧ Fr n0 _ ∧ T72.heap = h0
                      rw [e72]
                      refine ⟨?_, N0, rfl⟩
                      unfold fn4
                      rw [if_neg hc47, if_neg hc50, if_neg hc53, if_neg hc56, if_neg hc59, if_neg hc62, if_neg hc65, if_neg hc68, if_pos hc71]
                  · obtain ⟨fs, hr, hrun, hended, hW, hsame⟩ := X0.leave (v := some .null) (fun h => by rw [Bd.returns] at h; cases h)
                    refine ⟨_, _, pre70 _ ?_, hrun, hended, _, _, rfl, ?_, ⟨_, rfl⟩, hW, hsame.mono (by decide) (by decide)⟩
                    · show oP p e below s₁ (mkF m 97 #[oJ q0, oS] [(.int (lcmpW q0 (259 : Int64)))]) _
                      refine XS.ifYes X0.here hx rfl (pc0 := 97) (pc' := 104) rfl (hb hby d4_97) rfl ((if0 _ _).trans (feq hc71).2) (by decide) (by decide) ?_
                      show oP p e below s₁ (mkF m 104 #[oJ q0, oS] []) _
                      refine XS.aconstNull X0.here hx rfl (hb hby d4_104) ?_
                      show oP p e below s₁ (mkF m 105 #[oJ q0, oS] [.null]) _
                      exact own_retA X0 hx Bd.returns rfl rfl (hb hby d4_105) hr
                    · show (some .null : Option Value) = some (fn4 Z q0) ∧ Fr n0 _ ∧ s₁.heap = h0
                      rw [e0]
                      refine ⟨?_, N0, rfl⟩
                      unfold fn4
                      rw [if_neg hc47, if_neg hc50, if_neg hc53, if_neg hc56, if_neg hc59, if_neg hc62, if_neg hc65, if_neg hc68, if_neg hc71]
theorem own_same (Z : State) (q : Int64) : fn2 Z q = fn4 Z q := by
  unfold fn2 fn4
  simp only [lw_eq, eq_comm (b := q)]
theorem pd_1 : parseMethodDescriptor "(JJI)J" = some ⟨[.long, .long, .int], some .long⟩ := by decide +kernel
theorem pd_2 : parseMethodDescriptor "(J)Lcom/example/meerkat/meerkat/ResponseCode;" = some ⟨[.long], some (.object "com/example/meerkat/meerkat/ResponseCode")⟩ := by decide +kernel
theorem ab78 {Z : State} (hS : St Z) (q0 : Int64) (q1 : Int64) (p2 : Int32) (hc77 : ¬ ((fn2 Z (fn1 Z q0 q1 p2)) = (fn4 Z (fn1 Z q0 q1 p2)))) : False := by
  exact hc77 (own_same Z _)
theorem ef_0 (m : MethodId) (x0 : Int64) (x1 : Int64) (x2 : Int32) : entryFrame m #[(.long x0), (.long x1), (.int x2)] maxLocals = mkF m 0 #[.val (.long x0), .second, .val (.long x1), .second, .val (.int x2), .unset, .unset] [] := by first | (simp [entryFrame, mkF, argsToLocals, Value.category, maxLocals]; done) | rfl
set_option maxRecDepth 65536 in
set_option maxHeartbeats 40000000 in
theorem rm0 (l : Launch) (Z : State) (a0 : Array Value) (hw : ∀ d ∈ tables_1, d.before a0 Z = true) (hS : St Z) (ws : List Jvm.Cond) (q0 : Int64) (q1 : Int64) (p2 : Int32) (h0 : Heap) (n0 : Nat) (O0 : Old Z n0 h0) :
    MetFree l x (head1 (Jvm.Cond.code x code maxLocals ret :: ws) room_1) (fun a U => a = #[(.long q0), (.long q1), (.int p2)] ∧ Z.Warmed39 U.vm ∧ U.heap = h0) (fun _ _ _ _ _ => True) (fun _ U o U' => ∃ v L, o = .returned v ∧ own_Q (fun v hE L => v = some (.int (1 : Int32)) ∧ Fr n0 L ∧ Keep h0 hE []) v U'.heap L ∧ FrameEnd U o U' L room_1.cells room_1.slots) := by
  refine MetFree.of_bodySF (plainFor_of_name pn_1) hisR ?_
  intro p e s m args below meth c s₁ Bd hml0 hP hK
  obtain ⟨rfl, hZ, hh⟩ := hP
  have hx := Bd.exec
  have hby := Bd.bytes
  have hml : c.maxLocals = 7 := hml0
  have hown : s.vm.findClass "com/example/meerkat/meerkat/ResponseCodeForValuePinLaw" = some m.cls := findClass_of_methodNamed Bd.named
  have hnm := (name_of_methodNamed Bd.named Bd.method).1
  have X0 : Stand p l e room_1 s m #[(.long q0), (.long q1), (.int p2)] below meth c s₁ [] 0 0 := Stand.of_body Bd
  have e0 : s₁.heap = h0 := by rw [← hh, Bd.state]; rfl
  have N0 := Fr.nil n0
  have pre0 : ∀ t, Steps p.tables e below (s₁.setTop (mkF m 0 #[oJ q0, oS, oJ q1, oS, oI p2, oU, oU] [])) t → Steps p.tables e below (s₁.setTop (entryFrame m #[(.long q0), (.long q1), (.int p2)] maxLocals)) t := fun t k => castTop (ef_0 m q0 q1 p2) k
  obtain ⟨_, _, ⟨T73, L73, k73, n73⟩, -, X73, ⟨Lc73, hQ73, l73, y73, z73⟩, st73⟩ := Jvm.LawKit.callS X0 hx (y := (⟨"com/example/meerkat/meerkat/ResponseCodeForValuePinLaw", "pick", "(JJI)J"⟩ : MethodName)) hown (mvT hZ (hw _ (List.mem_of_getElem? (i := 0) rfl))) (mvT hZ (hw _ (List.mem_of_getElem? (i := 1) rfl))) (mvT hZ (hw _ (List.mem_of_getElem? (i := 2) rfl))) (mvT hZ (hw _ (List.mem_of_getElem? (i := 3) rfl))) (by decide) (backOf (W := 0) (rm1 l Z a0 hw hS [] q0 q1 p2 h0 n0 O0) hZ (hw _ (List.mem_of_getElem? (i := 3) rfl)) (hw _ (List.mem_of_getElem? (i := 2) rfl)) (by decide) (by decide)) (g := (mkF m 4 #[oJ q0, oS, oJ q1, oS, oI p2, oU, oU] [(.int p2), (.long q1), (.long q0)])) rfl (by rw [hml]; rfl) (argsL := [(.long q0), (.long q1), (.int p2)]) (rest := []) (lenOf pd_1 rfl) rfl (by show 2 * 0 + _ ≤ _; exact Nat.le_of_eq rfl) (hb hby at_4) (fun _ _ => ⟨rfl, e0, (by decide : 0 + 0 ≤ _), (by decide : 0 + 0 ≤ _)⟩)
  dsimp only [Pt.U, Pt.locs, Pt.cells, Pt.slots] at X73 l73 y73 z73 st73 hQ73
  subst l73 y73 z73
  obtain ⟨v73, N73q, h73q⟩ := hQ73
  subst v73
  have N73 := Fr.app N0 N73q
  obtain ⟨_, _, ⟨T74, L74, k74, n74⟩, -, X74, ⟨Lc74, hQ74, l74, y74, z74⟩, st74⟩ := Jvm.LawKit.callS X73 hx (y := (⟨"com/example/meerkat/meerkat/ResponseCode", "forValue", "(J)Lcom/example/meerkat/meerkat/ResponseCode;"⟩ : MethodName)) hown (mvT hZ (hw _ (List.mem_of_getElem? (i := 4) rfl))) (mvT hZ (hw _ (List.mem_of_getElem? (i := 5) rfl))) (mvT hZ (hw _ (List.mem_of_getElem? (i := 6) rfl))) (mvT hZ (hw _ (List.mem_of_getElem? (i := 7) rfl))) (by decide) (backOf (W := 0) (rm2 l Z a0 hw hS [] (fn1 Z q0 q1 p2) h0 n0 O0 ) hZ (hw _ (List.mem_of_getElem? (i := 7) rfl)) (hw _ (List.mem_of_getElem? (i := 6) rfl)) (by decide) (by decide)) (g := (mkF m 11 #[oJ q0, oS, oJ q1, oS, oI p2, oJ (fn1 Z q0 q1 p2), oS] [(.long (fn1 Z q0 q1 p2))])) rfl (by rw [hml]; rfl) (argsL := [(.long (fn1 Z q0 q1 p2))]) (rest := []) (lenOf pd_2 rfl) rfl (by show 2 * 0 + _ ≤ _; exact Nat.le_of_eq rfl) (hb hby at_11) (fun _ _ => ⟨rfl, h73q, (by decide : 0 + 1 ≤ _), (by decide : 0 + 9 ≤ _)⟩)
  dsimp only [Pt.U, Pt.locs, Pt.cells, Pt.slots] at X74 l74 y74 z74 st74 hQ74
  subst l74 y74 z74
  obtain ⟨v74, N74q, K74q⟩ := hQ74
  subst v74
  have N74 := Fr.app N73 N74q
  have O74 := O0.keep K74q all0
  have Kc74 := (Keep.refl h0 []).trans K74q all0
  obtain ⟨_, _, ⟨T75, L75, k75, n75⟩, -, X75, ⟨Lc75, hQ75, l75, y75, z75⟩, st75⟩ := Jvm.LawKit.callS X74 hx (y := (⟨"com/example/meerkat/meerkat/ResponseCodeForValuePinLaw", "expected", "(J)Lcom/example/meerkat/meerkat/ResponseCode;"⟩ : MethodName)) hown (mvT hZ (hw _ (List.mem_of_getElem? (i := 34) rfl))) (mvT hZ (hw _ (List.mem_of_getElem? (i := 35) rfl))) (mvT hZ (hw _ (List.mem_of_getElem? (i := 2) rfl))) (mvT hZ (hw _ (List.mem_of_getElem? (i := 36) rfl))) (by decide) (backOf (W := 1) (rm4 l Z a0 hw hS [] (fn1 Z q0 q1 p2) T74.heap n0 O74) hZ (hw _ (List.mem_of_getElem? (i := 36) rfl)) (hw _ (List.mem_of_getElem? (i := 2) rfl)) (by decide) (by decide)) (g := (mkF m 16 #[oJ q0, oS, oJ q1, oS, oI p2, oJ (fn1 Z q0 q1 p2), oS] [(.long (fn1 Z q0 q1 p2)), (fn2 Z (fn1 Z q0 q1 p2))])) rfl (by rw [hml]; rfl) (argsL := [(.long (fn1 Z q0 q1 p2))]) (rest := [(fn2 Z (fn1 Z q0 q1 p2))]) (lenOf pd_2 rfl) rfl (by simp only [List.map_cons, List.map_nil, own_catV (fn2_ref Z (fn1 Z q0 q1 p2))]; show 2 * 0 + _ ≤ _; exact Nat.le_of_eq rfl) (hb hby at_16) (fun _ _ => ⟨rfl, rfl, (by decide : 1 + 0 ≤ _), (by decide : 9 + 0 ≤ _)⟩)
  dsimp only [Pt.U, Pt.locs, Pt.cells, Pt.slots] at X75 l75 y75 z75 st75 hQ75
  subst l75 y75 z75
  obtain ⟨v75, N75q, h75q⟩ := hQ75
  subst v75
  have N75 := Fr.app N74 N75q
  have pre76 : ∀ t, oP p e below T75 (mkF m 19 #[oJ q0, oS, oJ q1, oS, oI p2, oJ (fn1 Z q0 q1 p2), oS] [(fn4 Z (fn1 Z q0 q1 p2)), (fn2 Z (fn1 Z q0 q1 p2))]) t → oP p e below s₁ (entryFrame m #[(.long q0), (.long q1), (.int p2)] maxLocals) t := fun t k => pre0 t (by
    show oP p e below s₁ (mkF m 0 #[oJ q0, oS, oJ q1, oS, oI p2, oU, oU] []) _
    refine XS.lloadN X0.here hx rfl (hb hby at_0) rfl ?_
    show oP p e below s₁ (mkF m 1 #[oJ q0, oS, oJ q1, oS, oI p2, oU, oU] [(.long q0)]) _
    refine XS.lloadN X0.here hx rfl (hb hby at_1) rfl ?_
    show oP p e below s₁ (mkF m 2 #[oJ q0, oS, oJ q1, oS, oI p2, oU, oU] [(.long q1), (.long q0)]) _
    refine XS.iload X0.here hx rfl (hb hby at_2) rfl ?_
    show oP p e below s₁ (mkF m 4 #[oJ q0, oS, oJ q1, oS, oI p2, oU, oU] [(.int p2), (.long q1), (.long q0)]) _
    refine st73 _ ?_
    show oP p e below T73 (mkF m 7 #[oJ q0, oS, oJ q1, oS, oI p2, oU, oU] [(.long (fn1 Z q0 q1 p2))]) _
    refine XS.lstore X73.here hx rfl (hb hby at_7) rfl (l' := #[oJ q0, oS, oJ q1, oS, oI p2, oJ (fn1 Z q0 q1 p2), oS]) rfl ?_
    show oP p e below T73 (mkF m 9 #[oJ q0, oS, oJ q1, oS, oI p2, oJ (fn1 Z q0 q1 p2), oS] []) _
    refine XS.lload X73.here hx rfl (hb hby at_9) rfl ?_
    show oP p e below T73 (mkF m 11 #[oJ q0, oS, oJ q1, oS, oI p2, oJ (fn1 Z q0 q1 p2), oS] [(.long (fn1 Z q0 q1 p2))]) _
    refine st74 _ ?_
    show oP p e below T74 (mkF m 14 #[oJ q0, oS, oJ q1, oS, oI p2, oJ (fn1 Z q0 q1 p2), oS] [(fn2 Z (fn1 Z q0 q1 p2))]) _
    refine XS.lload X74.here hx rfl (hb hby at_14) rfl ?_
    show oP p e below T74 (mkF m 16 #[oJ q0, oS, oJ q1, oS, oI p2, oJ (fn1 Z q0 q1 p2), oS] [(.long (fn1 Z q0 q1 p2)), (fn2 Z (fn1 Z q0 q1 p2))]) _
    refine st75 _ ?_
    exact k)
  by_cases hc77 : (fn2 Z (fn1 Z q0 q1 p2)) = (fn4 Z (fn1 Z q0 q1 p2))
  · obtain ⟨fs, hr, hrun, hended, hW, hsame⟩ := X75.leave (v := some (.int (1 : Int32))) (fun h => by rw [Bd.returns] at h; cases h)
    refine ⟨_, _, pre76 _ ?_, hrun, hended, _, _, rfl, ?_, ⟨_, rfl⟩, hW, hsame.mono (by decide) (by decide)⟩
    · show oP p e below T75 (mkF m 19 #[oJ q0, oS, oJ q1, oS, oI p2, oJ (fn1 Z q0 q1 p2), oS] [(fn4 Z (fn1 Z q0 q1 p2)), (fn2 Z (fn1 Z q0 q1 p2))]) _
      refine Jvm.RoadKit.acmp (g := (mkF m 19 #[oJ q0, oS, oJ q1, oS, oI p2, oJ (fn1 Z q0 q1 p2), oS] [(fn4 Z (fn1 Z q0 q1 p2)), (fn2 Z (fn1 Z q0 q1 p2))])) X75 hx rfl (fn2_ref Z (fn1 Z q0 q1 p2)) (fn4_ref Z (fn1 Z q0 q1 p2)) (pc0 := 19) (pc' := 22) (same := true) rfl (hb hby at_19) rfl (decide_eq_true hc77) (by decide) (by decide) ?_
      show oP p e below T75 (mkF m 22 #[oJ q0, oS, oJ q1, oS, oI p2, oJ (fn1 Z q0 q1 p2), oS] []) _
      refine XS.iconst X75.here hx rfl (hb hby at_22) ?_
      show oP p e below T75 (mkF m 23 #[oJ q0, oS, oJ q1, oS, oI p2, oJ (fn1 Z q0 q1 p2), oS] [(.int (1 : Int32))]) _
      refine XS.goto X75.here hx rfl (pc0 := 23) (pc' := 27) rfl (hb hby at_23) (by decide) (by decide) ?_
      show oP p e below T75 (mkF m 27 #[oJ q0, oS, oJ q1, oS, oI p2, oJ (fn1 Z q0 q1 p2), oS] [(.int (1 : Int32))]) _
      exact retN X75 hx (t := .boolean) Bd.returns (by simp) (hb hby at_27) hr
    · show (some (.int (1 : Int32)) : Option Value) = some (.int (1 : Int32)) ∧ Fr n0 _ ∧ Keep h0 T75.heap []
      rw [h75q]
      exact ⟨rfl, N75, Kc74⟩
  · exfalso
    exact ab78 hS q0 q1 p2 hc77
set_option maxRecDepth 65536 in
set_option maxHeartbeats 40000000 in
theorem comes_1 {Post : Tables → Env → Array Value → State → Outcome → State → Prop} (hpost : ∀ tb e args s v u, (limb_1_1.after args s (.returned v) u = true ∧ limb_1_2.after args s (.returned v) u = true ∧ True) → FrameEnd s (.returned v) u (Jvm.fieldLocs frame_1_writes args s ++ Jvm.arrayLocs frame_1_arrays args s ++ Jvm.staticLocs frame_1_statics s) 16 128 → Post tb e args s (.returned v) u) :
    ArmFor flags0 classFile x code maxLocals ret World_1 tables_1 room_1 Calls_1 rest_1 Pre_1 Post := by
  intro l hfl _ _ p e ha hc hk s m args below hf hA hF happ hP
  obtain ⟨hcalls, hrest, hpre⟩ := hP
  obtain ⟨-, -, -, hnamed, -, -, -, hat⟩ := (Spec.applies_iff hf).mp happ
  obtain ⟨hg, hn⟩ := and_e (Cond.before_iff.mp (show (Jvm.Cond.and given_1 narrow_1).before args s = true from hpre))
  obtain ⟨g1, g2⟩ := and_e hg
  obtain ⟨g3, g4⟩ := and_e g2
  obtain ⟨g5, g6⟩ := and_e g4
  obtain ⟨w0, w1, w2, rfl⟩ : ∃ w0 w1 w2 : Value, args = #[w0, w1, w2] := by
    have hs : args.size = 3 := by simpa [Cond.value, given_1] using g1
    obtain ⟨L⟩ := args
    match L, hs with
    | [w0, w1, w2], _ => exact ⟨w0, w1, w2, rfl⟩
  have hw := fun d (hd : d ∈ tables_1) => atoms_spec (ws := Jvm.Cond.code x code maxLocals ret :: tables_1) hat d (List.mem_cons_of_mem _ hd)
  have hfit : Fit s := fun {y c} hc i hi => by
    obtain ⟨ha, rfl⟩ := Array.getElem?_eq_some_iff.mp hc
    have q := List.all_eq_true.mp ((Array.all_eq_true_iff_forall_mem.mp hF) _ (Array.getElem_mem ha)) i (List.mem_range.mpr hi)
    simpa [Array.getElem?_eq_getElem hi] using q
  obtain ⟨i0, ei0⟩ := isL_v g3
  obtain rfl : w0 = (.long i0) := Option.some.inj ei0
  obtain ⟨i1, ei1⟩ := isL_v g5
  obtain rfl : w1 = (.long i1) := Option.some.inj ei1
  obtain ⟨i2, ei2⟩ := is_v g6
  obtain rfl : w2 = (.int i2) := Option.some.inj ei2
  obtain ⟨q0, hn0⟩ := and_e hn
  obtain ⟨q1, hn1⟩ := and_e hn0
  obtain ⟨q2, hn2⟩ := and_e hn1
  obtain ⟨q3, hn3⟩ := and_e hn2
  obtain ⟨q4, hn4⟩ := and_e hn3
  obtain ⟨q5, hn5⟩ := and_e hn4
  obtain ⟨q6, hn6⟩ := and_e hn5
  obtain ⟨q7, hn7⟩ := and_e hn6
  obtain ⟨q8, hn8⟩ := and_e hn7
  obtain ⟨q9, hn9⟩ := and_e hn8
  obtain ⟨q10, hn10⟩ := and_e hn9
  obtain ⟨q11, hn11⟩ := and_e hn10
  obtain ⟨q12, hn12⟩ := and_e hn11
  obtain ⟨q13, hn13⟩ := and_e hn12
  obtain ⟨q14, hn14⟩ := and_e hn13
  obtain ⟨q15, hn15⟩ := and_e hn14
  obtain ⟨q16, hn16⟩ := and_e hn15
  obtain ⟨q17, hn17⟩ := and_e hn16
  obtain ⟨q18, hn18⟩ := and_e hn17
  obtain ⟨q19, hn19⟩ := and_e hn18
  obtain ⟨q20, hn20⟩ := and_e hn19
  obtain ⟨q21, hn21⟩ := and_e hn20
  obtain ⟨q22, hn22⟩ := and_e hn21
  obtain ⟨q23, hn23⟩ := and_e hn22
  obtain ⟨q24, hn24⟩ := and_e hn23
  obtain ⟨q25, hn25⟩ := and_e hn24
  obtain ⟨q26, hn26⟩ := and_e hn25
  obtain ⟨q27, hn27⟩ := and_e hn26
  obtain ⟨q28, hn28⟩ := and_e hn27
  have q29 := hn28
  have hS : St s := ⟨(own_sta q1 (Or.inr ⟨(hw _ (List.mem_of_getElem? (i := 6) rfl)), (hw _ (List.mem_of_getElem? (i := 12) rfl))⟩)), (own_exa q1), (own_sta q3 (Or.inr ⟨(hw _ (List.mem_of_getElem? (i := 6) rfl)), (hw _ (List.mem_of_getElem? (i := 20) rfl))⟩)), (own_exa q3), (own_sta q5 (Or.inr ⟨(hw _ (List.mem_of_getElem? (i := 6) rfl)), (hw _ (List.mem_of_getElem? (i := 21) rfl))⟩)), (own_exa q5), (own_sta q7 (Or.inr ⟨(hw _ (List.mem_of_getElem? (i := 6) rfl)), (hw _ (List.mem_of_getElem? (i := 22) rfl))⟩)), (own_exa q7), (own_sta q9 (Or.inr ⟨(hw _ (List.mem_of_getElem? (i := 6) rfl)), (hw _ (List.mem_of_getElem? (i := 23) rfl))⟩)), (own_exa q9), (own_sta q11 (Or.inr ⟨(hw _ (List.mem_of_getElem? (i := 6) rfl)), (hw _ (List.mem_of_getElem? (i := 24) rfl))⟩)), (own_exa q11), (own_sta q13 (Or.inr ⟨(hw _ (List.mem_of_getElem? (i := 6) rfl)), (hw _ (List.mem_of_getElem? (i := 25) rfl))⟩)), (own_exa q13), (own_sta q15 (Or.inr ⟨(hw _ (List.mem_of_getElem? (i := 6) rfl)), (hw _ (List.mem_of_getElem? (i := 26) rfl))⟩)), (own_exa q15), (own_sta q17 (Or.inr ⟨(hw _ (List.mem_of_getElem? (i := 6) rfl)), (hw _ (List.mem_of_getElem? (i := 27) rfl))⟩)), (own_exa q17), (own_sta q19 (Or.inr ⟨(hw _ (List.mem_of_getElem? (i := 6) rfl)), (hw _ (List.mem_of_getElem? (i := 28) rfl))⟩)), (own_exa q19), (own_fldI q21), (own_fldI q22), (own_fldI q23), (own_fldI q24), (own_fldI q25), (own_fldI q26), (own_fldI q27), (own_fldI q28), (own_fldI q29), (own_vals hfit q0 q2 rfl (by decide) (fun cl A => ⟨own_elem q4 (own_at (q3)) A rfl, own_elem q6 (own_at (q5)) A rfl, own_elem q8 (own_at (q7)) A rfl, own_elem q10 (own_at (q9)) A rfl, own_elem q12 (own_at (q11)) A rfl, own_elem q14 (own_at (q13)) A rfl, own_elem q16 (own_at (q15)) A rfl, own_elem q18 (own_at (q17)) A rfl, own_elem q20 (own_at (q19)) A rfl, trivial⟩) (by simp [fits]))⟩
  obtain ⟨n, o, h1, h2, h3, _, L, rfl, ⟨rfl, N, -⟩, hq⟩ := rm0 l s _ hw hS tables_1 i0 i1 i2 s.heap s.heap.size (Old.start s) p e ha hc hk s m _ below hf ((Spec.applies_iff_loose hf).mp happ).1 ⟨rfl, State.Warmed39.refl s, rfl⟩ trivial
  refine ⟨n, _, h1, h2, h3, hpost _ _ _ _ _ _ ⟨Cond.after_iff.mpr rfl, Cond.after_iff.mpr (eq_i res_at (Term.int_eval (1)) rfl), trivial⟩ ⟨hq.1, hq.2.1, (hq.2.2.sift fun y hy => Or.inr (N y hy)).mono (by decide) (by decide)⟩⟩
theorem main_1_1 : Claimed_1_1 := comes_1 fun _ _ _ _ _ _ h hF => ⟨h.1, hF⟩
theorem main_1_2 : Claimed_1_2 := comes_1 fun _ _ _ _ _ _ h hF => ⟨h.2.1, hF⟩
end Jvm.Pilot.@@N@@
namespace Jvm.Pilot.@@N@@
open Jvm Jvm.ClassFile Sem Op Lib Jvm.Free Jvm.Stand Jvm.Pilot.@@N@@.Jvm.D
/-! MADE BY PROGRAM (witnessworld.py) out of the Statement's table words and the real class files: 13 classes; the members and pool entries that the words name. The judged class is class 1, her method 3. -/
namespace start1
open Jvm.ClassFile
def u (s : String) : CpInfo := .utf8 (stringToUtf16 s)
/-- a pool by its gaps: so many unusable entries, then the entry; so many at the end -/
def gap : Nat → List CpInfo → List CpInfo
  | 0, r => r
  | n + 1, r => .unusable :: gap n r
def poolList (es : List (Nat × CpInfo)) (last : Nat) : List CpInfo := es.foldr (fun e r => gap e.1 (e.2 :: r)) (gap last [])
def pool (es : List (Nat × CpInfo)) (last : Nat) : Array CpInfo := ⟨poolList es last⟩
def fileOf (pool : Array CpInfo) (this : Nat) (attrs : Array Attribute := #[]) (ms : Array MethodInfo := #[]) (fl : Nat := 33) (sup : Nat := 0) (ifs : Array Nat := #[]) (fds : Array FieldInfo := #[]) : ClassFile where
  minorVersion := 0
  majorVersion := 65
  constantPool := pool
  accessFlags := fl
  thisClass := this
  superClass := sup
  interfaces := ifs
  fields := fds
  methods := ms
  attributes := attrs
def plain (name : String) (sup : Option ClassId) : Class where
  name := name
  kind := .ordinary
  loader := none
  accessFlags := 33
  super := sup
  interfaces := #[]
  cf := none
  fields := #[]
  methods := #[]
  instanceTypes := #[]
  staticTypes := #[]
  resolved := #[]
  callSites := []
  init := .initialized
  statics := none
  mirror := none

def pool0 : Array CpInfo := pool [(5, u "<init>"), (0, u "()V"), (1, .class_ 10), (1, u "java/lang/Object"), (85, u "clone"), (0, u "()Ljava/lang/Object;")] 26

def k0m0 : Method := { name := "<init>", desc := "()V", sig := { parameters := [], returnType := none }, accessFlags := 1, code := none }
def k0m1 : Method := { name := "clone", desc := "()Ljava/lang/Object;", sig := { parameters := [], returnType := some (.object "java/lang/Object") }, accessFlags := 260, code := none }
/-- java/lang/Object -/
def k0 : Class := { plain "java/lang/Object" none with
  accessFlags := 33
  interfaces := #[]
  cf := some (fileOf pool0 8 #[] #[{ accessFlags := 1, nameIndex := 5, descriptorIndex := 6, attributes := #[] }, { accessFlags := 260, nameIndex := 96, descriptorIndex := 97, attributes := #[] }] 33 0 #[] #[])
  fields := #[]
  methods := #[k0m0, k0m1]
  instanceTypes := #[]
  staticTypes := #[]
  resolved := Array.replicate 124 none
  statics := none }

def pool1 : Array CpInfo := pool [(2, .class_ 4), (1, u "java/lang/Object"), (0, u "<init>"), (0, u "()V"), (0, .fieldref 8 9), (0, .class_ 10), (0, .nameAndType 11 12), (0, u "com/example/meerkat/meerkat/ResponseCode"), (0, u "LICENSED"), (0, u "Lcom/example/meerkat/meerkat/ResponseCode;"), (0, .fieldref 8 14), (0, .nameAndType 15 12), (0, u "NOT_LICENSED"), (0, .long 2), (1, .fieldref 8 19), (0, .nameAndType 20 12), (0, u "LICENSED_OLD_KEY"), (0, .long 3), (1, .fieldref 8 24), (0, .nameAndType 25 12), (0, u "ERROR_NOT_MARKET_MANAGED"), (0, .long 4), (1, .fieldref 8 29), (0, .nameAndType 30 12), (0, u "ERROR_SERVER_FAILURE"), (0, .long 5), (1, .fieldref 8 34), (0, .nameAndType 35 12), (0, u "ERROR_OVER_QUOTA"), (0, .long 257), (1, .fieldref 8 39), (0, .nameAndType 40 12), (0, u "ERROR_CONTACTING_SERVER"), (0, .long 258), (1, .fieldref 8 44), (0, .nameAndType 45 12), (0, u "ERROR_INVALID_PACKAGE_NAME"), (0, .long 259), (1, .fieldref 8 49), (0, .nameAndType 50 12), (0, u "ERROR_NON_MATCHING_UID"), (0, .long 7), (1, .long 255), (1, .long 511), (1, .long 9223372036854775808), (1, .long 9223372036854775807), (1, .methodref 62 63), (0, .class_ 64), (0, .nameAndType 65 66), (0, u "com/example/meerkat/meerkat/ResponseCodeForValuePinLaw"), (0, u "pick"), (0, u "(JJI)J"), (0, .methodref 8 68), (0, .nameAndType 69 70), (0, u "forValue"), (0, u "(J)Lcom/example/meerkat/meerkat/ResponseCode;"), (0, .methodref 62 72), (0, .nameAndType 73 70), (0, u "expected"), (3, u "law"), (0, u "(JJI)Z")] 2

def k1m0 : Method := { name := "<init>", desc := "()V", sig := { parameters := [], returnType := none }, accessFlags := 2, code := none }
def k1c1 : Code := { maxStack := 4, maxLocals := 2, code := method_2_code, exceptionTable := #[], attributes := #[] }
def k1m1 : Method := { name := "expected", desc := "(J)Lcom/example/meerkat/meerkat/ResponseCode;", sig := { parameters := [.long], returnType := some (.object "com/example/meerkat/meerkat/ResponseCode") }, accessFlags := 10, code := some k1c1 }
def k1c2 : Code := { maxStack := 6, maxLocals := 6, code := method_3_code, exceptionTable := #[], attributes := #[] }
def k1m2 : Method := { name := "pick", desc := "(JJI)J", sig := { parameters := [.long, .long, .int], returnType := some .long }, accessFlags := 10, code := some k1c2 }
def k1c3 : Code := { maxStack := 5, maxLocals := 7, code := code, exceptionTable := #[], attributes := #[] }
def k1m3 : Method := { name := "law", desc := "(JJI)Z", sig := { parameters := [.long, .long, .int], returnType := some .boolean }, accessFlags := 9, code := some k1c3 }
/-- com/example/meerkat/meerkat/ResponseCodeForValuePinLaw -/
def k1 : Class := { plain "com/example/meerkat/meerkat/ResponseCodeForValuePinLaw" (some 0) with
  accessFlags := 49
  interfaces := #[]
  cf := some (fileOf pool1 62 #[] #[{ accessFlags := 2, nameIndex := 5, descriptorIndex := 6, attributes := #[] }, { accessFlags := 10, nameIndex := 73, descriptorIndex := 70, attributes := #[] }, { accessFlags := 10, nameIndex := 65, descriptorIndex := 66, attributes := #[] }, { accessFlags := 9, nameIndex := 77, descriptorIndex := 78, attributes := #[] }] 49 2 #[] #[])
  fields := #[]
  methods := #[k1m0, k1m1, k1m2, k1m3]
  instanceTypes := #[]
  staticTypes := #[]
  resolved := Array.replicate 81 none
  statics := none }

def pool2 : Array CpInfo := pool [(1, .class_ 2), (0, u "java/lang/constant/Constable"), (0, .class_ 4), (0, u "java/lang/Object")] 6

/-- java/lang/constant/Constable -/
def k2 : Class := { plain "java/lang/constant/Constable" (some 0) with
  accessFlags := 1537
  interfaces := #[]
  cf := some (fileOf pool2 1 #[] #[] 1537 3 #[] #[])
  fields := #[]
  methods := #[]
  instanceTypes := #[]
  staticTypes := #[]
  resolved := Array.replicate 11 none
  statics := none }

def pool3 : Array CpInfo := pool [(1, .class_ 2), (0, u "java/lang/Comparable"), (0, .class_ 4), (0, u "java/lang/Object")] 7

/-- java/lang/Comparable -/
def k3 : Class := { plain "java/lang/Comparable" (some 0) with
  accessFlags := 1537
  interfaces := #[]
  cf := some (fileOf pool3 1 #[] #[] 1537 3 #[] #[])
  fields := #[]
  methods := #[]
  instanceTypes := #[]
  staticTypes := #[]
  resolved := Array.replicate 12 none
  statics := none }

def pool4 : Array CpInfo := pool [(1, .class_ 2), (0, u "java/io/Serializable"), (0, .class_ 4), (0, u "java/lang/Object")] 2

/-- java/io/Serializable -/
def k4 : Class := { plain "java/io/Serializable" (some 0) with
  accessFlags := 1537
  interfaces := #[]
  cf := some (fileOf pool4 1 #[] #[] 1537 3 #[] #[])
  fields := #[]
  methods := #[]
  instanceTypes := #[]
  staticTypes := #[]
  resolved := Array.replicate 7 none
  statics := none }

def pool5 : Array CpInfo := pool [(2, .class_ 4), (1, u "java/lang/Enum"), (0, u "name"), (0, u "Ljava/lang/String;"), (2, u "ordinal"), (0, u "I"), (1, .class_ 14), (1, u "java/lang/Object"), (4, u "hash"), (86, .class_ 108), (1, u "java/lang/Enum$EnumDesc"), (2, .class_ 112), (0, u "java/lang/constant/Constable"), (0, .class_ 114), (0, u "java/lang/Comparable"), (0, .class_ 116), (0, u "java/io/Serializable")] 87

/-- java/lang/Enum -/
def k5 : Class := { plain "java/lang/Enum" (some 0) with
  accessFlags := 1057
  interfaces := #[2, 3, 4]
  cf := some (fileOf pool5 2 #[.nestMembers #[106]] #[] 1057 12 #[111, 113, 115] #[{ accessFlags := 18, nameIndex := 5, descriptorIndex := 6, attributes := #[] }, { accessFlags := 18, nameIndex := 9, descriptorIndex := 10, attributes := #[] }, { accessFlags := 2, nameIndex := 19, descriptorIndex := 10, attributes := #[] }])
  fields := #[{ name := "name", type := (.object "java/lang/String"), accessFlags := 18, slot := 0, constantValue := 0 }, { name := "ordinal", type := .int, accessFlags := 18, slot := 1, constantValue := 0 }, { name := "hash", type := .int, accessFlags := 2, slot := 2, constantValue := 0 }]
  methods := #[]
  instanceTypes := #[(.object "java/lang/String"), .int, .int]
  staticTypes := #[]
  resolved := Array.replicate 204 none
  statics := none }

def pool6 : Array CpInfo := pool [(1, .class_ 2), (0, u "com/example/meerkat/meerkat/ResponseCode"), (2, u "LICENSED"), (0, u "Lcom/example/meerkat/meerkat/ResponseCode;"), (2, u "NOT_LICENSED"), (2, u "LICENSED_OLD_KEY"), (2, u "ERROR_NOT_MARKET_MANAGED"), (2, u "ERROR_SERVER_FAILURE"), (2, u "ERROR_OVER_QUOTA"), (2, u "ERROR_CONTACTING_SERVER"), (2, u "ERROR_INVALID_PACKAGE_NAME"), (2, u "ERROR_NON_MATCHING_UID"), (0, .fieldref 1 32), (0, .nameAndType 33 34), (0, u "$VALUES"), (0, u "[Lcom/example/meerkat/meerkat/ResponseCode;"), (0, .methodref 36 37), (0, .class_ 34), (0, .nameAndType 38 39), (0, u "clone"), (0, u "()Ljava/lang/Object;"), (1, .class_ 43), (1, u "java/lang/Enum"), (6, .fieldref 1 51), (0, .nameAndType 52 53), (0, u "value"), (0, u "I"), (2, u "signed"), (0, u "Z"), (0, .methodref 1 59), (0, .nameAndType 60 61), (0, u "values"), (0, u "()[Lcom/example/meerkat/meerkat/ResponseCode;"), (24, u "forValue"), (0, u "(J)Lcom/example/meerkat/meerkat/ResponseCode;")] 6

def k6c0 : Code := { maxStack := 1, maxLocals := 0, code := prog_37_method_1_code, exceptionTable := #[], attributes := #[] }
def k6m0 : Method := { name := "values", desc := "()[Lcom/example/meerkat/meerkat/ResponseCode;", sig := { parameters := [], returnType := some (.array (.object "com/example/meerkat/meerkat/ResponseCode")) }, accessFlags := 9, code := some k6c0 }
def k6c1 : Code := { maxStack := 4, maxLocals := 6, code := prog_37_method_6_code, exceptionTable := #[], attributes := #[] }
def k6m1 : Method := { name := "forValue", desc := "(J)Lcom/example/meerkat/meerkat/ResponseCode;", sig := { parameters := [.long], returnType := some (.object "com/example/meerkat/meerkat/ResponseCode") }, accessFlags := 9, code := some k6c1 }
/-- com/example/meerkat/meerkat/ResponseCode -/
def k6 : Class := { plain "com/example/meerkat/meerkat/ResponseCode" (some 5) with
  accessFlags := 16433
  interfaces := #[]
  cf := some (fileOf pool6 1 #[] #[{ accessFlags := 9, nameIndex := 60, descriptorIndex := 61, attributes := #[] }, { accessFlags := 9, nameIndex := 86, descriptorIndex := 87, attributes := #[] }] 16433 41 #[] #[{ accessFlags := 16409, nameIndex := 5, descriptorIndex := 6, attributes := #[] }, { accessFlags := 16409, nameIndex := 9, descriptorIndex := 6, attributes := #[] }, { accessFlags := 16409, nameIndex := 12, descriptorIndex := 6, attributes := #[] }, { accessFlags := 16409, nameIndex := 15, descriptorIndex := 6, attributes := #[] }, { accessFlags := 16409, nameIndex := 18, descriptorIndex := 6, attributes := #[] }, { accessFlags := 16409, nameIndex := 21, descriptorIndex := 6, attributes := #[] }, { accessFlags := 16409, nameIndex := 24, descriptorIndex := 6, attributes := #[] }, { accessFlags := 16409, nameIndex := 27, descriptorIndex := 6, attributes := #[] }, { accessFlags := 16409, nameIndex := 30, descriptorIndex := 6, attributes := #[] }, { accessFlags := 18, nameIndex := 52, descriptorIndex := 53, attributes := #[] }, { accessFlags := 18, nameIndex := 56, descriptorIndex := 57, attributes := #[] }, { accessFlags := 4122, nameIndex := 33, descriptorIndex := 34, attributes := #[] }])
  fields := #[{ name := "LICENSED", type := (.object "com/example/meerkat/meerkat/ResponseCode"), accessFlags := 16409, slot := 0, constantValue := 0 }, { name := "NOT_LICENSED", type := (.object "com/example/meerkat/meerkat/ResponseCode"), accessFlags := 16409, slot := 1, constantValue := 0 }, { name := "LICENSED_OLD_KEY", type := (.object "com/example/meerkat/meerkat/ResponseCode"), accessFlags := 16409, slot := 2, constantValue := 0 }, { name := "ERROR_NOT_MARKET_MANAGED", type := (.object "com/example/meerkat/meerkat/ResponseCode"), accessFlags := 16409, slot := 3, constantValue := 0 }, { name := "ERROR_SERVER_FAILURE", type := (.object "com/example/meerkat/meerkat/ResponseCode"), accessFlags := 16409, slot := 4, constantValue := 0 }, { name := "ERROR_OVER_QUOTA", type := (.object "com/example/meerkat/meerkat/ResponseCode"), accessFlags := 16409, slot := 5, constantValue := 0 }, { name := "ERROR_CONTACTING_SERVER", type := (.object "com/example/meerkat/meerkat/ResponseCode"), accessFlags := 16409, slot := 6, constantValue := 0 }, { name := "ERROR_INVALID_PACKAGE_NAME", type := (.object "com/example/meerkat/meerkat/ResponseCode"), accessFlags := 16409, slot := 7, constantValue := 0 }, { name := "ERROR_NON_MATCHING_UID", type := (.object "com/example/meerkat/meerkat/ResponseCode"), accessFlags := 16409, slot := 8, constantValue := 0 }, { name := "value", type := .int, accessFlags := 18, slot := 3, constantValue := 0 }, { name := "signed", type := .boolean, accessFlags := 18, slot := 4, constantValue := 0 }, { name := "$VALUES", type := (.array (.object "com/example/meerkat/meerkat/ResponseCode")), accessFlags := 4122, slot := 9, constantValue := 0 }]
  methods := #[k6m0, k6m1]
  instanceTypes := #[(.object "java/lang/String"), .int, .int, .int, .boolean]
  staticTypes := #[(.object "com/example/meerkat/meerkat/ResponseCode"), (.object "com/example/meerkat/meerkat/ResponseCode"), (.object "com/example/meerkat/meerkat/ResponseCode"), (.object "com/example/meerkat/meerkat/ResponseCode"), (.object "com/example/meerkat/meerkat/ResponseCode"), (.object "com/example/meerkat/meerkat/ResponseCode"), (.object "com/example/meerkat/meerkat/ResponseCode"), (.object "com/example/meerkat/meerkat/ResponseCode"), (.object "com/example/meerkat/meerkat/ResponseCode"), (.array (.object "com/example/meerkat/meerkat/ResponseCode"))]
  resolved := Array.replicate 94 none
  statics := some 0 }

def pool7 : Array CpInfo := pool [(1, .class_ 2), (0, u "java/lang/Cloneable"), (0, .class_ 4), (0, u "java/lang/Object")] 2

/-- java/lang/Cloneable -/
def k7 : Class := { plain "java/lang/Cloneable" (some 0) with
  accessFlags := 1537
  interfaces := #[]
  cf := some (fileOf pool7 1 #[] #[] 1537 3 #[] #[])
  fields := #[]
  methods := #[]
  instanceTypes := #[]
  staticTypes := #[]
  resolved := Array.replicate 7 none
  statics := none }

/-- the primitive byte -/
def k8 : Class := { plain "byte" none with kind := .primitive 'B', accessFlags := 0x411 }
/-- [B -/
def k9 : Class := { plain "[B" (some 0) with kind := .array 8 .byte, interfaces := #[7, 4], accessFlags := 1041 }

/-- the primitive int -/
def k10 : Class := { plain "int" none with kind := .primitive 'I', accessFlags := 0x411 }
/-- [I -/
def k11 : Class := { plain "[I" (some 0) with kind := .array 10 .int, interfaces := #[7, 4], accessFlags := 1041 }

/-- [Lcom/example/meerkat/meerkat/ResponseCode; -/
def k12 : Class := { plain "[Lcom/example/meerkat/meerkat/ResponseCode;" (some 0) with kind := .array 6 (.object "com/example/meerkat/meerkat/ResponseCode"), interfaces := #[7, 4], accessFlags := 1041 }

def heap : Heap := #[{ cls := 6, slots := #[.ref 2, .ref 3, .ref 4, .ref 5, .ref 6, .ref 7, .ref 8, .ref 9, .ref 10, .ref 1], vm := .statics 6 },
  { cls := 12, slots := #[.ref 2, .ref 3, .ref 4, .ref 5, .ref 6, .ref 7, .ref 8, .ref 9, .ref 10], vm := .none },
  { cls := 6, slots := #[.null, .int 0, .int 0, .int 0, .int 0], vm := .none },
  { cls := 6, slots := #[.null, .int 0, .int 0, .int 1, .int 0], vm := .none },
  { cls := 6, slots := #[.null, .int 0, .int 0, .int 2, .int 0], vm := .none },
  { cls := 6, slots := #[.null, .int 0, .int 0, .int 3, .int 0], vm := .none },
  { cls := 6, slots := #[.null, .int 0, .int 0, .int 4, .int 0], vm := .none },
  { cls := 6, slots := #[.null, .int 0, .int 0, .int 5, .int 0], vm := .none },
  { cls := 6, slots := #[.null, .int 0, .int 0, .int 257, .int 0], vm := .none },
  { cls := 6, slots := #[.null, .int 0, .int 0, .int 258, .int 0], vm := .none },
  { cls := 6, slots := #[.null, .int 0, .int 0, .int 259, .int 0], vm := .none }]
def classes : Array Class := #[k0, k1, k2, k3, k4, k5, k6, k7, k8, k9, k10, k11, k12]
def interned : List (Array UInt16 × Addr) := []
def slotsUsed : Nat := 64
def theMethod : MethodId := ⟨1, 3⟩
def args0 : Array Value := #[.long 5, .long 6, .int 7]
def aboutOver (below : List Frame) : State where
  vm := { classes := classes, interned := interned.toArray }
  heap := heap
  slotsUsed := slotsUsed
  threads := #[{ frames := .invoking theMethod args0 :: below }]
def below0 : List Frame := [.native { method := ⟨0, 0⟩, args := #[] }]
def about1 : State := aboutOver below0
def p0 : Program := .bare "" "" ""
def e0 : Env := launch0.env 0 0 0
theorem w_frames : about1.frames = Frame.invoking theMethod args0 :: below0 := rfl
set_option maxRecDepth 65536 in
theorem w_args : argsFit about1.vm theMethod args0 = true := by decide +kernel
set_option maxRecDepth 65536 in
theorem w_heap : heapFits about1 = true := by decide +kernel
set_option maxRecDepth 65536 in
theorem w_runnable : about1.curStatus? = some .runnable := by decide +kernel
set_option maxRecDepth 65536 in
theorem w_alone : about1.alone = true := by decide +kernel
set_option maxRecDepth 65536 in
theorem w_named : about1.methodNamed? x = some theMethod := by decide +kernel
set_option maxRecDepth 65536 in
theorem w_hears : about1.hears theMethod below0 = true := by decide +kernel
set_option maxRecDepth 65536 in
theorem w_ripe : about1.ripe theMethod args0 below0 = true := by decide +kernel
theorem w_running : about1.status = .running := rfl
set_option maxRecDepth 65536 in
theorem w_room : about1.hasRoom e0.platform room_1 = true :=
  launch0.hasRoom_least _ room_1 (by decide +kernel) (by decide +kernel) (by decide +kernel) (by decide +kernel) (by decide +kernel) (by decide +kernel)
theorem allAtoms_all (ts : List Jvm.Cond) (a : Array Jvm.Value) (st : Jvm.State) : (allAtoms ts).before a st = ts.all (fun c => c.before a st) := by
  induction ts with
  | nil => rfl
  | cons c t ih =>
    show (Jvm.Cond.and c (allAtoms t)).before a st = _
    rw [Jvm.Cond.before_and, ih, List.all_cons]
def words1 : List Jvm.Cond := Jvm.Cond.code x code maxLocals ret :: tables_1
/-- a 'code' word, met by the world's own term for the bytes: nothing is compared byte by byte -/
theorem code_word {y : MethodName} {bytes : ByteArray} {mx : Nat} {rt : Option FieldType} {a : Array Value} {s : State} {m : MethodId} {meth : Method} {c : Code} (h1 : s.methodNamed? y = some m) (h2 : s.vm.method? m = some meth) (h3 : meth.code = some c) (h4 : c.code = bytes)
    (h5 : (c.maxLocals == mx && c.exceptionTable.isEmpty && decide (c.maxStack ≤ mostOperands) && decide (meth.sig.returnType = rt) && !meth.locks && decide (parseMethodDescriptor y.desc = some meth.sig)) = true) : (Jvm.Cond.code y bytes mx rt).before a s = true := by
  simp only [Bool.and_eq_true, beq_iff_eq, Bool.not_eq_true', decide_eq_true_eq] at h5
  obtain ⟨⟨⟨⟨⟨g1, g2⟩, g3⟩, g4⟩, g5⟩, g6⟩ := h5
  simp [Cond.before, Cond.holds, Cond.value, h1, h2, h3, h4, g1, g2, g3, g4, g5, g6]
def isCode : Jvm.Cond → Bool
  | .code _ _ _ _ => true
  | _ => false
theorem all_split {L : List Jvm.Cond} {P : Jvm.Cond → Bool} (h1 : L.all (fun c => isCode c || P c) = true) (h2 : ∀ c ∈ L.filter isCode, P c = true) : L.all P = true := by
  refine List.all_eq_true.mpr fun c hc => ?_
  have h := List.all_eq_true.mp h1 c hc
  rcases Bool.eq_false_or_eq_true (isCode c) with hi | hi
  · exact h2 c (List.mem_filter.mpr ⟨hc, hi⟩)
  · simpa [hi] using h
set_option maxRecDepth 65536 in
theorem w_c0 : (Jvm.Cond.code x code maxLocals ret).before args0 about1 = true := code_word (m := ⟨1, 3⟩) (meth := k1m3) (c := k1c3) (by decide +kernel) rfl rfl rfl (by decide +kernel)
set_option maxRecDepth 65536 in
theorem w_c1 : (Jvm.Cond.code ({ cls := "com/example/meerkat/meerkat/ResponseCodeForValuePinLaw", name := "pick", desc := "(JJI)J" } : Jvm.MethodName) method_3_code (6 : Nat) (Option.some Jvm.ClassFile.FieldType.long)).before args0 about1 = true := code_word (m := ⟨1, 2⟩) (meth := k1m2) (c := k1c2) (by decide +kernel) rfl rfl rfl (by decide +kernel)
set_option maxRecDepth 65536 in
theorem w_c2 : (Jvm.Cond.code ({ cls := "com/example/meerkat/meerkat/ResponseCode", name := "forValue", desc := "(J)Lcom/example/meerkat/meerkat/ResponseCode;" } : Jvm.MethodName) prog_37_method_6_code (6 : Nat) (Option.some (Jvm.ClassFile.FieldType.object "com/example/meerkat/meerkat/ResponseCode"))).before args0 about1 = true := code_word (m := ⟨6, 1⟩) (meth := k6m1) (c := k6c1) (by decide +kernel) rfl rfl rfl (by decide +kernel)
set_option maxRecDepth 65536 in
theorem w_c3 : (Jvm.Cond.code ({ cls := "com/example/meerkat/meerkat/ResponseCode", name := "values", desc := "()[Lcom/example/meerkat/meerkat/ResponseCode;" } : Jvm.MethodName) prog_37_method_1_code (0 : Nat) (Option.some (Jvm.ClassFile.FieldType.array (Jvm.ClassFile.FieldType.object "com/example/meerkat/meerkat/ResponseCode")))).before args0 about1 = true := code_word (m := ⟨6, 0⟩) (meth := k6m0) (c := k6c0) (by decide +kernel) rfl rfl rfl (by decide +kernel)
set_option maxRecDepth 65536 in
theorem w_c4 : (Jvm.Cond.code ({ cls := "com/example/meerkat/meerkat/ResponseCodeForValuePinLaw", name := "expected", desc := "(J)Lcom/example/meerkat/meerkat/ResponseCode;" } : Jvm.MethodName) method_2_code (2 : Nat) (Option.some (Jvm.ClassFile.FieldType.object "com/example/meerkat/meerkat/ResponseCode"))).before args0 about1 = true := code_word (m := ⟨1, 1⟩) (meth := k1m1) (c := k1c1) (by decide +kernel) rfl rfl rfl (by decide +kernel)
def codes1 : List Jvm.Cond := [Jvm.Cond.code x code maxLocals ret, Jvm.Cond.code ({ cls := "com/example/meerkat/meerkat/ResponseCodeForValuePinLaw", name := "pick", desc := "(JJI)J" } : Jvm.MethodName) method_3_code (6 : Nat) (Option.some Jvm.ClassFile.FieldType.long), Jvm.Cond.code ({ cls := "com/example/meerkat/meerkat/ResponseCode", name := "forValue", desc := "(J)Lcom/example/meerkat/meerkat/ResponseCode;" } : Jvm.MethodName) prog_37_method_6_code (6 : Nat) (Option.some (Jvm.ClassFile.FieldType.object "com/example/meerkat/meerkat/ResponseCode")), Jvm.Cond.code ({ cls := "com/example/meerkat/meerkat/ResponseCode", name := "values", desc := "()[Lcom/example/meerkat/meerkat/ResponseCode;" } : Jvm.MethodName) prog_37_method_1_code (0 : Nat) (Option.some (Jvm.ClassFile.FieldType.array (Jvm.ClassFile.FieldType.object "com/example/meerkat/meerkat/ResponseCode"))), Jvm.Cond.code ({ cls := "com/example/meerkat/meerkat/ResponseCodeForValuePinLaw", name := "expected", desc := "(J)Lcom/example/meerkat/meerkat/ResponseCode;" } : Jvm.MethodName) method_2_code (2 : Nat) (Option.some (Jvm.ClassFile.FieldType.object "com/example/meerkat/meerkat/ResponseCode"))]
set_option maxRecDepth 65536 in
theorem codes_eq : words1.filter isCode = codes1 := rfl
theorem w_codes : ∀ c ∈ words1.filter isCode, c.before args0 about1 = true := by
  rw [codes_eq]
  intro c hc
  simp only [codes1, List.mem_cons, List.not_mem_nil, or_false] at hc
  rcases hc with rfl | rfl | rfl | rfl | rfl
  · exact w_c0
  · exact w_c1
  · exact w_c2
  · exact w_c3
  · exact w_c4
set_option maxRecDepth 65536 in
theorem w_t1 : (words1.take 24).all (fun c => isCode c || c.before args0 about1) = true := by decide +kernel
set_option maxRecDepth 65536 in
theorem w_t2 : ((words1.drop 24).take 24).all (fun c => isCode c || c.before args0 about1) = true := by decide +kernel
set_option maxRecDepth 65536 in
theorem w_t3 : ((words1.drop 24).drop 24).all (fun c => isCode c || c.before args0 about1) = true := by decide +kernel
theorem w_tables : (allAtoms (Jvm.Cond.code x code maxLocals ret :: tables_1)).before args0 about1 = true := by
  rw [allAtoms_all]
  show words1.all (fun c => c.before args0 about1) = true
  refine all_split ?_ w_codes
  rw [← List.take_append_drop 24 words1, List.all_append, w_t1, ← List.take_append_drop 24 (words1.drop 24), List.all_append, w_t2, w_t3]
  rfl
set_option maxRecDepth 65536 in
theorem w_case : (Jvm.Cond.and given_1 narrow_1).before args0 about1 = true := by decide +kernel
theorem w_applies : (headSpec (Jvm.Cond.code x code maxLocals ret :: tables_1) room_1).applies x e0.platform about1 = true :=
  (Spec.applies_iff w_frames).mpr ⟨w_running, w_runnable, w_alone, w_named, w_hears, w_ripe, w_room, w_tables⟩
theorem atStart : AtStart classFile x code maxLocals ret World_1 tables_1 room_1 Calls_1 rest_1 Pre_1 launch0 p0 e0 about1 theMethod args0 below0 :=
  ⟨lists_1, trivial, launch0.admits_env _ _ _, launch0.least_env, fairChoices_fair.cas, fairChoices_fair.clock, w_frames, w_args, w_heap, w_applies, trivial, trivial, w_case⟩
end start1
theorem witness_1 : WitnessClaimed_1 := ⟨start1.p0, start1.e0, start1.about1, start1.theMethod, start1.args0, start1.below0, start1.atStart⟩
end Jvm.Pilot.@@N@@
