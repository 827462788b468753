import JvmDerived
import JvmDerived.Pilot.@@N@@Statement
import JvmDerived.Pilot.@@N@@Code
set_option linter.unusedVariables false
set_option linter.unusedSimpArgs false
namespace Jvm.RoadKit
open Sem ClassFile Op Lib Jvm.Stand Jvm.Free Jvm.LawKit
section New
variable {p : Program} {l : Launch} {e : Env} {R : Room} {s : State} {m : MethodId} {args : Array Value} {below : List Frame} {meth : Method} {c : Code} {T : State} {locs : List Loc} {cells slots : Nat}
theorem retI (X : Stand p l e R s m args below meth c T locs cells slots) (hx : p.tables.exec = Jvm.exec) {pc : Nat} {Ls : Array Slot} {z : Int32} {rest : List Value} (hret : meth.sig.returnType = some .int) (hd : decode c.code pc = .ok (.ireturn, 1)) {fs : List Frame}
    (hl : ∀ (f : JFrame) (acts : List Action), f.method = m → f.locked = none → f.entered = [] → (doReturn e (T.setTop f) acts (some (.int z))).1 = T.setFrames fs) : Steps p.tables e below (T.setTop (mkF m pc Ls (.int z :: rest))) (T.setFrames fs) := by
  have hm' : T.vm.method? m = some meth := X.method'
  have hn : narrow .int (.int z) = .int z := rfl
  show Steps p.tables e below (T.setTop { method := m, pc := pc, locals := Ls, stack := _ :: rest, locked := none }) _
  jvm_step X.here [X.here.top, hx, hd, hm', hret, hn]
  first | (intro acts; rw [hl _ acts rfl rfl rfl]) | rw [hl _ _ rfl rfl rfl]
  exact Steps.refl _
theorem own_retJ (X : Stand p l e R s m args below meth c T locs cells slots) (hx : p.tables.exec = Jvm.exec) {pc : Nat} {Ls : Array Slot} {z : Int64} {rest : List Value} (hret : meth.sig.returnType = some .long) (hd : decode c.code pc = .ok (.lreturn, 1)) {fs : List Frame}
    (hl : ∀ (f : JFrame) (acts : List Action), f.method = m → f.locked = none → f.entered = [] → (doReturn e (T.setTop f) acts (some (.long z))).1 = T.setFrames fs) : Steps p.tables e below (T.setTop (mkF m pc Ls (.long z :: rest))) (T.setFrames fs) := by
  have hm' : T.vm.method? m = some meth := X.method'
  have hn : narrow .long (.long z) = .long z := rfl
  show Steps p.tables e below (T.setTop { method := m, pc := pc, locals := Ls, stack := _ :: rest, locked := none }) _
  jvm_step X.here [X.here.top, hx, hd, hm', hret, hn]
  first | (intro acts; rw [hl _ acts rfl rfl rfl]) | rw [hl _ _ rfl rfl rfl]
  exact Steps.refl _
theorem own_catV {v : Value} (h : v.isRef = true) : v.category = 1 := by cases v <;> first | rfl | cases h
theorem own_retA (X : Stand p l e R s m args below meth c T locs cells slots) (hx : p.tables.exec = Jvm.exec) {pc : Nat} {Ls : Array Slot} {w : Value} {t : FieldType} {rest : List Value} (hret : meth.sig.returnType = some t) (ht : t.isReference = true) (hw : w.isRef = true) (hd : decode c.code pc = .ok (.areturn, 1)) {fs : List Frame}
    (hl : ∀ (f : JFrame) (acts : List Action), f.method = m → f.locked = none → f.entered = [] → (doReturn e (T.setTop f) acts (some w)).1 = T.setFrames fs) : Steps p.tables e below (T.setTop (mkF m pc Ls (w :: rest))) (T.setFrames fs) := by
  have hm' : T.vm.method? m = some meth := X.method'
  show Steps p.tables e below (T.setTop { method := m, pc := pc, locals := Ls, stack := w :: rest, locked := none }) _
  jvm_step X.here [X.here.top, hx, hd, hm', hret, ht, hw]
  first | (intro acts; rw [hl _ acts rfl rfl rfl]) | rw [hl _ _ rfl rfl rfl]
  exact Steps.refl _
variable {Z : State} {h : Heap}
theorem own_len (X : Stand p l e R s m args below meth c T locs cells slots) (hx : p.tables.exec = Jvm.exec) (hZ : Z.Warmed39 s.vm) (eT : T.heap = h) {a : Addr} {k : ClassId} {ty : FieldType} {z : Int32} {vs : List Value} {dv : Value} (F : Arv Z h a k ty z vs dv) {g : JFrame} (hg : g.method = m) {rest : List Value} (hs : g.stack = .ref a :: rest) (hd : decode c.code g.pc = .ok (.arraylength, 1)) (target : State)
    (hr : Steps p.tables e below (T.setTop { g with pc := g.pc + 1, stack := .int z :: rest }) target) : Steps p.tables e below (T.setTop g) target := by
  obtain ⟨cl, A, -, S, N, -, -⟩ := F
  refine X.arraylength hx (by rw [eT]; exact A.1) (State.isArrayOf_alike hZ.alike A.2.1) hg hs hd _ ?_
  rw [len_of S N]; exact hr
theorem own_aaload (X : Stand p l e R s m args below meth c T locs cells slots) (hx : p.tables.exec = Jvm.exec) (hZ : Z.Warmed39 s.vm) (eT : T.heap = h) {a : Addr} {k : ClassId} {ty : FieldType} {z : Int32} {vs : List Value} {dv : Value} (F : Arv Z h a k ty z vs dv) (hty : ty.isReference = true) {j : Int32} (hj : ¬ j < 0 ∧ j < z) {v : Value} (hv : vs.getD j.toNatClampNeg dv = v) {g : JFrame} (hg : g.method = m) {rest : List Value} (hs : g.stack = .int j :: .ref a :: rest) (hd : decode c.code g.pc = .ok (.aaload, 1)) (target : State)
    (hr : Steps p.tables e below (T.setTop { g with pc := g.pc + 1, stack := v :: rest }) target) : Steps p.tables e below (T.setTop g) target := by
  obtain ⟨cl, A, -, S, N, H, -⟩ := F
  have hin := inb_of S hj
  exact X.aaload hx (by rw [eT]; exact A.1) (State.isArrayOf_alike hZ.alike A.2.1) hty A.2.2 hin (H.at hin hv) hg hs hd _ hr
theorem own_baload (X : Stand p l e R s m args below meth c T locs cells slots) (hx : p.tables.exec = Jvm.exec) (hZ : Z.Warmed39 s.vm) (eT : T.heap = h) {a : Addr} {k : ClassId} {z : Int32} {vs : List Value} {dv : Value} (F : Arv Z h a k .byte z vs dv) {j : Int32} (hj : ¬ j < 0 ∧ j < z) {v : Value} (hv : vs.getD j.toNatClampNeg dv = v) {g : JFrame} (hg : g.method = m) {rest : List Value} (hs : g.stack = .int j :: .ref a :: rest) (hd : decode c.code g.pc = .ok (.baload, 1)) (target : State)
    (hr : Steps p.tables e below (T.setTop { g with pc := g.pc + 1, stack := v :: rest }) target) : Steps p.tables e below (T.setTop g) target := by
  obtain ⟨cl, A, -, S, N, H, -⟩ := F
  have hin := inb_of S hj
  exact X.baloadBytes hx (by rw [eT]; exact A.1) (State.isArrayOf_alike hZ.alike A.2.1) A.2.2 hin (H.at hin hv) hg hs hd _ hr
theorem own_stR (X : Stand p l e R s m args below meth c T locs cells slots) (hx : p.tables.exec = Jvm.exec) (hZ : Z.Warmed39 s.vm) (eT : T.heap = h) {a y : Addr} {k : ClassId} {C : String} {z : Int32} {vs : List Value} {dv : Value} (F : Arv Z h a k (.object C) z vs dv) (O : Ovr Z k C) (I : Ins Z h y C true) {j : Int32} (hj : ¬ j < 0 ∧ j < z) {i : Nat} (hi : j.toNatClampNeg = i) (hl : i < vs.length) {g : JFrame} (hg : g.method = m) {rest : List Value} (hs : g.stack = .ref y :: .int j :: .ref a :: rest) (hd : decode c.code g.pc = .ok (.aastore, 1)) :
    ∃ T' h', Stand p l e R s m args below meth c T' (locs ++ [⟨a, j.toNatClampNeg⟩]) cells slots ∧ T'.heap = h' ∧ Wr h h' a j.toNatClampNeg (.ref y) ∧ Arv Z h' a k (.object C) z (vs.set i (.ref y)) dv ∧ ∀ target, Steps p.tables e below (T'.setTop { g with pc := g.pc + 1, stack := rest }) target → Steps p.tables e below (T.setTop g) target := by
  obtain ⟨cl, A, q, S, N, H, G⟩ := F
  obtain ⟨T', h', X', e', W, st⟩ := stR X hx hZ eT A (inb_of S hj) rfl (Sto.ofV A q O I) hg hs hd
  exact ⟨T', h', X', e', W, Arv.set A q S N H G rfl W i hi hl, st⟩
theorem own_stC (X : Stand p l e R s m args below meth c T locs cells slots) (hx : p.tables.exec = Jvm.exec) (hZ : Z.Warmed39 s.vm) (eT : T.heap = h) {a : Addr} {k : ClassId} {z x : Int32} {vs : List Value} {dv : Value} (F : Arv Z h a k .char z vs dv) {j : Int32} (hj : ¬ j < 0 ∧ j < z) {i : Nat} (hi : j.toNatClampNeg = i) (hl : i < vs.length) {g : JFrame} (hg : g.method = m) {rest : List Value} (hs : g.stack = .int x :: .int j :: .ref a :: rest) (hd : decode c.code g.pc = .ok (.castore, 1)) :
    ∃ T' h', Stand p l e R s m args below meth c T' (locs ++ [⟨a, j.toNatClampNeg⟩]) cells slots ∧ T'.heap = h' ∧ Wr h h' a j.toNatClampNeg (.int (nar .char x)) ∧ Arv Z h' a k .char z (vs.set i (.int (nar .char x))) dv ∧ ∀ target, Steps p.tables e below (T'.setTop { g with pc := g.pc + 1, stack := rest }) target → Steps p.tables e below (T.setTop g) target := by
  obtain ⟨cl, A, q, S, N, H, G⟩ := F
  obtain ⟨T', h', X', e', W, st⟩ := stC X hx hZ eT A (inb_of S hj) hg hs hd
  exact ⟨T', h', X', e', W, Arv.set A q S N H G (fits_nar_char _) W i hi hl, st⟩
theorem own_stB (X : Stand p l e R s m args below meth c T locs cells slots) (hx : p.tables.exec = Jvm.exec) (hZ : Z.Warmed39 s.vm) (eT : T.heap = h) {a : Addr} {k : ClassId} {z x : Int32} {vs : List Value} {dv : Value} (F : Arv Z h a k .byte z vs dv) {j : Int32} (hj : ¬ j < 0 ∧ j < z) {i : Nat} (hi : j.toNatClampNeg = i) (hl : i < vs.length) {g : JFrame} (hg : g.method = m) {rest : List Value} (hs : g.stack = .int x :: .int j :: .ref a :: rest) (hd : decode c.code g.pc = .ok (.bastore, 1)) :
    ∃ T' h', Stand p l e R s m args below meth c T' (locs ++ [⟨a, j.toNatClampNeg⟩]) cells slots ∧ T'.heap = h' ∧ Wr h h' a j.toNatClampNeg (.int (nar .byte x)) ∧ Arv Z h' a k .byte z (vs.set i (.int (nar .byte x))) dv ∧ ∀ target, Steps p.tables e below (T'.setTop { g with pc := g.pc + 1, stack := rest }) target → Steps p.tables e below (T.setTop g) target := by
  obtain ⟨cl, A, q, S, N, H, G⟩ := F
  obtain ⟨T', h', X', e', W, st⟩ := stB X hx hZ eT A (inb_of S hj) hg hs hd
  exact ⟨T', h', X', e', W, Arv.set A q S N H G (fits_nar_byte _) W i hi hl, st⟩
end New
end Jvm.RoadKit
namespace Jvm.Pilot.@@N@@
open Jvm Jvm.ClassFile Sem Op Lib Jvm.Free Jvm.Stand Jvm.LawKit Jvm.RoadKit Bundle Jvm.Pilot.@@N@@.Jvm.D
abbrev oI (x : Int32) : Slot := .val (.int x)
abbrev oJ (x : Int64) : Slot := .val (.long x)
abbrev oR (a : Addr) : Slot := .val (.ref a)
abbrev oN : Slot := .val .null
abbrev oV (v : Value) : Slot := .val v
abbrev oU : Slot := .unset
abbrev oS : Slot := .second
abbrev oP (p : Program) (e : Env) (below : List Frame) (T : State) (g : JFrame) (t : State) : Prop := Steps p.tables e below (T.setTop g) t
def own_sv (Z : State) (C n d : String) : Addr := match (Term.static C n d).eval #[] Z none [] Z with | some (.ref a) => a | _ => 0
theorem own_sv_of {Z : State} {args : Array Value} {C n d : String} {a : Addr} (h : (Term.static C n d).eval args Z none [] Z = some (.ref a)) : (Term.static C n d).eval args Z none [] Z = some (.ref (own_sv Z C n d)) := by
  have h' : (Term.static C n d).eval #[] Z none [] Z = some (.ref a) := h
  rw [h]; unfold own_sv; rw [h']
theorem own_at {Z : State} {args : Array Value} {C n d K : String} (h : (Cond.exactly (Term.static C n d) K).value args Z none Z [] = some true) : (Term.static C n d).eval args Z none [] Z = some (.ref (own_sv Z C n d)) := by
  obtain ⟨a, ha⟩ := exa_v h
  exact own_sv_of ha
theorem own_sta {Z : State} {args : Array Value} {C n d K : String} (h : (Cond.exactly (Term.static C n d) K).value args Z none Z [] = some true) (hi : (Cond.initializedFor C n d).before args Z = true ∨ ((Cond.initialized C).before args Z = true ∧ (Cond.laysStatic C n d).before args Z = true)) : Sta Z Z.heap C n d (.ref (own_sv Z C n d)) := Sta.start (own_at h) hi
theorem own_exa {Z : State} {args : Array Value} {C n d K : String} (h : (Cond.exactly (Term.static C n d) K).value args Z none Z [] = some true) : Exa Z Z.heap (own_sv Z C n d) K := Exa.start (own_at h) h
theorem own_fldV {Z : State} {args : Array Value} {C n d O f fd : String} {v : Value} (h : (Term.field (Term.static C n d) O f fd).eval args Z none [] Z = some v) : Fld Z Z.heap (own_sv Z C n d) O f fd v := by
  obtain ⟨a, ha⟩ := fld_v h
  rw [fld_at (own_sv_of ha)] at h
  exact Fld.start h
theorem own_fldI {Z : State} {args : Array Value} {C n d O f fd : String} {k : Int32} (h : (Cond.eq (Term.field (Term.static C n d) O f fd) (Term.int k)).value args Z none Z [] = some true) : Fld Z Z.heap (own_sv Z C n d) O f fd (.int k) := by
  refine own_fldV (args := args) ?_
  cases hv : (Term.field (Term.static C n d) O f fd).eval args Z none [] Z with
  | none => simp [Cond.value, hv] at h
  | some v => cases v <;> simp_all [Cond.value, Term.eval]
abbrev own_Q (Q : Option Value → Heap → List Loc → Prop) (v : Option Value) (h : Heap) (L : List Loc) : Prop := Q v h L
theorem own_clamp (x : Int32) : x.toNatClampNeg = x.toInt.toNat := rfl
theorem own_and_le (x c : Int32) (hc : 0 ≤ c.toInt) : 0 ≤ (x &&& c).toInt ∧ (x &&& c).toInt ≤ c.toInt := by
  have hm : c.toBitVec.msb = false := by
    cases h : c.toBitVec.msb with
    | false => rfl
    | true =>
      have := BitVec.toInt_neg_of_msb_true h
      rw [Int32.toInt_toBitVec] at this
      omega
  have h : (x &&& c).toBitVec.msb = false := by
    rw [Int32.toBitVec_and, BitVec.msb_and, hm]; simp
  have e1 : (x &&& c).toInt = ((x &&& c).toBitVec.toNat : Int) := by
    rw [← Int32.toInt_toBitVec, BitVec.toInt_eq_toNat_of_msb h]
  have e2 : c.toInt = (c.toBitVec.toNat : Int) := by
    rw [← Int32.toInt_toBitVec, BitVec.toInt_eq_toNat_of_msb hm]
  have h3 : (x &&& c).toBitVec.toNat ≤ c.toBitVec.toNat := by
    rw [Int32.toBitVec_and, BitVec.toNat_and]; exact Nat.and_le_right
  omega
theorem own_rem {x y : Int32} (hx : 0 ≤ x.toInt) (hy : 0 < y.toInt) : (x - (x / y) * y).toInt = x.toInt % y.toInt := by
  have h1 : (x / y).toInt = x.toInt / y.toInt := by
    rw [Int32.toInt_div]
    rw [Int.tdiv_eq_ediv_of_nonneg hx]
    have := Int32.toInt_lt x
    have h2 : 0 ≤ x.toInt / y.toInt := Int.ediv_nonneg hx (by omega)
    have h3 : x.toInt / y.toInt ≤ x.toInt := Int.ediv_le_self _ hx
    apply Int.bmod_eq_of_le <;> omega
  rw [Int32.toInt_sub, Int32.toInt_mul, h1]
  have h2 : 0 ≤ x.toInt / y.toInt * y.toInt := Int.mul_nonneg (Int.ediv_nonneg hx (by omega)) (by omega)
  have h3 : x.toInt / y.toInt * y.toInt ≤ x.toInt := Int.ediv_mul_le _ (by omega)
  have h4 := Int32.toInt_lt x
  rw [Int.bmod_eq_of_le (n := x.toInt / y.toInt * y.toInt) (by omega) (by omega)]
  have h5 : x.toInt - x.toInt / y.toInt * y.toInt = x.toInt % y.toInt := by
    have := Int.emod_add_mul_ediv x.toInt y.toInt
    have h6 : x.toInt / y.toInt * y.toInt = y.toInt * (x.toInt / y.toInt) := Int.mul_comm _ _
    omega
  rw [h5]
  have h6 := Int.emod_nonneg x.toInt (b := y.toInt) (by omega)
  have h7 := Int.emod_lt_of_pos x.toInt hy
  have h8 := Int32.toInt_lt y
  apply Int.bmod_eq_of_le <;> omega
theorem own_mem {i : Int32} {n : Nat} (h0 : 0 ≤ i.toInt) (h1 : i.toInt < n) : ∃ k, k < n ∧ i = Int32.ofNat k := by
  refine ⟨i.toInt.toNat, by omega, ?_⟩
  apply Int32.toInt_inj.mp
  have := Int32.toInt_lt i
  rw [Int32.toInt_ofNat_of_lt (by omega)]
  omega
theorem own_old_le {Z : State} {n0 : Nat} {h : Heap} (O : Old Z n0 h) : n0 ≤ h.size := O.1 ▸ O.2.1
def own_Vals (Z : State) (a : Addr) (ty : FieldType) (z : Int32) (vs : List Value) (dv : Value) : Prop := ∃ cl : Cell, Arr Z Z.heap a cl ty ∧ FitC Z cl ∧ cl.slots.size = z.toNatClampNeg ∧ Has cl vs dv ∧ ∀ i, i < cl.slots.size → fits ty (vs.getD i dv) = true
theorem own_clone {Z : State} {h : Heap} {b : Addr} {cl : Cell} {ty : FieldType} {z : Int32} {vs : List Value} {dv : Value} (A : Arr Z h b (cloneOf cl) ty) (S : cl.slots.size = z.toNatClampNeg) (hz : ¬ z < 0) (H : Has cl vs dv) (G : ∀ i, i < cl.slots.size → fits ty (vs.getD i dv) = true) : Arv Z h b cl.cls ty z vs dv := ⟨_, A, rfl, S, hz, H, G⟩
theorem own_elem {Z : State} {args : Array Value} {C n d C2 n2 d2 : String} {i : Int32} {cl : Cell} {ty : FieldType} {j : Nat} (h : (Cond.eq (Term.elem (Term.static C n d) (Term.int i)) (Term.static C2 n2 d2)).value args Z none Z [] = some true) (ht : (Term.static C2 n2 d2).eval args Z none [] Z = some (.ref (own_sv Z C2 n2 d2))) (A : Arr Z Z.heap (own_sv Z C n d) cl ty) (hj : i.toNatClampNeg = j) : cl.slots[j]? = some (.ref (own_sv Z C2 n2 d2)) := by
  subst hj
  have hi : (Term.int i).eval args Z none [] Z = some (.int i) := Term.int_eval i
  cases hv : (Term.elem (Term.static C n d) (Term.int i)).eval args Z none [] Z with
  | none => simp [Cond.value, hv] at h
  | some w =>
    obtain ⟨⟨x, hx⟩, -⟩ := elem_v hv
    have h2 := (elem_in hv (own_sv_of hx) hi A.1).2
    rw [h2]
    cases w <;> simp_all [Cond.value]
theorem own_getD {P : Value → Prop} {dv : Value} (hd : P dv) : ∀ (vs : List Value) (h : ∀ v ∈ vs, P v) (i : Nat), P (vs.getD i dv)
  | [], _, _ => by simpa using hd
  | v :: vs, h, 0 => h v (List.mem_cons_self ..)
  | v :: vs, h, i + 1 => own_getD hd vs (fun w hw => h w (List.mem_cons_of_mem _ hw)) i
theorem own_vals {Z : State} {args : Array Value} {C n d C2 : String} {k : Int32} {vs : List Value} (hf : Fit Z) (h1 : (Cond.arrayOf (Term.static C n d) (.object C2)).value args Z none Z [] = some true) (h2 : (Cond.eq (Term.length (Term.static C n d)) (Term.int k)).value args Z none Z [] = some true) (hl : k.toNatClampNeg = vs.length) (hk : ¬ k < 0)
    (h3 : ∀ cl, Arr Z Z.heap (own_sv Z C n d) cl (.object C2) → HasL cl 0 vs) (h4 : ∀ v ∈ vs, fits (.object C2) v = true) : own_Vals Z (own_sv Z C n d) (.object C2) k vs .null := by
  obtain ⟨x, hx⟩ := arr_v h1
  have ev := own_sv_of hx
  obtain ⟨cl, A⟩ := Arr.start ev h1
  have hs : cl.slots.size = k.toNatClampNeg := by
    cases hv : (Term.length (Term.static C n d)).eval args Z none [] Z with
    | none => simp [Cond.value, hv] at h2
    | some w =>
      obtain ⟨a, cell, e1, e2, e3⟩ := Term.length_spec hv
      cases ev.symm.trans e1
      have e4 := A.fin (Vm.Alike.refl _)
      cases e4.symm.trans e2
      have hlt : cl.slots.size < 2 ^ 31 := SBG.length_lt ev e4 hv
      subst e3
      have e5 : cl.slots.size.toInt32 = k := by
        have hi : (Term.int k).eval args Z none [] Z = some (.int k) := Term.int_eval k
        simpa [Cond.value, hv, hi] using h2
      rw [← e5]
      have e6 := len_toInt hlt
      simp only [own_clamp]
      omega
  have H := h3 cl A
  refine ⟨cl, A, FitC.start hf A, hs, fun i hi => ?_, fun i _ => own_getD (P := fun v => fits (.object C2) v = true) rfl vs h4 i⟩
  have := HasL.at (dv := .null) vs 0 H i (by omega)
  simpa using this
theorem own_fldN {Z : State} {args : Array Value} {C n d O f fd : String} (h : (Cond.eq (Term.field (Term.static C n d) O f fd) Term.null).value args Z none Z [] = some true) : Fld Z Z.heap (own_sv Z C n d) O f fd .null := own_fldV (args := args) (null_v h)
theorem own_fldS {Z : State} {args : Array Value} {C n d O f fd C2 n2 d2 K2 : String} (h : (Cond.eq (Term.field (Term.static C n d) O f fd) (Term.static C2 n2 d2)).value args Z none Z [] = some true) (h2 : (Cond.exactly (Term.static C2 n2 d2) K2).value args Z none Z [] = some true) : Fld Z Z.heap (own_sv Z C n d) O f fd (.ref (own_sv Z C2 n2 d2)) := by
  refine own_fldV (args := args) ?_
  have e2 := own_at h2
  cases hv : (Term.field (Term.static C n d) O f fd).eval args Z none [] Z with
  | none => simp [Cond.value, hv] at h
  | some v => cases v <;> simp_all [Cond.value]
theorem own_fldL {Z : State} {args : Array Value} {C n d O f fd : String} {k : Int64} (h : (Cond.eq (Term.field (Term.static C n d) O f fd) (Term.long k)).value args Z none Z [] = some true) : Fld Z Z.heap (own_sv Z C n d) O f fd (.long k) := by
  refine own_fldV (args := args) ?_
  cases hv : (Term.field (Term.static C n d) O f fd).eval args Z none [] Z with
  | none => simp [Cond.value, hv] at h
  | some v => cases v <;> simp_all [Cond.value, Term.eval]
theorem own_staI {Z : State} {args : Array Value} {C n d : String} {k : Int32} (h : (Cond.eq (Term.static C n d) (Term.int k)).value args Z none Z [] = some true) (hi : (Cond.initializedFor C n d).before args Z = true ∨ ((Cond.initialized C).before args Z = true ∧ (Cond.laysStatic C n d).before args Z = true)) : Sta Z Z.heap C n d (.int k) := by
  refine Sta.start (args := args) ?_ hi
  cases hv : (Term.static C n d).eval args Z none [] Z with
  | none => simp [Cond.value, hv] at h
  | some v =>
    have hk : (Term.int k).eval args Z none [] Z = some (.int k) := Term.int_eval k
    cases v <;> simp_all [Cond.value]
def own_Cache (Z : State) (a : Addr) (C : String) (n : Nat) : Prop := ∃ cl : Cell, Arr Z Z.heap a cl (.object C) ∧ cl.slots.size = n ∧ ∀ j, j < n → ∃ x, cl.slots[j]? = some (.ref x) ∧ Exa Z Z.heap x C
theorem own_nsroot {Z : State} {a0 : Array Value} {O K : String} {n : Nat} (w : (Cond.noSuperclass O).before a0 Z = true) (wk : (Cond.instantiable K n).before a0 Z = true) (hn : O ≠ K) : NS Z O K := by
  obtain ⟨c, k, h1, h2, h3, -, -⟩ := Cond.noSuperclass_spec w
  obtain ⟨t, kt, g1, -⟩ := Cond.instantiable_spec wk
  have ne := ids_ne h1 g1 hn
  refine ⟨c, t, h1, g1, fun fuel => ?_⟩
  cases fuel with
  | zero => rfl
  | succ f => simp [Vm.isSubclassAux, ne, h2, h3]
theorem own_nsno {Z : State} {a0 : Array Value} {C S K : String} {n : Nat} (w : (Cond.superclass C S).before a0 Z = true) (wk : (Cond.instantiable K n).before a0 Z = true) (m : NS Z C K) (hn : C ≠ K) : ∃ c t, Z.vm.findClass C = some c ∧ Z.vm.findClass K = some t ∧ Z.vm.assignable c t = false := by
  obtain ⟨c, t, h0, g0, n3⟩ := m
  obtain ⟨p, k, kp, h1, h2, h3, h4, h5, -, h7⟩ := Cond.superclass_spec h0 w
  obtain ⟨t', k', g1, g2, g3, g4, -⟩ := Cond.instantiable_spec wk
  cases g0.symm.trans g1
  have g5 : k'.isInterface = false := by
    cases hq : k'.isInterface with
    | false => rfl
    | true => simp [hq] at g4
  have ne := ids_ne h0 g0 hn
  refine ⟨c, t, h0, g0, ?_⟩
  show Z.vm.assignableAux (255 + 1) c t = false
  simp [Vm.assignableAux, ne, h2, g2, h5, g3, g5, Vm.isSubclass, n3]
theorem own_fitsR {v : Value} {C : String} (h : v.isRef = true) : fits (.object C) v = true := by cases v <;> simp_all [Value.isRef, fits]
def own_si (Z : State) (C n d : String) : Int32 := match (Term.static C n d).eval #[] Z none [] Z with | some (.int a) => a | _ => 0
theorem own_si_of {Z : State} {args : Array Value} {C n d : String} (h : (Cond.isInt (Term.static C n d)).value args Z none Z [] = some true) : (Term.static C n d).eval args Z none [] Z = some (.int (own_si Z C n d)) := by
  obtain ⟨x, hx⟩ := is_v h
  have h' : (Term.static C n d).eval #[] Z none [] Z = some (.int x) := hx
  rw [hx]; unfold own_si; rw [h']
theorem own_sti {Z : State} {args : Array Value} {C n d : String} (h : (Cond.isInt (Term.static C n d)).value args Z none Z [] = some true) (hi : (Cond.initializedFor C n d).before args Z = true ∨ ((Cond.initialized C).before args Z = true ∧ (Cond.laysStatic C n d).before args Z = true)) : Sta Z Z.heap C n d (.int (own_si Z C n d)) := Sta.start (own_si_of h) hi
theorem own_stn {Z : State} {args : Array Value} {C n d : String} (h : (Cond.isInt (Term.static C n d)).value args Z none Z [] = some true) (hn : (Cond.not (Cond.eq (Term.static C n d) (Term.int 0))).value args Z none Z [] = some true) : ¬ own_si Z C n d = 0 := by
  have e := own_si_of h
  have h0 : (Term.int 0).eval args Z none [] Z = some (.int 0) := Term.int_eval 0
  have q := not_v hn
  intro z
  rw [z] at e
  simp [Cond.value, e, h0] at q
theorem own_char {c x : Int32} (h : c = (x &&& (255 : Int32))) : ¬ c < 0 ∧ ¬ (255 : Int32) < c := by
  have q := own_and_le x 255 (by decide)
  rw [← h] at q
  have e : (255 : Int32).toInt = 255 := by decide
  have e0 : (0 : Int32).toInt = 0 := by decide
  rw [Int32.lt_iff_toInt_lt, Int32.lt_iff_toInt_lt, e, e0]
  omega
theorem own_narc {c : Int32} (h : ¬ c < 0 ∧ ¬ (255 : Int32) < c) : nar .char c = c := by
  rw [Int32.lt_iff_toInt_lt, Int32.lt_iff_toInt_lt] at h
  have e : (255 : Int32).toInt = 255 := by decide
  have e0 : (0 : Int32).toInt = 0 := by decide
  rw [e, e0] at h
  obtain ⟨k, hk, rfl⟩ := own_mem (i := c) (n := 256) (by omega) (by omega)
  have t : ∀ k : Fin 256, nar .char (Int32.ofNat k.val) = Int32.ofNat k.val := by decide +kernel
  exact t ⟨k, hk⟩
theorem own_hb {cs : List Int32} (h : ∀ c ∈ cs, ¬ c < 0 ∧ ¬ (255 : Int32) < c) : ∀ c ∈ cs, ¬ c < 0 ∧ ¬ (65535 : Int32) < c := fun c hc => by
  have q := h c hc
  refine ⟨q.1, fun z => q.2 ?_⟩
  rw [Int32.lt_iff_toInt_lt] at z ⊢
  have e : (255 : Int32).toInt = 255 := by decide
  have e0 : (65535 : Int32).toInt = 65535 := by decide
  omega
theorem own_eqv {v : Option Value} {cs ds : List Int32} (h : (v = some (.int 1) ∧ cs = ds) ∨ (v = some (.int 0) ∧ ¬ cs = ds)) : v = some (.int (if cs = ds then (1 : Int32) else (0 : Int32))) := by
  rcases h with ⟨h1, h2⟩ | ⟨h1, h2⟩
  · rw [if_pos h2]; exact h1
  · rw [if_neg h2]; exact h1
theorem own_since (s : State) : s.Since s.vm 0 := (State.WarmedH.refl s).since 0
theorem own_rwmono {s t : State} {o : Outcome} {L : List Loc} {k n k' n' : Nat} (h : ReturnedEndW s o t L k n) (hk : k ≤ k') (hn : n ≤ n') : ReturnedEndW s o t L k' n' := ⟨h.1, h.2.1, h.2.2.1, h.2.2.2.mono hk hn⟩
theorem own_cache {Z : State} {args : Array Value} {C n d K : String} {k : Int32} {N : Nat} {rest : Cond} (h1 : (Cond.arrayOf (Term.static C n d) (.object K)).value args Z none Z [] = some true) (h2 : (Cond.eq (Term.length (Term.static C n d)) (Term.int k)).value args Z none Z [] = some true)
    (h3 : (Cond.all (Term.static C n d) (.and (.exactly (.elem (Term.static C n d) (.index 0)) K) rest)).value args Z none Z [] = some true) (hN : k.toNatClampNeg = N) : own_Cache Z (own_sv Z C n d) K N := by
  obtain ⟨x, hx⟩ := arr_v h1
  have ev := own_sv_of hx
  obtain ⟨cl, A⟩ := Arr.start ev h1
  have e4 := A.fin (Vm.Alike.refl _)
  have hs : cl.slots.size = k.toNatClampNeg ∧ cl.slots.size < 2 ^ 31 := by
    cases hv : (Term.length (Term.static C n d)).eval args Z none [] Z with
    | none => simp [Cond.value, hv] at h2
    | some w =>
      obtain ⟨a, cell, e1, e2, e3⟩ := Term.length_spec hv
      cases ev.symm.trans e1
      cases e4.symm.trans e2
      have hlt : cl.slots.size < 2 ^ 31 := SBG.length_lt ev e4 hv
      subst e3
      have e5 : cl.slots.size.toInt32 = k := by
        have hi : (Term.int k).eval args Z none [] Z = some (.int k) := Term.int_eval k
        simpa [Cond.value, hv, hi] using h2
      rw [← e5]
      have e6 := len_toInt hlt
      refine ⟨?_, hlt⟩
      simp only [own_clamp]
      omega
  refine ⟨cl, A, hs.1.trans hN, fun j hj => ?_⟩
  have q := Cond.all_elim ev e4 h3 j (by omega)
  obtain ⟨q1, -⟩ := and_e q
  obtain ⟨y, hy⟩ := exa_v q1
  have ev' : (Term.static C n d).eval args Z none [j] Z = some (.ref (own_sv Z C n d)) := ev
  have hj' : (Term.index 0).eval args Z none [j] Z = some (.int (Int32.ofNat j)) := Term.index_eval _
  have r := (elem_in hy ev' hj' A.1).2
  have e6 : (Int32.ofNat j).toNatClampNeg = j := by
    have := len_toInt (n := j) (by omega)
    simp only [own_clamp]
    have e7 : (Int32.ofNat j).toInt = j := this
    omega
  rw [e6] at r
  exact ⟨y, r, exa_at hy q1⟩
theorem own_cacheix {p : Int32} {n : Nat} {cl : Cell} (h1 : ¬ p < (-128 : Int32)) (h2 : ¬ (127 : Int32) < p) (S : cl.slots.size = 256) : ¬ (p + (128 : Int32) < 0 ∨ cl.slots.size ≤ (p + (128 : Int32)).toNatClampNeg) ∧ (p + (128 : Int32)).toNatClampNeg < 256 := by
  rw [Int32.lt_iff_toInt_lt] at h1 h2 ⊢
  have e1 : (-128 : Int32).toInt = -128 := by decide
  have e2 : (127 : Int32).toInt = 127 := by decide
  have e3 : (0 : Int32).toInt = 0 := by decide
  have e4 : (128 : Int32).toInt = 128 := by decide
  have e5 : (p + (128 : Int32)).toInt = p.toInt + 128 := by
    rw [Int32.toInt_add, e4]
    apply Int.bmod_eq_of_le <;> omega
  simp only [own_clamp]
  omega
theorem own_staA {Z : State} {args : Array Value} {C n d : String} {ty : FieldType} (h : (Cond.arrayOf (Term.static C n d) ty).value args Z none Z [] = some true) (hi : (Cond.initializedFor C n d).before args Z = true ∨ ((Cond.initialized C).before args Z = true ∧ (Cond.laysStatic C n d).before args Z = true)) : Sta Z Z.heap C n d (.ref (own_sv Z C n d)) := by
  obtain ⟨a, ha⟩ := arr_v h
  exact Sta.start (own_sv_of ha) hi
end Jvm.Pilot.@@N@@
namespace Jvm.Pilot.@@N@@
open Jvm Jvm.ClassFile Sem Op Lib Jvm.Free Jvm.Stand Jvm.LawKit Jvm.RoadKit Bundle Jvm.Pilot.@@N@@.Jvm.D
def a_CONTENTS_CHANGED (Z : State) : Addr := own_sv Z "com/example/latchwork/latchwork/Event$Kind" "CONTENTS_CHANGED" "Lcom/example/latchwork/latchwork/Event$Kind;"
def a__VALUES (Z : State) : Addr := own_sv Z "com/example/latchwork/latchwork/Event$Kind" "$VALUES" "[Lcom/example/latchwork/latchwork/Event$Kind;"
def a_DELETED (Z : State) : Addr := own_sv Z "com/example/latchwork/latchwork/Event$Kind" "DELETED" "Lcom/example/latchwork/latchwork/Event$Kind;"
def St (Z : State) : Prop := (Sta Z Z.heap "com/example/latchwork/latchwork/Event$Kind" "CONTENTS_CHANGED" "Lcom/example/latchwork/latchwork/Event$Kind;" (.ref (a_CONTENTS_CHANGED Z))) ∧ (Exa Z Z.heap (a_CONTENTS_CHANGED Z) "com/example/latchwork/latchwork/Event$Kind") ∧ (Sta Z Z.heap "com/example/latchwork/latchwork/Event$Kind" "$VALUES" "[Lcom/example/latchwork/latchwork/Event$Kind;" (.ref (a__VALUES Z))) ∧ (Exa Z Z.heap (a__VALUES Z) "[Lcom/example/latchwork/latchwork/Event$Kind;") ∧ (Sta Z Z.heap "com/example/latchwork/latchwork/Event$Kind" "DELETED" "Lcom/example/latchwork/latchwork/Event$Kind;" (.ref (a_DELETED Z))) ∧ (Exa Z Z.heap (a_DELETED Z) "com/example/latchwork/latchwork/Event$Kind") ∧ (Fld Z Z.heap (a_CONTENTS_CHANGED Z) "com/example/latchwork/latchwork/Event$Kind" "bit" "I" (.int (1 : Int32))) ∧ (Fld Z Z.heap (a_DELETED Z) "com/example/latchwork/latchwork/Event$Kind" "bit" "I" (.int (2 : Int32))) ∧ (own_Vals Z (a__VALUES Z) (.object "com/example/latchwork/latchwork/Event$Kind") (2 : Int32) [(.ref (a_CONTENTS_CHANGED Z)), (.ref (a_DELETED Z))] .null)
theorem s_a_CONTENTS_CHANGED {Z : State} (h : St Z) : Sta Z Z.heap "com/example/latchwork/latchwork/Event$Kind" "CONTENTS_CHANGED" "Lcom/example/latchwork/latchwork/Event$Kind;" (.ref (a_CONTENTS_CHANGED Z)) := h.1
theorem e_a_CONTENTS_CHANGED {Z : State} (h : St Z) : Exa Z Z.heap (a_CONTENTS_CHANGED Z) "com/example/latchwork/latchwork/Event$Kind" := h.2.1
theorem s_a__VALUES {Z : State} (h : St Z) : Sta Z Z.heap "com/example/latchwork/latchwork/Event$Kind" "$VALUES" "[Lcom/example/latchwork/latchwork/Event$Kind;" (.ref (a__VALUES Z)) := h.2.2.1
theorem e_a__VALUES {Z : State} (h : St Z) : Exa Z Z.heap (a__VALUES Z) "[Lcom/example/latchwork/latchwork/Event$Kind;" := h.2.2.2.1
theorem s_a_DELETED {Z : State} (h : St Z) : Sta Z Z.heap "com/example/latchwork/latchwork/Event$Kind" "DELETED" "Lcom/example/latchwork/latchwork/Event$Kind;" (.ref (a_DELETED Z)) := h.2.2.2.2.1
theorem e_a_DELETED {Z : State} (h : St Z) : Exa Z Z.heap (a_DELETED Z) "com/example/latchwork/latchwork/Event$Kind" := h.2.2.2.2.2.1
theorem f_a_CONTENTS_CHANGED_bit {Z : State} (h : St Z) : Fld Z Z.heap (a_CONTENTS_CHANGED Z) "com/example/latchwork/latchwork/Event$Kind" "bit" "I" (.int (1 : Int32)) := h.2.2.2.2.2.2.1
theorem f_a_DELETED_bit {Z : State} (h : St Z) : Fld Z Z.heap (a_DELETED Z) "com/example/latchwork/latchwork/Event$Kind" "bit" "I" (.int (2 : Int32)) := h.2.2.2.2.2.2.2.1
theorem v_a__VALUES {Z : State} (h : St Z) : own_Vals Z (a__VALUES Z) (.object "com/example/latchwork/latchwork/Event$Kind") (2 : Int32) [(.ref (a_CONTENTS_CHANGED Z)), (.ref (a_DELETED Z))] .null := h.2.2.2.2.2.2.2.2
theorem d2_0 : decode prog_68_method_1_code 0 = .ok (.getstatic 10, 3) := by decide +kernel
theorem d2_3 : decode prog_68_method_1_code 3 = .ok (.invokevirtual 14, 3) := by decide +kernel
theorem d2_6 : decode prog_68_method_1_code 6 = .ok (.checkcast 15, 3) := by decide +kernel
theorem d2_9 : decode prog_68_method_1_code 9 = .ok (.areturn, 1) := by decide +kernel
theorem ef_2 (m : MethodId)  : entryFrame m #[] 0 = mkF m 0 #[] [] := by first | (simp [entryFrame, mkF, argsToLocals, Value.category]; done) | rfl
theorem pn_0 : plainName "com/example/latchwork/latchwork/Event$Kind" = true := by first | (simp [plainName, overriddenIn]; done) | decide +kernel
set_option maxRecDepth 65536 in
set_option maxHeartbeats 40000000 in
theorem rm2 (l : Launch) (Z : State) (a0 : Array Value) (hw : ∀ d ∈ tables_1, d.before a0 Z = true) (hS : St Z) (ws : List Jvm.Cond)  (h0 : Heap) (n0 : Nat) (O0 : Old Z n0 h0) :
    MetFree l (⟨"com/example/latchwork/latchwork/Event$Kind", "values", "()[Lcom/example/latchwork/latchwork/Event$Kind;"⟩ : MethodName) (head1 (Jvm.Cond.code (⟨"com/example/latchwork/latchwork/Event$Kind", "values", "()[Lcom/example/latchwork/latchwork/Event$Kind;"⟩ : MethodName) prog_68_method_1_code 0 (some (.array (.object "com/example/latchwork/latchwork/Event$Kind"))) :: ws) ({ frames := 1, cells := 1, slots := 2, locals := 14 } : Room)) (fun a U => a = #[] ∧ Z.Warmed39 U.vm ∧ U.heap = h0) (fun _ _ _ _ _ => True) (fun _ U o U' => ∃ v L, o = .returned v ∧ own_Q (fun v hE L => ∃ (b : Addr), ∃ (kb : ClassId), v = some (.ref b) ∧ Fr n0 L ∧ Keep h0 hE [] ∧ h0.size ≤ b ∧ Arv Z hE b kb (.object "com/example/latchwork/latchwork/Event$Kind") (2 : Int32) [(.ref (a_CONTENTS_CHANGED Z)), (.ref (a_DELETED Z))] .null) v U'.heap L ∧ FrameEnd U o U' L ({ frames := 1, cells := 1, slots := 2, locals := 14 } : Room).cells ({ frames := 1, cells := 1, slots := 2, locals := 14 } : Room).slots) := by
  refine MetFree.of_bodySF (plainFor_of_name pn_0) hisR ?_
  intro p e s m args below meth c s₁ Bd hml0 hP hK
  obtain ⟨rfl, hZ, hh⟩ := hP
  have hx := Bd.exec
  have hby := Bd.bytes
  have hml : c.maxLocals = 0 := hml0
  have hown : s.vm.findClass "com/example/latchwork/latchwork/Event$Kind" = some m.cls := findClass_of_methodNamed Bd.named
  have hnm := (name_of_methodNamed Bd.named Bd.method).1
  have X0 : Stand p l e ({ frames := 1, cells := 1, slots := 2, locals := 14 } : Room) s m #[] below meth c s₁ [] 0 0 := Stand.of_body Bd
  have e0 : s₁.heap = h0 := by rw [← hh, Bd.state]; rfl
  have N0 := Fr.nil n0
  have pre0 : ∀ t, Steps p.tables e below (s₁.setTop (mkF m 0 #[] [])) t → Steps p.tables e below (s₁.setTop (entryFrame m #[] 0)) t := fun t k => castTop (ef_2 m ) k
  obtain ⟨cl, Ac, Fc, Sc, Hc, Gc⟩ := v_a__VALUES hS
  obtain ⟨T1, X1, e1, st1⟩ := getS2 X0 hx hZ hown (host := "") (Or.inl (hw _ (List.mem_of_getElem? (i := 9) rfl))) Via.refl e0 ((s_a__VALUES hS).ext O0.2) (g := (mkF m 0 #[] [])) rfl (hb hby d2_0)
  obtain ⟨T2, h2, X2, e2, E2, A2, Ex2, st2⟩ := cloneA X1 hx hZ hown (hw _ (List.mem_of_getElem? (i := 11) rfl)) (hw _ (List.mem_of_getElem? (i := 12) rfl)) (hw _ (List.mem_of_getElem? (i := 16) rfl)) (hw _ (List.mem_of_getElem? (i := 14) rfl)) (hw _ (List.mem_of_getElem? (i := 15) rfl)) (hw _ (List.mem_of_getElem? (i := 17) rfl)) e1 ((Ac).ext O0.2) ((e_a__VALUES hS).ext O0.2) Fc (g := (mkF m 3 #[] [(.ref (a__VALUES Z))])) rfl (by rw [hml]; rfl) rfl (hb hby d2_3) (by decide) (W := 0) (cap := 2) (by show 2 * 0 + _ ≤ _; exact Nat.le_of_eq rfl) (by decide) (Nat.le_of_eq Sc) (by decide) (by decide)
  obtain ⟨b2, g2⟩ : ∃ z, z = h0.size := ⟨_, rfl⟩
  have g_b2 : n0 ≤ b2 := Nat.le_trans (own_old_le O0) (Nat.le_of_eq g2.symm)
  have sz_b2 : h0.size ≤ b2 := Nat.le_trans (Keep.refl h0 []).1 (Nat.le_of_eq g2.symm)
  rw [← g2] at A2 Ex2 st2
  have O2 := O0.ext E2
  have Kc2 := (Keep.refl h0 []).ext E2
  have V2 : Arv Z h2 b2 cl.cls (.object "com/example/latchwork/latchwork/Event$Kind") (2 : Int32) [(.ref (a_CONTENTS_CHANGED Z)), (.ref (a_DELETED Z))] .null := own_clone A2 Sc (by decide) Hc Gc
  obtain ⟨T3, X3, e3, st3⟩ := castY X2 hx hZ hown (hw _ (List.mem_of_getElem? (i := 20) rfl)) e2 (Ins.of_exa Ex2 (hw _ (List.mem_of_getElem? (i := 21) rfl))) (g := (mkF m 6 #[] [(.ref b2)])) rfl rfl (hb hby d2_6)
  obtain ⟨fs, hr, hrun, hended, hW, hsame⟩ := X3.leave (v := some (.ref b2)) (fun h => by rw [Bd.returns] at h; cases h)
  refine ⟨_, _, pre0 _ ?_, hrun, hended, _, _, rfl, ?_, ⟨_, rfl⟩, hW, hsame.mono (by decide) (by decide)⟩
  · show oP p e below s₁ (mkF m 0 #[] []) _
    refine st1 _ ?_
    show oP p e below T1 (mkF m 3 #[] [(.ref (a__VALUES Z))]) _
    refine st2 _ ?_
    show oP p e below T2 (mkF m 6 #[] [(.ref b2)]) _
    refine st3 _ ?_
    show oP p e below T3 (mkF m 9 #[] [(.ref b2)]) _
    exact own_retA X3 hx Bd.returns rfl rfl (hb hby d2_9) hr
  · show ∃ (b : Addr), ∃ (kb : ClassId), (some (.ref b2) : Option Value) = some (.ref b) ∧ Fr n0 _ ∧ Keep h0 T3.heap [] ∧ h0.size ≤ b ∧ Arv Z T3.heap b kb (.object "com/example/latchwork/latchwork/Event$Kind") (2 : Int32) [(.ref (a_CONTENTS_CHANGED Z)), (.ref (a_DELETED Z))] .null
    rw [e3]
    exact ⟨b2, cl.cls, rfl, N0, Kc2, sz_b2, V2⟩
theorem d1_0 : decode prog_68_method_6_code 0 = .ok (.invokestatic 48, 3) := by decide +kernel
theorem pd_0 : parseMethodDescriptor "()[Lcom/example/latchwork/latchwork/Event$Kind;" = some ⟨[], some (.array (.object "com/example/latchwork/latchwork/Event$Kind"))⟩ := by decide +kernel
theorem d1_3 : decode prog_68_method_6_code 3 = .ok (.astore_n 1, 1) := by decide +kernel
theorem d1_4 : decode prog_68_method_6_code 4 = .ok (.aload_n 1, 1) := by decide +kernel
theorem d1_5 : decode prog_68_method_6_code 5 = .ok (.arraylength, 1) := by decide +kernel
theorem d1_6 : decode prog_68_method_6_code 6 = .ok (.istore_n 2, 1) := by decide +kernel
theorem d1_7 : decode prog_68_method_6_code 7 = .ok (.iconst 0, 1) := by decide +kernel
theorem d1_8 : decode prog_68_method_6_code 8 = .ok (.istore_n 3, 1) := by decide +kernel
theorem d1_9 : decode prog_68_method_6_code 9 = .ok (.iload_n 3, 1) := by decide +kernel
theorem d1_10 : decode prog_68_method_6_code 10 = .ok (.iload_n 2, 1) := by decide +kernel
theorem d1_11 : decode prog_68_method_6_code 11 = .ok (.if_icmp .ge 26, 3) := by decide +kernel
theorem d1_14 : decode prog_68_method_6_code 14 = .ok (.aload_n 1, 1) := by decide +kernel
theorem d1_15 : decode prog_68_method_6_code 15 = .ok (.iload_n 3, 1) := by decide +kernel
theorem d1_16 : decode prog_68_method_6_code 16 = .ok (.aaload, 1) := by decide +kernel
theorem d1_17 : decode prog_68_method_6_code 17 = .ok (.astore 4, 2) := by decide +kernel
theorem d1_19 : decode prog_68_method_6_code 19 = .ok (.aload 4, 2) := by decide +kernel
theorem d1_21 : decode prog_68_method_6_code 21 = .ok (.getfield 29, 3) := by decide +kernel
theorem d1_24 : decode prog_68_method_6_code 24 = .ok (.iload_n 0, 1) := by decide +kernel
theorem d1_25 : decode prog_68_method_6_code 25 = .ok (.if_icmp .ne 6, 3) := by decide +kernel
theorem d1_28 : decode prog_68_method_6_code 28 = .ok (.aload 4, 2) := by decide +kernel
theorem d1_30 : decode prog_68_method_6_code 30 = .ok (.areturn, 1) := by decide +kernel
theorem d1_31 : decode prog_68_method_6_code 31 = .ok (.iinc 3 1, 3) := by decide +kernel
theorem d1_34 : decode prog_68_method_6_code 34 = .ok (.goto (-25), 3) := by decide +kernel
theorem ab11 {Z : State} (hS : St Z) (p0 : Int32) (hp : p0 = 1 ∨ p0 = 2) (hc7 : ¬ ((1 : Int32) = p0)) (hc10 : ¬ ((2 : Int32) = p0)) : False := by
  rcases hp with rfl | rfl <;> simp_all
def fn1 (Z : State) (p0 : Int32) : Addr :=
  if (1 : Int32) = p0 then
    (a_CONTENTS_CHANGED Z)
  else
    if (2 : Int32) = p0 then
      (a_DELETED Z)
    else
      0
theorem ef_1 (m : MethodId) (x0 : Int32) : entryFrame m #[(.int x0)] 5 = mkF m 0 #[.val (.int x0), .unset, .unset, .unset, .unset] [] := by first | (simp [entryFrame, mkF, argsToLocals, Value.category]; done) | rfl
set_option maxRecDepth 65536 in
set_option maxHeartbeats 40000000 in
theorem rm1 (l : Launch) (Z : State) (a0 : Array Value) (hw : ∀ d ∈ tables_1, d.before a0 Z = true) (hS : St Z) (ws : List Jvm.Cond) (p0 : Int32) (h0 : Heap) (n0 : Nat) (O0 : Old Z n0 h0) (hp : p0 = 1 ∨ p0 = 2) :
    MetFree l (⟨"com/example/latchwork/latchwork/Event$Kind", "of", "(I)Lcom/example/latchwork/latchwork/Event$Kind;"⟩ : MethodName) (head1 (Jvm.Cond.code (⟨"com/example/latchwork/latchwork/Event$Kind", "of", "(I)Lcom/example/latchwork/latchwork/Event$Kind;"⟩ : MethodName) prog_68_method_6_code 5 (some (.object "com/example/latchwork/latchwork/Event$Kind")) :: ws) ({ frames := 2, cells := 1, slots := 2, locals := 25 } : Room)) (fun a U => a = #[(.int p0)] ∧ Z.Warmed39 U.vm ∧ U.heap = h0) (fun _ _ _ _ _ => True) (fun _ U o U' => ∃ v L, o = .returned v ∧ own_Q (fun v hE L => v = some (.ref (fn1 Z p0)) ∧ Fr n0 L ∧ Keep h0 hE []) v U'.heap L ∧ FrameEnd U o U' L ({ frames := 2, cells := 1, slots := 2, locals := 25 } : Room).cells ({ frames := 2, cells := 1, slots := 2, locals := 25 } : Room).slots) := by
  refine MetFree.of_bodySF (plainFor_of_name pn_0) hisR ?_
  intro p e s m args below meth c s₁ Bd hml0 hP hK
  obtain ⟨rfl, hZ, hh⟩ := hP
  have hx := Bd.exec
  have hby := Bd.bytes
  have hml : c.maxLocals = 5 := hml0
  have hown : s.vm.findClass "com/example/latchwork/latchwork/Event$Kind" = some m.cls := findClass_of_methodNamed Bd.named
  have hnm := (name_of_methodNamed Bd.named Bd.method).1
  have X0 : Stand p l e ({ frames := 2, cells := 1, slots := 2, locals := 25 } : Room) s m #[(.int p0)] below meth c s₁ [] 0 0 := Stand.of_body Bd
  have e0 : s₁.heap = h0 := by rw [← hh, Bd.state]; rfl
  have N0 := Fr.nil n0
  have pre0 : ∀ t, Steps p.tables e below (s₁.setTop (mkF m 0 #[oI p0, oU, oU, oU, oU] [])) t → Steps p.tables e below (s₁.setTop (entryFrame m #[(.int p0)] 5)) t := fun t k => castTop (ef_1 m p0) k
  obtain ⟨_, _, ⟨T4, L4, k4, n4⟩, -, X4, ⟨Lc4, hQ4, l4, y4, z4⟩, st4⟩ := Jvm.LawKit.callS X0 hx (y := (⟨"com/example/latchwork/latchwork/Event$Kind", "values", "()[Lcom/example/latchwork/latchwork/Event$Kind;"⟩ : MethodName)) hown (mvT hZ (hw _ (List.mem_of_getElem? (i := 6) rfl))) (mvT hZ (hw _ (List.mem_of_getElem? (i := 7) rfl))) (mvT hZ (hw _ (List.mem_of_getElem? (i := 1) rfl))) (mvT hZ (hw _ (List.mem_of_getElem? (i := 8) rfl))) (by decide) (backOf (W := 0) (rm2 l Z a0 hw hS []  h0 n0 O0 ) hZ (hw _ (List.mem_of_getElem? (i := 8) rfl)) (hw _ (List.mem_of_getElem? (i := 1) rfl)) (by decide) (by decide)) (g := (mkF m 0 #[oI p0, oU, oU, oU, oU] [])) rfl (by rw [hml]; rfl) (argsL := []) (rest := []) (lenOf pd_0 rfl) rfl (by show 2 * 0 + _ ≤ _; exact Nat.le_of_eq rfl) (hb hby d1_0) (fun _ _ => ⟨rfl, e0, (by decide : 0 + 1 ≤ _), (by decide : 0 + 2 ≤ _)⟩)
  dsimp only [Pt.U, Pt.locs, Pt.cells, Pt.slots] at X4 l4 y4 z4 st4 hQ4
  subst l4 y4 z4
  obtain ⟨b_4, kb_4, v4, N4q, K4q, po4_0, po4_1⟩ := hQ4
  subst v4
  have N4 := Fr.app N0 N4q
  have O4 := O0.keep K4q all0
  have Kc4 := (Keep.refl h0 []).trans K4q all0
  have g_b_4 : n0 ≤ b_4 := Nat.le_trans (own_old_le O0) po4_0
  have sz_b_4 : h0.size ≤ b_4 := Nat.le_trans (Keep.refl h0 []).1 po4_0
  obtain ⟨T5, X5, e5, st5⟩ := getF X4 hx hZ hown (host := "") (Or.inl (hw _ (List.mem_of_getElem? (i := 22) rfl))) Via.refl rfl ((f_a_CONTENTS_CHANGED_bit hS).ext O4.2) (g := (mkF m 21 #[oI p0, oR b_4, oI (2 : Int32), oI (0 : Int32), oR (a_CONTENTS_CHANGED Z)] [(.ref (a_CONTENTS_CHANGED Z))])) rfl rfl (hb hby d1_21)
  have pre6 : ∀ t, oP p e below T5 (mkF m 25 #[oI p0, oR b_4, oI (2 : Int32), oI (0 : Int32), oR (a_CONTENTS_CHANGED Z)] [(.int p0), (.int (1 : Int32))]) t → oP p e below s₁ (entryFrame m #[(.int p0)] 5) t := fun t k => pre0 t (by
    show oP p e below s₁ (mkF m 0 #[oI p0, oU, oU, oU, oU] []) _
    refine st4 _ ?_
    show oP p e below T4 (mkF m 3 #[oI p0, oU, oU, oU, oU] [(.ref b_4)]) _
    refine XS.astoreN X4.here hx rfl (hb hby d1_3) rfl rfl (l' := #[oI p0, oR b_4, oU, oU, oU]) rfl ?_
    show oP p e below T4 (mkF m 4 #[oI p0, oR b_4, oU, oU, oU] []) _
    refine XS.aloadN X4.here hx rfl (hb hby d1_4) rfl rfl ?_
    show oP p e below T4 (mkF m 5 #[oI p0, oR b_4, oU, oU, oU] [(.ref b_4)]) _
    refine own_len X4 hx hZ rfl po4_1 (g := (mkF m 5 #[oI p0, oR b_4, oU, oU, oU] [(.ref b_4)])) rfl rfl (hb hby d1_5) _ ?_
    show oP p e below T4 (mkF m 6 #[oI p0, oR b_4, oU, oU, oU] [(.int (2 : Int32))]) _
    refine XS.istoreN X4.here hx rfl (hb hby d1_6) rfl (l' := #[oI p0, oR b_4, oI (2 : Int32), oU, oU]) rfl ?_
    show oP p e below T4 (mkF m 7 #[oI p0, oR b_4, oI (2 : Int32), oU, oU] []) _
    refine XS.iconst X4.here hx rfl (hb hby d1_7) ?_
    show oP p e below T4 (mkF m 8 #[oI p0, oR b_4, oI (2 : Int32), oU, oU] [(.int (0 : Int32))]) _
    refine XS.istoreN X4.here hx rfl (hb hby d1_8) rfl (l' := #[oI p0, oR b_4, oI (2 : Int32), oI (0 : Int32), oU]) rfl ?_
    show oP p e below T4 (mkF m 9 #[oI p0, oR b_4, oI (2 : Int32), oI (0 : Int32), oU] []) _
    refine XS.iloadN X4.here hx rfl (hb hby d1_9) rfl ?_
    show oP p e below T4 (mkF m 10 #[oI p0, oR b_4, oI (2 : Int32), oI (0 : Int32), oU] [(.int (0 : Int32))]) _
    refine XS.iloadN X4.here hx rfl (hb hby d1_10) rfl ?_
    show oP p e below T4 (mkF m 11 #[oI p0, oR b_4, oI (2 : Int32), oI (0 : Int32), oU] [(.int (2 : Int32)), (.int (0 : Int32))]) _
    refine XS.icmpNo X4.here hx rfl (hb hby d1_11) rfl (tlt (by decide : (0 : Int32) < (2 : Int32))).2.1 ?_
    show oP p e below T4 (mkF m 14 #[oI p0, oR b_4, oI (2 : Int32), oI (0 : Int32), oU] []) _
    refine XS.aloadN X4.here hx rfl (hb hby d1_14) rfl rfl ?_
    show oP p e below T4 (mkF m 15 #[oI p0, oR b_4, oI (2 : Int32), oI (0 : Int32), oU] [(.ref b_4)]) _
    refine XS.iloadN X4.here hx rfl (hb hby d1_15) rfl ?_
    show oP p e below T4 (mkF m 16 #[oI p0, oR b_4, oI (2 : Int32), oI (0 : Int32), oU] [(.int (0 : Int32)), (.ref b_4)]) _
    refine own_aaload X4 hx hZ rfl po4_1 rfl (j := (0 : Int32)) ⟨by decide, by decide⟩ (v := (.ref (a_CONTENTS_CHANGED Z))) rfl (g := (mkF m 16 #[oI p0, oR b_4, oI (2 : Int32), oI (0 : Int32), oU] [(.int (0 : Int32)), (.ref b_4)])) rfl rfl (hb hby d1_16) _ ?_
    show oP p e below T4 (mkF m 17 #[oI p0, oR b_4, oI (2 : Int32), oI (0 : Int32), oU] [(.ref (a_CONTENTS_CHANGED Z))]) _
    refine XS.astore X4.here hx rfl (hb hby d1_17) rfl rfl (l' := #[oI p0, oR b_4, oI (2 : Int32), oI (0 : Int32), oR (a_CONTENTS_CHANGED Z)]) rfl ?_
    show oP p e below T4 (mkF m 19 #[oI p0, oR b_4, oI (2 : Int32), oI (0 : Int32), oR (a_CONTENTS_CHANGED Z)] []) _
    refine XS.aload X4.here hx rfl (hb hby d1_19) rfl rfl ?_
    show oP p e below T4 (mkF m 21 #[oI p0, oR b_4, oI (2 : Int32), oI (0 : Int32), oR (a_CONTENTS_CHANGED Z)] [(.ref (a_CONTENTS_CHANGED Z))]) _
    refine st5 _ ?_
    show oP p e below T5 (mkF m 24 #[oI p0, oR b_4, oI (2 : Int32), oI (0 : Int32), oR (a_CONTENTS_CHANGED Z)] [(.int (1 : Int32))]) _
    refine XS.iloadN X5.here hx rfl (hb hby d1_24) rfl ?_
    exact k)
  by_cases hc7 : (1 : Int32) = p0
  · obtain ⟨fs, hr, hrun, hended, hW, hsame⟩ := X5.leave (v := some (.ref (a_CONTENTS_CHANGED Z))) (fun h => by rw [Bd.returns] at h; cases h)
    refine ⟨_, _, pre6 _ ?_, hrun, hended, _, _, rfl, ?_, ⟨_, rfl⟩, hW, hsame.mono (by decide) (by decide)⟩
    · show oP p e below T5 (mkF m 25 #[oI p0, oR b_4, oI (2 : Int32), oI (0 : Int32), oR (a_CONTENTS_CHANGED Z)] [(.int p0), (.int (1 : Int32))]) _
      refine XS.icmpNo X5.here hx rfl (hb hby d1_25) rfl (teq hc7).2 ?_
      show oP p e below T5 (mkF m 28 #[oI p0, oR b_4, oI (2 : Int32), oI (0 : Int32), oR (a_CONTENTS_CHANGED Z)] []) _
      refine XS.aload X5.here hx rfl (hb hby d1_28) rfl rfl ?_
      show oP p e below T5 (mkF m 30 #[oI p0, oR b_4, oI (2 : Int32), oI (0 : Int32), oR (a_CONTENTS_CHANGED Z)] [(.ref (a_CONTENTS_CHANGED Z))]) _
      exact own_retA X5 hx Bd.returns rfl rfl (hb hby d1_30) hr
    · show (some (.ref (a_CONTENTS_CHANGED Z)) : Option Value) = some (.ref (fn1 Z p0)) ∧ Fr n0 _ ∧ Keep h0 T5.heap []
      rw [e5]
      refine ⟨?_, N4, Kc4⟩
      unfold fn1
      rw [if_pos hc7]
  · obtain ⟨T8, X8, e8, st8⟩ := getF X5 hx hZ hown (host := "") (Or.inl (hw _ (List.mem_of_getElem? (i := 22) rfl))) Via.refl e5 ((f_a_DELETED_bit hS).ext O4.2) (g := (mkF m 21 #[oI p0, oR b_4, oI (2 : Int32), oI (1 : Int32), oR (a_DELETED Z)] [(.ref (a_DELETED Z))])) rfl rfl (hb hby d1_21)
    have pre9 : ∀ t, oP p e below T8 (mkF m 25 #[oI p0, oR b_4, oI (2 : Int32), oI (1 : Int32), oR (a_DELETED Z)] [(.int p0), (.int (2 : Int32))]) t → oP p e below s₁ (entryFrame m #[(.int p0)] 5) t := fun t k => pre6 t (by
      show oP p e below T5 (mkF m 25 #[oI p0, oR b_4, oI (2 : Int32), oI (0 : Int32), oR (a_CONTENTS_CHANGED Z)] [(.int p0), (.int (1 : Int32))]) _
      refine XS.icmpYes X5.here hx rfl (pc0 := 25) (pc' := 31) rfl (hb hby d1_25) rfl (feq hc7).2 (by decide) (by decide) ?_
      show oP p e below T5 (mkF m 31 #[oI p0, oR b_4, oI (2 : Int32), oI (0 : Int32), oR (a_CONTENTS_CHANGED Z)] []) _
      refine XS.iinc X5.here hx rfl (hb hby d1_31) rfl (l' := #[oI p0, oR b_4, oI (2 : Int32), oI (1 : Int32), oR (a_CONTENTS_CHANGED Z)]) rfl ?_
      show oP p e below T5 (mkF m 34 #[oI p0, oR b_4, oI (2 : Int32), oI (1 : Int32), oR (a_CONTENTS_CHANGED Z)] []) _
      refine XS.goto X5.here hx rfl (pc0 := 34) (pc' := 9) rfl (hb hby d1_34) (by decide) (by decide) ?_
      show oP p e below T5 (mkF m 9 #[oI p0, oR b_4, oI (2 : Int32), oI (1 : Int32), oR (a_CONTENTS_CHANGED Z)] []) _
      refine XS.iloadN X5.here hx rfl (hb hby d1_9) rfl ?_
      show oP p e below T5 (mkF m 10 #[oI p0, oR b_4, oI (2 : Int32), oI (1 : Int32), oR (a_CONTENTS_CHANGED Z)] [(.int (1 : Int32))]) _
      refine XS.iloadN X5.here hx rfl (hb hby d1_10) rfl ?_
      show oP p e below T5 (mkF m 11 #[oI p0, oR b_4, oI (2 : Int32), oI (1 : Int32), oR (a_CONTENTS_CHANGED Z)] [(.int (2 : Int32)), (.int (1 : Int32))]) _
      refine XS.icmpNo X5.here hx rfl (hb hby d1_11) rfl (tlt (by decide : (1 : Int32) < (2 : Int32))).2.1 ?_
      show oP p e below T5 (mkF m 14 #[oI p0, oR b_4, oI (2 : Int32), oI (1 : Int32), oR (a_CONTENTS_CHANGED Z)] []) _
      refine XS.aloadN X5.here hx rfl (hb hby d1_14) rfl rfl ?_
      show oP p e below T5 (mkF m 15 #[oI p0, oR b_4, oI (2 : Int32), oI (1 : Int32), oR (a_CONTENTS_CHANGED Z)] [(.ref b_4)]) _
      refine XS.iloadN X5.here hx rfl (hb hby d1_15) rfl ?_
      show oP p e below T5 (mkF m 16 #[oI p0, oR b_4, oI (2 : Int32), oI (1 : Int32), oR (a_CONTENTS_CHANGED Z)] [(.int (1 : Int32)), (.ref b_4)]) _
      refine own_aaload X5 hx hZ e5 po4_1 rfl (j := (1 : Int32)) ⟨by decide, by decide⟩ (v := (.ref (a_DELETED Z))) rfl (g := (mkF m 16 #[oI p0, oR b_4, oI (2 : Int32), oI (1 : Int32), oR (a_CONTENTS_CHANGED Z)] [(.int (1 : Int32)), (.ref b_4)])) rfl rfl (hb hby d1_16) _ ?_
      show oP p e below T5 (mkF m 17 #[oI p0, oR b_4, oI (2 : Int32), oI (1 : Int32), oR (a_CONTENTS_CHANGED Z)] [(.ref (a_DELETED Z))]) _
      refine XS.astore X5.here hx rfl (hb hby d1_17) rfl rfl (l' := #[oI p0, oR b_4, oI (2 : Int32), oI (1 : Int32), oR (a_DELETED Z)]) rfl ?_
      show oP p e below T5 (mkF m 19 #[oI p0, oR b_4, oI (2 : Int32), oI (1 : Int32), oR (a_DELETED Z)] []) _
      refine XS.aload X5.here hx rfl (hb hby d1_19) rfl rfl ?_
      show oP p e below T5 (mkF m 21 #[oI p0, oR b_4, oI (2 : Int32), oI (1 : Int32), oR (a_DELETED Z)] [(.ref (a_DELETED Z))]) _
      refine st8 _ ?_
      show oP p e below T8 (mkF m 24 #[oI p0, oR b_4, oI (2 : Int32), oI (1 : Int32), oR (a_DELETED Z)] [(.int (2 : Int32))]) _
      refine XS.iloadN X8.here hx rfl (hb hby d1_24) rfl ?_
      exact k)
    by_cases hc10 : (2 : Int32) = p0
    · obtain ⟨fs, hr, hrun, hended, hW, hsame⟩ := X8.leave (v := some (.ref (a_DELETED Z))) (fun h => by rw [Bd.returns] at h; cases h)
      refine ⟨_, _, pre9 _ ?_, hrun, hended, _, _, rfl, ?_, ⟨_, rfl⟩, hW, hsame.mono (by decide) (by decide)⟩
      · show oP p e below T8 (mkF m 25 #[oI p0, oR b_4, oI (2 : Int32), oI (1 : Int32), oR (a_DELETED Z)] [(.int p0), (.int (2 : Int32))]) _
        refine XS.icmpNo X8.here hx rfl (hb hby d1_25) rfl (teq hc10).2 ?_
        show oP p e below T8 (mkF m 28 #[oI p0, oR b_4, oI (2 : Int32), oI (1 : Int32), oR (a_DELETED Z)] []) _
        refine XS.aload X8.here hx rfl (hb hby d1_28) rfl rfl ?_
        show oP p e below T8 (mkF m 30 #[oI p0, oR b_4, oI (2 : Int32), oI (1 : Int32), oR (a_DELETED Z)] [(.ref (a_DELETED Z))]) _
        exact own_retA X8 hx Bd.returns rfl rfl (hb hby d1_30) hr
      · show (some (.ref (a_DELETED Z)) : Option Value) = some (.ref (fn1 Z p0)) ∧ Fr n0 _ ∧ Keep h0 T8.heap []
        rw [e8]
        refine ⟨?_, N4, Kc4⟩
        unfold fn1
        rw [if_neg hc7, if_pos hc10]
    · exfalso
      exact ab11 hS p0 hp hc7 hc10
theorem d3_0 : decode prog_68_method_4_code 0 = .ok (.aload_n 0, 1) := by decide +kernel
theorem d3_1 : decode prog_68_method_4_code 1 = .ok (.getfield 29, 3) := by decide +kernel
theorem d3_4 : decode prog_68_method_4_code 4 = .ok (.ireturn, 1) := by decide +kernel
def fn3 (Z : State) (r0 : Addr) (u : Int32) : Int32 :=
  u
theorem ef_3 (m : MethodId) (x0 : Addr) : entryFrame m #[(.ref x0)] 1 = mkF m 0 #[.val (.ref x0)] [] := by first | (simp [entryFrame, mkF, argsToLocals, Value.category]; done) | rfl
set_option maxRecDepth 65536 in
set_option maxHeartbeats 40000000 in
theorem rm3 (l : Launch) (Z : State) (a0 : Array Value) (hw : ∀ d ∈ tables_1, d.before a0 Z = true) (hS : St Z) (ws : List Jvm.Cond) (r0 : Addr) (u : Int32) (h0 : Heap) (n0 : Nat) (O0 : Old Z n0 h0) (F_bit_r0 : Fld Z h0 r0 "com/example/latchwork/latchwork/Event$Kind" "bit" "I" (.int u)) :
    MetFree l (⟨"com/example/latchwork/latchwork/Event$Kind", "bit", "()I"⟩ : MethodName) (head1 (Jvm.Cond.code (⟨"com/example/latchwork/latchwork/Event$Kind", "bit", "()I"⟩ : MethodName) prog_68_method_4_code 1 (some .int) :: ws) ({ frames := 0, cells := 0, slots := 0, locals := 0 } : Room)) (fun a U => a = #[(.ref r0)] ∧ Z.Warmed39 U.vm ∧ U.heap = h0) (fun _ _ _ _ _ => True) (fun _ U o U' => ∃ v L, o = .returned v ∧ own_Q (fun v hE L => v = some (.int (fn3 Z r0 u)) ∧ Fr n0 L ∧ Keep h0 hE []) v U'.heap L ∧ FrameEnd U o U' L ({ frames := 0, cells := 0, slots := 0, locals := 0 } : Room).cells ({ frames := 0, cells := 0, slots := 0, locals := 0 } : Room).slots) := by
  refine MetFree.of_bodySF (plainFor_of_name pn_0) hisR ?_
  intro p e s m args below meth c s₁ Bd hml0 hP hK
  obtain ⟨rfl, hZ, hh⟩ := hP
  have hx := Bd.exec
  have hby := Bd.bytes
  have hml : c.maxLocals = 1 := hml0
  have hown : s.vm.findClass "com/example/latchwork/latchwork/Event$Kind" = some m.cls := findClass_of_methodNamed Bd.named
  have hnm := (name_of_methodNamed Bd.named Bd.method).1
  have X0 : Stand p l e ({ frames := 0, cells := 0, slots := 0, locals := 0 } : Room) s m #[(.ref r0)] below meth c s₁ [] 0 0 := Stand.of_body Bd
  have e0 : s₁.heap = h0 := by rw [← hh, Bd.state]; rfl
  have N0 := Fr.nil n0
  have pre0 : ∀ t, Steps p.tables e below (s₁.setTop (mkF m 0 #[oR r0] [])) t → Steps p.tables e below (s₁.setTop (entryFrame m #[(.ref r0)] 1)) t := fun t k => castTop (ef_3 m r0) k
  obtain ⟨T12, X12, e12, st12⟩ := getF X0 hx hZ hown (host := "") (Or.inl (hw _ (List.mem_of_getElem? (i := 22) rfl))) Via.refl e0 F_bit_r0 (g := (mkF m 1 #[oR r0] [(.ref r0)])) rfl rfl (hb hby d3_1)
  obtain ⟨fs, hr, hrun, hended, hW, hsame⟩ := X12.leave (v := some (.int u)) (fun h => by rw [Bd.returns] at h; cases h)
  refine ⟨_, _, pre0 _ ?_, hrun, hended, _, _, rfl, ?_, ⟨_, rfl⟩, hW, hsame.mono (by decide) (by decide)⟩
  · show oP p e below s₁ (mkF m 0 #[oR r0] []) _
    refine XS.aloadN X0.here hx rfl (hb hby d3_0) rfl rfl ?_
    show oP p e below s₁ (mkF m 1 #[oR r0] [(.ref r0)]) _
    refine st12 _ ?_
    show oP p e below T12 (mkF m 4 #[oR r0] [(.int u)]) _
    exact retI X12 hx Bd.returns (hb hby d3_4) hr
  · show (some (.int u) : Option Value) = some (.int (fn3 Z r0 u)) ∧ Fr n0 _ ∧ Keep h0 T12.heap []
    rw [e12]
    refine ⟨?_, N0, (Keep.refl h0 [])⟩
    rfl
theorem pd_1 : parseMethodDescriptor "(I)Lcom/example/latchwork/latchwork/Event$Kind;" = some ⟨[.int], some (.object "com/example/latchwork/latchwork/Event$Kind")⟩ := by decide +kernel
theorem pd_2 : parseMethodDescriptor "()I" = some ⟨[], some .int⟩ := by decide +kernel
theorem ef_0 (m : MethodId) (x0 : Int32) : entryFrame m #[(.int x0)] maxLocals = mkF m 0 #[.val (.int x0), .unset, .unset, .unset, .unset] [] := by first | (simp [entryFrame, mkF, argsToLocals, Value.category, maxLocals]; done) | rfl
theorem pn_1 : plainName "com/example/latchwork/latchwork/KindOfPinLaw" = true := by first | (simp [plainName, overriddenIn]; done) | decide +kernel
set_option maxRecDepth 65536 in
set_option maxHeartbeats 40000000 in
theorem rm0 (l : Launch) (Z : State) (a0 : Array Value) (hw : ∀ d ∈ tables_1, d.before a0 Z = true) (hS : St Z) (ws : List Jvm.Cond) (p0 : Int32) (h0 : Heap) (n0 : Nat) (O0 : Old Z n0 h0) :
    MetFree l x (head1 (Jvm.Cond.code x code maxLocals ret :: ws) room_1) (fun a U => a = #[(.int p0)] ∧ Z.Warmed39 U.vm ∧ U.heap = h0) (fun _ _ _ _ _ => True) (fun _ U o U' => ∃ v L, o = .returned v ∧ own_Q (fun v hE L => v = some (.int (1 : Int32)) ∧ Fr n0 L ∧ Keep h0 hE []) v U'.heap L ∧ FrameEnd U o U' L room_1.cells room_1.slots) := by
  refine MetFree.of_bodySF (plainFor_of_name pn_1) hisR ?_
  intro p e s m args below meth c s₁ Bd hml0 hP hK
  obtain ⟨rfl, hZ, hh⟩ := hP
  have hx := Bd.exec
  have hby := Bd.bytes
  have hml : c.maxLocals = 5 := hml0
  have hown : s.vm.findClass "com/example/latchwork/latchwork/KindOfPinLaw" = some m.cls := findClass_of_methodNamed Bd.named
  have hnm := (name_of_methodNamed Bd.named Bd.method).1
  have X0 : Stand p l e room_1 s m #[(.int p0)] below meth c s₁ [] 0 0 := Stand.of_body Bd
  have e0 : s₁.heap = h0 := by rw [← hh, Bd.state]; rfl
  have N0 := Fr.nil n0
  have pre0 : ∀ t, Steps p.tables e below (s₁.setTop (mkF m 0 #[oI p0, oU, oU, oU, oU] [])) t → Steps p.tables e below (s₁.setTop (entryFrame m #[(.int p0)] maxLocals)) t := fun t k => castTop (ef_0 m p0) k
  have pre13 : ∀ t, oP p e below s₁ (mkF m 3 #[oI p0, oU, oU, oU, oU] [(.int (p0 &&& (1 : Int32)))]) t → oP p e below s₁ (entryFrame m #[(.int p0)] maxLocals) t := fun t k => pre0 t (by
    show oP p e below s₁ (mkF m 0 #[oI p0, oU, oU, oU, oU] []) _
    refine XS.iloadN X0.here hx rfl (hb hby at_0) rfl ?_
    show oP p e below s₁ (mkF m 1 #[oI p0, oU, oU, oU, oU] [(.int p0)]) _
    refine XS.iconst X0.here hx rfl (hb hby at_1) ?_
    show oP p e below s₁ (mkF m 2 #[oI p0, oU, oU, oU, oU] [(.int (1 : Int32)), (.int p0)]) _
    refine XS.iand X0.here hx rfl (hb hby at_2) rfl ?_
    exact k)
  by_cases hc14 : (p0 &&& (1 : Int32)) = (0 : Int32)
  · obtain ⟨T15, X15, e15, st15⟩ := getS2 X0 hx hZ hown (host := "") (Or.inl (hw _ (List.mem_of_getElem? (i := 0) rfl))) Via.refl e0 ((s_a_CONTENTS_CHANGED hS).ext O0.2) (g := (mkF m 27 #[oI p0, oI (0 : Int32), oI (1 : Int32), oU, oU] [])) rfl (hb hby at_27)
    obtain ⟨_, _, ⟨T16, L16, k16, n16⟩, -, X16, ⟨Lc16, hQ16, l16, y16, z16⟩, st16⟩ := Jvm.LawKit.callS X15 hx (y := (⟨"com/example/latchwork/latchwork/Event$Kind", "of", "(I)Lcom/example/latchwork/latchwork/Event$Kind;"⟩ : MethodName)) hown (mvT hZ (hw _ (List.mem_of_getElem? (i := 3) rfl))) (mvT hZ (hw _ (List.mem_of_getElem? (i := 4) rfl))) (mvT hZ (hw _ (List.mem_of_getElem? (i := 1) rfl))) (mvT hZ (hw _ (List.mem_of_getElem? (i := 5) rfl))) (by decide) (backOf (W := 0) (rm1 l Z a0 hw hS [] (1 : Int32) h0 n0 O0 (by decide)) hZ (hw _ (List.mem_of_getElem? (i := 5) rfl)) (hw _ (List.mem_of_getElem? (i := 1) rfl)) (by decide) (by decide)) (g := (mkF m 32 #[oI p0, oI (0 : Int32), oI (1 : Int32), oR (a_CONTENTS_CHANGED Z), oU] [(.int (1 : Int32))])) rfl (by rw [hml]; rfl) (argsL := [(.int (1 : Int32))]) (rest := []) (lenOf pd_1 rfl) rfl (by show 2 * 0 + _ ≤ _; exact Nat.le_of_eq rfl) (hb hby at_32) (fun _ _ => ⟨rfl, e15, (by decide : 0 + 1 ≤ _), (by decide : 0 + 2 ≤ _)⟩)
    dsimp only [Pt.U, Pt.locs, Pt.cells, Pt.slots] at X16 l16 y16 z16 st16 hQ16
    subst l16 y16 z16
    obtain ⟨v16, N16q, K16q⟩ := hQ16
    have w16 : (fn1 Z (1 : Int32)) = (a_CONTENTS_CHANGED Z) := by unfold fn1; rw [if_pos (by decide : (1 : Int32) = (1 : Int32))]; all_goals first | rfl | decide
    rw [w16] at v16
    subst v16
    have N16 := Fr.app N0 N16q
    have O16 := O0.keep K16q all0
    have Kc16 := (Keep.refl h0 []).trans K16q all0
    obtain ⟨cq17, kq17, q17a, q17b, q17c⟩ := isOf hZ rfl ((e_a_CONTENTS_CHANGED hS).ext O16.2)
    obtain ⟨_, _, ⟨T17, L17, k17, n17⟩, -, X17, ⟨Lc17, hQ17, l17, y17, z17⟩, st17⟩ := X16.virtualBack hx (y := (⟨"com/example/latchwork/latchwork/Event$Kind", "bit", "()I"⟩ : MethodName)) (z := (⟨"com/example/latchwork/latchwork/Event$Kind", "bit", "()I"⟩ : MethodName)) hown (mvT hZ (hw _ (List.mem_of_getElem? (i := 24) rfl))) (mvT hZ (hw _ (List.mem_of_getElem? (i := 25) rfl))) (notFace_of_selects (args := #[]) (mvT hZ (hw _ (List.mem_of_getElem? (i := 27) rfl)))) (mvT hZ (hw _ (List.mem_of_getElem? (i := 27) rfl))) (mvT hZ (hw _ (List.mem_of_getElem? (i := 26) rfl))) (by decide) (backOf (W := 0) (rm3 l Z a0 hw hS [] (a_CONTENTS_CHANGED Z) (1 : Int32) T16.heap n0 O16 ((f_a_CONTENTS_CHANGED_bit hS).ext O16.2)) hZ (hw _ (List.mem_of_getElem? (i := 28) rfl)) (hw _ (List.mem_of_getElem? (i := 1) rfl)) (by decide) (by decide)) q17a q17c (g := (mkF m 45 #[oI p0, oI (0 : Int32), oI (1 : Int32), oR (a_CONTENTS_CHANGED Z), oR (a_CONTENTS_CHANGED Z)] [(.ref (a_CONTENTS_CHANGED Z))])) rfl (by rw [hml]; rfl) (Steps.refl _) (argsL := []) (rest := []) (lenOf pd_2 rfl) rfl (by show 2 * 0 + _ ≤ _; exact Nat.le_of_eq rfl) (hb hby at_45) (fun _ _ => ⟨rfl, rfl, (by decide : 1 + 0 ≤ _), (by decide : 2 + 0 ≤ _)⟩)
    dsimp only [Pt.U, Pt.locs, Pt.cells, Pt.slots] at X17 l17 y17 z17 st17 hQ17
    subst l17 y17 z17
    obtain ⟨v17, N17q, K17q⟩ := hQ17
    have w17 : (fn3 Z (a_CONTENTS_CHANGED Z) (1 : Int32)) = (1 : Int32) := rfl
    rw [w17] at v17
    subst v17
    have N17 := Fr.app N16 N17q
    have O17 := O16.keep K17q all0
    have Kc17 := Kc16.trans K17q all0
    obtain ⟨fs, hr, hrun, hended, hW, hsame⟩ := X17.leave (v := some (.int (1 : Int32))) (fun h => by rw [Bd.returns] at h; cases h)
    refine ⟨_, _, pre13 _ ?_, hrun, hended, _, _, rfl, ?_, ⟨_, rfl⟩, hW, hsame.mono (by decide) (by decide)⟩
    · show oP p e below s₁ (mkF m 3 #[oI p0, oU, oU, oU, oU] [(.int (p0 &&& (1 : Int32)))]) _
      refine XS.ifYes X0.here hx rfl (pc0 := 3) (pc' := 10) rfl (hb hby at_3) rfl ((if0 _ _).trans (teq hc14).1) (by decide) (by decide) ?_
      show oP p e below s₁ (mkF m 10 #[oI p0, oU, oU, oU, oU] []) _
      refine XS.iconst X0.here hx rfl (hb hby at_10) ?_
      show oP p e below s₁ (mkF m 11 #[oI p0, oU, oU, oU, oU] [(.int (0 : Int32))]) _
      refine XS.istoreN X0.here hx rfl (hb hby at_11) rfl (l' := #[oI p0, oI (0 : Int32), oU, oU, oU]) rfl ?_
      show oP p e below s₁ (mkF m 12 #[oI p0, oI (0 : Int32), oU, oU, oU] []) _
      refine XS.iloadN X0.here hx rfl (hb hby at_12) rfl ?_
      show oP p e below s₁ (mkF m 13 #[oI p0, oI (0 : Int32), oU, oU, oU] [(.int (0 : Int32))]) _
      refine XS.ifYes X0.here hx rfl (pc0 := 13) (pc' := 25) rfl (hb hby at_13) rfl ((if0 _ _).trans (teq (by decide : (0 : Int32) = (0 : Int32))).1) (by decide) (by decide) ?_
      show oP p e below s₁ (mkF m 25 #[oI p0, oI (0 : Int32), oU, oU, oU] []) _
      refine XS.iconst X0.here hx rfl (hb hby at_25) ?_
      show oP p e below s₁ (mkF m 26 #[oI p0, oI (0 : Int32), oU, oU, oU] [(.int (1 : Int32))]) _
      refine XS.istoreN X0.here hx rfl (hb hby at_26) rfl (l' := #[oI p0, oI (0 : Int32), oI (1 : Int32), oU, oU]) rfl ?_
      show oP p e below s₁ (mkF m 27 #[oI p0, oI (0 : Int32), oI (1 : Int32), oU, oU] []) _
      refine st15 _ ?_
      show oP p e below T15 (mkF m 30 #[oI p0, oI (0 : Int32), oI (1 : Int32), oU, oU] [(.ref (a_CONTENTS_CHANGED Z))]) _
      refine XS.astoreN X15.here hx rfl (hb hby at_30) rfl rfl (l' := #[oI p0, oI (0 : Int32), oI (1 : Int32), oR (a_CONTENTS_CHANGED Z), oU]) rfl ?_
      show oP p e below T15 (mkF m 31 #[oI p0, oI (0 : Int32), oI (1 : Int32), oR (a_CONTENTS_CHANGED Z), oU] []) _
      refine XS.iloadN X15.here hx rfl (hb hby at_31) rfl ?_
      show oP p e below T15 (mkF m 32 #[oI p0, oI (0 : Int32), oI (1 : Int32), oR (a_CONTENTS_CHANGED Z), oU] [(.int (1 : Int32))]) _
      refine st16 _ ?_
      show oP p e below T16 (mkF m 35 #[oI p0, oI (0 : Int32), oI (1 : Int32), oR (a_CONTENTS_CHANGED Z), oU] [(.ref (a_CONTENTS_CHANGED Z))]) _
      refine XS.astore X16.here hx rfl (hb hby at_35) rfl rfl (l' := #[oI p0, oI (0 : Int32), oI (1 : Int32), oR (a_CONTENTS_CHANGED Z), oR (a_CONTENTS_CHANGED Z)]) rfl ?_
      show oP p e below T16 (mkF m 37 #[oI p0, oI (0 : Int32), oI (1 : Int32), oR (a_CONTENTS_CHANGED Z), oR (a_CONTENTS_CHANGED Z)] []) _
      refine XS.aload X16.here hx rfl (hb hby at_37) rfl rfl ?_
      show oP p e below T16 (mkF m 39 #[oI p0, oI (0 : Int32), oI (1 : Int32), oR (a_CONTENTS_CHANGED Z), oR (a_CONTENTS_CHANGED Z)] [(.ref (a_CONTENTS_CHANGED Z))]) _
      refine XS.aloadN X16.here hx rfl (hb hby at_39) rfl rfl ?_
      show oP p e below T16 (mkF m 40 #[oI p0, oI (0 : Int32), oI (1 : Int32), oR (a_CONTENTS_CHANGED Z), oR (a_CONTENTS_CHANGED Z)] [(.ref (a_CONTENTS_CHANGED Z)), (.ref (a_CONTENTS_CHANGED Z))]) _
      refine Jvm.RoadKit.acmp (g := (mkF m 40 #[oI p0, oI (0 : Int32), oI (1 : Int32), oR (a_CONTENTS_CHANGED Z), oR (a_CONTENTS_CHANGED Z)] [(.ref (a_CONTENTS_CHANGED Z)), (.ref (a_CONTENTS_CHANGED Z))])) X16 hx rfl rfl rfl (pc0 := 40) (pc' := 43) (same := true) rfl (hb hby at_40) rfl (decide_eq_true (congrArg Value.ref (rfl : (a_CONTENTS_CHANGED Z) = (a_CONTENTS_CHANGED Z)))) (by decide) (by decide) ?_
      show oP p e below T16 (mkF m 43 #[oI p0, oI (0 : Int32), oI (1 : Int32), oR (a_CONTENTS_CHANGED Z), oR (a_CONTENTS_CHANGED Z)] []) _
      refine XS.aload X16.here hx rfl (hb hby at_43) rfl rfl ?_
      show oP p e below T16 (mkF m 45 #[oI p0, oI (0 : Int32), oI (1 : Int32), oR (a_CONTENTS_CHANGED Z), oR (a_CONTENTS_CHANGED Z)] [(.ref (a_CONTENTS_CHANGED Z))]) _
      refine st17.trans ?_
      show oP p e below T17 (mkF m 48 #[oI p0, oI (0 : Int32), oI (1 : Int32), oR (a_CONTENTS_CHANGED Z), oR (a_CONTENTS_CHANGED Z)] [(.int (1 : Int32))]) _
      refine XS.iloadN X17.here hx rfl (hb hby at_48) rfl ?_
      show oP p e below T17 (mkF m 49 #[oI p0, oI (0 : Int32), oI (1 : Int32), oR (a_CONTENTS_CHANGED Z), oR (a_CONTENTS_CHANGED Z)] [(.int (1 : Int32)), (.int (1 : Int32))]) _
      refine XS.icmpNo X17.here hx rfl (hb hby at_49) rfl (teq (by decide : (1 : Int32) = (1 : Int32))).2 ?_
      show oP p e below T17 (mkF m 52 #[oI p0, oI (0 : Int32), oI (1 : Int32), oR (a_CONTENTS_CHANGED Z), oR (a_CONTENTS_CHANGED Z)] []) _
      refine XS.iconst X17.here hx rfl (hb hby at_52) ?_
      show oP p e below T17 (mkF m 53 #[oI p0, oI (0 : Int32), oI (1 : Int32), oR (a_CONTENTS_CHANGED Z), oR (a_CONTENTS_CHANGED Z)] [(.int (1 : Int32))]) _
      refine XS.goto X17.here hx rfl (pc0 := 53) (pc' := 57) rfl (hb hby at_53) (by decide) (by decide) ?_
      show oP p e below T17 (mkF m 57 #[oI p0, oI (0 : Int32), oI (1 : Int32), oR (a_CONTENTS_CHANGED Z), oR (a_CONTENTS_CHANGED Z)] [(.int (1 : Int32))]) _
      exact retN X17 hx (t := .boolean) Bd.returns (by simp) (hb hby at_57) hr
    · show (some (.int (1 : Int32)) : Option Value) = some (.int (1 : Int32)) ∧ Fr n0 _ ∧ Keep h0 T17.heap []
      exact ⟨rfl, N17, Kc17⟩
  · obtain ⟨T18, X18, e18, st18⟩ := getS2 X0 hx hZ hown (host := "") (Or.inl (hw _ (List.mem_of_getElem? (i := 29) rfl))) Via.refl e0 ((s_a_DELETED hS).ext O0.2) (g := (mkF m 18 #[oI p0, oI (1 : Int32), oI (2 : Int32), oU, oU] [])) rfl (hb hby at_18)
    obtain ⟨_, _, ⟨T19, L19, k19, n19⟩, -, X19, ⟨Lc19, hQ19, l19, y19, z19⟩, st19⟩ := Jvm.LawKit.callS X18 hx (y := (⟨"com/example/latchwork/latchwork/Event$Kind", "of", "(I)Lcom/example/latchwork/latchwork/Event$Kind;"⟩ : MethodName)) hown (mvT hZ (hw _ (List.mem_of_getElem? (i := 3) rfl))) (mvT hZ (hw _ (List.mem_of_getElem? (i := 4) rfl))) (mvT hZ (hw _ (List.mem_of_getElem? (i := 1) rfl))) (mvT hZ (hw _ (List.mem_of_getElem? (i := 5) rfl))) (by decide) (backOf (W := 0) (rm1 l Z a0 hw hS [] (2 : Int32) h0 n0 O0 (by decide)) hZ (hw _ (List.mem_of_getElem? (i := 5) rfl)) (hw _ (List.mem_of_getElem? (i := 1) rfl)) (by decide) (by decide)) (g := (mkF m 32 #[oI p0, oI (1 : Int32), oI (2 : Int32), oR (a_DELETED Z), oU] [(.int (2 : Int32))])) rfl (by rw [hml]; rfl) (argsL := [(.int (2 : Int32))]) (rest := []) (lenOf pd_1 rfl) rfl (by show 2 * 0 + _ ≤ _; exact Nat.le_of_eq rfl) (hb hby at_32) (fun _ _ => ⟨rfl, e18, (by decide : 0 + 1 ≤ _), (by decide : 0 + 2 ≤ _)⟩)
    dsimp only [Pt.U, Pt.locs, Pt.cells, Pt.slots] at X19 l19 y19 z19 st19 hQ19
    subst l19 y19 z19
    obtain ⟨v19, N19q, K19q⟩ := hQ19
    have w19 : (fn1 Z (2 : Int32)) = (a_DELETED Z) := by unfold fn1; rw [if_neg (by decide : ¬ ((1 : Int32) = (2 : Int32))), if_pos (by decide : (2 : Int32) = (2 : Int32))]; all_goals first | rfl | decide
    rw [w19] at v19
    subst v19
    have N19 := Fr.app N0 N19q
    have O19 := O0.keep K19q all0
    have Kc19 := (Keep.refl h0 []).trans K19q all0
    obtain ⟨cq20, kq20, q20a, q20b, q20c⟩ := isOf hZ rfl ((e_a_DELETED hS).ext O19.2)
    obtain ⟨_, _, ⟨T20, L20, k20, n20⟩, -, X20, ⟨Lc20, hQ20, l20, y20, z20⟩, st20⟩ := X19.virtualBack hx (y := (⟨"com/example/latchwork/latchwork/Event$Kind", "bit", "()I"⟩ : MethodName)) (z := (⟨"com/example/latchwork/latchwork/Event$Kind", "bit", "()I"⟩ : MethodName)) hown (mvT hZ (hw _ (List.mem_of_getElem? (i := 24) rfl))) (mvT hZ (hw _ (List.mem_of_getElem? (i := 25) rfl))) (notFace_of_selects (args := #[]) (mvT hZ (hw _ (List.mem_of_getElem? (i := 27) rfl)))) (mvT hZ (hw _ (List.mem_of_getElem? (i := 27) rfl))) (mvT hZ (hw _ (List.mem_of_getElem? (i := 26) rfl))) (by decide) (backOf (W := 0) (rm3 l Z a0 hw hS [] (a_DELETED Z) (2 : Int32) T19.heap n0 O19 ((f_a_DELETED_bit hS).ext O19.2)) hZ (hw _ (List.mem_of_getElem? (i := 28) rfl)) (hw _ (List.mem_of_getElem? (i := 1) rfl)) (by decide) (by decide)) q20a q20c (g := (mkF m 45 #[oI p0, oI (1 : Int32), oI (2 : Int32), oR (a_DELETED Z), oR (a_DELETED Z)] [(.ref (a_DELETED Z))])) rfl (by rw [hml]; rfl) (Steps.refl _) (argsL := []) (rest := []) (lenOf pd_2 rfl) rfl (by show 2 * 0 + _ ≤ _; exact Nat.le_of_eq rfl) (hb hby at_45) (fun _ _ => ⟨rfl, rfl, (by decide : 1 + 0 ≤ _), (by decide : 2 + 0 ≤ _)⟩)
    dsimp only [Pt.U, Pt.locs, Pt.cells, Pt.slots] at X20 l20 y20 z20 st20 hQ20
    subst l20 y20 z20
    obtain ⟨v20, N20q, K20q⟩ := hQ20
    have w20 : (fn3 Z (a_DELETED Z) (2 : Int32)) = (2 : Int32) := rfl
    rw [w20] at v20
    subst v20
    have N20 := Fr.app N19 N20q
    have O20 := O19.keep K20q all0
    have Kc20 := Kc19.trans K20q all0
    obtain ⟨fs, hr, hrun, hended, hW, hsame⟩ := X20.leave (v := some (.int (1 : Int32))) (fun h => by rw [Bd.returns] at h; cases h)
    refine ⟨_, _, pre13 _ ?_, hrun, hended, _, _, rfl, ?_, ⟨_, rfl⟩, hW, hsame.mono (by decide) (by decide)⟩
    · show oP p e below s₁ (mkF m 3 #[oI p0, oU, oU, oU, oU] [(.int (p0 &&& (1 : Int32)))]) _
      refine XS.ifNo X0.here hx rfl (hb hby at_3) rfl ((if0 _ _).trans (feq hc14).1) ?_
      show oP p e below s₁ (mkF m 6 #[oI p0, oU, oU, oU, oU] []) _
      refine XS.iconst X0.here hx rfl (hb hby at_6) ?_
      show oP p e below s₁ (mkF m 7 #[oI p0, oU, oU, oU, oU] [(.int (1 : Int32))]) _
      refine XS.goto X0.here hx rfl (pc0 := 7) (pc' := 11) rfl (hb hby at_7) (by decide) (by decide) ?_
      show oP p e below s₁ (mkF m 11 #[oI p0, oU, oU, oU, oU] [(.int (1 : Int32))]) _
      refine XS.istoreN X0.here hx rfl (hb hby at_11) rfl (l' := #[oI p0, oI (1 : Int32), oU, oU, oU]) rfl ?_
      show oP p e below s₁ (mkF m 12 #[oI p0, oI (1 : Int32), oU, oU, oU] []) _
      refine XS.iloadN X0.here hx rfl (hb hby at_12) rfl ?_
      show oP p e below s₁ (mkF m 13 #[oI p0, oI (1 : Int32), oU, oU, oU] [(.int (1 : Int32))]) _
      refine XS.ifNo X0.here hx rfl (hb hby at_13) rfl ((if0 _ _).trans (feq (by decide : ¬ ((1 : Int32) = (0 : Int32)))).1) ?_
      show oP p e below s₁ (mkF m 16 #[oI p0, oI (1 : Int32), oU, oU, oU] []) _
      refine XS.iconst X0.here hx rfl (hb hby at_16) ?_
      show oP p e below s₁ (mkF m 17 #[oI p0, oI (1 : Int32), oU, oU, oU] [(.int (2 : Int32))]) _
      refine XS.istoreN X0.here hx rfl (hb hby at_17) rfl (l' := #[oI p0, oI (1 : Int32), oI (2 : Int32), oU, oU]) rfl ?_
      show oP p e below s₁ (mkF m 18 #[oI p0, oI (1 : Int32), oI (2 : Int32), oU, oU] []) _
      refine st18 _ ?_
      show oP p e below T18 (mkF m 21 #[oI p0, oI (1 : Int32), oI (2 : Int32), oU, oU] [(.ref (a_DELETED Z))]) _
      refine XS.astoreN X18.here hx rfl (hb hby at_21) rfl rfl (l' := #[oI p0, oI (1 : Int32), oI (2 : Int32), oR (a_DELETED Z), oU]) rfl ?_
      show oP p e below T18 (mkF m 22 #[oI p0, oI (1 : Int32), oI (2 : Int32), oR (a_DELETED Z), oU] []) _
      refine XS.goto X18.here hx rfl (pc0 := 22) (pc' := 31) rfl (hb hby at_22) (by decide) (by decide) ?_
      show oP p e below T18 (mkF m 31 #[oI p0, oI (1 : Int32), oI (2 : Int32), oR (a_DELETED Z), oU] []) _
      refine XS.iloadN X18.here hx rfl (hb hby at_31) rfl ?_
      show oP p e below T18 (mkF m 32 #[oI p0, oI (1 : Int32), oI (2 : Int32), oR (a_DELETED Z), oU] [(.int (2 : Int32))]) _
      refine st19 _ ?_
      show oP p e below T19 (mkF m 35 #[oI p0, oI (1 : Int32), oI (2 : Int32), oR (a_DELETED Z), oU] [(.ref (a_DELETED Z))]) _
      refine XS.astore X19.here hx rfl (hb hby at_35) rfl rfl (l' := #[oI p0, oI (1 : Int32), oI (2 : Int32), oR (a_DELETED Z), oR (a_DELETED Z)]) rfl ?_
      show oP p e below T19 (mkF m 37 #[oI p0, oI (1 : Int32), oI (2 : Int32), oR (a_DELETED Z), oR (a_DELETED Z)] []) _
      refine XS.aload X19.here hx rfl (hb hby at_37) rfl rfl ?_
      show oP p e below T19 (mkF m 39 #[oI p0, oI (1 : Int32), oI (2 : Int32), oR (a_DELETED Z), oR (a_DELETED Z)] [(.ref (a_DELETED Z))]) _
      refine XS.aloadN X19.here hx rfl (hb hby at_39) rfl rfl ?_
      show oP p e below T19 (mkF m 40 #[oI p0, oI (1 : Int32), oI (2 : Int32), oR (a_DELETED Z), oR (a_DELETED Z)] [(.ref (a_DELETED Z)), (.ref (a_DELETED Z))]) _
      refine Jvm.RoadKit.acmp (g := (mkF m 40 #[oI p0, oI (1 : Int32), oI (2 : Int32), oR (a_DELETED Z), oR (a_DELETED Z)] [(.ref (a_DELETED Z)), (.ref (a_DELETED Z))])) X19 hx rfl rfl rfl (pc0 := 40) (pc' := 43) (same := true) rfl (hb hby at_40) rfl (decide_eq_true (congrArg Value.ref (rfl : (a_DELETED Z) = (a_DELETED Z)))) (by decide) (by decide) ?_
      show oP p e below T19 (mkF m 43 #[oI p0, oI (1 : Int32), oI (2 : Int32), oR (a_DELETED Z), oR (a_DELETED Z)] []) _
      refine XS.aload X19.here hx rfl (hb hby at_43) rfl rfl ?_
      show oP p e below T19 (mkF m 45 #[oI p0, oI (1 : Int32), oI (2 : Int32), oR (a_DELETED Z), oR (a_DELETED Z)] [(.ref (a_DELETED Z))]) _
      refine st20.trans ?_
      show oP p e below T20 (mkF m 48 #[oI p0, oI (1 : Int32), oI (2 : Int32), oR (a_DELETED Z), oR (a_DELETED Z)] [(.int (2 : Int32))]) _
      refine XS.iloadN X20.here hx rfl (hb hby at_48) rfl ?_
      show oP p e below T20 (mkF m 49 #[oI p0, oI (1 : Int32), oI (2 : Int32), oR (a_DELETED Z), oR (a_DELETED Z)] [(.int (2 : Int32)), (.int (2 : Int32))]) _
      refine XS.icmpNo X20.here hx rfl (hb hby at_49) rfl (teq (by decide : (2 : Int32) = (2 : Int32))).2 ?_
      show oP p e below T20 (mkF m 52 #[oI p0, oI (1 : Int32), oI (2 : Int32), oR (a_DELETED Z), oR (a_DELETED Z)] []) _
      refine XS.iconst X20.here hx rfl (hb hby at_52) ?_
      show oP p e below T20 (mkF m 53 #[oI p0, oI (1 : Int32), oI (2 : Int32), oR (a_DELETED Z), oR (a_DELETED Z)] [(.int (1 : Int32))]) _
      refine XS.goto X20.here hx rfl (pc0 := 53) (pc' := 57) rfl (hb hby at_53) (by decide) (by decide) ?_
      show oP p e below T20 (mkF m 57 #[oI p0, oI (1 : Int32), oI (2 : Int32), oR (a_DELETED Z), oR (a_DELETED Z)] [(.int (1 : Int32))]) _
      exact retN X20 hx (t := .boolean) Bd.returns (by simp) (hb hby at_57) hr
    · show (some (.int (1 : Int32)) : Option Value) = some (.int (1 : Int32)) ∧ Fr n0 _ ∧ Keep h0 T20.heap []
      exact ⟨rfl, N20, Kc20⟩
set_option maxRecDepth 65536 in
set_option maxHeartbeats 40000000 in
theorem comes_1 {Post : Tables → Env → Array Value → State → Outcome → State → Prop} (hpost : ∀ tb e args s v u, (limb_1_1.after args s (.returned v) u = true ∧ limb_1_2.after args s (.returned v) u = true ∧ True) → FrameEnd s (.returned v) u (Jvm.fieldLocs frame_1_writes args s ++ Jvm.arrayLocs frame_1_arrays args s ++ Jvm.staticLocs frame_1_statics s) 16 128 → Post tb e args s (.returned v) u) :
    ArmFor flags0 classFile x code maxLocals ret World_1 tables_1 room_1 Calls_1 rest_1 Pre_1 Post := by
  intro l hfl _ _ p e ha hc hk s m args below hf hA hF happ hP
  obtain ⟨hcalls, hrest, hpre⟩ := hP
  obtain ⟨-, -, -, hnamed, -, -, -, hat⟩ := (Spec.applies_iff hf).mp happ
  obtain ⟨hg, hn⟩ := and_e (Cond.before_iff.mp (show (Jvm.Cond.and given_1 narrow_1).before args s = true from hpre))
  obtain ⟨g1, g2⟩ := and_e hg
  obtain ⟨w0, rfl⟩ : ∃ w0 : Value, args = #[w0] := by
    have hs : args.size = 1 := by simpa [Cond.value, given_1] using g1
    obtain ⟨L⟩ := args
    match L, hs with
    | [w0], _ => exact ⟨w0, rfl⟩
  have hw := fun d (hd : d ∈ tables_1) => atoms_spec (ws := Jvm.Cond.code x code maxLocals ret :: tables_1) hat d (List.mem_cons_of_mem _ hd)
  have hfit : Fit s := fun {y c} hc i hi => by
    obtain ⟨ha, rfl⟩ := Array.getElem?_eq_some_iff.mp hc
    have q := List.all_eq_true.mp ((Array.all_eq_true_iff_forall_mem.mp hF) _ (Array.getElem_mem ha)) i (List.mem_range.mpr hi)
    simpa [Array.getElem?_eq_getElem hi] using q
  obtain ⟨i0, ei0⟩ := is_v g2
  obtain rfl : w0 = (.int i0) := Option.some.inj ei0
  obtain ⟨q0, hn0⟩ := and_e hn
  obtain ⟨q1, hn1⟩ := and_e hn0
  obtain ⟨q2, hn2⟩ := and_e hn1
  obtain ⟨q3, hn3⟩ := and_e hn2
  obtain ⟨q4, hn4⟩ := and_e hn3
  obtain ⟨q5, hn5⟩ := and_e hn4
  obtain ⟨q6, hn6⟩ := and_e hn5
  obtain ⟨q7, hn7⟩ := and_e hn6
  have q8 := hn7
  have hS : St s := ⟨(own_sta q0 (Or.inr ⟨(hw _ (List.mem_of_getElem? (i := 1) rfl)), (hw _ (List.mem_of_getElem? (i := 2) rfl))⟩)), (own_exa q0), (own_sta q2 (Or.inr ⟨(hw _ (List.mem_of_getElem? (i := 1) rfl)), (hw _ (List.mem_of_getElem? (i := 10) rfl))⟩)), (own_exa q2), (own_sta q5 (Or.inr ⟨(hw _ (List.mem_of_getElem? (i := 1) rfl)), (hw _ (List.mem_of_getElem? (i := 18) rfl))⟩)), (own_exa q5), (own_fldI q7), (own_fldI q8), (own_vals hfit q1 q3 rfl (by decide) (fun cl A => ⟨own_elem q4 (own_at (q0)) A rfl, own_elem q6 (own_at (q5)) A rfl, trivial⟩) (by simp [fits]))⟩
  obtain ⟨n, o, h1, h2, h3, _, L, rfl, ⟨rfl, N, -⟩, hq⟩ := rm0 l s _ hw hS tables_1 i0 s.heap s.heap.size (Old.start s) p e ha hc hk s m _ below hf ((Spec.applies_iff_loose hf).mp happ).1 ⟨rfl, State.Warmed39.refl s, rfl⟩ trivial
  refine ⟨n, _, h1, h2, h3, hpost _ _ _ _ _ _ ⟨Cond.after_iff.mpr rfl, Cond.after_iff.mpr (eq_i res_at (Term.int_eval (1)) rfl), trivial⟩ ⟨hq.1, hq.2.1, (hq.2.2.sift fun y hy => Or.inr (N y hy)).mono (by decide) (by decide)⟩⟩
theorem main_1_1 : Claimed_1_1 := comes_1 fun _ _ _ _ _ _ h hF => ⟨h.1, hF⟩
theorem main_1_2 : Claimed_1_2 := comes_1 fun _ _ _ _ _ _ h hF => ⟨h.2.1, hF⟩
end Jvm.Pilot.@@N@@
namespace Jvm.Pilot.@@N@@
open Jvm Jvm.ClassFile Sem Op Lib Jvm.Free Jvm.Stand Jvm.Pilot.@@N@@.Jvm.D
/-! MADE BY PROGRAM (witnessworld.py) out of the Statement's table words and the real class files: 13 classes; the members and pool entries that the words name. The judged class is class 1, her method 1. -/
namespace start1
open Jvm.ClassFile
def u (s : String) : CpInfo := .utf8 (stringToUtf16 s)
/-- a pool by its gaps: so many unusable entries, then the entry; so many at the end -/
def gap : Nat → List CpInfo → List CpInfo
  | 0, r => r
  | n + 1, r => .unusable :: gap n r
def poolList (es : List (Nat × CpInfo)) (last : Nat) : List CpInfo := es.foldr (fun e r => gap e.1 (e.2 :: r)) (gap last [])
def pool (es : List (Nat × CpInfo)) (last : Nat) : Array CpInfo := ⟨poolList es last⟩
def fileOf (pool : Array CpInfo) (this : Nat) (attrs : Array Attribute := #[]) (ms : Array MethodInfo := #[]) (fl : Nat := 33) (sup : Nat := 0) (ifs : Array Nat := #[]) (fds : Array FieldInfo := #[]) : ClassFile where
  minorVersion := 0
  majorVersion := 65
  constantPool := pool
  accessFlags := fl
  thisClass := this
  superClass := sup
  interfaces := ifs
  fields := fds
  methods := ms
  attributes := attrs
def plain (name : String) (sup : Option ClassId) : Class where
  name := name
  kind := .ordinary
  loader := none
  accessFlags := 33
  super := sup
  interfaces := #[]
  cf := none
  fields := #[]
  methods := #[]
  instanceTypes := #[]
  staticTypes := #[]
  resolved := #[]
  callSites := []
  init := .initialized
  statics := none
  mirror := none

def pool0 : Array CpInfo := pool [(5, u "<init>"), (0, u "()V"), (1, .class_ 10), (1, u "java/lang/Object"), (85, u "clone"), (0, u "()Ljava/lang/Object;")] 26

def k0m0 : Method := { name := "<init>", desc := "()V", sig := { parameters := [], returnType := none }, accessFlags := 1, code := none }
def k0m1 : Method := { name := "clone", desc := "()Ljava/lang/Object;", sig := { parameters := [], returnType := some (.object "java/lang/Object") }, accessFlags := 260, code := none }
/-- java/lang/Object -/
def k0 : Class := { plain "java/lang/Object" none with
  accessFlags := 33
  interfaces := #[]
  cf := some (fileOf pool0 8 #[] #[{ accessFlags := 1, nameIndex := 5, descriptorIndex := 6, attributes := #[] }, { accessFlags := 260, nameIndex := 96, descriptorIndex := 97, attributes := #[] }] 33 0 #[] #[])
  fields := #[]
  methods := #[k0m0, k0m1]
  instanceTypes := #[]
  staticTypes := #[]
  resolved := Array.replicate 124 none
  statics := none }

def pool1 : Array CpInfo := pool [(2, .class_ 4), (1, u "java/lang/Object"), (0, u "<init>"), (0, u "()V"), (0, .fieldref 8 9), (0, .class_ 10), (0, .nameAndType 11 12), (0, u "com/example/latchwork/latchwork/Event$Kind"), (0, u "DELETED"), (0, u "Lcom/example/latchwork/latchwork/Event$Kind;"), (0, .fieldref 8 14), (0, .nameAndType 15 12), (0, u "CONTENTS_CHANGED"), (0, .methodref 8 17), (0, .nameAndType 18 19), (0, u "of"), (0, u "(I)Lcom/example/latchwork/latchwork/Event$Kind;"), (0, .methodref 8 21), (0, .nameAndType 22 23), (0, u "bit"), (0, u "()I"), (0, .class_ 25), (0, u "com/example/latchwork/latchwork/KindOfPinLaw"), (2, u "law"), (0, u "(I)Z")] 10

def k1m0 : Method := { name := "<init>", desc := "()V", sig := { parameters := [], returnType := none }, accessFlags := 2, code := none }
def k1c1 : Code := { maxStack := 2, maxLocals := 5, code := code, exceptionTable := #[], attributes := #[] }
def k1m1 : Method := { name := "law", desc := "(I)Z", sig := { parameters := [.int], returnType := some .boolean }, accessFlags := 9, code := some k1c1 }
/-- com/example/latchwork/latchwork/KindOfPinLaw -/
def k1 : Class := { plain "com/example/latchwork/latchwork/KindOfPinLaw" (some 0) with
  accessFlags := 49
  interfaces := #[]
  cf := some (fileOf pool1 24 #[] #[{ accessFlags := 2, nameIndex := 5, descriptorIndex := 6, attributes := #[] }, { accessFlags := 9, nameIndex := 28, descriptorIndex := 29, attributes := #[] }] 49 2 #[] #[])
  fields := #[]
  methods := #[k1m0, k1m1]
  instanceTypes := #[]
  staticTypes := #[]
  resolved := Array.replicate 40 none
  statics := none }

def pool2 : Array CpInfo := pool [(1, .class_ 2), (0, u "java/lang/constant/Constable"), (0, .class_ 4), (0, u "java/lang/Object")] 6

/-- java/lang/constant/Constable -/
def k2 : Class := { plain "java/lang/constant/Constable" (some 0) with
  accessFlags := 1537
  interfaces := #[]
  cf := some (fileOf pool2 1 #[] #[] 1537 3 #[] #[])
  fields := #[]
  methods := #[]
  instanceTypes := #[]
  staticTypes := #[]
  resolved := Array.replicate 11 none
  statics := none }

def pool3 : Array CpInfo := pool [(1, .class_ 2), (0, u "java/lang/Comparable"), (0, .class_ 4), (0, u "java/lang/Object")] 7

/-- java/lang/Comparable -/
def k3 : Class := { plain "java/lang/Comparable" (some 0) with
  accessFlags := 1537
  interfaces := #[]
  cf := some (fileOf pool3 1 #[] #[] 1537 3 #[] #[])
  fields := #[]
  methods := #[]
  instanceTypes := #[]
  staticTypes := #[]
  resolved := Array.replicate 12 none
  statics := none }

def pool4 : Array CpInfo := pool [(1, .class_ 2), (0, u "java/io/Serializable"), (0, .class_ 4), (0, u "java/lang/Object")] 2

/-- java/io/Serializable -/
def k4 : Class := { plain "java/io/Serializable" (some 0) with
  accessFlags := 1537
  interfaces := #[]
  cf := some (fileOf pool4 1 #[] #[] 1537 3 #[] #[])
  fields := #[]
  methods := #[]
  instanceTypes := #[]
  staticTypes := #[]
  resolved := Array.replicate 7 none
  statics := none }

def pool5 : Array CpInfo := pool [(2, .class_ 4), (1, u "java/lang/Enum"), (0, u "name"), (0, u "Ljava/lang/String;"), (2, u "ordinal"), (0, u "I"), (1, .class_ 14), (1, u "java/lang/Object"), (4, u "hash"), (86, .class_ 108), (1, u "java/lang/Enum$EnumDesc"), (2, .class_ 112), (0, u "java/lang/constant/Constable"), (0, .class_ 114), (0, u "java/lang/Comparable"), (0, .class_ 116), (0, u "java/io/Serializable")] 87

/-- java/lang/Enum -/
def k5 : Class := { plain "java/lang/Enum" (some 0) with
  accessFlags := 1057
  interfaces := #[2, 3, 4]
  cf := some (fileOf pool5 2 #[.nestMembers #[106]] #[] 1057 12 #[111, 113, 115] #[{ accessFlags := 18, nameIndex := 5, descriptorIndex := 6, attributes := #[] }, { accessFlags := 18, nameIndex := 9, descriptorIndex := 10, attributes := #[] }, { accessFlags := 2, nameIndex := 19, descriptorIndex := 10, attributes := #[] }])
  fields := #[{ name := "name", type := (.object "java/lang/String"), accessFlags := 18, slot := 0, constantValue := 0 }, { name := "ordinal", type := .int, accessFlags := 18, slot := 1, constantValue := 0 }, { name := "hash", type := .int, accessFlags := 2, slot := 2, constantValue := 0 }]
  methods := #[]
  instanceTypes := #[(.object "java/lang/String"), .int, .int]
  staticTypes := #[]
  resolved := Array.replicate 204 none
  statics := none }

def pool6 : Array CpInfo := pool [(1, .class_ 2), (0, u "com/example/latchwork/latchwork/Event$Kind"), (2, u "CONTENTS_CHANGED"), (0, u "Lcom/example/latchwork/latchwork/Event$Kind;"), (2, u "DELETED"), (0, .fieldref 1 11), (0, .nameAndType 12 13), (0, u "$VALUES"), (0, u "[Lcom/example/latchwork/latchwork/Event$Kind;"), (0, .methodref 15 16), (0, .class_ 13), (0, .nameAndType 17 18), (0, u "clone"), (0, u "()Ljava/lang/Object;"), (1, .class_ 22), (1, u "java/lang/Enum"), (6, .fieldref 1 30), (0, .nameAndType 31 32), (0, u "bit"), (0, u "I"), (15, .methodref 1 49), (0, .nameAndType 50 51), (0, u "values"), (0, u "()[Lcom/example/latchwork/latchwork/Event$Kind;"), (19, u "ALL"), (6, u "()I"), (4, u "of"), (0, u "(I)Lcom/example/latchwork/latchwork/Event$Kind;"), (7, .class_ 93), (0, u "com/example/latchwork/latchwork/Event")] 16

def k6c0 : Code := { maxStack := 1, maxLocals := 0, code := prog_68_method_1_code, exceptionTable := #[], attributes := #[] }
def k6m0 : Method := { name := "values", desc := "()[Lcom/example/latchwork/latchwork/Event$Kind;", sig := { parameters := [], returnType := some (.array (.object "com/example/latchwork/latchwork/Event$Kind")) }, accessFlags := 9, code := some k6c0 }
def k6c1 : Code := { maxStack := 1, maxLocals := 1, code := prog_68_method_4_code, exceptionTable := #[], attributes := #[] }
def k6m1 : Method := { name := "bit", desc := "()I", sig := { parameters := [], returnType := some .int }, accessFlags := 0, code := some k6c1 }
def k6c2 : Code := { maxStack := 3, maxLocals := 5, code := prog_68_method_6_code, exceptionTable := #[], attributes := #[] }
def k6m2 : Method := { name := "of", desc := "(I)Lcom/example/latchwork/latchwork/Event$Kind;", sig := { parameters := [.int], returnType := some (.object "com/example/latchwork/latchwork/Event$Kind") }, accessFlags := 8, code := some k6c2 }
/-- com/example/latchwork/latchwork/Event$Kind -/
def k6 : Class := { plain "com/example/latchwork/latchwork/Event$Kind" (some 5) with
  accessFlags := 16433
  interfaces := #[]
  cf := some (fileOf pool6 1 #[.nestHost 92] #[{ accessFlags := 9, nameIndex := 50, descriptorIndex := 51, attributes := #[] }, { accessFlags := 0, nameIndex := 31, descriptorIndex := 78, attributes := #[] }, { accessFlags := 8, nameIndex := 83, descriptorIndex := 84, attributes := #[] }] 16433 20 #[] #[{ accessFlags := 16409, nameIndex := 5, descriptorIndex := 6, attributes := #[] }, { accessFlags := 16409, nameIndex := 9, descriptorIndex := 6, attributes := #[] }, { accessFlags := 24, nameIndex := 71, descriptorIndex := 32, attributes := #[] }, { accessFlags := 18, nameIndex := 31, descriptorIndex := 32, attributes := #[] }, { accessFlags := 4122, nameIndex := 12, descriptorIndex := 13, attributes := #[] }])
  fields := #[{ name := "CONTENTS_CHANGED", type := (.object "com/example/latchwork/latchwork/Event$Kind"), accessFlags := 16409, slot := 0, constantValue := 0 }, { name := "DELETED", type := (.object "com/example/latchwork/latchwork/Event$Kind"), accessFlags := 16409, slot := 1, constantValue := 0 }, { name := "ALL", type := .int, accessFlags := 24, slot := 2, constantValue := 0 }, { name := "bit", type := .int, accessFlags := 18, slot := 3, constantValue := 0 }, { name := "$VALUES", type := (.array (.object "com/example/latchwork/latchwork/Event$Kind")), accessFlags := 4122, slot := 3, constantValue := 0 }]
  methods := #[k6m0, k6m1, k6m2]
  instanceTypes := #[(.object "java/lang/String"), .int, .int, .int]
  staticTypes := #[(.object "com/example/latchwork/latchwork/Event$Kind"), (.object "com/example/latchwork/latchwork/Event$Kind"), .int, (.array (.object "com/example/latchwork/latchwork/Event$Kind"))]
  resolved := Array.replicate 110 none
  statics := some 0 }

def pool7 : Array CpInfo := pool [(1, .class_ 2), (0, u "java/lang/Cloneable"), (0, .class_ 4), (0, u "java/lang/Object")] 2

/-- java/lang/Cloneable -/
def k7 : Class := { plain "java/lang/Cloneable" (some 0) with
  accessFlags := 1537
  interfaces := #[]
  cf := some (fileOf pool7 1 #[] #[] 1537 3 #[] #[])
  fields := #[]
  methods := #[]
  instanceTypes := #[]
  staticTypes := #[]
  resolved := Array.replicate 7 none
  statics := none }

/-- the primitive byte -/
def k8 : Class := { plain "byte" none with kind := .primitive 'B', accessFlags := 0x411 }
/-- [B -/
def k9 : Class := { plain "[B" (some 0) with kind := .array 8 .byte, interfaces := #[7, 4], accessFlags := 1041 }

/-- the primitive int -/
def k10 : Class := { plain "int" none with kind := .primitive 'I', accessFlags := 0x411 }
/-- [I -/
def k11 : Class := { plain "[I" (some 0) with kind := .array 10 .int, interfaces := #[7, 4], accessFlags := 1041 }

/-- [Lcom/example/latchwork/latchwork/Event$Kind; -/
def k12 : Class := { plain "[Lcom/example/latchwork/latchwork/Event$Kind;" (some 0) with kind := .array 6 (.object "com/example/latchwork/latchwork/Event$Kind"), interfaces := #[7, 4], accessFlags := 1041 }

def heap : Heap := #[{ cls := 6, slots := #[.ref 2, .ref 3, .int 0, .ref 1], vm := .statics 6 },
  { cls := 12, slots := #[.ref 2, .ref 3], vm := .none },
  { cls := 6, slots := #[.null, .int 0, .int 0, .int 1], vm := .none },
  { cls := 6, slots := #[.null, .int 0, .int 0, .int 2], vm := .none }]
def classes : Array Class := #[k0, k1, k2, k3, k4, k5, k6, k7, k8, k9, k10, k11, k12]
def interned : List (Array UInt16 × Addr) := []
def slotsUsed : Nat := 14
def theMethod : MethodId := ⟨1, 1⟩
def args0 : Array Value := #[.int 5]
def aboutOver (below : List Frame) : State where
  vm := { classes := classes, interned := interned.toArray }
  heap := heap
  slotsUsed := slotsUsed
  threads := #[{ frames := .invoking theMethod args0 :: below }]
def below0 : List Frame := [.native { method := ⟨0, 0⟩, args := #[] }]
def about1 : State := aboutOver below0
def p0 : Program := .bare "" "" ""
def e0 : Env := launch0.env 0 0 0
theorem w_frames : about1.frames = Frame.invoking theMethod args0 :: below0 := rfl
set_option maxRecDepth 65536 in
theorem w_args : argsFit about1.vm theMethod args0 = true := by decide +kernel
set_option maxRecDepth 65536 in
theorem w_heap : heapFits about1 = true := by decide +kernel
set_option maxRecDepth 65536 in
theorem w_runnable : about1.curStatus? = some .runnable := by decide +kernel
set_option maxRecDepth 65536 in
theorem w_alone : about1.alone = true := by decide +kernel
set_option maxRecDepth 65536 in
theorem w_named : about1.methodNamed? x = some theMethod := by decide +kernel
set_option maxRecDepth 65536 in
theorem w_hears : about1.hears theMethod below0 = true := by decide +kernel
set_option maxRecDepth 65536 in
theorem w_ripe : about1.ripe theMethod args0 below0 = true := by decide +kernel
theorem w_running : about1.status = .running := rfl
set_option maxRecDepth 65536 in
theorem w_room : about1.hasRoom e0.platform room_1 = true :=
  launch0.hasRoom_least _ room_1 (by decide +kernel) (by decide +kernel) (by decide +kernel) (by decide +kernel) (by decide +kernel) (by decide +kernel)
theorem allAtoms_all (ts : List Jvm.Cond) (a : Array Jvm.Value) (st : Jvm.State) : (allAtoms ts).before a st = ts.all (fun c => c.before a st) := by
  induction ts with
  | nil => rfl
  | cons c t ih =>
    show (Jvm.Cond.and c (allAtoms t)).before a st = _
    rw [Jvm.Cond.before_and, ih, List.all_cons]
def words1 : List Jvm.Cond := Jvm.Cond.code x code maxLocals ret :: tables_1
/-- a 'code' word, met by the world's own term for the bytes: nothing is compared byte by byte -/
theorem code_word {y : MethodName} {bytes : ByteArray} {mx : Nat} {rt : Option FieldType} {a : Array Value} {s : State} {m : MethodId} {meth : Method} {c : Code} (h1 : s.methodNamed? y = some m) (h2 : s.vm.method? m = some meth) (h3 : meth.code = some c) (h4 : c.code = bytes)
    (h5 : (c.maxLocals == mx && c.exceptionTable.isEmpty && decide (c.maxStack ≤ mostOperands) && decide (meth.sig.returnType = rt) && !meth.locks && decide (parseMethodDescriptor y.desc = some meth.sig)) = true) : (Jvm.Cond.code y bytes mx rt).before a s = true := by
  simp only [Bool.and_eq_true, beq_iff_eq, Bool.not_eq_true', decide_eq_true_eq] at h5
  obtain ⟨⟨⟨⟨⟨g1, g2⟩, g3⟩, g4⟩, g5⟩, g6⟩ := h5
  simp [Cond.before, Cond.holds, Cond.value, h1, h2, h3, h4, g1, g2, g3, g4, g5, g6]
def isCode : Jvm.Cond → Bool
  | .code _ _ _ _ => true
  | _ => false
theorem all_split {L : List Jvm.Cond} {P : Jvm.Cond → Bool} (h1 : L.all (fun c => isCode c || P c) = true) (h2 : ∀ c ∈ L.filter isCode, P c = true) : L.all P = true := by
  refine List.all_eq_true.mpr fun c hc => ?_
  have h := List.all_eq_true.mp h1 c hc
  rcases Bool.eq_false_or_eq_true (isCode c) with hi | hi
  · exact h2 c (List.mem_filter.mpr ⟨hc, hi⟩)
  · simpa [hi] using h
set_option maxRecDepth 65536 in
theorem w_c0 : (Jvm.Cond.code x code maxLocals ret).before args0 about1 = true := code_word (m := ⟨1, 1⟩) (meth := k1m1) (c := k1c1) (by decide +kernel) rfl rfl rfl (by decide +kernel)
set_option maxRecDepth 65536 in
theorem w_c1 : (Jvm.Cond.code ({ cls := "com/example/latchwork/latchwork/Event$Kind", name := "of", desc := "(I)Lcom/example/latchwork/latchwork/Event$Kind;" } : Jvm.MethodName) prog_68_method_6_code (5 : Nat) (Option.some (Jvm.ClassFile.FieldType.object "com/example/latchwork/latchwork/Event$Kind"))).before args0 about1 = true := code_word (m := ⟨6, 2⟩) (meth := k6m2) (c := k6c2) (by decide +kernel) rfl rfl rfl (by decide +kernel)
set_option maxRecDepth 65536 in
theorem w_c2 : (Jvm.Cond.code ({ cls := "com/example/latchwork/latchwork/Event$Kind", name := "values", desc := "()[Lcom/example/latchwork/latchwork/Event$Kind;" } : Jvm.MethodName) prog_68_method_1_code (0 : Nat) (Option.some (Jvm.ClassFile.FieldType.array (Jvm.ClassFile.FieldType.object "com/example/latchwork/latchwork/Event$Kind")))).before args0 about1 = true := code_word (m := ⟨6, 0⟩) (meth := k6m0) (c := k6c0) (by decide +kernel) rfl rfl rfl (by decide +kernel)
set_option maxRecDepth 65536 in
theorem w_c3 : (Jvm.Cond.code ({ cls := "com/example/latchwork/latchwork/Event$Kind", name := "bit", desc := "()I" } : Jvm.MethodName) prog_68_method_4_code (1 : Nat) (Option.some Jvm.ClassFile.FieldType.int)).before args0 about1 = true := code_word (m := ⟨6, 1⟩) (meth := k6m1) (c := k6c1) (by decide +kernel) rfl rfl rfl (by decide +kernel)
def codes1 : List Jvm.Cond := [Jvm.Cond.code x code maxLocals ret, Jvm.Cond.code ({ cls := "com/example/latchwork/latchwork/Event$Kind", name := "of", desc := "(I)Lcom/example/latchwork/latchwork/Event$Kind;" } : Jvm.MethodName) prog_68_method_6_code (5 : Nat) (Option.some (Jvm.ClassFile.FieldType.object "com/example/latchwork/latchwork/Event$Kind")), Jvm.Cond.code ({ cls := "com/example/latchwork/latchwork/Event$Kind", name := "values", desc := "()[Lcom/example/latchwork/latchwork/Event$Kind;" } : Jvm.MethodName) prog_68_method_1_code (0 : Nat) (Option.some (Jvm.ClassFile.FieldType.array (Jvm.ClassFile.FieldType.object "com/example/latchwork/latchwork/Event$Kind"))), Jvm.Cond.code ({ cls := "com/example/latchwork/latchwork/Event$Kind", name := "bit", desc := "()I" } : Jvm.MethodName) prog_68_method_4_code (1 : Nat) (Option.some Jvm.ClassFile.FieldType.int)]
set_option maxRecDepth 65536 in
theorem codes_eq : words1.filter isCode = codes1 := rfl
theorem w_codes : ∀ c ∈ words1.filter isCode, c.before args0 about1 = true := by
  rw [codes_eq]
  intro c hc
  simp only [codes1, List.mem_cons, List.not_mem_nil, or_false] at hc
  rcases hc with rfl | rfl | rfl | rfl
  · exact w_c0
  · exact w_c1
  · exact w_c2
  · exact w_c3
set_option maxRecDepth 65536 in
theorem w_t1 : (words1.take 24).all (fun c => isCode c || c.before args0 about1) = true := by decide +kernel
set_option maxRecDepth 65536 in
theorem w_t2 : (words1.drop 24).all (fun c => isCode c || c.before args0 about1) = true := by decide +kernel
theorem w_tables : (allAtoms (Jvm.Cond.code x code maxLocals ret :: tables_1)).before args0 about1 = true := by
  rw [allAtoms_all]
  show words1.all (fun c => c.before args0 about1) = true
  refine all_split ?_ w_codes
  rw [← List.take_append_drop 24 words1, List.all_append, w_t1, w_t2]
  rfl
set_option maxRecDepth 65536 in
theorem w_case : (Jvm.Cond.and given_1 narrow_1).before args0 about1 = true := by decide +kernel
theorem w_applies : (headSpec (Jvm.Cond.code x code maxLocals ret :: tables_1) room_1).applies x e0.platform about1 = true :=
  (Spec.applies_iff w_frames).mpr ⟨w_running, w_runnable, w_alone, w_named, w_hears, w_ripe, w_room, w_tables⟩
theorem atStart : AtStart classFile x code maxLocals ret World_1 tables_1 room_1 Calls_1 rest_1 Pre_1 launch0 p0 e0 about1 theMethod args0 below0 :=
  ⟨lists_1, trivial, launch0.admits_env _ _ _, launch0.least_env, fairChoices_fair.cas, fairChoices_fair.clock, w_frames, w_args, w_heap, w_applies, trivial, trivial, w_case⟩
end start1
theorem witness_1 : WitnessClaimed_1 := ⟨start1.p0, start1.e0, start1.about1, start1.theMethod, start1.args0, start1.below0, start1.atStart⟩
end Jvm.Pilot.@@N@@
