import JvmDerived
import JvmDerived.Pilot.@@N@@Statement
import JvmDerived.Pilot.@@N@@Code
set_option linter.unusedVariables false
set_option linter.unusedSimpArgs false
namespace Jvm.RoadKit
open Sem ClassFile Op Lib Jvm.Stand Jvm.Free Jvm.LawKit
section New
variable {p : Program} {l : Launch} {e : Env} {R : Room} {s : State} {m : MethodId} {args : Array Value} {below : List Frame} {meth : Method} {c : Code} {T : State} {locs : List Loc} {cells slots : Nat}
theorem retI (X : Stand p l e R s m args below meth c T locs cells slots) (hx : p.tables.exec = Jvm.exec) {pc : Nat} {Ls : Array Slot} {z : Int32} {rest : List Value} (hret : meth.sig.returnType = some .int) (hd : decode c.code pc = .ok (.ireturn, 1)) {fs : List Frame}
    (hl : ∀ (f : JFrame) (acts : List Action), f.method = m → f.locked = none → f.entered = [] → (doReturn e (T.setTop f) acts (some (.int z))).1 = T.setFrames fs) : Steps p.tables e below (T.setTop (mkF m pc Ls (.int z :: rest))) (T.setFrames fs) := by
  have hm' : T.vm.method? m = some meth := X.method'
  have hn : narrow .int (.int z) = .int z := rfl
  show Steps p.tables e below (T.setTop { method := m, pc := pc, locals := Ls, stack := _ :: rest, locked := none }) _
  jvm_step X.here [X.here.top, hx, hd, hm', hret, hn]
  first | (intro acts; rw [hl _ acts rfl rfl rfl]) | rw [hl _ _ rfl rfl rfl]
  exact Steps.refl _
theorem own_retJ (X : Stand p l e R s m args below meth c T locs cells slots) (hx : p.tables.exec = Jvm.exec) {pc : Nat} {Ls : Array Slot} {z : Int64} {rest : List Value} (hret : meth.sig.returnType = some .long) (hd : decode c.code pc = .ok (.lreturn, 1)) {fs : List Frame}
    (hl : ∀ (f : JFrame) (acts : List Action), f.method = m → f.locked = none → f.entered = [] → (doReturn e (T.setTop f) acts (some (.long z))).1 = T.setFrames fs) : Steps p.tables e below (T.setTop (mkF m pc Ls (.long z :: rest))) (T.setFrames fs) := by
  have hm' : T.vm.method? m = some meth := X.method'
  have hn : narrow .long (.long z) = .long z := rfl
  show Steps p.tables e below (T.setTop { method := m, pc := pc, locals := Ls, stack := _ :: rest, locked := none }) _
  jvm_step X.here [X.here.top, hx, hd, hm', hret, hn]
  first | (intro acts; rw [hl _ acts rfl rfl rfl]) | rw [hl _ _ rfl rfl rfl]
  exact Steps.refl _
theorem own_catV {v : Value} (h : v.isRef = true) : v.category = 1 := by cases v <;> first | rfl | cases h
theorem own_retA (X : Stand p l e R s m args below meth c T locs cells slots) (hx : p.tables.exec = Jvm.exec) {pc : Nat} {Ls : Array Slot} {w : Value} {t : FieldType} {rest : List Value} (hret : meth.sig.returnType = some t) (ht : t.isReference = true) (hw : w.isRef = true) (hd : decode c.code pc = .ok (.areturn, 1)) {fs : List Frame}
    (hl : ∀ (f : JFrame) (acts : List Action), f.method = m → f.locked = none → f.entered = [] → (doReturn e (T.setTop f) acts (some w)).1 = T.setFrames fs) : Steps p.tables e below (T.setTop (mkF m pc Ls (w :: rest))) (T.setFrames fs) := by
  have hm' : T.vm.method? m = some meth := X.method'
  show Steps p.tables e below (T.setTop { method := m, pc := pc, locals := Ls, stack := w :: rest, locked := none }) _
  jvm_step X.here [X.here.top, hx, hd, hm', hret, ht, hw]
  first | (intro acts; rw [hl _ acts rfl rfl rfl]) | rw [hl _ _ rfl rfl rfl]
  exact Steps.refl _
variable {Z : State} {h : Heap}
theorem own_len (X : Stand p l e R s m args below meth c T locs cells slots) (hx : p.tables.exec = Jvm.exec) (hZ : Z.Warmed39 s.vm) (eT : T.heap = h) {a : Addr} {k : ClassId} {ty : FieldType} {z : Int32} {vs : List Value} {dv : Value} (F : Arv Z h a k ty z vs dv) {g : JFrame} (hg : g.method = m) {rest : List Value} (hs : g.stack = .ref a :: rest) (hd : decode c.code g.pc = .ok (.arraylength, 1)) (target : State)
    (hr : Steps p.tables e below (T.setTop { g with pc := g.pc + 1, stack := .int z :: rest }) target) : Steps p.tables e below (T.setTop g) target := by
  obtain ⟨cl, A, -, S, N, -, -⟩ := F
  refine X.arraylength hx (by rw [eT]; exact A.1) (State.isArrayOf_alike hZ.alike A.2.1) hg hs hd _ ?_
  rw [len_of S N]; exact hr
theorem own_aaload (X : Stand p l e R s m args below meth c T locs cells slots) (hx : p.tables.exec = Jvm.exec) (hZ : Z.Warmed39 s.vm) (eT : T.heap = h) {a : Addr} {k : ClassId} {ty : FieldType} {z : Int32} {vs : List Value} {dv : Value} (F : Arv Z h a k ty z vs dv) (hty : ty.isReference = true) {j : Int32} (hj : ¬ j < 0 ∧ j < z) {v : Value} (hv : vs.getD j.toNatClampNeg dv = v) {g : JFrame} (hg : g.method = m) {rest : List Value} (hs : g.stack = .int j :: .ref a :: rest) (hd : decode c.code g.pc = .ok (.aaload, 1)) (target : State)
    (hr : Steps p.tables e below (T.setTop { g with pc := g.pc + 1, stack := v :: rest }) target) : Steps p.tables e below (T.setTop g) target := by
  obtain ⟨cl, A, -, S, N, H, -⟩ := F
  have hin := inb_of S hj
  exact X.aaload hx (by rw [eT]; exact A.1) (State.isArrayOf_alike hZ.alike A.2.1) hty A.2.2 hin (H.at hin hv) hg hs hd _ hr
theorem own_baload (X : Stand p l e R s m args below meth c T locs cells slots) (hx : p.tables.exec = Jvm.exec) (hZ : Z.Warmed39 s.vm) (eT : T.heap = h) {a : Addr} {k : ClassId} {z : Int32} {vs : List Value} {dv : Value} (F : Arv Z h a k .byte z vs dv) {j : Int32} (hj : ¬ j < 0 ∧ j < z) {v : Value} (hv : vs.getD j.toNatClampNeg dv = v) {g : JFrame} (hg : g.method = m) {rest : List Value} (hs : g.stack = .int j :: .ref a :: rest) (hd : decode c.code g.pc = .ok (.baload, 1)) (target : State)
    (hr : Steps p.tables e below (T.setTop { g with pc := g.pc + 1, stack := v :: rest }) target) : Steps p.tables e below (T.setTop g) target := by
  obtain ⟨cl, A, -, S, N, H, -⟩ := F
  have hin := inb_of S hj
  exact X.baloadBytes hx (by rw [eT]; exact A.1) (State.isArrayOf_alike hZ.alike A.2.1) A.2.2 hin (H.at hin hv) hg hs hd _ hr
theorem own_stR (X : Stand p l e R s m args below meth c T locs cells slots) (hx : p.tables.exec = Jvm.exec) (hZ : Z.Warmed39 s.vm) (eT : T.heap = h) {a y : Addr} {k : ClassId} {C : String} {z : Int32} {vs : List Value} {dv : Value} (F : Arv Z h a k (.object C) z vs dv) (O : Ovr Z k C) (I : Ins Z h y C true) {j : Int32} (hj : ¬ j < 0 ∧ j < z) {i : Nat} (hi : j.toNatClampNeg = i) (hl : i < vs.length) {g : JFrame} (hg : g.method = m) {rest : List Value} (hs : g.stack = .ref y :: .int j :: .ref a :: rest) (hd : decode c.code g.pc = .ok (.aastore, 1)) :
    ∃ T' h', Stand p l e R s m args below meth c T' (locs ++ [⟨a, j.toNatClampNeg⟩]) cells slots ∧ T'.heap = h' ∧ Wr h h' a j.toNatClampNeg (.ref y) ∧ Arv Z h' a k (.object C) z (vs.set i (.ref y)) dv ∧ ∀ target, Steps p.tables e below (T'.setTop { g with pc := g.pc + 1, stack := rest }) target → Steps p.tables e below (T.setTop g) target := by
  obtain ⟨cl, A, q, S, N, H, G⟩ := F
  obtain ⟨T', h', X', e', W, st⟩ := stR X hx hZ eT A (inb_of S hj) rfl (Sto.ofV A q O I) hg hs hd
  exact ⟨T', h', X', e', W, Arv.set A q S N H G rfl W i hi hl, st⟩
theorem own_stC (X : Stand p l e R s m args below meth c T locs cells slots) (hx : p.tables.exec = Jvm.exec) (hZ : Z.Warmed39 s.vm) (eT : T.heap = h) {a : Addr} {k : ClassId} {z x : Int32} {vs : List Value} {dv : Value} (F : Arv Z h a k .char z vs dv) {j : Int32} (hj : ¬ j < 0 ∧ j < z) {i : Nat} (hi : j.toNatClampNeg = i) (hl : i < vs.length) {g : JFrame} (hg : g.method = m) {rest : List Value} (hs : g.stack = .int x :: .int j :: .ref a :: rest) (hd : decode c.code g.pc = .ok (.castore, 1)) :
    ∃ T' h', Stand p l e R s m args below meth c T' (locs ++ [⟨a, j.toNatClampNeg⟩]) cells slots ∧ T'.heap = h' ∧ Wr h h' a j.toNatClampNeg (.int (nar .char x)) ∧ Arv Z h' a k .char z (vs.set i (.int (nar .char x))) dv ∧ ∀ target, Steps p.tables e below (T'.setTop { g with pc := g.pc + 1, stack := rest }) target → Steps p.tables e below (T.setTop g) target := by
  obtain ⟨cl, A, q, S, N, H, G⟩ := F
  obtain ⟨T', h', X', e', W, st⟩ := stC X hx hZ eT A (inb_of S hj) hg hs hd
  exact ⟨T', h', X', e', W, Arv.set A q S N H G (fits_nar_char _) W i hi hl, st⟩
theorem own_stB (X : Stand p l e R s m args below meth c T locs cells slots) (hx : p.tables.exec = Jvm.exec) (hZ : Z.Warmed39 s.vm) (eT : T.heap = h) {a : Addr} {k : ClassId} {z x : Int32} {vs : List Value} {dv : Value} (F : Arv Z h a k .byte z vs dv) {j : Int32} (hj : ¬ j < 0 ∧ j < z) {i : Nat} (hi : j.toNatClampNeg = i) (hl : i < vs.length) {g : JFrame} (hg : g.method = m) {rest : List Value} (hs : g.stack = .int x :: .int j :: .ref a :: rest) (hd : decode c.code g.pc = .ok (.bastore, 1)) :
    ∃ T' h', Stand p l e R s m args below meth c T' (locs ++ [⟨a, j.toNatClampNeg⟩]) cells slots ∧ T'.heap = h' ∧ Wr h h' a j.toNatClampNeg (.int (nar .byte x)) ∧ Arv Z h' a k .byte z (vs.set i (.int (nar .byte x))) dv ∧ ∀ target, Steps p.tables e below (T'.setTop { g with pc := g.pc + 1, stack := rest }) target → Steps p.tables e below (T.setTop g) target := by
  obtain ⟨cl, A, q, S, N, H, G⟩ := F
  obtain ⟨T', h', X', e', W, st⟩ := stB X hx hZ eT A (inb_of S hj) hg hs hd
  exact ⟨T', h', X', e', W, Arv.set A q S N H G (fits_nar_byte _) W i hi hl, st⟩
end New
end Jvm.RoadKit
namespace Jvm.Pilot.@@N@@
open Jvm Jvm.ClassFile Sem Op Lib Jvm.Free Jvm.Stand Jvm.LawKit Jvm.RoadKit Bundle Jvm.Pilot.@@N@@.Jvm.D
abbrev oI (x : Int32) : Slot := .val (.int x)
abbrev oJ (x : Int64) : Slot := .val (.long x)
abbrev oR (a : Addr) : Slot := .val (.ref a)
abbrev oN : Slot := .val .null
abbrev oV (v : Value) : Slot := .val v
abbrev oU : Slot := .unset
abbrev oS : Slot := .second
abbrev oP (p : Program) (e : Env) (below : List Frame) (T : State) (g : JFrame) (t : State) : Prop := Steps p.tables e below (T.setTop g) t
def own_sv (Z : State) (C n d : String) : Addr := match (Term.static C n d).eval #[] Z none [] Z with | some (.ref a) => a | _ => 0
theorem own_sv_of {Z : State} {args : Array Value} {C n d : String} {a : Addr} (h : (Term.static C n d).eval args Z none [] Z = some (.ref a)) : (Term.static C n d).eval args Z none [] Z = some (.ref (own_sv Z C n d)) := by
  have h' : (Term.static C n d).eval #[] Z none [] Z = some (.ref a) := h
  rw [h]; unfold own_sv; rw [h']
theorem own_at {Z : State} {args : Array Value} {C n d K : String} (h : (Cond.exactly (Term.static C n d) K).value args Z none Z [] = some true) : (Term.static C n d).eval args Z none [] Z = some (.ref (own_sv Z C n d)) := by
  obtain ⟨a, ha⟩ := exa_v h
  exact own_sv_of ha
theorem own_sta {Z : State} {args : Array Value} {C n d K : String} (h : (Cond.exactly (Term.static C n d) K).value args Z none Z [] = some true) (hi : (Cond.initializedFor C n d).before args Z = true ∨ ((Cond.initialized C).before args Z = true ∧ (Cond.laysStatic C n d).before args Z = true)) : Sta Z Z.heap C n d (.ref (own_sv Z C n d)) := Sta.start (own_at h) hi
theorem own_exa {Z : State} {args : Array Value} {C n d K : String} (h : (Cond.exactly (Term.static C n d) K).value args Z none Z [] = some true) : Exa Z Z.heap (own_sv Z C n d) K := Exa.start (own_at h) h
theorem own_fldV {Z : State} {args : Array Value} {C n d O f fd : String} {v : Value} (h : (Term.field (Term.static C n d) O f fd).eval args Z none [] Z = some v) : Fld Z Z.heap (own_sv Z C n d) O f fd v := by
  obtain ⟨a, ha⟩ := fld_v h
  rw [fld_at (own_sv_of ha)] at h
  exact Fld.start h
theorem own_fldI {Z : State} {args : Array Value} {C n d O f fd : String} {k : Int32} (h : (Cond.eq (Term.field (Term.static C n d) O f fd) (Term.int k)).value args Z none Z [] = some true) : Fld Z Z.heap (own_sv Z C n d) O f fd (.int k) := by
  refine own_fldV (args := args) ?_
  cases hv : (Term.field (Term.static C n d) O f fd).eval args Z none [] Z with
  | none => simp [Cond.value, hv] at h
  | some v => cases v <;> simp_all [Cond.value, Term.eval]
abbrev own_Q (Q : Option Value → Heap → List Loc → Prop) (v : Option Value) (h : Heap) (L : List Loc) : Prop := Q v h L
theorem own_clamp (x : Int32) : x.toNatClampNeg = x.toInt.toNat := rfl
theorem own_and_le (x c : Int32) (hc : 0 ≤ c.toInt) : 0 ≤ (x &&& c).toInt ∧ (x &&& c).toInt ≤ c.toInt := by
  have hm : c.toBitVec.msb = false := by
    cases h : c.toBitVec.msb with
    | false => rfl
    | true =>
      have := BitVec.toInt_neg_of_msb_true h
      rw [Int32.toInt_toBitVec] at this
      omega
  have h : (x &&& c).toBitVec.msb = false := by
    rw [Int32.toBitVec_and, BitVec.msb_and, hm]; simp
  have e1 : (x &&& c).toInt = ((x &&& c).toBitVec.toNat : Int) := by
    rw [← Int32.toInt_toBitVec, BitVec.toInt_eq_toNat_of_msb h]
  have e2 : c.toInt = (c.toBitVec.toNat : Int) := by
    rw [← Int32.toInt_toBitVec, BitVec.toInt_eq_toNat_of_msb hm]
  have h3 : (x &&& c).toBitVec.toNat ≤ c.toBitVec.toNat := by
    rw [Int32.toBitVec_and, BitVec.toNat_and]; exact Nat.and_le_right
  omega
theorem own_rem {x y : Int32} (hx : 0 ≤ x.toInt) (hy : 0 < y.toInt) : (x - (x / y) * y).toInt = x.toInt % y.toInt := by
  have h1 : (x / y).toInt = x.toInt / y.toInt := by
    rw [Int32.toInt_div]
    rw [Int.tdiv_eq_ediv_of_nonneg hx]
    have := Int32.toInt_lt x
    have h2 : 0 ≤ x.toInt / y.toInt := Int.ediv_nonneg hx (by omega)
    have h3 : x.toInt / y.toInt ≤ x.toInt := Int.ediv_le_self _ hx
    apply Int.bmod_eq_of_le <;> omega
  rw [Int32.toInt_sub, Int32.toInt_mul, h1]
  have h2 : 0 ≤ x.toInt / y.toInt * y.toInt := Int.mul_nonneg (Int.ediv_nonneg hx (by omega)) (by omega)
  have h3 : x.toInt / y.toInt * y.toInt ≤ x.toInt := Int.ediv_mul_le _ (by omega)
  have h4 := Int32.toInt_lt x
  rw [Int.bmod_eq_of_le (n := x.toInt / y.toInt * y.toInt) (by omega) (by omega)]
  have h5 : x.toInt - x.toInt / y.toInt * y.toInt = x.toInt % y.toInt := by
    have := Int.emod_add_mul_ediv x.toInt y.toInt
    have h6 : x.toInt / y.toInt * y.toInt = y.toInt * (x.toInt / y.toInt) := Int.mul_comm _ _
    omega
  rw [h5]
  have h6 := Int.emod_nonneg x.toInt (b := y.toInt) (by omega)
  have h7 := Int.emod_lt_of_pos x.toInt hy
  have h8 := Int32.toInt_lt y
  apply Int.bmod_eq_of_le <;> omega
theorem own_mem {i : Int32} {n : Nat} (h0 : 0 ≤ i.toInt) (h1 : i.toInt < n) : ∃ k, k < n ∧ i = Int32.ofNat k := by
  refine ⟨i.toInt.toNat, by omega, ?_⟩
  apply Int32.toInt_inj.mp
  have := Int32.toInt_lt i
  rw [Int32.toInt_ofNat_of_lt (by omega)]
  omega
theorem own_old_le {Z : State} {n0 : Nat} {h : Heap} (O : Old Z n0 h) : n0 ≤ h.size := O.1 ▸ O.2.1
def own_Vals (Z : State) (a : Addr) (ty : FieldType) (z : Int32) (vs : List Value) (dv : Value) : Prop := ∃ cl : Cell, Arr Z Z.heap a cl ty ∧ FitC Z cl ∧ cl.slots.size = z.toNatClampNeg ∧ Has cl vs dv ∧ ∀ i, i < cl.slots.size → fits ty (vs.getD i dv) = true
theorem own_clone {Z : State} {h : Heap} {b : Addr} {cl : Cell} {ty : FieldType} {z : Int32} {vs : List Value} {dv : Value} (A : Arr Z h b (cloneOf cl) ty) (S : cl.slots.size = z.toNatClampNeg) (hz : ¬ z < 0) (H : Has cl vs dv) (G : ∀ i, i < cl.slots.size → fits ty (vs.getD i dv) = true) : Arv Z h b cl.cls ty z vs dv := ⟨_, A, rfl, S, hz, H, G⟩
theorem own_elem {Z : State} {args : Array Value} {C n d C2 n2 d2 : String} {i : Int32} {cl : Cell} {ty : FieldType} {j : Nat} (h : (Cond.eq (Term.elem (Term.static C n d) (Term.int i)) (Term.static C2 n2 d2)).value args Z none Z [] = some true) (ht : (Term.static C2 n2 d2).eval args Z none [] Z = some (.ref (own_sv Z C2 n2 d2))) (A : Arr Z Z.heap (own_sv Z C n d) cl ty) (hj : i.toNatClampNeg = j) : cl.slots[j]? = some (.ref (own_sv Z C2 n2 d2)) := by
  subst hj
  have hi : (Term.int i).eval args Z none [] Z = some (.int i) := Term.int_eval i
  cases hv : (Term.elem (Term.static C n d) (Term.int i)).eval args Z none [] Z with
  | none => simp [Cond.value, hv] at h
  | some w =>
    obtain ⟨⟨x, hx⟩, -⟩ := elem_v hv
    have h2 := (elem_in hv (own_sv_of hx) hi A.1).2
    rw [h2]
    cases w <;> simp_all [Cond.value]
theorem own_getD {P : Value → Prop} {dv : Value} (hd : P dv) : ∀ (vs : List Value) (h : ∀ v ∈ vs, P v) (i : Nat), P (vs.getD i dv)
  | [], _, _ => by simpa using hd
  | v :: vs, h, 0 => h v (List.mem_cons_self ..)
  | v :: vs, h, i + 1 => own_getD hd vs (fun w hw => h w (List.mem_cons_of_mem _ hw)) i
theorem own_vals {Z : State} {args : Array Value} {C n d C2 : String} {k : Int32} {vs : List Value} (hf : Fit Z) (h1 : (Cond.arrayOf (Term.static C n d) (.object C2)).value args Z none Z [] = some true) (h2 : (Cond.eq (Term.length (Term.static C n d)) (Term.int k)).value args Z none Z [] = some true) (hl : k.toNatClampNeg = vs.length) (hk : ¬ k < 0)
    (h3 : ∀ cl, Arr Z Z.heap (own_sv Z C n d) cl (.object C2) → HasL cl 0 vs) (h4 : ∀ v ∈ vs, fits (.object C2) v = true) : own_Vals Z (own_sv Z C n d) (.object C2) k vs .null := by
  obtain ⟨x, hx⟩ := arr_v h1
  have ev := own_sv_of hx
  obtain ⟨cl, A⟩ := Arr.start ev h1
  have hs : cl.slots.size = k.toNatClampNeg := by
    cases hv : (Term.length (Term.static C n d)).eval args Z none [] Z with
    | none => simp [Cond.value, hv] at h2
    | some w =>
      obtain ⟨a, cell, e1, e2, e3⟩ := Term.length_spec hv
      cases ev.symm.trans e1
      have e4 := A.fin (Vm.Alike.refl _)
      cases e4.symm.trans e2
      have hlt : cl.slots.size < 2 ^ 31 := SBG.length_lt ev e4 hv
      subst e3
      have e5 : cl.slots.size.toInt32 = k := by
        have hi : (Term.int k).eval args Z none [] Z = some (.int k) := Term.int_eval k
        simpa [Cond.value, hv, hi] using h2
      rw [← e5]
      have e6 := len_toInt hlt
      simp only [own_clamp]
      omega
  have H := h3 cl A
  refine ⟨cl, A, FitC.start hf A, hs, fun i hi => ?_, fun i _ => own_getD (P := fun v => fits (.object C2) v = true) rfl vs h4 i⟩
  have := HasL.at (dv := .null) vs 0 H i (by omega)
  simpa using this
theorem own_fldN {Z : State} {args : Array Value} {C n d O f fd : String} (h : (Cond.eq (Term.field (Term.static C n d) O f fd) Term.null).value args Z none Z [] = some true) : Fld Z Z.heap (own_sv Z C n d) O f fd .null := own_fldV (args := args) (null_v h)
theorem own_fldS {Z : State} {args : Array Value} {C n d O f fd C2 n2 d2 K2 : String} (h : (Cond.eq (Term.field (Term.static C n d) O f fd) (Term.static C2 n2 d2)).value args Z none Z [] = some true) (h2 : (Cond.exactly (Term.static C2 n2 d2) K2).value args Z none Z [] = some true) : Fld Z Z.heap (own_sv Z C n d) O f fd (.ref (own_sv Z C2 n2 d2)) := by
  refine own_fldV (args := args) ?_
  have e2 := own_at h2
  cases hv : (Term.field (Term.static C n d) O f fd).eval args Z none [] Z with
  | none => simp [Cond.value, hv] at h
  | some v => cases v <;> simp_all [Cond.value]
theorem own_fldL {Z : State} {args : Array Value} {C n d O f fd : String} {k : Int64} (h : (Cond.eq (Term.field (Term.static C n d) O f fd) (Term.long k)).value args Z none Z [] = some true) : Fld Z Z.heap (own_sv Z C n d) O f fd (.long k) := by
  refine own_fldV (args := args) ?_
  cases hv : (Term.field (Term.static C n d) O f fd).eval args Z none [] Z with
  | none => simp [Cond.value, hv] at h
  | some v => cases v <;> simp_all [Cond.value, Term.eval]
theorem own_staI {Z : State} {args : Array Value} {C n d : String} {k : Int32} (h : (Cond.eq (Term.static C n d) (Term.int k)).value args Z none Z [] = some true) (hi : (Cond.initializedFor C n d).before args Z = true ∨ ((Cond.initialized C).before args Z = true ∧ (Cond.laysStatic C n d).before args Z = true)) : Sta Z Z.heap C n d (.int k) := by
  refine Sta.start (args := args) ?_ hi
  cases hv : (Term.static C n d).eval args Z none [] Z with
  | none => simp [Cond.value, hv] at h
  | some v =>
    have hk : (Term.int k).eval args Z none [] Z = some (.int k) := Term.int_eval k
    cases v <;> simp_all [Cond.value]
def own_Cache (Z : State) (a : Addr) (C : String) (n : Nat) : Prop := ∃ cl : Cell, Arr Z Z.heap a cl (.object C) ∧ cl.slots.size = n ∧ ∀ j, j < n → ∃ x, cl.slots[j]? = some (.ref x) ∧ Exa Z Z.heap x C
theorem own_nsroot {Z : State} {a0 : Array Value} {O K : String} {n : Nat} (w : (Cond.noSuperclass O).before a0 Z = true) (wk : (Cond.instantiable K n).before a0 Z = true) (hn : O ≠ K) : NS Z O K := by
  obtain ⟨c, k, h1, h2, h3, -, -⟩ := Cond.noSuperclass_spec w
  obtain ⟨t, kt, g1, -⟩ := Cond.instantiable_spec wk
  have ne := ids_ne h1 g1 hn
  refine ⟨c, t, h1, g1, fun fuel => ?_⟩
  cases fuel with
  | zero => rfl
  | succ f => simp [Vm.isSubclassAux, ne, h2, h3]
theorem own_nsno {Z : State} {a0 : Array Value} {C S K : String} {n : Nat} (w : (Cond.superclass C S).before a0 Z = true) (wk : (Cond.instantiable K n).before a0 Z = true) (m : NS Z C K) (hn : C ≠ K) : ∃ c t, Z.vm.findClass C = some c ∧ Z.vm.findClass K = some t ∧ Z.vm.assignable c t = false := by
  obtain ⟨c, t, h0, g0, n3⟩ := m
  obtain ⟨p, k, kp, h1, h2, h3, h4, h5, -, h7⟩ := Cond.superclass_spec h0 w
  obtain ⟨t', k', g1, g2, g3, g4, -⟩ := Cond.instantiable_spec wk
  cases g0.symm.trans g1
  have g5 : k'.isInterface = false := by
    cases hq : k'.isInterface with
    | false => rfl
    | true => simp [hq] at g4
  have ne := ids_ne h0 g0 hn
  refine ⟨c, t, h0, g0, ?_⟩
  show Z.vm.assignableAux (255 + 1) c t = false
  simp [Vm.assignableAux, ne, h2, g2, h5, g3, g5, Vm.isSubclass, n3]
theorem own_fitsR {v : Value} {C : String} (h : v.isRef = true) : fits (.object C) v = true := by cases v <;> simp_all [Value.isRef, fits]
def own_si (Z : State) (C n d : String) : Int32 := match (Term.static C n d).eval #[] Z none [] Z with | some (.int a) => a | _ => 0
theorem own_si_of {Z : State} {args : Array Value} {C n d : String} (h : (Cond.isInt (Term.static C n d)).value args Z none Z [] = some true) : (Term.static C n d).eval args Z none [] Z = some (.int (own_si Z C n d)) := by
  obtain ⟨x, hx⟩ := is_v h
  have h' : (Term.static C n d).eval #[] Z none [] Z = some (.int x) := hx
  rw [hx]; unfold own_si; rw [h']
theorem own_sti {Z : State} {args : Array Value} {C n d : String} (h : (Cond.isInt (Term.static C n d)).value args Z none Z [] = some true) (hi : (Cond.initializedFor C n d).before args Z = true ∨ ((Cond.initialized C).before args Z = true ∧ (Cond.laysStatic C n d).before args Z = true)) : Sta Z Z.heap C n d (.int (own_si Z C n d)) := Sta.start (own_si_of h) hi
theorem own_stn {Z : State} {args : Array Value} {C n d : String} (h : (Cond.isInt (Term.static C n d)).value args Z none Z [] = some true) (hn : (Cond.not (Cond.eq (Term.static C n d) (Term.int 0))).value args Z none Z [] = some true) : ¬ own_si Z C n d = 0 := by
  have e := own_si_of h
  have h0 : (Term.int 0).eval args Z none [] Z = some (.int 0) := Term.int_eval 0
  have q := not_v hn
  intro z
  rw [z] at e
  simp [Cond.value, e, h0] at q
theorem own_char {c x : Int32} (h : c = (x &&& (255 : Int32))) : ¬ c < 0 ∧ ¬ (255 : Int32) < c := by
  have q := own_and_le x 255 (by decide)
  rw [← h] at q
  have e : (255 : Int32).toInt = 255 := by decide
  have e0 : (0 : Int32).toInt = 0 := by decide
  rw [Int32.lt_iff_toInt_lt, Int32.lt_iff_toInt_lt, e, e0]
  omega
theorem own_narc {c : Int32} (h : ¬ c < 0 ∧ ¬ (255 : Int32) < c) : nar .char c = c := by
  rw [Int32.lt_iff_toInt_lt, Int32.lt_iff_toInt_lt] at h
  have e : (255 : Int32).toInt = 255 := by decide
  have e0 : (0 : Int32).toInt = 0 := by decide
  rw [e, e0] at h
  obtain ⟨k, hk, rfl⟩ := own_mem (i := c) (n := 256) (by omega) (by omega)
  have t : ∀ k : Fin 256, nar .char (Int32.ofNat k.val) = Int32.ofNat k.val := by decide +kernel
  exact t ⟨k, hk⟩
theorem own_hb {cs : List Int32} (h : ∀ c ∈ cs, ¬ c < 0 ∧ ¬ (255 : Int32) < c) : ∀ c ∈ cs, ¬ c < 0 ∧ ¬ (65535 : Int32) < c := fun c hc => by
  have q := h c hc
  refine ⟨q.1, fun z => q.2 ?_⟩
  rw [Int32.lt_iff_toInt_lt] at z ⊢
  have e : (255 : Int32).toInt = 255 := by decide
  have e0 : (65535 : Int32).toInt = 65535 := by decide
  omega
theorem own_eqv {v : Option Value} {cs ds : List Int32} (h : (v = some (.int 1) ∧ cs = ds) ∨ (v = some (.int 0) ∧ ¬ cs = ds)) : v = some (.int (if cs = ds then (1 : Int32) else (0 : Int32))) := by
  rcases h with ⟨h1, h2⟩ | ⟨h1, h2⟩
  · rw [if_pos h2]; exact h1
  · rw [if_neg h2]; exact h1
theorem own_since (s : State) : s.Since s.vm 0 := (State.WarmedH.refl s).since 0
theorem own_rwmono {s t : State} {o : Outcome} {L : List Loc} {k n k' n' : Nat} (h : ReturnedEndW s o t L k n) (hk : k ≤ k') (hn : n ≤ n') : ReturnedEndW s o t L k' n' := ⟨h.1, h.2.1, h.2.2.1, h.2.2.2.mono hk hn⟩
theorem own_cache {Z : State} {args : Array Value} {C n d K : String} {k : Int32} {N : Nat} {rest : Cond} (h1 : (Cond.arrayOf (Term.static C n d) (.object K)).value args Z none Z [] = some true) (h2 : (Cond.eq (Term.length (Term.static C n d)) (Term.int k)).value args Z none Z [] = some true)
    (h3 : (Cond.all (Term.static C n d) (.and (.exactly (.elem (Term.static C n d) (.index 0)) K) rest)).value args Z none Z [] = some true) (hN : k.toNatClampNeg = N) : own_Cache Z (own_sv Z C n d) K N := by
  obtain ⟨x, hx⟩ := arr_v h1
  have ev := own_sv_of hx
  obtain ⟨cl, A⟩ := Arr.start ev h1
  have e4 := A.fin (Vm.Alike.refl _)
  have hs : cl.slots.size = k.toNatClampNeg ∧ cl.slots.size < 2 ^ 31 := by
    cases hv : (Term.length (Term.static C n d)).eval args Z none [] Z with
    | none => simp [Cond.value, hv] at h2
    | some w =>
      obtain ⟨a, cell, e1, e2, e3⟩ := Term.length_spec hv
      cases ev.symm.trans e1
      cases e4.symm.trans e2
      have hlt : cl.slots.size < 2 ^ 31 := SBG.length_lt ev e4 hv
      subst e3
      have e5 : cl.slots.size.toInt32 = k := by
        have hi : (Term.int k).eval args Z none [] Z = some (.int k) := Term.int_eval k
        simpa [Cond.value, hv, hi] using h2
      rw [← e5]
      have e6 := len_toInt hlt
      refine ⟨?_, hlt⟩
      simp only [own_clamp]
      omega
  refine ⟨cl, A, hs.1.trans hN, fun j hj => ?_⟩
  have q := Cond.all_elim ev e4 h3 j (by omega)
  obtain ⟨q1, -⟩ := and_e q
  obtain ⟨y, hy⟩ := exa_v q1
  have ev' : (Term.static C n d).eval args Z none [j] Z = some (.ref (own_sv Z C n d)) := ev
  have hj' : (Term.index 0).eval args Z none [j] Z = some (.int (Int32.ofNat j)) := Term.index_eval _
  have r := (elem_in hy ev' hj' A.1).2
  have e6 : (Int32.ofNat j).toNatClampNeg = j := by
    have := len_toInt (n := j) (by omega)
    simp only [own_clamp]
    have e7 : (Int32.ofNat j).toInt = j := this
    omega
  rw [e6] at r
  exact ⟨y, r, exa_at hy q1⟩
theorem own_cacheix {p : Int32} {n : Nat} {cl : Cell} (h1 : ¬ p < (-128 : Int32)) (h2 : ¬ (127 : Int32) < p) (S : cl.slots.size = 256) : ¬ (p + (128 : Int32) < 0 ∨ cl.slots.size ≤ (p + (128 : Int32)).toNatClampNeg) ∧ (p + (128 : Int32)).toNatClampNeg < 256 := by
  rw [Int32.lt_iff_toInt_lt] at h1 h2 ⊢
  have e1 : (-128 : Int32).toInt = -128 := by decide
  have e2 : (127 : Int32).toInt = 127 := by decide
  have e3 : (0 : Int32).toInt = 0 := by decide
  have e4 : (128 : Int32).toInt = 128 := by decide
  have e5 : (p + (128 : Int32)).toInt = p.toInt + 128 := by
    rw [Int32.toInt_add, e4]
    apply Int.bmod_eq_of_le <;> omega
  simp only [own_clamp]
  omega
theorem own_staA {Z : State} {args : Array Value} {C n d : String} {ty : FieldType} (h : (Cond.arrayOf (Term.static C n d) ty).value args Z none Z [] = some true) (hi : (Cond.initializedFor C n d).before args Z = true ∨ ((Cond.initialized C).before args Z = true ∧ (Cond.laysStatic C n d).before args Z = true)) : Sta Z Z.heap C n d (.ref (own_sv Z C n d)) := by
  obtain ⟨a, ha⟩ := arr_v h
  exact Sta.start (own_sv_of ha) hi
end Jvm.Pilot.@@N@@
namespace Jvm.Pilot.@@N@@
open Jvm Jvm.ClassFile Sem Op Lib Jvm.Free Jvm.Stand Jvm.LawKit Jvm.RoadKit Bundle Jvm.Pilot.@@N@@.Jvm.D
def a__VALUES (Z : State) : Addr := own_sv Z "com/example/latchwork/latchwork/Protocol$Outcome" "$VALUES" "[Lcom/example/latchwork/latchwork/Protocol$Outcome;"
def a_OK (Z : State) : Addr := own_sv Z "com/example/latchwork/latchwork/Protocol$Outcome" "OK" "Lcom/example/latchwork/latchwork/Protocol$Outcome;"
def a_INVALID (Z : State) : Addr := own_sv Z "com/example/latchwork/latchwork/Protocol$Outcome" "INVALID" "Lcom/example/latchwork/latchwork/Protocol$Outcome;"
def a_NO_SUCH_NODE (Z : State) : Addr := own_sv Z "com/example/latchwork/latchwork/Protocol$Outcome" "NO_SUCH_NODE" "Lcom/example/latchwork/latchwork/Protocol$Outcome;"
def a_LOCK_BUSY (Z : State) : Addr := own_sv Z "com/example/latchwork/latchwork/Protocol$Outcome" "LOCK_BUSY" "Lcom/example/latchwork/latchwork/Protocol$Outcome;"
def a_SESSION_EXPIRED (Z : State) : Addr := own_sv Z "com/example/latchwork/latchwork/Protocol$Outcome" "SESSION_EXPIRED" "Lcom/example/latchwork/latchwork/Protocol$Outcome;"
def a_CONDITION_FAILED (Z : State) : Addr := own_sv Z "com/example/latchwork/latchwork/Protocol$Outcome" "CONDITION_FAILED" "Lcom/example/latchwork/latchwork/Protocol$Outcome;"
def a_NOT_STORED (Z : State) : Addr := own_sv Z "com/example/latchwork/latchwork/Protocol$Outcome" "NOT_STORED" "Lcom/example/latchwork/latchwork/Protocol$Outcome;"
def a_STALE_EPOCH (Z : State) : Addr := own_sv Z "com/example/latchwork/latchwork/Protocol$Outcome" "STALE_EPOCH" "Lcom/example/latchwork/latchwork/Protocol$Outcome;"
def a_NOT_MASTER (Z : State) : Addr := own_sv Z "com/example/latchwork/latchwork/Protocol$Outcome" "NOT_MASTER" "Lcom/example/latchwork/latchwork/Protocol$Outcome;"
def a_SESSION_ENDED (Z : State) : Addr := own_sv Z "com/example/latchwork/latchwork/Protocol$Outcome" "SESSION_ENDED" "Lcom/example/latchwork/latchwork/Protocol$Outcome;"
def St (Z : State) : Prop := (Sta Z Z.heap "com/example/latchwork/latchwork/Protocol$Outcome" "$VALUES" "[Lcom/example/latchwork/latchwork/Protocol$Outcome;" (.ref (a__VALUES Z))) ∧ (Exa Z Z.heap (a__VALUES Z) "[Lcom/example/latchwork/latchwork/Protocol$Outcome;") ∧ (Sta Z Z.heap "com/example/latchwork/latchwork/Protocol$Outcome" "OK" "Lcom/example/latchwork/latchwork/Protocol$Outcome;" (.ref (a_OK Z))) ∧ (Exa Z Z.heap (a_OK Z) "com/example/latchwork/latchwork/Protocol$Outcome") ∧ (Sta Z Z.heap "com/example/latchwork/latchwork/Protocol$Outcome" "INVALID" "Lcom/example/latchwork/latchwork/Protocol$Outcome;" (.ref (a_INVALID Z))) ∧ (Exa Z Z.heap (a_INVALID Z) "com/example/latchwork/latchwork/Protocol$Outcome") ∧ (Sta Z Z.heap "com/example/latchwork/latchwork/Protocol$Outcome" "NO_SUCH_NODE" "Lcom/example/latchwork/latchwork/Protocol$Outcome;" (.ref (a_NO_SUCH_NODE Z))) ∧ (Exa Z Z.heap (a_NO_SUCH_NODE Z) "com/example/latchwork/latchwork/Protocol$Outcome") ∧ (Sta Z Z.heap "com/example/latchwork/latchwork/Protocol$Outcome" "LOCK_BUSY" "Lcom/example/latchwork/latchwork/Protocol$Outcome;" (.ref (a_LOCK_BUSY Z))) ∧ (Exa Z Z.heap (a_LOCK_BUSY Z) "com/example/latchwork/latchwork/Protocol$Outcome") ∧ (Sta Z Z.heap "com/example/latchwork/latchwork/Protocol$Outcome" "SESSION_EXPIRED" "Lcom/example/latchwork/latchwork/Protocol$Outcome;" (.ref (a_SESSION_EXPIRED Z))) ∧ (Exa Z Z.heap (a_SESSION_EXPIRED Z) "com/example/latchwork/latchwork/Protocol$Outcome") ∧ (Sta Z Z.heap "com/example/latchwork/latchwork/Protocol$Outcome" "CONDITION_FAILED" "Lcom/example/latchwork/latchwork/Protocol$Outcome;" (.ref (a_CONDITION_FAILED Z))) ∧ (Exa Z Z.heap (a_CONDITION_FAILED Z) "com/example/latchwork/latchwork/Protocol$Outcome") ∧ (Sta Z Z.heap "com/example/latchwork/latchwork/Protocol$Outcome" "NOT_STORED" "Lcom/example/latchwork/latchwork/Protocol$Outcome;" (.ref (a_NOT_STORED Z))) ∧ (Exa Z Z.heap (a_NOT_STORED Z) "com/example/latchwork/latchwork/Protocol$Outcome") ∧ (Sta Z Z.heap "com/example/latchwork/latchwork/Protocol$Outcome" "STALE_EPOCH" "Lcom/example/latchwork/latchwork/Protocol$Outcome;" (.ref (a_STALE_EPOCH Z))) ∧ (Exa Z Z.heap (a_STALE_EPOCH Z) "com/example/latchwork/latchwork/Protocol$Outcome") ∧ (Sta Z Z.heap "com/example/latchwork/latchwork/Protocol$Outcome" "NOT_MASTER" "Lcom/example/latchwork/latchwork/Protocol$Outcome;" (.ref (a_NOT_MASTER Z))) ∧ (Exa Z Z.heap (a_NOT_MASTER Z) "com/example/latchwork/latchwork/Protocol$Outcome") ∧ (Sta Z Z.heap "com/example/latchwork/latchwork/Protocol$Outcome" "SESSION_ENDED" "Lcom/example/latchwork/latchwork/Protocol$Outcome;" (.ref (a_SESSION_ENDED Z))) ∧ (Exa Z Z.heap (a_SESSION_ENDED Z) "com/example/latchwork/latchwork/Protocol$Outcome") ∧ (Fld Z Z.heap (a_OK Z) "com/example/latchwork/latchwork/Protocol$Outcome" "code" "I" (.int (0 : Int32))) ∧ (Fld Z Z.heap (a_INVALID Z) "com/example/latchwork/latchwork/Protocol$Outcome" "code" "I" (.int (1 : Int32))) ∧ (Fld Z Z.heap (a_NO_SUCH_NODE Z) "com/example/latchwork/latchwork/Protocol$Outcome" "code" "I" (.int (2 : Int32))) ∧ (Fld Z Z.heap (a_LOCK_BUSY Z) "com/example/latchwork/latchwork/Protocol$Outcome" "code" "I" (.int (3 : Int32))) ∧ (Fld Z Z.heap (a_SESSION_EXPIRED Z) "com/example/latchwork/latchwork/Protocol$Outcome" "code" "I" (.int (4 : Int32))) ∧ (Fld Z Z.heap (a_CONDITION_FAILED Z) "com/example/latchwork/latchwork/Protocol$Outcome" "code" "I" (.int (5 : Int32))) ∧ (Fld Z Z.heap (a_NOT_STORED Z) "com/example/latchwork/latchwork/Protocol$Outcome" "code" "I" (.int (6 : Int32))) ∧ (Fld Z Z.heap (a_STALE_EPOCH Z) "com/example/latchwork/latchwork/Protocol$Outcome" "code" "I" (.int (7 : Int32))) ∧ (Fld Z Z.heap (a_NOT_MASTER Z) "com/example/latchwork/latchwork/Protocol$Outcome" "code" "I" (.int (8 : Int32))) ∧ (Fld Z Z.heap (a_SESSION_ENDED Z) "com/example/latchwork/latchwork/Protocol$Outcome" "code" "I" (.int (9 : Int32))) ∧ (own_Vals Z (a__VALUES Z) (.object "com/example/latchwork/latchwork/Protocol$Outcome") (10 : Int32) [(.ref (a_OK Z)), (.ref (a_INVALID Z)), (.ref (a_NO_SUCH_NODE Z)), (.ref (a_LOCK_BUSY Z)), (.ref (a_SESSION_EXPIRED Z)), (.ref (a_CONDITION_FAILED Z)), (.ref (a_NOT_STORED Z)), (.ref (a_STALE_EPOCH Z)), (.ref (a_NOT_MASTER Z)), (.ref (a_SESSION_ENDED Z))] .null)
theorem s_a__VALUES {Z : State} (h : St Z) : Sta Z Z.heap "com/example/latchwork/latchwork/Protocol$Outcome" "$VALUES" "[Lcom/example/latchwork/latchwork/Protocol$Outcome;" (.ref (a__VALUES Z)) := h.1
theorem e_a__VALUES {Z : State} (h : St Z) : Exa Z Z.heap (a__VALUES Z) "[Lcom/example/latchwork/latchwork/Protocol$Outcome;" := h.2.1
theorem s_a_OK {Z : State} (h : St Z) : Sta Z Z.heap "com/example/latchwork/latchwork/Protocol$Outcome" "OK" "Lcom/example/latchwork/latchwork/Protocol$Outcome;" (.ref (a_OK Z)) := h.2.2.1
theorem e_a_OK {Z : State} (h : St Z) : Exa Z Z.heap (a_OK Z) "com/example/latchwork/latchwork/Protocol$Outcome" := h.2.2.2.1
theorem s_a_INVALID {Z : State} (h : St Z) : Sta Z Z.heap "com/example/latchwork/latchwork/Protocol$Outcome" "INVALID" "Lcom/example/latchwork/latchwork/Protocol$Outcome;" (.ref (a_INVALID Z)) := h.2.2.2.2.1
theorem e_a_INVALID {Z : State} (h : St Z) : Exa Z Z.heap (a_INVALID Z) "com/example/latchwork/latchwork/Protocol$Outcome" := h.2.2.2.2.2.1
theorem s_a_NO_SUCH_NODE {Z : State} (h : St Z) : Sta Z Z.heap "com/example/latchwork/latchwork/Protocol$Outcome" "NO_SUCH_NODE" "Lcom/example/latchwork/latchwork/Protocol$Outcome;" (.ref (a_NO_SUCH_NODE Z)) := h.2.2.2.2.2.2.1
theorem e_a_NO_SUCH_NODE {Z : State} (h : St Z) : Exa Z Z.heap (a_NO_SUCH_NODE Z) "com/example/latchwork/latchwork/Protocol$Outcome" := h.2.2.2.2.2.2.2.1
theorem s_a_LOCK_BUSY {Z : State} (h : St Z) : Sta Z Z.heap "com/example/latchwork/latchwork/Protocol$Outcome" "LOCK_BUSY" "Lcom/example/latchwork/latchwork/Protocol$Outcome;" (.ref (a_LOCK_BUSY Z)) := h.2.2.2.2.2.2.2.2.1
theorem e_a_LOCK_BUSY {Z : State} (h : St Z) : Exa Z Z.heap (a_LOCK_BUSY Z) "com/example/latchwork/latchwork/Protocol$Outcome" := h.2.2.2.2.2.2.2.2.2.1
theorem s_a_SESSION_EXPIRED {Z : State} (h : St Z) : Sta Z Z.heap "com/example/latchwork/latchwork/Protocol$Outcome" "SESSION_EXPIRED" "Lcom/example/latchwork/latchwork/Protocol$Outcome;" (.ref (a_SESSION_EXPIRED Z)) := h.2.2.2.2.2.2.2.2.2.2.1
theorem e_a_SESSION_EXPIRED {Z : State} (h : St Z) : Exa Z Z.heap (a_SESSION_EXPIRED Z) "com/example/latchwork/latchwork/Protocol$Outcome" := h.2.2.2.2.2.2.2.2.2.2.2.1
theorem s_a_CONDITION_FAILED {Z : State} (h : St Z) : Sta Z Z.heap "com/example/latchwork/latchwork/Protocol$Outcome" "CONDITION_FAILED" "Lcom/example/latchwork/latchwork/Protocol$Outcome;" (.ref (a_CONDITION_FAILED Z)) := h.2.2.2.2.2.2.2.2.2.2.2.2.1
theorem e_a_CONDITION_FAILED {Z : State} (h : St Z) : Exa Z Z.heap (a_CONDITION_FAILED Z) "com/example/latchwork/latchwork/Protocol$Outcome" := h.2.2.2.2.2.2.2.2.2.2.2.2.2.1
theorem s_a_NOT_STORED {Z : State} (h : St Z) : Sta Z Z.heap "com/example/latchwork/latchwork/Protocol$Outcome" "NOT_STORED" "Lcom/example/latchwork/latchwork/Protocol$Outcome;" (.ref (a_NOT_STORED Z)) := h.2.2.2.2.2.2.2.2.2.2.2.2.2.2.1
theorem e_a_NOT_STORED {Z : State} (h : St Z) : Exa Z Z.heap (a_NOT_STORED Z) "com/example/latchwork/latchwork/Protocol$Outcome" := h.2.2.2.2.2.2.2.2.2.2.2.2.2.2.2.1
theorem s_a_STALE_EPOCH {Z : State} (h : St Z) : Sta Z Z.heap "com/example/latchwork/latchwork/Protocol$Outcome" "STALE_EPOCH" "Lcom/example/latchwork/latchwork/Protocol$Outcome;" (.ref (a_STALE_EPOCH Z)) := h.2.2.2.2.2.2.2.2.2.2.2.2.2.2.2.2.1
theorem e_a_STALE_EPOCH {Z : State} (h : St Z) : Exa Z Z.heap (a_STALE_EPOCH Z) "com/example/latchwork/latchwork/Protocol$Outcome" := h.2.2.2.2.2.2.2.2.2.2.2.2.2.2.2.2.2.1
theorem s_a_NOT_MASTER {Z : State} (h : St Z) : Sta Z Z.heap "com/example/latchwork/latchwork/Protocol$Outcome" "NOT_MASTER" "Lcom/example/latchwork/latchwork/Protocol$Outcome;" (.ref (a_NOT_MASTER Z)) := h.2.2.2.2.2.2.2.2.2.2.2.2.2.2.2.2.2.2.1
theorem e_a_NOT_MASTER {Z : State} (h : St Z) : Exa Z Z.heap (a_NOT_MASTER Z) "com/example/latchwork/latchwork/Protocol$Outcome" := h.2.2.2.2.2.2.2.2.2.2.2.2.2.2.2.2.2.2.2.1
theorem s_a_SESSION_ENDED {Z : State} (h : St Z) : Sta Z Z.heap "com/example/latchwork/latchwork/Protocol$Outcome" "SESSION_ENDED" "Lcom/example/latchwork/latchwork/Protocol$Outcome;" (.ref (a_SESSION_ENDED Z)) := h.2.2.2.2.2.2.2.2.2.2.2.2.2.2.2.2.2.2.2.2.1
theorem e_a_SESSION_ENDED {Z : State} (h : St Z) : Exa Z Z.heap (a_SESSION_ENDED Z) "com/example/latchwork/latchwork/Protocol$Outcome" := h.2.2.2.2.2.2.2.2.2.2.2.2.2.2.2.2.2.2.2.2.2.1
theorem f_a_OK_code {Z : State} (h : St Z) : Fld Z Z.heap (a_OK Z) "com/example/latchwork/latchwork/Protocol$Outcome" "code" "I" (.int (0 : Int32)) := h.2.2.2.2.2.2.2.2.2.2.2.2.2.2.2.2.2.2.2.2.2.2.1
theorem f_a_INVALID_code {Z : State} (h : St Z) : Fld Z Z.heap (a_INVALID Z) "com/example/latchwork/latchwork/Protocol$Outcome" "code" "I" (.int (1 : Int32)) := h.2.2.2.2.2.2.2.2.2.2.2.2.2.2.2.2.2.2.2.2.2.2.2.1
theorem f_a_NO_SUCH_NODE_code {Z : State} (h : St Z) : Fld Z Z.heap (a_NO_SUCH_NODE Z) "com/example/latchwork/latchwork/Protocol$Outcome" "code" "I" (.int (2 : Int32)) := h.2.2.2.2.2.2.2.2.2.2.2.2.2.2.2.2.2.2.2.2.2.2.2.2.1
theorem f_a_LOCK_BUSY_code {Z : State} (h : St Z) : Fld Z Z.heap (a_LOCK_BUSY Z) "com/example/latchwork/latchwork/Protocol$Outcome" "code" "I" (.int (3 : Int32)) := h.2.2.2.2.2.2.2.2.2.2.2.2.2.2.2.2.2.2.2.2.2.2.2.2.2.1
theorem f_a_SESSION_EXPIRED_code {Z : State} (h : St Z) : Fld Z Z.heap (a_SESSION_EXPIRED Z) "com/example/latchwork/latchwork/Protocol$Outcome" "code" "I" (.int (4 : Int32)) := h.2.2.2.2.2.2.2.2.2.2.2.2.2.2.2.2.2.2.2.2.2.2.2.2.2.2.1
theorem f_a_CONDITION_FAILED_code {Z : State} (h : St Z) : Fld Z Z.heap (a_CONDITION_FAILED Z) "com/example/latchwork/latchwork/Protocol$Outcome" "code" "I" (.int (5 : Int32)) := h.2.2.2.2.2.2.2.2.2.2.2.2.2.2.2.2.2.2.2.2.2.2.2.2.2.2.2.1
theorem f_a_NOT_STORED_code {Z : State} (h : St Z) : Fld Z Z.heap (a_NOT_STORED Z) "com/example/latchwork/latchwork/Protocol$Outcome" "code" "I" (.int (6 : Int32)) := h.2.2.2.2.2.2.2.2.2.2.2.2.2.2.2.2.2.2.2.2.2.2.2.2.2.2.2.2.1
theorem f_a_STALE_EPOCH_code {Z : State} (h : St Z) : Fld Z Z.heap (a_STALE_EPOCH Z) "com/example/latchwork/latchwork/Protocol$Outcome" "code" "I" (.int (7 : Int32)) := h.2.2.2.2.2.2.2.2.2.2.2.2.2.2.2.2.2.2.2.2.2.2.2.2.2.2.2.2.2.1
theorem f_a_NOT_MASTER_code {Z : State} (h : St Z) : Fld Z Z.heap (a_NOT_MASTER Z) "com/example/latchwork/latchwork/Protocol$Outcome" "code" "I" (.int (8 : Int32)) := h.2.2.2.2.2.2.2.2.2.2.2.2.2.2.2.2.2.2.2.2.2.2.2.2.2.2.2.2.2.2.1
theorem f_a_SESSION_ENDED_code {Z : State} (h : St Z) : Fld Z Z.heap (a_SESSION_ENDED Z) "com/example/latchwork/latchwork/Protocol$Outcome" "code" "I" (.int (9 : Int32)) := h.2.2.2.2.2.2.2.2.2.2.2.2.2.2.2.2.2.2.2.2.2.2.2.2.2.2.2.2.2.2.2.1
theorem v_a__VALUES {Z : State} (h : St Z) : own_Vals Z (a__VALUES Z) (.object "com/example/latchwork/latchwork/Protocol$Outcome") (10 : Int32) [(.ref (a_OK Z)), (.ref (a_INVALID Z)), (.ref (a_NO_SUCH_NODE Z)), (.ref (a_LOCK_BUSY Z)), (.ref (a_SESSION_EXPIRED Z)), (.ref (a_CONDITION_FAILED Z)), (.ref (a_NOT_STORED Z)), (.ref (a_STALE_EPOCH Z)), (.ref (a_NOT_MASTER Z)), (.ref (a_SESSION_ENDED Z))] .null := h.2.2.2.2.2.2.2.2.2.2.2.2.2.2.2.2.2.2.2.2.2.2.2.2.2.2.2.2.2.2.2.2
theorem d2_0 : decode prog_119_method_1_code 0 = .ok (.getstatic 34, 3) := by decide +kernel
theorem d2_3 : decode prog_119_method_1_code 3 = .ok (.invokevirtual 38, 3) := by decide +kernel
theorem d2_6 : decode prog_119_method_1_code 6 = .ok (.checkcast 39, 3) := by decide +kernel
theorem d2_9 : decode prog_119_method_1_code 9 = .ok (.areturn, 1) := by decide +kernel
theorem ef_2 (m : MethodId)  : entryFrame m #[] 0 = mkF m 0 #[] [] := by first | (simp [entryFrame, mkF, argsToLocals, Value.category]; done) | rfl
theorem pn_0 : plainName "com/example/latchwork/latchwork/Protocol$Outcome" = true := by first | (simp [plainName, overriddenIn]; done) | decide +kernel
set_option maxRecDepth 65536 in
set_option maxHeartbeats 40000000 in
theorem rm2 (l : Launch) (Z : State) (a0 : Array Value) (hw : ∀ d ∈ tables_1, d.before a0 Z = true) (hS : St Z) (ws : List Jvm.Cond)  (h0 : Heap) (n0 : Nat) (O0 : Old Z n0 h0) :
    MetFree l (⟨"com/example/latchwork/latchwork/Protocol$Outcome", "values", "()[Lcom/example/latchwork/latchwork/Protocol$Outcome;"⟩ : MethodName) (head1 (Jvm.Cond.code (⟨"com/example/latchwork/latchwork/Protocol$Outcome", "values", "()[Lcom/example/latchwork/latchwork/Protocol$Outcome;"⟩ : MethodName) prog_119_method_1_code 0 (some (.array (.object "com/example/latchwork/latchwork/Protocol$Outcome"))) :: ws) ({ frames := 1, cells := 1, slots := 10, locals := 14 } : Room)) (fun a U => a = #[] ∧ Z.Warmed39 U.vm ∧ U.heap = h0) (fun _ _ _ _ _ => True) (fun _ U o U' => ∃ v L, o = .returned v ∧ own_Q (fun v hE L => ∃ (b : Addr), ∃ (kb : ClassId), v = some (.ref b) ∧ Fr n0 L ∧ Keep h0 hE [] ∧ h0.size ≤ b ∧ Arv Z hE b kb (.object "com/example/latchwork/latchwork/Protocol$Outcome") (10 : Int32) [(.ref (a_OK Z)), (.ref (a_INVALID Z)), (.ref (a_NO_SUCH_NODE Z)), (.ref (a_LOCK_BUSY Z)), (.ref (a_SESSION_EXPIRED Z)), (.ref (a_CONDITION_FAILED Z)), (.ref (a_NOT_STORED Z)), (.ref (a_STALE_EPOCH Z)), (.ref (a_NOT_MASTER Z)), (.ref (a_SESSION_ENDED Z))] .null) v U'.heap L ∧ FrameEnd U o U' L ({ frames := 1, cells := 1, slots := 10, locals := 14 } : Room).cells ({ frames := 1, cells := 1, slots := 10, locals := 14 } : Room).slots) := by
  refine MetFree.of_bodySF (plainFor_of_name pn_0) hisR ?_
  intro p e s m args below meth c s₁ Bd hml0 hP hK
  obtain ⟨rfl, hZ, hh⟩ := hP
  have hx := Bd.exec
  have hby := Bd.bytes
  have hml : c.maxLocals = 0 := hml0
  have hown : s.vm.findClass "com/example/latchwork/latchwork/Protocol$Outcome" = some m.cls := findClass_of_methodNamed Bd.named
  have hnm := (name_of_methodNamed Bd.named Bd.method).1
  have X0 : Stand p l e ({ frames := 1, cells := 1, slots := 10, locals := 14 } : Room) s m #[] below meth c s₁ [] 0 0 := Stand.of_body Bd
  have e0 : s₁.heap = h0 := by rw [← hh, Bd.state]; rfl
  have N0 := Fr.nil n0
  have pre0 : ∀ t, Steps p.tables e below (s₁.setTop (mkF m 0 #[] [])) t → Steps p.tables e below (s₁.setTop (entryFrame m #[] 0)) t := fun t k => castTop (ef_2 m ) k
  obtain ⟨cl, Ac, Fc, Sc, Hc, Gc⟩ := v_a__VALUES hS
  obtain ⟨T1, X1, e1, st1⟩ := getS2 X0 hx hZ hown (host := "") (Or.inl (hw _ (List.mem_of_getElem? (i := 8) rfl))) Via.refl e0 ((s_a__VALUES hS).ext O0.2) (g := (mkF m 0 #[] [])) rfl (hb hby d2_0)
  obtain ⟨T2, h2, X2, e2, E2, A2, Ex2, st2⟩ := cloneA X1 hx hZ hown (hw _ (List.mem_of_getElem? (i := 10) rfl)) (hw _ (List.mem_of_getElem? (i := 11) rfl)) (hw _ (List.mem_of_getElem? (i := 15) rfl)) (hw _ (List.mem_of_getElem? (i := 13) rfl)) (hw _ (List.mem_of_getElem? (i := 14) rfl)) (hw _ (List.mem_of_getElem? (i := 16) rfl)) e1 ((Ac).ext O0.2) ((e_a__VALUES hS).ext O0.2) Fc (g := (mkF m 3 #[] [(.ref (a__VALUES Z))])) rfl (by rw [hml]; rfl) rfl (hb hby d2_3) (by decide) (W := 0) (cap := 10) (by show 2 * 0 + _ ≤ _; exact Nat.le_of_eq rfl) (by decide) (Nat.le_of_eq Sc) (by decide) (by decide)
  obtain ⟨b2, g2⟩ : ∃ z, z = h0.size := ⟨_, rfl⟩
  have g_b2 : n0 ≤ b2 := Nat.le_trans (own_old_le O0) (Nat.le_of_eq g2.symm)
  have sz_b2 : h0.size ≤ b2 := Nat.le_trans (Keep.refl h0 []).1 (Nat.le_of_eq g2.symm)
  rw [← g2] at A2 Ex2 st2
  have O2 := O0.ext E2
  have Kc2 := (Keep.refl h0 []).ext E2
  have V2 : Arv Z h2 b2 cl.cls (.object "com/example/latchwork/latchwork/Protocol$Outcome") (10 : Int32) [(.ref (a_OK Z)), (.ref (a_INVALID Z)), (.ref (a_NO_SUCH_NODE Z)), (.ref (a_LOCK_BUSY Z)), (.ref (a_SESSION_EXPIRED Z)), (.ref (a_CONDITION_FAILED Z)), (.ref (a_NOT_STORED Z)), (.ref (a_STALE_EPOCH Z)), (.ref (a_NOT_MASTER Z)), (.ref (a_SESSION_ENDED Z))] .null := own_clone A2 Sc (by decide) Hc Gc
  obtain ⟨T3, X3, e3, st3⟩ := castY X2 hx hZ hown (hw _ (List.mem_of_getElem? (i := 28) rfl)) e2 (Ins.of_exa Ex2 (hw _ (List.mem_of_getElem? (i := 29) rfl))) (g := (mkF m 6 #[] [(.ref b2)])) rfl rfl (hb hby d2_6)
  obtain ⟨fs, hr, hrun, hended, hW, hsame⟩ := X3.leave (v := some (.ref b2)) (fun h => by rw [Bd.returns] at h; cases h)
  refine ⟨_, _, pre0 _ ?_, hrun, hended, _, _, rfl, ?_, ⟨_, rfl⟩, hW, hsame.mono (by decide) (by decide)⟩
  · show oP p e below s₁ (mkF m 0 #[] []) _
    refine st1 _ ?_
    show oP p e below T1 (mkF m 3 #[] [(.ref (a__VALUES Z))]) _
    refine st2 _ ?_
    show oP p e below T2 (mkF m 6 #[] [(.ref b2)]) _
    refine st3 _ ?_
    show oP p e below T3 (mkF m 9 #[] [(.ref b2)]) _
    exact own_retA X3 hx Bd.returns rfl rfl (hb hby d2_9) hr
  · show ∃ (b : Addr), ∃ (kb : ClassId), (some (.ref b2) : Option Value) = some (.ref b) ∧ Fr n0 _ ∧ Keep h0 T3.heap [] ∧ h0.size ≤ b ∧ Arv Z T3.heap b kb (.object "com/example/latchwork/latchwork/Protocol$Outcome") (10 : Int32) [(.ref (a_OK Z)), (.ref (a_INVALID Z)), (.ref (a_NO_SUCH_NODE Z)), (.ref (a_LOCK_BUSY Z)), (.ref (a_SESSION_EXPIRED Z)), (.ref (a_CONDITION_FAILED Z)), (.ref (a_NOT_STORED Z)), (.ref (a_STALE_EPOCH Z)), (.ref (a_NOT_MASTER Z)), (.ref (a_SESSION_ENDED Z))] .null
    rw [e3]
    exact ⟨b2, cl.cls, rfl, N0, Kc2, sz_b2, V2⟩
theorem d1_0 : decode prog_119_method_6_code 0 = .ok (.invokestatic 61, 3) := by decide +kernel
theorem pd_0 : parseMethodDescriptor "()[Lcom/example/latchwork/latchwork/Protocol$Outcome;" = some ⟨[], some (.array (.object "com/example/latchwork/latchwork/Protocol$Outcome"))⟩ := by decide +kernel
theorem d1_3 : decode prog_119_method_6_code 3 = .ok (.astore_n 1, 1) := by decide +kernel
theorem d1_4 : decode prog_119_method_6_code 4 = .ok (.aload_n 1, 1) := by decide +kernel
theorem d1_5 : decode prog_119_method_6_code 5 = .ok (.arraylength, 1) := by decide +kernel
theorem d1_6 : decode prog_119_method_6_code 6 = .ok (.istore_n 2, 1) := by decide +kernel
theorem d1_7 : decode prog_119_method_6_code 7 = .ok (.iconst 0, 1) := by decide +kernel
theorem d1_8 : decode prog_119_method_6_code 8 = .ok (.istore_n 3, 1) := by decide +kernel
theorem d1_9 : decode prog_119_method_6_code 9 = .ok (.iload_n 3, 1) := by decide +kernel
theorem d1_10 : decode prog_119_method_6_code 10 = .ok (.iload_n 2, 1) := by decide +kernel
theorem d1_11 : decode prog_119_method_6_code 11 = .ok (.if_icmp .ge 26, 3) := by decide +kernel
theorem d1_14 : decode prog_119_method_6_code 14 = .ok (.aload_n 1, 1) := by decide +kernel
theorem d1_15 : decode prog_119_method_6_code 15 = .ok (.iload_n 3, 1) := by decide +kernel
theorem d1_16 : decode prog_119_method_6_code 16 = .ok (.aaload, 1) := by decide +kernel
theorem d1_17 : decode prog_119_method_6_code 17 = .ok (.astore 4, 2) := by decide +kernel
theorem d1_19 : decode prog_119_method_6_code 19 = .ok (.aload 4, 2) := by decide +kernel
theorem d1_21 : decode prog_119_method_6_code 21 = .ok (.getfield 53, 3) := by decide +kernel
theorem d1_24 : decode prog_119_method_6_code 24 = .ok (.iload_n 0, 1) := by decide +kernel
theorem d1_25 : decode prog_119_method_6_code 25 = .ok (.if_icmp .ne 6, 3) := by decide +kernel
theorem d1_28 : decode prog_119_method_6_code 28 = .ok (.aload 4, 2) := by decide +kernel
theorem d1_30 : decode prog_119_method_6_code 30 = .ok (.areturn, 1) := by decide +kernel
theorem d1_31 : decode prog_119_method_6_code 31 = .ok (.iinc 3 1, 3) := by decide +kernel
theorem d1_34 : decode prog_119_method_6_code 34 = .ok (.goto (-25), 3) := by decide +kernel
theorem ab35 {Z : State} (hS : St Z) (p0 : Int32) (hp : p0 = (0 : Int32) ∨ p0 = (1 : Int32) ∨ p0 = (2 : Int32) ∨ p0 = (3 : Int32) ∨ p0 = (4 : Int32) ∨ p0 = (5 : Int32) ∨ p0 = (6 : Int32) ∨ p0 = (7 : Int32) ∨ p0 = (8 : Int32) ∨ p0 = (9 : Int32)) (hc7 : ¬ ((0 : Int32) = p0)) (hc10 : ¬ ((1 : Int32) = p0)) (hc13 : ¬ ((2 : Int32) = p0)) (hc16 : ¬ ((3 : Int32) = p0)) (hc19 : ¬ ((4 : Int32) = p0)) (hc22 : ¬ ((5 : Int32) = p0)) (hc25 : ¬ ((6 : Int32) = p0)) (hc28 : ¬ ((7 : Int32) = p0)) (hc31 : ¬ ((8 : Int32) = p0)) (hc34 : ¬ ((9 : Int32) = p0)) : False := by
  rcases hp with rfl | rfl | rfl | rfl | rfl | rfl | rfl | rfl | rfl | rfl <;> simp_all
def fn1 (Z : State) (p0 : Int32) : Addr :=
  if (0 : Int32) = p0 then
    (a_OK Z)
  else
    if (1 : Int32) = p0 then
      (a_INVALID Z)
    else
      if (2 : Int32) = p0 then
        (a_NO_SUCH_NODE Z)
      else
        if (3 : Int32) = p0 then
          (a_LOCK_BUSY Z)
        else
          if (4 : Int32) = p0 then
            (a_SESSION_EXPIRED Z)
          else
            if (5 : Int32) = p0 then
              (a_CONDITION_FAILED Z)
            else
              if (6 : Int32) = p0 then
                (a_NOT_STORED Z)
              else
                if (7 : Int32) = p0 then
                  (a_STALE_EPOCH Z)
                else
                  if (8 : Int32) = p0 then
                    (a_NOT_MASTER Z)
                  else
                    if (9 : Int32) = p0 then
                      (a_SESSION_ENDED Z)
                    else
                      0
theorem ef_1 (m : MethodId) (x0 : Int32) : entryFrame m #[(.int x0)] 5 = mkF m 0 #[.val (.int x0), .unset, .unset, .unset, .unset] [] := by first | (simp [entryFrame, mkF, argsToLocals, Value.category]; done) | rfl
set_option maxRecDepth 65536 in
set_option maxHeartbeats 40000000 in
theorem rm1 (l : Launch) (Z : State) (a0 : Array Value) (hw : ∀ d ∈ tables_1, d.before a0 Z = true) (hS : St Z) (ws : List Jvm.Cond) (p0 : Int32) (h0 : Heap) (n0 : Nat) (O0 : Old Z n0 h0) (hp : p0 = (0 : Int32) ∨ p0 = (1 : Int32) ∨ p0 = (2 : Int32) ∨ p0 = (3 : Int32) ∨ p0 = (4 : Int32) ∨ p0 = (5 : Int32) ∨ p0 = (6 : Int32) ∨ p0 = (7 : Int32) ∨ p0 = (8 : Int32) ∨ p0 = (9 : Int32)) :
    MetFree l (⟨"com/example/latchwork/latchwork/Protocol$Outcome", "of", "(I)Lcom/example/latchwork/latchwork/Protocol$Outcome;"⟩ : MethodName) (head1 (Jvm.Cond.code (⟨"com/example/latchwork/latchwork/Protocol$Outcome", "of", "(I)Lcom/example/latchwork/latchwork/Protocol$Outcome;"⟩ : MethodName) prog_119_method_6_code 5 (some (.object "com/example/latchwork/latchwork/Protocol$Outcome")) :: ws) ({ frames := 2, cells := 1, slots := 10, locals := 25 } : Room)) (fun a U => a = #[(.int p0)] ∧ Z.Warmed39 U.vm ∧ U.heap = h0) (fun _ _ _ _ _ => True) (fun _ U o U' => ∃ v L, o = .returned v ∧ own_Q (fun v hE L => v = some (.ref (fn1 Z p0)) ∧ Fr n0 L ∧ Keep h0 hE []) v U'.heap L ∧ FrameEnd U o U' L ({ frames := 2, cells := 1, slots := 10, locals := 25 } : Room).cells ({ frames := 2, cells := 1, slots := 10, locals := 25 } : Room).slots) := by
  refine MetFree.of_bodySF (plainFor_of_name pn_0) hisR ?_
  intro p e s m args below meth c s₁ Bd hml0 hP hK
  obtain ⟨rfl, hZ, hh⟩ := hP
  have hx := Bd.exec
  have hby := Bd.bytes
  have hml : c.maxLocals = 5 := hml0
  have hown : s.vm.findClass "com/example/latchwork/latchwork/Protocol$Outcome" = some m.cls := findClass_of_methodNamed Bd.named
  have hnm := (name_of_methodNamed Bd.named Bd.method).1
  have X0 : Stand p l e ({ frames := 2, cells := 1, slots := 10, locals := 25 } : Room) s m #[(.int p0)] below meth c s₁ [] 0 0 := Stand.of_body Bd
  have e0 : s₁.heap = h0 := by rw [← hh, Bd.state]; rfl
  have N0 := Fr.nil n0
  have pre0 : ∀ t, Steps p.tables e below (s₁.setTop (mkF m 0 #[oI p0, oU, oU, oU, oU] [])) t → Steps p.tables e below (s₁.setTop (entryFrame m #[(.int p0)] 5)) t := fun t k => castTop (ef_1 m p0) k
  obtain ⟨_, _, ⟨T4, L4, k4, n4⟩, -, X4, ⟨Lc4, hQ4, l4, y4, z4⟩, st4⟩ := Jvm.LawKit.callS X0 hx (y := (⟨"com/example/latchwork/latchwork/Protocol$Outcome", "values", "()[Lcom/example/latchwork/latchwork/Protocol$Outcome;"⟩ : MethodName)) hown (mvT hZ (hw _ (List.mem_of_getElem? (i := 5) rfl))) (mvT hZ (hw _ (List.mem_of_getElem? (i := 6) rfl))) (mvT hZ (hw _ (List.mem_of_getElem? (i := 3) rfl))) (mvT hZ (hw _ (List.mem_of_getElem? (i := 7) rfl))) (by decide) (backOf (W := 0) (rm2 l Z a0 hw hS []  h0 n0 O0 ) hZ (hw _ (List.mem_of_getElem? (i := 7) rfl)) (hw _ (List.mem_of_getElem? (i := 3) rfl)) (by decide) (by decide)) (g := (mkF m 0 #[oI p0, oU, oU, oU, oU] [])) rfl (by rw [hml]; rfl) (argsL := []) (rest := []) (lenOf pd_0 rfl) rfl (by show 2 * 0 + _ ≤ _; exact Nat.le_of_eq rfl) (hb hby d1_0) (fun _ _ => ⟨rfl, e0, (by decide : 0 + 1 ≤ _), (by decide : 0 + 10 ≤ _)⟩)
  dsimp only [Pt.U, Pt.locs, Pt.cells, Pt.slots] at X4 l4 y4 z4 st4 hQ4
  subst l4 y4 z4
  obtain ⟨b_4, kb_4, v4, N4q, K4q, po4_0, po4_1⟩ := hQ4
  subst v4
  have N4 := Fr.app N0 N4q
  have O4 := O0.keep K4q all0
  have Kc4 := (Keep.refl h0 []).trans K4q all0
  have g_b_4 : n0 ≤ b_4 := Nat.le_trans (own_old_le O0) po4_0
  have sz_b_4 : h0.size ≤ b_4 := Nat.le_trans (Keep.refl h0 []).1 po4_0
  obtain ⟨T5, X5, e5, st5⟩ := getF X4 hx hZ hown (host := "") (Or.inl (hw _ (List.mem_of_getElem? (i := 30) rfl))) Via.refl rfl ((f_a_OK_code hS).ext O4.2) (g := (mkF m 21 #[oI p0, oR b_4, oI (10 : Int32), oI (0 : Int32), oR (a_OK Z)] [(.ref (a_OK Z))])) rfl rfl (hb hby d1_21)
  have pre6 : ∀ t, oP p e below T5 (mkF m 25 #[oI p0, oR b_4, oI (10 : Int32), oI (0 : Int32), oR (a_OK Z)] [(.int p0), (.int (0 : Int32))]) t → oP p e below s₁ (entryFrame m #[(.int p0)] 5) t := fun t k => pre0 t (by
    show oP p e below s₁ (mkF m 0 #[oI p0, oU, oU, oU, oU] []) _
    refine st4 _ ?_
    show oP p e below T4 (mkF m 3 #[oI p0, oU, oU, oU, oU] [(.ref b_4)]) _
    refine XS.astoreN X4.here hx rfl (hb hby d1_3) rfl rfl (l' := #[oI p0, oR b_4, oU, oU, oU]) rfl ?_
    show oP p e below T4 (mkF m 4 #[oI p0, oR b_4, oU, oU, oU] []) _
    refine XS.aloadN X4.here hx rfl (hb hby d1_4) rfl rfl ?_
    show oP p e below T4 (mkF m 5 #[oI p0, oR b_4, oU, oU, oU] [(.ref b_4)]) _
    refine own_len X4 hx hZ rfl po4_1 (g := (mkF m 5 #[oI p0, oR b_4, oU, oU, oU] [(.ref b_4)])) rfl rfl (hb hby d1_5) _ ?_
    show oP p e below T4 (mkF m 6 #[oI p0, oR b_4, oU, oU, oU] [(.int (10 : Int32))]) _
    refine XS.istoreN X4.here hx rfl (hb hby d1_6) rfl (l' := #[oI p0, oR b_4, oI (10 : Int32), oU, oU]) rfl ?_
    show oP p e below T4 (mkF m 7 #[oI p0, oR b_4, oI (10 : Int32), oU, oU] []) _
    refine XS.iconst X4.here hx rfl (hb hby d1_7) ?_
    show oP p e below T4 (mkF m 8 #[oI p0, oR b_4, oI (10 : Int32), oU, oU] [(.int (0 : Int32))]) _
    refine XS.istoreN X4.here hx rfl (hb hby d1_8) rfl (l' := #[oI p0, oR b_4, oI (10 : Int32), oI (0 : Int32), oU]) rfl ?_
    show oP p e below T4 (mkF m 9 #[oI p0, oR b_4, oI (10 : Int32), oI (0 : Int32), oU] []) _
    refine XS.iloadN X4.here hx rfl (hb hby d1_9) rfl ?_
    show oP p e below T4 (mkF m 10 #[oI p0, oR b_4, oI (10 : Int32), oI (0 : Int32), oU] [(.int (0 : Int32))]) _
    refine XS.iloadN X4.here hx rfl (hb hby d1_10) rfl ?_
    show oP p e below T4 (mkF m 11 #[oI p0, oR b_4, oI (10 : Int32), oI (0 : Int32), oU] [(.int (10 : Int32)), (.int (0 : Int32))]) _
    refine XS.icmpNo X4.here hx rfl (hb hby d1_11) rfl (tlt (by decide : (0 : Int32) < (10 : Int32))).2.1 ?_
    show oP p e below T4 (mkF m 14 #[oI p0, oR b_4, oI (10 : Int32), oI (0 : Int32), oU] []) _
    refine XS.aloadN X4.here hx rfl (hb hby d1_14) rfl rfl ?_
    show oP p e below T4 (mkF m 15 #[oI p0, oR b_4, oI (10 : Int32), oI (0 : Int32), oU] [(.ref b_4)]) _
    refine XS.iloadN X4.here hx rfl (hb hby d1_15) rfl ?_
    show oP p e below T4 (mkF m 16 #[oI p0, oR b_4, oI (10 : Int32), oI (0 : Int32), oU] [(.int (0 : Int32)), (.ref b_4)]) _
    refine own_aaload X4 hx hZ rfl po4_1 rfl (j := (0 : Int32)) ⟨by decide, by decide⟩ (v := (.ref (a_OK Z))) rfl (g := (mkF m 16 #[oI p0, oR b_4, oI (10 : Int32), oI (0 : Int32), oU] [(.int (0 : Int32)), (.ref b_4)])) rfl rfl (hb hby d1_16) _ ?_
    show oP p e below T4 (mkF m 17 #[oI p0, oR b_4, oI (10 : Int32), oI (0 : Int32), oU] [(.ref (a_OK Z))]) _
    refine XS.astore X4.here hx rfl (hb hby d1_17) rfl rfl (l' := #[oI p0, oR b_4, oI (10 : Int32), oI (0 : Int32), oR (a_OK Z)]) rfl ?_
    show oP p e below T4 (mkF m 19 #[oI p0, oR b_4, oI (10 : Int32), oI (0 : Int32), oR (a_OK Z)] []) _
    refine XS.aload X4.here hx rfl (hb hby d1_19) rfl rfl ?_
    show oP p e below T4 (mkF m 21 #[oI p0, oR b_4, oI (10 : Int32), oI (0 : Int32), oR (a_OK Z)] [(.ref (a_OK Z))]) _
    refine st5 _ ?_
    show oP p e below T5 (mkF m 24 #[oI p0, oR b_4, oI (10 : Int32), oI (0 : Int32), oR (a_OK Z)] [(.int (0 : Int32))]) _
    refine XS.iloadN X5.here hx rfl (hb hby d1_24) rfl ?_
    exact k)
  by_cases hc7 : (0 : Int32) = p0
  · obtain ⟨fs, hr, hrun, hended, hW, hsame⟩ := X5.leave (v := some (.ref (a_OK Z))) (fun h => by rw [Bd.returns] at h; cases h)
    refine ⟨_, _, pre6 _ ?_, hrun, hended, _, _, rfl, ?_, ⟨_, rfl⟩, hW, hsame.mono (by decide) (by decide)⟩
    · show oP p e below T5 (mkF m 25 #[oI p0, oR b_4, oI (10 : Int32), oI (0 : Int32), oR (a_OK Z)] [(.int p0), (.int (0 : Int32))]) _
      refine XS.icmpNo X5.here hx rfl (hb hby d1_25) rfl (teq hc7).2 ?_
      show oP p e below T5 (mkF m 28 #[oI p0, oR b_4, oI (10 : Int32), oI (0 : Int32), oR (a_OK Z)] []) _
      refine XS.aload X5.here hx rfl (hb hby d1_28) rfl rfl ?_
      show oP p e below T5 (mkF m 30 #[oI p0, oR b_4, oI (10 : Int32), oI (0 : Int32), oR (a_OK Z)] [(.ref (a_OK Z))]) _
      exact own_retA X5 hx Bd.returns rfl rfl (hb hby d1_30) hr
    · show (some (.ref (a_OK Z)) : Option Value) = some (.ref (fn1 Z p0)) ∧ Fr n0 _ ∧ Keep h0 T5.heap []
      rw [e5]
      refine ⟨?_, N4, Kc4⟩
      unfold fn1
      rw [if_pos hc7]
  · obtain ⟨T8, X8, e8, st8⟩ := getF X5 hx hZ hown (host := "") (Or.inl (hw _ (List.mem_of_getElem? (i := 30) rfl))) Via.refl e5 ((f_a_INVALID_code hS).ext O4.2) (g := (mkF m 21 #[oI p0, oR b_4, oI (10 : Int32), oI (1 : Int32), oR (a_INVALID Z)] [(.ref (a_INVALID Z))])) rfl rfl (hb hby d1_21)
    have pre9 : ∀ t, oP p e below T8 (mkF m 25 #[oI p0, oR b_4, oI (10 : Int32), oI (1 : Int32), oR (a_INVALID Z)] [(.int p0), (.int (1 : Int32))]) t → oP p e below s₁ (entryFrame m #[(.int p0)] 5) t := fun t k => pre6 t (by
      show oP p e below T5 (mkF m 25 #[oI p0, oR b_4, oI (10 : Int32), oI (0 : Int32), oR (a_OK Z)] [(.int p0), (.int (0 : Int32))]) _
      refine XS.icmpYes X5.here hx rfl (pc0 := 25) (pc' := 31) rfl (hb hby d1_25) rfl (feq hc7).2 (by decide) (by decide) ?_
      show oP p e below T5 (mkF m 31 #[oI p0, oR b_4, oI (10 : Int32), oI (0 : Int32), oR (a_OK Z)] []) _
      refine XS.iinc X5.here hx rfl (hb hby d1_31) rfl (l' := #[oI p0, oR b_4, oI (10 : Int32), oI (1 : Int32), oR (a_OK Z)]) rfl ?_
      show oP p e below T5 (mkF m 34 #[oI p0, oR b_4, oI (10 : Int32), oI (1 : Int32), oR (a_OK Z)] []) _
      refine XS.goto X5.here hx rfl (pc0 := 34) (pc' := 9) rfl (hb hby d1_34) (by decide) (by decide) ?_
      show oP p e below T5 (mkF m 9 #[oI p0, oR b_4, oI (10 : Int32), oI (1 : Int32), oR (a_OK Z)] []) _
      refine XS.iloadN X5.here hx rfl (hb hby d1_9) rfl ?_
      show oP p e below T5 (mkF m 10 #[oI p0, oR b_4, oI (10 : Int32), oI (1 : Int32), oR (a_OK Z)] [(.int (1 : Int32))]) _
      refine XS.iloadN X5.here hx rfl (hb hby d1_10) rfl ?_
      show oP p e below T5 (mkF m 11 #[oI p0, oR b_4, oI (10 : Int32), oI (1 : Int32), oR (a_OK Z)] [(.int (10 : Int32)), (.int (1 : Int32))]) _
      refine XS.icmpNo X5.here hx rfl (hb hby d1_11) rfl (tlt (by decide : (1 : Int32) < (10 : Int32))).2.1 ?_
      show oP p e below T5 (mkF m 14 #[oI p0, oR b_4, oI (10 : Int32), oI (1 : Int32), oR (a_OK Z)] []) _
      refine XS.aloadN X5.here hx rfl (hb hby d1_14) rfl rfl ?_
      show oP p e below T5 (mkF m 15 #[oI p0, oR b_4, oI (10 : Int32), oI (1 : Int32), oR (a_OK Z)] [(.ref b_4)]) _
      refine XS.iloadN X5.here hx rfl (hb hby d1_15) rfl ?_
      show oP p e below T5 (mkF m 16 #[oI p0, oR b_4, oI (10 : Int32), oI (1 : Int32), oR (a_OK Z)] [(.int (1 : Int32)), (.ref b_4)]) _
      refine own_aaload X5 hx hZ e5 po4_1 rfl (j := (1 : Int32)) ⟨by decide, by decide⟩ (v := (.ref (a_INVALID Z))) rfl (g := (mkF m 16 #[oI p0, oR b_4, oI (10 : Int32), oI (1 : Int32), oR (a_OK Z)] [(.int (1 : Int32)), (.ref b_4)])) rfl rfl (hb hby d1_16) _ ?_
      show oP p e below T5 (mkF m 17 #[oI p0, oR b_4, oI (10 : Int32), oI (1 : Int32), oR (a_OK Z)] [(.ref (a_INVALID Z))]) _
      refine XS.astore X5.here hx rfl (hb hby d1_17) rfl rfl (l' := #[oI p0, oR b_4, oI (10 : Int32), oI (1 : Int32), oR (a_INVALID Z)]) rfl ?_
      show oP p e below T5 (mkF m 19 #[oI p0, oR b_4, oI (10 : Int32), oI (1 : Int32), oR (a_INVALID Z)] []) _
      refine XS.aload X5.here hx rfl (hb hby d1_19) rfl rfl ?_
      show oP p e below T5 (mkF m 21 #[oI p0, oR b_4, oI (10 : Int32), oI (1 : Int32), oR (a_INVALID Z)] [(.ref (a_INVALID Z))]) _
      refine st8 _ ?_
      show oP p e below T8 (mkF m 24 #[oI p0, oR b_4, oI (10 : Int32), oI (1 : Int32), oR (a_INVALID Z)] [(.int (1 : Int32))]) _
      refine XS.iloadN X8.here hx rfl (hb hby d1_24) rfl ?_
      exact k)
    by_cases hc10 : (1 : Int32) = p0
    · obtain ⟨fs, hr, hrun, hended, hW, hsame⟩ := X8.leave (v := some (.ref (a_INVALID Z))) (fun h => by rw [Bd.returns] at h; cases h)
      refine ⟨_, _, pre9 _ ?_, hrun, hended, _, _, rfl, ?_, ⟨_, rfl⟩, hW, hsame.mono (by decide) (by decide)⟩
      · show oP p e below T8 (mkF m 25 #[oI p0, oR b_4, oI (10 : Int32), oI (1 : Int32), oR (a_INVALID Z)] [(.int p0), (.int (1 : Int32))]) _
        refine XS.icmpNo X8.here hx rfl (hb hby d1_25) rfl (teq hc10).2 ?_
        show oP p e below T8 (mkF m 28 #[oI p0, oR b_4, oI (10 : Int32), oI (1 : Int32), oR (a_INVALID Z)] []) _
        refine XS.aload X8.here hx rfl (hb hby d1_28) rfl rfl ?_
        show oP p e below T8 (mkF m 30 #[oI p0, oR b_4, oI (10 : Int32), oI (1 : Int32), oR (a_INVALID Z)] [(.ref (a_INVALID Z))]) _
        exact own_retA X8 hx Bd.returns rfl rfl (hb hby d1_30) hr
      · show (some (.ref (a_INVALID Z)) : Option Value) = some (.ref (fn1 Z p0)) ∧ Fr n0 _ ∧ Keep h0 T8.heap []
        rw [e8]
        refine ⟨?_, N4, Kc4⟩
        unfold fn1
        rw [if_neg hc7, if_pos hc10]
    · obtain ⟨T11, X11, e11, st11⟩ := getF X8 hx hZ hown (host := "") (Or.inl (hw _ (List.mem_of_getElem? (i := 30) rfl))) Via.refl e8 ((f_a_NO_SUCH_NODE_code hS).ext O4.2) (g := (mkF m 21 #[oI p0, oR b_4, oI (10 : Int32), oI (2 : Int32), oR (a_NO_SUCH_NODE Z)] [(.ref (a_NO_SUCH_NODE Z))])) rfl rfl (hb hby d1_21)
      have pre12 : ∀ t, oP p e below T11 (mkF m 25 #[oI p0, oR b_4, oI (10 : Int32), oI (2 : Int32), oR (a_NO_SUCH_NODE Z)] [(.int p0), (.int (2 : Int32))]) t → oP p e below s₁ (entryFrame m #[(.int p0)] 5) t := fun t k => pre9 t (by
        show oP p e below T8 (mkF m 25 #[oI p0, oR b_4, oI (10 : Int32), oI (1 : Int32), oR (a_INVALID Z)] [(.int p0), (.int (1 : Int32))]) _
        refine XS.icmpYes X8.here hx rfl (pc0 := 25) (pc' := 31) rfl (hb hby d1_25) rfl (feq hc10).2 (by decide) (by decide) ?_
        show oP p e below T8 (mkF m 31 #[oI p0, oR b_4, oI (10 : Int32), oI (1 : Int32), oR (a_INVALID Z)] []) _
        refine XS.iinc X8.here hx rfl (hb hby d1_31) rfl (l' := #[oI p0, oR b_4, oI (10 : Int32), oI (2 : Int32), oR (a_INVALID Z)]) rfl ?_
        show oP p e below T8 (mkF m 34 #[oI p0, oR b_4, oI (10 : Int32), oI (2 : Int32), oR (a_INVALID Z)] []) _
        refine XS.goto X8.here hx rfl (pc0 := 34) (pc' := 9) rfl (hb hby d1_34) (by decide) (by decide) ?_
        show oP p e below T8 (mkF m 9 #[oI p0, oR b_4, oI (10 : Int32), oI (2 : Int32), oR (a_INVALID Z)] []) _
        refine XS.iloadN X8.here hx rfl (hb hby d1_9) rfl ?_
        show oP p e below T8 (mkF m 10 #[oI p0, oR b_4, oI (10 : Int32), oI (2 : Int32), oR (a_INVALID Z)] [(.int (2 : Int32))]) _
        refine XS.iloadN X8.here hx rfl (hb hby d1_10) rfl ?_
        show oP p e below T8 (mkF m 11 #[oI p0, oR b_4, oI (10 : Int32), oI (2 : Int32), oR (a_INVALID Z)] [(.int (10 : Int32)), (.int (2 : Int32))]) _
        refine XS.icmpNo X8.here hx rfl (hb hby d1_11) rfl (tlt (by decide : (2 : Int32) < (10 : Int32))).2.1 ?_
        show oP p e below T8 (mkF m 14 #[oI p0, oR b_4, oI (10 : Int32), oI (2 : Int32), oR (a_INVALID Z)] []) _
        refine XS.aloadN X8.here hx rfl (hb hby d1_14) rfl rfl ?_
        show oP p e below T8 (mkF m 15 #[oI p0, oR b_4, oI (10 : Int32), oI (2 : Int32), oR (a_INVALID Z)] [(.ref b_4)]) _
        refine XS.iloadN X8.here hx rfl (hb hby d1_15) rfl ?_
        show oP p e below T8 (mkF m 16 #[oI p0, oR b_4, oI (10 : Int32), oI (2 : Int32), oR (a_INVALID Z)] [(.int (2 : Int32)), (.ref b_4)]) _
        refine own_aaload X8 hx hZ e8 po4_1 rfl (j := (2 : Int32)) ⟨by decide, by decide⟩ (v := (.ref (a_NO_SUCH_NODE Z))) rfl (g := (mkF m 16 #[oI p0, oR b_4, oI (10 : Int32), oI (2 : Int32), oR (a_INVALID Z)] [(.int (2 : Int32)), (.ref b_4)])) rfl rfl (hb hby d1_16) _ ?_
        show oP p e below T8 (mkF m 17 #[oI p0, oR b_4, oI (10 : Int32), oI (2 : Int32), oR (a_INVALID Z)] [(.ref (a_NO_SUCH_NODE Z))]) _
        refine XS.astore X8.here hx rfl (hb hby d1_17) rfl rfl (l' := #[oI p0, oR b_4, oI (10 : Int32), oI (2 : Int32), oR (a_NO_SUCH_NODE Z)]) rfl ?_
        show oP p e below T8 (mkF m 19 #[oI p0, oR b_4, oI (10 : Int32), oI (2 : Int32), oR (a_NO_SUCH_NODE Z)] []) _
        refine XS.aload X8.here hx rfl (hb hby d1_19) rfl rfl ?_
        show oP p e below T8 (mkF m 21 #[oI p0, oR b_4, oI (10 : Int32), oI (2 : Int32), oR (a_NO_SUCH_NODE Z)] [(.ref (a_NO_SUCH_NODE Z))]) _
        refine st11 _ ?_
        show oP p e below T11 (mkF m 24 #[oI p0, oR b_4, oI (10 : Int32), oI (2 : Int32), oR (a_NO_SUCH_NODE Z)] [(.int (2 : Int32))]) _
        refine XS.iloadN X11.here hx rfl (hb hby d1_24) rfl ?_
        exact k)
      by_cases hc13 : (2 : Int32) = p0
      · obtain ⟨fs, hr, hrun, hended, hW, hsame⟩ := X11.leave (v := some (.ref (a_NO_SUCH_NODE Z))) (fun h => by rw [Bd.returns] at h; cases h)
        refine ⟨_, _, pre12 _ ?_, hrun, hended, _, _, rfl, ?_, ⟨_, rfl⟩, hW, hsame.mono (by decide) (by decide)⟩
        · show oP p e below T11 (mkF m 25 #[oI p0, oR b_4, oI (10 : Int32), oI (2 : Int32), oR (a_NO_SUCH_NODE Z)] [(.int p0), (.int (2 : Int32))]) _
          refine XS.icmpNo X11.here hx rfl (hb hby d1_25) rfl (teq hc13).2 ?_
          show oP p e below T11 (mkF m 28 #[oI p0, oR b_4, oI (10 : Int32), oI (2 : Int32), oR (a_NO_SUCH_NODE Z)] []) _
          refine XS.aload X11.here hx rfl (hb hby d1_28) rfl rfl ?_
          show oP p e below T11 (mkF m 30 #[oI p0, oR b_4, oI (10 : Int32), oI (2 : Int32), oR (a_NO_SUCH_NODE Z)] [(.ref (a_NO_SUCH_NODE Z))]) _
          exact own_retA X11 hx Bd.returns rfl rfl (hb hby d1_30) hr
        · show (some (.ref (a_NO_SUCH_NODE Z)) : Option Value) = some (.ref (fn1 Z p0)) ∧ Fr n0 _ ∧ Keep h0 T11.heap []
          rw [e11]
          refine ⟨?_, N4, Kc4⟩
          unfold fn1
          rw [if_neg hc7, if_neg hc10, if_pos hc13]
      · obtain ⟨T14, X14, e14, st14⟩ := getF X11 hx hZ hown (host := "") (Or.inl (hw _ (List.mem_of_getElem? (i := 30) rfl))) Via.refl e11 ((f_a_LOCK_BUSY_code hS).ext O4.2) (g := (mkF m 21 #[oI p0, oR b_4, oI (10 : Int32), oI (3 : Int32), oR (a_LOCK_BUSY Z)] [(.ref (a_LOCK_BUSY Z))])) rfl rfl (hb hby d1_21)
        have pre15 : ∀ t, oP p e below T14 (mkF m 25 #[oI p0, oR b_4, oI (10 : Int32), oI (3 : Int32), oR (a_LOCK_BUSY Z)] [(.int p0), (.int (3 : Int32))]) t → oP p e below s₁ (entryFrame m #[(.int p0)] 5) t := fun t k => pre12 t (by
          show oP p e below T11 (mkF m 25 #[oI p0, oR b_4, oI (10 : Int32), oI (2 : Int32), oR (a_NO_SUCH_NODE Z)] [(.int p0), (.int (2 : Int32))]) _
          refine XS.icmpYes X11.here hx rfl (pc0 := 25) (pc' := 31) rfl (hb hby d1_25) rfl (feq hc13).2 (by decide) (by decide) ?_
          show oP p e below T11 (mkF m 31 #[oI p0, oR b_4, oI (10 : Int32), oI (2 : Int32), oR (a_NO_SUCH_NODE Z)] []) _
          refine XS.iinc X11.here hx rfl (hb hby d1_31) rfl (l' := #[oI p0, oR b_4, oI (10 : Int32), oI (3 : Int32), oR (a_NO_SUCH_NODE Z)]) rfl ?_
          show oP p e below T11 (mkF m 34 #[oI p0, oR b_4, oI (10 : Int32), oI (3 : Int32), oR (a_NO_SUCH_NODE Z)] []) _
          refine XS.goto X11.here hx rfl (pc0 := 34) (pc' := 9) rfl (hb hby d1_34) (by decide) (by decide) ?_
          show oP p e below T11 (mkF m 9 #[oI p0, oR b_4, oI (10 : Int32), oI (3 : Int32), oR (a_NO_SUCH_NODE Z)] []) _
          refine XS.iloadN X11.here hx rfl (hb hby d1_9) rfl ?_
          show oP p e below T11 (mkF m 10 #[oI p0, oR b_4, oI (10 : Int32), oI (3 : Int32), oR (a_NO_SUCH_NODE Z)] [(.int (3 : Int32))]) _
          refine XS.iloadN X11.here hx rfl (hb hby d1_10) rfl ?_
          show oP p e below T11 (mkF m 11 #[oI p0, oR b_4, oI (10 : Int32), oI (3 : Int32), oR (a_NO_SUCH_NODE Z)] [(.int (10 : Int32)), (.int (3 : Int32))]) _
          refine XS.icmpNo X11.here hx rfl (hb hby d1_11) rfl (tlt (by decide : (3 : Int32) < (10 : Int32))).2.1 ?_
          show oP p e below T11 (mkF m 14 #[oI p0, oR b_4, oI (10 : Int32), oI (3 : Int32), oR (a_NO_SUCH_NODE Z)] []) _
          refine XS.aloadN X11.here hx rfl (hb hby d1_14) rfl rfl ?_
          show oP p e below T11 (mkF m 15 #[oI p0, oR b_4, oI (10 : Int32), oI (3 : Int32), oR (a_NO_SUCH_NODE Z)] [(.ref b_4)]) _
          refine XS.iloadN X11.here hx rfl (hb hby d1_15) rfl ?_
          show oP p e below T11 (mkF m 16 #[oI p0, oR b_4, oI (10 : Int32), oI (3 : Int32), oR (a_NO_SUCH_NODE Z)] [(.int (3 : Int32)), (.ref b_4)]) _
          refine own_aaload X11 hx hZ e11 po4_1 rfl (j := (3 : Int32)) ⟨by decide, by decide⟩ (v := (.ref (a_LOCK_BUSY Z))) rfl (g := (mkF m 16 #[oI p0, oR b_4, oI (10 : Int32), oI (3 : Int32), oR (a_NO_SUCH_NODE Z)] [(.int (3 : Int32)), (.ref b_4)])) rfl rfl (hb hby d1_16) _ ?_
          show oP p e below T11 (mkF m 17 #[oI p0, oR b_4, oI (10 : Int32), oI (3 : Int32), oR (a_NO_SUCH_NODE Z)] [(.ref (a_LOCK_BUSY Z))]) _
          refine XS.astore X11.here hx rfl (hb hby d1_17) rfl rfl (l' := #[oI p0, oR b_4, oI (10 : Int32), oI (3 : Int32), oR (a_LOCK_BUSY Z)]) rfl ?_
          show oP p e below T11 (mkF m 19 #[oI p0, oR b_4, oI (10 : Int32), oI (3 : Int32), oR (a_LOCK_BUSY Z)] []) _
          refine XS.aload X11.here hx rfl (hb hby d1_19) rfl rfl ?_
          show oP p e below T11 (mkF m 21 #[oI p0, oR b_4, oI (10 : Int32), oI (3 : Int32), oR (a_LOCK_BUSY Z)] [(.ref (a_LOCK_BUSY Z))]) _
          refine st14 _ ?_
          show oP p e below T14 (mkF m 24 #[oI p0, oR b_4, oI (10 : Int32), oI (3 : Int32), oR (a_LOCK_BUSY Z)] [(.int (3 : Int32))]) _
          refine XS.iloadN X14.here hx rfl (hb hby d1_24) rfl ?_
          exact k)
        by_cases hc16 : (3 : Int32) = p0
        · obtain ⟨fs, hr, hrun, hended, hW, hsame⟩ := X14.leave (v := some (.ref (a_LOCK_BUSY Z))) (fun h => by rw [Bd.returns] at h; cases h)
          refine ⟨_, _, pre15 _ ?_, hrun, hended, _, _, rfl, ?_, ⟨_, rfl⟩, hW, hsame.mono (by decide) (by decide)⟩
          · show oP p e below T14 (mkF m 25 #[oI p0, oR b_4, oI (10 : Int32), oI (3 : Int32), oR (a_LOCK_BUSY Z)] [(.int p0), (.int (3 : Int32))]) _
            refine XS.icmpNo X14.here hx rfl (hb hby d1_25) rfl (teq hc16).2 ?_
            show oP p e below T14 (mkF m 28 #[oI p0, oR b_4, oI (10 : Int32), oI (3 : Int32), oR (a_LOCK_BUSY Z)] []) _
            refine XS.aload X14.here hx rfl (hb hby d1_28) rfl rfl ?_
            show oP p e below T14 (mkF m 30 #[oI p0, oR b_4, oI (10 : Int32), oI (3 : Int32), oR (a_LOCK_BUSY Z)] [(.ref (a_LOCK_BUSY Z))]) _
            exact own_retA X14 hx Bd.returns rfl rfl (hb hby d1_30) hr
          · show (some (.ref (a_LOCK_BUSY Z)) : Option Value) = some (.ref (fn1 Z p0)) ∧ Fr n0 _ ∧ Keep h0 T14.heap []
            rw [e14]
            refine ⟨?_, N4, Kc4⟩
            unfold fn1
            rw [if_neg hc7, if_neg hc10, if_neg hc13, if_pos hc16]
        · obtain ⟨T17, X17, e17, st17⟩ := getF X14 hx hZ hown (host := "") (Or.inl (hw _ (List.mem_of_getElem? (i := 30) rfl))) Via.refl e14 ((f_a_SESSION_EXPIRED_code hS).ext O4.2) (g := (mkF m 21 #[oI p0, oR b_4, oI (10 : Int32), oI (4 : Int32), oR (a_SESSION_EXPIRED Z)] [(.ref (a_SESSION_EXPIRED Z))])) rfl rfl (hb hby d1_21)
          have pre18 : ∀ t, oP p e below T17 (mkF m 25 #[oI p0, oR b_4, oI (10 : Int32), oI (4 : Int32), oR (a_SESSION_EXPIRED Z)] [(.int p0), (.int (4 : Int32))]) t → oP p e below s₁ (entryFrame m #[(.int p0)] 5) t := fun t k => pre15 t (by
            show oP p e below T14 (mkF m 25 #[oI p0, oR b_4, oI (10 : Int32), oI (3 : Int32), oR (a_LOCK_BUSY Z)] [(.int p0), (.int (3 : Int32))]) _
            refine XS.icmpYes X14.here hx rfl (pc0 := 25) (pc' := 31) rfl (hb hby d1_25) rfl (feq hc16).2 (by decide) (by decide) ?_
            show oP p e below T14 (mkF m 31 #[oI p0, oR b_4, oI (10 : Int32), oI (3 : Int32), oR (a_LOCK_BUSY Z)] []) _
            refine XS.iinc X14.here hx rfl (hb hby d1_31) rfl (l' := #[oI p0, oR b_4, oI (10 : Int32), oI (4 : Int32), oR (a_LOCK_BUSY Z)]) rfl ?_
            show oP p e below T14 (mkF m 34 #[oI p0, oR b_4, oI (10 : Int32), oI (4 : Int32), oR (a_LOCK_BUSY Z)] []) _
            refine XS.goto X14.here hx rfl (pc0 := 34) (pc' := 9) rfl (hb hby d1_34) (by decide) (by decide) ?_
            show oP p e below T14 (mkF m 9 #[oI p0, oR b_4, oI (10 : Int32), oI (4 : Int32), oR (a_LOCK_BUSY Z)] []) _
            refine XS.iloadN X14.here hx rfl (hb hby d1_9) rfl ?_
            show oP p e below T14 (mkF m 10 #[oI p0, oR b_4, oI (10 : Int32), oI (4 : Int32), oR (a_LOCK_BUSY Z)] [(.int (4 : Int32))]) _
            refine XS.iloadN X14.here hx rfl (hb hby d1_10) rfl ?_
            show oP p e below T14 (mkF m 11 #[oI p0, oR b_4, oI (10 : Int32), oI (4 : Int32), oR (a_LOCK_BUSY Z)] [(.int (10 : Int32)), (.int (4 : Int32))]) _
            refine XS.icmpNo X14.here hx rfl (hb hby d1_11) rfl (tlt (by decide : (4 : Int32) < (10 : Int32))).2.1 ?_
            show oP p e below T14 (mkF m 14 #[oI p0, oR b_4, oI (10 : Int32), oI (4 : Int32), oR (a_LOCK_BUSY Z)] []) _
            refine XS.aloadN X14.here hx rfl (hb hby d1_14) rfl rfl ?_
            show oP p e below T14 (mkF m 15 #[oI p0, oR b_4, oI (10 : Int32), oI (4 : Int32), oR (a_LOCK_BUSY Z)] [(.ref b_4)]) _
            refine XS.iloadN X14.here hx rfl (hb hby d1_15) rfl ?_
            show oP p e below T14 (mkF m 16 #[oI p0, oR b_4, oI (10 : Int32), oI (4 : Int32), oR (a_LOCK_BUSY Z)] [(.int (4 : Int32)), (.ref b_4)]) _
            refine own_aaload X14 hx hZ e14 po4_1 rfl (j := (4 : Int32)) ⟨by decide, by decide⟩ (v := (.ref (a_SESSION_EXPIRED Z))) rfl (g := (mkF m 16 #[oI p0, oR b_4, oI (10 : Int32), oI (4 : Int32), oR (a_LOCK_BUSY Z)] [(.int (4 : Int32)), (.ref b_4)])) rfl rfl (hb hby d1_16) _ ?_
            show oP p e below T14 (mkF m 17 #[oI p0, oR b_4, oI (10 : Int32), oI (4 : Int32), oR (a_LOCK_BUSY Z)] [(.ref (a_SESSION_EXPIRED Z))]) _
            refine XS.astore X14.here hx rfl (hb hby d1_17) rfl rfl (l' := #[oI p0, oR b_4, oI (10 : Int32), oI (4 : Int32), oR (a_SESSION_EXPIRED Z)]) rfl ?_
            show oP p e below T14 (mkF m 19 #[oI p0, oR b_4, oI (10 : Int32), oI (4 : Int32), oR (a_SESSION_EXPIRED Z)] []) _
            refine XS.aload X14.here hx rfl (hb hby d1_19) rfl rfl ?_
            show oP p e below T14 (mkF m 21 #[oI p0, oR b_4, oI (10 : Int32), oI (4 : Int32), oR (a_SESSION_EXPIRED Z)] [(.ref (a_SESSION_EXPIRED Z))]) _
            refine st17 _ ?_
            show oP p e below T17 (mkF m 24 #[oI p0, oR b_4, oI (10 : Int32), oI (4 : Int32), oR (a_SESSION_EXPIRED Z)] [(.int (4 : Int32))]) _
            refine XS.iloadN X17.here hx rfl (hb hby d1_24) rfl ?_
            exact k)
          by_cases hc19 : (4 : Int32) = p0
          · obtain ⟨fs, hr, hrun, hended, hW, hsame⟩ := X17.leave (v := some (.ref (a_SESSION_EXPIRED Z))) (fun h => by rw [Bd.returns] at h; cases h)
            refine ⟨_, _, pre18 _ ?_, hrun, hended, _, _, rfl, ?_, ⟨_, rfl⟩, hW, hsame.mono (by decide) (by decide)⟩
            · show oP p e below T17 (mkF m 25 #[oI p0, oR b_4, oI (10 : Int32), oI (4 : Int32), oR (a_SESSION_EXPIRED Z)] [(.int p0), (.int (4 : Int32))]) _
              refine XS.icmpNo X17.here hx rfl (hb hby d1_25) rfl (teq hc19).2 ?_
              show oP p e below T17 (mkF m 28 #[oI p0, oR b_4, oI (10 : Int32), oI (4 : Int32), oR (a_SESSION_EXPIRED Z)] []) _
              refine XS.aload X17.here hx rfl (hb hby d1_28) rfl rfl ?_
              show oP p e below T17 (mkF m 30 #[oI p0, oR b_4, oI (10 : Int32), oI (4 : Int32), oR (a_SESSION_EXPIRED Z)] [(.ref (a_SESSION_EXPIRED Z))]) _
              exact own_retA X17 hx Bd.returns rfl rfl (hb hby d1_30) hr
            · show (some (.ref (a_SESSION_EXPIRED Z)) : Option Value) = some (.ref (fn1 Z p0)) ∧ Fr n0 _ ∧ Keep h0 T17.heap []
              rw [e17]
              refine ⟨?_, N4, Kc4⟩
              unfold fn1
              rw [if_neg hc7, if_neg hc10, if_neg hc13, if_neg hc16, if_pos hc19]
          · obtain ⟨T20, X20, e20, st20⟩ := getF X17 hx hZ hown (host := "") (Or.inl (hw _ (List.mem_of_getElem? (i := 30) rfl))) Via.refl e17 ((f_a_CONDITION_FAILED_code hS).ext O4.2) (g := (mkF m 21 #[oI p0, oR b_4, oI (10 : Int32), oI (5 : Int32), oR (a_CONDITION_FAILED Z)] [(.ref (a_CONDITION_FAILED Z))])) rfl rfl (hb hby d1_21)
            have pre21 : ∀ t, oP p e below T20 (mkF m 25 #[oI p0, oR b_4, oI (10 : Int32), oI (5 : Int32), oR (a_CONDITION_FAILED Z)] [(.int p0), (.int (5 : Int32))]) t → oP p e below s₁ (entryFrame m #[(.int p0)] 5) t := fun t k => pre18 t (by
              show oP p e below T17 (mkF m 25 #[oI p0, oR b_4, oI (10 : Int32), oI (4 : Int32), oR (a_SESSION_EXPIRED Z)] [(.int p0), (.int (4 : Int32))]) _
              refine XS.icmpYes X17.here hx rfl (pc0 := 25) (pc' := 31) rfl (hb hby d1_25) rfl (feq hc19).2 (by decide) (by decide) ?_
              show oP p e below T17 (mkF m 31 #[oI p0, oR b_4, oI (10 : Int32), oI (4 : Int32), oR (a_SESSION_EXPIRED Z)] []) _
              refine XS.iinc X17.here hx rfl (hb hby d1_31) rfl (l' := #[oI p0, oR b_4, oI (10 : Int32), oI (5 : Int32), oR (a_SESSION_EXPIRED Z)]) rfl ?_
              show oP p e below T17 (mkF m 34 #[oI p0, oR b_4, oI (10 : Int32), oI (5 : Int32), oR (a_SESSION_EXPIRED Z)] []) _
              refine XS.goto X17.here hx rfl (pc0 := 34) (pc' := 9) rfl (hb hby d1_34) (by decide) (by decide) ?_
              show oP p e below T17 (mkF m 9 #[oI p0, oR b_4, oI (10 : Int32), oI (5 : Int32), oR (a_SESSION_EXPIRED Z)] []) _
              refine XS.iloadN X17.here hx rfl (hb hby d1_9) rfl ?_
              show oP p e below T17 (mkF m 10 #[oI p0, oR b_4, oI (10 : Int32), oI (5 : Int32), oR (a_SESSION_EXPIRED Z)] [(.int (5 : Int32))]) _
              refine XS.iloadN X17.here hx rfl (hb hby d1_10) rfl ?_
              show oP p e below T17 (mkF m 11 #[oI p0, oR b_4, oI (10 : Int32), oI (5 : Int32), oR (a_SESSION_EXPIRED Z)] [(.int (10 : Int32)), (.int (5 : Int32))]) _
              refine XS.icmpNo X17.here hx rfl (hb hby d1_11) rfl (tlt (by decide : (5 : Int32) < (10 : Int32))).2.1 ?_
              show oP p e below T17 (mkF m 14 #[oI p0, oR b_4, oI (10 : Int32), oI (5 : Int32), oR (a_SESSION_EXPIRED Z)] []) _
              refine XS.aloadN X17.here hx rfl (hb hby d1_14) rfl rfl ?_
              show oP p e below T17 (mkF m 15 #[oI p0, oR b_4, oI (10 : Int32), oI (5 : Int32), oR (a_SESSION_EXPIRED Z)] [(.ref b_4)]) _
              refine XS.iloadN X17.here hx rfl (hb hby d1_15) rfl ?_
              show oP p e below T17 (mkF m 16 #[oI p0, oR b_4, oI (10 : Int32), oI (5 : Int32), oR (a_SESSION_EXPIRED Z)] [(.int (5 : Int32)), (.ref b_4)]) _
              refine own_aaload X17 hx hZ e17 po4_1 rfl (j := (5 : Int32)) ⟨by decide, by decide⟩ (v := (.ref (a_CONDITION_FAILED Z))) rfl (g := (mkF m 16 #[oI p0, oR b_4, oI (10 : Int32), oI (5 : Int32), oR (a_SESSION_EXPIRED Z)] [(.int (5 : Int32)), (.ref b_4)])) rfl rfl (hb hby d1_16) _ ?_
              show oP p e below T17 (mkF m 17 #[oI p0, oR b_4, oI (10 : Int32), oI (5 : Int32), oR (a_SESSION_EXPIRED Z)] [(.ref (a_CONDITION_FAILED Z))]) _
              refine XS.astore X17.here hx rfl (hb hby d1_17) rfl rfl (l' := #[oI p0, oR b_4, oI (10 : Int32), oI (5 : Int32), oR (a_CONDITION_FAILED Z)]) rfl ?_
              show oP p e below T17 (mkF m 19 #[oI p0, oR b_4, oI (10 : Int32), oI (5 : Int32), oR (a_CONDITION_FAILED Z)] []) _
              refine XS.aload X17.here hx rfl (hb hby d1_19) rfl rfl ?_
              show oP p e below T17 (mkF m 21 #[oI p0, oR b_4, oI (10 : Int32), oI (5 : Int32), oR (a_CONDITION_FAILED Z)] [(.ref (a_CONDITION_FAILED Z))]) _
              refine st20 _ ?_
              show oP p e below T20 (mkF m 24 #[oI p0, oR b_4, oI (10 : Int32), oI (5 : Int32), oR (a_CONDITION_FAILED Z)] [(.int (5 : Int32))]) _
              refine XS.iloadN X20.here hx rfl (hb hby d1_24) rfl ?_
              exact k)
            by_cases hc22 : (5 : Int32) = p0
            · obtain ⟨fs, hr, hrun, hended, hW, hsame⟩ := X20.leave (v := some (.ref (a_CONDITION_FAILED Z))) (fun h => by rw [Bd.returns] at h; cases h)
              refine ⟨_, _, pre21 _ ?_, hrun, hended, _, _, rfl, ?_, ⟨_, rfl⟩, hW, hsame.mono (by decide) (by decide)⟩
              · show oP p e below T20 (mkF m 25 #[oI p0, oR b_4, oI (10 : Int32), oI (5 : Int32), oR (a_CONDITION_FAILED Z)] [(.int p0), (.int (5 : Int32))]) _
                refine XS.icmpNo X20.here hx rfl (hb hby d1_25) rfl (teq hc22).2 ?_
                show oP p e below T20 (mkF m 28 #[oI p0, oR b_4, oI (10 : Int32), oI (5 : Int32), oR (a_CONDITION_FAILED Z)] []) _
                refine XS.aload X20.here hx rfl (hb hby d1_28) rfl rfl ?_
                show oP p e below T20 (mkF m 30 #[oI p0, oR b_4, oI (10 : Int32), oI (5 : Int32), oR (a_CONDITION_FAILED Z)] [(.ref (a_CONDITION_FAILED Z))]) _
                exact own_retA X20 hx Bd.returns rfl rfl (hb hby d1_30) hr
              · show (some (.ref (a_CONDITION_FAILED Z)) : Option Value) = some (.ref (fn1 Z p0)) ∧ Fr n0 _ ∧ Keep h0 T20.heap []
                rw [e20]
                refine ⟨?_, N4, Kc4⟩
                unfold fn1
                rw [if_neg hc7, if_neg hc10, if_neg hc13, if_neg hc16, if_neg hc19, if_pos hc22]
            · obtain ⟨T23, X23, e23, st23⟩ := getF X20 hx hZ hown (host := "") (Or.inl (hw _ (List.mem_of_getElem? (i := 30) rfl))) Via.refl e20 ((f_a_NOT_STORED_code hS).ext O4.2) (g := (mkF m 21 #[oI p0, oR b_4, oI (10 : Int32), oI (6 : Int32), oR (a_NOT_STORED Z)] [(.ref (a_NOT_STORED Z))])) rfl rfl (hb hby d1_21)
              have pre24 : ∀ t, oP p e below T23 (mkF m 25 #[oI p0, oR b_4, oI (10 : Int32), oI (6 : Int32), oR (a_NOT_STORED Z)] [(.int p0), (.int (6 : Int32))]) t → oP p e below s₁ (entryFrame m #[(.int p0)] 5) t := fun t k => pre21 t (by
                show oP p e below T20 (mkF m 25 #[oI p0, oR b_4, oI (10 : Int32), oI (5 : Int32), oR (a_CONDITION_FAILED Z)] [(.int p0), (.int (5 : Int32))]) _
                refine XS.icmpYes X20.here hx rfl (pc0 := 25) (pc' := 31) rfl (hb hby d1_25) rfl (feq hc22).2 (by decide) (by decide) ?_
                show oP p e below T20 (mkF m 31 #[oI p0, oR b_4, oI (10 : Int32), oI (5 : Int32), oR (a_CONDITION_FAILED Z)] []) _
                refine XS.iinc X20.here hx rfl (hb hby d1_31) rfl (l' := #[oI p0, oR b_4, oI (10 : Int32), oI (6 : Int32), oR (a_CONDITION_FAILED Z)]) rfl ?_
                show oP p e below T20 (mkF m 34 #[oI p0, oR b_4, oI (10 : Int32), oI (6 : Int32), oR (a_CONDITION_FAILED Z)] []) _
                refine XS.goto X20.here hx rfl (pc0 := 34) (pc' := 9) rfl (hb hby d1_34) (by decide) (by decide) ?_
                show oP p e below T20 (mkF m 9 #[oI p0, oR b_4, oI (10 : Int32), oI (6 : Int32), oR (a_CONDITION_FAILED Z)] []) _
                refine XS.iloadN X20.here hx rfl (hb hby d1_9) rfl ?_
                show oP p e below T20 (mkF m 10 #[oI p0, oR b_4, oI (10 : Int32), oI (6 : Int32), oR (a_CONDITION_FAILED Z)] [(.int (6 : Int32))]) _
                refine XS.iloadN X20.here hx rfl (hb hby d1_10) rfl ?_
                show oP p e below T20 (mkF m 11 #[oI p0, oR b_4, oI (10 : Int32), oI (6 : Int32), oR (a_CONDITION_FAILED Z)] [(.int (10 : Int32)), (.int (6 : Int32))]) _
                refine XS.icmpNo X20.here hx rfl (hb hby d1_11) rfl (tlt (by decide : (6 : Int32) < (10 : Int32))).2.1 ?_
                show oP p e below T20 (mkF m 14 #[oI p0, oR b_4, oI (10 : Int32), oI (6 : Int32), oR (a_CONDITION_FAILED Z)] []) _
                refine XS.aloadN X20.here hx rfl (hb hby d1_14) rfl rfl ?_
                show oP p e below T20 (mkF m 15 #[oI p0, oR b_4, oI (10 : Int32), oI (6 : Int32), oR (a_CONDITION_FAILED Z)] [(.ref b_4)]) _
                refine XS.iloadN X20.here hx rfl (hb hby d1_15) rfl ?_
                show oP p e below T20 (mkF m 16 #[oI p0, oR b_4, oI (10 : Int32), oI (6 : Int32), oR (a_CONDITION_FAILED Z)] [(.int (6 : Int32)), (.ref b_4)]) _
                refine own_aaload X20 hx hZ e20 po4_1 rfl (j := (6 : Int32)) ⟨by decide, by decide⟩ (v := (.ref (a_NOT_STORED Z))) rfl (g := (mkF m 16 #[oI p0, oR b_4, oI (10 : Int32), oI (6 : Int32), oR (a_CONDITION_FAILED Z)] [(.int (6 : Int32)), (.ref b_4)])) rfl rfl (hb hby d1_16) _ ?_
                show oP p e below T20 (mkF m 17 #[oI p0, oR b_4, oI (10 : Int32), oI (6 : Int32), oR (a_CONDITION_FAILED Z)] [(.ref (a_NOT_STORED Z))]) _
                refine XS.astore X20.here hx rfl (hb hby d1_17) rfl rfl (l' := #[oI p0, oR b_4, oI (10 : Int32), oI (6 : Int32), oR (a_NOT_STORED Z)]) rfl ?_
                show oP p e below T20 (mkF m 19 #[oI p0, oR b_4, oI (10 : Int32), oI (6 : Int32), oR (a_NOT_STORED Z)] []) _
                refine XS.aload X20.here hx rfl (hb hby d1_19) rfl rfl ?_
                show oP p e below T20 (mkF m 21 #[oI p0, oR b_4, oI (10 : Int32), oI (6 : Int32), oR (a_NOT_STORED Z)] [(.ref (a_NOT_STORED Z))]) _
                refine st23 _ ?_
                show oP p e below T23 (mkF m 24 #[oI p0, oR b_4, oI (10 : Int32), oI (6 : Int32), oR (a_NOT_STORED Z)] [(.int (6 : Int32))]) _
                refine XS.iloadN X23.here hx rfl (hb hby d1_24) rfl ?_
                exact k)
              by_cases hc25 : (6 : Int32) = p0
              · obtain ⟨fs, hr, hrun, hended, hW, hsame⟩ := X23.leave (v := some (.ref (a_NOT_STORED Z))) (fun h => by rw [Bd.returns] at h; cases h)
                refine ⟨_, _, pre24 _ ?_, hrun, hended, _, _, rfl, ?_, ⟨_, rfl⟩, hW, hsame.mono (by decide) (by decide)⟩
                · show oP p e below T23 (mkF m 25 #[oI p0, oR b_4, oI (10 : Int32), oI (6 : Int32), oR (a_NOT_STORED Z)] [(.int p0), (.int (6 : Int32))]) _
                  refine XS.icmpNo X23.here hx rfl (hb hby d1_25) rfl (teq hc25).2 ?_
                  show oP p e below T23 (mkF m 28 #[oI p0, oR b_4, oI (10 : Int32), oI (6 : Int32), oR (a_NOT_STORED Z)] []) _
                  refine XS.aload X23.here hx rfl (hb hby d1_28) rfl rfl ?_
                  show oP p e below T23 (mkF m 30 #[oI p0, oR b_4, oI (10 : Int32), oI (6 : Int32), oR (a_NOT_STORED Z)] [(.ref (a_NOT_STORED Z))]) _
                  exact own_retA X23 hx Bd.returns rfl rfl (hb hby d1_30) hr
                · show (some (.ref (a_NOT_STORED Z)) : Option Value) = some (.ref (fn1 Z p0)) ∧ Fr n0 _ ∧ Keep h0 T23.heap []
                  rw [e23]
                  refine ⟨?_, N4, Kc4⟩
                  unfold fn1
                  rw [if_neg hc7, if_neg hc10, if_neg hc13, if_neg hc16, if_neg hc19, if_neg hc22, if_pos hc25]
              · obtain ⟨T26, X26, e26, st26⟩ := getF X23 hx hZ hown (host := "") (Or.inl (hw _ (List.mem_of_getElem? (i := 30) rfl))) Via.refl e23 ((f_a_STALE_EPOCH_code hS).ext O4.2) (g := (mkF m 21 #[oI p0, oR b_4, oI (10 : Int32), oI (7 : Int32), oR (a_STALE_EPOCH Z)] [(.ref (a_STALE_EPOCH Z))])) rfl rfl (hb hby d1_21)
                have pre27 : ∀ t, oP p e below T26 (mkF m 25 #[oI p0, oR b_4, oI (10 : Int32), oI (7 : Int32), oR (a_STALE_EPOCH Z)] [(.int p0), (.int (7 : Int32))]) t → oP p e below s₁ (entryFrame m #[(.int p0)] 5) t := fun t k => pre24 t (by
                  show oP p e below T23 (mkF m 25 #[oI p0, oR b_4, oI (10 : Int32), oI (6 : Int32), oR (a_NOT_STORED Z)] [(.int p0), (.int (6 : Int32))]) _
                  refine XS.icmpYes X23.here hx rfl (pc0 := 25) (pc' := 31) rfl (hb hby d1_25) rfl (feq hc25).2 (by decide) (by decide) ?_
                  show oP p e below T23 (mkF m 31 #[oI p0, oR b_4, oI (10 : Int32), oI (6 : Int32), oR (a_NOT_STORED Z)] []) _
                  refine XS.iinc X23.here hx rfl (hb hby d1_31) rfl (l' := #[oI p0, oR b_4, oI (10 : Int32), oI (7 : Int32), oR (a_NOT_STORED Z)]) rfl ?_
                  show oP p e below T23 (mkF m 34 #[oI p0, oR b_4, oI (10 : Int32), oI (7 : Int32), oR (a_NOT_STORED Z)] []) _
                  refine XS.goto X23.here hx rfl (pc0 := 34) (pc' := 9) rfl (hb hby d1_34) (by decide) (by decide) ?_
                  show oP p e below T23 (mkF m 9 #[oI p0, oR b_4, oI (10 : Int32), oI (7 : Int32), oR (a_NOT_STORED Z)] []) _
                  refine XS.iloadN X23.here hx rfl (hb hby d1_9) rfl ?_
                  show oP p e below T23 (mkF m 10 #[oI p0, oR b_4, oI (10 : Int32), oI (7 : Int32), oR (a_NOT_STORED Z)] [(.int (7 : Int32))]) _
                  refine XS.iloadN X23.here hx rfl (hb hby d1_10) rfl ?_
                  show oP p e below T23 (mkF m 11 #[oI p0, oR b_4, oI (10 : Int32), oI (7 : Int32), oR (a_NOT_STORED Z)] [(.int (10 : Int32)), (.int (7 : Int32))]) _
                  refine XS.icmpNo X23.here hx rfl (hb hby d1_11) rfl (tlt (by decide : (7 : Int32) < (10 : Int32))).2.1 ?_
                  show oP p e below T23 (mkF m 14 #[oI p0, oR b_4, oI (10 : Int32), oI (7 : Int32), oR (a_NOT_STORED Z)] []) _
                  refine XS.aloadN X23.here hx rfl (hb hby d1_14) rfl rfl ?_
                  show oP p e below T23 (mkF m 15 #[oI p0, oR b_4, oI (10 : Int32), oI (7 : Int32), oR (a_NOT_STORED Z)] [(.ref b_4)]) _
                  refine XS.iloadN X23.here hx rfl (hb hby d1_15) rfl ?_
                  show oP p e below T23 (mkF m 16 #[oI p0, oR b_4, oI (10 : Int32), oI (7 : Int32), oR (a_NOT_STORED Z)] [(.int (7 : Int32)), (.ref b_4)]) _
                  refine own_aaload X23 hx hZ e23 po4_1 rfl (j := (7 : Int32)) ⟨by decide, by decide⟩ (v := (.ref (a_STALE_EPOCH Z))) rfl (g := (mkF m 16 #[oI p0, oR b_4, oI (10 : Int32), oI (7 : Int32), oR (a_NOT_STORED Z)] [(.int (7 : Int32)), (.ref b_4)])) rfl rfl (hb hby d1_16) _ ?_
                  show oP p e below T23 (mkF m 17 #[oI p0, oR b_4, oI (10 : Int32), oI (7 : Int32), oR (a_NOT_STORED Z)] [(.ref (a_STALE_EPOCH Z))]) _
                  refine XS.astore X23.here hx rfl (hb hby d1_17) rfl rfl (l' := #[oI p0, oR b_4, oI (10 : Int32), oI (7 : Int32), oR (a_STALE_EPOCH Z)]) rfl ?_
                  show oP p e below T23 (mkF m 19 #[oI p0, oR b_4, oI (10 : Int32), oI (7 : Int32), oR (a_STALE_EPOCH Z)] []) _
                  refine XS.aload X23.here hx rfl (hb hby d1_19) rfl rfl ?_
                  show oP p e below T23 (mkF m 21 #[oI p0, oR b_4, oI (10 : Int32), oI (7 : Int32), oR (a_STALE_EPOCH Z)] [(.ref (a_STALE_EPOCH Z))]) _
                  refine st26 _ ?_
                  show oP p e below T26 (mkF m 24 #[oI p0, oR b_4, oI (10 : Int32), oI (7 : Int32), oR (a_STALE_EPOCH Z)] [(.int (7 : Int32))]) _
                  refine XS.iloadN X26.here hx rfl (hb hby d1_24) rfl ?_
                  exact k)
                by_cases hc28 : (7 : Int32) = p0
                · obtain ⟨fs, hr, hrun, hended, hW, hsame⟩ := X26.leave (v := some (.ref (a_STALE_EPOCH Z))) (fun h => by rw [Bd.returns] at h; cases h)
                  refine ⟨_, _, pre27 _ ?_, hrun, hended, _, _, rfl, ?_, ⟨_, rfl⟩, hW, hsame.mono (by decide) (by decide)⟩
                  · show oP p e below T26 (mkF m 25 #[oI p0, oR b_4, oI (10 : Int32), oI (7 : Int32), oR (a_STALE_EPOCH Z)] [(.int p0), (.int (7 : Int32))]) _
                    refine XS.icmpNo X26.here hx rfl (hb hby d1_25) rfl (teq hc28).2 ?_
                    show oP p e below T26 (mkF m 28 #[oI p0, oR b_4, oI (10 : Int32), oI (7 : Int32), oR (a_STALE_EPOCH Z)] []) _
                    refine XS.aload X26.here hx rfl (hb hby d1_28) rfl rfl ?_
                    show oP p e below T26 (mkF m 30 #[oI p0, oR b_4, oI (10 : Int32), oI (7 : Int32), oR (a_STALE_EPOCH Z)] [(.ref (a_STALE_EPOCH Z))]) _
                    exact own_retA X26 hx Bd.returns rfl rfl (hb hby d1_30) hr
                  · show (some (.ref (a_STALE_EPOCH Z)) : Option Value) = some (.ref (fn1 Z p0)) ∧ Fr n0 _ ∧ Keep h0 T26.heap []
                    rw [e26]
                    refine ⟨?_, N4, Kc4⟩
                    unfold fn1
                    rw [if_neg hc7, if_neg hc10, if_neg hc13, if_neg hc16, if_neg hc19, if_neg hc22, if_neg hc25, if_pos hc28]
                · obtain ⟨T29, X29, e29, st29⟩ := getF X26 hx hZ hown (host := "") (Or.inl (hw _ (List.mem_of_getElem? (i := 30) rfl))) Via.refl e26 ((f_a_NOT_MASTER_code hS).ext O4.2) (g := (mkF m 21 #[oI p0, oR b_4, oI (10 : Int32), oI (8 : Int32), oR (a_NOT_MASTER Z)] [(.ref (a_NOT_MASTER Z))])) rfl rfl (hb hby d1_21)
                  have pre30 : ∀ t, oP p e below T29 (mkF m 25 #[oI p0, oR b_4, oI (10 : Int32), oI (8 : Int32), oR (a_NOT_MASTER Z)] [(.int p0), (.int (8 : Int32))]) t → oP p e below s₁ (entryFrame m #[(.int p0)] 5) t := fun t k => pre27 t (by
                    show oP p e below T26 (mkF m 25 #[oI p0, oR b_4, oI (10 : Int32), oI (7 : Int32), oR (a_STALE_EPOCH Z)] [(.int p0), (.int (7 : Int32))]) _
                    refine XS.icmpYes X26.here hx rfl (pc0 := 25) (pc' := 31) rfl (hb hby d1_25) rfl (feq hc28).2 (by decide) (by decide) ?_
                    show oP p e below T26 (mkF m 31 #[oI p0, oR b_4, oI (10 : Int32), oI (7 : Int32), oR (a_STALE_EPOCH Z)] []) _
                    refine XS.iinc X26.here hx rfl (hb hby d1_31) rfl (l' := #[oI p0, oR b_4, oI (10 : Int32), oI (8 : Int32), oR (a_STALE_EPOCH Z)]) rfl ?_
                    show oP p e below T26 (mkF m 34 #[oI p0, oR b_4, oI (10 : Int32), oI (8 : Int32), oR (a_STALE_EPOCH Z)] []) _
                    refine XS.goto X26.here hx rfl (pc0 := 34) (pc' := 9) rfl (hb hby d1_34) (by decide) (by decide) ?_
                    show oP p e below T26 (mkF m 9 #[oI p0, oR b_4, oI (10 : Int32), oI (8 : Int32), oR (a_STALE_EPOCH Z)] []) _
                    refine XS.iloadN X26.here hx rfl (hb hby d1_9) rfl ?_
                    show oP p e below T26 (mkF m 10 #[oI p0, oR b_4, oI (10 : Int32), oI (8 : Int32), oR (a_STALE_EPOCH Z)] [(.int (8 : Int32))]) _
                    refine XS.iloadN X26.here hx rfl (hb hby d1_10) rfl ?_
                    show oP p e below T26 (mkF m 11 #[oI p0, oR b_4, oI (10 : Int32), oI (8 : Int32), oR (a_STALE_EPOCH Z)] [(.int (10 : Int32)), (.int (8 : Int32))]) _
                    refine XS.icmpNo X26.here hx rfl (hb hby d1_11) rfl (tlt (by decide : (8 : Int32) < (10 : Int32))).2.1 ?_
                    show oP p e below T26 (mkF m 14 #[oI p0, oR b_4, oI (10 : Int32), oI (8 : Int32), oR (a_STALE_EPOCH Z)] []) _
                    refine XS.aloadN X26.here hx rfl (hb hby d1_14) rfl rfl ?_
                    show oP p e below T26 (mkF m 15 #[oI p0, oR b_4, oI (10 : Int32), oI (8 : Int32), oR (a_STALE_EPOCH Z)] [(.ref b_4)]) _
                    refine XS.iloadN X26.here hx rfl (hb hby d1_15) rfl ?_
                    show oP p e below T26 (mkF m 16 #[oI p0, oR b_4, oI (10 : Int32), oI (8 : Int32), oR (a_STALE_EPOCH Z)] [(.int (8 : Int32)), (.ref b_4)]) _
                    refine own_aaload X26 hx hZ e26 po4_1 rfl (j := (8 : Int32)) ⟨by decide, by decide⟩ (v := (.ref (a_NOT_MASTER Z))) rfl (g := (mkF m 16 #[oI p0, oR b_4, oI (10 : Int32), oI (8 : Int32), oR (a_STALE_EPOCH Z)] [(.int (8 : Int32)), (.ref b_4)])) rfl rfl (hb hby d1_16) _ ?_
                    show oP p e below T26 (mkF m 17 #[oI p0, oR b_4, oI (10 : Int32), oI (8 : Int32), oR (a_STALE_EPOCH Z)] [(.ref (a_NOT_MASTER Z))]) _
                    refine XS.astore X26.here hx rfl (hb hby d1_17) rfl rfl (l' := #[oI p0, oR b_4, oI (10 : Int32), oI (8 : Int32), oR (a_NOT_MASTER Z)]) rfl ?_
                    show oP p e below T26 (mkF m 19 #[oI p0, oR b_4, oI (10 : Int32), oI (8 : Int32), oR (a_NOT_MASTER Z)] []) _
                    refine XS.aload X26.here hx rfl (hb hby d1_19) rfl rfl ?_
                    show oP p e below T26 (mkF m 21 #[oI p0, oR b_4, oI (10 : Int32), oI (8 : Int32), oR (a_NOT_MASTER Z)] [(.ref (a_NOT_MASTER Z))]) _
                    refine st29 _ ?_
                    show oP p e below T29 (mkF m 24 #[oI p0, oR b_4, oI (10 : Int32), oI (8 : Int32), oR (a_NOT_MASTER Z)] [(.int (8 : Int32))]) _
                    refine XS.iloadN X29.here hx rfl (hb hby d1_24) rfl ?_
                    exact k)
                  by_cases hc31 : (8 : Int32) = p0
                  · obtain ⟨fs, hr, hrun, hended, hW, hsame⟩ := X29.leave (v := some (.ref (a_NOT_MASTER Z))) (fun h => by rw [Bd.returns] at h; cases h)
                    refine ⟨_, _, pre30 _ ?_, hrun, hended, _, _, rfl, ?_, ⟨_, rfl⟩, hW, hsame.mono (by decide) (by decide)⟩
                    · show oP p e below T29 (mkF m 25 #[oI p0, oR b_4, oI (10 : Int32), oI (8 : Int32), oR (a_NOT_MASTER Z)] [(.int p0), (.int (8 : Int32))]) _
                      refine XS.icmpNo X29.here hx rfl (hb hby d1_25) rfl (teq hc31).2 ?_
                      show oP p e below T29 (mkF m 28 #[oI p0, oR b_4, oI (10 : Int32), oI (8 : Int32), oR (a_NOT_MASTER Z)] []) _
                      refine XS.aload X29.here hx rfl (hb hby d1_28) rfl rfl ?_
                      show oP p e below T29 (mkF m 30 #[oI p0, oR b_4, oI (10 : Int32), oI (8 : Int32), oR (a_NOT_MASTER Z)] [(.ref (a_NOT_MASTER Z))]) _
                      exact own_retA X29 hx Bd.returns rfl rfl (hb hby d1_30) hr
                    · show (some (.ref (a_NOT_MASTER Z)) : Option Value) = some (.ref (fn1 Z p0)) ∧ Fr n0 _ ∧ Keep h0 T29.heap []
                      rw [e29]
                      refine ⟨?_, N4, Kc4⟩
                      unfold fn1
                      rw [if_neg hc7, if_neg hc10, if_neg hc13, if_neg hc16, if_neg hc19, if_neg hc22, if_neg hc25, if_neg hc28, if_pos hc31]
                  · obtain ⟨T32, X32, e32, st32⟩ := getF X29 hx hZ hown (host := "") (Or.inl (hw _ (List.mem_of_getElem? (i := 30) rfl))) Via.refl e29 ((f_a_SESSION_ENDED_code hS).ext O4.2) (g := (mkF m 21 #[oI p0, oR b_4, oI (10 : Int32), oI (9 : Int32), oR (a_SESSION_ENDED Z)] [(.ref (a_SESSION_ENDED Z))])) rfl rfl (hb hby d1_21)
                    have pre33 : ∀ t, oP p e below T32 (mkF m 25 #[oI p0, oR b_4, oI (10 : Int32), oI (9 : Int32), oR (a_SESSION_ENDED Z)] [(.int p0), (.int (9 : Int32))]) t → oP p e below s₁ (entryFrame m #[(.int p0)] 5) t := fun t k => pre30 t (by
                      show oP p e below T29 (mkF m 25 #[oI p0, oR b_4, oI (10 : Int32), oI (8 : Int32), oR (a_NOT_MASTER Z)] [(.int p0), (.int (8 : Int32))]) _
                      refine XS.icmpYes X29.here hx rfl (pc0 := 25) (pc' := 31) rfl (hb hby d1_25) rfl (feq hc31).2 (by decide) (by decide) ?_
                      show oP p e below T29 (mkF m 31 #[oI p0, oR b_4, oI (10 : Int32), oI (8 : Int32), oR (a_NOT_MASTER Z)] []) _
                      refine XS.iinc X29.here hx rfl (hb hby d1_31) rfl (l' := #[oI p0, oR b_4, oI (10 : Int32), oI (9 : Int32), oR (a_NOT_MASTER Z)]) rfl ?_
                      show oP p e below T29 (mkF m 34 #[oI p0, oR b_4, oI (10 : Int32), oI (9 : Int32), oR (a_NOT_MASTER Z)] []) _
                      refine XS.goto X29.here hx rfl (pc0 := 34) (pc' := 9) rfl (hb hby d1_34) (by decide) (by decide) ?_
                      show oP p e below T29 (mkF m 9 #[oI p0, oR b_4, oI (10 : Int32), oI (9 : Int32), oR (a_NOT_MASTER Z)] []) _
                      refine XS.iloadN X29.here hx rfl (hb hby d1_9) rfl ?_
                      show oP p e below T29 (mkF m 10 #[oI p0, oR b_4, oI (10 : Int32), oI (9 : Int32), oR (a_NOT_MASTER Z)] [(.int (9 : Int32))]) _
                      refine XS.iloadN X29.here hx rfl (hb hby d1_10) rfl ?_
                      show oP p e below T29 (mkF m 11 #[oI p0, oR b_4, oI (10 : Int32), oI (9 : Int32), oR (a_NOT_MASTER Z)] [(.int (10 : Int32)), (.int (9 : Int32))]) _
                      refine XS.icmpNo X29.here hx rfl (hb hby d1_11) rfl (tlt (by decide : (9 : Int32) < (10 : Int32))).2.1 ?_
                      show oP p e below T29 (mkF m 14 #[oI p0, oR b_4, oI (10 : Int32), oI (9 : Int32), oR (a_NOT_MASTER Z)] []) _
                      refine XS.aloadN X29.here hx rfl (hb hby d1_14) rfl rfl ?_
                      show oP p e below T29 (mkF m 15 #[oI p0, oR b_4, oI (10 : Int32), oI (9 : Int32), oR (a_NOT_MASTER Z)] [(.ref b_4)]) _
                      refine XS.iloadN X29.here hx rfl (hb hby d1_15) rfl ?_
                      show oP p e below T29 (mkF m 16 #[oI p0, oR b_4, oI (10 : Int32), oI (9 : Int32), oR (a_NOT_MASTER Z)] [(.int (9 : Int32)), (.ref b_4)]) _
                      refine own_aaload X29 hx hZ e29 po4_1 rfl (j := (9 : Int32)) ⟨by decide, by decide⟩ (v := (.ref (a_SESSION_ENDED Z))) rfl (g := (mkF m 16 #[oI p0, oR b_4, oI (10 : Int32), oI (9 : Int32), oR (a_NOT_MASTER Z)] [(.int (9 : Int32)), (.ref b_4)])) rfl rfl (hb hby d1_16) _ ?_
                      show oP p e below T29 (mkF m 17 #[oI p0, oR b_4, oI (10 : Int32), oI (9 : Int32), oR (a_NOT_MASTER Z)] [(.ref (a_SESSION_ENDED Z))]) _
                      refine XS.astore X29.here hx rfl (hb hby d1_17) rfl rfl (l' := #[oI p0, oR b_4, oI (10 : Int32), oI (9 : Int32), oR (a_SESSION_ENDED Z)]) rfl ?_
                      show oP p e below T29 (mkF m 19 #[oI p0, oR b_4, oI (10 : Int32), oI (9 : Int32), oR (a_SESSION_ENDED Z)] []) _
                      refine XS.aload X29.here hx rfl (hb hby d1_19) rfl rfl ?_
                      show oP p e below T29 (mkF m 21 #[oI p0, oR b_4, oI (10 : Int32), oI (9 : Int32), oR (a_SESSION_ENDED Z)] [(.ref (a_SESSION_ENDED Z))]) _
                      refine st32 _ ?_
                      show oP p e below T32 (mkF m 24 #[oI p0, oR b_4, oI (10 : Int32), oI (9 : Int32), oR (a_SESSION_ENDED Z)] [(.int (9 : Int32))]) _
                      refine XS.iloadN X32.here hx rfl (hb hby d1_24) rfl ?_
                      exact k)
                    by_cases hc34 : (9 : Int32) = p0
                    · obtain ⟨fs, hr, hrun, hended, hW, hsame⟩ := X32.leave (v := some (.ref (a_SESSION_ENDED Z))) (fun h => by rw [Bd.returns] at h; cases h)
                      refine ⟨_, _, pre33 _ ?_, hrun, hended, _, _, rfl, ?_, ⟨_, rfl⟩, hW, hsame.mono (by decide) (by decide)⟩
                      · show oP p e below T32 (mkF m 25 #[oI p0, oR b_4, oI (10 : Int32), oI (9 : Int32), oR (a_SESSION_ENDED Z)] [(.int p0), (.int (9 : Int32))]) _
                        refine XS.icmpNo X32.here hx rfl (hb hby d1_25) rfl (teq hc34).2 ?_
                        show oP p e below T32 (mkF m 28 #[oI p0, oR b_4, oI (10 : Int32), oI (9 : Int32), oR (a_SESSION_ENDED Z)] []) _
                        refine XS.aload X32.here hx rfl (hb hby d1_28) rfl rfl ?_
                        show oP p e below T32 (mkF m 30 #[oI p0, oR b_4, oI (10 : Int32), oI (9 : Int32), oR (a_SESSION_ENDED Z)] [(.ref (a_SESSION_ENDED Z))]) _
                        exact own_retA X32 hx Bd.returns rfl rfl (hb hby d1_30) hr
                      · show (some (.ref (a_SESSION_ENDED Z)) : Option Value) = some (.ref (fn1 Z p0)) ∧ Fr n0 _ ∧ Keep h0 T32.heap []
                        rw [e32]
                        refine ⟨?_, N4, Kc4⟩
                        unfold fn1
                        rw [if_neg hc7, if_neg hc10, if_neg hc13, if_neg hc16, if_neg hc19, if_neg hc22, if_neg hc25, if_neg hc28, if_neg hc31, if_pos hc34]
                    · exfalso
                      exact ab35 hS p0 hp hc7 hc10 hc13 hc16 hc19 hc22 hc25 hc28 hc31 hc34
theorem d3_0 : decode method_3_code 0 = .ok (.iload_n 0, 1) := by decide +kernel
theorem d3_1 : decode method_3_code 1 = .ok (.ifCond .ne 7, 3) := by decide +kernel
theorem d3_4 : decode method_3_code 4 = .ok (.getstatic 23, 3) := by decide +kernel
theorem d3_7 : decode method_3_code 7 = .ok (.areturn, 1) := by decide +kernel
theorem d3_8 : decode method_3_code 8 = .ok (.iload_n 0, 1) := by decide +kernel
theorem d3_9 : decode method_3_code 9 = .ok (.iconst 1, 1) := by decide +kernel
theorem d3_10 : decode method_3_code 10 = .ok (.if_icmp .ne 7, 3) := by decide +kernel
theorem d3_13 : decode method_3_code 13 = .ok (.getstatic 27, 3) := by decide +kernel
theorem d3_16 : decode method_3_code 16 = .ok (.areturn, 1) := by decide +kernel
theorem d3_17 : decode method_3_code 17 = .ok (.iload_n 0, 1) := by decide +kernel
theorem d3_18 : decode method_3_code 18 = .ok (.iconst 2, 1) := by decide +kernel
theorem d3_19 : decode method_3_code 19 = .ok (.if_icmp .ne 7, 3) := by decide +kernel
theorem d3_22 : decode method_3_code 22 = .ok (.getstatic 30, 3) := by decide +kernel
theorem d3_25 : decode method_3_code 25 = .ok (.areturn, 1) := by decide +kernel
theorem d3_26 : decode method_3_code 26 = .ok (.iload_n 0, 1) := by decide +kernel
theorem d3_27 : decode method_3_code 27 = .ok (.iconst 3, 1) := by decide +kernel
theorem d3_28 : decode method_3_code 28 = .ok (.if_icmp .ne 7, 3) := by decide +kernel
theorem d3_31 : decode method_3_code 31 = .ok (.getstatic 33, 3) := by decide +kernel
theorem d3_34 : decode method_3_code 34 = .ok (.areturn, 1) := by decide +kernel
theorem d3_35 : decode method_3_code 35 = .ok (.iload_n 0, 1) := by decide +kernel
theorem d3_36 : decode method_3_code 36 = .ok (.iconst 4, 1) := by decide +kernel
theorem d3_37 : decode method_3_code 37 = .ok (.if_icmp .ne 7, 3) := by decide +kernel
theorem d3_40 : decode method_3_code 40 = .ok (.getstatic 36, 3) := by decide +kernel
theorem d3_43 : decode method_3_code 43 = .ok (.areturn, 1) := by decide +kernel
theorem d3_44 : decode method_3_code 44 = .ok (.iload_n 0, 1) := by decide +kernel
theorem d3_45 : decode method_3_code 45 = .ok (.iconst 5, 1) := by decide +kernel
theorem d3_46 : decode method_3_code 46 = .ok (.if_icmp .ne 7, 3) := by decide +kernel
theorem d3_49 : decode method_3_code 49 = .ok (.getstatic 39, 3) := by decide +kernel
theorem d3_52 : decode method_3_code 52 = .ok (.areturn, 1) := by decide +kernel
theorem d3_53 : decode method_3_code 53 = .ok (.iload_n 0, 1) := by decide +kernel
theorem d3_54 : decode method_3_code 54 = .ok (.bipush 6, 2) := by decide +kernel
theorem d3_56 : decode method_3_code 56 = .ok (.if_icmp .ne 7, 3) := by decide +kernel
theorem d3_59 : decode method_3_code 59 = .ok (.getstatic 42, 3) := by decide +kernel
theorem d3_62 : decode method_3_code 62 = .ok (.areturn, 1) := by decide +kernel
theorem d3_63 : decode method_3_code 63 = .ok (.iload_n 0, 1) := by decide +kernel
theorem d3_64 : decode method_3_code 64 = .ok (.bipush 7, 2) := by decide +kernel
theorem d3_66 : decode method_3_code 66 = .ok (.if_icmp .ne 7, 3) := by decide +kernel
theorem d3_69 : decode method_3_code 69 = .ok (.getstatic 45, 3) := by decide +kernel
theorem d3_72 : decode method_3_code 72 = .ok (.areturn, 1) := by decide +kernel
theorem d3_73 : decode method_3_code 73 = .ok (.iload_n 0, 1) := by decide +kernel
theorem d3_74 : decode method_3_code 74 = .ok (.bipush 8, 2) := by decide +kernel
theorem d3_76 : decode method_3_code 76 = .ok (.if_icmp .ne 7, 3) := by decide +kernel
theorem d3_79 : decode method_3_code 79 = .ok (.getstatic 48, 3) := by decide +kernel
theorem d3_82 : decode method_3_code 82 = .ok (.areturn, 1) := by decide +kernel
theorem d3_83 : decode method_3_code 83 = .ok (.getstatic 51, 3) := by decide +kernel
theorem d3_86 : decode method_3_code 86 = .ok (.areturn, 1) := by decide +kernel
def fn3 (Z : State) (p0 : Int32) : Addr :=
  if p0 = (0 : Int32) then
    (a_OK Z)
  else
    if p0 = (1 : Int32) then
      (a_INVALID Z)
    else
      if p0 = (2 : Int32) then
        (a_NO_SUCH_NODE Z)
      else
        if p0 = (3 : Int32) then
          (a_LOCK_BUSY Z)
        else
          if p0 = (4 : Int32) then
            (a_SESSION_EXPIRED Z)
          else
            if p0 = (5 : Int32) then
              (a_CONDITION_FAILED Z)
            else
              if p0 = (6 : Int32) then
                (a_NOT_STORED Z)
              else
                if p0 = (7 : Int32) then
                  (a_STALE_EPOCH Z)
                else
                  if p0 = (8 : Int32) then
                    (a_NOT_MASTER Z)
                  else
                    (a_SESSION_ENDED Z)
theorem ef_3 (m : MethodId) (x0 : Int32) : entryFrame m #[(.int x0)] 1 = mkF m 0 #[.val (.int x0)] [] := by first | (simp [entryFrame, mkF, argsToLocals, Value.category]; done) | rfl
theorem pn_1 : plainName "com/example/latchwork/latchwork/OutcomeOfPinLaw" = true := by first | (simp [plainName, overriddenIn]; done) | decide +kernel
set_option maxRecDepth 65536 in
set_option maxHeartbeats 40000000 in
theorem rm3 (l : Launch) (Z : State) (a0 : Array Value) (hw : ∀ d ∈ tables_1, d.before a0 Z = true) (hS : St Z) (ws : List Jvm.Cond) (p0 : Int32) (h0 : Heap) (n0 : Nat) (O0 : Old Z n0 h0) :
    MetFree l (⟨"com/example/latchwork/latchwork/OutcomeOfPinLaw", "expected", "(I)Lcom/example/latchwork/latchwork/Protocol$Outcome;"⟩ : MethodName) (head1 (Jvm.Cond.code (⟨"com/example/latchwork/latchwork/OutcomeOfPinLaw", "expected", "(I)Lcom/example/latchwork/latchwork/Protocol$Outcome;"⟩ : MethodName) method_3_code 1 (some (.object "com/example/latchwork/latchwork/Protocol$Outcome")) :: ws) ({ frames := 0, cells := 0, slots := 0, locals := 0 } : Room)) (fun a U => a = #[(.int p0)] ∧ Z.Warmed39 U.vm ∧ U.heap = h0) (fun _ _ _ _ _ => True) (fun _ U o U' => ∃ v L, o = .returned v ∧ own_Q (fun v hE L => v = some (.ref (fn3 Z p0)) ∧ Fr n0 L ∧ hE = h0) v U'.heap L ∧ FrameEnd U o U' L ({ frames := 0, cells := 0, slots := 0, locals := 0 } : Room).cells ({ frames := 0, cells := 0, slots := 0, locals := 0 } : Room).slots) := by
  refine MetFree.of_bodySF (plainFor_of_name pn_1) hisR ?_
  intro p e s m args below meth c s₁ Bd hml0 hP hK
  obtain ⟨rfl, hZ, hh⟩ := hP
  have hx := Bd.exec
  have hby := Bd.bytes
  have hml : c.maxLocals = 1 := hml0
  have hown : s.vm.findClass "com/example/latchwork/latchwork/OutcomeOfPinLaw" = some m.cls := findClass_of_methodNamed Bd.named
  have X0 : Stand p l e ({ frames := 0, cells := 0, slots := 0, locals := 0 } : Room) s m #[(.int p0)] below meth c s₁ [] 0 0 := Stand.of_body Bd
  have e0 : s₁.heap = h0 := by rw [← hh, Bd.state]; rfl
  have N0 := Fr.nil n0
  have pre0 : ∀ t, Steps p.tables e below (s₁.setTop (mkF m 0 #[oI p0] [])) t → Steps p.tables e below (s₁.setTop (entryFrame m #[(.int p0)] 1)) t := fun t k => castTop (ef_3 m p0) k
  have pre36 : ∀ t, oP p e below s₁ (mkF m 1 #[oI p0] [(.int p0)]) t → oP p e below s₁ (entryFrame m #[(.int p0)] 1) t := fun t k => pre0 t (by
    show oP p e below s₁ (mkF m 0 #[oI p0] []) _
    refine XS.iloadN X0.here hx rfl (hb hby d3_0) rfl ?_
    exact k)
  by_cases hc37 : p0 = (0 : Int32)
  · obtain ⟨T38, X38, e38, st38⟩ := getS2 X0 hx hZ hown (host := "") (Or.inl (hw _ (List.mem_of_getElem? (i := 36) rfl))) Via.refl e0 ((s_a_OK hS).ext O0.2) (g := (mkF m 4 #[oI p0] [])) rfl (hb hby d3_4)
    obtain ⟨fs, hr, hrun, hended, hW, hsame⟩ := X38.leave (v := some (.ref (a_OK Z))) (fun h => by rw [Bd.returns] at h; cases h)
    refine ⟨_, _, pre36 _ ?_, hrun, hended, _, _, rfl, ?_, ⟨_, rfl⟩, hW, hsame.mono (by decide) (by decide)⟩
    · show oP p e below s₁ (mkF m 1 #[oI p0] [(.int p0)]) _
      refine XS.ifNo X0.here hx rfl (hb hby d3_1) rfl ((if0 _ _).trans (teq hc37).2) ?_
      show oP p e below s₁ (mkF m 4 #[oI p0] []) _
      refine st38 _ ?_
      show oP p e below T38 (mkF m 7 #[oI p0] [(.ref (a_OK Z))]) _
      exact own_retA X38 hx Bd.returns rfl rfl (hb hby d3_7) hr
    · show (some (.ref (a_OK Z)) : Option Value) = some (.ref (fn3 Z p0)) ∧ Fr n0 _ ∧ T38.heap = h0
      rw [e38]
      refine ⟨?_, N0, rfl⟩
      unfold fn3
      rw [if_pos hc37]
  · have pre39 : ∀ t, oP p e below s₁ (mkF m 10 #[oI p0] [(.int (1 : Int32)), (.int p0)]) t → oP p e below s₁ (entryFrame m #[(.int p0)] 1) t := fun t k => pre36 t (by
      show oP p e below s₁ (mkF m 1 #[oI p0] [(.int p0)]) _
      refine XS.ifYes X0.here hx rfl (pc0 := 1) (pc' := 8) rfl (hb hby d3_1) rfl ((if0 _ _).trans (feq hc37).2) (by decide) (by decide) ?_
      show oP p e below s₁ (mkF m 8 #[oI p0] []) _
      refine XS.iloadN X0.here hx rfl (hb hby d3_8) rfl ?_
      show oP p e below s₁ (mkF m 9 #[oI p0] [(.int p0)]) _
      refine XS.iconst X0.here hx rfl (hb hby d3_9) ?_
      exact k)
    by_cases hc40 : p0 = (1 : Int32)
    · obtain ⟨T41, X41, e41, st41⟩ := getS2 X0 hx hZ hown (host := "") (Or.inl (hw _ (List.mem_of_getElem? (i := 43) rfl))) Via.refl e0 ((s_a_INVALID hS).ext O0.2) (g := (mkF m 13 #[oI p0] [])) rfl (hb hby d3_13)
      obtain ⟨fs, hr, hrun, hended, hW, hsame⟩ := X41.leave (v := some (.ref (a_INVALID Z))) (fun h => by rw [Bd.returns] at h; cases h)
      refine ⟨_, _, pre39 _ ?_, hrun, hended, _, _, rfl, ?_, ⟨_, rfl⟩, hW, hsame.mono (by decide) (by decide)⟩
      · show oP p e below s₁ (mkF m 10 #[oI p0] [(.int (1 : Int32)), (.int p0)]) _
        refine XS.icmpNo X0.here hx rfl (hb hby d3_10) rfl (teq hc40).2 ?_
        show oP p e below s₁ (mkF m 13 #[oI p0] []) _
        refine st41 _ ?_
        show oP p e below T41 (mkF m 16 #[oI p0] [(.ref (a_INVALID Z))]) _
        exact own_retA X41 hx Bd.returns rfl rfl (hb hby d3_16) hr
      · show (some (.ref (a_INVALID Z)) : Option Value) = some (.ref (fn3 Z p0)) ∧ Fr n0 _ ∧ T41.heap = h0
        rw [e41]
        refine ⟨?_, N0, rfl⟩
        unfold fn3
        rw [if_neg hc37, if_pos hc40]
    · have pre42 : ∀ t, oP p e below s₁ (mkF m 19 #[oI p0] [(.int (2 : Int32)), (.int p0)]) t → oP p e below s₁ (entryFrame m #[(.int p0)] 1) t := fun t k => pre39 t (by
        show oP p e below s₁ (mkF m 10 #[oI p0] [(.int (1 : Int32)), (.int p0)]) _
        refine XS.icmpYes X0.here hx rfl (pc0 := 10) (pc' := 17) rfl (hb hby d3_10) rfl (feq hc40).2 (by decide) (by decide) ?_
        show oP p e below s₁ (mkF m 17 #[oI p0] []) _
        refine XS.iloadN X0.here hx rfl (hb hby d3_17) rfl ?_
        show oP p e below s₁ (mkF m 18 #[oI p0] [(.int p0)]) _
        refine XS.iconst X0.here hx rfl (hb hby d3_18) ?_
        exact k)
      by_cases hc43 : p0 = (2 : Int32)
      · obtain ⟨T44, X44, e44, st44⟩ := getS2 X0 hx hZ hown (host := "") (Or.inl (hw _ (List.mem_of_getElem? (i := 46) rfl))) Via.refl e0 ((s_a_NO_SUCH_NODE hS).ext O0.2) (g := (mkF m 22 #[oI p0] [])) rfl (hb hby d3_22)
        obtain ⟨fs, hr, hrun, hended, hW, hsame⟩ := X44.leave (v := some (.ref (a_NO_SUCH_NODE Z))) (fun h => by rw [Bd.returns] at h; cases h)
        refine ⟨_, _, pre42 _ ?_, hrun, hended, _, _, rfl, ?_, ⟨_, rfl⟩, hW, hsame.mono (by decide) (by decide)⟩
        · show oP p e below s₁ (mkF m 19 #[oI p0] [(.int (2 : Int32)), (.int p0)]) _
          refine XS.icmpNo X0.here hx rfl (hb hby d3_19) rfl (teq hc43).2 ?_
          show oP p e below s₁ (mkF m 22 #[oI p0] []) _
          refine st44 _ ?_
          show oP p e below T44 (mkF m 25 #[oI p0] [(.ref (a_NO_SUCH_NODE Z))]) _
          exact own_retA X44 hx Bd.returns rfl rfl (hb hby d3_25) hr
        · show (some (.ref (a_NO_SUCH_NODE Z)) : Option Value) = some (.ref (fn3 Z p0)) ∧ Fr n0 _ ∧ T44.heap = h0
          rw [e44]
          refine ⟨?_, N0, rfl⟩
          unfold fn3
          rw [if_neg hc37, if_neg hc40, if_pos hc43]
      · have pre45 : ∀ t, oP p e below s₁ (mkF m 28 #[oI p0] [(.int (3 : Int32)), (.int p0)]) t → oP p e below s₁ (entryFrame m #[(.int p0)] 1) t := fun t k => pre42 t (by
          show oP p e below s₁ (mkF m 19 #[oI p0] [(.int (2 : Int32)), (.int p0)]) _
          refine XS.icmpYes X0.here hx rfl (pc0 := 19) (pc' := 26) rfl (hb hby d3_19) rfl (feq hc43).2 (by decide) (by decide) ?_
          show oP p e below s₁ (mkF m 26 #[oI p0] []) _
          refine XS.iloadN X0.here hx rfl (hb hby d3_26) rfl ?_
          show oP p e below s₁ (mkF m 27 #[oI p0] [(.int p0)]) _
          refine XS.iconst X0.here hx rfl (hb hby d3_27) ?_
          exact k)
        by_cases hc46 : p0 = (3 : Int32)
        · obtain ⟨T47, X47, e47, st47⟩ := getS2 X0 hx hZ hown (host := "") (Or.inl (hw _ (List.mem_of_getElem? (i := 42) rfl))) Via.refl e0 ((s_a_LOCK_BUSY hS).ext O0.2) (g := (mkF m 31 #[oI p0] [])) rfl (hb hby d3_31)
          obtain ⟨fs, hr, hrun, hended, hW, hsame⟩ := X47.leave (v := some (.ref (a_LOCK_BUSY Z))) (fun h => by rw [Bd.returns] at h; cases h)
          refine ⟨_, _, pre45 _ ?_, hrun, hended, _, _, rfl, ?_, ⟨_, rfl⟩, hW, hsame.mono (by decide) (by decide)⟩
          · show oP p e below s₁ (mkF m 28 #[oI p0] [(.int (3 : Int32)), (.int p0)]) _
            refine XS.icmpNo X0.here hx rfl (hb hby d3_28) rfl (teq hc46).2 ?_
            show oP p e below s₁ (mkF m 31 #[oI p0] []) _
            refine st47 _ ?_
            show oP p e below T47 (mkF m 34 #[oI p0] [(.ref (a_LOCK_BUSY Z))]) _
            exact own_retA X47 hx Bd.returns rfl rfl (hb hby d3_34) hr
          · show (some (.ref (a_LOCK_BUSY Z)) : Option Value) = some (.ref (fn3 Z p0)) ∧ Fr n0 _ ∧ T47.heap = h0
            rw [e47]
            refine ⟨?_, N0, rfl⟩
            unfold fn3
            rw [if_neg hc37, if_neg hc40, if_neg hc43, if_pos hc46]
        · have pre48 : ∀ t, oP p e below s₁ (mkF m 37 #[oI p0] [(.int (4 : Int32)), (.int p0)]) t → oP p e below s₁ (entryFrame m #[(.int p0)] 1) t := fun t k => pre45 t (by
            show oP p e below s₁ (mkF m 28 #[oI p0] [(.int (3 : Int32)), (.int p0)]) _
            refine XS.icmpYes X0.here hx rfl (pc0 := 28) (pc' := 35) rfl (hb hby d3_28) rfl (feq hc46).2 (by decide) (by decide) ?_
            show oP p e below s₁ (mkF m 35 #[oI p0] []) _
            refine XS.iloadN X0.here hx rfl (hb hby d3_35) rfl ?_
            show oP p e below s₁ (mkF m 36 #[oI p0] [(.int p0)]) _
            refine XS.iconst X0.here hx rfl (hb hby d3_36) ?_
            exact k)
          by_cases hc49 : p0 = (4 : Int32)
          · obtain ⟨T50, X50, e50, st50⟩ := getS2 X0 hx hZ hown (host := "") (Or.inl (hw _ (List.mem_of_getElem? (i := 44) rfl))) Via.refl e0 ((s_a_SESSION_EXPIRED hS).ext O0.2) (g := (mkF m 40 #[oI p0] [])) rfl (hb hby d3_40)
            obtain ⟨fs, hr, hrun, hended, hW, hsame⟩ := X50.leave (v := some (.ref (a_SESSION_EXPIRED Z))) (fun h => by rw [Bd.returns] at h; cases h)
            refine ⟨_, _, pre48 _ ?_, hrun, hended, _, _, rfl, ?_, ⟨_, rfl⟩, hW, hsame.mono (by decide) (by decide)⟩
            · show oP p e below s₁ (mkF m 37 #[oI p0] [(.int (4 : Int32)), (.int p0)]) _
              refine XS.icmpNo X0.here hx rfl (hb hby d3_37) rfl (teq hc49).2 ?_
              show oP p e below s₁ (mkF m 40 #[oI p0] []) _
              refine st50 _ ?_
              show oP p e below T50 (mkF m 43 #[oI p0] [(.ref (a_SESSION_EXPIRED Z))]) _
              exact own_retA X50 hx Bd.returns rfl rfl (hb hby d3_43) hr
            · show (some (.ref (a_SESSION_EXPIRED Z)) : Option Value) = some (.ref (fn3 Z p0)) ∧ Fr n0 _ ∧ T50.heap = h0
              rw [e50]
              refine ⟨?_, N0, rfl⟩
              unfold fn3
              rw [if_neg hc37, if_neg hc40, if_neg hc43, if_neg hc46, if_pos hc49]
          · have pre51 : ∀ t, oP p e below s₁ (mkF m 46 #[oI p0] [(.int (5 : Int32)), (.int p0)]) t → oP p e below s₁ (entryFrame m #[(.int p0)] 1) t := fun t k => pre48 t (by
              show oP p e below s₁ (mkF m 37 #[oI p0] [(.int (4 : Int32)), (.int p0)]) _
              refine XS.icmpYes X0.here hx rfl (pc0 := 37) (pc' := 44) rfl (hb hby d3_37) rfl (feq hc49).2 (by decide) (by decide) ?_
              show oP p e below s₁ (mkF m 44 #[oI p0] []) _
              refine XS.iloadN X0.here hx rfl (hb hby d3_44) rfl ?_
              show oP p e below s₁ (mkF m 45 #[oI p0] [(.int p0)]) _
              refine XS.iconst X0.here hx rfl (hb hby d3_45) ?_
              exact k)
            by_cases hc52 : p0 = (5 : Int32)
            · obtain ⟨T53, X53, e53, st53⟩ := getS2 X0 hx hZ hown (host := "") (Or.inl (hw _ (List.mem_of_getElem? (i := 49) rfl))) Via.refl e0 ((s_a_CONDITION_FAILED hS).ext O0.2) (g := (mkF m 49 #[oI p0] [])) rfl (hb hby d3_49)
              obtain ⟨fs, hr, hrun, hended, hW, hsame⟩ := X53.leave (v := some (.ref (a_CONDITION_FAILED Z))) (fun h => by rw [Bd.returns] at h; cases h)
              refine ⟨_, _, pre51 _ ?_, hrun, hended, _, _, rfl, ?_, ⟨_, rfl⟩, hW, hsame.mono (by decide) (by decide)⟩
              · show oP p e below s₁ (mkF m 46 #[oI p0] [(.int (5 : Int32)), (.int p0)]) _
                refine XS.icmpNo X0.here hx rfl (hb hby d3_46) rfl (teq hc52).2 ?_
                show oP p e below s₁ (mkF m 49 #[oI p0] []) _
                refine st53 _ ?_
                show oP p e below T53 (mkF m 52 #[oI p0] [(.ref (a_CONDITION_FAILED Z))]) _
                exact own_retA X53 hx Bd.returns rfl rfl (hb hby d3_52) hr
              · show (some (.ref (a_CONDITION_FAILED Z)) : Option Value) = some (.ref (fn3 Z p0)) ∧ Fr n0 _ ∧ T53.heap = h0
                rw [e53]
                refine ⟨?_, N0, rfl⟩
                unfold fn3
                rw [if_neg hc37, if_neg hc40, if_neg hc43, if_neg hc46, if_neg hc49, if_pos hc52]
            · have pre54 : ∀ t, oP p e below s₁ (mkF m 56 #[oI p0] [(.int (6 : Int32)), (.int p0)]) t → oP p e below s₁ (entryFrame m #[(.int p0)] 1) t := fun t k => pre51 t (by
                show oP p e below s₁ (mkF m 46 #[oI p0] [(.int (5 : Int32)), (.int p0)]) _
                refine XS.icmpYes X0.here hx rfl (pc0 := 46) (pc' := 53) rfl (hb hby d3_46) rfl (feq hc52).2 (by decide) (by decide) ?_
                show oP p e below s₁ (mkF m 53 #[oI p0] []) _
                refine XS.iloadN X0.here hx rfl (hb hby d3_53) rfl ?_
                show oP p e below s₁ (mkF m 54 #[oI p0] [(.int p0)]) _
                refine XS.bipush X0.here hx rfl (hb hby d3_54) ?_
                exact k)
              by_cases hc55 : p0 = (6 : Int32)
              · obtain ⟨T56, X56, e56, st56⟩ := getS2 X0 hx hZ hown (host := "") (Or.inl (hw _ (List.mem_of_getElem? (i := 50) rfl))) Via.refl e0 ((s_a_NOT_STORED hS).ext O0.2) (g := (mkF m 59 #[oI p0] [])) rfl (hb hby d3_59)
                obtain ⟨fs, hr, hrun, hended, hW, hsame⟩ := X56.leave (v := some (.ref (a_NOT_STORED Z))) (fun h => by rw [Bd.returns] at h; cases h)
                refine ⟨_, _, pre54 _ ?_, hrun, hended, _, _, rfl, ?_, ⟨_, rfl⟩, hW, hsame.mono (by decide) (by decide)⟩
                · show oP p e below s₁ (mkF m 56 #[oI p0] [(.int (6 : Int32)), (.int p0)]) _
                  refine XS.icmpNo X0.here hx rfl (hb hby d3_56) rfl (teq hc55).2 ?_
                  show oP p e below s₁ (mkF m 59 #[oI p0] []) _
                  refine st56 _ ?_
                  show oP p e below T56 (mkF m 62 #[oI p0] [(.ref (a_NOT_STORED Z))]) _
                  exact own_retA X56 hx Bd.returns rfl rfl (hb hby d3_62) hr
                · show (some (.ref (a_NOT_STORED Z)) : Option Value) = some (.ref (fn3 Z p0)) ∧ Fr n0 _ ∧ T56.heap = h0
                  rw [e56]
                  refine ⟨?_, N0, rfl⟩
                  unfold fn3
                  rw [if_neg hc37, if_neg hc40, if_neg hc43, if_neg hc46, if_neg hc49, if_neg hc52, if_pos hc55]
              · have pre57 : ∀ t, oP p e below s₁ (mkF m 66 #[oI p0] [(.int (7 : Int32)), (.int p0)]) t → oP p e below s₁ (entryFrame m #[(.int p0)] 1) t := fun t k => pre54 t (by
                  show oP p e below s₁ (mkF m 56 #[oI p0] [(.int (6 : Int32)), (.int p0)]) _
                  refine XS.icmpYes X0.here hx rfl (pc0 := 56) (pc' := 63) rfl (hb hby d3_56) rfl (feq hc55).2 (by decide) (by decide) ?_
                  show oP p e below s₁ (mkF m 63 #[oI p0] []) _
                  refine XS.iloadN X0.here hx rfl (hb hby d3_63) rfl ?_
                  show oP p e below s₁ (mkF m 64 #[oI p0] [(.int p0)]) _
                  refine XS.bipush X0.here hx rfl (hb hby d3_64) ?_
                  exact k)
                by_cases hc58 : p0 = (7 : Int32)
                · obtain ⟨T59, X59, e59, st59⟩ := getS2 X0 hx hZ hown (host := "") (Or.inl (hw _ (List.mem_of_getElem? (i := 45) rfl))) Via.refl e0 ((s_a_STALE_EPOCH hS).ext O0.2) (g := (mkF m 69 #[oI p0] [])) rfl (hb hby d3_69)
                  obtain ⟨fs, hr, hrun, hended, hW, hsame⟩ := X59.leave (v := some (.ref (a_STALE_EPOCH Z))) (fun h => by rw [Bd.returns] at h; cases h)
                  refine ⟨_, _, pre57 _ ?_, hrun, hended, _, _, rfl, ?_, ⟨_, rfl⟩, hW, hsame.mono (by decide) (by decide)⟩
                  · show oP p e below s₁ (mkF m 66 #[oI p0] [(.int (7 : Int32)), (.int p0)]) _
                    refine XS.icmpNo X0.here hx rfl (hb hby d3_66) rfl (teq hc58).2 ?_
                    show oP p e below s₁ (mkF m 69 #[oI p0] []) _
                    refine st59 _ ?_
                    show oP p e below T59 (mkF m 72 #[oI p0] [(.ref (a_STALE_EPOCH Z))]) _
                    exact own_retA X59 hx Bd.returns rfl rfl (hb hby d3_72) hr
                  · show (some (.ref (a_STALE_EPOCH Z)) : Option Value) = some (.ref (fn3 Z p0)) ∧ Fr n0 _ ∧ T59.heap = h0
                    rw [e59]
                    refine ⟨?_, N0, rfl⟩
                    unfold fn3
                    rw [if_neg hc37, if_neg hc40, if_neg hc43, if_neg hc46, if_neg hc49, if_neg hc52, if_neg hc55, if_pos hc58]
                · have pre60 : ∀ t, oP p e below s₁ (mkF m 76 #[oI p0] [(.int (8 : Int32)), (.int p0)]) t → oP p e below s₁ (entryFrame m #[(.int p0)] 1) t := fun t k => pre57 t (by
                    show oP p e below s₁ (mkF m 66 #[oI p0] [(.int (7 : Int32)), (.int p0)]) _
                    refine XS.icmpYes X0.here hx rfl (pc0 := 66) (pc' := 73) rfl (hb hby d3_66) rfl (feq hc58).2 (by decide) (by decide) ?_
                    show oP p e below s₁ (mkF m 73 #[oI p0] []) _
                    refine XS.iloadN X0.here hx rfl (hb hby d3_73) rfl ?_
                    show oP p e below s₁ (mkF m 74 #[oI p0] [(.int p0)]) _
                    refine XS.bipush X0.here hx rfl (hb hby d3_74) ?_
                    exact k)
                  by_cases hc61 : p0 = (8 : Int32)
                  · obtain ⟨T62, X62, e62, st62⟩ := getS2 X0 hx hZ hown (host := "") (Or.inl (hw _ (List.mem_of_getElem? (i := 47) rfl))) Via.refl e0 ((s_a_NOT_MASTER hS).ext O0.2) (g := (mkF m 79 #[oI p0] [])) rfl (hb hby d3_79)
                    obtain ⟨fs, hr, hrun, hended, hW, hsame⟩ := X62.leave (v := some (.ref (a_NOT_MASTER Z))) (fun h => by rw [Bd.returns] at h; cases h)
                    refine ⟨_, _, pre60 _ ?_, hrun, hended, _, _, rfl, ?_, ⟨_, rfl⟩, hW, hsame.mono (by decide) (by decide)⟩
                    · show oP p e below s₁ (mkF m 76 #[oI p0] [(.int (8 : Int32)), (.int p0)]) _
                      refine XS.icmpNo X0.here hx rfl (hb hby d3_76) rfl (teq hc61).2 ?_
                      show oP p e below s₁ (mkF m 79 #[oI p0] []) _
                      refine st62 _ ?_
                      show oP p e below T62 (mkF m 82 #[oI p0] [(.ref (a_NOT_MASTER Z))]) _
                      exact own_retA X62 hx Bd.returns rfl rfl (hb hby d3_82) hr
                    · show (some (.ref (a_NOT_MASTER Z)) : Option Value) = some (.ref (fn3 Z p0)) ∧ Fr n0 _ ∧ T62.heap = h0
                      rw [e62]
                      refine ⟨?_, N0, rfl⟩
                      unfold fn3
                      rw [if_neg hc37, if_neg hc40, if_neg hc43, if_neg hc46, if_neg hc49, if_neg hc52, if_neg hc55, if_neg hc58, if_pos hc61]
                  · obtain ⟨T63, X63, e63, st63⟩ := getS2 X0 hx hZ hown (host := "") (Or.inl (hw _ (List.mem_of_getElem? (i := 48) rfl))) Via.refl e0 ((s_a_SESSION_ENDED hS).ext O0.2) (g := (mkF m 83 #[oI p0] [])) rfl (hb hby d3_83)
                    obtain ⟨fs, hr, hrun, hended, hW, hsame⟩ := X63.leave (v := some (.ref (a_SESSION_ENDED Z))) (fun h => by rw [Bd.returns] at h; cases h)
                    refine ⟨_, _, pre60 _ ?_, hrun, hended, _, _, rfl, ?_, ⟨_, rfl⟩, hW, hsame.mono (by decide) (by decide)⟩
                    · show oP p e below s₁ (mkF m 76 #[oI p0] [(.int (8 : Int32)), (.int p0)]) _
                      refine XS.icmpYes X0.here hx rfl (pc0 := 76) (pc' := 83) rfl (hb hby d3_76) rfl (feq hc61).2 (by decide) (by decide) ?_
                      show oP p e below s₁ (mkF m 83 #[oI p0] []) _
                      refine st63 _ ?_
                      show oP p e below T63 (mkF m 86 #[oI p0] [(.ref (a_SESSION_ENDED Z))]) _
                      exact own_retA X63 hx Bd.returns rfl rfl (hb hby d3_86) hr
                    · show (some (.ref (a_SESSION_ENDED Z)) : Option Value) = some (.ref (fn3 Z p0)) ∧ Fr n0 _ ∧ T63.heap = h0
                      rw [e63]
                      refine ⟨?_, N0, rfl⟩
                      unfold fn3
                      rw [if_neg hc37, if_neg hc40, if_neg hc43, if_neg hc46, if_neg hc49, if_neg hc52, if_neg hc55, if_neg hc58, if_neg hc61]
theorem d4_0 : decode prog_119_method_4_code 0 = .ok (.aload_n 0, 1) := by decide +kernel
theorem d4_1 : decode prog_119_method_4_code 1 = .ok (.getfield 53, 3) := by decide +kernel
theorem d4_4 : decode prog_119_method_4_code 4 = .ok (.ireturn, 1) := by decide +kernel
def fn4 (Z : State) (r0 : Addr) (u : Int32) : Int32 :=
  u
theorem ef_4 (m : MethodId) (x0 : Addr) : entryFrame m #[(.ref x0)] 1 = mkF m 0 #[.val (.ref x0)] [] := by first | (simp [entryFrame, mkF, argsToLocals, Value.category]; done) | rfl
set_option maxRecDepth 65536 in
set_option maxHeartbeats 40000000 in
theorem rm4 (l : Launch) (Z : State) (a0 : Array Value) (hw : ∀ d ∈ tables_1, d.before a0 Z = true) (hS : St Z) (ws : List Jvm.Cond) (r0 : Addr) (u : Int32) (h0 : Heap) (n0 : Nat) (O0 : Old Z n0 h0) (F_code_r0 : Fld Z h0 r0 "com/example/latchwork/latchwork/Protocol$Outcome" "code" "I" (.int u)) :
    MetFree l (⟨"com/example/latchwork/latchwork/Protocol$Outcome", "code", "()I"⟩ : MethodName) (head1 (Jvm.Cond.code (⟨"com/example/latchwork/latchwork/Protocol$Outcome", "code", "()I"⟩ : MethodName) prog_119_method_4_code 1 (some .int) :: ws) ({ frames := 0, cells := 0, slots := 0, locals := 0 } : Room)) (fun a U => a = #[(.ref r0)] ∧ Z.Warmed39 U.vm ∧ U.heap = h0) (fun _ _ _ _ _ => True) (fun _ U o U' => ∃ v L, o = .returned v ∧ own_Q (fun v hE L => v = some (.int (fn4 Z r0 u)) ∧ Fr n0 L ∧ Keep h0 hE []) v U'.heap L ∧ FrameEnd U o U' L ({ frames := 0, cells := 0, slots := 0, locals := 0 } : Room).cells ({ frames := 0, cells := 0, slots := 0, locals := 0 } : Room).slots) := by
  refine MetFree.of_bodySF (plainFor_of_name pn_0) hisR ?_
  intro p e s m args below meth c s₁ Bd hml0 hP hK
  obtain ⟨rfl, hZ, hh⟩ := hP
  have hx := Bd.exec
  have hby := Bd.bytes
  have hml : c.maxLocals = 1 := hml0
  have hown : s.vm.findClass "com/example/latchwork/latchwork/Protocol$Outcome" = some m.cls := findClass_of_methodNamed Bd.named
  have hnm := (name_of_methodNamed Bd.named Bd.method).1
  have X0 : Stand p l e ({ frames := 0, cells := 0, slots := 0, locals := 0 } : Room) s m #[(.ref r0)] below meth c s₁ [] 0 0 := Stand.of_body Bd
  have e0 : s₁.heap = h0 := by rw [← hh, Bd.state]; rfl
  have N0 := Fr.nil n0
  have pre0 : ∀ t, Steps p.tables e below (s₁.setTop (mkF m 0 #[oR r0] [])) t → Steps p.tables e below (s₁.setTop (entryFrame m #[(.ref r0)] 1)) t := fun t k => castTop (ef_4 m r0) k
  obtain ⟨T64, X64, e64, st64⟩ := getF X0 hx hZ hown (host := "") (Or.inl (hw _ (List.mem_of_getElem? (i := 30) rfl))) Via.refl e0 F_code_r0 (g := (mkF m 1 #[oR r0] [(.ref r0)])) rfl rfl (hb hby d4_1)
  obtain ⟨fs, hr, hrun, hended, hW, hsame⟩ := X64.leave (v := some (.int u)) (fun h => by rw [Bd.returns] at h; cases h)
  refine ⟨_, _, pre0 _ ?_, hrun, hended, _, _, rfl, ?_, ⟨_, rfl⟩, hW, hsame.mono (by decide) (by decide)⟩
  · show oP p e below s₁ (mkF m 0 #[oR r0] []) _
    refine XS.aloadN X0.here hx rfl (hb hby d4_0) rfl rfl ?_
    show oP p e below s₁ (mkF m 1 #[oR r0] [(.ref r0)]) _
    refine st64 _ ?_
    show oP p e below T64 (mkF m 4 #[oR r0] [(.int u)]) _
    exact retI X64 hx Bd.returns (hb hby d4_4) hr
  · show (some (.int u) : Option Value) = some (.int (fn4 Z r0 u)) ∧ Fr n0 _ ∧ Keep h0 T64.heap []
    rw [e64]
    refine ⟨?_, N0, (Keep.refl h0 [])⟩
    rfl
theorem rng_rem10 (k : Int32) : ((k &&& (2147483647 : Int32)) - ((k &&& (2147483647 : Int32)) / (10 : Int32)) * (10 : Int32)) = (0 : Int32) ∨ ((k &&& (2147483647 : Int32)) - ((k &&& (2147483647 : Int32)) / (10 : Int32)) * (10 : Int32)) = (1 : Int32) ∨ ((k &&& (2147483647 : Int32)) - ((k &&& (2147483647 : Int32)) / (10 : Int32)) * (10 : Int32)) = (2 : Int32) ∨ ((k &&& (2147483647 : Int32)) - ((k &&& (2147483647 : Int32)) / (10 : Int32)) * (10 : Int32)) = (3 : Int32) ∨ ((k &&& (2147483647 : Int32)) - ((k &&& (2147483647 : Int32)) / (10 : Int32)) * (10 : Int32)) = (4 : Int32) ∨ ((k &&& (2147483647 : Int32)) - ((k &&& (2147483647 : Int32)) / (10 : Int32)) * (10 : Int32)) = (5 : Int32) ∨ ((k &&& (2147483647 : Int32)) - ((k &&& (2147483647 : Int32)) / (10 : Int32)) * (10 : Int32)) = (6 : Int32) ∨ ((k &&& (2147483647 : Int32)) - ((k &&& (2147483647 : Int32)) / (10 : Int32)) * (10 : Int32)) = (7 : Int32) ∨ ((k &&& (2147483647 : Int32)) - ((k &&& (2147483647 : Int32)) / (10 : Int32)) * (10 : Int32)) = (8 : Int32) ∨ ((k &&& (2147483647 : Int32)) - ((k &&& (2147483647 : Int32)) / (10 : Int32)) * (10 : Int32)) = (9 : Int32) := by
  have h := own_rem (own_and_le k 2147483647 (by decide)).1 (y := 10) (by decide)
  have h5 : (10 : Int32).toInt = 10 := by decide
  rw [h5] at h
  obtain ⟨j, hj, e⟩ := own_mem (n := 10) (i := ((k &&& (2147483647 : Int32)) - ((k &&& (2147483647 : Int32)) / (10 : Int32)) * (10 : Int32))) (by omega) (by omega)
  rw [e]
  match j, hj with
  | 0, _ => decide
  | 1, _ => decide
  | 2, _ => decide
  | 3, _ => decide
  | 4, _ => decide
  | 5, _ => decide
  | 6, _ => decide
  | 7, _ => decide
  | 8, _ => decide
  | 9, _ => decide
theorem pd_1 : parseMethodDescriptor "(I)Lcom/example/latchwork/latchwork/Protocol$Outcome;" = some ⟨[.int], some (.object "com/example/latchwork/latchwork/Protocol$Outcome")⟩ := by decide +kernel
theorem pd_2 : parseMethodDescriptor "()I" = some ⟨[], some .int⟩ := by decide +kernel
theorem ef_0 (m : MethodId) (x0 : Int32) : entryFrame m #[(.int x0)] maxLocals = mkF m 0 #[.val (.int x0), .unset, .unset] [] := by first | (simp [entryFrame, mkF, argsToLocals, Value.category, maxLocals]; done) | rfl
set_option maxRecDepth 65536 in
set_option maxHeartbeats 40000000 in
theorem rm0 (l : Launch) (Z : State) (a0 : Array Value) (hw : ∀ d ∈ tables_1, d.before a0 Z = true) (hS : St Z) (ws : List Jvm.Cond) (p0 : Int32) (h0 : Heap) (n0 : Nat) (O0 : Old Z n0 h0) :
    MetFree l x (head1 (Jvm.Cond.code x code maxLocals ret :: ws) room_1) (fun a U => a = #[(.int p0)] ∧ Z.Warmed39 U.vm ∧ U.heap = h0) (fun _ _ _ _ _ => True) (fun _ U o U' => ∃ v L, o = .returned v ∧ own_Q (fun v hE L => v = some (.int (1 : Int32)) ∧ Fr n0 L ∧ Keep h0 hE []) v U'.heap L ∧ FrameEnd U o U' L room_1.cells room_1.slots) := by
  refine MetFree.of_bodySF (plainFor_of_name pn_1) hisR ?_
  intro p e s m args below meth c s₁ Bd hml0 hP hK
  obtain ⟨rfl, hZ, hh⟩ := hP
  have hx := Bd.exec
  have hby := Bd.bytes
  have hml : c.maxLocals = 3 := hml0
  have hown : s.vm.findClass "com/example/latchwork/latchwork/OutcomeOfPinLaw" = some m.cls := findClass_of_methodNamed Bd.named
  have hnm := (name_of_methodNamed Bd.named Bd.method).1
  have X0 : Stand p l e room_1 s m #[(.int p0)] below meth c s₁ [] 0 0 := Stand.of_body Bd
  have e0 : s₁.heap = h0 := by rw [← hh, Bd.state]; rfl
  have N0 := Fr.nil n0
  have pre0 : ∀ t, Steps p.tables e below (s₁.setTop (mkF m 0 #[oI p0, oU, oU] [])) t → Steps p.tables e below (s₁.setTop (entryFrame m #[(.int p0)] maxLocals)) t := fun t k => castTop (ef_0 m p0) k
  obtain ⟨i, hi⟩ : ∃ z, z = ((p0 &&& (2147483647 : Int32)) - ((p0 &&& (2147483647 : Int32)) / (10 : Int32)) * (10 : Int32)) := ⟨_, rfl⟩
  have ri : i = (0 : Int32) ∨ i = (1 : Int32) ∨ i = (2 : Int32) ∨ i = (3 : Int32) ∨ i = (4 : Int32) ∨ i = (5 : Int32) ∨ i = (6 : Int32) ∨ i = (7 : Int32) ∨ i = (8 : Int32) ∨ i = (9 : Int32) := by rw [hi]; exact rng_rem10 p0
  have pre65 : ∀ t, oP p e below s₁ (mkF m 7 #[oI p0, oU, oU] [(.int i)]) t → oP p e below s₁ (entryFrame m #[(.int p0)] maxLocals) t := fun t k => pre0 t (by
    show oP p e below s₁ (mkF m 0 #[oI p0, oU, oU] []) _
    refine XS.iloadN X0.here hx rfl (hb hby at_0) rfl ?_
    show oP p e below s₁ (mkF m 1 #[oI p0, oU, oU] [(.int p0)]) _
    refine X0.ldcInt hx hown (mvT hZ (hw _ (List.mem_of_getElem? (i := 0) rfl))) (g := (mkF m 1 #[oI p0, oU, oU] [(.int p0)])) rfl (hb hby at_1) _ ?_
    show oP p e below s₁ (mkF m 3 #[oI p0, oU, oU] [(.int (2147483647 : Int32)), (.int p0)]) _
    refine XS.iand X0.here hx rfl (hb hby at_3) rfl ?_
    show oP p e below s₁ (mkF m 4 #[oI p0, oU, oU] [(.int (p0 &&& (2147483647 : Int32)))]) _
    refine XS.bipush X0.here hx rfl (hb hby at_4) ?_
    show oP p e below s₁ (mkF m 6 #[oI p0, oU, oU] [(.int (10 : Int32)), (.int (p0 &&& (2147483647 : Int32)))]) _
    refine XS.irem X0.here hx rfl (hb hby at_6) rfl (by decide) ?_
    show oP p e below s₁ (mkF m 7 #[oI p0, oU, oU] [(.int ((p0 &&& (2147483647 : Int32)) - ((p0 &&& (2147483647 : Int32)) / (10 : Int32)) * (10 : Int32)))]) _
    rw [← hi]
    exact k)
  rcases ri with rfl | rfl | rfl | rfl | rfl | rfl | rfl | rfl | rfl | rfl
  · obtain ⟨_, _, ⟨T66, L66, k66, n66⟩, -, X66, ⟨Lc66, hQ66, l66, y66, z66⟩, st66⟩ := Jvm.LawKit.callS X0 hx (y := (⟨"com/example/latchwork/latchwork/Protocol$Outcome", "of", "(I)Lcom/example/latchwork/latchwork/Protocol$Outcome;"⟩ : MethodName)) hown (mvT hZ (hw _ (List.mem_of_getElem? (i := 1) rfl))) (mvT hZ (hw _ (List.mem_of_getElem? (i := 2) rfl))) (mvT hZ (hw _ (List.mem_of_getElem? (i := 3) rfl))) (mvT hZ (hw _ (List.mem_of_getElem? (i := 4) rfl))) (by decide) (backOf (W := 0) (rm1 l Z a0 hw hS [] (0 : Int32) h0 n0 O0 (by decide)) hZ (hw _ (List.mem_of_getElem? (i := 4) rfl)) (hw _ (List.mem_of_getElem? (i := 3) rfl)) (by decide) (by decide)) (g := (mkF m 9 #[oI p0, oI (0 : Int32), oU] [(.int (0 : Int32))])) rfl (by rw [hml]; rfl) (argsL := [(.int (0 : Int32))]) (rest := []) (lenOf pd_1 rfl) rfl (by show 2 * 0 + _ ≤ _; exact Nat.le_of_eq rfl) (hb hby at_9) (fun _ _ => ⟨rfl, e0, (by decide : 0 + 1 ≤ _), (by decide : 0 + 10 ≤ _)⟩)
    dsimp only [Pt.U, Pt.locs, Pt.cells, Pt.slots] at X66 l66 y66 z66 st66 hQ66
    subst l66 y66 z66
    obtain ⟨v66, N66q, K66q⟩ := hQ66
    have w66 : (fn1 Z (0 : Int32)) = (a_OK Z) := by unfold fn1; rw [if_pos (by decide : (0 : Int32) = (0 : Int32))]; all_goals first | rfl | decide
    rw [w66] at v66
    subst v66
    have N66 := Fr.app N0 N66q
    have O66 := O0.keep K66q all0
    have Kc66 := (Keep.refl h0 []).trans K66q all0
    obtain ⟨_, _, ⟨T67, L67, k67, n67⟩, -, X67, ⟨Lc67, hQ67, l67, y67, z67⟩, st67⟩ := Jvm.LawKit.callS X66 hx (y := (⟨"com/example/latchwork/latchwork/OutcomeOfPinLaw", "expected", "(I)Lcom/example/latchwork/latchwork/Protocol$Outcome;"⟩ : MethodName)) hown (mvT hZ (hw _ (List.mem_of_getElem? (i := 32) rfl))) (mvT hZ (hw _ (List.mem_of_getElem? (i := 33) rfl))) (mvT hZ (hw _ (List.mem_of_getElem? (i := 34) rfl))) (mvT hZ (hw _ (List.mem_of_getElem? (i := 35) rfl))) (by decide) (backOf (W := 1) (rm3 l Z a0 hw hS [] (0 : Int32) T66.heap n0 O66) hZ (hw _ (List.mem_of_getElem? (i := 35) rfl)) (hw _ (List.mem_of_getElem? (i := 34) rfl)) (by decide) (by decide)) (g := (mkF m 15 #[oI p0, oI (0 : Int32), oR (a_OK Z)] [(.int (0 : Int32)), (.ref (a_OK Z))])) rfl (by rw [hml]; rfl) (argsL := [(.int (0 : Int32))]) (rest := [(.ref (a_OK Z))]) (lenOf pd_1 rfl) rfl (by show 2 * 0 + _ ≤ _; exact Nat.le_of_eq rfl) (hb hby at_15) (fun _ _ => ⟨rfl, rfl, (by decide : 1 + 0 ≤ _), (by decide : 10 + 0 ≤ _)⟩)
    dsimp only [Pt.U, Pt.locs, Pt.cells, Pt.slots] at X67 l67 y67 z67 st67 hQ67
    subst l67 y67 z67
    obtain ⟨v67, N67q, h67q⟩ := hQ67
    have w67 : (fn3 Z (0 : Int32)) = (a_OK Z) := by unfold fn3; rw [if_pos (by decide : (0 : Int32) = (0 : Int32))]; all_goals first | rfl | decide
    rw [w67] at v67
    subst v67
    have N67 := Fr.app N66 N67q
    obtain ⟨cq68, kq68, q68a, q68b, q68c⟩ := isOf hZ h67q ((e_a_OK hS).ext O66.2)
    obtain ⟨_, _, ⟨T68, L68, k68, n68⟩, -, X68, ⟨Lc68, hQ68, l68, y68, z68⟩, st68⟩ := X67.virtualBack hx (y := (⟨"com/example/latchwork/latchwork/Protocol$Outcome", "code", "()I"⟩ : MethodName)) (z := (⟨"com/example/latchwork/latchwork/Protocol$Outcome", "code", "()I"⟩ : MethodName)) hown (mvT hZ (hw _ (List.mem_of_getElem? (i := 37) rfl))) (mvT hZ (hw _ (List.mem_of_getElem? (i := 38) rfl))) (notFace_of_selects (args := #[]) (mvT hZ (hw _ (List.mem_of_getElem? (i := 40) rfl)))) (mvT hZ (hw _ (List.mem_of_getElem? (i := 40) rfl))) (mvT hZ (hw _ (List.mem_of_getElem? (i := 39) rfl))) (by decide) (backOf (W := 0) (rm4 l Z a0 hw hS [] (a_OK Z) (0 : Int32) T66.heap n0 O66 ((f_a_OK_code hS).ext O66.2)) hZ (hw _ (List.mem_of_getElem? (i := 41) rfl)) (hw _ (List.mem_of_getElem? (i := 3) rfl)) (by decide) (by decide)) q68a q68c (g := (mkF m 22 #[oI p0, oI (0 : Int32), oR (a_OK Z)] [(.ref (a_OK Z))])) rfl (by rw [hml]; rfl) (Steps.refl _) (argsL := []) (rest := []) (lenOf pd_2 rfl) rfl (by show 2 * 0 + _ ≤ _; exact Nat.le_of_eq rfl) (hb hby at_22) (fun _ _ => ⟨rfl, h67q, (by decide : 1 + 0 ≤ _), (by decide : 10 + 0 ≤ _)⟩)
    dsimp only [Pt.U, Pt.locs, Pt.cells, Pt.slots] at X68 l68 y68 z68 st68 hQ68
    subst l68 y68 z68
    obtain ⟨v68, N68q, K68q⟩ := hQ68
    have w68 : (fn4 Z (a_OK Z) (0 : Int32)) = (0 : Int32) := rfl
    rw [w68] at v68
    subst v68
    have N68 := Fr.app N67 N68q
    have O68 := O66.keep K68q all0
    have Kc68 := Kc66.trans K68q all0
    obtain ⟨fs, hr, hrun, hended, hW, hsame⟩ := X68.leave (v := some (.int (1 : Int32))) (fun h => by rw [Bd.returns] at h; cases h)
    refine ⟨_, _, pre65 _ ?_, hrun, hended, _, _, rfl, ?_, ⟨_, rfl⟩, hW, hsame.mono (by decide) (by decide)⟩
    · show oP p e below s₁ (mkF m 7 #[oI p0, oU, oU] [(.int (0 : Int32))]) _
      refine XS.istoreN X0.here hx rfl (hb hby at_7) rfl (l' := #[oI p0, oI (0 : Int32), oU]) rfl ?_
      show oP p e below s₁ (mkF m 8 #[oI p0, oI (0 : Int32), oU] []) _
      refine XS.iloadN X0.here hx rfl (hb hby at_8) rfl ?_
      show oP p e below s₁ (mkF m 9 #[oI p0, oI (0 : Int32), oU] [(.int (0 : Int32))]) _
      refine st66 _ ?_
      show oP p e below T66 (mkF m 12 #[oI p0, oI (0 : Int32), oU] [(.ref (a_OK Z))]) _
      refine XS.astoreN X66.here hx rfl (hb hby at_12) rfl rfl (l' := #[oI p0, oI (0 : Int32), oR (a_OK Z)]) rfl ?_
      show oP p e below T66 (mkF m 13 #[oI p0, oI (0 : Int32), oR (a_OK Z)] []) _
      refine XS.aloadN X66.here hx rfl (hb hby at_13) rfl rfl ?_
      show oP p e below T66 (mkF m 14 #[oI p0, oI (0 : Int32), oR (a_OK Z)] [(.ref (a_OK Z))]) _
      refine XS.iloadN X66.here hx rfl (hb hby at_14) rfl ?_
      show oP p e below T66 (mkF m 15 #[oI p0, oI (0 : Int32), oR (a_OK Z)] [(.int (0 : Int32)), (.ref (a_OK Z))]) _
      refine st67 _ ?_
      show oP p e below T67 (mkF m 18 #[oI p0, oI (0 : Int32), oR (a_OK Z)] [(.ref (a_OK Z)), (.ref (a_OK Z))]) _
      refine Jvm.RoadKit.acmp (g := (mkF m 18 #[oI p0, oI (0 : Int32), oR (a_OK Z)] [(.ref (a_OK Z)), (.ref (a_OK Z))])) X67 hx rfl rfl rfl (pc0 := 18) (pc' := 21) (same := true) rfl (hb hby at_18) rfl (decide_eq_true (congrArg Value.ref (rfl : (a_OK Z) = (a_OK Z)))) (by decide) (by decide) ?_
      show oP p e below T67 (mkF m 21 #[oI p0, oI (0 : Int32), oR (a_OK Z)] []) _
      refine XS.aloadN X67.here hx rfl (hb hby at_21) rfl rfl ?_
      show oP p e below T67 (mkF m 22 #[oI p0, oI (0 : Int32), oR (a_OK Z)] [(.ref (a_OK Z))]) _
      refine st68.trans ?_
      show oP p e below T68 (mkF m 25 #[oI p0, oI (0 : Int32), oR (a_OK Z)] [(.int (0 : Int32))]) _
      refine XS.iloadN X68.here hx rfl (hb hby at_25) rfl ?_
      show oP p e below T68 (mkF m 26 #[oI p0, oI (0 : Int32), oR (a_OK Z)] [(.int (0 : Int32)), (.int (0 : Int32))]) _
      refine XS.icmpNo X68.here hx rfl (hb hby at_26) rfl (teq (by decide : (0 : Int32) = (0 : Int32))).2 ?_
      show oP p e below T68 (mkF m 29 #[oI p0, oI (0 : Int32), oR (a_OK Z)] []) _
      refine XS.iconst X68.here hx rfl (hb hby at_29) ?_
      show oP p e below T68 (mkF m 30 #[oI p0, oI (0 : Int32), oR (a_OK Z)] [(.int (1 : Int32))]) _
      refine XS.goto X68.here hx rfl (pc0 := 30) (pc' := 34) rfl (hb hby at_30) (by decide) (by decide) ?_
      show oP p e below T68 (mkF m 34 #[oI p0, oI (0 : Int32), oR (a_OK Z)] [(.int (1 : Int32))]) _
      exact retN X68 hx (t := .boolean) Bd.returns (by simp) (hb hby at_34) hr
    · show (some (.int (1 : Int32)) : Option Value) = some (.int (1 : Int32)) ∧ Fr n0 _ ∧ Keep h0 T68.heap []
      exact ⟨rfl, N68, Kc68⟩
  · obtain ⟨_, _, ⟨T69, L69, k69, n69⟩, -, X69, ⟨Lc69, hQ69, l69, y69, z69⟩, st69⟩ := Jvm.LawKit.callS X0 hx (y := (⟨"com/example/latchwork/latchwork/Protocol$Outcome", "of", "(I)Lcom/example/latchwork/latchwork/Protocol$Outcome;"⟩ : MethodName)) hown (mvT hZ (hw _ (List.mem_of_getElem? (i := 1) rfl))) (mvT hZ (hw _ (List.mem_of_getElem? (i := 2) rfl))) (mvT hZ (hw _ (List.mem_of_getElem? (i := 3) rfl))) (mvT hZ (hw _ (List.mem_of_getElem? (i := 4) rfl))) (by decide) (backOf (W := 0) (rm1 l Z a0 hw hS [] (1 : Int32) h0 n0 O0 (by decide)) hZ (hw _ (List.mem_of_getElem? (i := 4) rfl)) (hw _ (List.mem_of_getElem? (i := 3) rfl)) (by decide) (by decide)) (g := (mkF m 9 #[oI p0, oI (1 : Int32), oU] [(.int (1 : Int32))])) rfl (by rw [hml]; rfl) (argsL := [(.int (1 : Int32))]) (rest := []) (lenOf pd_1 rfl) rfl (by show 2 * 0 + _ ≤ _; exact Nat.le_of_eq rfl) (hb hby at_9) (fun _ _ => ⟨rfl, e0, (by decide : 0 + 1 ≤ _), (by decide : 0 + 10 ≤ _)⟩)
    dsimp only [Pt.U, Pt.locs, Pt.cells, Pt.slots] at X69 l69 y69 z69 st69 hQ69
    subst l69 y69 z69
    obtain ⟨v69, N69q, K69q⟩ := hQ69
    have w69 : (fn1 Z (1 : Int32)) = (a_INVALID Z) := by unfold fn1; rw [if_neg (by decide : ¬ ((0 : Int32) = (1 : Int32))), if_pos (by decide : (1 : Int32) = (1 : Int32))]; all_goals first | rfl | decide
    rw [w69] at v69
    subst v69
    have N69 := Fr.app N0 N69q
    have O69 := O0.keep K69q all0
    have Kc69 := (Keep.refl h0 []).trans K69q all0
    obtain ⟨_, _, ⟨T70, L70, k70, n70⟩, -, X70, ⟨Lc70, hQ70, l70, y70, z70⟩, st70⟩ := Jvm.LawKit.callS X69 hx (y := (⟨"com/example/latchwork/latchwork/OutcomeOfPinLaw", "expected", "(I)Lcom/example/latchwork/latchwork/Protocol$Outcome;"⟩ : MethodName)) hown (mvT hZ (hw _ (List.mem_of_getElem? (i := 32) rfl))) (mvT hZ (hw _ (List.mem_of_getElem? (i := 33) rfl))) (mvT hZ (hw _ (List.mem_of_getElem? (i := 34) rfl))) (mvT hZ (hw _ (List.mem_of_getElem? (i := 35) rfl))) (by decide) (backOf (W := 1) (rm3 l Z a0 hw hS [] (1 : Int32) T69.heap n0 O69) hZ (hw _ (List.mem_of_getElem? (i := 35) rfl)) (hw _ (List.mem_of_getElem? (i := 34) rfl)) (by decide) (by decide)) (g := (mkF m 15 #[oI p0, oI (1 : Int32), oR (a_INVALID Z)] [(.int (1 : Int32)), (.ref (a_INVALID Z))])) rfl (by rw [hml]; rfl) (argsL := [(.int (1 : Int32))]) (rest := [(.ref (a_INVALID Z))]) (lenOf pd_1 rfl) rfl (by show 2 * 0 + _ ≤ _; exact Nat.le_of_eq rfl) (hb hby at_15) (fun _ _ => ⟨rfl, rfl, (by decide : 1 + 0 ≤ _), (by decide : 10 + 0 ≤ _)⟩)
    dsimp only [Pt.U, Pt.locs, Pt.cells, Pt.slots] at X70 l70 y70 z70 st70 hQ70
    subst l70 y70 z70
    obtain ⟨v70, N70q, h70q⟩ := hQ70
    have w70 : (fn3 Z (1 : Int32)) = (a_INVALID Z) := by unfold fn3; rw [if_neg (by decide : ¬ ((1 : Int32) = (0 : Int32))), if_pos (by decide : (1 : Int32) = (1 : Int32))]; all_goals first | rfl | decide
    rw [w70] at v70
    subst v70
    have N70 := Fr.app N69 N70q
    obtain ⟨cq71, kq71, q71a, q71b, q71c⟩ := isOf hZ h70q ((e_a_INVALID hS).ext O69.2)
    obtain ⟨_, _, ⟨T71, L71, k71, n71⟩, -, X71, ⟨Lc71, hQ71, l71, y71, z71⟩, st71⟩ := X70.virtualBack hx (y := (⟨"com/example/latchwork/latchwork/Protocol$Outcome", "code", "()I"⟩ : MethodName)) (z := (⟨"com/example/latchwork/latchwork/Protocol$Outcome", "code", "()I"⟩ : MethodName)) hown (mvT hZ (hw _ (List.mem_of_getElem? (i := 37) rfl))) (mvT hZ (hw _ (List.mem_of_getElem? (i := 38) rfl))) (notFace_of_selects (args := #[]) (mvT hZ (hw _ (List.mem_of_getElem? (i := 40) rfl)))) (mvT hZ (hw _ (List.mem_of_getElem? (i := 40) rfl))) (mvT hZ (hw _ (List.mem_of_getElem? (i := 39) rfl))) (by decide) (backOf (W := 0) (rm4 l Z a0 hw hS [] (a_INVALID Z) (1 : Int32) T69.heap n0 O69 ((f_a_INVALID_code hS).ext O69.2)) hZ (hw _ (List.mem_of_getElem? (i := 41) rfl)) (hw _ (List.mem_of_getElem? (i := 3) rfl)) (by decide) (by decide)) q71a q71c (g := (mkF m 22 #[oI p0, oI (1 : Int32), oR (a_INVALID Z)] [(.ref (a_INVALID Z))])) rfl (by rw [hml]; rfl) (Steps.refl _) (argsL := []) (rest := []) (lenOf pd_2 rfl) rfl (by show 2 * 0 + _ ≤ _; exact Nat.le_of_eq rfl) (hb hby at_22) (fun _ _ => ⟨rfl, h70q, (by decide : 1 + 0 ≤ _), (by decide : 10 + 0 ≤ _)⟩)
    dsimp only [Pt.U, Pt.locs, Pt.cells, Pt.slots] at X71 l71 y71 z71 st71 hQ71
    subst l71 y71 z71
    obtain ⟨v71, N71q, K71q⟩ := hQ71
    have w71 : (fn4 Z (a_INVALID Z) (1 : Int32)) = (1 : Int32) := rfl
    rw [w71] at v71
    subst v71
    have N71 := Fr.app N70 N71q
    have O71 := O69.keep K71q all0
    have Kc71 := Kc69.trans K71q all0
    obtain ⟨fs, hr, hrun, hended, hW, hsame⟩ := X71.leave (v := some (.int (1 : Int32))) (fun h => by rw [Bd.returns] at h; cases h)
    refine ⟨_, _, pre65 _ ?_, hrun, hended, _, _, rfl, ?_, ⟨_, rfl⟩, hW, hsame.mono (by decide) (by decide)⟩
    · show oP p e below s₁ (mkF m 7 #[oI p0, oU, oU] [(.int (1 : Int32))]) _
      refine XS.istoreN X0.here hx rfl (hb hby at_7) rfl (l' := #[oI p0, oI (1 : Int32), oU]) rfl ?_
      show oP p e below s₁ (mkF m 8 #[oI p0, oI (1 : Int32), oU] []) _
      refine XS.iloadN X0.here hx rfl (hb hby at_8) rfl ?_
      show oP p e below s₁ (mkF m 9 #[oI p0, oI (1 : Int32), oU] [(.int (1 : Int32))]) _
      refine st69 _ ?_
      show oP p e below T69 (mkF m 12 #[oI p0, oI (1 : Int32), oU] [(.ref (a_INVALID Z))]) _
      refine XS.astoreN X69.here hx rfl (hb hby at_12) rfl rfl (l' := #[oI p0, oI (1 : Int32), oR (a_INVALID Z)]) rfl ?_
      show oP p e below T69 (mkF m 13 #[oI p0, oI (1 : Int32), oR (a_INVALID Z)] []) _
      refine XS.aloadN X69.here hx rfl (hb hby at_13) rfl rfl ?_
      show oP p e below T69 (mkF m 14 #[oI p0, oI (1 : Int32), oR (a_INVALID Z)] [(.ref (a_INVALID Z))]) _
      refine XS.iloadN X69.here hx rfl (hb hby at_14) rfl ?_
      show oP p e below T69 (mkF m 15 #[oI p0, oI (1 : Int32), oR (a_INVALID Z)] [(.int (1 : Int32)), (.ref (a_INVALID Z))]) _
      refine st70 _ ?_
      show oP p e below T70 (mkF m 18 #[oI p0, oI (1 : Int32), oR (a_INVALID Z)] [(.ref (a_INVALID Z)), (.ref (a_INVALID Z))]) _
      refine Jvm.RoadKit.acmp (g := (mkF m 18 #[oI p0, oI (1 : Int32), oR (a_INVALID Z)] [(.ref (a_INVALID Z)), (.ref (a_INVALID Z))])) X70 hx rfl rfl rfl (pc0 := 18) (pc' := 21) (same := true) rfl (hb hby at_18) rfl (decide_eq_true (congrArg Value.ref (rfl : (a_INVALID Z) = (a_INVALID Z)))) (by decide) (by decide) ?_
      show oP p e below T70 (mkF m 21 #[oI p0, oI (1 : Int32), oR (a_INVALID Z)] []) _
      refine XS.aloadN X70.here hx rfl (hb hby at_21) rfl rfl ?_
      show oP p e below T70 (mkF m 22 #[oI p0, oI (1 : Int32), oR (a_INVALID Z)] [(.ref (a_INVALID Z))]) _
      refine st71.trans ?_
      show oP p e below T71 (mkF m 25 #[oI p0, oI (1 : Int32), oR (a_INVALID Z)] [(.int (1 : Int32))]) _
      refine XS.iloadN X71.here hx rfl (hb hby at_25) rfl ?_
      show oP p e below T71 (mkF m 26 #[oI p0, oI (1 : Int32), oR (a_INVALID Z)] [(.int (1 : Int32)), (.int (1 : Int32))]) _
      refine XS.icmpNo X71.here hx rfl (hb hby at_26) rfl (teq (by decide : (1 : Int32) = (1 : Int32))).2 ?_
      show oP p e below T71 (mkF m 29 #[oI p0, oI (1 : Int32), oR (a_INVALID Z)] []) _
      refine XS.iconst X71.here hx rfl (hb hby at_29) ?_
      show oP p e below T71 (mkF m 30 #[oI p0, oI (1 : Int32), oR (a_INVALID Z)] [(.int (1 : Int32))]) _
      refine XS.goto X71.here hx rfl (pc0 := 30) (pc' := 34) rfl (hb hby at_30) (by decide) (by decide) ?_
      show oP p e below T71 (mkF m 34 #[oI p0, oI (1 : Int32), oR (a_INVALID Z)] [(.int (1 : Int32))]) _
      exact retN X71 hx (t := .boolean) Bd.returns (by simp) (hb hby at_34) hr
    · show (some (.int (1 : Int32)) : Option Value) = some (.int (1 : Int32)) ∧ Fr n0 _ ∧ Keep h0 T71.heap []
      exact ⟨rfl, N71, Kc71⟩
  · obtain ⟨_, _, ⟨T72, L72, k72, n72⟩, -, X72, ⟨Lc72, hQ72, l72, y72, z72⟩, st72⟩ := Jvm.LawKit.callS X0 hx (y := (⟨"com/example/latchwork/latchwork/Protocol$Outcome", "of", "(I)Lcom/example/latchwork/latchwork/Protocol$Outcome;"⟩ : MethodName)) hown (mvT hZ (hw _ (List.mem_of_getElem? (i := 1) rfl))) (mvT hZ (hw _ (List.mem_of_getElem? (i := 2) rfl))) (mvT hZ (hw _ (List.mem_of_getElem? (i := 3) rfl))) (mvT hZ (hw _ (List.mem_of_getElem? (i := 4) rfl))) (by decide) (backOf (W := 0) (rm1 l Z a0 hw hS [] (2 : Int32) h0 n0 O0 (by decide)) hZ (hw _ (List.mem_of_getElem? (i := 4) rfl)) (hw _ (List.mem_of_getElem? (i := 3) rfl)) (by decide) (by decide)) (g := (mkF m 9 #[oI p0, oI (2 : Int32), oU] [(.int (2 : Int32))])) rfl (by rw [hml]; rfl) (argsL := [(.int (2 : Int32))]) (rest := []) (lenOf pd_1 rfl) rfl (by show 2 * 0 + _ ≤ _; exact Nat.le_of_eq rfl) (hb hby at_9) (fun _ _ => ⟨rfl, e0, (by decide : 0 + 1 ≤ _), (by decide : 0 + 10 ≤ _)⟩)
    dsimp only [Pt.U, Pt.locs, Pt.cells, Pt.slots] at X72 l72 y72 z72 st72 hQ72
    subst l72 y72 z72
    obtain ⟨v72, N72q, K72q⟩ := hQ72
    have w72 : (fn1 Z (2 : Int32)) = (a_NO_SUCH_NODE Z) := by unfold fn1; rw [if_neg (by decide : ¬ ((0 : Int32) = (2 : Int32))), if_neg (by decide : ¬ ((1 : Int32) = (2 : Int32))), if_pos (by decide : (2 : Int32) = (2 : Int32))]; all_goals first | rfl | decide
    rw [w72] at v72
    subst v72
    have N72 := Fr.app N0 N72q
    have O72 := O0.keep K72q all0
    have Kc72 := (Keep.refl h0 []).trans K72q all0
    obtain ⟨_, _, ⟨T73, L73, k73, n73⟩, -, X73, ⟨Lc73, hQ73, l73, y73, z73⟩, st73⟩ := Jvm.LawKit.callS X72 hx (y := (⟨"com/example/latchwork/latchwork/OutcomeOfPinLaw", "expected", "(I)Lcom/example/latchwork/latchwork/Protocol$Outcome;"⟩ : MethodName)) hown (mvT hZ (hw _ (List.mem_of_getElem? (i := 32) rfl))) (mvT hZ (hw _ (List.mem_of_getElem? (i := 33) rfl))) (mvT hZ (hw _ (List.mem_of_getElem? (i := 34) rfl))) (mvT hZ (hw _ (List.mem_of_getElem? (i := 35) rfl))) (by decide) (backOf (W := 1) (rm3 l Z a0 hw hS [] (2 : Int32) T72.heap n0 O72) hZ (hw _ (List.mem_of_getElem? (i := 35) rfl)) (hw _ (List.mem_of_getElem? (i := 34) rfl)) (by decide) (by decide)) (g := (mkF m 15 #[oI p0, oI (2 : Int32), oR (a_NO_SUCH_NODE Z)] [(.int (2 : Int32)), (.ref (a_NO_SUCH_NODE Z))])) rfl (by rw [hml]; rfl) (argsL := [(.int (2 : Int32))]) (rest := [(.ref (a_NO_SUCH_NODE Z))]) (lenOf pd_1 rfl) rfl (by show 2 * 0 + _ ≤ _; exact Nat.le_of_eq rfl) (hb hby at_15) (fun _ _ => ⟨rfl, rfl, (by decide : 1 + 0 ≤ _), (by decide : 10 + 0 ≤ _)⟩)
    dsimp only [Pt.U, Pt.locs, Pt.cells, Pt.slots] at X73 l73 y73 z73 st73 hQ73
    subst l73 y73 z73
    obtain ⟨v73, N73q, h73q⟩ := hQ73
    have w73 : (fn3 Z (2 : Int32)) = (a_NO_SUCH_NODE Z) := by unfold fn3; rw [if_neg (by decide : ¬ ((2 : Int32) = (0 : Int32))), if_neg (by decide : ¬ ((2 : Int32) = (1 : Int32))), if_pos (by decide : (2 : Int32) = (2 : Int32))]; all_goals first | rfl | decide
    rw [w73] at v73
    subst v73
    have N73 := Fr.app N72 N73q
    obtain ⟨cq74, kq74, q74a, q74b, q74c⟩ := isOf hZ h73q ((e_a_NO_SUCH_NODE hS).ext O72.2)
    obtain ⟨_, _, ⟨T74, L74, k74, n74⟩, -, X74, ⟨Lc74, hQ74, l74, y74, z74⟩, st74⟩ := X73.virtualBack hx (y := (⟨"com/example/latchwork/latchwork/Protocol$Outcome", "code", "()I"⟩ : MethodName)) (z := (⟨"com/example/latchwork/latchwork/Protocol$Outcome", "code", "()I"⟩ : MethodName)) hown (mvT hZ (hw _ (List.mem_of_getElem? (i := 37) rfl))) (mvT hZ (hw _ (List.mem_of_getElem? (i := 38) rfl))) (notFace_of_selects (args := #[]) (mvT hZ (hw _ (List.mem_of_getElem? (i := 40) rfl)))) (mvT hZ (hw _ (List.mem_of_getElem? (i := 40) rfl))) (mvT hZ (hw _ (List.mem_of_getElem? (i := 39) rfl))) (by decide) (backOf (W := 0) (rm4 l Z a0 hw hS [] (a_NO_SUCH_NODE Z) (2 : Int32) T72.heap n0 O72 ((f_a_NO_SUCH_NODE_code hS).ext O72.2)) hZ (hw _ (List.mem_of_getElem? (i := 41) rfl)) (hw _ (List.mem_of_getElem? (i := 3) rfl)) (by decide) (by decide)) q74a q74c (g := (mkF m 22 #[oI p0, oI (2 : Int32), oR (a_NO_SUCH_NODE Z)] [(.ref (a_NO_SUCH_NODE Z))])) rfl (by rw [hml]; rfl) (Steps.refl _) (argsL := []) (rest := []) (lenOf pd_2 rfl) rfl (by show 2 * 0 + _ ≤ _; exact Nat.le_of_eq rfl) (hb hby at_22) (fun _ _ => ⟨rfl, h73q, (by decide : 1 + 0 ≤ _), (by decide : 10 + 0 ≤ _)⟩)
    dsimp only [Pt.U, Pt.locs, Pt.cells, Pt.slots] at X74 l74 y74 z74 st74 hQ74
    subst l74 y74 z74
    obtain ⟨v74, N74q, K74q⟩ := hQ74
    have w74 : (fn4 Z (a_NO_SUCH_NODE Z) (2 : Int32)) = (2 : Int32) := rfl
    rw [w74] at v74
    subst v74
    have N74 := Fr.app N73 N74q
    have O74 := O72.keep K74q all0
    have Kc74 := Kc72.trans K74q all0
    obtain ⟨fs, hr, hrun, hended, hW, hsame⟩ := X74.leave (v := some (.int (1 : Int32))) (fun h => by rw [Bd.returns] at h; cases h)
    refine ⟨_, _, pre65 _ ?_, hrun, hended, _, _, rfl, ?_, ⟨_, rfl⟩, hW, hsame.mono (by decide) (by decide)⟩
    · show oP p e below s₁ (mkF m 7 #[oI p0, oU, oU] [(.int (2 : Int32))]) _
      refine XS.istoreN X0.here hx rfl (hb hby at_7) rfl (l' := #[oI p0, oI (2 : Int32), oU]) rfl ?_
      show oP p e below s₁ (mkF m 8 #[oI p0, oI (2 : Int32), oU] []) _
      refine XS.iloadN X0.here hx rfl (hb hby at_8) rfl ?_
      show oP p e below s₁ (mkF m 9 #[oI p0, oI (2 : Int32), oU] [(.int (2 : Int32))]) _
      refine st72 _ ?_
      show oP p e below T72 (mkF m 12 #[oI p0, oI (2 : Int32), oU] [(.ref (a_NO_SUCH_NODE Z))]) _
      refine XS.astoreN X72.here hx rfl (hb hby at_12) rfl rfl (l' := #[oI p0, oI (2 : Int32), oR (a_NO_SUCH_NODE Z)]) rfl ?_
      show oP p e below T72 (mkF m 13 #[oI p0, oI (2 : Int32), oR (a_NO_SUCH_NODE Z)] []) _
      refine XS.aloadN X72.here hx rfl (hb hby at_13) rfl rfl ?_
      show oP p e below T72 (mkF m 14 #[oI p0, oI (2 : Int32), oR (a_NO_SUCH_NODE Z)] [(.ref (a_NO_SUCH_NODE Z))]) _
      refine XS.iloadN X72.here hx rfl (hb hby at_14) rfl ?_
      show oP p e below T72 (mkF m 15 #[oI p0, oI (2 : Int32), oR (a_NO_SUCH_NODE Z)] [(.int (2 : Int32)), (.ref (a_NO_SUCH_NODE Z))]) _
      refine st73 _ ?_
      show oP p e below T73 (mkF m 18 #[oI p0, oI (2 : Int32), oR (a_NO_SUCH_NODE Z)] [(.ref (a_NO_SUCH_NODE Z)), (.ref (a_NO_SUCH_NODE Z))]) _
      refine Jvm.RoadKit.acmp (g := (mkF m 18 #[oI p0, oI (2 : Int32), oR (a_NO_SUCH_NODE Z)] [(.ref (a_NO_SUCH_NODE Z)), (.ref (a_NO_SUCH_NODE Z))])) X73 hx rfl rfl rfl (pc0 := 18) (pc' := 21) (same := true) rfl (hb hby at_18) rfl (decide_eq_true (congrArg Value.ref (rfl : (a_NO_SUCH_NODE Z) = (a_NO_SUCH_NODE Z)))) (by decide) (by decide) ?_
      show oP p e below T73 (mkF m 21 #[oI p0, oI (2 : Int32), oR (a_NO_SUCH_NODE Z)] []) _
      refine XS.aloadN X73.here hx rfl (hb hby at_21) rfl rfl ?_
      show oP p e below T73 (mkF m 22 #[oI p0, oI (2 : Int32), oR (a_NO_SUCH_NODE Z)] [(.ref (a_NO_SUCH_NODE Z))]) _
      refine st74.trans ?_
      show oP p e below T74 (mkF m 25 #[oI p0, oI (2 : Int32), oR (a_NO_SUCH_NODE Z)] [(.int (2 : Int32))]) _
      refine XS.iloadN X74.here hx rfl (hb hby at_25) rfl ?_
      show oP p e below T74 (mkF m 26 #[oI p0, oI (2 : Int32), oR (a_NO_SUCH_NODE Z)] [(.int (2 : Int32)), (.int (2 : Int32))]) _
      refine XS.icmpNo X74.here hx rfl (hb hby at_26) rfl (teq (by decide : (2 : Int32) = (2 : Int32))).2 ?_
      show oP p e below T74 (mkF m 29 #[oI p0, oI (2 : Int32), oR (a_NO_SUCH_NODE Z)] []) _
      refine XS.iconst X74.here hx rfl (hb hby at_29) ?_
      show oP p e below T74 (mkF m 30 #[oI p0, oI (2 : Int32), oR (a_NO_SUCH_NODE Z)] [(.int (1 : Int32))]) _
      refine XS.goto X74.here hx rfl (pc0 := 30) (pc' := 34) rfl (hb hby at_30) (by decide) (by decide) ?_
      show oP p e below T74 (mkF m 34 #[oI p0, oI (2 : Int32), oR (a_NO_SUCH_NODE Z)] [(.int (1 : Int32))]) _
      exact retN X74 hx (t := .boolean) Bd.returns (by simp) (hb hby at_34) hr
    · show (some (.int (1 : Int32)) : Option Value) = some (.int (1 : Int32)) ∧ Fr n0 _ ∧ Keep h0 T74.heap []
      exact ⟨rfl, N74, Kc74⟩
  · obtain ⟨_, _, ⟨T75, L75, k75, n75⟩, -, X75, ⟨Lc75, hQ75, l75, y75, z75⟩, st75⟩ := Jvm.LawKit.callS X0 hx (y := (⟨"com/example/latchwork/latchwork/Protocol$Outcome", "of", "(I)Lcom/example/latchwork/latchwork/Protocol$Outcome;"⟩ : MethodName)) hown (mvT hZ (hw _ (List.mem_of_getElem? (i := 1) rfl))) (mvT hZ (hw _ (List.mem_of_getElem? (i := 2) rfl))) (mvT hZ (hw _ (List.mem_of_getElem? (i := 3) rfl))) (mvT hZ (hw _ (List.mem_of_getElem? (i := 4) rfl))) (by decide) (backOf (W := 0) (rm1 l Z a0 hw hS [] (3 : Int32) h0 n0 O0 (by decide)) hZ (hw _ (List.mem_of_getElem? (i := 4) rfl)) (hw _ (List.mem_of_getElem? (i := 3) rfl)) (by decide) (by decide)) (g := (mkF m 9 #[oI p0, oI (3 : Int32), oU] [(.int (3 : Int32))])) rfl (by rw [hml]; rfl) (argsL := [(.int (3 : Int32))]) (rest := []) (lenOf pd_1 rfl) rfl (by show 2 * 0 + _ ≤ _; exact Nat.le_of_eq rfl) (hb hby at_9) (fun _ _ => ⟨rfl, e0, (by decide : 0 + 1 ≤ _), (by decide : 0 + 10 ≤ _)⟩)
    dsimp only [Pt.U, Pt.locs, Pt.cells, Pt.slots] at X75 l75 y75 z75 st75 hQ75
    subst l75 y75 z75
    obtain ⟨v75, N75q, K75q⟩ := hQ75
    have w75 : (fn1 Z (3 : Int32)) = (a_LOCK_BUSY Z) := by unfold fn1; rw [if_neg (by decide : ¬ ((0 : Int32) = (3 : Int32))), if_neg (by decide : ¬ ((1 : Int32) = (3 : Int32))), if_neg (by decide : ¬ ((2 : Int32) = (3 : Int32))), if_pos (by decide : (3 : Int32) = (3 : Int32))]; all_goals first | rfl | decide
    rw [w75] at v75
    subst v75
    have N75 := Fr.app N0 N75q
    have O75 := O0.keep K75q all0
    have Kc75 := (Keep.refl h0 []).trans K75q all0
    obtain ⟨_, _, ⟨T76, L76, k76, n76⟩, -, X76, ⟨Lc76, hQ76, l76, y76, z76⟩, st76⟩ := Jvm.LawKit.callS X75 hx (y := (⟨"com/example/latchwork/latchwork/OutcomeOfPinLaw", "expected", "(I)Lcom/example/latchwork/latchwork/Protocol$Outcome;"⟩ : MethodName)) hown (mvT hZ (hw _ (List.mem_of_getElem? (i := 32) rfl))) (mvT hZ (hw _ (List.mem_of_getElem? (i := 33) rfl))) (mvT hZ (hw _ (List.mem_of_getElem? (i := 34) rfl))) (mvT hZ (hw _ (List.mem_of_getElem? (i := 35) rfl))) (by decide) (backOf (W := 1) (rm3 l Z a0 hw hS [] (3 : Int32) T75.heap n0 O75) hZ (hw _ (List.mem_of_getElem? (i := 35) rfl)) (hw _ (List.mem_of_getElem? (i := 34) rfl)) (by decide) (by decide)) (g := (mkF m 15 #[oI p0, oI (3 : Int32), oR (a_LOCK_BUSY Z)] [(.int (3 : Int32)), (.ref (a_LOCK_BUSY Z))])) rfl (by rw [hml]; rfl) (argsL := [(.int (3 : Int32))]) (rest := [(.ref (a_LOCK_BUSY Z))]) (lenOf pd_1 rfl) rfl (by show 2 * 0 + _ ≤ _; exact Nat.le_of_eq rfl) (hb hby at_15) (fun _ _ => ⟨rfl, rfl, (by decide : 1 + 0 ≤ _), (by decide : 10 + 0 ≤ _)⟩)
    dsimp only [Pt.U, Pt.locs, Pt.cells, Pt.slots] at X76 l76 y76 z76 st76 hQ76
    subst l76 y76 z76
    obtain ⟨v76, N76q, h76q⟩ := hQ76
    have w76 : (fn3 Z (3 : Int32)) = (a_LOCK_BUSY Z) := by unfold fn3; rw [if_neg (by decide : ¬ ((3 : Int32) = (0 : Int32))), if_neg (by decide : ¬ ((3 : Int32) = (1 : Int32))), if_neg (by decide : ¬ ((3 : Int32) = (2 : Int32))), if_pos (by decide : (3 : Int32) = (3 : Int32))]; all_goals first | rfl | decide
    rw [w76] at v76
    subst v76
    have N76 := Fr.app N75 N76q
    obtain ⟨cq77, kq77, q77a, q77b, q77c⟩ := isOf hZ h76q ((e_a_LOCK_BUSY hS).ext O75.2)
    obtain ⟨_, _, ⟨T77, L77, k77, n77⟩, -, X77, ⟨Lc77, hQ77, l77, y77, z77⟩, st77⟩ := X76.virtualBack hx (y := (⟨"com/example/latchwork/latchwork/Protocol$Outcome", "code", "()I"⟩ : MethodName)) (z := (⟨"com/example/latchwork/latchwork/Protocol$Outcome", "code", "()I"⟩ : MethodName)) hown (mvT hZ (hw _ (List.mem_of_getElem? (i := 37) rfl))) (mvT hZ (hw _ (List.mem_of_getElem? (i := 38) rfl))) (notFace_of_selects (args := #[]) (mvT hZ (hw _ (List.mem_of_getElem? (i := 40) rfl)))) (mvT hZ (hw _ (List.mem_of_getElem? (i := 40) rfl))) (mvT hZ (hw _ (List.mem_of_getElem? (i := 39) rfl))) (by decide) (backOf (W := 0) (rm4 l Z a0 hw hS [] (a_LOCK_BUSY Z) (3 : Int32) T75.heap n0 O75 ((f_a_LOCK_BUSY_code hS).ext O75.2)) hZ (hw _ (List.mem_of_getElem? (i := 41) rfl)) (hw _ (List.mem_of_getElem? (i := 3) rfl)) (by decide) (by decide)) q77a q77c (g := (mkF m 22 #[oI p0, oI (3 : Int32), oR (a_LOCK_BUSY Z)] [(.ref (a_LOCK_BUSY Z))])) rfl (by rw [hml]; rfl) (Steps.refl _) (argsL := []) (rest := []) (lenOf pd_2 rfl) rfl (by show 2 * 0 + _ ≤ _; exact Nat.le_of_eq rfl) (hb hby at_22) (fun _ _ => ⟨rfl, h76q, (by decide : 1 + 0 ≤ _), (by decide : 10 + 0 ≤ _)⟩)
    dsimp only [Pt.U, Pt.locs, Pt.cells, Pt.slots] at X77 l77 y77 z77 st77 hQ77
    subst l77 y77 z77
    obtain ⟨v77, N77q, K77q⟩ := hQ77
    have w77 : (fn4 Z (a_LOCK_BUSY Z) (3 : Int32)) = (3 : Int32) := rfl
    rw [w77] at v77
    subst v77
    have N77 := Fr.app N76 N77q
    have O77 := O75.keep K77q all0
    have Kc77 := Kc75.trans K77q all0
    obtain ⟨fs, hr, hrun, hended, hW, hsame⟩ := X77.leave (v := some (.int (1 : Int32))) (fun h => by rw [Bd.returns] at h; cases h)
    refine ⟨_, _, pre65 _ ?_, hrun, hended, _, _, rfl, ?_, ⟨_, rfl⟩, hW, hsame.mono (by decide) (by decide)⟩
    · show oP p e below s₁ (mkF m 7 #[oI p0, oU, oU] [(.int (3 : Int32))]) _
      refine XS.istoreN X0.here hx rfl (hb hby at_7) rfl (l' := #[oI p0, oI (3 : Int32), oU]) rfl ?_
      show oP p e below s₁ (mkF m 8 #[oI p0, oI (3 : Int32), oU] []) _
      refine XS.iloadN X0.here hx rfl (hb hby at_8) rfl ?_
      show oP p e below s₁ (mkF m 9 #[oI p0, oI (3 : Int32), oU] [(.int (3 : Int32))]) _
      refine st75 _ ?_
      show oP p e below T75 (mkF m 12 #[oI p0, oI (3 : Int32), oU] [(.ref (a_LOCK_BUSY Z))]) _
      refine XS.astoreN X75.here hx rfl (hb hby at_12) rfl rfl (l' := #[oI p0, oI (3 : Int32), oR (a_LOCK_BUSY Z)]) rfl ?_
      show oP p e below T75 (mkF m 13 #[oI p0, oI (3 : Int32), oR (a_LOCK_BUSY Z)] []) _
      refine XS.aloadN X75.here hx rfl (hb hby at_13) rfl rfl ?_
      show oP p e below T75 (mkF m 14 #[oI p0, oI (3 : Int32), oR (a_LOCK_BUSY Z)] [(.ref (a_LOCK_BUSY Z))]) _
      refine XS.iloadN X75.here hx rfl (hb hby at_14) rfl ?_
      show oP p e below T75 (mkF m 15 #[oI p0, oI (3 : Int32), oR (a_LOCK_BUSY Z)] [(.int (3 : Int32)), (.ref (a_LOCK_BUSY Z))]) _
      refine st76 _ ?_
      show oP p e below T76 (mkF m 18 #[oI p0, oI (3 : Int32), oR (a_LOCK_BUSY Z)] [(.ref (a_LOCK_BUSY Z)), (.ref (a_LOCK_BUSY Z))]) _
      refine Jvm.RoadKit.acmp (g := (mkF m 18 #[oI p0, oI (3 : Int32), oR (a_LOCK_BUSY Z)] [(.ref (a_LOCK_BUSY Z)), (.ref (a_LOCK_BUSY Z))])) X76 hx rfl rfl rfl (pc0 := 18) (pc' := 21) (same := true) rfl (hb hby at_18) rfl (decide_eq_true (congrArg Value.ref (rfl : (a_LOCK_BUSY Z) = (a_LOCK_BUSY Z)))) (by decide) (by decide) ?_
      show oP p e below T76 (mkF m 21 #[oI p0, oI (3 : Int32), oR (a_LOCK_BUSY Z)] []) _
      refine XS.aloadN X76.here hx rfl (hb hby at_21) rfl rfl ?_
      show oP p e below T76 (mkF m 22 #[oI p0, oI (3 : Int32), oR (a_LOCK_BUSY Z)] [(.ref (a_LOCK_BUSY Z))]) _
      refine st77.trans ?_
      show oP p e below T77 (mkF m 25 #[oI p0, oI (3 : Int32), oR (a_LOCK_BUSY Z)] [(.int (3 : Int32))]) _
      refine XS.iloadN X77.here hx rfl (hb hby at_25) rfl ?_
      show oP p e below T77 (mkF m 26 #[oI p0, oI (3 : Int32), oR (a_LOCK_BUSY Z)] [(.int (3 : Int32)), (.int (3 : Int32))]) _
      refine XS.icmpNo X77.here hx rfl (hb hby at_26) rfl (teq (by decide : (3 : Int32) = (3 : Int32))).2 ?_
      show oP p e below T77 (mkF m 29 #[oI p0, oI (3 : Int32), oR (a_LOCK_BUSY Z)] []) _
      refine XS.iconst X77.here hx rfl (hb hby at_29) ?_
      show oP p e below T77 (mkF m 30 #[oI p0, oI (3 : Int32), oR (a_LOCK_BUSY Z)] [(.int (1 : Int32))]) _
      refine XS.goto X77.here hx rfl (pc0 := 30) (pc' := 34) rfl (hb hby at_30) (by decide) (by decide) ?_
      show oP p e below T77 (mkF m 34 #[oI p0, oI (3 : Int32), oR (a_LOCK_BUSY Z)] [(.int (1 : Int32))]) _
      exact retN X77 hx (t := .boolean) Bd.returns (by simp) (hb hby at_34) hr
    · show (some (.int (1 : Int32)) : Option Value) = some (.int (1 : Int32)) ∧ Fr n0 _ ∧ Keep h0 T77.heap []
      exact ⟨rfl, N77, Kc77⟩
  · obtain ⟨_, _, ⟨T78, L78, k78, n78⟩, -, X78, ⟨Lc78, hQ78, l78, y78, z78⟩, st78⟩ := Jvm.LawKit.callS X0 hx (y := (⟨"com/example/latchwork/latchwork/Protocol$Outcome", "of", "(I)Lcom/example/latchwork/latchwork/Protocol$Outcome;"⟩ : MethodName)) hown (mvT hZ (hw _ (List.mem_of_getElem? (i := 1) rfl))) (mvT hZ (hw _ (List.mem_of_getElem? (i := 2) rfl))) (mvT hZ (hw _ (List.mem_of_getElem? (i := 3) rfl))) (mvT hZ (hw _ (List.mem_of_getElem? (i := 4) rfl))) (by decide) (backOf (W := 0) (rm1 l Z a0 hw hS [] (4 : Int32) h0 n0 O0 (by decide)) hZ (hw _ (List.mem_of_getElem? (i := 4) rfl)) (hw _ (List.mem_of_getElem? (i := 3) rfl)) (by decide) (by decide)) (g := (mkF m 9 #[oI p0, oI (4 : Int32), oU] [(.int (4 : Int32))])) rfl (by rw [hml]; rfl) (argsL := [(.int (4 : Int32))]) (rest := []) (lenOf pd_1 rfl) rfl (by show 2 * 0 + _ ≤ _; exact Nat.le_of_eq rfl) (hb hby at_9) (fun _ _ => ⟨rfl, e0, (by decide : 0 + 1 ≤ _), (by decide : 0 + 10 ≤ _)⟩)
    dsimp only [Pt.U, Pt.locs, Pt.cells, Pt.slots] at X78 l78 y78 z78 st78 hQ78
    subst l78 y78 z78
    obtain ⟨v78, N78q, K78q⟩ := hQ78
    have w78 : (fn1 Z (4 : Int32)) = (a_SESSION_EXPIRED Z) := by unfold fn1; rw [if_neg (by decide : ¬ ((0 : Int32) = (4 : Int32))), if_neg (by decide : ¬ ((1 : Int32) = (4 : Int32))), if_neg (by decide : ¬ ((2 : Int32) = (4 : Int32))), if_neg (by decide : ¬ ((3 : Int32) = (4 : Int32))), if_pos (by decide : (4 : Int32) = (4 : Int32))]; all_goals first | rfl | decide
    rw [w78] at v78
    subst v78
    have N78 := Fr.app N0 N78q
    have O78 := O0.keep K78q all0
    have Kc78 := (Keep.refl h0 []).trans K78q all0
    obtain ⟨_, _, ⟨T79, L79, k79, n79⟩, -, X79, ⟨Lc79, hQ79, l79, y79, z79⟩, st79⟩ := Jvm.LawKit.callS X78 hx (y := (⟨"com/example/latchwork/latchwork/OutcomeOfPinLaw", "expected", "(I)Lcom/example/latchwork/latchwork/Protocol$Outcome;"⟩ : MethodName)) hown (mvT hZ (hw _ (List.mem_of_getElem? (i := 32) rfl))) (mvT hZ (hw _ (List.mem_of_getElem? (i := 33) rfl))) (mvT hZ (hw _ (List.mem_of_getElem? (i := 34) rfl))) (mvT hZ (hw _ (List.mem_of_getElem? (i := 35) rfl))) (by decide) (backOf (W := 1) (rm3 l Z a0 hw hS [] (4 : Int32) T78.heap n0 O78) hZ (hw _ (List.mem_of_getElem? (i := 35) rfl)) (hw _ (List.mem_of_getElem? (i := 34) rfl)) (by decide) (by decide)) (g := (mkF m 15 #[oI p0, oI (4 : Int32), oR (a_SESSION_EXPIRED Z)] [(.int (4 : Int32)), (.ref (a_SESSION_EXPIRED Z))])) rfl (by rw [hml]; rfl) (argsL := [(.int (4 : Int32))]) (rest := [(.ref (a_SESSION_EXPIRED Z))]) (lenOf pd_1 rfl) rfl (by show 2 * 0 + _ ≤ _; exact Nat.le_of_eq rfl) (hb hby at_15) (fun _ _ => ⟨rfl, rfl, (by decide : 1 + 0 ≤ _), (by decide : 10 + 0 ≤ _)⟩)
    dsimp only [Pt.U, Pt.locs, Pt.cells, Pt.slots] at X79 l79 y79 z79 st79 hQ79
    subst l79 y79 z79
    obtain ⟨v79, N79q, h79q⟩ := hQ79
    have w79 : (fn3 Z (4 : Int32)) = (a_SESSION_EXPIRED Z) := by unfold fn3; rw [if_neg (by decide : ¬ ((4 : Int32) = (0 : Int32))), if_neg (by decide : ¬ ((4 : Int32) = (1 : Int32))), if_neg (by decide : ¬ ((4 : Int32) = (2 : Int32))), if_neg (by decide : ¬ ((4 : Int32) = (3 : Int32))), if_pos (by decide : (4 : Int32) = (4 : Int32))]; all_goals first | rfl | decide
    rw [w79] at v79
    subst v79
    have N79 := Fr.app N78 N79q
    obtain ⟨cq80, kq80, q80a, q80b, q80c⟩ := isOf hZ h79q ((e_a_SESSION_EXPIRED hS).ext O78.2)
    obtain ⟨_, _, ⟨T80, L80, k80, n80⟩, -, X80, ⟨Lc80, hQ80, l80, y80, z80⟩, st80⟩ := X79.virtualBack hx (y := (⟨"com/example/latchwork/latchwork/Protocol$Outcome", "code", "()I"⟩ : MethodName)) (z := (⟨"com/example/latchwork/latchwork/Protocol$Outcome", "code", "()I"⟩ : MethodName)) hown (mvT hZ (hw _ (List.mem_of_getElem? (i := 37) rfl))) (mvT hZ (hw _ (List.mem_of_getElem? (i := 38) rfl))) (notFace_of_selects (args := #[]) (mvT hZ (hw _ (List.mem_of_getElem? (i := 40) rfl)))) (mvT hZ (hw _ (List.mem_of_getElem? (i := 40) rfl))) (mvT hZ (hw _ (List.mem_of_getElem? (i := 39) rfl))) (by decide) (backOf (W := 0) (rm4 l Z a0 hw hS [] (a_SESSION_EXPIRED Z) (4 : Int32) T78.heap n0 O78 ((f_a_SESSION_EXPIRED_code hS).ext O78.2)) hZ (hw _ (List.mem_of_getElem? (i := 41) rfl)) (hw _ (List.mem_of_getElem? (i := 3) rfl)) (by decide) (by decide)) q80a q80c (g := (mkF m 22 #[oI p0, oI (4 : Int32), oR (a_SESSION_EXPIRED Z)] [(.ref (a_SESSION_EXPIRED Z))])) rfl (by rw [hml]; rfl) (Steps.refl _) (argsL := []) (rest := []) (lenOf pd_2 rfl) rfl (by show 2 * 0 + _ ≤ _; exact Nat.le_of_eq rfl) (hb hby at_22) (fun _ _ => ⟨rfl, h79q, (by decide : 1 + 0 ≤ _), (by decide : 10 + 0 ≤ _)⟩)
    dsimp only [Pt.U, Pt.locs, Pt.cells, Pt.slots] at X80 l80 y80 z80 st80 hQ80
    subst l80 y80 z80
    obtain ⟨v80, N80q, K80q⟩ := hQ80
    have w80 : (fn4 Z (a_SESSION_EXPIRED Z) (4 : Int32)) = (4 : Int32) := rfl
    rw [w80] at v80
    subst v80
    have N80 := Fr.app N79 N80q
    have O80 := O78.keep K80q all0
    have Kc80 := Kc78.trans K80q all0
    obtain ⟨fs, hr, hrun, hended, hW, hsame⟩ := X80.leave (v := some (.int (1 : Int32))) (fun h => by rw [Bd.returns] at h; cases h)
    refine ⟨_, _, pre65 _ ?_, hrun, hended, _, _, rfl, ?_, ⟨_, rfl⟩, hW, hsame.mono (by decide) (by decide)⟩
    · show oP p e below s₁ (mkF m 7 #[oI p0, oU, oU] [(.int (4 : Int32))]) _
      refine XS.istoreN X0.here hx rfl (hb hby at_7) rfl (l' := #[oI p0, oI (4 : Int32), oU]) rfl ?_
      show oP p e below s₁ (mkF m 8 #[oI p0, oI (4 : Int32), oU] []) _
      refine XS.iloadN X0.here hx rfl (hb hby at_8) rfl ?_
      show oP p e below s₁ (mkF m 9 #[oI p0, oI (4 : Int32), oU] [(.int (4 : Int32))]) _
      refine st78 _ ?_
      show oP p e below T78 (mkF m 12 #[oI p0, oI (4 : Int32), oU] [(.ref (a_SESSION_EXPIRED Z))]) _
      refine XS.astoreN X78.here hx rfl (hb hby at_12) rfl rfl (l' := #[oI p0, oI (4 : Int32), oR (a_SESSION_EXPIRED Z)]) rfl ?_
      show oP p e below T78 (mkF m 13 #[oI p0, oI (4 : Int32), oR (a_SESSION_EXPIRED Z)] []) _
      refine XS.aloadN X78.here hx rfl (hb hby at_13) rfl rfl ?_
      show oP p e below T78 (mkF m 14 #[oI p0, oI (4 : Int32), oR (a_SESSION_EXPIRED Z)] [(.ref (a_SESSION_EXPIRED Z))]) _
      refine XS.iloadN X78.here hx rfl (hb hby at_14) rfl ?_
      show oP p e below T78 (mkF m 15 #[oI p0, oI (4 : Int32), oR (a_SESSION_EXPIRED Z)] [(.int (4 : Int32)), (.ref (a_SESSION_EXPIRED Z))]) _
      refine st79 _ ?_
      show oP p e below T79 (mkF m 18 #[oI p0, oI (4 : Int32), oR (a_SESSION_EXPIRED Z)] [(.ref (a_SESSION_EXPIRED Z)), (.ref (a_SESSION_EXPIRED Z))]) _
      refine Jvm.RoadKit.acmp (g := (mkF m 18 #[oI p0, oI (4 : Int32), oR (a_SESSION_EXPIRED Z)] [(.ref (a_SESSION_EXPIRED Z)), (.ref (a_SESSION_EXPIRED Z))])) X79 hx rfl rfl rfl (pc0 := 18) (pc' := 21) (same := true) rfl (hb hby at_18) rfl (decide_eq_true (congrArg Value.ref (rfl : (a_SESSION_EXPIRED Z) = (a_SESSION_EXPIRED Z)))) (by decide) (by decide) ?_
      show oP p e below T79 (mkF m 21 #[oI p0, oI (4 : Int32), oR (a_SESSION_EXPIRED Z)] []) _
      refine XS.aloadN X79.here hx rfl (hb hby at_21) rfl rfl ?_
      show oP p e below T79 (mkF m 22 #[oI p0, oI (4 : Int32), oR (a_SESSION_EXPIRED Z)] [(.ref (a_SESSION_EXPIRED Z))]) _
      refine st80.trans ?_
      show oP p e below T80 (mkF m 25 #[oI p0, oI (4 : Int32), oR (a_SESSION_EXPIRED Z)] [(.int (4 : Int32))]) _
      refine XS.iloadN X80.here hx rfl (hb hby at_25) rfl ?_
      show oP p e below T80 (mkF m 26 #[oI p0, oI (4 : Int32), oR (a_SESSION_EXPIRED Z)] [(.int (4 : Int32)), (.int (4 : Int32))]) _
      refine XS.icmpNo X80.here hx rfl (hb hby at_26) rfl (teq (by decide : (4 : Int32) = (4 : Int32))).2 ?_
      show oP p e below T80 (mkF m 29 #[oI p0, oI (4 : Int32), oR (a_SESSION_EXPIRED Z)] []) _
      refine XS.iconst X80.here hx rfl (hb hby at_29) ?_
      show oP p e below T80 (mkF m 30 #[oI p0, oI (4 : Int32), oR (a_SESSION_EXPIRED Z)] [(.int (1 : Int32))]) _
      refine XS.goto X80.here hx rfl (pc0 := 30) (pc' := 34) rfl (hb hby at_30) (by decide) (by decide) ?_
      show oP p e below T80 (mkF m 34 #[oI p0, oI (4 : Int32), oR (a_SESSION_EXPIRED Z)] [(.int (1 : Int32))]) _
      exact retN X80 hx (t := .boolean) Bd.returns (by simp) (hb hby at_34) hr
    · show (some (.int (1 : Int32)) : Option Value) = some (.int (1 : Int32)) ∧ Fr n0 _ ∧ Keep h0 T80.heap []
      exact ⟨rfl, N80, Kc80⟩
  · obtain ⟨_, _, ⟨T81, L81, k81, n81⟩, -, X81, ⟨Lc81, hQ81, l81, y81, z81⟩, st81⟩ := Jvm.LawKit.callS X0 hx (y := (⟨"com/example/latchwork/latchwork/Protocol$Outcome", "of", "(I)Lcom/example/latchwork/latchwork/Protocol$Outcome;"⟩ : MethodName)) hown (mvT hZ (hw _ (List.mem_of_getElem? (i := 1) rfl))) (mvT hZ (hw _ (List.mem_of_getElem? (i := 2) rfl))) (mvT hZ (hw _ (List.mem_of_getElem? (i := 3) rfl))) (mvT hZ (hw _ (List.mem_of_getElem? (i := 4) rfl))) (by decide) (backOf (W := 0) (rm1 l Z a0 hw hS [] (5 : Int32) h0 n0 O0 (by decide)) hZ (hw _ (List.mem_of_getElem? (i := 4) rfl)) (hw _ (List.mem_of_getElem? (i := 3) rfl)) (by decide) (by decide)) (g := (mkF m 9 #[oI p0, oI (5 : Int32), oU] [(.int (5 : Int32))])) rfl (by rw [hml]; rfl) (argsL := [(.int (5 : Int32))]) (rest := []) (lenOf pd_1 rfl) rfl (by show 2 * 0 + _ ≤ _; exact Nat.le_of_eq rfl) (hb hby at_9) (fun _ _ => ⟨rfl, e0, (by decide : 0 + 1 ≤ _), (by decide : 0 + 10 ≤ _)⟩)
    dsimp only [Pt.U, Pt.locs, Pt.cells, Pt.slots] at X81 l81 y81 z81 st81 hQ81
    subst l81 y81 z81
    obtain ⟨v81, N81q, K81q⟩ := hQ81
    have w81 : (fn1 Z (5 : Int32)) = (a_CONDITION_FAILED Z) := by unfold fn1; rw [if_neg (by decide : ¬ ((0 : Int32) = (5 : Int32))), if_neg (by decide : ¬ ((1 : Int32) = (5 : Int32))), if_neg (by decide : ¬ ((2 : Int32) = (5 : Int32))), if_neg (by decide : ¬ ((3 : Int32) = (5 : Int32))), if_neg (by decide : ¬ ((4 : Int32) = (5 : Int32))), if_pos (by decide : (5 : Int32) = (5 : Int32))]; all_goals first | rfl | decide
    rw [w81] at v81
    subst v81
    have N81 := Fr.app N0 N81q
    have O81 := O0.keep K81q all0
    have Kc81 := (Keep.refl h0 []).trans K81q all0
    obtain ⟨_, _, ⟨T82, L82, k82, n82⟩, -, X82, ⟨Lc82, hQ82, l82, y82, z82⟩, st82⟩ := Jvm.LawKit.callS X81 hx (y := (⟨"com/example/latchwork/latchwork/OutcomeOfPinLaw", "expected", "(I)Lcom/example/latchwork/latchwork/Protocol$Outcome;"⟩ : MethodName)) hown (mvT hZ (hw _ (List.mem_of_getElem? (i := 32) rfl))) (mvT hZ (hw _ (List.mem_of_getElem? (i := 33) rfl))) (mvT hZ (hw _ (List.mem_of_getElem? (i := 34) rfl))) (mvT hZ (hw _ (List.mem_of_getElem? (i := 35) rfl))) (by decide) (backOf (W := 1) (rm3 l Z a0 hw hS [] (5 : Int32) T81.heap n0 O81) hZ (hw _ (List.mem_of_getElem? (i := 35) rfl)) (hw _ (List.mem_of_getElem? (i := 34) rfl)) (by decide) (by decide)) (g := (mkF m 15 #[oI p0, oI (5 : Int32), oR (a_CONDITION_FAILED Z)] [(.int (5 : Int32)), (.ref (a_CONDITION_FAILED Z))])) rfl (by rw [hml]; rfl) (argsL := [(.int (5 : Int32))]) (rest := [(.ref (a_CONDITION_FAILED Z))]) (lenOf pd_1 rfl) rfl (by show 2 * 0 + _ ≤ _; exact Nat.le_of_eq rfl) (hb hby at_15) (fun _ _ => ⟨rfl, rfl, (by decide : 1 + 0 ≤ _), (by decide : 10 + 0 ≤ _)⟩)
    dsimp only [Pt.U, Pt.locs, Pt.cells, Pt.slots] at X82 l82 y82 z82 st82 hQ82
    subst l82 y82 z82
    obtain ⟨v82, N82q, h82q⟩ := hQ82
    have w82 : (fn3 Z (5 : Int32)) = (a_CONDITION_FAILED Z) := by unfold fn3; rw [if_neg (by decide : ¬ ((5 : Int32) = (0 : Int32))), if_neg (by decide : ¬ ((5 : Int32) = (1 : Int32))), if_neg (by decide : ¬ ((5 : Int32) = (2 : Int32))), if_neg (by decide : ¬ ((5 : Int32) = (3 : Int32))), if_neg (by decide : ¬ ((5 : Int32) = (4 : Int32))), if_pos (by decide : (5 : Int32) = (5 : Int32))]; all_goals first | rfl | decide
    rw [w82] at v82
    subst v82
    have N82 := Fr.app N81 N82q
    obtain ⟨cq83, kq83, q83a, q83b, q83c⟩ := isOf hZ h82q ((e_a_CONDITION_FAILED hS).ext O81.2)
    obtain ⟨_, _, ⟨T83, L83, k83, n83⟩, -, X83, ⟨Lc83, hQ83, l83, y83, z83⟩, st83⟩ := X82.virtualBack hx (y := (⟨"com/example/latchwork/latchwork/Protocol$Outcome", "code", "()I"⟩ : MethodName)) (z := (⟨"com/example/latchwork/latchwork/Protocol$Outcome", "code", "()I"⟩ : MethodName)) hown (mvT hZ (hw _ (List.mem_of_getElem? (i := 37) rfl))) (mvT hZ (hw _ (List.mem_of_getElem? (i := 38) rfl))) (notFace_of_selects (args := #[]) (mvT hZ (hw _ (List.mem_of_getElem? (i := 40) rfl)))) (mvT hZ (hw _ (List.mem_of_getElem? (i := 40) rfl))) (mvT hZ (hw _ (List.mem_of_getElem? (i := 39) rfl))) (by decide) (backOf (W := 0) (rm4 l Z a0 hw hS [] (a_CONDITION_FAILED Z) (5 : Int32) T81.heap n0 O81 ((f_a_CONDITION_FAILED_code hS).ext O81.2)) hZ (hw _ (List.mem_of_getElem? (i := 41) rfl)) (hw _ (List.mem_of_getElem? (i := 3) rfl)) (by decide) (by decide)) q83a q83c (g := (mkF m 22 #[oI p0, oI (5 : Int32), oR (a_CONDITION_FAILED Z)] [(.ref (a_CONDITION_FAILED Z))])) rfl (by rw [hml]; rfl) (Steps.refl _) (argsL := []) (rest := []) (lenOf pd_2 rfl) rfl (by show 2 * 0 + _ ≤ _; exact Nat.le_of_eq rfl) (hb hby at_22) (fun _ _ => ⟨rfl, h82q, (by decide : 1 + 0 ≤ _), (by decide : 10 + 0 ≤ _)⟩)
    dsimp only [Pt.U, Pt.locs, Pt.cells, Pt.slots] at X83 l83 y83 z83 st83 hQ83
    subst l83 y83 z83
    obtain ⟨v83, N83q, K83q⟩ := hQ83
    have w83 : (fn4 Z (a_CONDITION_FAILED Z) (5 : Int32)) = (5 : Int32) := rfl
    rw [w83] at v83
    subst v83
    have N83 := Fr.app N82 N83q
    have O83 := O81.keep K83q all0
    have Kc83 := Kc81.trans K83q all0
    obtain ⟨fs, hr, hrun, hended, hW, hsame⟩ := X83.leave (v := some (.int (1 : Int32))) (fun h => by rw [Bd.returns] at h; cases h)
    refine ⟨_, _, pre65 _ ?_, hrun, hended, _, _, rfl, ?_, ⟨_, rfl⟩, hW, hsame.mono (by decide) (by decide)⟩
    · show oP p e below s₁ (mkF m 7 #[oI p0, oU, oU] [(.int (5 : Int32))]) _
      refine XS.istoreN X0.here hx rfl (hb hby at_7) rfl (l' := #[oI p0, oI (5 : Int32), oU]) rfl ?_
      show oP p e below s₁ (mkF m 8 #[oI p0, oI (5 : Int32), oU] []) _
      refine XS.iloadN X0.here hx rfl (hb hby at_8) rfl ?_
      show oP p e below s₁ (mkF m 9 #[oI p0, oI (5 : Int32), oU] [(.int (5 : Int32))]) _
      refine st81 _ ?_
      show oP p e below T81 (mkF m 12 #[oI p0, oI (5 : Int32), oU] [(.ref (a_CONDITION_FAILED Z))]) _
      refine XS.astoreN X81.here hx rfl (hb hby at_12) rfl rfl (l' := #[oI p0, oI (5 : Int32), oR (a_CONDITION_FAILED Z)]) rfl ?_
      show oP p e below T81 (mkF m 13 #[oI p0, oI (5 : Int32), oR (a_CONDITION_FAILED Z)] []) _
      refine XS.aloadN X81.here hx rfl (hb hby at_13) rfl rfl ?_
      show oP p e below T81 (mkF m 14 #[oI p0, oI (5 : Int32), oR (a_CONDITION_FAILED Z)] [(.ref (a_CONDITION_FAILED Z))]) _
      refine XS.iloadN X81.here hx rfl (hb hby at_14) rfl ?_
      show oP p e below T81 (mkF m 15 #[oI p0, oI (5 : Int32), oR (a_CONDITION_FAILED Z)] [(.int (5 : Int32)), (.ref (a_CONDITION_FAILED Z))]) _
      refine st82 _ ?_
      show oP p e below T82 (mkF m 18 #[oI p0, oI (5 : Int32), oR (a_CONDITION_FAILED Z)] [(.ref (a_CONDITION_FAILED Z)), (.ref (a_CONDITION_FAILED Z))]) _
      refine Jvm.RoadKit.acmp (g := (mkF m 18 #[oI p0, oI (5 : Int32), oR (a_CONDITION_FAILED Z)] [(.ref (a_CONDITION_FAILED Z)), (.ref (a_CONDITION_FAILED Z))])) X82 hx rfl rfl rfl (pc0 := 18) (pc' := 21) (same := true) rfl (hb hby at_18) rfl (decide_eq_true (congrArg Value.ref (rfl : (a_CONDITION_FAILED Z) = (a_CONDITION_FAILED Z)))) (by decide) (by decide) ?_
      show oP p e below T82 (mkF m 21 #[oI p0, oI (5 : Int32), oR (a_CONDITION_FAILED Z)] []) _
      refine XS.aloadN X82.here hx rfl (hb hby at_21) rfl rfl ?_
      show oP p e below T82 (mkF m 22 #[oI p0, oI (5 : Int32), oR (a_CONDITION_FAILED Z)] [(.ref (a_CONDITION_FAILED Z))]) _
      refine st83.trans ?_
      show oP p e below T83 (mkF m 25 #[oI p0, oI (5 : Int32), oR (a_CONDITION_FAILED Z)] [(.int (5 : Int32))]) _
      refine XS.iloadN X83.here hx rfl (hb hby at_25) rfl ?_
      show oP p e below T83 (mkF m 26 #[oI p0, oI (5 : Int32), oR (a_CONDITION_FAILED Z)] [(.int (5 : Int32)), (.int (5 : Int32))]) _
      refine XS.icmpNo X83.here hx rfl (hb hby at_26) rfl (teq (by decide : (5 : Int32) = (5 : Int32))).2 ?_
      show oP p e below T83 (mkF m 29 #[oI p0, oI (5 : Int32), oR (a_CONDITION_FAILED Z)] []) _
      refine XS.iconst X83.here hx rfl (hb hby at_29) ?_
      show oP p e below T83 (mkF m 30 #[oI p0, oI (5 : Int32), oR (a_CONDITION_FAILED Z)] [(.int (1 : Int32))]) _
      refine XS.goto X83.here hx rfl (pc0 := 30) (pc' := 34) rfl (hb hby at_30) (by decide) (by decide) ?_
      show oP p e below T83 (mkF m 34 #[oI p0, oI (5 : Int32), oR (a_CONDITION_FAILED Z)] [(.int (1 : Int32))]) _
      exact retN X83 hx (t := .boolean) Bd.returns (by simp) (hb hby at_34) hr
    · show (some (.int (1 : Int32)) : Option Value) = some (.int (1 : Int32)) ∧ Fr n0 _ ∧ Keep h0 T83.heap []
      exact ⟨rfl, N83, Kc83⟩
  · obtain ⟨_, _, ⟨T84, L84, k84, n84⟩, -, X84, ⟨Lc84, hQ84, l84, y84, z84⟩, st84⟩ := Jvm.LawKit.callS X0 hx (y := (⟨"com/example/latchwork/latchwork/Protocol$Outcome", "of", "(I)Lcom/example/latchwork/latchwork/Protocol$Outcome;"⟩ : MethodName)) hown (mvT hZ (hw _ (List.mem_of_getElem? (i := 1) rfl))) (mvT hZ (hw _ (List.mem_of_getElem? (i := 2) rfl))) (mvT hZ (hw _ (List.mem_of_getElem? (i := 3) rfl))) (mvT hZ (hw _ (List.mem_of_getElem? (i := 4) rfl))) (by decide) (backOf (W := 0) (rm1 l Z a0 hw hS [] (6 : Int32) h0 n0 O0 (by decide)) hZ (hw _ (List.mem_of_getElem? (i := 4) rfl)) (hw _ (List.mem_of_getElem? (i := 3) rfl)) (by decide) (by decide)) (g := (mkF m 9 #[oI p0, oI (6 : Int32), oU] [(.int (6 : Int32))])) rfl (by rw [hml]; rfl) (argsL := [(.int (6 : Int32))]) (rest := []) (lenOf pd_1 rfl) rfl (by show 2 * 0 + _ ≤ _; exact Nat.le_of_eq rfl) (hb hby at_9) (fun _ _ => ⟨rfl, e0, (by decide : 0 + 1 ≤ _), (by decide : 0 + 10 ≤ _)⟩)
    dsimp only [Pt.U, Pt.locs, Pt.cells, Pt.slots] at X84 l84 y84 z84 st84 hQ84
    subst l84 y84 z84
    obtain ⟨v84, N84q, K84q⟩ := hQ84
    have w84 : (fn1 Z (6 : Int32)) = (a_NOT_STORED Z) := by unfold fn1; rw [if_neg (by decide : ¬ ((0 : Int32) = (6 : Int32))), if_neg (by decide : ¬ ((1 : Int32) = (6 : Int32))), if_neg (by decide : ¬ ((2 : Int32) = (6 : Int32))), if_neg (by decide : ¬ ((3 : Int32) = (6 : Int32))), if_neg (by decide : ¬ ((4 : Int32) = (6 : Int32))), if_neg (by decide : ¬ ((5 : Int32) = (6 : Int32))), if_pos (by decide : (6 : Int32) = (6 : Int32))]; all_goals first | rfl | decide
    rw [w84] at v84
    subst v84
    have N84 := Fr.app N0 N84q
    have O84 := O0.keep K84q all0
    have Kc84 := (Keep.refl h0 []).trans K84q all0
    obtain ⟨_, _, ⟨T85, L85, k85, n85⟩, -, X85, ⟨Lc85, hQ85, l85, y85, z85⟩, st85⟩ := Jvm.LawKit.callS X84 hx (y := (⟨"com/example/latchwork/latchwork/OutcomeOfPinLaw", "expected", "(I)Lcom/example/latchwork/latchwork/Protocol$Outcome;"⟩ : MethodName)) hown (mvT hZ (hw _ (List.mem_of_getElem? (i := 32) rfl))) (mvT hZ (hw _ (List.mem_of_getElem? (i := 33) rfl))) (mvT hZ (hw _ (List.mem_of_getElem? (i := 34) rfl))) (mvT hZ (hw _ (List.mem_of_getElem? (i := 35) rfl))) (by decide) (backOf (W := 1) (rm3 l Z a0 hw hS [] (6 : Int32) T84.heap n0 O84) hZ (hw _ (List.mem_of_getElem? (i := 35) rfl)) (hw _ (List.mem_of_getElem? (i := 34) rfl)) (by decide) (by decide)) (g := (mkF m 15 #[oI p0, oI (6 : Int32), oR (a_NOT_STORED Z)] [(.int (6 : Int32)), (.ref (a_NOT_STORED Z))])) rfl (by rw [hml]; rfl) (argsL := [(.int (6 : Int32))]) (rest := [(.ref (a_NOT_STORED Z))]) (lenOf pd_1 rfl) rfl (by show 2 * 0 + _ ≤ _; exact Nat.le_of_eq rfl) (hb hby at_15) (fun _ _ => ⟨rfl, rfl, (by decide : 1 + 0 ≤ _), (by decide : 10 + 0 ≤ _)⟩)
    dsimp only [Pt.U, Pt.locs, Pt.cells, Pt.slots] at X85 l85 y85 z85 st85 hQ85
    subst l85 y85 z85
    obtain ⟨v85, N85q, h85q⟩ := hQ85
    have w85 : (fn3 Z (6 : Int32)) = (a_NOT_STORED Z) := by unfold fn3; rw [if_neg (by decide : ¬ ((6 : Int32) = (0 : Int32))), if_neg (by decide : ¬ ((6 : Int32) = (1 : Int32))), if_neg (by decide : ¬ ((6 : Int32) = (2 : Int32))), if_neg (by decide : ¬ ((6 : Int32) = (3 : Int32))), if_neg (by decide : ¬ ((6 : Int32) = (4 : Int32))), if_neg (by decide : ¬ ((6 : Int32) = (5 : Int32))), if_pos (by decide : (6 : Int32) = (6 : Int32))]; all_goals first | rfl | decide
    rw [w85] at v85
    subst v85
    have N85 := Fr.app N84 N85q
    obtain ⟨cq86, kq86, q86a, q86b, q86c⟩ := isOf hZ h85q ((e_a_NOT_STORED hS).ext O84.2)
    obtain ⟨_, _, ⟨T86, L86, k86, n86⟩, -, X86, ⟨Lc86, hQ86, l86, y86, z86⟩, st86⟩ := X85.virtualBack hx (y := (⟨"com/example/latchwork/latchwork/Protocol$Outcome", "code", "()I"⟩ : MethodName)) (z := (⟨"com/example/latchwork/latchwork/Protocol$Outcome", "code", "()I"⟩ : MethodName)) hown (mvT hZ (hw _ (List.mem_of_getElem? (i := 37) rfl))) (mvT hZ (hw _ (List.mem_of_getElem? (i := 38) rfl))) (notFace_of_selects (args := #[]) (mvT hZ (hw _ (List.mem_of_getElem? (i := 40) rfl)))) (mvT hZ (hw _ (List.mem_of_getElem? (i := 40) rfl))) (mvT hZ (hw _ (List.mem_of_getElem? (i := 39) rfl))) (by decide) (backOf (W := 0) (rm4 l Z a0 hw hS [] (a_NOT_STORED Z) (6 : Int32) T84.heap n0 O84 ((f_a_NOT_STORED_code hS).ext O84.2)) hZ (hw _ (List.mem_of_getElem? (i := 41) rfl)) (hw _ (List.mem_of_getElem? (i := 3) rfl)) (by decide) (by decide)) q86a q86c (g := (mkF m 22 #[oI p0, oI (6 : Int32), oR (a_NOT_STORED Z)] [(.ref (a_NOT_STORED Z))])) rfl (by rw [hml]; rfl) (Steps.refl _) (argsL := []) (rest := []) (lenOf pd_2 rfl) rfl (by show 2 * 0 + _ ≤ _; exact Nat.le_of_eq rfl) (hb hby at_22) (fun _ _ => ⟨rfl, h85q, (by decide : 1 + 0 ≤ _), (by decide : 10 + 0 ≤ _)⟩)
    dsimp only [Pt.U, Pt.locs, Pt.cells, Pt.slots] at X86 l86 y86 z86 st86 hQ86
    subst l86 y86 z86
    obtain ⟨v86, N86q, K86q⟩ := hQ86
    have w86 : (fn4 Z (a_NOT_STORED Z) (6 : Int32)) = (6 : Int32) := rfl
    rw [w86] at v86
    subst v86
    have N86 := Fr.app N85 N86q
    have O86 := O84.keep K86q all0
    have Kc86 := Kc84.trans K86q all0
    obtain ⟨fs, hr, hrun, hended, hW, hsame⟩ := X86.leave (v := some (.int (1 : Int32))) (fun h => by rw [Bd.returns] at h; cases h)
    refine ⟨_, _, pre65 _ ?_, hrun, hended, _, _, rfl, ?_, ⟨_, rfl⟩, hW, hsame.mono (by decide) (by decide)⟩
    · show oP p e below s₁ (mkF m 7 #[oI p0, oU, oU] [(.int (6 : Int32))]) _
      refine XS.istoreN X0.here hx rfl (hb hby at_7) rfl (l' := #[oI p0, oI (6 : Int32), oU]) rfl ?_
      show oP p e below s₁ (mkF m 8 #[oI p0, oI (6 : Int32), oU] []) _
      refine XS.iloadN X0.here hx rfl (hb hby at_8) rfl ?_
      show oP p e below s₁ (mkF m 9 #[oI p0, oI (6 : Int32), oU] [(.int (6 : Int32))]) _
      refine st84 _ ?_
      show oP p e below T84 (mkF m 12 #[oI p0, oI (6 : Int32), oU] [(.ref (a_NOT_STORED Z))]) _
      refine XS.astoreN X84.here hx rfl (hb hby at_12) rfl rfl (l' := #[oI p0, oI (6 : Int32), oR (a_NOT_STORED Z)]) rfl ?_
      show oP p e below T84 (mkF m 13 #[oI p0, oI (6 : Int32), oR (a_NOT_STORED Z)] []) _
      refine XS.aloadN X84.here hx rfl (hb hby at_13) rfl rfl ?_
      show oP p e below T84 (mkF m 14 #[oI p0, oI (6 : Int32), oR (a_NOT_STORED Z)] [(.ref (a_NOT_STORED Z))]) _
      refine XS.iloadN X84.here hx rfl (hb hby at_14) rfl ?_
      show oP p e below T84 (mkF m 15 #[oI p0, oI (6 : Int32), oR (a_NOT_STORED Z)] [(.int (6 : Int32)), (.ref (a_NOT_STORED Z))]) _
      refine st85 _ ?_
      show oP p e below T85 (mkF m 18 #[oI p0, oI (6 : Int32), oR (a_NOT_STORED Z)] [(.ref (a_NOT_STORED Z)), (.ref (a_NOT_STORED Z))]) _
      refine Jvm.RoadKit.acmp (g := (mkF m 18 #[oI p0, oI (6 : Int32), oR (a_NOT_STORED Z)] [(.ref (a_NOT_STORED Z)), (.ref (a_NOT_STORED Z))])) X85 hx rfl rfl rfl (pc0 := 18) (pc' := 21) (same := true) rfl (hb hby at_18) rfl (decide_eq_true (congrArg Value.ref (rfl : (a_NOT_STORED Z) = (a_NOT_STORED Z)))) (by decide) (by decide) ?_
      show oP p e below T85 (mkF m 21 #[oI p0, oI (6 : Int32), oR (a_NOT_STORED Z)] []) _
      refine XS.aloadN X85.here hx rfl (hb hby at_21) rfl rfl ?_
      show oP p e below T85 (mkF m 22 #[oI p0, oI (6 : Int32), oR (a_NOT_STORED Z)] [(.ref (a_NOT_STORED Z))]) _
      refine st86.trans ?_
      show oP p e below T86 (mkF m 25 #[oI p0, oI (6 : Int32), oR (a_NOT_STORED Z)] [(.int (6 : Int32))]) _
      refine XS.iloadN X86.here hx rfl (hb hby at_25) rfl ?_
      show oP p e below T86 (mkF m 26 #[oI p0, oI (6 : Int32), oR (a_NOT_STORED Z)] [(.int (6 : Int32)), (.int (6 : Int32))]) _
      refine XS.icmpNo X86.here hx rfl (hb hby at_26) rfl (teq (by decide : (6 : Int32) = (6 : Int32))).2 ?_
      show oP p e below T86 (mkF m 29 #[oI p0, oI (6 : Int32), oR (a_NOT_STORED Z)] []) _
      refine XS.iconst X86.here hx rfl (hb hby at_29) ?_
      show oP p e below T86 (mkF m 30 #[oI p0, oI (6 : Int32), oR (a_NOT_STORED Z)] [(.int (1 : Int32))]) _
      refine XS.goto X86.here hx rfl (pc0 := 30) (pc' := 34) rfl (hb hby at_30) (by decide) (by decide) ?_
      show oP p e below T86 (mkF m 34 #[oI p0, oI (6 : Int32), oR (a_NOT_STORED Z)] [(.int (1 : Int32))]) _
      exact retN X86 hx (t := .boolean) Bd.returns (by simp) (hb hby at_34) hr
    · show (some (.int (1 : Int32)) : Option Value) = some (.int (1 : Int32)) ∧ Fr n0 _ ∧ Keep h0 T86.heap []
      exact ⟨rfl, N86, Kc86⟩
  · obtain ⟨_, _, ⟨T87, L87, k87, n87⟩, -, X87, ⟨Lc87, hQ87, l87, y87, z87⟩, st87⟩ := Jvm.LawKit.callS X0 hx (y := (⟨"com/example/latchwork/latchwork/Protocol$Outcome", "of", "(I)Lcom/example/latchwork/latchwork/Protocol$Outcome;"⟩ : MethodName)) hown (mvT hZ (hw _ (List.mem_of_getElem? (i := 1) rfl))) (mvT hZ (hw _ (List.mem_of_getElem? (i := 2) rfl))) (mvT hZ (hw _ (List.mem_of_getElem? (i := 3) rfl))) (mvT hZ (hw _ (List.mem_of_getElem? (i := 4) rfl))) (by decide) (backOf (W := 0) (rm1 l Z a0 hw hS [] (7 : Int32) h0 n0 O0 (by decide)) hZ (hw _ (List.mem_of_getElem? (i := 4) rfl)) (hw _ (List.mem_of_getElem? (i := 3) rfl)) (by decide) (by decide)) (g := (mkF m 9 #[oI p0, oI (7 : Int32), oU] [(.int (7 : Int32))])) rfl (by rw [hml]; rfl) (argsL := [(.int (7 : Int32))]) (rest := []) (lenOf pd_1 rfl) rfl (by show 2 * 0 + _ ≤ _; exact Nat.le_of_eq rfl) (hb hby at_9) (fun _ _ => ⟨rfl, e0, (by decide : 0 + 1 ≤ _), (by decide : 0 + 10 ≤ _)⟩)
    dsimp only [Pt.U, Pt.locs, Pt.cells, Pt.slots] at X87 l87 y87 z87 st87 hQ87
    subst l87 y87 z87
    obtain ⟨v87, N87q, K87q⟩ := hQ87
    have w87 : (fn1 Z (7 : Int32)) = (a_STALE_EPOCH Z) := by unfold fn1; rw [if_neg (by decide : ¬ ((0 : Int32) = (7 : Int32))), if_neg (by decide : ¬ ((1 : Int32) = (7 : Int32))), if_neg (by decide : ¬ ((2 : Int32) = (7 : Int32))), if_neg (by decide : ¬ ((3 : Int32) = (7 : Int32))), if_neg (by decide : ¬ ((4 : Int32) = (7 : Int32))), if_neg (by decide : ¬ ((5 : Int32) = (7 : Int32))), if_neg (by decide : ¬ ((6 : Int32) = (7 : Int32))), if_pos (by decide : (7 : Int32) = (7 : Int32))]; all_goals first | rfl | decide
    rw [w87] at v87
    subst v87
    have N87 := Fr.app N0 N87q
    have O87 := O0.keep K87q all0
    have Kc87 := (Keep.refl h0 []).trans K87q all0
    obtain ⟨_, _, ⟨T88, L88, k88, n88⟩, -, X88, ⟨Lc88, hQ88, l88, y88, z88⟩, st88⟩ := Jvm.LawKit.callS X87 hx (y := (⟨"com/example/latchwork/latchwork/OutcomeOfPinLaw", "expected", "(I)Lcom/example/latchwork/latchwork/Protocol$Outcome;"⟩ : MethodName)) hown (mvT hZ (hw _ (List.mem_of_getElem? (i := 32) rfl))) (mvT hZ (hw _ (List.mem_of_getElem? (i := 33) rfl))) (mvT hZ (hw _ (List.mem_of_getElem? (i := 34) rfl))) (mvT hZ (hw _ (List.mem_of_getElem? (i := 35) rfl))) (by decide) (backOf (W := 1) (rm3 l Z a0 hw hS [] (7 : Int32) T87.heap n0 O87) hZ (hw _ (List.mem_of_getElem? (i := 35) rfl)) (hw _ (List.mem_of_getElem? (i := 34) rfl)) (by decide) (by decide)) (g := (mkF m 15 #[oI p0, oI (7 : Int32), oR (a_STALE_EPOCH Z)] [(.int (7 : Int32)), (.ref (a_STALE_EPOCH Z))])) rfl (by rw [hml]; rfl) (argsL := [(.int (7 : Int32))]) (rest := [(.ref (a_STALE_EPOCH Z))]) (lenOf pd_1 rfl) rfl (by show 2 * 0 + _ ≤ _; exact Nat.le_of_eq rfl) (hb hby at_15) (fun _ _ => ⟨rfl, rfl, (by decide : 1 + 0 ≤ _), (by decide : 10 + 0 ≤ _)⟩)
    dsimp only [Pt.U, Pt.locs, Pt.cells, Pt.slots] at X88 l88 y88 z88 st88 hQ88
    subst l88 y88 z88
    obtain ⟨v88, N88q, h88q⟩ := hQ88
    have w88 : (fn3 Z (7 : Int32)) = (a_STALE_EPOCH Z) := by unfold fn3; rw [if_neg (by decide : ¬ ((7 : Int32) = (0 : Int32))), if_neg (by decide : ¬ ((7 : Int32) = (1 : Int32))), if_neg (by decide : ¬ ((7 : Int32) = (2 : Int32))), if_neg (by decide : ¬ ((7 : Int32) = (3 : Int32))), if_neg (by decide : ¬ ((7 : Int32) = (4 : Int32))), if_neg (by decide : ¬ ((7 : Int32) = (5 : Int32))), if_neg (by decide : ¬ ((7 : Int32) = (6 : Int32))), if_pos (by decide : (7 : Int32) = (7 : Int32))]; all_goals first | rfl | decide
    rw [w88] at v88
    subst v88
    have N88 := Fr.app N87 N88q
    obtain ⟨cq89, kq89, q89a, q89b, q89c⟩ := isOf hZ h88q ((e_a_STALE_EPOCH hS).ext O87.2)
    obtain ⟨_, _, ⟨T89, L89, k89, n89⟩, -, X89, ⟨Lc89, hQ89, l89, y89, z89⟩, st89⟩ := X88.virtualBack hx (y := (⟨"com/example/latchwork/latchwork/Protocol$Outcome", "code", "()I"⟩ : MethodName)) (z := (⟨"com/example/latchwork/latchwork/Protocol$Outcome", "code", "()I"⟩ : MethodName)) hown (mvT hZ (hw _ (List.mem_of_getElem? (i := 37) rfl))) (mvT hZ (hw _ (List.mem_of_getElem? (i := 38) rfl))) (notFace_of_selects (args := #[]) (mvT hZ (hw _ (List.mem_of_getElem? (i := 40) rfl)))) (mvT hZ (hw _ (List.mem_of_getElem? (i := 40) rfl))) (mvT hZ (hw _ (List.mem_of_getElem? (i := 39) rfl))) (by decide) (backOf (W := 0) (rm4 l Z a0 hw hS [] (a_STALE_EPOCH Z) (7 : Int32) T87.heap n0 O87 ((f_a_STALE_EPOCH_code hS).ext O87.2)) hZ (hw _ (List.mem_of_getElem? (i := 41) rfl)) (hw _ (List.mem_of_getElem? (i := 3) rfl)) (by decide) (by decide)) q89a q89c (g := (mkF m 22 #[oI p0, oI (7 : Int32), oR (a_STALE_EPOCH Z)] [(.ref (a_STALE_EPOCH Z))])) rfl (by rw [hml]; rfl) (Steps.refl _) (argsL := []) (rest := []) (lenOf pd_2 rfl) rfl (by show 2 * 0 + _ ≤ _; exact Nat.le_of_eq rfl) (hb hby at_22) (fun _ _ => ⟨rfl, h88q, (by decide : 1 + 0 ≤ _), (by decide : 10 + 0 ≤ _)⟩)
    dsimp only [Pt.U, Pt.locs, Pt.cells, Pt.slots] at X89 l89 y89 z89 st89 hQ89
    subst l89 y89 z89
    obtain ⟨v89, N89q, K89q⟩ := hQ89
    have w89 : (fn4 Z (a_STALE_EPOCH Z) (7 : Int32)) = (7 : Int32) := rfl
    rw [w89] at v89
    subst v89
    have N89 := Fr.app N88 N89q
    have O89 := O87.keep K89q all0
    have Kc89 := Kc87.trans K89q all0
    obtain ⟨fs, hr, hrun, hended, hW, hsame⟩ := X89.leave (v := some (.int (1 : Int32))) (fun h => by rw [Bd.returns] at h; cases h)
    refine ⟨_, _, pre65 _ ?_, hrun, hended, _, _, rfl, ?_, ⟨_, rfl⟩, hW, hsame.mono (by decide) (by decide)⟩
    · show oP p e below s₁ (mkF m 7 #[oI p0, oU, oU] [(.int (7 : Int32))]) _
      refine XS.istoreN X0.here hx rfl (hb hby at_7) rfl (l' := #[oI p0, oI (7 : Int32), oU]) rfl ?_
      show oP p e below s₁ (mkF m 8 #[oI p0, oI (7 : Int32), oU] []) _
      refine XS.iloadN X0.here hx rfl (hb hby at_8) rfl ?_
      show oP p e below s₁ (mkF m 9 #[oI p0, oI (7 : Int32), oU] [(.int (7 : Int32))]) _
      refine st87 _ ?_
      show oP p e below T87 (mkF m 12 #[oI p0, oI (7 : Int32), oU] [(.ref (a_STALE_EPOCH Z))]) _
      refine XS.astoreN X87.here hx rfl (hb hby at_12) rfl rfl (l' := #[oI p0, oI (7 : Int32), oR (a_STALE_EPOCH Z)]) rfl ?_
      show oP p e below T87 (mkF m 13 #[oI p0, oI (7 : Int32), oR (a_STALE_EPOCH Z)] []) _
      refine XS.aloadN X87.here hx rfl (hb hby at_13) rfl rfl ?_
      show oP p e below T87 (mkF m 14 #[oI p0, oI (7 : Int32), oR (a_STALE_EPOCH Z)] [(.ref (a_STALE_EPOCH Z))]) _
      refine XS.iloadN X87.here hx rfl (hb hby at_14) rfl ?_
      show oP p e below T87 (mkF m 15 #[oI p0, oI (7 : Int32), oR (a_STALE_EPOCH Z)] [(.int (7 : Int32)), (.ref (a_STALE_EPOCH Z))]) _
      refine st88 _ ?_
      show oP p e below T88 (mkF m 18 #[oI p0, oI (7 : Int32), oR (a_STALE_EPOCH Z)] [(.ref (a_STALE_EPOCH Z)), (.ref (a_STALE_EPOCH Z))]) _
      refine Jvm.RoadKit.acmp (g := (mkF m 18 #[oI p0, oI (7 : Int32), oR (a_STALE_EPOCH Z)] [(.ref (a_STALE_EPOCH Z)), (.ref (a_STALE_EPOCH Z))])) X88 hx rfl rfl rfl (pc0 := 18) (pc' := 21) (same := true) rfl (hb hby at_18) rfl (decide_eq_true (congrArg Value.ref (rfl : (a_STALE_EPOCH Z) = (a_STALE_EPOCH Z)))) (by decide) (by decide) ?_
      show oP p e below T88 (mkF m 21 #[oI p0, oI (7 : Int32), oR (a_STALE_EPOCH Z)] []) _
      refine XS.aloadN X88.here hx rfl (hb hby at_21) rfl rfl ?_
      show oP p e below T88 (mkF m 22 #[oI p0, oI (7 : Int32), oR (a_STALE_EPOCH Z)] [(.ref (a_STALE_EPOCH Z))]) _
      refine st89.trans ?_
      show oP p e below T89 (mkF m 25 #[oI p0, oI (7 : Int32), oR (a_STALE_EPOCH Z)] [(.int (7 : Int32))]) _
      refine XS.iloadN X89.here hx rfl (hb hby at_25) rfl ?_
      show oP p e below T89 (mkF m 26 #[oI p0, oI (7 : Int32), oR (a_STALE_EPOCH Z)] [(.int (7 : Int32)), (.int (7 : Int32))]) _
      refine XS.icmpNo X89.here hx rfl (hb hby at_26) rfl (teq (by decide : (7 : Int32) = (7 : Int32))).2 ?_
      show oP p e below T89 (mkF m 29 #[oI p0, oI (7 : Int32), oR (a_STALE_EPOCH Z)] []) _
      refine XS.iconst X89.here hx rfl (hb hby at_29) ?_
      show oP p e below T89 (mkF m 30 #[oI p0, oI (7 : Int32), oR (a_STALE_EPOCH Z)] [(.int (1 : Int32))]) _
      refine XS.goto X89.here hx rfl (pc0 := 30) (pc' := 34) rfl (hb hby at_30) (by decide) (by decide) ?_
      show oP p e below T89 (mkF m 34 #[oI p0, oI (7 : Int32), oR (a_STALE_EPOCH Z)] [(.int (1 : Int32))]) _
      exact retN X89 hx (t := .boolean) Bd.returns (by simp) (hb hby at_34) hr
    · show (some (.int (1 : Int32)) : Option Value) = some (.int (1 : Int32)) ∧ Fr n0 _ ∧ Keep h0 T89.heap []
      exact ⟨rfl, N89, Kc89⟩
  · obtain ⟨_, _, ⟨T90, L90, k90, n90⟩, -, X90, ⟨Lc90, hQ90, l90, y90, z90⟩, st90⟩ := Jvm.LawKit.callS X0 hx (y := (⟨"com/example/latchwork/latchwork/Protocol$Outcome", "of", "(I)Lcom/example/latchwork/latchwork/Protocol$Outcome;"⟩ : MethodName)) hown (mvT hZ (hw _ (List.mem_of_getElem? (i := 1) rfl))) (mvT hZ (hw _ (List.mem_of_getElem? (i := 2) rfl))) (mvT hZ (hw _ (List.mem_of_getElem? (i := 3) rfl))) (mvT hZ (hw _ (List.mem_of_getElem? (i := 4) rfl))) (by decide) (backOf (W := 0) (rm1 l Z a0 hw hS [] (8 : Int32) h0 n0 O0 (by decide)) hZ (hw _ (List.mem_of_getElem? (i := 4) rfl)) (hw _ (List.mem_of_getElem? (i := 3) rfl)) (by decide) (by decide)) (g := (mkF m 9 #[oI p0, oI (8 : Int32), oU] [(.int (8 : Int32))])) rfl (by rw [hml]; rfl) (argsL := [(.int (8 : Int32))]) (rest := []) (lenOf pd_1 rfl) rfl (by show 2 * 0 + _ ≤ _; exact Nat.le_of_eq rfl) (hb hby at_9) (fun _ _ => ⟨rfl, e0, (by decide : 0 + 1 ≤ _), (by decide : 0 + 10 ≤ _)⟩)
    dsimp only [Pt.U, Pt.locs, Pt.cells, Pt.slots] at X90 l90 y90 z90 st90 hQ90
    subst l90 y90 z90
    obtain ⟨v90, N90q, K90q⟩ := hQ90
    have w90 : (fn1 Z (8 : Int32)) = (a_NOT_MASTER Z) := by unfold fn1; rw [if_neg (by decide : ¬ ((0 : Int32) = (8 : Int32))), if_neg (by decide : ¬ ((1 : Int32) = (8 : Int32))), if_neg (by decide : ¬ ((2 : Int32) = (8 : Int32))), if_neg (by decide : ¬ ((3 : Int32) = (8 : Int32))), if_neg (by decide : ¬ ((4 : Int32) = (8 : Int32))), if_neg (by decide : ¬ ((5 : Int32) = (8 : Int32))), if_neg (by decide : ¬ ((6 : Int32) = (8 : Int32))), if_neg (by decide : ¬ ((7 : Int32) = (8 : Int32))), if_pos (by decide : (8 : Int32) = (8 : Int32))]; all_goals first | rfl | decide
    rw [w90] at v90
    subst v90
    have N90 := Fr.app N0 N90q
    have O90 := O0.keep K90q all0
    have Kc90 := (Keep.refl h0 []).trans K90q all0
    obtain ⟨_, _, ⟨T91, L91, k91, n91⟩, -, X91, ⟨Lc91, hQ91, l91, y91, z91⟩, st91⟩ := Jvm.LawKit.callS X90 hx (y := (⟨"com/example/latchwork/latchwork/OutcomeOfPinLaw", "expected", "(I)Lcom/example/latchwork/latchwork/Protocol$Outcome;"⟩ : MethodName)) hown (mvT hZ (hw _ (List.mem_of_getElem? (i := 32) rfl))) (mvT hZ (hw _ (List.mem_of_getElem? (i := 33) rfl))) (mvT hZ (hw _ (List.mem_of_getElem? (i := 34) rfl))) (mvT hZ (hw _ (List.mem_of_getElem? (i := 35) rfl))) (by decide) (backOf (W := 1) (rm3 l Z a0 hw hS [] (8 : Int32) T90.heap n0 O90) hZ (hw _ (List.mem_of_getElem? (i := 35) rfl)) (hw _ (List.mem_of_getElem? (i := 34) rfl)) (by decide) (by decide)) (g := (mkF m 15 #[oI p0, oI (8 : Int32), oR (a_NOT_MASTER Z)] [(.int (8 : Int32)), (.ref (a_NOT_MASTER Z))])) rfl (by rw [hml]; rfl) (argsL := [(.int (8 : Int32))]) (rest := [(.ref (a_NOT_MASTER Z))]) (lenOf pd_1 rfl) rfl (by show 2 * 0 + _ ≤ _; exact Nat.le_of_eq rfl) (hb hby at_15) (fun _ _ => ⟨rfl, rfl, (by decide : 1 + 0 ≤ _), (by decide : 10 + 0 ≤ _)⟩)
    dsimp only [Pt.U, Pt.locs, Pt.cells, Pt.slots] at X91 l91 y91 z91 st91 hQ91
    subst l91 y91 z91
    obtain ⟨v91, N91q, h91q⟩ := hQ91
    have w91 : (fn3 Z (8 : Int32)) = (a_NOT_MASTER Z) := by unfold fn3; rw [if_neg (by decide : ¬ ((8 : Int32) = (0 : Int32))), if_neg (by decide : ¬ ((8 : Int32) = (1 : Int32))), if_neg (by decide : ¬ ((8 : Int32) = (2 : Int32))), if_neg (by decide : ¬ ((8 : Int32) = (3 : Int32))), if_neg (by decide : ¬ ((8 : Int32) = (4 : Int32))), if_neg (by decide : ¬ ((8 : Int32) = (5 : Int32))), if_neg (by decide : ¬ ((8 : Int32) = (6 : Int32))), if_neg (by decide : ¬ ((8 : Int32) = (7 : Int32))), if_pos (by decide : (8 : Int32) = (8 : Int32))]; all_goals first | rfl | decide
    rw [w91] at v91
    subst v91
    have N91 := Fr.app N90 N91q
    obtain ⟨cq92, kq92, q92a, q92b, q92c⟩ := isOf hZ h91q ((e_a_NOT_MASTER hS).ext O90.2)
    obtain ⟨_, _, ⟨T92, L92, k92, n92⟩, -, X92, ⟨Lc92, hQ92, l92, y92, z92⟩, st92⟩ := X91.virtualBack hx (y := (⟨"com/example/latchwork/latchwork/Protocol$Outcome", "code", "()I"⟩ : MethodName)) (z := (⟨"com/example/latchwork/latchwork/Protocol$Outcome", "code", "()I"⟩ : MethodName)) hown (mvT hZ (hw _ (List.mem_of_getElem? (i := 37) rfl))) (mvT hZ (hw _ (List.mem_of_getElem? (i := 38) rfl))) (notFace_of_selects (args := #[]) (mvT hZ (hw _ (List.mem_of_getElem? (i := 40) rfl)))) (mvT hZ (hw _ (List.mem_of_getElem? (i := 40) rfl))) (mvT hZ (hw _ (List.mem_of_getElem? (i := 39) rfl))) (by decide) (backOf (W := 0) (rm4 l Z a0 hw hS [] (a_NOT_MASTER Z) (8 : Int32) T90.heap n0 O90 ((f_a_NOT_MASTER_code hS).ext O90.2)) hZ (hw _ (List.mem_of_getElem? (i := 41) rfl)) (hw _ (List.mem_of_getElem? (i := 3) rfl)) (by decide) (by decide)) q92a q92c (g := (mkF m 22 #[oI p0, oI (8 : Int32), oR (a_NOT_MASTER Z)] [(.ref (a_NOT_MASTER Z))])) rfl (by rw [hml]; rfl) (Steps.refl _) (argsL := []) (rest := []) (lenOf pd_2 rfl) rfl (by show 2 * 0 + _ ≤ _; exact Nat.le_of_eq rfl) (hb hby at_22) (fun _ _ => ⟨rfl, h91q, (by decide : 1 + 0 ≤ _), (by decide : 10 + 0 ≤ _)⟩)
    dsimp only [Pt.U, Pt.locs, Pt.cells, Pt.slots] at X92 l92 y92 z92 st92 hQ92
    subst l92 y92 z92
    obtain ⟨v92, N92q, K92q⟩ := hQ92
    have w92 : (fn4 Z (a_NOT_MASTER Z) (8 : Int32)) = (8 : Int32) := rfl
    rw [w92] at v92
    subst v92
    have N92 := Fr.app N91 N92q
    have O92 := O90.keep K92q all0
    have Kc92 := Kc90.trans K92q all0
    obtain ⟨fs, hr, hrun, hended, hW, hsame⟩ := X92.leave (v := some (.int (1 : Int32))) (fun h => by rw [Bd.returns] at h; cases h)
    refine ⟨_, _, pre65 _ ?_, hrun, hended, _, _, rfl, ?_, ⟨_, rfl⟩, hW, hsame.mono (by decide) (by decide)⟩
    · show oP p e below s₁ (mkF m 7 #[oI p0, oU, oU] [(.int (8 : Int32))]) _
      refine XS.istoreN X0.here hx rfl (hb hby at_7) rfl (l' := #[oI p0, oI (8 : Int32), oU]) rfl ?_
      show oP p e below s₁ (mkF m 8 #[oI p0, oI (8 : Int32), oU] []) _
      refine XS.iloadN X0.here hx rfl (hb hby at_8) rfl ?_
      show oP p e below s₁ (mkF m 9 #[oI p0, oI (8 : Int32), oU] [(.int (8 : Int32))]) _
      refine st90 _ ?_
      show oP p e below T90 (mkF m 12 #[oI p0, oI (8 : Int32), oU] [(.ref (a_NOT_MASTER Z))]) _
      refine XS.astoreN X90.here hx rfl (hb hby at_12) rfl rfl (l' := #[oI p0, oI (8 : Int32), oR (a_NOT_MASTER Z)]) rfl ?_
      show oP p e below T90 (mkF m 13 #[oI p0, oI (8 : Int32), oR (a_NOT_MASTER Z)] []) _
      refine XS.aloadN X90.here hx rfl (hb hby at_13) rfl rfl ?_
      show oP p e below T90 (mkF m 14 #[oI p0, oI (8 : Int32), oR (a_NOT_MASTER Z)] [(.ref (a_NOT_MASTER Z))]) _
      refine XS.iloadN X90.here hx rfl (hb hby at_14) rfl ?_
      show oP p e below T90 (mkF m 15 #[oI p0, oI (8 : Int32), oR (a_NOT_MASTER Z)] [(.int (8 : Int32)), (.ref (a_NOT_MASTER Z))]) _
      refine st91 _ ?_
      show oP p e below T91 (mkF m 18 #[oI p0, oI (8 : Int32), oR (a_NOT_MASTER Z)] [(.ref (a_NOT_MASTER Z)), (.ref (a_NOT_MASTER Z))]) _
      refine Jvm.RoadKit.acmp (g := (mkF m 18 #[oI p0, oI (8 : Int32), oR (a_NOT_MASTER Z)] [(.ref (a_NOT_MASTER Z)), (.ref (a_NOT_MASTER Z))])) X91 hx rfl rfl rfl (pc0 := 18) (pc' := 21) (same := true) rfl (hb hby at_18) rfl (decide_eq_true (congrArg Value.ref (rfl : (a_NOT_MASTER Z) = (a_NOT_MASTER Z)))) (by decide) (by decide) ?_
      show oP p e below T91 (mkF m 21 #[oI p0, oI (8 : Int32), oR (a_NOT_MASTER Z)] []) _
      refine XS.aloadN X91.here hx rfl (hb hby at_21) rfl rfl ?_
      show oP p e below T91 (mkF m 22 #[oI p0, oI (8 : Int32), oR (a_NOT_MASTER Z)] [(.ref (a_NOT_MASTER Z))]) _
      refine st92.trans ?_
      show oP p e below T92 (mkF m 25 #[oI p0, oI (8 : Int32), oR (a_NOT_MASTER Z)] [(.int (8 : Int32))]) _
      refine XS.iloadN X92.here hx rfl (hb hby at_25) rfl ?_
      show oP p e below T92 (mkF m 26 #[oI p0, oI (8 : Int32), oR (a_NOT_MASTER Z)] [(.int (8 : Int32)), (.int (8 : Int32))]) _
      refine XS.icmpNo X92.here hx rfl (hb hby at_26) rfl (teq (by decide : (8 : Int32) = (8 : Int32))).2 ?_
      show oP p e below T92 (mkF m 29 #[oI p0, oI (8 : Int32), oR (a_NOT_MASTER Z)] []) _
      refine XS.iconst X92.here hx rfl (hb hby at_29) ?_
      show oP p e below T92 (mkF m 30 #[oI p0, oI (8 : Int32), oR (a_NOT_MASTER Z)] [(.int (1 : Int32))]) _
      refine XS.goto X92.here hx rfl (pc0 := 30) (pc' := 34) rfl (hb hby at_30) (by decide) (by decide) ?_
      show oP p e below T92 (mkF m 34 #[oI p0, oI (8 : Int32), oR (a_NOT_MASTER Z)] [(.int (1 : Int32))]) _
      exact retN X92 hx (t := .boolean) Bd.returns (by simp) (hb hby at_34) hr
    · show (some (.int (1 : Int32)) : Option Value) = some (.int (1 : Int32)) ∧ Fr n0 _ ∧ Keep h0 T92.heap []
      exact ⟨rfl, N92, Kc92⟩
  · obtain ⟨_, _, ⟨T93, L93, k93, n93⟩, -, X93, ⟨Lc93, hQ93, l93, y93, z93⟩, st93⟩ := Jvm.LawKit.callS X0 hx (y := (⟨"com/example/latchwork/latchwork/Protocol$Outcome", "of", "(I)Lcom/example/latchwork/latchwork/Protocol$Outcome;"⟩ : MethodName)) hown (mvT hZ (hw _ (List.mem_of_getElem? (i := 1) rfl))) (mvT hZ (hw _ (List.mem_of_getElem? (i := 2) rfl))) (mvT hZ (hw _ (List.mem_of_getElem? (i := 3) rfl))) (mvT hZ (hw _ (List.mem_of_getElem? (i := 4) rfl))) (by decide) (backOf (W := 0) (rm1 l Z a0 hw hS [] (9 : Int32) h0 n0 O0 (by decide)) hZ (hw _ (List.mem_of_getElem? (i := 4) rfl)) (hw _ (List.mem_of_getElem? (i := 3) rfl)) (by decide) (by decide)) (g := (mkF m 9 #[oI p0, oI (9 : Int32), oU] [(.int (9 : Int32))])) rfl (by rw [hml]; rfl) (argsL := [(.int (9 : Int32))]) (rest := []) (lenOf pd_1 rfl) rfl (by show 2 * 0 + _ ≤ _; exact Nat.le_of_eq rfl) (hb hby at_9) (fun _ _ => ⟨rfl, e0, (by decide : 0 + 1 ≤ _), (by decide : 0 + 10 ≤ _)⟩)
    dsimp only [Pt.U, Pt.locs, Pt.cells, Pt.slots] at X93 l93 y93 z93 st93 hQ93
    subst l93 y93 z93
    obtain ⟨v93, N93q, K93q⟩ := hQ93
    have w93 : (fn1 Z (9 : Int32)) = (a_SESSION_ENDED Z) := by unfold fn1; rw [if_neg (by decide : ¬ ((0 : Int32) = (9 : Int32))), if_neg (by decide : ¬ ((1 : Int32) = (9 : Int32))), if_neg (by decide : ¬ ((2 : Int32) = (9 : Int32))), if_neg (by decide : ¬ ((3 : Int32) = (9 : Int32))), if_neg (by decide : ¬ ((4 : Int32) = (9 : Int32))), if_neg (by decide : ¬ ((5 : Int32) = (9 : Int32))), if_neg (by decide : ¬ ((6 : Int32) = (9 : Int32))), if_neg (by decide : ¬ ((7 : Int32) = (9 : Int32))), if_neg (by decide : ¬ ((8 : Int32) = (9 : Int32))), if_pos (by decide : (9 : Int32) = (9 : Int32))]; all_goals first | rfl | decide
    rw [w93] at v93
    subst v93
    have N93 := Fr.app N0 N93q
    have O93 := O0.keep K93q all0
    have Kc93 := (Keep.refl h0 []).trans K93q all0
    obtain ⟨_, _, ⟨T94, L94, k94, n94⟩, -, X94, ⟨Lc94, hQ94, l94, y94, z94⟩, st94⟩ := Jvm.LawKit.callS X93 hx (y := (⟨"com/example/latchwork/latchwork/OutcomeOfPinLaw", "expected", "(I)Lcom/example/latchwork/latchwork/Protocol$Outcome;"⟩ : MethodName)) hown (mvT hZ (hw _ (List.mem_of_getElem? (i := 32) rfl))) (mvT hZ (hw _ (List.mem_of_getElem? (i := 33) rfl))) (mvT hZ (hw _ (List.mem_of_getElem? (i := 34) rfl))) (mvT hZ (hw _ (List.mem_of_getElem? (i := 35) rfl))) (by decide) (backOf (W := 1) (rm3 l Z a0 hw hS [] (9 : Int32) T93.heap n0 O93) hZ (hw _ (List.mem_of_getElem? (i := 35) rfl)) (hw _ (List.mem_of_getElem? (i := 34) rfl)) (by decide) (by decide)) (g := (mkF m 15 #[oI p0, oI (9 : Int32), oR (a_SESSION_ENDED Z)] [(.int (9 : Int32)), (.ref (a_SESSION_ENDED Z))])) rfl (by rw [hml]; rfl) (argsL := [(.int (9 : Int32))]) (rest := [(.ref (a_SESSION_ENDED Z))]) (lenOf pd_1 rfl) rfl (by show 2 * 0 + _ ≤ _; exact Nat.le_of_eq rfl) (hb hby at_15) (fun _ _ => ⟨rfl, rfl, (by decide : 1 + 0 ≤ _), (by decide : 10 + 0 ≤ _)⟩)
    dsimp only [Pt.U, Pt.locs, Pt.cells, Pt.slots] at X94 l94 y94 z94 st94 hQ94
    subst l94 y94 z94
    obtain ⟨v94, N94q, h94q⟩ := hQ94
    have w94 : (fn3 Z (9 : Int32)) = (a_SESSION_ENDED Z) := by unfold fn3; rw [if_neg (by decide : ¬ ((9 : Int32) = (0 : Int32))), if_neg (by decide : ¬ ((9 : Int32) = (1 : Int32))), if_neg (by decide : ¬ ((9 : Int32) = (2 : Int32))), if_neg (by decide : ¬ ((9 : Int32) = (3 : Int32))), if_neg (by decide : ¬ ((9 : Int32) = (4 : Int32))), if_neg (by decide : ¬ ((9 : Int32) = (5 : Int32))), if_neg (by decide : ¬ ((9 : Int32) = (6 : Int32))), if_neg (by decide : ¬ ((9 : Int32) = (7 : Int32))), if_neg (by decide : ¬ ((9 : Int32) = (8 : Int32)))]; all_goals first | rfl | decide
    rw [w94] at v94
    subst v94
    have N94 := Fr.app N93 N94q
    obtain ⟨cq95, kq95, q95a, q95b, q95c⟩ := isOf hZ h94q ((e_a_SESSION_ENDED hS).ext O93.2)
    obtain ⟨_, _, ⟨T95, L95, k95, n95⟩, -, X95, ⟨Lc95, hQ95, l95, y95, z95⟩, st95⟩ := X94.virtualBack hx (y := (⟨"com/example/latchwork/latchwork/Protocol$Outcome", "code", "()I"⟩ : MethodName)) (z := (⟨"com/example/latchwork/latchwork/Protocol$Outcome", "code", "()I"⟩ : MethodName)) hown (mvT hZ (hw _ (List.mem_of_getElem? (i := 37) rfl))) (mvT hZ (hw _ (List.mem_of_getElem? (i := 38) rfl))) (notFace_of_selects (args := #[]) (mvT hZ (hw _ (List.mem_of_getElem? (i := 40) rfl)))) (mvT hZ (hw _ (List.mem_of_getElem? (i := 40) rfl))) (mvT hZ (hw _ (List.mem_of_getElem? (i := 39) rfl))) (by decide) (backOf (W := 0) (rm4 l Z a0 hw hS [] (a_SESSION_ENDED Z) (9 : Int32) T93.heap n0 O93 ((f_a_SESSION_ENDED_code hS).ext O93.2)) hZ (hw _ (List.mem_of_getElem? (i := 41) rfl)) (hw _ (List.mem_of_getElem? (i := 3) rfl)) (by decide) (by decide)) q95a q95c (g := (mkF m 22 #[oI p0, oI (9 : Int32), oR (a_SESSION_ENDED Z)] [(.ref (a_SESSION_ENDED Z))])) rfl (by rw [hml]; rfl) (Steps.refl _) (argsL := []) (rest := []) (lenOf pd_2 rfl) rfl (by show 2 * 0 + _ ≤ _; exact Nat.le_of_eq rfl) (hb hby at_22) (fun _ _ => ⟨rfl, h94q, (by decide : 1 + 0 ≤ _), (by decide : 10 + 0 ≤ _)⟩)
    dsimp only [Pt.U, Pt.locs, Pt.cells, Pt.slots] at X95 l95 y95 z95 st95 hQ95
    subst l95 y95 z95
    obtain ⟨v95, N95q, K95q⟩ := hQ95
    have w95 : (fn4 Z (a_SESSION_ENDED Z) (9 : Int32)) = (9 : Int32) := rfl
    rw [w95] at v95
    subst v95
    have N95 := Fr.app N94 N95q
    have O95 := O93.keep K95q all0
    have Kc95 := Kc93.trans K95q all0
    obtain ⟨fs, hr, hrun, hended, hW, hsame⟩ := X95.leave (v := some (.int (1 : Int32))) (fun h => by rw [Bd.returns] at h; cases h)
    refine ⟨_, _, pre65 _ ?_, hrun, hended, _, _, rfl, ?_, ⟨_, rfl⟩, hW, hsame.mono (by decide) (by decide)⟩
    · show oP p e below s₁ (mkF m 7 #[oI p0, oU, oU] [(.int (9 : Int32))]) _
      refine XS.istoreN X0.here hx rfl (hb hby at_7) rfl (l' := #[oI p0, oI (9 : Int32), oU]) rfl ?_
      show oP p e below s₁ (mkF m 8 #[oI p0, oI (9 : Int32), oU] []) _
      refine XS.iloadN X0.here hx rfl (hb hby at_8) rfl ?_
      show oP p e below s₁ (mkF m 9 #[oI p0, oI (9 : Int32), oU] [(.int (9 : Int32))]) _
      refine st93 _ ?_
      show oP p e below T93 (mkF m 12 #[oI p0, oI (9 : Int32), oU] [(.ref (a_SESSION_ENDED Z))]) _
      refine XS.astoreN X93.here hx rfl (hb hby at_12) rfl rfl (l' := #[oI p0, oI (9 : Int32), oR (a_SESSION_ENDED Z)]) rfl ?_
      show oP p e below T93 (mkF m 13 #[oI p0, oI (9 : Int32), oR (a_SESSION_ENDED Z)] []) _
      refine XS.aloadN X93.here hx rfl (hb hby at_13) rfl rfl ?_
      show oP p e below T93 (mkF m 14 #[oI p0, oI (9 : Int32), oR (a_SESSION_ENDED Z)] [(.ref (a_SESSION_ENDED Z))]) _
      refine XS.iloadN X93.here hx rfl (hb hby at_14) rfl ?_
      show oP p e below T93 (mkF m 15 #[oI p0, oI (9 : Int32), oR (a_SESSION_ENDED Z)] [(.int (9 : Int32)), (.ref (a_SESSION_ENDED Z))]) _
      refine st94 _ ?_
      show oP p e below T94 (mkF m 18 #[oI p0, oI (9 : Int32), oR (a_SESSION_ENDED Z)] [(.ref (a_SESSION_ENDED Z)), (.ref (a_SESSION_ENDED Z))]) _
      refine Jvm.RoadKit.acmp (g := (mkF m 18 #[oI p0, oI (9 : Int32), oR (a_SESSION_ENDED Z)] [(.ref (a_SESSION_ENDED Z)), (.ref (a_SESSION_ENDED Z))])) X94 hx rfl rfl rfl (pc0 := 18) (pc' := 21) (same := true) rfl (hb hby at_18) rfl (decide_eq_true (congrArg Value.ref (rfl : (a_SESSION_ENDED Z) = (a_SESSION_ENDED Z)))) (by decide) (by decide) ?_
      show oP p e below T94 (mkF m 21 #[oI p0, oI (9 : Int32), oR (a_SESSION_ENDED Z)] []) _
      refine XS.aloadN X94.here hx rfl (hb hby at_21) rfl rfl ?_
      show oP p e below T94 (mkF m 22 #[oI p0, oI (9 : Int32), oR (a_SESSION_ENDED Z)] [(.ref (a_SESSION_ENDED Z))]) _
      refine st95.trans ?_
      show oP p e below T95 (mkF m 25 #[oI p0, oI (9 : Int32), oR (a_SESSION_ENDED Z)] [(.int (9 : Int32))]) _
      refine XS.iloadN X95.here hx rfl (hb hby at_25) rfl ?_
      show oP p e below T95 (mkF m 26 #[oI p0, oI (9 : Int32), oR (a_SESSION_ENDED Z)] [(.int (9 : Int32)), (.int (9 : Int32))]) _
      refine XS.icmpNo X95.here hx rfl (hb hby at_26) rfl (teq (by decide : (9 : Int32) = (9 : Int32))).2 ?_
      show oP p e below T95 (mkF m 29 #[oI p0, oI (9 : Int32), oR (a_SESSION_ENDED Z)] []) _
      refine XS.iconst X95.here hx rfl (hb hby at_29) ?_
      show oP p e below T95 (mkF m 30 #[oI p0, oI (9 : Int32), oR (a_SESSION_ENDED Z)] [(.int (1 : Int32))]) _
      refine XS.goto X95.here hx rfl (pc0 := 30) (pc' := 34) rfl (hb hby at_30) (by decide) (by decide) ?_
      show oP p e below T95 (mkF m 34 #[oI p0, oI (9 : Int32), oR (a_SESSION_ENDED Z)] [(.int (1 : Int32))]) _
      exact retN X95 hx (t := .boolean) Bd.returns (by simp) (hb hby at_34) hr
    · show (some (.int (1 : Int32)) : Option Value) = some (.int (1 : Int32)) ∧ Fr n0 _ ∧ Keep h0 T95.heap []
      exact ⟨rfl, N95, Kc95⟩
set_option maxRecDepth 65536 in
set_option maxHeartbeats 40000000 in
theorem comes_1 {Post : Tables → Env → Array Value → State → Outcome → State → Prop} (hpost : ∀ tb e args s v u, (limb_1_1.after args s (.returned v) u = true ∧ limb_1_2.after args s (.returned v) u = true ∧ True) → FrameEnd s (.returned v) u (Jvm.fieldLocs frame_1_writes args s ++ Jvm.arrayLocs frame_1_arrays args s ++ Jvm.staticLocs frame_1_statics s) 16 128 → Post tb e args s (.returned v) u) :
    ArmFor flags0 classFile x code maxLocals ret World_1 tables_1 room_1 Calls_1 rest_1 Pre_1 Post := by
  intro l hfl _ _ p e ha hc hk s m args below hf hA hF happ hP
  obtain ⟨hcalls, hrest, hpre⟩ := hP
  obtain ⟨-, -, -, hnamed, -, -, -, hat⟩ := (Spec.applies_iff hf).mp happ
  obtain ⟨hg, hn⟩ := and_e (Cond.before_iff.mp (show (Jvm.Cond.and given_1 narrow_1).before args s = true from hpre))
  obtain ⟨g1, g2⟩ := and_e hg
  obtain ⟨w0, rfl⟩ : ∃ w0 : Value, args = #[w0] := by
    have hs : args.size = 1 := by simpa [Cond.value, given_1] using g1
    obtain ⟨L⟩ := args
    match L, hs with
    | [w0], _ => exact ⟨w0, rfl⟩
  have hw := fun d (hd : d ∈ tables_1) => atoms_spec (ws := Jvm.Cond.code x code maxLocals ret :: tables_1) hat d (List.mem_cons_of_mem _ hd)
  have hfit : Fit s := fun {y c} hc i hi => by
    obtain ⟨ha, rfl⟩ := Array.getElem?_eq_some_iff.mp hc
    have q := List.all_eq_true.mp ((Array.all_eq_true_iff_forall_mem.mp hF) _ (Array.getElem_mem ha)) i (List.mem_range.mpr hi)
    simpa [Array.getElem?_eq_getElem hi] using q
  obtain ⟨i0, ei0⟩ := is_v g2
  obtain rfl : w0 = (.int i0) := Option.some.inj ei0
  obtain ⟨q0, hn0⟩ := and_e hn
  obtain ⟨q1, hn1⟩ := and_e hn0
  obtain ⟨q2, hn2⟩ := and_e hn1
  obtain ⟨q3, hn3⟩ := and_e hn2
  obtain ⟨q4, hn4⟩ := and_e hn3
  obtain ⟨q5, hn5⟩ := and_e hn4
  obtain ⟨q6, hn6⟩ := and_e hn5
  obtain ⟨q7, hn7⟩ := and_e hn6
  obtain ⟨q8, hn8⟩ := and_e hn7
  obtain ⟨q9, hn9⟩ := and_e hn8
  obtain ⟨q10, hn10⟩ := and_e hn9
  obtain ⟨q11, hn11⟩ := and_e hn10
  obtain ⟨q12, hn12⟩ := and_e hn11
  obtain ⟨q13, hn13⟩ := and_e hn12
  obtain ⟨q14, hn14⟩ := and_e hn13
  obtain ⟨q15, hn15⟩ := and_e hn14
  obtain ⟨q16, hn16⟩ := and_e hn15
  obtain ⟨q17, hn17⟩ := and_e hn16
  obtain ⟨q18, hn18⟩ := and_e hn17
  obtain ⟨q19, hn19⟩ := and_e hn18
  obtain ⟨q20, hn20⟩ := and_e hn19
  obtain ⟨q21, hn21⟩ := and_e hn20
  obtain ⟨q22, hn22⟩ := and_e hn21
  obtain ⟨q23, hn23⟩ := and_e hn22
  obtain ⟨q24, hn24⟩ := and_e hn23
  obtain ⟨q25, hn25⟩ := and_e hn24
  obtain ⟨q26, hn26⟩ := and_e hn25
  obtain ⟨q27, hn27⟩ := and_e hn26
  obtain ⟨q28, hn28⟩ := and_e hn27
  obtain ⟨q29, hn29⟩ := and_e hn28
  obtain ⟨q30, hn30⟩ := and_e hn29
  obtain ⟨q31, hn31⟩ := and_e hn30
  have q32 := hn31
  have hS : St s := ⟨(own_sta q1 (Or.inr ⟨(hw _ (List.mem_of_getElem? (i := 3) rfl)), (hw _ (List.mem_of_getElem? (i := 9) rfl))⟩)), (own_exa q1), (own_sta q3 (Or.inr ⟨(hw _ (List.mem_of_getElem? (i := 3) rfl)), (hw _ (List.mem_of_getElem? (i := 17) rfl))⟩)), (own_exa q3), (own_sta q5 (Or.inr ⟨(hw _ (List.mem_of_getElem? (i := 3) rfl)), (hw _ (List.mem_of_getElem? (i := 18) rfl))⟩)), (own_exa q5), (own_sta q7 (Or.inr ⟨(hw _ (List.mem_of_getElem? (i := 3) rfl)), (hw _ (List.mem_of_getElem? (i := 19) rfl))⟩)), (own_exa q7), (own_sta q9 (Or.inr ⟨(hw _ (List.mem_of_getElem? (i := 3) rfl)), (hw _ (List.mem_of_getElem? (i := 20) rfl))⟩)), (own_exa q9), (own_sta q11 (Or.inr ⟨(hw _ (List.mem_of_getElem? (i := 3) rfl)), (hw _ (List.mem_of_getElem? (i := 21) rfl))⟩)), (own_exa q11), (own_sta q13 (Or.inr ⟨(hw _ (List.mem_of_getElem? (i := 3) rfl)), (hw _ (List.mem_of_getElem? (i := 22) rfl))⟩)), (own_exa q13), (own_sta q15 (Or.inr ⟨(hw _ (List.mem_of_getElem? (i := 3) rfl)), (hw _ (List.mem_of_getElem? (i := 23) rfl))⟩)), (own_exa q15), (own_sta q17 (Or.inr ⟨(hw _ (List.mem_of_getElem? (i := 3) rfl)), (hw _ (List.mem_of_getElem? (i := 24) rfl))⟩)), (own_exa q17), (own_sta q19 (Or.inr ⟨(hw _ (List.mem_of_getElem? (i := 3) rfl)), (hw _ (List.mem_of_getElem? (i := 25) rfl))⟩)), (own_exa q19), (own_sta q21 (Or.inr ⟨(hw _ (List.mem_of_getElem? (i := 3) rfl)), (hw _ (List.mem_of_getElem? (i := 26) rfl))⟩)), (own_exa q21), (own_fldI q23), (own_fldI q24), (own_fldI q25), (own_fldI q26), (own_fldI q27), (own_fldI q28), (own_fldI q29), (own_fldI q30), (own_fldI q31), (own_fldI q32), (own_vals hfit q0 q2 rfl (by decide) (fun cl A => ⟨own_elem q4 (own_at (q3)) A rfl, own_elem q6 (own_at (q5)) A rfl, own_elem q8 (own_at (q7)) A rfl, own_elem q10 (own_at (q9)) A rfl, own_elem q12 (own_at (q11)) A rfl, own_elem q14 (own_at (q13)) A rfl, own_elem q16 (own_at (q15)) A rfl, own_elem q18 (own_at (q17)) A rfl, own_elem q20 (own_at (q19)) A rfl, own_elem q22 (own_at (q21)) A rfl, trivial⟩) (by simp [fits]))⟩
  obtain ⟨n, o, h1, h2, h3, _, L, rfl, ⟨rfl, N, -⟩, hq⟩ := rm0 l s _ hw hS tables_1 i0 s.heap s.heap.size (Old.start s) p e ha hc hk s m _ below hf ((Spec.applies_iff_loose hf).mp happ).1 ⟨rfl, State.Warmed39.refl s, rfl⟩ trivial
  refine ⟨n, _, h1, h2, h3, hpost _ _ _ _ _ _ ⟨Cond.after_iff.mpr rfl, Cond.after_iff.mpr (eq_i res_at (Term.int_eval (1)) rfl), trivial⟩ ⟨hq.1, hq.2.1, (hq.2.2.sift fun y hy => Or.inr (N y hy)).mono (by decide) (by decide)⟩⟩
theorem main_1_1 : Claimed_1_1 := comes_1 fun _ _ _ _ _ _ h hF => ⟨h.1, hF⟩
theorem main_1_2 : Claimed_1_2 := comes_1 fun _ _ _ _ _ _ h hF => ⟨h.2.1, hF⟩
end Jvm.Pilot.@@N@@
namespace Jvm.Pilot.@@N@@
open Jvm Jvm.ClassFile Sem Op Lib Jvm.Free Jvm.Stand Jvm.Pilot.@@N@@.Jvm.D
/-! MADE BY PROGRAM (witnessworld.py) out of the Statement's table words and the real class files: 13 classes; the members and pool entries that the words name. The judged class is class 1, her method 1. -/
namespace start1
open Jvm.ClassFile
def u (s : String) : CpInfo := .utf8 (stringToUtf16 s)
/-- a pool by its gaps: so many unusable entries, then the entry; so many at the end -/
def gap : Nat → List CpInfo → List CpInfo
  | 0, r => r
  | n + 1, r => .unusable :: gap n r
def poolList (es : List (Nat × CpInfo)) (last : Nat) : List CpInfo := es.foldr (fun e r => gap e.1 (e.2 :: r)) (gap last [])
def pool (es : List (Nat × CpInfo)) (last : Nat) : Array CpInfo := ⟨poolList es last⟩
def fileOf (pool : Array CpInfo) (this : Nat) (attrs : Array Attribute := #[]) (ms : Array MethodInfo := #[]) (fl : Nat := 33) (sup : Nat := 0) (ifs : Array Nat := #[]) (fds : Array FieldInfo := #[]) : ClassFile where
  minorVersion := 0
  majorVersion := 65
  constantPool := pool
  accessFlags := fl
  thisClass := this
  superClass := sup
  interfaces := ifs
  fields := fds
  methods := ms
  attributes := attrs
def plain (name : String) (sup : Option ClassId) : Class where
  name := name
  kind := .ordinary
  loader := none
  accessFlags := 33
  super := sup
  interfaces := #[]
  cf := none
  fields := #[]
  methods := #[]
  instanceTypes := #[]
  staticTypes := #[]
  resolved := #[]
  callSites := []
  init := .initialized
  statics := none
  mirror := none

def pool0 : Array CpInfo := pool [(5, u "<init>"), (0, u "()V"), (1, .class_ 10), (1, u "java/lang/Object"), (85, u "clone"), (0, u "()Ljava/lang/Object;")] 26

def k0m0 : Method := { name := "<init>", desc := "()V", sig := { parameters := [], returnType := none }, accessFlags := 1, code := none }
def k0m1 : Method := { name := "clone", desc := "()Ljava/lang/Object;", sig := { parameters := [], returnType := some (.object "java/lang/Object") }, accessFlags := 260, code := none }
/-- java/lang/Object -/
def k0 : Class := { plain "java/lang/Object" none with
  accessFlags := 33
  interfaces := #[]
  cf := some (fileOf pool0 8 #[] #[{ accessFlags := 1, nameIndex := 5, descriptorIndex := 6, attributes := #[] }, { accessFlags := 260, nameIndex := 96, descriptorIndex := 97, attributes := #[] }] 33 0 #[] #[])
  fields := #[]
  methods := #[k0m0, k0m1]
  instanceTypes := #[]
  staticTypes := #[]
  resolved := Array.replicate 124 none
  statics := none }

def pool1 : Array CpInfo := pool [(2, .class_ 4), (1, u "java/lang/Object"), (0, u "<init>"), (0, u "()V"), (0, .integer 2147483647), (0, .methodref 9 10), (0, .class_ 11), (0, .nameAndType 12 13), (0, u "com/example/latchwork/latchwork/Protocol$Outcome"), (0, u "of"), (0, u "(I)Lcom/example/latchwork/latchwork/Protocol$Outcome;"), (0, .methodref 15 16), (0, .class_ 17), (0, .nameAndType 18 13), (0, u "com/example/latchwork/latchwork/OutcomeOfPinLaw"), (0, u "expected"), (0, .methodref 9 20), (0, .nameAndType 21 22), (0, u "code"), (0, u "()I"), (0, .fieldref 9 24), (0, .nameAndType 25 26), (0, u "OK"), (0, u "Lcom/example/latchwork/latchwork/Protocol$Outcome;"), (0, .fieldref 9 28), (0, .nameAndType 29 26), (0, u "INVALID"), (0, .fieldref 9 31), (0, .nameAndType 32 26), (0, u "NO_SUCH_NODE"), (0, .fieldref 9 34), (0, .nameAndType 35 26), (0, u "LOCK_BUSY"), (0, .fieldref 9 37), (0, .nameAndType 38 26), (0, u "SESSION_EXPIRED"), (0, .fieldref 9 40), (0, .nameAndType 41 26), (0, u "CONDITION_FAILED"), (0, .fieldref 9 43), (0, .nameAndType 44 26), (0, u "NOT_STORED"), (0, .fieldref 9 46), (0, .nameAndType 47 26), (0, u "STALE_EPOCH"), (0, .fieldref 9 49), (0, .nameAndType 50 26), (0, u "NOT_MASTER"), (0, .fieldref 9 52), (0, .nameAndType 53 26), (0, u "SESSION_ENDED"), (2, u "law"), (0, u "(I)Z")] 10

def k1m0 : Method := { name := "<init>", desc := "()V", sig := { parameters := [], returnType := none }, accessFlags := 2, code := none }
def k1c1 : Code := { maxStack := 2, maxLocals := 3, code := code, exceptionTable := #[], attributes := #[] }
def k1m1 : Method := { name := "law", desc := "(I)Z", sig := { parameters := [.int], returnType := some .boolean }, accessFlags := 9, code := some k1c1 }
def k1c2 : Code := { maxStack := 2, maxLocals := 1, code := method_3_code, exceptionTable := #[], attributes := #[] }
def k1m2 : Method := { name := "expected", desc := "(I)Lcom/example/latchwork/latchwork/Protocol$Outcome;", sig := { parameters := [.int], returnType := some (.object "com/example/latchwork/latchwork/Protocol$Outcome") }, accessFlags := 10, code := some k1c2 }
/-- com/example/latchwork/latchwork/OutcomeOfPinLaw -/
def k1 : Class := { plain "com/example/latchwork/latchwork/OutcomeOfPinLaw" (some 0) with
  accessFlags := 49
  interfaces := #[]
  cf := some (fileOf pool1 15 #[] #[{ accessFlags := 2, nameIndex := 5, descriptorIndex := 6, attributes := #[] }, { accessFlags := 9, nameIndex := 56, descriptorIndex := 57, attributes := #[] }, { accessFlags := 10, nameIndex := 18, descriptorIndex := 13, attributes := #[] }] 49 2 #[] #[])
  fields := #[]
  methods := #[k1m0, k1m1, k1m2]
  instanceTypes := #[]
  staticTypes := #[]
  resolved := Array.replicate 68 none
  statics := none }

def pool2 : Array CpInfo := pool [(1, .class_ 2), (0, u "java/lang/constant/Constable"), (0, .class_ 4), (0, u "java/lang/Object")] 6

/-- java/lang/constant/Constable -/
def k2 : Class := { plain "java/lang/constant/Constable" (some 0) with
  accessFlags := 1537
  interfaces := #[]
  cf := some (fileOf pool2 1 #[] #[] 1537 3 #[] #[])
  fields := #[]
  methods := #[]
  instanceTypes := #[]
  staticTypes := #[]
  resolved := Array.replicate 11 none
  statics := none }

def pool3 : Array CpInfo := pool [(1, .class_ 2), (0, u "java/lang/Comparable"), (0, .class_ 4), (0, u "java/lang/Object")] 7

/-- java/lang/Comparable -/
def k3 : Class := { plain "java/lang/Comparable" (some 0) with
  accessFlags := 1537
  interfaces := #[]
  cf := some (fileOf pool3 1 #[] #[] 1537 3 #[] #[])
  fields := #[]
  methods := #[]
  instanceTypes := #[]
  staticTypes := #[]
  resolved := Array.replicate 12 none
  statics := none }

def pool4 : Array CpInfo := pool [(1, .class_ 2), (0, u "java/io/Serializable"), (0, .class_ 4), (0, u "java/lang/Object")] 2

/-- java/io/Serializable -/
def k4 : Class := { plain "java/io/Serializable" (some 0) with
  accessFlags := 1537
  interfaces := #[]
  cf := some (fileOf pool4 1 #[] #[] 1537 3 #[] #[])
  fields := #[]
  methods := #[]
  instanceTypes := #[]
  staticTypes := #[]
  resolved := Array.replicate 7 none
  statics := none }

def pool5 : Array CpInfo := pool [(2, .class_ 4), (1, u "java/lang/Enum"), (0, u "name"), (0, u "Ljava/lang/String;"), (2, u "ordinal"), (0, u "I"), (1, .class_ 14), (1, u "java/lang/Object"), (4, u "hash"), (86, .class_ 108), (1, u "java/lang/Enum$EnumDesc"), (2, .class_ 112), (0, u "java/lang/constant/Constable"), (0, .class_ 114), (0, u "java/lang/Comparable"), (0, .class_ 116), (0, u "java/io/Serializable")] 87

/-- java/lang/Enum -/
def k5 : Class := { plain "java/lang/Enum" (some 0) with
  accessFlags := 1057
  interfaces := #[2, 3, 4]
  cf := some (fileOf pool5 2 #[.nestMembers #[106]] #[] 1057 12 #[111, 113, 115] #[{ accessFlags := 18, nameIndex := 5, descriptorIndex := 6, attributes := #[] }, { accessFlags := 18, nameIndex := 9, descriptorIndex := 10, attributes := #[] }, { accessFlags := 2, nameIndex := 19, descriptorIndex := 10, attributes := #[] }])
  fields := #[{ name := "name", type := (.object "java/lang/String"), accessFlags := 18, slot := 0, constantValue := 0 }, { name := "ordinal", type := .int, accessFlags := 18, slot := 1, constantValue := 0 }, { name := "hash", type := .int, accessFlags := 2, slot := 2, constantValue := 0 }]
  methods := #[]
  instanceTypes := #[(.object "java/lang/String"), .int, .int]
  staticTypes := #[]
  resolved := Array.replicate 204 none
  statics := none }

def pool6 : Array CpInfo := pool [(1, .class_ 2), (0, u "com/example/latchwork/latchwork/Protocol$Outcome"), (2, u "OK"), (0, u "Lcom/example/latchwork/latchwork/Protocol$Outcome;"), (2, u "INVALID"), (2, u "NO_SUCH_NODE"), (2, u "LOCK_BUSY"), (2, u "SESSION_EXPIRED"), (2, u "CONDITION_FAILED"), (2, u "NOT_STORED"), (2, u "STALE_EPOCH"), (2, u "NOT_MASTER"), (2, u "SESSION_ENDED"), (0, .fieldref 1 35), (0, .nameAndType 36 37), (0, u "$VALUES"), (0, u "[Lcom/example/latchwork/latchwork/Protocol$Outcome;"), (0, .methodref 39 40), (0, .class_ 37), (0, .nameAndType 41 42), (0, u "clone"), (0, u "()Ljava/lang/Object;"), (1, .class_ 46), (1, u "java/lang/Enum"), (6, .fieldref 1 54), (0, .nameAndType 55 56), (0, u "code"), (0, u "I"), (2, u "status"), (0, u "Lcom/example/latchwork/latchwork/LatchException$Status;"), (0, .methodref 1 62), (0, .nameAndType 63 64), (0, u "values"), (0, u "()[Lcom/example/latchwork/latchwork/Protocol$Outcome;"), (56, u "()I"), (1, u "of"), (0, u "(I)Lcom/example/latchwork/latchwork/Protocol$Outcome;"), (9, .class_ 135), (0, u "com/example/latchwork/latchwork/Protocol")] 21

def k6c0 : Code := { maxStack := 1, maxLocals := 0, code := prog_119_method_1_code, exceptionTable := #[], attributes := #[] }
def k6m0 : Method := { name := "values", desc := "()[Lcom/example/latchwork/latchwork/Protocol$Outcome;", sig := { parameters := [], returnType := some (.array (.object "com/example/latchwork/latchwork/Protocol$Outcome")) }, accessFlags := 9, code := some k6c0 }
def k6c1 : Code := { maxStack := 1, maxLocals := 1, code := prog_119_method_4_code, exceptionTable := #[], attributes := #[] }
def k6m1 : Method := { name := "code", desc := "()I", sig := { parameters := [], returnType := some .int }, accessFlags := 0, code := some k6c1 }
def k6c2 : Code := { maxStack := 3, maxLocals := 5, code := prog_119_method_6_code, exceptionTable := #[], attributes := #[] }
def k6m2 : Method := { name := "of", desc := "(I)Lcom/example/latchwork/latchwork/Protocol$Outcome;", sig := { parameters := [.int], returnType := some (.object "com/example/latchwork/latchwork/Protocol$Outcome") }, accessFlags := 8, code := some k6c2 }
/-- com/example/latchwork/latchwork/Protocol$Outcome -/
def k6 : Class := { plain "com/example/latchwork/latchwork/Protocol$Outcome" (some 5) with
  accessFlags := 16432
  interfaces := #[]
  cf := some (fileOf pool6 1 #[.nestHost 134] #[{ accessFlags := 9, nameIndex := 63, descriptorIndex := 64, attributes := #[] }, { accessFlags := 0, nameIndex := 55, descriptorIndex := 121, attributes := #[] }, { accessFlags := 8, nameIndex := 123, descriptorIndex := 124, attributes := #[] }] 16432 44 #[] #[{ accessFlags := 16409, nameIndex := 5, descriptorIndex := 6, attributes := #[] }, { accessFlags := 16409, nameIndex := 9, descriptorIndex := 6, attributes := #[] }, { accessFlags := 16409, nameIndex := 12, descriptorIndex := 6, attributes := #[] }, { accessFlags := 16409, nameIndex := 15, descriptorIndex := 6, attributes := #[] }, { accessFlags := 16409, nameIndex := 18, descriptorIndex := 6, attributes := #[] }, { accessFlags := 16409, nameIndex := 21, descriptorIndex := 6, attributes := #[] }, { accessFlags := 16409, nameIndex := 24, descriptorIndex := 6, attributes := #[] }, { accessFlags := 16409, nameIndex := 27, descriptorIndex := 6, attributes := #[] }, { accessFlags := 16409, nameIndex := 30, descriptorIndex := 6, attributes := #[] }, { accessFlags := 16409, nameIndex := 33, descriptorIndex := 6, attributes := #[] }, { accessFlags := 18, nameIndex := 55, descriptorIndex := 56, attributes := #[] }, { accessFlags := 18, nameIndex := 59, descriptorIndex := 60, attributes := #[] }, { accessFlags := 4122, nameIndex := 36, descriptorIndex := 37, attributes := #[] }])
  fields := #[{ name := "OK", type := (.object "com/example/latchwork/latchwork/Protocol$Outcome"), accessFlags := 16409, slot := 0, constantValue := 0 }, { name := "INVALID", type := (.object "com/example/latchwork/latchwork/Protocol$Outcome"), accessFlags := 16409, slot := 1, constantValue := 0 }, { name := "NO_SUCH_NODE", type := (.object "com/example/latchwork/latchwork/Protocol$Outcome"), accessFlags := 16409, slot := 2, constantValue := 0 }, { name := "LOCK_BUSY", type := (.object "com/example/latchwork/latchwork/Protocol$Outcome"), accessFlags := 16409, slot := 3, constantValue := 0 }, { name := "SESSION_EXPIRED", type := (.object "com/example/latchwork/latchwork/Protocol$Outcome"), accessFlags := 16409, slot := 4, constantValue := 0 }, { name := "CONDITION_FAILED", type := (.object "com/example/latchwork/latchwork/Protocol$Outcome"), accessFlags := 16409, slot := 5, constantValue := 0 }, { name := "NOT_STORED", type := (.object "com/example/latchwork/latchwork/Protocol$Outcome"), accessFlags := 16409, slot := 6, constantValue := 0 }, { name := "STALE_EPOCH", type := (.object "com/example/latchwork/latchwork/Protocol$Outcome"), accessFlags := 16409, slot := 7, constantValue := 0 }, { name := "NOT_MASTER", type := (.object "com/example/latchwork/latchwork/Protocol$Outcome"), accessFlags := 16409, slot := 8, constantValue := 0 }, { name := "SESSION_ENDED", type := (.object "com/example/latchwork/latchwork/Protocol$Outcome"), accessFlags := 16409, slot := 9, constantValue := 0 }, { name := "code", type := .int, accessFlags := 18, slot := 3, constantValue := 0 }, { name := "status", type := (.object "com/example/latchwork/latchwork/LatchException$Status"), accessFlags := 18, slot := 4, constantValue := 0 }, { name := "$VALUES", type := (.array (.object "com/example/latchwork/latchwork/Protocol$Outcome")), accessFlags := 4122, slot := 10, constantValue := 0 }]
  methods := #[k6m0, k6m1, k6m2]
  instanceTypes := #[(.object "java/lang/String"), .int, .int, .int, (.object "com/example/latchwork/latchwork/LatchException$Status")]
  staticTypes := #[(.object "com/example/latchwork/latchwork/Protocol$Outcome"), (.object "com/example/latchwork/latchwork/Protocol$Outcome"), (.object "com/example/latchwork/latchwork/Protocol$Outcome"), (.object "com/example/latchwork/latchwork/Protocol$Outcome"), (.object "com/example/latchwork/latchwork/Protocol$Outcome"), (.object "com/example/latchwork/latchwork/Protocol$Outcome"), (.object "com/example/latchwork/latchwork/Protocol$Outcome"), (.object "com/example/latchwork/latchwork/Protocol$Outcome"), (.object "com/example/latchwork/latchwork/Protocol$Outcome"), (.object "com/example/latchwork/latchwork/Protocol$Outcome"), (.array (.object "com/example/latchwork/latchwork/Protocol$Outcome"))]
  resolved := Array.replicate 157 none
  statics := some 0 }

def pool7 : Array CpInfo := pool [(1, .class_ 2), (0, u "java/lang/Cloneable"), (0, .class_ 4), (0, u "java/lang/Object")] 2

/-- java/lang/Cloneable -/
def k7 : Class := { plain "java/lang/Cloneable" (some 0) with
  accessFlags := 1537
  interfaces := #[]
  cf := some (fileOf pool7 1 #[] #[] 1537 3 #[] #[])
  fields := #[]
  methods := #[]
  instanceTypes := #[]
  staticTypes := #[]
  resolved := Array.replicate 7 none
  statics := none }

/-- the primitive byte -/
def k8 : Class := { plain "byte" none with kind := .primitive 'B', accessFlags := 0x411 }
/-- [B -/
def k9 : Class := { plain "[B" (some 0) with kind := .array 8 .byte, interfaces := #[7, 4], accessFlags := 1041 }

/-- the primitive int -/
def k10 : Class := { plain "int" none with kind := .primitive 'I', accessFlags := 0x411 }
/-- [I -/
def k11 : Class := { plain "[I" (some 0) with kind := .array 10 .int, interfaces := #[7, 4], accessFlags := 1041 }

/-- [Lcom/example/latchwork/latchwork/Protocol$Outcome; -/
def k12 : Class := { plain "[Lcom/example/latchwork/latchwork/Protocol$Outcome;" (some 0) with kind := .array 6 (.object "com/example/latchwork/latchwork/Protocol$Outcome"), interfaces := #[7, 4], accessFlags := 1041 }

def heap : Heap := #[{ cls := 6, slots := #[.ref 2, .ref 3, .ref 4, .ref 5, .ref 6, .ref 7, .ref 8, .ref 9, .ref 10, .ref 11, .ref 1], vm := .statics 6 },
  { cls := 12, slots := #[.ref 2, .ref 3, .ref 4, .ref 5, .ref 6, .ref 7, .ref 8, .ref 9, .ref 10, .ref 11], vm := .none },
  { cls := 6, slots := #[.null, .int 0, .int 0, .int 0, .null], vm := .none },
  { cls := 6, slots := #[.null, .int 0, .int 0, .int 1, .null], vm := .none },
  { cls := 6, slots := #[.null, .int 0, .int 0, .int 2, .null], vm := .none },
  { cls := 6, slots := #[.null, .int 0, .int 0, .int 3, .null], vm := .none },
  { cls := 6, slots := #[.null, .int 0, .int 0, .int 4, .null], vm := .none },
  { cls := 6, slots := #[.null, .int 0, .int 0, .int 5, .null], vm := .none },
  { cls := 6, slots := #[.null, .int 0, .int 0, .int 6, .null], vm := .none },
  { cls := 6, slots := #[.null, .int 0, .int 0, .int 7, .null], vm := .none },
  { cls := 6, slots := #[.null, .int 0, .int 0, .int 8, .null], vm := .none },
  { cls := 6, slots := #[.null, .int 0, .int 0, .int 9, .null], vm := .none }]
def classes : Array Class := #[k0, k1, k2, k3, k4, k5, k6, k7, k8, k9, k10, k11, k12]
def interned : List (Array UInt16 × Addr) := []
def slotsUsed : Nat := 71
def theMethod : MethodId := ⟨1, 1⟩
def args0 : Array Value := #[.int 5]
def aboutOver (below : List Frame) : State where
  vm := { classes := classes, interned := interned.toArray }
  heap := heap
  slotsUsed := slotsUsed
  threads := #[{ frames := .invoking theMethod args0 :: below }]
def below0 : List Frame := [.native { method := ⟨0, 0⟩, args := #[] }]
def about1 : State := aboutOver below0
def p0 : Program := .bare "" "" ""
def e0 : Env := launch0.env 0 0 0
theorem w_frames : about1.frames = Frame.invoking theMethod args0 :: below0 := rfl
set_option maxRecDepth 65536 in
theorem w_args : argsFit about1.vm theMethod args0 = true := by decide +kernel
set_option maxRecDepth 65536 in
theorem w_heap : heapFits about1 = true := by decide +kernel
set_option maxRecDepth 65536 in
theorem w_runnable : about1.curStatus? = some .runnable := by decide +kernel
set_option maxRecDepth 65536 in
theorem w_alone : about1.alone = true := by decide +kernel
set_option maxRecDepth 65536 in
theorem w_named : about1.methodNamed? x = some theMethod := by decide +kernel
set_option maxRecDepth 65536 in
theorem w_hears : about1.hears theMethod below0 = true := by decide +kernel
set_option maxRecDepth 65536 in
theorem w_ripe : about1.ripe theMethod args0 below0 = true := by decide +kernel
theorem w_running : about1.status = .running := rfl
set_option maxRecDepth 65536 in
theorem w_room : about1.hasRoom e0.platform room_1 = true :=
  launch0.hasRoom_least _ room_1 (by decide +kernel) (by decide +kernel) (by decide +kernel) (by decide +kernel) (by decide +kernel) (by decide +kernel)
theorem allAtoms_all (ts : List Jvm.Cond) (a : Array Jvm.Value) (st : Jvm.State) : (allAtoms ts).before a st = ts.all (fun c => c.before a st) := by
  induction ts with
  | nil => rfl
  | cons c t ih =>
    show (Jvm.Cond.and c (allAtoms t)).before a st = _
    rw [Jvm.Cond.before_and, ih, List.all_cons]
def words1 : List Jvm.Cond := Jvm.Cond.code x code maxLocals ret :: tables_1
/-- a 'code' word, met by the world's own term for the bytes: nothing is compared byte by byte -/
theorem code_word {y : MethodName} {bytes : ByteArray} {mx : Nat} {rt : Option FieldType} {a : Array Value} {s : State} {m : MethodId} {meth : Method} {c : Code} (h1 : s.methodNamed? y = some m) (h2 : s.vm.method? m = some meth) (h3 : meth.code = some c) (h4 : c.code = bytes)
    (h5 : (c.maxLocals == mx && c.exceptionTable.isEmpty && decide (c.maxStack ≤ mostOperands) && decide (meth.sig.returnType = rt) && !meth.locks && decide (parseMethodDescriptor y.desc = some meth.sig)) = true) : (Jvm.Cond.code y bytes mx rt).before a s = true := by
  simp only [Bool.and_eq_true, beq_iff_eq, Bool.not_eq_true', decide_eq_true_eq] at h5
  obtain ⟨⟨⟨⟨⟨g1, g2⟩, g3⟩, g4⟩, g5⟩, g6⟩ := h5
  simp [Cond.before, Cond.holds, Cond.value, h1, h2, h3, h4, g1, g2, g3, g4, g5, g6]
def isCode : Jvm.Cond → Bool
  | .code _ _ _ _ => true
  | _ => false
theorem all_split {L : List Jvm.Cond} {P : Jvm.Cond → Bool} (h1 : L.all (fun c => isCode c || P c) = true) (h2 : ∀ c ∈ L.filter isCode, P c = true) : L.all P = true := by
  refine List.all_eq_true.mpr fun c hc => ?_
  have h := List.all_eq_true.mp h1 c hc
  rcases Bool.eq_false_or_eq_true (isCode c) with hi | hi
  · exact h2 c (List.mem_filter.mpr ⟨hc, hi⟩)
  · simpa [hi] using h
set_option maxRecDepth 65536 in
theorem w_c0 : (Jvm.Cond.code x code maxLocals ret).before args0 about1 = true := code_word (m := ⟨1, 1⟩) (meth := k1m1) (c := k1c1) (by decide +kernel) rfl rfl rfl (by decide +kernel)
set_option maxRecDepth 65536 in
theorem w_c1 : (Jvm.Cond.code ({ cls := "com/example/latchwork/latchwork/Protocol$Outcome", name := "of", desc := "(I)Lcom/example/latchwork/latchwork/Protocol$Outcome;" } : Jvm.MethodName) prog_119_method_6_code (5 : Nat) (Option.some (Jvm.ClassFile.FieldType.object "com/example/latchwork/latchwork/Protocol$Outcome"))).before args0 about1 = true := code_word (m := ⟨6, 2⟩) (meth := k6m2) (c := k6c2) (by decide +kernel) rfl rfl rfl (by decide +kernel)
set_option maxRecDepth 65536 in
theorem w_c2 : (Jvm.Cond.code ({ cls := "com/example/latchwork/latchwork/Protocol$Outcome", name := "values", desc := "()[Lcom/example/latchwork/latchwork/Protocol$Outcome;" } : Jvm.MethodName) prog_119_method_1_code (0 : Nat) (Option.some (Jvm.ClassFile.FieldType.array (Jvm.ClassFile.FieldType.object "com/example/latchwork/latchwork/Protocol$Outcome")))).before args0 about1 = true := code_word (m := ⟨6, 0⟩) (meth := k6m0) (c := k6c0) (by decide +kernel) rfl rfl rfl (by decide +kernel)
set_option maxRecDepth 65536 in
theorem w_c3 : (Jvm.Cond.code ({ cls := "com/example/latchwork/latchwork/OutcomeOfPinLaw", name := "expected", desc := "(I)Lcom/example/latchwork/latchwork/Protocol$Outcome;" } : Jvm.MethodName) method_3_code (1 : Nat) (Option.some (Jvm.ClassFile.FieldType.object "com/example/latchwork/latchwork/Protocol$Outcome"))).before args0 about1 = true := code_word (m := ⟨1, 2⟩) (meth := k1m2) (c := k1c2) (by decide +kernel) rfl rfl rfl (by decide +kernel)
set_option maxRecDepth 65536 in
theorem w_c4 : (Jvm.Cond.code ({ cls := "com/example/latchwork/latchwork/Protocol$Outcome", name := "code", desc := "()I" } : Jvm.MethodName) prog_119_method_4_code (1 : Nat) (Option.some Jvm.ClassFile.FieldType.int)).before args0 about1 = true := code_word (m := ⟨6, 1⟩) (meth := k6m1) (c := k6c1) (by decide +kernel) rfl rfl rfl (by decide +kernel)
def codes1 : List Jvm.Cond := [Jvm.Cond.code x code maxLocals ret, Jvm.Cond.code ({ cls := "com/example/latchwork/latchwork/Protocol$Outcome", name := "of", desc := "(I)Lcom/example/latchwork/latchwork/Protocol$Outcome;" } : Jvm.MethodName) prog_119_method_6_code (5 : Nat) (Option.some (Jvm.ClassFile.FieldType.object "com/example/latchwork/latchwork/Protocol$Outcome")), Jvm.Cond.code ({ cls := "com/example/latchwork/latchwork/Protocol$Outcome", name := "values", desc := "()[Lcom/example/latchwork/latchwork/Protocol$Outcome;" } : Jvm.MethodName) prog_119_method_1_code (0 : Nat) (Option.some (Jvm.ClassFile.FieldType.array (Jvm.ClassFile.FieldType.object "com/example/latchwork/latchwork/Protocol$Outcome"))), Jvm.Cond.code ({ cls := "com/example/latchwork/latchwork/OutcomeOfPinLaw", name := "expected", desc := "(I)Lcom/example/latchwork/latchwork/Protocol$Outcome;" } : Jvm.MethodName) method_3_code (1 : Nat) (Option.some (Jvm.ClassFile.FieldType.object "com/example/latchwork/latchwork/Protocol$Outcome")), Jvm.Cond.code ({ cls := "com/example/latchwork/latchwork/Protocol$Outcome", name := "code", desc := "()I" } : Jvm.MethodName) prog_119_method_4_code (1 : Nat) (Option.some Jvm.ClassFile.FieldType.int)]
set_option maxRecDepth 65536 in
theorem codes_eq : words1.filter isCode = codes1 := rfl
theorem w_codes : ∀ c ∈ words1.filter isCode, c.before args0 about1 = true := by
  rw [codes_eq]
  intro c hc
  simp only [codes1, List.mem_cons, List.not_mem_nil, or_false] at hc
  rcases hc with rfl | rfl | rfl | rfl | rfl
  · exact w_c0
  · exact w_c1
  · exact w_c2
  · exact w_c3
  · exact w_c4
set_option maxRecDepth 65536 in
theorem w_t1 : (words1.take 24).all (fun c => isCode c || c.before args0 about1) = true := by decide +kernel
set_option maxRecDepth 65536 in
theorem w_t2 : ((words1.drop 24).take 24).all (fun c => isCode c || c.before args0 about1) = true := by decide +kernel
set_option maxRecDepth 65536 in
theorem w_t3 : ((words1.drop 24).drop 24).all (fun c => isCode c || c.before args0 about1) = true := by decide +kernel
theorem w_tables : (allAtoms (Jvm.Cond.code x code maxLocals ret :: tables_1)).before args0 about1 = true := by
  rw [allAtoms_all]
  show words1.all (fun c => c.before args0 about1) = true
  refine all_split ?_ w_codes
  rw [← List.take_append_drop 24 words1, List.all_append, w_t1, ← List.take_append_drop 24 (words1.drop 24), List.all_append, w_t2, w_t3]
  rfl
set_option maxRecDepth 65536 in
theorem w_case : (Jvm.Cond.and given_1 narrow_1).before args0 about1 = true := by decide +kernel
theorem w_applies : (headSpec (Jvm.Cond.code x code maxLocals ret :: tables_1) room_1).applies x e0.platform about1 = true :=
  (Spec.applies_iff w_frames).mpr ⟨w_running, w_runnable, w_alone, w_named, w_hears, w_ripe, w_room, w_tables⟩
theorem atStart : AtStart classFile x code maxLocals ret World_1 tables_1 room_1 Calls_1 rest_1 Pre_1 launch0 p0 e0 about1 theMethod args0 below0 :=
  ⟨lists_1, trivial, launch0.admits_env _ _ _, launch0.least_env, fairChoices_fair.cas, fairChoices_fair.clock, w_frames, w_args, w_heap, w_applies, trivial, trivial, w_case⟩
end start1
theorem witness_1 : WitnessClaimed_1 := ⟨start1.p0, start1.e0, start1.about1, start1.theMethod, start1.args0, start1.below0, start1.atStart⟩
end Jvm.Pilot.@@N@@
