import JvmDerived
import JvmDerived.Pilot.@@N@@Statement
import JvmDerived.Pilot.@@N@@Code
set_option linter.unusedVariables false
set_option linter.unusedSimpArgs false
namespace Jvm.RoadKit
open Sem ClassFile Op Lib Jvm.Stand Jvm.Free Jvm.LawKit
section New
variable {p : Program} {l : Launch} {e : Env} {R : Room} {s : State} {m : MethodId} {args : Array Value} {below : List Frame} {meth : Method} {c : Code} {T : State} {locs : List Loc} {cells slots : Nat}
theorem retI (X : Stand p l e R s m args below meth c T locs cells slots) (hx : p.tables.exec = Jvm.exec) {pc : Nat} {Ls : Array Slot} {z : Int32} {rest : List Value} (hret : meth.sig.returnType = some .int) (hd : decode c.code pc = .ok (.ireturn, 1)) {fs : List Frame}
    (hl : ∀ (f : JFrame) (acts : List Action), f.method = m → f.locked = none → f.entered = [] → (doReturn e (T.setTop f) acts (some (.int z))).1 = T.setFrames fs) : Steps p.tables e below (T.setTop (mkF m pc Ls (.int z :: rest))) (T.setFrames fs) := by
  have hm' : T.vm.method? m = some meth := X.method'
  have hn : narrow .int (.int z) = .int z := rfl
  show Steps p.tables e below (T.setTop { method := m, pc := pc, locals := Ls, stack := _ :: rest, locked := none }) _
  jvm_step X.here [X.here.top, hx, hd, hm', hret, hn]
  first | (intro acts; rw [hl _ acts rfl rfl rfl]) | rw [hl _ _ rfl rfl rfl]
  exact Steps.refl _
theorem own_retJ (X : Stand p l e R s m args below meth c T locs cells slots) (hx : p.tables.exec = Jvm.exec) {pc : Nat} {Ls : Array Slot} {z : Int64} {rest : List Value} (hret : meth.sig.returnType = some .long) (hd : decode c.code pc = .ok (.lreturn, 1)) {fs : List Frame}
    (hl : ∀ (f : JFrame) (acts : List Action), f.method = m → f.locked = none → f.entered = [] → (doReturn e (T.setTop f) acts (some (.long z))).1 = T.setFrames fs) : Steps p.tables e below (T.setTop (mkF m pc Ls (.long z :: rest))) (T.setFrames fs) := by
  have hm' : T.vm.method? m = some meth := X.method'
  have hn : narrow .long (.long z) = .long z := rfl
  show Steps p.tables e below (T.setTop { method := m, pc := pc, locals := Ls, stack := _ :: rest, locked := none }) _
  jvm_step X.here [X.here.top, hx, hd, hm', hret, hn]
  first | (intro acts; rw [hl _ acts rfl rfl rfl]) | rw [hl _ _ rfl rfl rfl]
  exact Steps.refl _
theorem own_catV {v : Value} (h : v.isRef = true) : v.category = 1 := by cases v <;> first | rfl | cases h
theorem own_retA (X : Stand p l e R s m args below meth c T locs cells slots) (hx : p.tables.exec = Jvm.exec) {pc : Nat} {Ls : Array Slot} {w : Value} {t : FieldType} {rest : List Value} (hret : meth.sig.returnType = some t) (ht : t.isReference = true) (hw : w.isRef = true) (hd : decode c.code pc = .ok (.areturn, 1)) {fs : List Frame}
    (hl : ∀ (f : JFrame) (acts : List Action), f.method = m → f.locked = none → f.entered = [] → (doReturn e (T.setTop f) acts (some w)).1 = T.setFrames fs) : Steps p.tables e below (T.setTop (mkF m pc Ls (w :: rest))) (T.setFrames fs) := by
  have hm' : T.vm.method? m = some meth := X.method'
  show Steps p.tables e below (T.setTop { method := m, pc := pc, locals := Ls, stack := w :: rest, locked := none }) _
  jvm_step X.here [X.here.top, hx, hd, hm', hret, ht, hw]
  first | (intro acts; rw [hl _ acts rfl rfl rfl]) | rw [hl _ _ rfl rfl rfl]
  exact Steps.refl _
variable {Z : State} {h : Heap}
theorem own_len (X : Stand p l e R s m args below meth c T locs cells slots) (hx : p.tables.exec = Jvm.exec) (hZ : Z.Warmed39 s.vm) (eT : T.heap = h) {a : Addr} {k : ClassId} {ty : FieldType} {z : Int32} {vs : List Value} {dv : Value} (F : Arv Z h a k ty z vs dv) {g : JFrame} (hg : g.method = m) {rest : List Value} (hs : g.stack = .ref a :: rest) (hd : decode c.code g.pc = .ok (.arraylength, 1)) (target : State)
    (hr : Steps p.tables e below (T.setTop { g with pc := g.pc + 1, stack := .int z :: rest }) target) : Steps p.tables e below (T.setTop g) target := by
  obtain ⟨cl, A, -, S, N, -, -⟩ := F
  refine X.arraylength hx (by rw [eT]; exact A.1) (State.isArrayOf_alike hZ.alike A.2.1) hg hs hd _ ?_
  rw [len_of S N]; exact hr
theorem own_aaload (X : Stand p l e R s m args below meth c T locs cells slots) (hx : p.tables.exec = Jvm.exec) (hZ : Z.Warmed39 s.vm) (eT : T.heap = h) {a : Addr} {k : ClassId} {ty : FieldType} {z : Int32} {vs : List Value} {dv : Value} (F : Arv Z h a k ty z vs dv) (hty : ty.isReference = true) {j : Int32} (hj : ¬ j < 0 ∧ j < z) {v : Value} (hv : vs.getD j.toNatClampNeg dv = v) {g : JFrame} (hg : g.method = m) {rest : List Value} (hs : g.stack = .int j :: .ref a :: rest) (hd : decode c.code g.pc = .ok (.aaload, 1)) (target : State)
    (hr : Steps p.tables e below (T.setTop { g with pc := g.pc + 1, stack := v :: rest }) target) : Steps p.tables e below (T.setTop g) target := by
  obtain ⟨cl, A, -, S, N, H, -⟩ := F
  have hin := inb_of S hj
  exact X.aaload hx (by rw [eT]; exact A.1) (State.isArrayOf_alike hZ.alike A.2.1) hty A.2.2 hin (H.at hin hv) hg hs hd _ hr
theorem own_baload (X : Stand p l e R s m args below meth c T locs cells slots) (hx : p.tables.exec = Jvm.exec) (hZ : Z.Warmed39 s.vm) (eT : T.heap = h) {a : Addr} {k : ClassId} {z : Int32} {vs : List Value} {dv : Value} (F : Arv Z h a k .byte z vs dv) {j : Int32} (hj : ¬ j < 0 ∧ j < z) {v : Value} (hv : vs.getD j.toNatClampNeg dv = v) {g : JFrame} (hg : g.method = m) {rest : List Value} (hs : g.stack = .int j :: .ref a :: rest) (hd : decode c.code g.pc = .ok (.baload, 1)) (target : State)
    (hr : Steps p.tables e below (T.setTop { g with pc := g.pc + 1, stack := v :: rest }) target) : Steps p.tables e below (T.setTop g) target := by
  obtain ⟨cl, A, -, S, N, H, -⟩ := F
  have hin := inb_of S hj
  exact X.baloadBytes hx (by rw [eT]; exact A.1) (State.isArrayOf_alike hZ.alike A.2.1) A.2.2 hin (H.at hin hv) hg hs hd _ hr
theorem own_stR (X : Stand p l e R s m args below meth c T locs cells slots) (hx : p.tables.exec = Jvm.exec) (hZ : Z.Warmed39 s.vm) (eT : T.heap = h) {a y : Addr} {k : ClassId} {C : String} {z : Int32} {vs : List Value} {dv : Value} (F : Arv Z h a k (.object C) z vs dv) (O : Ovr Z k C) (I : Ins Z h y C true) {j : Int32} (hj : ¬ j < 0 ∧ j < z) {i : Nat} (hi : j.toNatClampNeg = i) (hl : i < vs.length) {g : JFrame} (hg : g.method = m) {rest : List Value} (hs : g.stack = .ref y :: .int j :: .ref a :: rest) (hd : decode c.code g.pc = .ok (.aastore, 1)) :
    ∃ T' h', Stand p l e R s m args below meth c T' (locs ++ [⟨a, j.toNatClampNeg⟩]) cells slots ∧ T'.heap = h' ∧ Wr h h' a j.toNatClampNeg (.ref y) ∧ Arv Z h' a k (.object C) z (vs.set i (.ref y)) dv ∧ ∀ target, Steps p.tables e below (T'.setTop { g with pc := g.pc + 1, stack := rest }) target → Steps p.tables e below (T.setTop g) target := by
  obtain ⟨cl, A, q, S, N, H, G⟩ := F
  obtain ⟨T', h', X', e', W, st⟩ := stR X hx hZ eT A (inb_of S hj) rfl (Sto.ofV A q O I) hg hs hd
  exact ⟨T', h', X', e', W, Arv.set A q S N H G rfl W i hi hl, st⟩
theorem own_stC (X : Stand p l e R s m args below meth c T locs cells slots) (hx : p.tables.exec = Jvm.exec) (hZ : Z.Warmed39 s.vm) (eT : T.heap = h) {a : Addr} {k : ClassId} {z x : Int32} {vs : List Value} {dv : Value} (F : Arv Z h a k .char z vs dv) {j : Int32} (hj : ¬ j < 0 ∧ j < z) {i : Nat} (hi : j.toNatClampNeg = i) (hl : i < vs.length) {g : JFrame} (hg : g.method = m) {rest : List Value} (hs : g.stack = .int x :: .int j :: .ref a :: rest) (hd : decode c.code g.pc = .ok (.castore, 1)) :
    ∃ T' h', Stand p l e R s m args below meth c T' (locs ++ [⟨a, j.toNatClampNeg⟩]) cells slots ∧ T'.heap = h' ∧ Wr h h' a j.toNatClampNeg (.int (nar .char x)) ∧ Arv Z h' a k .char z (vs.set i (.int (nar .char x))) dv ∧ ∀ target, Steps p.tables e below (T'.setTop { g with pc := g.pc + 1, stack := rest }) target → Steps p.tables e below (T.setTop g) target := by
  obtain ⟨cl, A, q, S, N, H, G⟩ := F
  obtain ⟨T', h', X', e', W, st⟩ := stC X hx hZ eT A (inb_of S hj) hg hs hd
  exact ⟨T', h', X', e', W, Arv.set A q S N H G (fits_nar_char _) W i hi hl, st⟩
theorem own_stB (X : Stand p l e R s m args below meth c T locs cells slots) (hx : p.tables.exec = Jvm.exec) (hZ : Z.Warmed39 s.vm) (eT : T.heap = h) {a : Addr} {k : ClassId} {z x : Int32} {vs : List Value} {dv : Value} (F : Arv Z h a k .byte z vs dv) {j : Int32} (hj : ¬ j < 0 ∧ j < z) {i : Nat} (hi : j.toNatClampNeg = i) (hl : i < vs.length) {g : JFrame} (hg : g.method = m) {rest : List Value} (hs : g.stack = .int x :: .int j :: .ref a :: rest) (hd : decode c.code g.pc = .ok (.bastore, 1)) :
    ∃ T' h', Stand p l e R s m args below meth c T' (locs ++ [⟨a, j.toNatClampNeg⟩]) cells slots ∧ T'.heap = h' ∧ Wr h h' a j.toNatClampNeg (.int (nar .byte x)) ∧ Arv Z h' a k .byte z (vs.set i (.int (nar .byte x))) dv ∧ ∀ target, Steps p.tables e below (T'.setTop { g with pc := g.pc + 1, stack := rest }) target → Steps p.tables e below (T.setTop g) target := by
  obtain ⟨cl, A, q, S, N, H, G⟩ := F
  obtain ⟨T', h', X', e', W, st⟩ := stB X hx hZ eT A (inb_of S hj) hg hs hd
  exact ⟨T', h', X', e', W, Arv.set A q S N H G (fits_nar_byte _) W i hi hl, st⟩
end New
end Jvm.RoadKit
namespace Jvm.Pilot.@@N@@
open Jvm Jvm.ClassFile Sem Op Lib Jvm.Free Jvm.Stand Jvm.LawKit Jvm.RoadKit Bundle Jvm.Pilot.@@N@@.Jvm.D
abbrev oI (x : Int32) : Slot := .val (.int x)
abbrev oJ (x : Int64) : Slot := .val (.long x)
abbrev oR (a : Addr) : Slot := .val (.ref a)
abbrev oN : Slot := .val .null
abbrev oV (v : Value) : Slot := .val v
abbrev oU : Slot := .unset
abbrev oS : Slot := .second
abbrev oP (p : Program) (e : Env) (below : List Frame) (T : State) (g : JFrame) (t : State) : Prop := Steps p.tables e below (T.setTop g) t
def own_sv (Z : State) (C n d : String) : Addr := match (Term.static C n d).eval #[] Z none [] Z with | some (.ref a) => a | _ => 0
theorem own_sv_of {Z : State} {args : Array Value} {C n d : String} {a : Addr} (h : (Term.static C n d).eval args Z none [] Z = some (.ref a)) : (Term.static C n d).eval args Z none [] Z = some (.ref (own_sv Z C n d)) := by
  have h' : (Term.static C n d).eval #[] Z none [] Z = some (.ref a) := h
  rw [h]; unfold own_sv; rw [h']
theorem own_at {Z : State} {args : Array Value} {C n d K : String} (h : (Cond.exactly (Term.static C n d) K).value args Z none Z [] = some true) : (Term.static C n d).eval args Z none [] Z = some (.ref (own_sv Z C n d)) := by
  obtain ⟨a, ha⟩ := exa_v h
  exact own_sv_of ha
theorem own_sta {Z : State} {args : Array Value} {C n d K : String} (h : (Cond.exactly (Term.static C n d) K).value args Z none Z [] = some true) (hi : (Cond.initializedFor C n d).before args Z = true ∨ ((Cond.initialized C).before args Z = true ∧ (Cond.laysStatic C n d).before args Z = true)) : Sta Z Z.heap C n d (.ref (own_sv Z C n d)) := Sta.start (own_at h) hi
theorem own_exa {Z : State} {args : Array Value} {C n d K : String} (h : (Cond.exactly (Term.static C n d) K).value args Z none Z [] = some true) : Exa Z Z.heap (own_sv Z C n d) K := Exa.start (own_at h) h
theorem own_fldV {Z : State} {args : Array Value} {C n d O f fd : String} {v : Value} (h : (Term.field (Term.static C n d) O f fd).eval args Z none [] Z = some v) : Fld Z Z.heap (own_sv Z C n d) O f fd v := by
  obtain ⟨a, ha⟩ := fld_v h
  rw [fld_at (own_sv_of ha)] at h
  exact Fld.start h
theorem own_fldI {Z : State} {args : Array Value} {C n d O f fd : String} {k : Int32} (h : (Cond.eq (Term.field (Term.static C n d) O f fd) (Term.int k)).value args Z none Z [] = some true) : Fld Z Z.heap (own_sv Z C n d) O f fd (.int k) := by
  refine own_fldV (args := args) ?_
  cases hv : (Term.field (Term.static C n d) O f fd).eval args Z none [] Z with
  | none => simp [Cond.value, hv] at h
  | some v => cases v <;> simp_all [Cond.value, Term.eval]
abbrev own_Q (Q : Option Value → Heap → List Loc → Prop) (v : Option Value) (h : Heap) (L : List Loc) : Prop := Q v h L
theorem own_clamp (x : Int32) : x.toNatClampNeg = x.toInt.toNat := rfl
theorem own_and_le (x c : Int32) (hc : 0 ≤ c.toInt) : 0 ≤ (x &&& c).toInt ∧ (x &&& c).toInt ≤ c.toInt := by
  have hm : c.toBitVec.msb = false := by
    cases h : c.toBitVec.msb with
    | false => rfl
    | true =>
      have := BitVec.toInt_neg_of_msb_true h
      rw [Int32.toInt_toBitVec] at this
      omega
  have h : (x &&& c).toBitVec.msb = false := by
    rw [Int32.toBitVec_and, BitVec.msb_and, hm]; simp
  have e1 : (x &&& c).toInt = ((x &&& c).toBitVec.toNat : Int) := by
    rw [← Int32.toInt_toBitVec, BitVec.toInt_eq_toNat_of_msb h]
  have e2 : c.toInt = (c.toBitVec.toNat : Int) := by
    rw [← Int32.toInt_toBitVec, BitVec.toInt_eq_toNat_of_msb hm]
  have h3 : (x &&& c).toBitVec.toNat ≤ c.toBitVec.toNat := by
    rw [Int32.toBitVec_and, BitVec.toNat_and]; exact Nat.and_le_right
  omega
theorem own_rem {x y : Int32} (hx : 0 ≤ x.toInt) (hy : 0 < y.toInt) : (x - (x / y) * y).toInt = x.toInt % y.toInt := by
  have h1 : (x / y).toInt = x.toInt / y.toInt := by
    rw [Int32.toInt_div]
    rw [Int.tdiv_eq_ediv_of_nonneg hx]
    have := Int32.toInt_lt x
    have h2 : 0 ≤ x.toInt / y.toInt := Int.ediv_nonneg hx (by omega)
    have h3 : x.toInt / y.toInt ≤ x.toInt := Int.ediv_le_self _ hx
    apply Int.bmod_eq_of_le <;> omega
  rw [Int32.toInt_sub, Int32.toInt_mul, h1]
  have h2 : 0 ≤ x.toInt / y.toInt * y.toInt := Int.mul_nonneg (Int.ediv_nonneg hx (by omega)) (by omega)
  have h3 : x.toInt / y.toInt * y.toInt ≤ x.toInt := Int.ediv_mul_le _ (by omega)
  have h4 := Int32.toInt_lt x
  rw [Int.bmod_eq_of_le (n := x.toInt / y.toInt * y.toInt) (by omega) (by omega)]
  have h5 : x.toInt - x.toInt / y.toInt * y.toInt = x.toInt % y.toInt := by
    have := Int.emod_add_mul_ediv x.toInt y.toInt
    have h6 : x.toInt / y.toInt * y.toInt = y.toInt * (x.toInt / y.toInt) := Int.mul_comm _ _
    omega
  rw [h5]
  have h6 := Int.emod_nonneg x.toInt (b := y.toInt) (by omega)
  have h7 := Int.emod_lt_of_pos x.toInt hy
  have h8 := Int32.toInt_lt y
  apply Int.bmod_eq_of_le <;> omega
theorem own_mem {i : Int32} {n : Nat} (h0 : 0 ≤ i.toInt) (h1 : i.toInt < n) : ∃ k, k < n ∧ i = Int32.ofNat k := by
  refine ⟨i.toInt.toNat, by omega, ?_⟩
  apply Int32.toInt_inj.mp
  have := Int32.toInt_lt i
  rw [Int32.toInt_ofNat_of_lt (by omega)]
  omega
theorem own_old_le {Z : State} {n0 : Nat} {h : Heap} (O : Old Z n0 h) : n0 ≤ h.size := O.1 ▸ O.2.1
def own_Vals (Z : State) (a : Addr) (ty : FieldType) (z : Int32) (vs : List Value) (dv : Value) : Prop := ∃ cl : Cell, Arr Z Z.heap a cl ty ∧ FitC Z cl ∧ cl.slots.size = z.toNatClampNeg ∧ Has cl vs dv ∧ ∀ i, i < cl.slots.size → fits ty (vs.getD i dv) = true
theorem own_clone {Z : State} {h : Heap} {b : Addr} {cl : Cell} {ty : FieldType} {z : Int32} {vs : List Value} {dv : Value} (A : Arr Z h b (cloneOf cl) ty) (S : cl.slots.size = z.toNatClampNeg) (hz : ¬ z < 0) (H : Has cl vs dv) (G : ∀ i, i < cl.slots.size → fits ty (vs.getD i dv) = true) : Arv Z h b cl.cls ty z vs dv := ⟨_, A, rfl, S, hz, H, G⟩
theorem own_elem {Z : State} {args : Array Value} {C n d C2 n2 d2 : String} {i : Int32} {cl : Cell} {ty : FieldType} {j : Nat} (h : (Cond.eq (Term.elem (Term.static C n d) (Term.int i)) (Term.static C2 n2 d2)).value args Z none Z [] = some true) (ht : (Term.static C2 n2 d2).eval args Z none [] Z = some (.ref (own_sv Z C2 n2 d2))) (A : Arr Z Z.heap (own_sv Z C n d) cl ty) (hj : i.toNatClampNeg = j) : cl.slots[j]? = some (.ref (own_sv Z C2 n2 d2)) := by
  subst hj
  have hi : (Term.int i).eval args Z none [] Z = some (.int i) := Term.int_eval i
  cases hv : (Term.elem (Term.static C n d) (Term.int i)).eval args Z none [] Z with
  | none => simp [Cond.value, hv] at h
  | some w =>
    obtain ⟨⟨x, hx⟩, -⟩ := elem_v hv
    have h2 := (elem_in hv (own_sv_of hx) hi A.1).2
    rw [h2]
    cases w <;> simp_all [Cond.value]
theorem own_getD {P : Value → Prop} {dv : Value} (hd : P dv) : ∀ (vs : List Value) (h : ∀ v ∈ vs, P v) (i : Nat), P (vs.getD i dv)
  | [], _, _ => by simpa using hd
  | v :: vs, h, 0 => h v (List.mem_cons_self ..)
  | v :: vs, h, i + 1 => own_getD hd vs (fun w hw => h w (List.mem_cons_of_mem _ hw)) i
theorem own_vals {Z : State} {args : Array Value} {C n d C2 : String} {k : Int32} {vs : List Value} (hf : Fit Z) (h1 : (Cond.arrayOf (Term.static C n d) (.object C2)).value args Z none Z [] = some true) (h2 : (Cond.eq (Term.length (Term.static C n d)) (Term.int k)).value args Z none Z [] = some true) (hl : k.toNatClampNeg = vs.length) (hk : ¬ k < 0)
    (h3 : ∀ cl, Arr Z Z.heap (own_sv Z C n d) cl (.object C2) → HasL cl 0 vs) (h4 : ∀ v ∈ vs, fits (.object C2) v = true) : own_Vals Z (own_sv Z C n d) (.object C2) k vs .null := by
  obtain ⟨x, hx⟩ := arr_v h1
  have ev := own_sv_of hx
  obtain ⟨cl, A⟩ := Arr.start ev h1
  have hs : cl.slots.size = k.toNatClampNeg := by
    cases hv : (Term.length (Term.static C n d)).eval args Z none [] Z with
    | none => simp [Cond.value, hv] at h2
    | some w =>
      obtain ⟨a, cell, e1, e2, e3⟩ := Term.length_spec hv
      cases ev.symm.trans e1
      have e4 := A.fin (Vm.Alike.refl _)
      cases e4.symm.trans e2
      have hlt : cl.slots.size < 2 ^ 31 := SBG.length_lt ev e4 hv
      subst e3
      have e5 : cl.slots.size.toInt32 = k := by
        have hi : (Term.int k).eval args Z none [] Z = some (.int k) := Term.int_eval k
        simpa [Cond.value, hv, hi] using h2
      rw [← e5]
      have e6 := len_toInt hlt
      simp only [own_clamp]
      omega
  have H := h3 cl A
  refine ⟨cl, A, FitC.start hf A, hs, fun i hi => ?_, fun i _ => own_getD (P := fun v => fits (.object C2) v = true) rfl vs h4 i⟩
  have := HasL.at (dv := .null) vs 0 H i (by omega)
  simpa using this
theorem own_fldN {Z : State} {args : Array Value} {C n d O f fd : String} (h : (Cond.eq (Term.field (Term.static C n d) O f fd) Term.null).value args Z none Z [] = some true) : Fld Z Z.heap (own_sv Z C n d) O f fd .null := own_fldV (args := args) (null_v h)
theorem own_fldS {Z : State} {args : Array Value} {C n d O f fd C2 n2 d2 K2 : String} (h : (Cond.eq (Term.field (Term.static C n d) O f fd) (Term.static C2 n2 d2)).value args Z none Z [] = some true) (h2 : (Cond.exactly (Term.static C2 n2 d2) K2).value args Z none Z [] = some true) : Fld Z Z.heap (own_sv Z C n d) O f fd (.ref (own_sv Z C2 n2 d2)) := by
  refine own_fldV (args := args) ?_
  have e2 := own_at h2
  cases hv : (Term.field (Term.static C n d) O f fd).eval args Z none [] Z with
  | none => simp [Cond.value, hv] at h
  | some v => cases v <;> simp_all [Cond.value]
theorem own_fldL {Z : State} {args : Array Value} {C n d O f fd : String} {k : Int64} (h : (Cond.eq (Term.field (Term.static C n d) O f fd) (Term.long k)).value args Z none Z [] = some true) : Fld Z Z.heap (own_sv Z C n d) O f fd (.long k) := by
  refine own_fldV (args := args) ?_
  cases hv : (Term.field (Term.static C n d) O f fd).eval args Z none [] Z with
  | none => simp [Cond.value, hv] at h
  | some v => cases v <;> simp_all [Cond.value, Term.eval]
theorem own_staI {Z : State} {args : Array Value} {C n d : String} {k : Int32} (h : (Cond.eq (Term.static C n d) (Term.int k)).value args Z none Z [] = some true) (hi : (Cond.initializedFor C n d).before args Z = true ∨ ((Cond.initialized C).before args Z = true ∧ (Cond.laysStatic C n d).before args Z = true)) : Sta Z Z.heap C n d (.int k) := by
  refine Sta.start (args := args) ?_ hi
  cases hv : (Term.static C n d).eval args Z none [] Z with
  | none => simp [Cond.value, hv] at h
  | some v =>
    have hk : (Term.int k).eval args Z none [] Z = some (.int k) := Term.int_eval k
    cases v <;> simp_all [Cond.value]
def own_Cache (Z : State) (a : Addr) (C : String) (n : Nat) : Prop := ∃ cl : Cell, Arr Z Z.heap a cl (.object C) ∧ cl.slots.size = n ∧ ∀ j, j < n → ∃ x, cl.slots[j]? = some (.ref x) ∧ Exa Z Z.heap x C
theorem own_nsroot {Z : State} {a0 : Array Value} {O K : String} {n : Nat} (w : (Cond.noSuperclass O).before a0 Z = true) (wk : (Cond.instantiable K n).before a0 Z = true) (hn : O ≠ K) : NS Z O K := by
  obtain ⟨c, k, h1, h2, h3, -, -⟩ := Cond.noSuperclass_spec w
  obtain ⟨t, kt, g1, -⟩ := Cond.instantiable_spec wk
  have ne := ids_ne h1 g1 hn
  refine ⟨c, t, h1, g1, fun fuel => ?_⟩
  cases fuel with
  | zero => rfl
  | succ f => simp [Vm.isSubclassAux, ne, h2, h3]
theorem own_nsno {Z : State} {a0 : Array Value} {C S K : String} {n : Nat} (w : (Cond.superclass C S).before a0 Z = true) (wk : (Cond.instantiable K n).before a0 Z = true) (m : NS Z C K) (hn : C ≠ K) : ∃ c t, Z.vm.findClass C = some c ∧ Z.vm.findClass K = some t ∧ Z.vm.assignable c t = false := by
  obtain ⟨c, t, h0, g0, n3⟩ := m
  obtain ⟨p, k, kp, h1, h2, h3, h4, h5, -, h7⟩ := Cond.superclass_spec h0 w
  obtain ⟨t', k', g1, g2, g3, g4, -⟩ := Cond.instantiable_spec wk
  cases g0.symm.trans g1
  have g5 : k'.isInterface = false := by
    cases hq : k'.isInterface with
    | false => rfl
    | true => simp [hq] at g4
  have ne := ids_ne h0 g0 hn
  refine ⟨c, t, h0, g0, ?_⟩
  show Z.vm.assignableAux (255 + 1) c t = false
  simp [Vm.assignableAux, ne, h2, g2, h5, g3, g5, Vm.isSubclass, n3]
theorem own_fitsR {v : Value} {C : String} (h : v.isRef = true) : fits (.object C) v = true := by cases v <;> simp_all [Value.isRef, fits]
def own_si (Z : State) (C n d : String) : Int32 := match (Term.static C n d).eval #[] Z none [] Z with | some (.int a) => a | _ => 0
theorem own_si_of {Z : State} {args : Array Value} {C n d : String} (h : (Cond.isInt (Term.static C n d)).value args Z none Z [] = some true) : (Term.static C n d).eval args Z none [] Z = some (.int (own_si Z C n d)) := by
  obtain ⟨x, hx⟩ := is_v h
  have h' : (Term.static C n d).eval #[] Z none [] Z = some (.int x) := hx
  rw [hx]; unfold own_si; rw [h']
theorem own_sti {Z : State} {args : Array Value} {C n d : String} (h : (Cond.isInt (Term.static C n d)).value args Z none Z [] = some true) (hi : (Cond.initializedFor C n d).before args Z = true ∨ ((Cond.initialized C).before args Z = true ∧ (Cond.laysStatic C n d).before args Z = true)) : Sta Z Z.heap C n d (.int (own_si Z C n d)) := Sta.start (own_si_of h) hi
theorem own_stn {Z : State} {args : Array Value} {C n d : String} (h : (Cond.isInt (Term.static C n d)).value args Z none Z [] = some true) (hn : (Cond.not (Cond.eq (Term.static C n d) (Term.int 0))).value args Z none Z [] = some true) : ¬ own_si Z C n d = 0 := by
  have e := own_si_of h
  have h0 : (Term.int 0).eval args Z none [] Z = some (.int 0) := Term.int_eval 0
  have q := not_v hn
  intro z
  rw [z] at e
  simp [Cond.value, e, h0] at q
theorem own_char {c x : Int32} (h : c = (x &&& (255 : Int32))) : ¬ c < 0 ∧ ¬ (255 : Int32) < c := by
  have q := own_and_le x 255 (by decide)
  rw [← h] at q
  have e : (255 : Int32).toInt = 255 := by decide
  have e0 : (0 : Int32).toInt = 0 := by decide
  rw [Int32.lt_iff_toInt_lt, Int32.lt_iff_toInt_lt, e, e0]
  omega
theorem own_narc {c : Int32} (h : ¬ c < 0 ∧ ¬ (255 : Int32) < c) : nar .char c = c := by
  rw [Int32.lt_iff_toInt_lt, Int32.lt_iff_toInt_lt] at h
  have e : (255 : Int32).toInt = 255 := by decide
  have e0 : (0 : Int32).toInt = 0 := by decide
  rw [e, e0] at h
  obtain ⟨k, hk, rfl⟩ := own_mem (i := c) (n := 256) (by omega) (by omega)
  have t : ∀ k : Fin 256, nar .char (Int32.ofNat k.val) = Int32.ofNat k.val := by decide +kernel
  exact t ⟨k, hk⟩
theorem own_hb {cs : List Int32} (h : ∀ c ∈ cs, ¬ c < 0 ∧ ¬ (255 : Int32) < c) : ∀ c ∈ cs, ¬ c < 0 ∧ ¬ (65535 : Int32) < c := fun c hc => by
  have q := h c hc
  refine ⟨q.1, fun z => q.2 ?_⟩
  rw [Int32.lt_iff_toInt_lt] at z ⊢
  have e : (255 : Int32).toInt = 255 := by decide
  have e0 : (65535 : Int32).toInt = 65535 := by decide
  omega
theorem own_eqv {v : Option Value} {cs ds : List Int32} (h : (v = some (.int 1) ∧ cs = ds) ∨ (v = some (.int 0) ∧ ¬ cs = ds)) : v = some (.int (if cs = ds then (1 : Int32) else (0 : Int32))) := by
  rcases h with ⟨h1, h2⟩ | ⟨h1, h2⟩
  · rw [if_pos h2]; exact h1
  · rw [if_neg h2]; exact h1
theorem own_since (s : State) : s.Since s.vm 0 := (State.WarmedH.refl s).since 0
theorem own_rwmono {s t : State} {o : Outcome} {L : List Loc} {k n k' n' : Nat} (h : ReturnedEndW s o t L k n) (hk : k ≤ k') (hn : n ≤ n') : ReturnedEndW s o t L k' n' := ⟨h.1, h.2.1, h.2.2.1, h.2.2.2.mono hk hn⟩
theorem own_cache {Z : State} {args : Array Value} {C n d K : String} {k : Int32} {N : Nat} {rest : Cond} (h1 : (Cond.arrayOf (Term.static C n d) (.object K)).value args Z none Z [] = some true) (h2 : (Cond.eq (Term.length (Term.static C n d)) (Term.int k)).value args Z none Z [] = some true)
    (h3 : (Cond.all (Term.static C n d) (.and (.exactly (.elem (Term.static C n d) (.index 0)) K) rest)).value args Z none Z [] = some true) (hN : k.toNatClampNeg = N) : own_Cache Z (own_sv Z C n d) K N := by
  obtain ⟨x, hx⟩ := arr_v h1
  have ev := own_sv_of hx
  obtain ⟨cl, A⟩ := Arr.start ev h1
  have e4 := A.fin (Vm.Alike.refl _)
  have hs : cl.slots.size = k.toNatClampNeg ∧ cl.slots.size < 2 ^ 31 := by
    cases hv : (Term.length (Term.static C n d)).eval args Z none [] Z with
    | none => simp [Cond.value, hv] at h2
    | some w =>
      obtain ⟨a, cell, e1, e2, e3⟩ := Term.length_spec hv
      cases ev.symm.trans e1
      cases e4.symm.trans e2
      have hlt : cl.slots.size < 2 ^ 31 := SBG.length_lt ev e4 hv
      subst e3
      have e5 : cl.slots.size.toInt32 = k := by
        have hi : (Term.int k).eval args Z none [] Z = some (.int k) := Term.int_eval k
        simpa [Cond.value, hv, hi] using h2
      rw [← e5]
      have e6 := len_toInt hlt
      refine ⟨?_, hlt⟩
      simp only [own_clamp]
      omega
  refine ⟨cl, A, hs.1.trans hN, fun j hj => ?_⟩
  have q := Cond.all_elim ev e4 h3 j (by omega)
  obtain ⟨q1, -⟩ := and_e q
  obtain ⟨y, hy⟩ := exa_v q1
  have ev' : (Term.static C n d).eval args Z none [j] Z = some (.ref (own_sv Z C n d)) := ev
  have hj' : (Term.index 0).eval args Z none [j] Z = some (.int (Int32.ofNat j)) := Term.index_eval _
  have r := (elem_in hy ev' hj' A.1).2
  have e6 : (Int32.ofNat j).toNatClampNeg = j := by
    have := len_toInt (n := j) (by omega)
    simp only [own_clamp]
    have e7 : (Int32.ofNat j).toInt = j := this
    omega
  rw [e6] at r
  exact ⟨y, r, exa_at hy q1⟩
theorem own_cacheix {p : Int32} {cl : Cell} (h1 : ¬ p < (-128 : Int32)) (h2 : ¬ (127 : Int32) < p) (S : cl.slots.size = 256) : ¬ (p + (128 : Int32) < 0 ∨ cl.slots.size ≤ (p + (128 : Int32)).toNatClampNeg) ∧ (p + (128 : Int32)).toNatClampNeg < 256 := by
  rw [Int32.lt_iff_toInt_lt] at h1 h2 ⊢
  have e1 : (-128 : Int32).toInt = -128 := by decide
  have e2 : (127 : Int32).toInt = 127 := by decide
  have e3 : (0 : Int32).toInt = 0 := by decide
  have e4 : (128 : Int32).toInt = 128 := by decide
  have e5 : (p + (128 : Int32)).toInt = p.toInt + 128 := by
    rw [Int32.toInt_add, e4]
    apply Int.bmod_eq_of_le <;> omega
  simp only [own_clamp]
  omega
theorem own_staA {Z : State} {args : Array Value} {C n d : String} {ty : FieldType} (h : (Cond.arrayOf (Term.static C n d) ty).value args Z none Z [] = some true) (hi : (Cond.initializedFor C n d).before args Z = true ∨ ((Cond.initialized C).before args Z = true ∧ (Cond.laysStatic C n d).before args Z = true)) : Sta Z Z.heap C n d (.ref (own_sv Z C n d)) := by
  obtain ⟨a, ha⟩ := arr_v h
  exact Sta.start (own_sv_of ha) hi
end Jvm.Pilot.@@N@@
namespace Jvm.Pilot.@@N@@
open Jvm Jvm.ClassFile Sem Op Lib Jvm.Free Jvm.Stand Jvm.LawKit Jvm.RoadKit Bundle Jvm.Pilot.@@N@@.Jvm.D
def a_high (Z : State) : Addr := own_sv Z "java/lang/Integer$IntegerCache" "high" "I"
def a_cache (Z : State) : Addr := own_sv Z "java/lang/Integer$IntegerCache" "cache" "[Ljava/lang/Integer;"
def St (Z : State) : Prop := (Sta Z Z.heap "java/lang/Integer$IntegerCache" "high" "I" (.int (127 : Int32))) ∧ (Sta Z Z.heap "java/lang/Integer$IntegerCache" "cache" "[Ljava/lang/Integer;" (.ref (a_cache Z))) ∧ (Exa Z Z.heap (a_cache Z) "[Ljava/lang/Integer;") ∧ (own_Cache Z (a_cache Z) "java/lang/Integer" 256)
theorem s_a_high {Z : State} (h : St Z) : Sta Z Z.heap "java/lang/Integer$IntegerCache" "high" "I" (.int (127 : Int32)) := h.1
theorem s_a_cache {Z : State} (h : St Z) : Sta Z Z.heap "java/lang/Integer$IntegerCache" "cache" "[Ljava/lang/Integer;" (.ref (a_cache Z)) := h.2.1
theorem e_a_cache {Z : State} (h : St Z) : Exa Z Z.heap (a_cache Z) "[Ljava/lang/Integer;" := h.2.2.1
theorem c_a_cache {Z : State} (h : St Z) : own_Cache Z (a_cache Z) "java/lang/Integer" 256 := h.2.2.2
theorem own_wS {Z : State} {a0 : Array Value} (hw : ∀ d ∈ tables_1, d.before a0 Z = true) : ∀ a ∈ Bundle.stringAtoms, a.before a0 Z = true := by
  intro a ha
  simp only [Bundle.stringAtoms, List.mem_cons, List.not_mem_nil, or_false] at ha
  rcases ha with rfl | rfl | rfl | rfl | rfl | rfl | rfl
  · exact (hw _ (List.mem_of_getElem? (i := 22) rfl))
  · exact (hw _ (List.mem_of_getElem? (i := 23) rfl))
  · exact (hw _ (List.mem_of_getElem? (i := 24) rfl))
  · exact (hw _ (List.mem_of_getElem? (i := 25) rfl))
  · exact (hw _ (List.mem_of_getElem? (i := 26) rfl))
  · exact (hw _ (List.mem_of_getElem? (i := 27) rfl))
  · exact (hw _ (List.mem_of_getElem? (i := 28) rfl))
theorem d8_0 : decode jdk_18_method_1_code 0 = .ok (.aload_n 0, 1) := by decide +kernel
theorem d8_1 : decode jdk_18_method_1_code 1 = .ok (.invokespecial 1, 3) := by decide +kernel
theorem d8_4 : decode jdk_18_method_1_code 4 = .ok (.return_, 1) := by decide +kernel
theorem ef_8 (m : MethodId) (x0 : Addr) : entryFrame m #[(.ref x0)] 1 = mkF m 0 #[.val (.ref x0)] [] := by first | (simp [entryFrame, mkF, argsToLocals, Value.category]; done) | rfl
theorem pn_0 : plainName "java/lang/Number" = true := by first | (simp [plainName, overriddenIn]; done) | decide +kernel
set_option maxRecDepth 65536 in
set_option maxHeartbeats 40000000 in
theorem rm8 (l : Launch) (Z : State) (a0 : Array Value) (hw : ∀ d ∈ tables_1, d.before a0 Z = true) (hS : St Z) (ws : List Jvm.Cond) (r0 : Addr) (h0 : Heap) (n0 : Nat) (O0 : Old Z n0 h0) :
    MetFree l (⟨"java/lang/Number", "<init>", "()V"⟩ : MethodName) (head1 (Jvm.Cond.code (⟨"java/lang/Number", "<init>", "()V"⟩ : MethodName) jdk_18_method_1_code 1 none :: ws) ({ frames := 1, cells := 0, slots := 0, locals := 12 } : Room)) (fun a U => a = #[(.ref r0)] ∧ Z.Warmed39 U.vm ∧ U.heap = h0) (fun _ _ _ _ _ => True) (fun _ U o U' => ∃ v L, o = .returned v ∧ own_Q (fun v hE L => v = none ∧ Fr n0 L ∧ Keep h0 hE []) v U'.heap L ∧ FrameEnd U o U' L ({ frames := 1, cells := 0, slots := 0, locals := 12 } : Room).cells ({ frames := 1, cells := 0, slots := 0, locals := 12 } : Room).slots) := by
  refine MetFree.of_bodySF (plainFor_of_name pn_0) hisR ?_
  intro p e s m args below meth c s₁ Bd hml0 hP hK
  obtain ⟨rfl, hZ, hh⟩ := hP
  have hx := Bd.exec
  have hby := Bd.bytes
  have hml : c.maxLocals = 1 := hml0
  have hown : s.vm.findClass "java/lang/Number" = some m.cls := findClass_of_methodNamed Bd.named
  have hnm := (name_of_methodNamed Bd.named Bd.method).1
  have X0 : Stand p l e ({ frames := 1, cells := 0, slots := 0, locals := 12 } : Room) s m #[(.ref r0)] below meth c s₁ [] 0 0 := Stand.of_body Bd
  have e0 : s₁.heap = h0 := by rw [← hh, Bd.state]; rfl
  have N0 := Fr.nil n0
  have pre0 : ∀ t, Steps p.tables e below (s₁.setTop (mkF m 0 #[oR r0] [])) t → Steps p.tables e below (s₁.setTop (entryFrame m #[(.ref r0)] 1)) t := fun t k => castTop (ef_8 m r0) k
  obtain ⟨T1, X1, e1, st1⟩ := initO X0 hx hZ hown (hw _ (List.mem_of_getElem? (i := 54) rfl)) (hw _ (List.mem_of_getElem? (i := 19) rfl)) (hw _ (List.mem_of_getElem? (i := 20) rfl)) e0 (g := (mkF m 1 #[oR r0] [(.ref r0)])) rfl (by rw [hml]; rfl) rfl (hb hby d8_1) (by decide) (W := 0) (by show 2 * 0 + _ ≤ _; exact Nat.le_of_eq rfl) (by decide)
  obtain ⟨fs, hr, hrun, hended, hW, hsame⟩ := X1.leave (v := none) (fun _ => rfl)
  refine ⟨_, _, pre0 _ ?_, hrun, hended, _, _, rfl, ?_, ⟨_, rfl⟩, hW, hsame.mono (by decide) (by decide)⟩
  · show oP p e below s₁ (mkF m 0 #[oR r0] []) _
    refine XS.aloadN X0.here hx rfl (hb hby d8_0) rfl rfl ?_
    show oP p e below s₁ (mkF m 1 #[oR r0] [(.ref r0)]) _
    refine st1 _ ?_
    show oP p e below T1 (mkF m 4 #[oR r0] []) _
    exact X1.returnOut hx Bd.returns (hb hby d8_4) hr
  · show (none : Option Value) = none ∧ Fr n0 _ ∧ Keep h0 T1.heap []
    rw [e1]
    exact ⟨rfl, N0, (Keep.refl h0 [])⟩
theorem d7_0 : decode jdk_33_method_23_code 0 = .ok (.aload_n 0, 1) := by decide +kernel
theorem d7_1 : decode jdk_33_method_23_code 1 = .ok (.invokespecial 202, 3) := by decide +kernel
theorem pd_0 : parseMethodDescriptor "()V" = some ⟨[], none⟩ := by decide +kernel
theorem d7_4 : decode jdk_33_method_23_code 4 = .ok (.aload_n 0, 1) := by decide +kernel
theorem d7_5 : decode jdk_33_method_23_code 5 = .ok (.iload_n 1, 1) := by decide +kernel
theorem d7_6 : decode jdk_33_method_23_code 6 = .ok (.putfield 205, 3) := by decide +kernel
theorem d7_9 : decode jdk_33_method_23_code 9 = .ok (.return_, 1) := by decide +kernel
theorem ef_7 (m : MethodId) (x0 : Addr) (x1 : Int32) : entryFrame m #[(.ref x0), (.int x1)] 2 = mkF m 0 #[.val (.ref x0), .val (.int x1)] [] := by first | (simp [entryFrame, mkF, argsToLocals, Value.category]; done) | rfl
theorem pn_1 : plainName "java/lang/Integer" = true := by first | (simp [plainName, overriddenIn]; done) | decide +kernel
set_option maxRecDepth 65536 in
set_option maxHeartbeats 40000000 in
theorem rm7 (l : Launch) (Z : State) (a0 : Array Value) (hw : ∀ d ∈ tables_1, d.before a0 Z = true) (hS : St Z) (ws : List Jvm.Cond) (r0 : Addr) (p1 : Int32) (h0 : Heap) (n0 : Nat) (O0 : Old Z n0 h0) (E_r0 : Exa Z h0 r0 "java/lang/Integer") (F_value_r0 : Fld Z h0 r0 "java/lang/Integer" "value" "I" (.int (0 : Int32))) (g_r0 : n0 ≤ r0) :
    MetFree l (⟨"java/lang/Integer", "<init>", "(I)V"⟩ : MethodName) (head1 (Jvm.Cond.code (⟨"java/lang/Integer", "<init>", "(I)V"⟩ : MethodName) jdk_33_method_23_code 2 none :: ws) ({ frames := 2, cells := 0, slots := 0, locals := 24 } : Room)) (fun a U => a = #[(.ref r0), (.int p1)] ∧ Z.Warmed39 U.vm ∧ U.heap = h0) (fun _ _ _ _ _ => True) (fun _ U o U' => ∃ v L, o = .returned v ∧ own_Q (fun v hE L => v = none ∧ Fr n0 L ∧ Keep h0 hE [r0] ∧ Exa Z hE r0 "java/lang/Integer" ∧ Fld Z hE r0 "java/lang/Integer" "value" "I" (.int p1)) v U'.heap L ∧ FrameEnd U o U' L ({ frames := 2, cells := 0, slots := 0, locals := 24 } : Room).cells ({ frames := 2, cells := 0, slots := 0, locals := 24 } : Room).slots) := by
  refine MetFree.of_bodySF (plainFor_of_name pn_1) hisR ?_
  intro p e s m args below meth c s₁ Bd hml0 hP hK
  obtain ⟨rfl, hZ, hh⟩ := hP
  have hx := Bd.exec
  have hby := Bd.bytes
  have hml : c.maxLocals = 2 := hml0
  have hown : s.vm.findClass "java/lang/Integer" = some m.cls := findClass_of_methodNamed Bd.named
  have hnm := (name_of_methodNamed Bd.named Bd.method).1
  have X0 : Stand p l e ({ frames := 2, cells := 0, slots := 0, locals := 24 } : Room) s m #[(.ref r0), (.int p1)] below meth c s₁ [] 0 0 := Stand.of_body Bd
  have e0 : s₁.heap = h0 := by rw [← hh, Bd.state]; rfl
  have N0 := Fr.nil n0
  have pre0 : ∀ t, Steps p.tables e below (s₁.setTop (mkF m 0 #[oR r0, oI p1] [])) t → Steps p.tables e below (s₁.setTop (entryFrame m #[(.ref r0), (.int p1)] 2)) t := fun t k => castTop (ef_7 m r0 p1) k
  obtain ⟨_, _, ⟨T2, L2, k2, n2⟩, -, X2, ⟨Lc2, hQ2, l2, y2, z2⟩, st2⟩ := X0.specialBack hx (y := (⟨"java/lang/Number", "<init>", "()V"⟩ : MethodName)) rfl hown (mvT hZ (hw _ (List.mem_of_getElem? (i := 48) rfl))) (mvT hZ (hw _ (List.mem_of_getElem? (i := 49) rfl))) (mvT hZ (hw _ (List.mem_of_getElem? (i := 53) rfl))) (by decide) (backOf (W := 0) (rm8 l Z a0 hw hS [] r0 h0 n0 O0 ) hZ (hw _ (List.mem_of_getElem? (i := 53) rfl)) (hw _ (List.mem_of_getElem? (i := 52) rfl)) (by decide) (by decide)) (g := (mkF m 1 #[oR r0, oI p1] [(.ref r0)])) rfl (by rw [hml]; rfl) (Steps.refl _) (a := r0) (argsL := []) (rest := []) (lenOf pd_0 rfl) rfl (by show 2 * 0 + _ ≤ _; exact Nat.le_of_eq rfl) (hb hby d7_1) (fun _ _ => ⟨rfl, e0, (by decide : 0 + 0 ≤ _), (by decide : 0 + 0 ≤ _)⟩)
  dsimp only [Pt.U, Pt.locs, Pt.cells, Pt.slots] at X2 l2 y2 z2 st2 hQ2
  subst l2 y2 z2
  obtain ⟨v2, N2q, K2q⟩ := hQ2
  subst v2
  have N2 := Fr.app N0 N2q
  have O2 := O0.keep K2q all0
  have Kc2 := (Keep.refl h0 [r0]).trans K2q all0
  have fx3 := (E_r0.keep K2q)
  have fx4 := (F_value_r0.keep K2q nin0)
  obtain ⟨T5, h5, X5, e5, W5, st5⟩ := putF X2 hx hZ hown (host := "") (Or.inl (hw _ (List.mem_of_getElem? (i := 55) rfl))) Via.refl rfl fx4 fx3 (Or.inr ⟨(hw _ (List.mem_of_getElem? (i := 56) rfl)), rfl, hnm⟩) (hw _ (List.mem_of_getElem? (i := 43) rfl)) (ty := .int) (by decide) rfl rfl (g := (mkF m 6 #[oR r0, oI p1] [(.int p1), (.ref r0)])) rfl rfl (hb hby d7_6)
  have N5 := Fr.snoc X5 N2 g_r0
  have O5 := O2.wr W5 g_r0
  have Kc5 := Kc2.wr W5 (Or.inl (List.mem_of_getElem? (i := 0) rfl))
  have Fw5 := fx4.same W5
  obtain ⟨fs, hr, hrun, hended, hW, hsame⟩ := X5.leave (v := none) (fun _ => rfl)
  refine ⟨_, _, pre0 _ ?_, hrun, hended, _, _, rfl, ?_, ⟨_, rfl⟩, hW, hsame.mono (by decide) (by decide)⟩
  · show oP p e below s₁ (mkF m 0 #[oR r0, oI p1] []) _
    refine XS.aloadN X0.here hx rfl (hb hby d7_0) rfl rfl ?_
    show oP p e below s₁ (mkF m 1 #[oR r0, oI p1] [(.ref r0)]) _
    refine st2.trans ?_
    show oP p e below T2 (mkF m 4 #[oR r0, oI p1] []) _
    refine XS.aloadN X2.here hx rfl (hb hby d7_4) rfl rfl ?_
    show oP p e below T2 (mkF m 5 #[oR r0, oI p1] [(.ref r0)]) _
    refine XS.iloadN X2.here hx rfl (hb hby d7_5) rfl ?_
    show oP p e below T2 (mkF m 6 #[oR r0, oI p1] [(.int p1), (.ref r0)]) _
    refine st5 _ ?_
    show oP p e below T5 (mkF m 9 #[oR r0, oI p1] []) _
    exact X5.returnOut hx Bd.returns (hb hby d7_9) hr
  · show (none : Option Value) = none ∧ Fr n0 _ ∧ Keep h0 T5.heap [r0] ∧ Exa Z T5.heap r0 "java/lang/Integer" ∧ Fld Z T5.heap r0 "java/lang/Integer" "value" "I" (.int p1)
    rw [e5]
    have fx6 := (fx3.wr W5)
    exact ⟨rfl, N5, Kc5, fx6, Fw5⟩
theorem d1_0 : decode jdk_33_method_22_code 0 = .ok (.iload_n 0, 1) := by decide +kernel
theorem d1_1 : decode jdk_33_method_22_code 1 = .ok (.bipush (-128), 2) := by decide +kernel
theorem d1_3 : decode jdk_33_method_22_code 3 = .ok (.if_icmp .lt 20, 3) := by decide +kernel
theorem d1_23 : decode jdk_33_method_22_code 23 = .ok (.new 1, 3) := by decide +kernel
theorem d1_26 : decode jdk_33_method_22_code 26 = .ok (.dup, 1) := by decide +kernel
theorem d1_27 : decode jdk_33_method_22_code 27 = .ok (.iload_n 0, 1) := by decide +kernel
theorem d1_28 : decode jdk_33_method_22_code 28 = .ok (.invokespecial 199, 3) := by decide +kernel
theorem pd_1 : parseMethodDescriptor "(I)V" = some ⟨[.int], none⟩ := by decide +kernel
theorem d1_31 : decode jdk_33_method_22_code 31 = .ok (.areturn, 1) := by decide +kernel
theorem d1_6 : decode jdk_33_method_22_code 6 = .ok (.iload_n 0, 1) := by decide +kernel
theorem d1_7 : decode jdk_33_method_22_code 7 = .ok (.getstatic 191, 3) := by decide +kernel
theorem d1_10 : decode jdk_33_method_22_code 10 = .ok (.if_icmp .gt 13, 3) := by decide +kernel
theorem d1_13 : decode jdk_33_method_22_code 13 = .ok (.getstatic 195, 3) := by decide +kernel
theorem d1_16 : decode jdk_33_method_22_code 16 = .ok (.iload_n 0, 1) := by decide +kernel
theorem d1_17 : decode jdk_33_method_22_code 17 = .ok (.sipush 128, 3) := by decide +kernel
theorem d1_20 : decode jdk_33_method_22_code 20 = .ok (.iadd, 1) := by decide +kernel
theorem d1_21 : decode jdk_33_method_22_code 21 = .ok (.aaload, 1) := by decide +kernel
theorem d1_22 : decode jdk_33_method_22_code 22 = .ok (.areturn, 1) := by decide +kernel
theorem ef_1 (m : MethodId) (x0 : Int32) : entryFrame m #[(.int x0)] 1 = mkF m 0 #[.val (.int x0)] [] := by first | (simp [entryFrame, mkF, argsToLocals, Value.category]; done) | rfl
set_option maxRecDepth 65536 in
set_option maxHeartbeats 40000000 in
theorem rm1 (l : Launch) (Z : State) (a0 : Array Value) (hw : ∀ d ∈ tables_1, d.before a0 Z = true) (hS : St Z) (ws : List Jvm.Cond) (p0 : Int32) (h0 : Heap) (n0 : Nat) (O0 : Old Z n0 h0) :
    MetFree l (⟨"java/lang/Integer", "valueOf", "(I)Ljava/lang/Integer;"⟩ : MethodName) (head1 (Jvm.Cond.code (⟨"java/lang/Integer", "valueOf", "(I)Ljava/lang/Integer;"⟩ : MethodName) jdk_33_method_22_code 1 (some (.object "java/lang/Integer")) :: ws) ({ frames := 3, cells := 1, slots := 1, locals := 38 } : Room)) (fun a U => a = #[(.int p0)] ∧ Z.Warmed39 U.vm ∧ U.heap = h0) (fun _ _ _ _ _ => True) (fun _ U o U' => ∃ v L, o = .returned v ∧ own_Q (fun v hE L => ∃ (b : Addr), v = some (.ref b) ∧ Fr n0 L ∧ Keep h0 hE [] ∧ Exa Z hE b "java/lang/Integer") v U'.heap L ∧ FrameEnd U o U' L ({ frames := 3, cells := 1, slots := 1, locals := 38 } : Room).cells ({ frames := 3, cells := 1, slots := 1, locals := 38 } : Room).slots) := by
  refine MetFree.of_bodySF (plainFor_of_name pn_1) hisR ?_
  intro p e s m args below meth c s₁ Bd hml0 hP hK
  obtain ⟨rfl, hZ, hh⟩ := hP
  have hx := Bd.exec
  have hby := Bd.bytes
  have hml : c.maxLocals = 1 := hml0
  have hown : s.vm.findClass "java/lang/Integer" = some m.cls := findClass_of_methodNamed Bd.named
  have hnm := (name_of_methodNamed Bd.named Bd.method).1
  have X0 : Stand p l e ({ frames := 3, cells := 1, slots := 1, locals := 38 } : Room) s m #[(.int p0)] below meth c s₁ [] 0 0 := Stand.of_body Bd
  have e0 : s₁.heap = h0 := by rw [← hh, Bd.state]; rfl
  have N0 := Fr.nil n0
  have pre0 : ∀ t, Steps p.tables e below (s₁.setTop (mkF m 0 #[oI p0] [])) t → Steps p.tables e below (s₁.setTop (entryFrame m #[(.int p0)] 1)) t := fun t k => castTop (ef_1 m p0) k
  have pre7 : ∀ t, oP p e below s₁ (mkF m 3 #[oI p0] [(.int (-128 : Int32)), (.int p0)]) t → oP p e below s₁ (entryFrame m #[(.int p0)] 1) t := fun t k => pre0 t (by
    show oP p e below s₁ (mkF m 0 #[oI p0] []) _
    refine XS.iloadN X0.here hx rfl (hb hby d1_0) rfl ?_
    show oP p e below s₁ (mkF m 1 #[oI p0] [(.int p0)]) _
    refine XS.bipush X0.here hx rfl (hb hby d1_1) ?_
    exact k)
  by_cases hc8 : p0 < (-128 : Int32)
  · obtain ⟨T9, h9, X9, e9, E9, A9, D9, -, st9⟩ := newO X0 hx hZ hown (hw _ (List.mem_of_getElem? (i := 42) rfl)) (hw _ (List.mem_of_getElem? (i := 43) rfl)) (hw _ (List.mem_of_getElem? (i := 5) rfl)) e0 (g := (mkF m 23 #[oI p0] [])) rfl (hb hby d1_23) (by decide) (by decide)
    obtain ⟨b9, g9⟩ : ∃ z, z = h0.size := ⟨_, rfl⟩
    have g_b9 : n0 ≤ b9 := Nat.le_trans (own_old_le O0) (Nat.le_of_eq g9.symm)
    have sz_b9 : h0.size ≤ b9 := Nat.le_trans (Keep.refl h0 []).1 (Nat.le_of_eq g9.symm)
    rw [← g9] at A9 D9 st9
    have O9 := O0.ext E9
    have Kc9 := (Keep.refl h0 []).ext E9
    have F_value_b9 : Fld Z h9 b9 "java/lang/Integer" "value" "I" (.int (0 : Int32)) := D9 (Or.inr (hw _ (List.mem_of_getElem? (i := 56) rfl))) (ty := .int) (by decide)
    obtain ⟨_, _, ⟨T10, L10, k10, n10⟩, -, X10, ⟨Lc10, hQ10, l10, y10, z10⟩, st10⟩ := X9.specialBack hx (y := (⟨"java/lang/Integer", "<init>", "(I)V"⟩ : MethodName)) rfl hown (mvT hZ (hw _ (List.mem_of_getElem? (i := 44) rfl))) (mvT hZ (hw _ (List.mem_of_getElem? (i := 45) rfl))) (mvT hZ (hw _ (List.mem_of_getElem? (i := 47) rfl))) (by decide) (backOf (W := 1) (rm7 l Z a0 hw hS [] b9 p0 h9 n0 O9 A9 F_value_b9 g_b9) hZ (hw _ (List.mem_of_getElem? (i := 47) rfl)) (hw _ (List.mem_of_getElem? (i := 5) rfl)) (by decide) (by decide)) (g := (mkF m 28 #[oI p0] [(.int p0), (.ref b9), (.ref b9)])) rfl (by rw [hml]; rfl) (Steps.refl _) (a := b9) (argsL := [(.int p0)]) (rest := [(.ref b9)]) (lenOf pd_1 rfl) rfl (by show 2 * 0 + _ ≤ _; exact Nat.le_of_eq rfl) (hb hby d1_28) (fun _ _ => ⟨rfl, e9, (by decide : 1 + 0 ≤ _), (by decide : 1 + 0 ≤ _)⟩)
    dsimp only [Pt.U, Pt.locs, Pt.cells, Pt.slots] at X10 l10 y10 z10 st10 hQ10
    subst l10 y10 z10
    obtain ⟨v10, N10q, K10q, po10_0, po10_1⟩ := hQ10
    subst v10
    have N10 := Fr.app N0 N10q
    have O10 := O9.keep K10q (allS g_b9 all0)
    have Kc10 := Kc9.trans K10q (allS (Or.inr sz_b9) all0)
    obtain ⟨fs, hr, hrun, hended, hW, hsame⟩ := X10.leave (v := some (.ref b9)) (fun h => by rw [Bd.returns] at h; cases h)
    refine ⟨_, _, pre7 _ ?_, hrun, hended, _, _, rfl, ?_, ⟨_, rfl⟩, hW, hsame.mono (by decide) (by decide)⟩
    · show oP p e below s₁ (mkF m 3 #[oI p0] [(.int (-128 : Int32)), (.int p0)]) _
      refine XS.icmpYes X0.here hx rfl (pc0 := 3) (pc' := 23) rfl (hb hby d1_3) rfl (tlt hc8).1 (by decide) (by decide) ?_
      show oP p e below s₁ (mkF m 23 #[oI p0] []) _
      refine st9 _ ?_
      show oP p e below T9 (mkF m 26 #[oI p0] [(.ref b9)]) _
      refine XS.dup X9.here hx rfl (hb hby d1_26) rfl rfl ?_
      show oP p e below T9 (mkF m 27 #[oI p0] [(.ref b9), (.ref b9)]) _
      refine XS.iloadN X9.here hx rfl (hb hby d1_27) rfl ?_
      show oP p e below T9 (mkF m 28 #[oI p0] [(.int p0), (.ref b9), (.ref b9)]) _
      refine st10.trans ?_
      show oP p e below T10 (mkF m 31 #[oI p0] [(.ref b9)]) _
      exact own_retA X10 hx Bd.returns rfl rfl (hb hby d1_31) hr
    · show ∃ (b : Addr), (some (.ref b9) : Option Value) = some (.ref b) ∧ Fr n0 _ ∧ Keep h0 T10.heap [] ∧ Exa Z T10.heap b "java/lang/Integer"
      exact ⟨b9, rfl, N10, Kc10, po10_0⟩
  · obtain ⟨T11, X11, e11, st11⟩ := getS2 X0 hx hZ hown (host := "") (Or.inl (hw _ (List.mem_of_getElem? (i := 7) rfl))) Via.refl e0 ((s_a_high hS).ext O0.2) (g := (mkF m 7 #[oI p0] [(.int p0)])) rfl (hb hby d1_7)
    have pre12 : ∀ t, oP p e below T11 (mkF m 10 #[oI p0] [(.int (127 : Int32)), (.int p0)]) t → oP p e below s₁ (entryFrame m #[(.int p0)] 1) t := fun t k => pre7 t (by
      show oP p e below s₁ (mkF m 3 #[oI p0] [(.int (-128 : Int32)), (.int p0)]) _
      refine XS.icmpNo X0.here hx rfl (hb hby d1_3) rfl (flt hc8).1 ?_
      show oP p e below s₁ (mkF m 6 #[oI p0] []) _
      refine XS.iloadN X0.here hx rfl (hb hby d1_6) rfl ?_
      show oP p e below s₁ (mkF m 7 #[oI p0] [(.int p0)]) _
      refine st11 _ ?_
      exact k)
    by_cases hc13 : (127 : Int32) < p0
    · obtain ⟨T14, h14, X14, e14, E14, A14, D14, -, st14⟩ := newO X11 hx hZ hown (hw _ (List.mem_of_getElem? (i := 42) rfl)) (hw _ (List.mem_of_getElem? (i := 43) rfl)) (hw _ (List.mem_of_getElem? (i := 5) rfl)) e11 (g := (mkF m 23 #[oI p0] [])) rfl (hb hby d1_23) (by decide) (by decide)
      obtain ⟨b14, g14⟩ : ∃ z, z = h0.size := ⟨_, rfl⟩
      have g_b14 : n0 ≤ b14 := Nat.le_trans (own_old_le O0) (Nat.le_of_eq g14.symm)
      have sz_b14 : h0.size ≤ b14 := Nat.le_trans (Keep.refl h0 []).1 (Nat.le_of_eq g14.symm)
      rw [← g14] at A14 D14 st14
      have O14 := O0.ext E14
      have Kc14 := (Keep.refl h0 []).ext E14
      have F_value_b14 : Fld Z h14 b14 "java/lang/Integer" "value" "I" (.int (0 : Int32)) := D14 (Or.inr (hw _ (List.mem_of_getElem? (i := 56) rfl))) (ty := .int) (by decide)
      obtain ⟨_, _, ⟨T15, L15, k15, n15⟩, -, X15, ⟨Lc15, hQ15, l15, y15, z15⟩, st15⟩ := X14.specialBack hx (y := (⟨"java/lang/Integer", "<init>", "(I)V"⟩ : MethodName)) rfl hown (mvT hZ (hw _ (List.mem_of_getElem? (i := 44) rfl))) (mvT hZ (hw _ (List.mem_of_getElem? (i := 45) rfl))) (mvT hZ (hw _ (List.mem_of_getElem? (i := 47) rfl))) (by decide) (backOf (W := 1) (rm7 l Z a0 hw hS [] b14 p0 h14 n0 O14 A14 F_value_b14 g_b14) hZ (hw _ (List.mem_of_getElem? (i := 47) rfl)) (hw _ (List.mem_of_getElem? (i := 5) rfl)) (by decide) (by decide)) (g := (mkF m 28 #[oI p0] [(.int p0), (.ref b14), (.ref b14)])) rfl (by rw [hml]; rfl) (Steps.refl _) (a := b14) (argsL := [(.int p0)]) (rest := [(.ref b14)]) (lenOf pd_1 rfl) rfl (by show 2 * 0 + _ ≤ _; exact Nat.le_of_eq rfl) (hb hby d1_28) (fun _ _ => ⟨rfl, e14, (by decide : 1 + 0 ≤ _), (by decide : 1 + 0 ≤ _)⟩)
      dsimp only [Pt.U, Pt.locs, Pt.cells, Pt.slots] at X15 l15 y15 z15 st15 hQ15
      subst l15 y15 z15
      obtain ⟨v15, N15q, K15q, po15_0, po15_1⟩ := hQ15
      subst v15
      have N15 := Fr.app N0 N15q
      have O15 := O14.keep K15q (allS g_b14 all0)
      have Kc15 := Kc14.trans K15q (allS (Or.inr sz_b14) all0)
      obtain ⟨fs, hr, hrun, hended, hW, hsame⟩ := X15.leave (v := some (.ref b14)) (fun h => by rw [Bd.returns] at h; cases h)
      refine ⟨_, _, pre12 _ ?_, hrun, hended, _, _, rfl, ?_, ⟨_, rfl⟩, hW, hsame.mono (by decide) (by decide)⟩
      · show oP p e below T11 (mkF m 10 #[oI p0] [(.int (127 : Int32)), (.int p0)]) _
        refine XS.icmpYes X11.here hx rfl (pc0 := 10) (pc' := 23) rfl (hb hby d1_10) rfl (tlt hc13).2.2.1 (by decide) (by decide) ?_
        show oP p e below T11 (mkF m 23 #[oI p0] []) _
        refine st14 _ ?_
        show oP p e below T14 (mkF m 26 #[oI p0] [(.ref b14)]) _
        refine XS.dup X14.here hx rfl (hb hby d1_26) rfl rfl ?_
        show oP p e below T14 (mkF m 27 #[oI p0] [(.ref b14), (.ref b14)]) _
        refine XS.iloadN X14.here hx rfl (hb hby d1_27) rfl ?_
        show oP p e below T14 (mkF m 28 #[oI p0] [(.int p0), (.ref b14), (.ref b14)]) _
        refine st15.trans ?_
        show oP p e below T15 (mkF m 31 #[oI p0] [(.ref b14)]) _
        exact own_retA X15 hx Bd.returns rfl rfl (hb hby d1_31) hr
      · show ∃ (b : Addr), (some (.ref b14) : Option Value) = some (.ref b) ∧ Fr n0 _ ∧ Keep h0 T15.heap [] ∧ Exa Z T15.heap b "java/lang/Integer"
        exact ⟨b14, rfl, N15, Kc15, po15_0⟩
    · obtain ⟨T16, X16, e16, st16⟩ := getS2 X11 hx hZ hown (host := "") (Or.inl (hw _ (List.mem_of_getElem? (i := 9) rfl))) Via.refl e11 ((s_a_cache hS).ext O0.2) (g := (mkF m 13 #[oI p0] [])) rfl (hb hby d1_13)
      obtain ⟨cl17, Ac17, Sc17, Hc17⟩ := c_a_cache hS
      obtain ⟨hi17, hj17⟩ := own_cacheix hc8 hc13 Sc17
      obtain ⟨x17, hx17, Ex17⟩ := Hc17 _ hj17
      obtain ⟨fs, hr, hrun, hended, hW, hsame⟩ := X16.leave (v := some (.ref x17)) (fun h => by rw [Bd.returns] at h; cases h)
      refine ⟨_, _, pre12 _ ?_, hrun, hended, _, _, rfl, ?_, ⟨_, rfl⟩, hW, hsame.mono (by decide) (by decide)⟩
      · show oP p e below T11 (mkF m 10 #[oI p0] [(.int (127 : Int32)), (.int p0)]) _
        refine XS.icmpNo X11.here hx rfl (hb hby d1_10) rfl (flt hc13).2.2.1 ?_
        show oP p e below T11 (mkF m 13 #[oI p0] []) _
        refine st16 _ ?_
        show oP p e below T16 (mkF m 16 #[oI p0] [(.ref (a_cache Z))]) _
        refine XS.iloadN X16.here hx rfl (hb hby d1_16) rfl ?_
        show oP p e below T16 (mkF m 17 #[oI p0] [(.int p0), (.ref (a_cache Z))]) _
        refine XS.sipush X16.here hx rfl (hb hby d1_17) ?_
        show oP p e below T16 (mkF m 20 #[oI p0] [(.int (128 : Int32)), (.int p0), (.ref (a_cache Z))]) _
        refine XS.iadd X16.here hx rfl (hb hby d1_20) rfl ?_
        show oP p e below T16 (mkF m 21 #[oI p0] [(.int (p0 + (128 : Int32))), (.ref (a_cache Z))]) _
        refine X16.aaload hx (by rw [e16]; exact (Ac17.ext O0.2).1) (State.isArrayOf_alike hZ.alike Ac17.2.1) rfl Ac17.2.2 hi17 hx17 (g := (mkF m 21 #[oI p0] [(.int (p0 + (128 : Int32))), (.ref (a_cache Z))])) rfl rfl (hb hby d1_21) _ ?_
        show oP p e below T16 (mkF m 22 #[oI p0] [(.ref x17)]) _
        exact own_retA X16 hx Bd.returns rfl rfl (hb hby d1_22) hr
      · show ∃ (b : Addr), (some (.ref x17) : Option Value) = some (.ref b) ∧ Fr n0 _ ∧ Keep h0 T16.heap [] ∧ Exa Z T16.heap b "java/lang/Integer"
        rw [e16]
        exact ⟨x17, rfl, N0, (Keep.refl h0 []), (Ex17.ext O0.2)⟩
theorem d3_0 : decode jdk_30_method_1_code 0 = .ok (.aload_n 0, 1) := by decide +kernel
theorem d3_1 : decode jdk_30_method_1_code 1 = .ok (.invokespecial 1, 3) := by decide +kernel
theorem d3_4 : decode jdk_30_method_1_code 4 = .ok (.return_, 1) := by decide +kernel
theorem ef_3 (m : MethodId) (x0 : Addr) : entryFrame m #[(.ref x0)] 1 = mkF m 0 #[.val (.ref x0)] [] := by first | (simp [entryFrame, mkF, argsToLocals, Value.category]; done) | rfl
theorem pn_2 : plainName "java/lang/Record" = true := by first | (simp [plainName, overriddenIn]; done) | decide +kernel
set_option maxRecDepth 65536 in
set_option maxHeartbeats 40000000 in
theorem rm3 (l : Launch) (Z : State) (a0 : Array Value) (hw : ∀ d ∈ tables_1, d.before a0 Z = true) (hS : St Z) (ws : List Jvm.Cond) (r0 : Addr) (h0 : Heap) (n0 : Nat) (O0 : Old Z n0 h0) :
    MetFree l (⟨"java/lang/Record", "<init>", "()V"⟩ : MethodName) (head1 (Jvm.Cond.code (⟨"java/lang/Record", "<init>", "()V"⟩ : MethodName) jdk_30_method_1_code 1 none :: ws) ({ frames := 1, cells := 0, slots := 0, locals := 12 } : Room)) (fun a U => a = #[(.ref r0)] ∧ Z.Warmed39 U.vm ∧ U.heap = h0) (fun _ _ _ _ _ => True) (fun _ U o U' => ∃ v L, o = .returned v ∧ own_Q (fun v hE L => v = none ∧ Fr n0 L ∧ Keep h0 hE []) v U'.heap L ∧ FrameEnd U o U' L ({ frames := 1, cells := 0, slots := 0, locals := 12 } : Room).cells ({ frames := 1, cells := 0, slots := 0, locals := 12 } : Room).slots) := by
  refine MetFree.of_bodySF (plainFor_of_name pn_2) hisR ?_
  intro p e s m args below meth c s₁ Bd hml0 hP hK
  obtain ⟨rfl, hZ, hh⟩ := hP
  have hx := Bd.exec
  have hby := Bd.bytes
  have hml : c.maxLocals = 1 := hml0
  have hown : s.vm.findClass "java/lang/Record" = some m.cls := findClass_of_methodNamed Bd.named
  have hnm := (name_of_methodNamed Bd.named Bd.method).1
  have X0 : Stand p l e ({ frames := 1, cells := 0, slots := 0, locals := 12 } : Room) s m #[(.ref r0)] below meth c s₁ [] 0 0 := Stand.of_body Bd
  have e0 : s₁.heap = h0 := by rw [← hh, Bd.state]; rfl
  have N0 := Fr.nil n0
  have pre0 : ∀ t, Steps p.tables e below (s₁.setTop (mkF m 0 #[oR r0] [])) t → Steps p.tables e below (s₁.setTop (entryFrame m #[(.ref r0)] 1)) t := fun t k => castTop (ef_3 m r0) k
  obtain ⟨T18, X18, e18, st18⟩ := initO X0 hx hZ hown (hw _ (List.mem_of_getElem? (i := 18) rfl)) (hw _ (List.mem_of_getElem? (i := 19) rfl)) (hw _ (List.mem_of_getElem? (i := 20) rfl)) e0 (g := (mkF m 1 #[oR r0] [(.ref r0)])) rfl (by rw [hml]; rfl) rfl (hb hby d3_1) (by decide) (W := 0) (by show 2 * 0 + _ ≤ _; exact Nat.le_of_eq rfl) (by decide)
  obtain ⟨fs, hr, hrun, hended, hW, hsame⟩ := X18.leave (v := none) (fun _ => rfl)
  refine ⟨_, _, pre0 _ ?_, hrun, hended, _, _, rfl, ?_, ⟨_, rfl⟩, hW, hsame.mono (by decide) (by decide)⟩
  · show oP p e below s₁ (mkF m 0 #[oR r0] []) _
    refine XS.aloadN X0.here hx rfl (hb hby d3_0) rfl rfl ?_
    show oP p e below s₁ (mkF m 1 #[oR r0] [(.ref r0)]) _
    refine st18 _ ?_
    show oP p e below T18 (mkF m 4 #[oR r0] []) _
    exact X18.returnOut hx Bd.returns (hb hby d3_4) hr
  · show (none : Option Value) = none ∧ Fr n0 _ ∧ Keep h0 T18.heap []
    rw [e18]
    exact ⟨rfl, N0, (Keep.refl h0 [])⟩
theorem d5_0 : decode jdk_31_method_11_code 0 = .ok (.aload_n 0, 1) := by decide +kernel
theorem d5_1 : decode jdk_31_method_11_code 1 = .ok (.ifnonnull 12, 3) := by decide +kernel
theorem d5_13 : decode jdk_31_method_11_code 13 = .ok (.aload_n 0, 1) := by decide +kernel
theorem d5_14 : decode jdk_31_method_11_code 14 = .ok (.areturn, 1) := by decide +kernel
def fn5 (Z : State) (r0 : Addr) (r1 : Addr) : Addr :=
  r0
theorem ef_5 (m : MethodId) (x0 : Addr) (x1 : Addr) : entryFrame m #[(.ref x0), (.ref x1)] 2 = mkF m 0 #[.val (.ref x0), .val (.ref x1)] [] := by first | (simp [entryFrame, mkF, argsToLocals, Value.category]; done) | rfl
theorem pn_3 : plainName "java/util/Objects" = true := by first | (simp [plainName, overriddenIn]; done) | decide +kernel
set_option maxRecDepth 65536 in
set_option maxHeartbeats 40000000 in
theorem rm5 (l : Launch) (Z : State) (a0 : Array Value) (hw : ∀ d ∈ tables_1, d.before a0 Z = true) (hS : St Z) (ws : List Jvm.Cond) (r0 : Addr) (r1 : Addr) (h0 : Heap) (n0 : Nat) (O0 : Old Z n0 h0) :
    MetFree l (⟨"java/util/Objects", "requireNonNull", "(Ljava/lang/Object;Ljava/lang/String;)Ljava/lang/Object;"⟩ : MethodName) (head1 (Jvm.Cond.code (⟨"java/util/Objects", "requireNonNull", "(Ljava/lang/Object;Ljava/lang/String;)Ljava/lang/Object;"⟩ : MethodName) jdk_31_method_11_code 2 (some (.object "java/lang/Object")) :: ws) ({ frames := 0, cells := 0, slots := 0, locals := 0 } : Room)) (fun a U => a = #[(.ref r0), (.ref r1)] ∧ Z.Warmed39 U.vm ∧ U.heap = h0) (fun _ _ _ _ _ => True) (fun _ U o U' => ∃ v L, o = .returned v ∧ own_Q (fun v hE L => v = some (.ref (fn5 Z r0 r1)) ∧ Fr n0 L ∧ hE = h0) v U'.heap L ∧ FrameEnd U o U' L ({ frames := 0, cells := 0, slots := 0, locals := 0 } : Room).cells ({ frames := 0, cells := 0, slots := 0, locals := 0 } : Room).slots) := by
  refine MetFree.of_bodySF (plainFor_of_name pn_3) hisR ?_
  intro p e s m args below meth c s₁ Bd hml0 hP hK
  obtain ⟨rfl, hZ, hh⟩ := hP
  have hx := Bd.exec
  have hby := Bd.bytes
  have hml : c.maxLocals = 2 := hml0
  have hown : s.vm.findClass "java/util/Objects" = some m.cls := findClass_of_methodNamed Bd.named
  have X0 : Stand p l e ({ frames := 0, cells := 0, slots := 0, locals := 0 } : Room) s m #[(.ref r0), (.ref r1)] below meth c s₁ [] 0 0 := Stand.of_body Bd
  have e0 : s₁.heap = h0 := by rw [← hh, Bd.state]; rfl
  have N0 := Fr.nil n0
  have pre0 : ∀ t, Steps p.tables e below (s₁.setTop (mkF m 0 #[oR r0, oR r1] [])) t → Steps p.tables e below (s₁.setTop (entryFrame m #[(.ref r0), (.ref r1)] 2)) t := fun t k => castTop (ef_5 m r0 r1) k
  obtain ⟨fs, hr, hrun, hended, hW, hsame⟩ := X0.leave (v := some (.ref r0)) (fun h => by rw [Bd.returns] at h; cases h)
  refine ⟨_, _, pre0 _ ?_, hrun, hended, _, _, rfl, ?_, ⟨_, rfl⟩, hW, hsame.mono (by decide) (by decide)⟩
  · show oP p e below s₁ (mkF m 0 #[oR r0, oR r1] []) _
    refine XS.aloadN X0.here hx rfl (hb hby d5_0) rfl rfl ?_
    show oP p e below s₁ (mkF m 1 #[oR r0, oR r1] [(.ref r0)]) _
    refine XS.ifnonnullYes X0.here hx rfl (pc0 := 1) (pc' := 13) rfl (hb hby d5_1) rfl (by decide) (by decide) ?_
    show oP p e below s₁ (mkF m 13 #[oR r0, oR r1] []) _
    refine XS.aloadN X0.here hx rfl (hb hby d5_13) rfl rfl ?_
    show oP p e below s₁ (mkF m 14 #[oR r0, oR r1] [(.ref r0)]) _
    exact own_retA X0 hx Bd.returns rfl rfl (hb hby d5_14) hr
  · show (some (.ref r0) : Option Value) = some (.ref (fn5 Z r0 r1)) ∧ Fr n0 _ ∧ s₁.heap = h0
    rw [e0]
    refine ⟨?_, N0, rfl⟩
    rfl
theorem d2_0 : decode prog_32_method_1_code 0 = .ok (.aload_n 0, 1) := by decide +kernel
theorem d2_1 : decode prog_32_method_1_code 1 = .ok (.invokespecial 1, 3) := by decide +kernel
theorem d2_4 : decode prog_32_method_1_code 4 = .ok (.aload_n 1, 1) := by decide +kernel
theorem d2_5 : decode prog_32_method_1_code 5 = .ok (.ldc 7, 2) := by decide +kernel
theorem d2_7 : decode prog_32_method_1_code 7 = .ok (.invokestatic 9, 3) := by decide +kernel
theorem pd_2 : parseMethodDescriptor "(Ljava/lang/Object;Ljava/lang/String;)Ljava/lang/Object;" = some ⟨[(.object "java/lang/Object"), (.object "java/lang/String")], some (.object "java/lang/Object")⟩ := by decide +kernel
theorem d2_10 : decode prog_32_method_1_code 10 = .ok (.pop, 1) := by decide +kernel
theorem d2_11 : decode prog_32_method_1_code 11 = .ok (.aload_n 0, 1) := by decide +kernel
theorem d2_12 : decode prog_32_method_1_code 12 = .ok (.aload_n 1, 1) := by decide +kernel
theorem d2_13 : decode prog_32_method_1_code 13 = .ok (.putfield 15, 3) := by decide +kernel
theorem d2_16 : decode prog_32_method_1_code 16 = .ok (.aload_n 0, 1) := by decide +kernel
theorem d2_17 : decode prog_32_method_1_code 17 = .ok (.iload_n 2, 1) := by decide +kernel
theorem d2_18 : decode prog_32_method_1_code 18 = .ok (.putfield 20, 3) := by decide +kernel
theorem d2_21 : decode prog_32_method_1_code 21 = .ok (.return_, 1) := by decide +kernel
theorem ef_2 (m : MethodId) (x0 : Addr) (x1 : Addr) (x2 : Int32) : entryFrame m #[(.ref x0), (.ref x1), (.int x2)] 3 = mkF m 0 #[.val (.ref x0), .val (.ref x1), .val (.int x2)] [] := by first | (simp [entryFrame, mkF, argsToLocals, Value.category]; done) | rfl
theorem pn_4 : plainName "com/example/menshen/menshen/policy/Scope" = true := by first | (simp [plainName, overriddenIn]; done) | decide +kernel
set_option maxRecDepth 65536 in
set_option maxHeartbeats 40000000 in
theorem rm2 (l : Launch) (Z : State) (a0 : Array Value) (hw : ∀ d ∈ tables_1, d.before a0 Z = true) (hS : St Z) (ws : List Jvm.Cond) (r0 : Addr) (r1 : Addr) (p2 : Int32) (h0 : Heap) (n0 : Nat) (O0 : Old Z n0 h0) (E_r0 : Exa Z h0 r0 "com/example/menshen/menshen/policy/Scope") (F_named_r0 : Fld Z h0 r0 "com/example/menshen/menshen/policy/Scope" "named" "Ljava/lang/Object;" .null) (F_negated_r0 : Fld Z h0 r0 "com/example/menshen/menshen/policy/Scope" "negated" "Z" (.int (0 : Int32))) (g_r0 : n0 ≤ r0) :
    MetFree l (⟨"com/example/menshen/menshen/policy/Scope", "<init>", "(Ljava/lang/Object;Z)V"⟩ : MethodName) (head1 (Jvm.Cond.code (⟨"com/example/menshen/menshen/policy/Scope", "<init>", "(Ljava/lang/Object;Z)V"⟩ : MethodName) prog_32_method_1_code 3 none :: ws) ({ frames := 2, cells := 2, slots := 24, locals := 24 } : Room)) (fun a U => a = #[(.ref r0), (.ref r1), (.int p2)] ∧ Z.Warmed39 U.vm ∧ U.heap = h0) (fun _ _ _ _ _ => True) (fun _ U o U' => ∃ v L, o = .returned v ∧ own_Q (fun v hE L => v = none ∧ Fr n0 L ∧ Keep h0 hE [r0] ∧ Exa Z hE r0 "com/example/menshen/menshen/policy/Scope" ∧ Fld Z hE r0 "com/example/menshen/menshen/policy/Scope" "named" "Ljava/lang/Object;" (.ref r1) ∧ Fld Z hE r0 "com/example/menshen/menshen/policy/Scope" "negated" "Z" (.int (p2 &&& 1))) v U'.heap L ∧ ReturnedEndW U o U' L ({ frames := 2, cells := 2, slots := 24, locals := 24 } : Room).cells ({ frames := 2, cells := 2, slots := 24, locals := 24 } : Room).slots) := by
  refine MetFree.of_bodySF (plainFor_of_name pn_4) hisR ?_
  intro p e s m args below meth c s₁ Bd hml0 hP hK
  obtain ⟨rfl, hZ, hh⟩ := hP
  have hx := Bd.exec
  have hby := Bd.bytes
  have hml : c.maxLocals = 3 := hml0
  have hown : s.vm.findClass "com/example/menshen/menshen/policy/Scope" = some m.cls := findClass_of_methodNamed Bd.named
  have hnm := (name_of_methodNamed Bd.named Bd.method).1
  have X0 : Stand p l e ({ frames := 2, cells := 2, slots := 24, locals := 24 } : Room) (s.setVm s.vm) m #[(.ref r0), (.ref r1), (.int p2)] below meth c s₁ [] 0 0 := Stand.of_body Bd
  have e0 : s₁.heap = h0 := by rw [← hh, Bd.state]; rfl
  have N0 := Fr.nil n0
  have pre0 : ∀ t, Steps p.tables e below (s₁.setTop (mkF m 0 #[oR r0, oR r1, oI p2] [])) t → Steps p.tables e below (s₁.setTop (entryFrame m #[(.ref r0), (.ref r1), (.int p2)] 3)) t := fun t k => castTop (ef_2 m r0 r1 p2) k
  have hSi : s.Since s.vm 0 := own_since s
  have hki0 : 0 ≤ h0.size := Nat.zero_le _
  obtain ⟨_, _, ⟨T19, L19, k19, n19⟩, -, X19, ⟨Lc19, hQ19, l19, y19, z19⟩, st19⟩ := X0.specialBack hx (y := (⟨"java/lang/Record", "<init>", "()V"⟩ : MethodName)) rfl hown (mvT hZ (hw _ (List.mem_of_getElem? (i := 13) rfl))) (mvT hZ (hw _ (List.mem_of_getElem? (i := 14) rfl))) (mvT hZ (hw _ (List.mem_of_getElem? (i := 17) rfl))) (by decide) (backOf (W := 0) (rm3 l Z a0 hw hS [] r0 h0 n0 O0 ) hZ (hw _ (List.mem_of_getElem? (i := 17) rfl)) (hw _ (List.mem_of_getElem? (i := 16) rfl)) (by decide) (by decide)) (g := (mkF m 1 #[oR r0, oR r1, oI p2] [(.ref r0)])) rfl (by rw [hml]; rfl) (Steps.refl _) (a := r0) (argsL := []) (rest := []) (lenOf pd_0 rfl) rfl (by show 2 * 0 + _ ≤ _; exact Nat.le_of_eq rfl) (hb hby d2_1) (fun _ _ => ⟨rfl, e0, (by decide : 0 + 0 ≤ _), (by decide : 0 + 0 ≤ _)⟩)
  dsimp only [Pt.U, Pt.locs, Pt.cells, Pt.slots] at X19 l19 y19 z19 st19 hQ19
  subst l19 y19 z19
  obtain ⟨v19, N19q, K19q⟩ := hQ19
  subst v19
  have N19 := Fr.app N0 N19q
  have O19 := O0.keep K19q all0
  have Kc19 := (Keep.refl h0 [r0]).trans K19q all0
  have fx21 := (Nat.le_trans hki0 K19q.1)
  obtain ⟨b20, T20, h20, kk20, X20, e20, E20, hSi, hki20, hZ, hown, st20⟩ := ldcS X19 hx hZ hown (hw _ (List.mem_of_getElem? (i := 21) rfl)) (own_wS hw) rfl hSi fx21 (g := (mkF m 5 #[oR r0, oR r1, oI p2] [(.ref r1)])) rfl (hb hby d2_5) (n := 20) (by decide) (by decide) (by decide) (by decide)
  have O20 := O19.ext E20
  have Kc20 := Kc19.ext E20
  obtain ⟨_, _, ⟨T22, L22, k22, n22⟩, -, X22, ⟨Lc22, hQ22, l22, y22, z22⟩, st22⟩ := Jvm.LawKit.callS X20 hx (y := (⟨"java/util/Objects", "requireNonNull", "(Ljava/lang/Object;Ljava/lang/String;)Ljava/lang/Object;"⟩ : MethodName)) hown (mvT hZ (hw _ (List.mem_of_getElem? (i := 29) rfl))) (mvT hZ (hw _ (List.mem_of_getElem? (i := 30) rfl))) (mvT hZ (hw _ (List.mem_of_getElem? (i := 31) rfl))) (mvT hZ (hw _ (List.mem_of_getElem? (i := 32) rfl))) (by decide) (backOf (W := 0) (rm5 l Z a0 hw hS [] r1 b20 h20 n0 O20) hZ (hw _ (List.mem_of_getElem? (i := 32) rfl)) (hw _ (List.mem_of_getElem? (i := 31) rfl)) (by decide) (by decide)) (g := (mkF m 7 #[oR r0, oR r1, oI p2] [(.ref b20), (.ref r1)])) rfl (by rw [hml]; rfl) (argsL := [(.ref r1), (.ref b20)]) (rest := []) (lenOf pd_2 rfl) rfl (by show 2 * 0 + _ ≤ _; exact Nat.le_of_eq rfl) (hb hby d2_7) (fun _ _ => ⟨rfl, e20, (by decide : 2 + 0 ≤ _), (by decide : 24 + 0 ≤ _)⟩)
  dsimp only [Pt.U, Pt.locs, Pt.cells, Pt.slots] at X22 l22 y22 z22 st22 hQ22
  subst l22 y22 z22
  obtain ⟨v22, N22q, h22q⟩ := hQ22
  have w22 : (fn5 Z r1 b20) = r1 := rfl
  rw [w22] at v22
  subst v22
  have N22 := Fr.app N19 N22q
  have fx23 := ((E_r0.keep K19q).ext E20)
  have fx24 := ((F_named_r0.keep K19q nin0).ext E20)
  obtain ⟨T25, h25, X25, e25, W25, st25⟩ := putF X22 hx hZ hown (host := "") (Or.inl (hw _ (List.mem_of_getElem? (i := 33) rfl))) Via.refl h22q fx24 fx23 (Or.inr ⟨(hw _ (List.mem_of_getElem? (i := 34) rfl)), rfl, hnm⟩) (hw _ (List.mem_of_getElem? (i := 1) rfl)) (ty := (.object "java/lang/Object")) (by decide) rfl rfl (g := (mkF m 13 #[oR r0, oR r1, oI p2] [(.ref r1), (.ref r0)])) rfl rfl (hb hby d2_13)
  have N25 := Fr.snoc X25 N22 g_r0
  have O25 := O20.wr W25 g_r0
  have Kc25 := Kc20.wr W25 (Or.inl (List.mem_of_getElem? (i := 0) rfl))
  have Fw25 := fx24.same W25
  have fx26 := (fx23.wr W25)
  have fx27 := (((F_negated_r0.keep K19q nin0).ext E20).other W25 (Or.inr (slot_ne (Or.inr (hw _ (List.mem_of_getElem? (i := 36) rfl))) (Or.inr (hw _ (List.mem_of_getElem? (i := 34) rfl))) (by decide) (t := .boolean) (t' := (.object "java/lang/Object")) (by decide) (by decide))))
  obtain ⟨T28, h28, X28, e28, W28, st28⟩ := putFN X25 hx hZ hown (hw _ (List.mem_of_getElem? (i := 35) rfl)) Via.refl e25 fx27 fx26 (Or.inr ⟨(hw _ (List.mem_of_getElem? (i := 36) rfl)), rfl, hnm⟩) (hw _ (List.mem_of_getElem? (i := 1) rfl)) (ty := .boolean) (v' := (.int (p2 &&& 1))) (by decide) rfl (fits_nar_bool _) (g := (mkF m 18 #[oR r0, oR r1, oI p2] [(.int p2), (.ref r0)])) rfl rfl (hb hby d2_18)
  have N28 := Fr.snoc X28 N25 g_r0
  have O28 := O25.wr W28 g_r0
  have Kc28 := Kc25.wr W28 (Or.inl (List.mem_of_getElem? (i := 0) rfl))
  have Fw28 := fx27.same W28
  have fx29 := (Nat.le_trans (Nat.le_trans hki20 (Keep.of_wr W25).1) (Keep.of_wr W28).1)
  obtain ⟨fs, hr, hrun, hended, hRW⟩ := Stand.leaveW X28 hSi (by rw [e28]; exact fx29) (v := none) (fun _ => rfl)
  refine ⟨_, _, pre0 _ ?_, hrun, hended, _, _, rfl, ?_, own_rwmono hRW (by decide) (by decide)⟩
  · show oP p e below s₁ (mkF m 0 #[oR r0, oR r1, oI p2] []) _
    refine XS.aloadN X0.here hx rfl (hb hby d2_0) rfl rfl ?_
    show oP p e below s₁ (mkF m 1 #[oR r0, oR r1, oI p2] [(.ref r0)]) _
    refine st19.trans ?_
    show oP p e below T19 (mkF m 4 #[oR r0, oR r1, oI p2] []) _
    refine XS.aloadN X19.here hx rfl (hb hby d2_4) rfl rfl ?_
    show oP p e below T19 (mkF m 5 #[oR r0, oR r1, oI p2] [(.ref r1)]) _
    refine st20 _ ?_
    show oP p e below T20 (mkF m 7 #[oR r0, oR r1, oI p2] [(.ref b20), (.ref r1)]) _
    refine st22 _ ?_
    show oP p e below T22 (mkF m 10 #[oR r0, oR r1, oI p2] [(.ref r1)]) _
    refine XS.pop X22.here hx rfl (hb hby d2_10) rfl rfl ?_
    show oP p e below T22 (mkF m 11 #[oR r0, oR r1, oI p2] []) _
    refine XS.aloadN X22.here hx rfl (hb hby d2_11) rfl rfl ?_
    show oP p e below T22 (mkF m 12 #[oR r0, oR r1, oI p2] [(.ref r0)]) _
    refine XS.aloadN X22.here hx rfl (hb hby d2_12) rfl rfl ?_
    show oP p e below T22 (mkF m 13 #[oR r0, oR r1, oI p2] [(.ref r1), (.ref r0)]) _
    refine st25 _ ?_
    show oP p e below T25 (mkF m 16 #[oR r0, oR r1, oI p2] []) _
    refine XS.aloadN X25.here hx rfl (hb hby d2_16) rfl rfl ?_
    show oP p e below T25 (mkF m 17 #[oR r0, oR r1, oI p2] [(.ref r0)]) _
    refine XS.iloadN X25.here hx rfl (hb hby d2_17) rfl ?_
    show oP p e below T25 (mkF m 18 #[oR r0, oR r1, oI p2] [(.int p2), (.ref r0)]) _
    refine st28 _ ?_
    show oP p e below T28 (mkF m 21 #[oR r0, oR r1, oI p2] []) _
    exact X28.returnOut hx Bd.returns (hb hby d2_21) hr
  · show (none : Option Value) = none ∧ Fr n0 _ ∧ Keep h0 T28.heap [r0] ∧ Exa Z T28.heap r0 "com/example/menshen/menshen/policy/Scope" ∧ Fld Z T28.heap r0 "com/example/menshen/menshen/policy/Scope" "named" "Ljava/lang/Object;" (.ref r1) ∧ Fld Z T28.heap r0 "com/example/menshen/menshen/policy/Scope" "negated" "Z" (.int (p2 &&& 1))
    rw [e28]
    have fx30 := (fx26.wr W28)
    have fx31 := (Fw25.other W28 (Or.inr (slot_ne (Or.inr (hw _ (List.mem_of_getElem? (i := 34) rfl))) (Or.inr (hw _ (List.mem_of_getElem? (i := 36) rfl))) (by decide) (t := (.object "java/lang/Object")) (t' := .boolean) (by decide) (by decide))))
    exact ⟨rfl, N28, Kc28, fx30, fx31, Fw28⟩
theorem d6_0 : decode prog_32_method_3_code 0 = .ok (.iload_n 1, 1) := by decide +kernel
theorem d6_1 : decode prog_32_method_3_code 1 = .ok (.aload_n 0, 1) := by decide +kernel
theorem d6_2 : decode prog_32_method_3_code 2 = .ok (.getfield 20, 3) := by decide +kernel
theorem d6_5 : decode prog_32_method_3_code 5 = .ok (.if_icmp .eq 7, 3) := by decide +kernel
theorem d6_12 : decode prog_32_method_3_code 12 = .ok (.iconst 0, 1) := by decide +kernel
theorem d6_13 : decode prog_32_method_3_code 13 = .ok (.ireturn, 1) := by decide +kernel
theorem d6_8 : decode prog_32_method_3_code 8 = .ok (.iconst 1, 1) := by decide +kernel
theorem d6_9 : decode prog_32_method_3_code 9 = .ok (.goto 4, 3) := by decide +kernel
def fn6 (Z : State) (r0 : Addr) (p1 : Int32) (u : Int32) : Int32 :=
  if p1 = u then
    (0 : Int32)
  else
    (1 : Int32)
theorem ef_6 (m : MethodId) (x0 : Addr) (x1 : Int32) : entryFrame m #[(.ref x0), (.int x1)] 2 = mkF m 0 #[.val (.ref x0), .val (.int x1)] [] := by first | (simp [entryFrame, mkF, argsToLocals, Value.category]; done) | rfl
set_option maxRecDepth 65536 in
set_option maxHeartbeats 40000000 in
theorem rm6 (l : Launch) (Z : State) (a0 : Array Value) (hw : ∀ d ∈ tables_1, d.before a0 Z = true) (hS : St Z) (ws : List Jvm.Cond) (r0 : Addr) (p1 : Int32) (u : Int32) (h0 : Heap) (n0 : Nat) (O0 : Old Z n0 h0) (F_negated_r0 : Fld Z h0 r0 "com/example/menshen/menshen/policy/Scope" "negated" "Z" (.int u)) :
    MetFree l (⟨"com/example/menshen/menshen/policy/Scope", "takesIn", "(Z)Z"⟩ : MethodName) (head1 (Jvm.Cond.code (⟨"com/example/menshen/menshen/policy/Scope", "takesIn", "(Z)Z"⟩ : MethodName) prog_32_method_3_code 2 (some .boolean) :: ws) ({ frames := 0, cells := 0, slots := 0, locals := 0 } : Room)) (fun a U => a = #[(.ref r0), (.int p1)] ∧ Z.Warmed39 U.vm ∧ U.heap = h0) (fun _ _ _ _ _ => True) (fun _ U o U' => ∃ v L, o = .returned v ∧ own_Q (fun v hE L => v = some (.int (fn6 Z r0 p1 u)) ∧ Fr n0 L ∧ Keep h0 hE []) v U'.heap L ∧ FrameEnd U o U' L ({ frames := 0, cells := 0, slots := 0, locals := 0 } : Room).cells ({ frames := 0, cells := 0, slots := 0, locals := 0 } : Room).slots) := by
  refine MetFree.of_bodySF (plainFor_of_name pn_4) hisR ?_
  intro p e s m args below meth c s₁ Bd hml0 hP hK
  obtain ⟨rfl, hZ, hh⟩ := hP
  have hx := Bd.exec
  have hby := Bd.bytes
  have hml : c.maxLocals = 2 := hml0
  have hown : s.vm.findClass "com/example/menshen/menshen/policy/Scope" = some m.cls := findClass_of_methodNamed Bd.named
  have hnm := (name_of_methodNamed Bd.named Bd.method).1
  have X0 : Stand p l e ({ frames := 0, cells := 0, slots := 0, locals := 0 } : Room) s m #[(.ref r0), (.int p1)] below meth c s₁ [] 0 0 := Stand.of_body Bd
  have e0 : s₁.heap = h0 := by rw [← hh, Bd.state]; rfl
  have N0 := Fr.nil n0
  have pre0 : ∀ t, Steps p.tables e below (s₁.setTop (mkF m 0 #[oR r0, oI p1] [])) t → Steps p.tables e below (s₁.setTop (entryFrame m #[(.ref r0), (.int p1)] 2)) t := fun t k => castTop (ef_6 m r0 p1) k
  obtain ⟨T32, X32, e32, st32⟩ := getF X0 hx hZ hown (host := "") (Or.inl (hw _ (List.mem_of_getElem? (i := 35) rfl))) Via.refl e0 F_negated_r0 (g := (mkF m 2 #[oR r0, oI p1] [(.ref r0), (.int p1)])) rfl rfl (hb hby d6_2)
  have pre33 : ∀ t, oP p e below T32 (mkF m 5 #[oR r0, oI p1] [(.int u), (.int p1)]) t → oP p e below s₁ (entryFrame m #[(.ref r0), (.int p1)] 2) t := fun t k => pre0 t (by
    show oP p e below s₁ (mkF m 0 #[oR r0, oI p1] []) _
    refine XS.iloadN X0.here hx rfl (hb hby d6_0) rfl ?_
    show oP p e below s₁ (mkF m 1 #[oR r0, oI p1] [(.int p1)]) _
    refine XS.aloadN X0.here hx rfl (hb hby d6_1) rfl rfl ?_
    show oP p e below s₁ (mkF m 2 #[oR r0, oI p1] [(.ref r0), (.int p1)]) _
    refine st32 _ ?_
    exact k)
  by_cases hc34 : p1 = u
  · obtain ⟨fs, hr, hrun, hended, hW, hsame⟩ := X32.leave (v := some (.int (0 : Int32))) (fun h => by rw [Bd.returns] at h; cases h)
    refine ⟨_, _, pre33 _ ?_, hrun, hended, _, _, rfl, ?_, ⟨_, rfl⟩, hW, hsame.mono (by decide) (by decide)⟩
    · show oP p e below T32 (mkF m 5 #[oR r0, oI p1] [(.int u), (.int p1)]) _
      refine XS.icmpYes X32.here hx rfl (pc0 := 5) (pc' := 12) rfl (hb hby d6_5) rfl (teq hc34).1 (by decide) (by decide) ?_
      show oP p e below T32 (mkF m 12 #[oR r0, oI p1] []) _
      refine XS.iconst X32.here hx rfl (hb hby d6_12) ?_
      show oP p e below T32 (mkF m 13 #[oR r0, oI p1] [(.int (0 : Int32))]) _
      exact retN X32 hx (t := .boolean) Bd.returns (by simp) (hb hby d6_13) hr
    · show (some (.int (0 : Int32)) : Option Value) = some (.int (fn6 Z r0 p1 u)) ∧ Fr n0 _ ∧ Keep h0 T32.heap []
      rw [e32]
      refine ⟨?_, N0, (Keep.refl h0 [])⟩
      unfold fn6
      rw [if_pos hc34]
  · obtain ⟨fs, hr, hrun, hended, hW, hsame⟩ := X32.leave (v := some (.int (1 : Int32))) (fun h => by rw [Bd.returns] at h; cases h)
    refine ⟨_, _, pre33 _ ?_, hrun, hended, _, _, rfl, ?_, ⟨_, rfl⟩, hW, hsame.mono (by decide) (by decide)⟩
    · show oP p e below T32 (mkF m 5 #[oR r0, oI p1] [(.int u), (.int p1)]) _
      refine XS.icmpNo X32.here hx rfl (hb hby d6_5) rfl (feq hc34).1 ?_
      show oP p e below T32 (mkF m 8 #[oR r0, oI p1] []) _
      refine XS.iconst X32.here hx rfl (hb hby d6_8) ?_
      show oP p e below T32 (mkF m 9 #[oR r0, oI p1] [(.int (1 : Int32))]) _
      refine XS.goto X32.here hx rfl (pc0 := 9) (pc' := 13) rfl (hb hby d6_9) (by decide) (by decide) ?_
      show oP p e below T32 (mkF m 13 #[oR r0, oI p1] [(.int (1 : Int32))]) _
      exact retN X32 hx (t := .boolean) Bd.returns (by simp) (hb hby d6_13) hr
    · show (some (.int (1 : Int32)) : Option Value) = some (.int (fn6 Z r0 p1 u)) ∧ Fr n0 _ ∧ Keep h0 T32.heap []
      rw [e32]
      refine ⟨?_, N0, (Keep.refl h0 [])⟩
      unfold fn6
      rw [if_neg hc34]
theorem pd_3 : parseMethodDescriptor "(I)Ljava/lang/Integer;" = some ⟨[.int], some (.object "java/lang/Integer")⟩ := by decide +kernel
theorem pd_4 : parseMethodDescriptor "(Ljava/lang/Object;Z)V" = some ⟨[(.object "java/lang/Object"), .boolean], none⟩ := by decide +kernel
theorem pd_5 : parseMethodDescriptor "(Z)Z" = some ⟨[.boolean], some .boolean⟩ := by decide +kernel
theorem ef_0 (m : MethodId) (x0 : Int32) (x1 : Int32) : entryFrame m #[(.int x0), (.int x1)] maxLocals = mkF m 0 #[.val (.int x0), .val (.int x1), .unset, .unset, .unset, .unset, .unset, .unset, .unset] [] := by first | (simp [entryFrame, mkF, argsToLocals, Value.category, maxLocals]; done) | rfl
theorem pn_5 : plainName "com/example/menshen/menshen/policy/ScopeTakesInPinLaw" = true := by first | (simp [plainName, overriddenIn]; done) | decide +kernel
set_option maxRecDepth 65536 in
set_option maxHeartbeats 40000000 in
theorem rm0 (l : Launch) (Z : State) (a0 : Array Value) (hw : ∀ d ∈ tables_1, d.before a0 Z = true) (hS : St Z) (ws : List Jvm.Cond) (p0 : Int32) (p1 : Int32) (h0 : Heap) (n0 : Nat) (O0 : Old Z n0 h0) :
    MetFree l x (head1 (Jvm.Cond.code x code maxLocals ret :: ws) room_1) (fun a U => a = #[(.int p0), (.int p1)] ∧ Z.Warmed39 U.vm ∧ U.heap = h0) (fun _ _ _ _ _ => True) (fun _ U o U' => ∃ v L, o = .returned v ∧ own_Q (fun v hE L => v = some (.int (1 : Int32)) ∧ Fr n0 L ∧ Keep h0 hE []) v U'.heap L ∧ ReturnedEndW U o U' L room_1.cells room_1.slots) := by
  refine MetFree.of_bodySF (plainFor_of_name pn_5) hisR ?_
  intro p e s m args below meth c s₁ Bd hml0 hP hK
  obtain ⟨rfl, hZ, hh⟩ := hP
  have hx := Bd.exec
  have hby := Bd.bytes
  have hml : c.maxLocals = 9 := hml0
  have hown : s.vm.findClass "com/example/menshen/menshen/policy/ScopeTakesInPinLaw" = some m.cls := findClass_of_methodNamed Bd.named
  have hnm := (name_of_methodNamed Bd.named Bd.method).1
  have X0 : Stand p l e room_1 (s.setVm s.vm) m #[(.int p0), (.int p1)] below meth c s₁ [] 0 0 := Stand.of_body Bd
  have e0 : s₁.heap = h0 := by rw [← hh, Bd.state]; rfl
  have N0 := Fr.nil n0
  have pre0 : ∀ t, Steps p.tables e below (s₁.setTop (mkF m 0 #[oI p0, oI p1, oU, oU, oU, oU, oU, oU, oU] [])) t → Steps p.tables e below (s₁.setTop (entryFrame m #[(.int p0), (.int p1)] maxLocals)) t := fun t k => castTop (ef_0 m p0 p1) k
  have hSi : s.Since s.vm 0 := own_since s
  have hki0 : 0 ≤ h0.size := Nat.zero_le _
  have pre35 : ∀ t, oP p e below s₁ (mkF m 3 #[oI p0, oI p1, oU, oU, oU, oU, oU, oU, oU] [(.int (p1 &&& (1 : Int32)))]) t → oP p e below s₁ (entryFrame m #[(.int p0), (.int p1)] maxLocals) t := fun t k => pre0 t (by
    show oP p e below s₁ (mkF m 0 #[oI p0, oI p1, oU, oU, oU, oU, oU, oU, oU] []) _
    refine XS.iloadN X0.here hx rfl (hb hby at_0) rfl ?_
    show oP p e below s₁ (mkF m 1 #[oI p0, oI p1, oU, oU, oU, oU, oU, oU, oU] [(.int p1)]) _
    refine XS.iconst X0.here hx rfl (hb hby at_1) ?_
    show oP p e below s₁ (mkF m 2 #[oI p0, oI p1, oU, oU, oU, oU, oU, oU, oU] [(.int (1 : Int32)), (.int p1)]) _
    refine XS.iand X0.here hx rfl (hb hby at_2) rfl ?_
    exact k)
  by_cases hc36 : (p1 &&& (1 : Int32)) = (0 : Int32)
  · have pre37 : ∀ t, oP p e below s₁ (mkF m 15 #[oI p0, oI p1, oI (0 : Int32), oU, oU, oU, oU, oU, oU] [(.int (p1 &&& (2 : Int32)))]) t → oP p e below s₁ (entryFrame m #[(.int p0), (.int p1)] maxLocals) t := fun t k => pre35 t (by
      show oP p e below s₁ (mkF m 3 #[oI p0, oI p1, oU, oU, oU, oU, oU, oU, oU] [(.int (p1 &&& (1 : Int32)))]) _
      refine XS.ifYes X0.here hx rfl (pc0 := 3) (pc' := 10) rfl (hb hby at_3) rfl ((if0 _ _).trans (teq hc36).1) (by decide) (by decide) ?_
      show oP p e below s₁ (mkF m 10 #[oI p0, oI p1, oU, oU, oU, oU, oU, oU, oU] []) _
      refine XS.iconst X0.here hx rfl (hb hby at_10) ?_
      show oP p e below s₁ (mkF m 11 #[oI p0, oI p1, oU, oU, oU, oU, oU, oU, oU] [(.int (0 : Int32))]) _
      refine XS.istoreN X0.here hx rfl (hb hby at_11) rfl (l' := #[oI p0, oI p1, oI (0 : Int32), oU, oU, oU, oU, oU, oU]) rfl ?_
      show oP p e below s₁ (mkF m 12 #[oI p0, oI p1, oI (0 : Int32), oU, oU, oU, oU, oU, oU] []) _
      refine XS.iloadN X0.here hx rfl (hb hby at_12) rfl ?_
      show oP p e below s₁ (mkF m 13 #[oI p0, oI p1, oI (0 : Int32), oU, oU, oU, oU, oU, oU] [(.int p1)]) _
      refine XS.iconst X0.here hx rfl (hb hby at_13) ?_
      show oP p e below s₁ (mkF m 14 #[oI p0, oI p1, oI (0 : Int32), oU, oU, oU, oU, oU, oU] [(.int (2 : Int32)), (.int p1)]) _
      refine XS.iand X0.here hx rfl (hb hby at_14) rfl ?_
      exact k)
    by_cases hc38 : (p1 &&& (2 : Int32)) = (0 : Int32)
    · obtain ⟨T39, h39, X39, e39, E39, A39, D39, -, st39⟩ := newO X0 hx hZ hown (hw _ (List.mem_of_getElem? (i := 0) rfl)) (hw _ (List.mem_of_getElem? (i := 1) rfl)) (hw _ (List.mem_of_getElem? (i := 2) rfl)) e0 (g := (mkF m 24 #[oI p0, oI p1, oI (0 : Int32), oI (0 : Int32), oU, oU, oU, oU, oU] [])) rfl (hb hby at_24) (by decide) (by decide)
      obtain ⟨b39, g39⟩ : ∃ z, z = h0.size := ⟨_, rfl⟩
      have g_b39 : n0 ≤ b39 := Nat.le_trans (own_old_le O0) (Nat.le_of_eq g39.symm)
      have sz_b39 : h0.size ≤ b39 := Nat.le_trans (Keep.refl h0 []).1 (Nat.le_of_eq g39.symm)
      rw [← g39] at A39 D39 st39
      have O39 := O0.ext E39
      have Kc39 := (Keep.refl h0 []).ext E39
      have F_named_b39 : Fld Z h39 b39 "com/example/menshen/menshen/policy/Scope" "named" "Ljava/lang/Object;" .null := D39 (Or.inr (hw _ (List.mem_of_getElem? (i := 34) rfl))) (ty := (.object "java/lang/Object")) (by decide)
      have F_negated_b39 : Fld Z h39 b39 "com/example/menshen/menshen/policy/Scope" "negated" "Z" (.int (0 : Int32)) := D39 (Or.inr (hw _ (List.mem_of_getElem? (i := 36) rfl))) (ty := .boolean) (by decide)
      obtain ⟨_, _, ⟨T40, L40, k40, n40⟩, -, X40, ⟨Lc40, hQ40, l40, y40, z40⟩, st40⟩ := Jvm.LawKit.callS X39 hx (y := (⟨"java/lang/Integer", "valueOf", "(I)Ljava/lang/Integer;"⟩ : MethodName)) hown (mvT hZ (hw _ (List.mem_of_getElem? (i := 3) rfl))) (mvT hZ (hw _ (List.mem_of_getElem? (i := 4) rfl))) (mvT hZ (hw _ (List.mem_of_getElem? (i := 5) rfl))) (mvT hZ (hw _ (List.mem_of_getElem? (i := 6) rfl))) (by decide) (backOf (W := 2) (rm1 l Z a0 hw hS [] p0 h39 n0 O39 ) hZ (hw _ (List.mem_of_getElem? (i := 6) rfl)) (hw _ (List.mem_of_getElem? (i := 5) rfl)) (by decide) (by decide)) (g := (mkF m 29 #[oI p0, oI p1, oI (0 : Int32), oI (0 : Int32), oU, oU, oU, oU, oU] [(.int p0), (.ref b39), (.ref b39)])) rfl (by rw [hml]; rfl) (argsL := [(.int p0)]) (rest := [(.ref b39), (.ref b39)]) (lenOf pd_3 rfl) rfl (by show 2 * 0 + _ ≤ _; exact Nat.le_of_eq rfl) (hb hby at_29) (fun _ _ => ⟨rfl, e39, (by decide : 1 + 1 ≤ _), (by decide : 2 + 1 ≤ _)⟩)
      dsimp only [Pt.U, Pt.locs, Pt.cells, Pt.slots] at X40 l40 y40 z40 st40 hQ40
      subst l40 y40 z40
      obtain ⟨b_40, v40, N40q, K40q, po40_0⟩ := hQ40
      subst v40
      have N40 := Fr.app N0 N40q
      have O40 := O39.keep K40q all0
      have Kc40 := Kc39.trans K40q all0
      have fx42 := (A39.keep K40q)
      have fx43 := (F_named_b39.keep K40q nin0)
      have fx44 := (F_negated_b39.keep K40q nin0)
      have fx45 := (Nat.le_trans (Nat.le_trans hki0 E39.1) K40q.1)
      obtain ⟨_, _, ⟨T41, L41, k41, n41⟩, -, X41, hsi41, hge41, ⟨Lc41, hQ41, l41, y41, z41⟩, st41⟩ := X40.specialBackS hx (y := (⟨"com/example/menshen/menshen/policy/Scope", "<init>", "(Ljava/lang/Object;Z)V"⟩ : MethodName)) rfl hown (mvT hZ (hw _ (List.mem_of_getElem? (i := 10) rfl))) (mvT hZ (hw _ (List.mem_of_getElem? (i := 11) rfl))) (mvT hZ (hw _ (List.mem_of_getElem? (i := 12) rfl))) (by decide) (backOfS (W := 1) (rm2 l Z a0 hw hS [] b39 b_40 (0 : Int32) T40.heap n0 O40 fx42 fx43 fx44 g_b39) hZ (hw _ (List.mem_of_getElem? (i := 12) rfl)) (hw _ (List.mem_of_getElem? (i := 2) rfl)) (by decide) (by decide)) (g := (mkF m 33 #[oI p0, oI p1, oI (0 : Int32), oI (0 : Int32), oU, oU, oU, oU, oU] [(.int (0 : Int32)), (.ref b_40), (.ref b39), (.ref b39)])) rfl (by rw [hml]; rfl) (Steps.refl _) (a := b39) (argsL := [(.ref b_40), (.int (0 : Int32))]) (rest := [(.ref b39)]) (lenOf pd_4 rfl) rfl (by show 2 * 0 + _ ≤ _; exact Nat.le_of_eq rfl) (hb hby at_33) (fun _ _ => ⟨rfl, rfl, (by decide : 2 + 2 ≤ _), (by decide : 3 + 24 ≤ _)⟩)
      dsimp only [Pt.U, Pt.locs, Pt.cells, Pt.slots] at X41 l41 y41 z41 st41 hQ41 hsi41 hge41
      subst l41 y41 z41
      obtain ⟨X41, hSi, hZ, hown⟩ := rebS hSi fx45 X41 hsi41 hge41 hZ hown
      obtain ⟨v41, N41q, K41q, po41_0, po41_1, po41_2⟩ := hQ41
      subst v41
      have N41 := Fr.app N40 N41q
      have O41 := O40.keep K41q (allS g_b39 all0)
      have Kc41 := Kc40.trans K41q (allS (Or.inr sz_b39) all0)
      obtain ⟨T46, h46, X46, e46, E46, A46, D46, -, st46⟩ := newO X41 hx hZ hown (hw _ (List.mem_of_getElem? (i := 0) rfl)) (hw _ (List.mem_of_getElem? (i := 1) rfl)) (hw _ (List.mem_of_getElem? (i := 2) rfl)) rfl (g := (mkF m 38 #[oI p0, oI p1, oI (0 : Int32), oI (0 : Int32), oR b39, oU, oU, oU, oU] [])) rfl (hb hby at_38) (by decide) (by decide)
      obtain ⟨b46, g46⟩ : ∃ z, z = T41.heap.size := ⟨_, rfl⟩
      have g_b46 : n0 ≤ b46 := Nat.le_trans (own_old_le O41) (Nat.le_of_eq g46.symm)
      have sz_b46 : h0.size ≤ b46 := Nat.le_trans Kc41.1 (Nat.le_of_eq g46.symm)
      have ne_b39_b46 : b39 ≠ b46 := Nat.ne_of_lt (Nat.lt_of_lt_of_le po41_0.lt (Nat.le_of_eq g46.symm))
      rw [← g46] at A46 D46 st46
      have O46 := O41.ext E46
      have Kc46 := Kc41.ext E46
      have F_named_b46 : Fld Z h46 b46 "com/example/menshen/menshen/policy/Scope" "named" "Ljava/lang/Object;" .null := D46 (Or.inr (hw _ (List.mem_of_getElem? (i := 34) rfl))) (ty := (.object "java/lang/Object")) (by decide)
      have F_negated_b46 : Fld Z h46 b46 "com/example/menshen/menshen/policy/Scope" "negated" "Z" (.int (0 : Int32)) := D46 (Or.inr (hw _ (List.mem_of_getElem? (i := 36) rfl))) (ty := .boolean) (by decide)
      obtain ⟨_, _, ⟨T47, L47, k47, n47⟩, -, X47, ⟨Lc47, hQ47, l47, y47, z47⟩, st47⟩ := Jvm.LawKit.callS X46 hx (y := (⟨"java/lang/Integer", "valueOf", "(I)Ljava/lang/Integer;"⟩ : MethodName)) hown (mvT hZ (hw _ (List.mem_of_getElem? (i := 3) rfl))) (mvT hZ (hw _ (List.mem_of_getElem? (i := 4) rfl))) (mvT hZ (hw _ (List.mem_of_getElem? (i := 5) rfl))) (mvT hZ (hw _ (List.mem_of_getElem? (i := 6) rfl))) (by decide) (backOf (W := 2) (rm1 l Z a0 hw hS [] p0 h46 n0 O46 ) hZ (hw _ (List.mem_of_getElem? (i := 6) rfl)) (hw _ (List.mem_of_getElem? (i := 5) rfl)) (by decide) (by decide)) (g := (mkF m 43 #[oI p0, oI p1, oI (0 : Int32), oI (0 : Int32), oR b39, oU, oU, oU, oU] [(.int p0), (.ref b46), (.ref b46)])) rfl (by rw [hml]; rfl) (argsL := [(.int p0)]) (rest := [(.ref b46), (.ref b46)]) (lenOf pd_3 rfl) rfl (by show 2 * 0 + _ ≤ _; exact Nat.le_of_eq rfl) (hb hby at_43) (fun _ _ => ⟨rfl, e46, (by decide : 5 + 1 ≤ _), (by decide : 29 + 1 ≤ _)⟩)
      dsimp only [Pt.U, Pt.locs, Pt.cells, Pt.slots] at X47 l47 y47 z47 st47 hQ47
      subst l47 y47 z47
      obtain ⟨b_47, v47, N47q, K47q, po47_0⟩ := hQ47
      subst v47
      have N47 := Fr.app N41 N47q
      have O47 := O46.keep K47q all0
      have Kc47 := Kc46.trans K47q all0
      have fx49 := (A46.keep K47q)
      have fx50 := (F_named_b46.keep K47q nin0)
      have fx51 := (F_negated_b46.keep K47q nin0)
      have fx52 := (Nat.le_trans (Nat.le_trans (Nat.le_refl _) E46.1) K47q.1)
      obtain ⟨_, _, ⟨T48, L48, k48, n48⟩, -, X48, hsi48, hge48, ⟨Lc48, hQ48, l48, y48, z48⟩, st48⟩ := X47.specialBackS hx (y := (⟨"com/example/menshen/menshen/policy/Scope", "<init>", "(Ljava/lang/Object;Z)V"⟩ : MethodName)) rfl hown (mvT hZ (hw _ (List.mem_of_getElem? (i := 10) rfl))) (mvT hZ (hw _ (List.mem_of_getElem? (i := 11) rfl))) (mvT hZ (hw _ (List.mem_of_getElem? (i := 12) rfl))) (by decide) (backOfS (W := 1) (rm2 l Z a0 hw hS [] b46 b_47 (1 : Int32) T47.heap n0 O47 fx49 fx50 fx51 g_b46) hZ (hw _ (List.mem_of_getElem? (i := 12) rfl)) (hw _ (List.mem_of_getElem? (i := 2) rfl)) (by decide) (by decide)) (g := (mkF m 55 #[oI p0, oI p1, oI (0 : Int32), oI (0 : Int32), oR b39, oU, oU, oU, oU] [(.int (1 : Int32)), (.ref b_47), (.ref b46), (.ref b46)])) rfl (by rw [hml]; rfl) (Steps.refl _) (a := b46) (argsL := [(.ref b_47), (.int (1 : Int32))]) (rest := [(.ref b46)]) (lenOf pd_4 rfl) rfl (by show 2 * 0 + _ ≤ _; exact Nat.le_of_eq rfl) (hb hby at_55) (fun _ _ => ⟨rfl, rfl, (by decide : 6 + 2 ≤ _), (by decide : 30 + 24 ≤ _)⟩)
      dsimp only [Pt.U, Pt.locs, Pt.cells, Pt.slots] at X48 l48 y48 z48 st48 hQ48 hsi48 hge48
      subst l48 y48 z48
      obtain ⟨X48, hSi, hZ, hown⟩ := rebS hSi fx52 X48 hsi48 hge48 hZ hown
      obtain ⟨v48, N48q, K48q, po48_0, po48_1, po48_2⟩ := hQ48
      subst v48
      have N48 := Fr.app N47 N48q
      have O48 := O47.keep K48q (allS g_b46 all0)
      have Kc48 := Kc47.trans K48q (allS (Or.inr sz_b46) all0)
      have fx53 := (((po41_0.ext E46).keep K47q).keep K48q)
      have fx55 := (((po41_2.ext E46).keep K47q nin0).keep K48q (ninS ne_b39_b46 nin0))
      obtain ⟨cq54, kq54, q54a, q54b, q54c⟩ := isOf hZ rfl fx53
      obtain ⟨_, _, ⟨T54, L54, k54, n54⟩, -, X54, ⟨Lc54, hQ54, l54, y54, z54⟩, st54⟩ := X48.virtualBack hx (y := (⟨"com/example/menshen/menshen/policy/Scope", "takesIn", "(Z)Z"⟩ : MethodName)) (z := (⟨"com/example/menshen/menshen/policy/Scope", "takesIn", "(Z)Z"⟩ : MethodName)) hown (mvT hZ (hw _ (List.mem_of_getElem? (i := 37) rfl))) (mvT hZ (hw _ (List.mem_of_getElem? (i := 38) rfl))) (notFace_of_selects (args := #[]) (mvT hZ (hw _ (List.mem_of_getElem? (i := 40) rfl)))) (mvT hZ (hw _ (List.mem_of_getElem? (i := 40) rfl))) (mvT hZ (hw _ (List.mem_of_getElem? (i := 39) rfl))) (by decide) (backOf (W := 0) (rm6 l Z a0 hw hS [] b39 (0 : Int32) ((0 : Int32) &&& 1) T48.heap n0 O48 fx55) hZ (hw _ (List.mem_of_getElem? (i := 41) rfl)) (hw _ (List.mem_of_getElem? (i := 2) rfl)) (by decide) (by decide)) q54a q54c (g := (mkF m 63 #[oI p0, oI p1, oI (0 : Int32), oI (0 : Int32), oR b39, oR b46, oU, oU, oU] [(.int (0 : Int32)), (.ref b39)])) rfl (by rw [hml]; rfl) (Steps.refl _) (argsL := [(.int (0 : Int32))]) (rest := []) (lenOf pd_5 rfl) rfl (by show 2 * 0 + _ ≤ _; exact Nat.le_of_eq rfl) (hb hby at_63) (fun _ _ => ⟨rfl, rfl, (by decide : 8 + 0 ≤ _), (by decide : 54 + 0 ≤ _)⟩)
      dsimp only [Pt.U, Pt.locs, Pt.cells, Pt.slots] at X54 l54 y54 z54 st54 hQ54
      subst l54 y54 z54
      obtain ⟨v54, N54q, K54q⟩ := hQ54
      have w54 : (fn6 Z b39 (0 : Int32) ((0 : Int32) &&& 1)) = (0 : Int32) := by unfold fn6; rw [if_pos (by decide : (0 : Int32) = ((0 : Int32) &&& 1))]; all_goals first | rfl | decide
      rw [w54] at v54
      subst v54
      have N54 := Fr.app N48 N54q
      have O54 := O48.keep K54q all0
      have Kc54 := Kc48.trans K54q all0
      have fx56 := (po48_0.keep K54q)
      have fx58 := (po48_2.keep K54q nin0)
      obtain ⟨cq57, kq57, q57a, q57b, q57c⟩ := isOf hZ rfl fx56
      obtain ⟨_, _, ⟨T57, L57, k57, n57⟩, -, X57, ⟨Lc57, hQ57, l57, y57, z57⟩, st57⟩ := X54.virtualBack hx (y := (⟨"com/example/menshen/menshen/policy/Scope", "takesIn", "(Z)Z"⟩ : MethodName)) (z := (⟨"com/example/menshen/menshen/policy/Scope", "takesIn", "(Z)Z"⟩ : MethodName)) hown (mvT hZ (hw _ (List.mem_of_getElem? (i := 37) rfl))) (mvT hZ (hw _ (List.mem_of_getElem? (i := 38) rfl))) (notFace_of_selects (args := #[]) (mvT hZ (hw _ (List.mem_of_getElem? (i := 40) rfl)))) (mvT hZ (hw _ (List.mem_of_getElem? (i := 40) rfl))) (mvT hZ (hw _ (List.mem_of_getElem? (i := 39) rfl))) (by decide) (backOf (W := 0) (rm6 l Z a0 hw hS [] b46 (0 : Int32) ((1 : Int32) &&& 1) T54.heap n0 O54 fx58) hZ (hw _ (List.mem_of_getElem? (i := 41) rfl)) (hw _ (List.mem_of_getElem? (i := 2) rfl)) (by decide) (by decide)) q57a q57c (g := (mkF m 71 #[oI p0, oI p1, oI (0 : Int32), oI (0 : Int32), oR b39, oR b46, oI (0 : Int32), oU, oU] [(.int (0 : Int32)), (.ref b46)])) rfl (by rw [hml]; rfl) (Steps.refl _) (argsL := [(.int (0 : Int32))]) (rest := []) (lenOf pd_5 rfl) rfl (by show 2 * 0 + _ ≤ _; exact Nat.le_of_eq rfl) (hb hby at_71) (fun _ _ => ⟨rfl, rfl, (by decide : 8 + 0 ≤ _), (by decide : 54 + 0 ≤ _)⟩)
      dsimp only [Pt.U, Pt.locs, Pt.cells, Pt.slots] at X57 l57 y57 z57 st57 hQ57
      subst l57 y57 z57
      obtain ⟨v57, N57q, K57q⟩ := hQ57
      have w57 : (fn6 Z b46 (0 : Int32) ((1 : Int32) &&& 1)) = (1 : Int32) := by unfold fn6; rw [if_neg (by decide : ¬ ((0 : Int32) = ((1 : Int32) &&& 1)))]; all_goals first | rfl | decide
      rw [w57] at v57
      subst v57
      have N57 := Fr.app N54 N57q
      have O57 := O54.keep K57q all0
      have Kc57 := Kc54.trans K57q all0
      have fx59 := (Nat.le_trans (Nat.le_trans (Nat.le_refl _) K54q.1) K57q.1)
      obtain ⟨fs, hr, hrun, hended, hRW⟩ := Stand.leaveW X57 hSi fx59 (v := some (.int (1 : Int32))) (fun h => by rw [Bd.returns] at h; cases h)
      refine ⟨_, _, pre37 _ ?_, hrun, hended, _, _, rfl, ?_, own_rwmono hRW (by decide) (by decide)⟩
      · show oP p e below s₁ (mkF m 15 #[oI p0, oI p1, oI (0 : Int32), oU, oU, oU, oU, oU, oU] [(.int (p1 &&& (2 : Int32)))]) _
        refine XS.ifYes X0.here hx rfl (pc0 := 15) (pc' := 22) rfl (hb hby at_15) rfl ((if0 _ _).trans (teq hc38).1) (by decide) (by decide) ?_
        show oP p e below s₁ (mkF m 22 #[oI p0, oI p1, oI (0 : Int32), oU, oU, oU, oU, oU, oU] []) _
        refine XS.iconst X0.here hx rfl (hb hby at_22) ?_
        show oP p e below s₁ (mkF m 23 #[oI p0, oI p1, oI (0 : Int32), oU, oU, oU, oU, oU, oU] [(.int (0 : Int32))]) _
        refine XS.istoreN X0.here hx rfl (hb hby at_23) rfl (l' := #[oI p0, oI p1, oI (0 : Int32), oI (0 : Int32), oU, oU, oU, oU, oU]) rfl ?_
        show oP p e below s₁ (mkF m 24 #[oI p0, oI p1, oI (0 : Int32), oI (0 : Int32), oU, oU, oU, oU, oU] []) _
        refine st39 _ ?_
        show oP p e below T39 (mkF m 27 #[oI p0, oI p1, oI (0 : Int32), oI (0 : Int32), oU, oU, oU, oU, oU] [(.ref b39)]) _
        refine XS.dup X39.here hx rfl (hb hby at_27) rfl rfl ?_
        show oP p e below T39 (mkF m 28 #[oI p0, oI p1, oI (0 : Int32), oI (0 : Int32), oU, oU, oU, oU, oU] [(.ref b39), (.ref b39)]) _
        refine XS.iloadN X39.here hx rfl (hb hby at_28) rfl ?_
        show oP p e below T39 (mkF m 29 #[oI p0, oI p1, oI (0 : Int32), oI (0 : Int32), oU, oU, oU, oU, oU] [(.int p0), (.ref b39), (.ref b39)]) _
        refine st40 _ ?_
        show oP p e below T40 (mkF m 32 #[oI p0, oI p1, oI (0 : Int32), oI (0 : Int32), oU, oU, oU, oU, oU] [(.ref b_40), (.ref b39), (.ref b39)]) _
        refine XS.iloadN X40.here hx rfl (hb hby at_32) rfl ?_
        show oP p e below T40 (mkF m 33 #[oI p0, oI p1, oI (0 : Int32), oI (0 : Int32), oU, oU, oU, oU, oU] [(.int (0 : Int32)), (.ref b_40), (.ref b39), (.ref b39)]) _
        refine st41.trans ?_
        show oP p e below T41 (mkF m 36 #[oI p0, oI p1, oI (0 : Int32), oI (0 : Int32), oU, oU, oU, oU, oU] [(.ref b39)]) _
        refine XS.astore X41.here hx rfl (hb hby at_36) rfl rfl (l' := #[oI p0, oI p1, oI (0 : Int32), oI (0 : Int32), oR b39, oU, oU, oU, oU]) rfl ?_
        show oP p e below T41 (mkF m 38 #[oI p0, oI p1, oI (0 : Int32), oI (0 : Int32), oR b39, oU, oU, oU, oU] []) _
        refine st46 _ ?_
        show oP p e below T46 (mkF m 41 #[oI p0, oI p1, oI (0 : Int32), oI (0 : Int32), oR b39, oU, oU, oU, oU] [(.ref b46)]) _
        refine XS.dup X46.here hx rfl (hb hby at_41) rfl rfl ?_
        show oP p e below T46 (mkF m 42 #[oI p0, oI p1, oI (0 : Int32), oI (0 : Int32), oR b39, oU, oU, oU, oU] [(.ref b46), (.ref b46)]) _
        refine XS.iloadN X46.here hx rfl (hb hby at_42) rfl ?_
        show oP p e below T46 (mkF m 43 #[oI p0, oI p1, oI (0 : Int32), oI (0 : Int32), oR b39, oU, oU, oU, oU] [(.int p0), (.ref b46), (.ref b46)]) _
        refine st47 _ ?_
        show oP p e below T47 (mkF m 46 #[oI p0, oI p1, oI (0 : Int32), oI (0 : Int32), oR b39, oU, oU, oU, oU] [(.ref b_47), (.ref b46), (.ref b46)]) _
        refine XS.iloadN X47.here hx rfl (hb hby at_46) rfl ?_
        show oP p e below T47 (mkF m 47 #[oI p0, oI p1, oI (0 : Int32), oI (0 : Int32), oR b39, oU, oU, oU, oU] [(.int (0 : Int32)), (.ref b_47), (.ref b46), (.ref b46)]) _
        refine XS.ifNo X47.here hx rfl (hb hby at_47) rfl ((if0 _ _).trans (teq (by decide : (0 : Int32) = (0 : Int32))).2) ?_
        show oP p e below T47 (mkF m 50 #[oI p0, oI p1, oI (0 : Int32), oI (0 : Int32), oR b39, oU, oU, oU, oU] [(.ref b_47), (.ref b46), (.ref b46)]) _
        refine XS.iconst X47.here hx rfl (hb hby at_50) ?_
        show oP p e below T47 (mkF m 51 #[oI p0, oI p1, oI (0 : Int32), oI (0 : Int32), oR b39, oU, oU, oU, oU] [(.int (1 : Int32)), (.ref b_47), (.ref b46), (.ref b46)]) _
        refine XS.goto X47.here hx rfl (pc0 := 51) (pc' := 55) rfl (hb hby at_51) (by decide) (by decide) ?_
        show oP p e below T47 (mkF m 55 #[oI p0, oI p1, oI (0 : Int32), oI (0 : Int32), oR b39, oU, oU, oU, oU] [(.int (1 : Int32)), (.ref b_47), (.ref b46), (.ref b46)]) _
        refine st48.trans ?_
        show oP p e below T48 (mkF m 58 #[oI p0, oI p1, oI (0 : Int32), oI (0 : Int32), oR b39, oU, oU, oU, oU] [(.ref b46)]) _
        refine XS.astore X48.here hx rfl (hb hby at_58) rfl rfl (l' := #[oI p0, oI p1, oI (0 : Int32), oI (0 : Int32), oR b39, oR b46, oU, oU, oU]) rfl ?_
        show oP p e below T48 (mkF m 60 #[oI p0, oI p1, oI (0 : Int32), oI (0 : Int32), oR b39, oR b46, oU, oU, oU] []) _
        refine XS.aload X48.here hx rfl (hb hby at_60) rfl rfl ?_
        show oP p e below T48 (mkF m 62 #[oI p0, oI p1, oI (0 : Int32), oI (0 : Int32), oR b39, oR b46, oU, oU, oU] [(.ref b39)]) _
        refine XS.iloadN X48.here hx rfl (hb hby at_62) rfl ?_
        show oP p e below T48 (mkF m 63 #[oI p0, oI p1, oI (0 : Int32), oI (0 : Int32), oR b39, oR b46, oU, oU, oU] [(.int (0 : Int32)), (.ref b39)]) _
        refine st54.trans ?_
        show oP p e below T54 (mkF m 66 #[oI p0, oI p1, oI (0 : Int32), oI (0 : Int32), oR b39, oR b46, oU, oU, oU] [(.int (0 : Int32))]) _
        refine XS.istore X54.here hx rfl (hb hby at_66) rfl (l' := #[oI p0, oI p1, oI (0 : Int32), oI (0 : Int32), oR b39, oR b46, oI (0 : Int32), oU, oU]) rfl ?_
        show oP p e below T54 (mkF m 68 #[oI p0, oI p1, oI (0 : Int32), oI (0 : Int32), oR b39, oR b46, oI (0 : Int32), oU, oU] []) _
        refine XS.aload X54.here hx rfl (hb hby at_68) rfl rfl ?_
        show oP p e below T54 (mkF m 70 #[oI p0, oI p1, oI (0 : Int32), oI (0 : Int32), oR b39, oR b46, oI (0 : Int32), oU, oU] [(.ref b46)]) _
        refine XS.iloadN X54.here hx rfl (hb hby at_70) rfl ?_
        show oP p e below T54 (mkF m 71 #[oI p0, oI p1, oI (0 : Int32), oI (0 : Int32), oR b39, oR b46, oI (0 : Int32), oU, oU] [(.int (0 : Int32)), (.ref b46)]) _
        refine st57.trans ?_
        show oP p e below T57 (mkF m 74 #[oI p0, oI p1, oI (0 : Int32), oI (0 : Int32), oR b39, oR b46, oI (0 : Int32), oU, oU] [(.int (1 : Int32))]) _
        refine XS.istore X57.here hx rfl (hb hby at_74) rfl (l' := #[oI p0, oI p1, oI (0 : Int32), oI (0 : Int32), oR b39, oR b46, oI (0 : Int32), oI (1 : Int32), oU]) rfl ?_
        show oP p e below T57 (mkF m 76 #[oI p0, oI p1, oI (0 : Int32), oI (0 : Int32), oR b39, oR b46, oI (0 : Int32), oI (1 : Int32), oU] []) _
        refine XS.iloadN X57.here hx rfl (hb hby at_76) rfl ?_
        show oP p e below T57 (mkF m 77 #[oI p0, oI p1, oI (0 : Int32), oI (0 : Int32), oR b39, oR b46, oI (0 : Int32), oI (1 : Int32), oU] [(.int (0 : Int32))]) _
        refine XS.ifYes X57.here hx rfl (pc0 := 77) (pc' := 94) rfl (hb hby at_77) rfl ((if0 _ _).trans (teq (by decide : (0 : Int32) = (0 : Int32))).1) (by decide) (by decide) ?_
        show oP p e below T57 (mkF m 94 #[oI p0, oI p1, oI (0 : Int32), oI (0 : Int32), oR b39, oR b46, oI (0 : Int32), oI (1 : Int32), oU] []) _
        refine XS.iloadN X57.here hx rfl (hb hby at_94) rfl ?_
        show oP p e below T57 (mkF m 95 #[oI p0, oI p1, oI (0 : Int32), oI (0 : Int32), oR b39, oR b46, oI (0 : Int32), oI (1 : Int32), oU] [(.int (0 : Int32))]) _
        refine XS.istore X57.here hx rfl (hb hby at_95) rfl (l' := #[oI p0, oI p1, oI (0 : Int32), oI (0 : Int32), oR b39, oR b46, oI (0 : Int32), oI (1 : Int32), oI (0 : Int32)]) rfl ?_
        show oP p e below T57 (mkF m 97 #[oI p0, oI p1, oI (0 : Int32), oI (0 : Int32), oR b39, oR b46, oI (0 : Int32), oI (1 : Int32), oI (0 : Int32)] []) _
        refine XS.iload X57.here hx rfl (hb hby at_97) rfl ?_
        show oP p e below T57 (mkF m 99 #[oI p0, oI p1, oI (0 : Int32), oI (0 : Int32), oR b39, oR b46, oI (0 : Int32), oI (1 : Int32), oI (0 : Int32)] [(.int (0 : Int32))]) _
        refine XS.iload X57.here hx rfl (hb hby at_99) rfl ?_
        show oP p e below T57 (mkF m 101 #[oI p0, oI p1, oI (0 : Int32), oI (0 : Int32), oR b39, oR b46, oI (0 : Int32), oI (1 : Int32), oI (0 : Int32)] [(.int (0 : Int32)), (.int (0 : Int32))]) _
        refine XS.icmpNo X57.here hx rfl (hb hby at_101) rfl (teq (by decide : (0 : Int32) = (0 : Int32))).2 ?_
        show oP p e below T57 (mkF m 104 #[oI p0, oI p1, oI (0 : Int32), oI (0 : Int32), oR b39, oR b46, oI (0 : Int32), oI (1 : Int32), oI (0 : Int32)] []) _
        refine XS.iload X57.here hx rfl (hb hby at_104) rfl ?_
        show oP p e below T57 (mkF m 106 #[oI p0, oI p1, oI (0 : Int32), oI (0 : Int32), oR b39, oR b46, oI (0 : Int32), oI (1 : Int32), oI (0 : Int32)] [(.int (1 : Int32))]) _
        refine XS.iload X57.here hx rfl (hb hby at_106) rfl ?_
        show oP p e below T57 (mkF m 108 #[oI p0, oI p1, oI (0 : Int32), oI (0 : Int32), oR b39, oR b46, oI (0 : Int32), oI (1 : Int32), oI (0 : Int32)] [(.int (0 : Int32)), (.int (1 : Int32))]) _
        refine XS.icmpNo X57.here hx rfl (hb hby at_108) rfl (feq (by decide : ¬ ((1 : Int32) = (0 : Int32)))).1 ?_
        show oP p e below T57 (mkF m 111 #[oI p0, oI p1, oI (0 : Int32), oI (0 : Int32), oR b39, oR b46, oI (0 : Int32), oI (1 : Int32), oI (0 : Int32)] []) _
        refine XS.iconst X57.here hx rfl (hb hby at_111) ?_
        show oP p e below T57 (mkF m 112 #[oI p0, oI p1, oI (0 : Int32), oI (0 : Int32), oR b39, oR b46, oI (0 : Int32), oI (1 : Int32), oI (0 : Int32)] [(.int (1 : Int32))]) _
        refine XS.goto X57.here hx rfl (pc0 := 112) (pc' := 116) rfl (hb hby at_112) (by decide) (by decide) ?_
        show oP p e below T57 (mkF m 116 #[oI p0, oI p1, oI (0 : Int32), oI (0 : Int32), oR b39, oR b46, oI (0 : Int32), oI (1 : Int32), oI (0 : Int32)] [(.int (1 : Int32))]) _
        exact retN X57 hx (t := .boolean) Bd.returns (by simp) (hb hby at_116) hr
      · show (some (.int (1 : Int32)) : Option Value) = some (.int (1 : Int32)) ∧ Fr n0 _ ∧ Keep h0 T57.heap []
        exact ⟨rfl, N57, Kc57⟩
    · obtain ⟨T60, h60, X60, e60, E60, A60, D60, -, st60⟩ := newO X0 hx hZ hown (hw _ (List.mem_of_getElem? (i := 0) rfl)) (hw _ (List.mem_of_getElem? (i := 1) rfl)) (hw _ (List.mem_of_getElem? (i := 2) rfl)) e0 (g := (mkF m 24 #[oI p0, oI p1, oI (0 : Int32), oI (1 : Int32), oU, oU, oU, oU, oU] [])) rfl (hb hby at_24) (by decide) (by decide)
      obtain ⟨b60, g60⟩ : ∃ z, z = h0.size := ⟨_, rfl⟩
      have g_b60 : n0 ≤ b60 := Nat.le_trans (own_old_le O0) (Nat.le_of_eq g60.symm)
      have sz_b60 : h0.size ≤ b60 := Nat.le_trans (Keep.refl h0 []).1 (Nat.le_of_eq g60.symm)
      rw [← g60] at A60 D60 st60
      have O60 := O0.ext E60
      have Kc60 := (Keep.refl h0 []).ext E60
      have F_named_b60 : Fld Z h60 b60 "com/example/menshen/menshen/policy/Scope" "named" "Ljava/lang/Object;" .null := D60 (Or.inr (hw _ (List.mem_of_getElem? (i := 34) rfl))) (ty := (.object "java/lang/Object")) (by decide)
      have F_negated_b60 : Fld Z h60 b60 "com/example/menshen/menshen/policy/Scope" "negated" "Z" (.int (0 : Int32)) := D60 (Or.inr (hw _ (List.mem_of_getElem? (i := 36) rfl))) (ty := .boolean) (by decide)
      obtain ⟨_, _, ⟨T61, L61, k61, n61⟩, -, X61, ⟨Lc61, hQ61, l61, y61, z61⟩, st61⟩ := Jvm.LawKit.callS X60 hx (y := (⟨"java/lang/Integer", "valueOf", "(I)Ljava/lang/Integer;"⟩ : MethodName)) hown (mvT hZ (hw _ (List.mem_of_getElem? (i := 3) rfl))) (mvT hZ (hw _ (List.mem_of_getElem? (i := 4) rfl))) (mvT hZ (hw _ (List.mem_of_getElem? (i := 5) rfl))) (mvT hZ (hw _ (List.mem_of_getElem? (i := 6) rfl))) (by decide) (backOf (W := 2) (rm1 l Z a0 hw hS [] p0 h60 n0 O60 ) hZ (hw _ (List.mem_of_getElem? (i := 6) rfl)) (hw _ (List.mem_of_getElem? (i := 5) rfl)) (by decide) (by decide)) (g := (mkF m 29 #[oI p0, oI p1, oI (0 : Int32), oI (1 : Int32), oU, oU, oU, oU, oU] [(.int p0), (.ref b60), (.ref b60)])) rfl (by rw [hml]; rfl) (argsL := [(.int p0)]) (rest := [(.ref b60), (.ref b60)]) (lenOf pd_3 rfl) rfl (by show 2 * 0 + _ ≤ _; exact Nat.le_of_eq rfl) (hb hby at_29) (fun _ _ => ⟨rfl, e60, (by decide : 1 + 1 ≤ _), (by decide : 2 + 1 ≤ _)⟩)
      dsimp only [Pt.U, Pt.locs, Pt.cells, Pt.slots] at X61 l61 y61 z61 st61 hQ61
      subst l61 y61 z61
      obtain ⟨b_61, v61, N61q, K61q, po61_0⟩ := hQ61
      subst v61
      have N61 := Fr.app N0 N61q
      have O61 := O60.keep K61q all0
      have Kc61 := Kc60.trans K61q all0
      have fx63 := (A60.keep K61q)
      have fx64 := (F_named_b60.keep K61q nin0)
      have fx65 := (F_negated_b60.keep K61q nin0)
      have fx66 := (Nat.le_trans (Nat.le_trans hki0 E60.1) K61q.1)
      obtain ⟨_, _, ⟨T62, L62, k62, n62⟩, -, X62, hsi62, hge62, ⟨Lc62, hQ62, l62, y62, z62⟩, st62⟩ := X61.specialBackS hx (y := (⟨"com/example/menshen/menshen/policy/Scope", "<init>", "(Ljava/lang/Object;Z)V"⟩ : MethodName)) rfl hown (mvT hZ (hw _ (List.mem_of_getElem? (i := 10) rfl))) (mvT hZ (hw _ (List.mem_of_getElem? (i := 11) rfl))) (mvT hZ (hw _ (List.mem_of_getElem? (i := 12) rfl))) (by decide) (backOfS (W := 1) (rm2 l Z a0 hw hS [] b60 b_61 (1 : Int32) T61.heap n0 O61 fx63 fx64 fx65 g_b60) hZ (hw _ (List.mem_of_getElem? (i := 12) rfl)) (hw _ (List.mem_of_getElem? (i := 2) rfl)) (by decide) (by decide)) (g := (mkF m 33 #[oI p0, oI p1, oI (0 : Int32), oI (1 : Int32), oU, oU, oU, oU, oU] [(.int (1 : Int32)), (.ref b_61), (.ref b60), (.ref b60)])) rfl (by rw [hml]; rfl) (Steps.refl _) (a := b60) (argsL := [(.ref b_61), (.int (1 : Int32))]) (rest := [(.ref b60)]) (lenOf pd_4 rfl) rfl (by show 2 * 0 + _ ≤ _; exact Nat.le_of_eq rfl) (hb hby at_33) (fun _ _ => ⟨rfl, rfl, (by decide : 2 + 2 ≤ _), (by decide : 3 + 24 ≤ _)⟩)
      dsimp only [Pt.U, Pt.locs, Pt.cells, Pt.slots] at X62 l62 y62 z62 st62 hQ62 hsi62 hge62
      subst l62 y62 z62
      obtain ⟨X62, hSi, hZ, hown⟩ := rebS hSi fx66 X62 hsi62 hge62 hZ hown
      obtain ⟨v62, N62q, K62q, po62_0, po62_1, po62_2⟩ := hQ62
      subst v62
      have N62 := Fr.app N61 N62q
      have O62 := O61.keep K62q (allS g_b60 all0)
      have Kc62 := Kc61.trans K62q (allS (Or.inr sz_b60) all0)
      obtain ⟨T67, h67, X67, e67, E67, A67, D67, -, st67⟩ := newO X62 hx hZ hown (hw _ (List.mem_of_getElem? (i := 0) rfl)) (hw _ (List.mem_of_getElem? (i := 1) rfl)) (hw _ (List.mem_of_getElem? (i := 2) rfl)) rfl (g := (mkF m 38 #[oI p0, oI p1, oI (0 : Int32), oI (1 : Int32), oR b60, oU, oU, oU, oU] [])) rfl (hb hby at_38) (by decide) (by decide)
      obtain ⟨b67, g67⟩ : ∃ z, z = T62.heap.size := ⟨_, rfl⟩
      have g_b67 : n0 ≤ b67 := Nat.le_trans (own_old_le O62) (Nat.le_of_eq g67.symm)
      have sz_b67 : h0.size ≤ b67 := Nat.le_trans Kc62.1 (Nat.le_of_eq g67.symm)
      have ne_b60_b67 : b60 ≠ b67 := Nat.ne_of_lt (Nat.lt_of_lt_of_le po62_0.lt (Nat.le_of_eq g67.symm))
      rw [← g67] at A67 D67 st67
      have O67 := O62.ext E67
      have Kc67 := Kc62.ext E67
      have F_named_b67 : Fld Z h67 b67 "com/example/menshen/menshen/policy/Scope" "named" "Ljava/lang/Object;" .null := D67 (Or.inr (hw _ (List.mem_of_getElem? (i := 34) rfl))) (ty := (.object "java/lang/Object")) (by decide)
      have F_negated_b67 : Fld Z h67 b67 "com/example/menshen/menshen/policy/Scope" "negated" "Z" (.int (0 : Int32)) := D67 (Or.inr (hw _ (List.mem_of_getElem? (i := 36) rfl))) (ty := .boolean) (by decide)
      obtain ⟨_, _, ⟨T68, L68, k68, n68⟩, -, X68, ⟨Lc68, hQ68, l68, y68, z68⟩, st68⟩ := Jvm.LawKit.callS X67 hx (y := (⟨"java/lang/Integer", "valueOf", "(I)Ljava/lang/Integer;"⟩ : MethodName)) hown (mvT hZ (hw _ (List.mem_of_getElem? (i := 3) rfl))) (mvT hZ (hw _ (List.mem_of_getElem? (i := 4) rfl))) (mvT hZ (hw _ (List.mem_of_getElem? (i := 5) rfl))) (mvT hZ (hw _ (List.mem_of_getElem? (i := 6) rfl))) (by decide) (backOf (W := 2) (rm1 l Z a0 hw hS [] p0 h67 n0 O67 ) hZ (hw _ (List.mem_of_getElem? (i := 6) rfl)) (hw _ (List.mem_of_getElem? (i := 5) rfl)) (by decide) (by decide)) (g := (mkF m 43 #[oI p0, oI p1, oI (0 : Int32), oI (1 : Int32), oR b60, oU, oU, oU, oU] [(.int p0), (.ref b67), (.ref b67)])) rfl (by rw [hml]; rfl) (argsL := [(.int p0)]) (rest := [(.ref b67), (.ref b67)]) (lenOf pd_3 rfl) rfl (by show 2 * 0 + _ ≤ _; exact Nat.le_of_eq rfl) (hb hby at_43) (fun _ _ => ⟨rfl, e67, (by decide : 5 + 1 ≤ _), (by decide : 29 + 1 ≤ _)⟩)
      dsimp only [Pt.U, Pt.locs, Pt.cells, Pt.slots] at X68 l68 y68 z68 st68 hQ68
      subst l68 y68 z68
      obtain ⟨b_68, v68, N68q, K68q, po68_0⟩ := hQ68
      subst v68
      have N68 := Fr.app N62 N68q
      have O68 := O67.keep K68q all0
      have Kc68 := Kc67.trans K68q all0
      have fx70 := (A67.keep K68q)
      have fx71 := (F_named_b67.keep K68q nin0)
      have fx72 := (F_negated_b67.keep K68q nin0)
      have fx73 := (Nat.le_trans (Nat.le_trans (Nat.le_refl _) E67.1) K68q.1)
      obtain ⟨_, _, ⟨T69, L69, k69, n69⟩, -, X69, hsi69, hge69, ⟨Lc69, hQ69, l69, y69, z69⟩, st69⟩ := X68.specialBackS hx (y := (⟨"com/example/menshen/menshen/policy/Scope", "<init>", "(Ljava/lang/Object;Z)V"⟩ : MethodName)) rfl hown (mvT hZ (hw _ (List.mem_of_getElem? (i := 10) rfl))) (mvT hZ (hw _ (List.mem_of_getElem? (i := 11) rfl))) (mvT hZ (hw _ (List.mem_of_getElem? (i := 12) rfl))) (by decide) (backOfS (W := 1) (rm2 l Z a0 hw hS [] b67 b_68 (0 : Int32) T68.heap n0 O68 fx70 fx71 fx72 g_b67) hZ (hw _ (List.mem_of_getElem? (i := 12) rfl)) (hw _ (List.mem_of_getElem? (i := 2) rfl)) (by decide) (by decide)) (g := (mkF m 55 #[oI p0, oI p1, oI (0 : Int32), oI (1 : Int32), oR b60, oU, oU, oU, oU] [(.int (0 : Int32)), (.ref b_68), (.ref b67), (.ref b67)])) rfl (by rw [hml]; rfl) (Steps.refl _) (a := b67) (argsL := [(.ref b_68), (.int (0 : Int32))]) (rest := [(.ref b67)]) (lenOf pd_4 rfl) rfl (by show 2 * 0 + _ ≤ _; exact Nat.le_of_eq rfl) (hb hby at_55) (fun _ _ => ⟨rfl, rfl, (by decide : 6 + 2 ≤ _), (by decide : 30 + 24 ≤ _)⟩)
      dsimp only [Pt.U, Pt.locs, Pt.cells, Pt.slots] at X69 l69 y69 z69 st69 hQ69 hsi69 hge69
      subst l69 y69 z69
      obtain ⟨X69, hSi, hZ, hown⟩ := rebS hSi fx73 X69 hsi69 hge69 hZ hown
      obtain ⟨v69, N69q, K69q, po69_0, po69_1, po69_2⟩ := hQ69
      subst v69
      have N69 := Fr.app N68 N69q
      have O69 := O68.keep K69q (allS g_b67 all0)
      have Kc69 := Kc68.trans K69q (allS (Or.inr sz_b67) all0)
      have fx74 := (((po62_0.ext E67).keep K68q).keep K69q)
      have fx76 := (((po62_2.ext E67).keep K68q nin0).keep K69q (ninS ne_b60_b67 nin0))
      obtain ⟨cq75, kq75, q75a, q75b, q75c⟩ := isOf hZ rfl fx74
      obtain ⟨_, _, ⟨T75, L75, k75, n75⟩, -, X75, ⟨Lc75, hQ75, l75, y75, z75⟩, st75⟩ := X69.virtualBack hx (y := (⟨"com/example/menshen/menshen/policy/Scope", "takesIn", "(Z)Z"⟩ : MethodName)) (z := (⟨"com/example/menshen/menshen/policy/Scope", "takesIn", "(Z)Z"⟩ : MethodName)) hown (mvT hZ (hw _ (List.mem_of_getElem? (i := 37) rfl))) (mvT hZ (hw _ (List.mem_of_getElem? (i := 38) rfl))) (notFace_of_selects (args := #[]) (mvT hZ (hw _ (List.mem_of_getElem? (i := 40) rfl)))) (mvT hZ (hw _ (List.mem_of_getElem? (i := 40) rfl))) (mvT hZ (hw _ (List.mem_of_getElem? (i := 39) rfl))) (by decide) (backOf (W := 0) (rm6 l Z a0 hw hS [] b60 (0 : Int32) ((1 : Int32) &&& 1) T69.heap n0 O69 fx76) hZ (hw _ (List.mem_of_getElem? (i := 41) rfl)) (hw _ (List.mem_of_getElem? (i := 2) rfl)) (by decide) (by decide)) q75a q75c (g := (mkF m 63 #[oI p0, oI p1, oI (0 : Int32), oI (1 : Int32), oR b60, oR b67, oU, oU, oU] [(.int (0 : Int32)), (.ref b60)])) rfl (by rw [hml]; rfl) (Steps.refl _) (argsL := [(.int (0 : Int32))]) (rest := []) (lenOf pd_5 rfl) rfl (by show 2 * 0 + _ ≤ _; exact Nat.le_of_eq rfl) (hb hby at_63) (fun _ _ => ⟨rfl, rfl, (by decide : 8 + 0 ≤ _), (by decide : 54 + 0 ≤ _)⟩)
      dsimp only [Pt.U, Pt.locs, Pt.cells, Pt.slots] at X75 l75 y75 z75 st75 hQ75
      subst l75 y75 z75
      obtain ⟨v75, N75q, K75q⟩ := hQ75
      have w75 : (fn6 Z b60 (0 : Int32) ((1 : Int32) &&& 1)) = (1 : Int32) := by unfold fn6; rw [if_neg (by decide : ¬ ((0 : Int32) = ((1 : Int32) &&& 1)))]; all_goals first | rfl | decide
      rw [w75] at v75
      subst v75
      have N75 := Fr.app N69 N75q
      have O75 := O69.keep K75q all0
      have Kc75 := Kc69.trans K75q all0
      have fx77 := (po69_0.keep K75q)
      have fx79 := (po69_2.keep K75q nin0)
      obtain ⟨cq78, kq78, q78a, q78b, q78c⟩ := isOf hZ rfl fx77
      obtain ⟨_, _, ⟨T78, L78, k78, n78⟩, -, X78, ⟨Lc78, hQ78, l78, y78, z78⟩, st78⟩ := X75.virtualBack hx (y := (⟨"com/example/menshen/menshen/policy/Scope", "takesIn", "(Z)Z"⟩ : MethodName)) (z := (⟨"com/example/menshen/menshen/policy/Scope", "takesIn", "(Z)Z"⟩ : MethodName)) hown (mvT hZ (hw _ (List.mem_of_getElem? (i := 37) rfl))) (mvT hZ (hw _ (List.mem_of_getElem? (i := 38) rfl))) (notFace_of_selects (args := #[]) (mvT hZ (hw _ (List.mem_of_getElem? (i := 40) rfl)))) (mvT hZ (hw _ (List.mem_of_getElem? (i := 40) rfl))) (mvT hZ (hw _ (List.mem_of_getElem? (i := 39) rfl))) (by decide) (backOf (W := 0) (rm6 l Z a0 hw hS [] b67 (0 : Int32) ((0 : Int32) &&& 1) T75.heap n0 O75 fx79) hZ (hw _ (List.mem_of_getElem? (i := 41) rfl)) (hw _ (List.mem_of_getElem? (i := 2) rfl)) (by decide) (by decide)) q78a q78c (g := (mkF m 71 #[oI p0, oI p1, oI (0 : Int32), oI (1 : Int32), oR b60, oR b67, oI (1 : Int32), oU, oU] [(.int (0 : Int32)), (.ref b67)])) rfl (by rw [hml]; rfl) (Steps.refl _) (argsL := [(.int (0 : Int32))]) (rest := []) (lenOf pd_5 rfl) rfl (by show 2 * 0 + _ ≤ _; exact Nat.le_of_eq rfl) (hb hby at_71) (fun _ _ => ⟨rfl, rfl, (by decide : 8 + 0 ≤ _), (by decide : 54 + 0 ≤ _)⟩)
      dsimp only [Pt.U, Pt.locs, Pt.cells, Pt.slots] at X78 l78 y78 z78 st78 hQ78
      subst l78 y78 z78
      obtain ⟨v78, N78q, K78q⟩ := hQ78
      have w78 : (fn6 Z b67 (0 : Int32) ((0 : Int32) &&& 1)) = (0 : Int32) := by unfold fn6; rw [if_pos (by decide : (0 : Int32) = ((0 : Int32) &&& 1))]; all_goals first | rfl | decide
      rw [w78] at v78
      subst v78
      have N78 := Fr.app N75 N78q
      have O78 := O75.keep K78q all0
      have Kc78 := Kc75.trans K78q all0
      have fx80 := (Nat.le_trans (Nat.le_trans (Nat.le_refl _) K75q.1) K78q.1)
      obtain ⟨fs, hr, hrun, hended, hRW⟩ := Stand.leaveW X78 hSi fx80 (v := some (.int (1 : Int32))) (fun h => by rw [Bd.returns] at h; cases h)
      refine ⟨_, _, pre37 _ ?_, hrun, hended, _, _, rfl, ?_, own_rwmono hRW (by decide) (by decide)⟩
      · show oP p e below s₁ (mkF m 15 #[oI p0, oI p1, oI (0 : Int32), oU, oU, oU, oU, oU, oU] [(.int (p1 &&& (2 : Int32)))]) _
        refine XS.ifNo X0.here hx rfl (hb hby at_15) rfl ((if0 _ _).trans (feq hc38).1) ?_
        show oP p e below s₁ (mkF m 18 #[oI p0, oI p1, oI (0 : Int32), oU, oU, oU, oU, oU, oU] []) _
        refine XS.iconst X0.here hx rfl (hb hby at_18) ?_
        show oP p e below s₁ (mkF m 19 #[oI p0, oI p1, oI (0 : Int32), oU, oU, oU, oU, oU, oU] [(.int (1 : Int32))]) _
        refine XS.goto X0.here hx rfl (pc0 := 19) (pc' := 23) rfl (hb hby at_19) (by decide) (by decide) ?_
        show oP p e below s₁ (mkF m 23 #[oI p0, oI p1, oI (0 : Int32), oU, oU, oU, oU, oU, oU] [(.int (1 : Int32))]) _
        refine XS.istoreN X0.here hx rfl (hb hby at_23) rfl (l' := #[oI p0, oI p1, oI (0 : Int32), oI (1 : Int32), oU, oU, oU, oU, oU]) rfl ?_
        show oP p e below s₁ (mkF m 24 #[oI p0, oI p1, oI (0 : Int32), oI (1 : Int32), oU, oU, oU, oU, oU] []) _
        refine st60 _ ?_
        show oP p e below T60 (mkF m 27 #[oI p0, oI p1, oI (0 : Int32), oI (1 : Int32), oU, oU, oU, oU, oU] [(.ref b60)]) _
        refine XS.dup X60.here hx rfl (hb hby at_27) rfl rfl ?_
        show oP p e below T60 (mkF m 28 #[oI p0, oI p1, oI (0 : Int32), oI (1 : Int32), oU, oU, oU, oU, oU] [(.ref b60), (.ref b60)]) _
        refine XS.iloadN X60.here hx rfl (hb hby at_28) rfl ?_
        show oP p e below T60 (mkF m 29 #[oI p0, oI p1, oI (0 : Int32), oI (1 : Int32), oU, oU, oU, oU, oU] [(.int p0), (.ref b60), (.ref b60)]) _
        refine st61 _ ?_
        show oP p e below T61 (mkF m 32 #[oI p0, oI p1, oI (0 : Int32), oI (1 : Int32), oU, oU, oU, oU, oU] [(.ref b_61), (.ref b60), (.ref b60)]) _
        refine XS.iloadN X61.here hx rfl (hb hby at_32) rfl ?_
        show oP p e below T61 (mkF m 33 #[oI p0, oI p1, oI (0 : Int32), oI (1 : Int32), oU, oU, oU, oU, oU] [(.int (1 : Int32)), (.ref b_61), (.ref b60), (.ref b60)]) _
        refine st62.trans ?_
        show oP p e below T62 (mkF m 36 #[oI p0, oI p1, oI (0 : Int32), oI (1 : Int32), oU, oU, oU, oU, oU] [(.ref b60)]) _
        refine XS.astore X62.here hx rfl (hb hby at_36) rfl rfl (l' := #[oI p0, oI p1, oI (0 : Int32), oI (1 : Int32), oR b60, oU, oU, oU, oU]) rfl ?_
        show oP p e below T62 (mkF m 38 #[oI p0, oI p1, oI (0 : Int32), oI (1 : Int32), oR b60, oU, oU, oU, oU] []) _
        refine st67 _ ?_
        show oP p e below T67 (mkF m 41 #[oI p0, oI p1, oI (0 : Int32), oI (1 : Int32), oR b60, oU, oU, oU, oU] [(.ref b67)]) _
        refine XS.dup X67.here hx rfl (hb hby at_41) rfl rfl ?_
        show oP p e below T67 (mkF m 42 #[oI p0, oI p1, oI (0 : Int32), oI (1 : Int32), oR b60, oU, oU, oU, oU] [(.ref b67), (.ref b67)]) _
        refine XS.iloadN X67.here hx rfl (hb hby at_42) rfl ?_
        show oP p e below T67 (mkF m 43 #[oI p0, oI p1, oI (0 : Int32), oI (1 : Int32), oR b60, oU, oU, oU, oU] [(.int p0), (.ref b67), (.ref b67)]) _
        refine st68 _ ?_
        show oP p e below T68 (mkF m 46 #[oI p0, oI p1, oI (0 : Int32), oI (1 : Int32), oR b60, oU, oU, oU, oU] [(.ref b_68), (.ref b67), (.ref b67)]) _
        refine XS.iloadN X68.here hx rfl (hb hby at_46) rfl ?_
        show oP p e below T68 (mkF m 47 #[oI p0, oI p1, oI (0 : Int32), oI (1 : Int32), oR b60, oU, oU, oU, oU] [(.int (1 : Int32)), (.ref b_68), (.ref b67), (.ref b67)]) _
        refine XS.ifYes X68.here hx rfl (pc0 := 47) (pc' := 54) rfl (hb hby at_47) rfl ((if0 _ _).trans (feq (by decide : ¬ ((1 : Int32) = (0 : Int32)))).2) (by decide) (by decide) ?_
        show oP p e below T68 (mkF m 54 #[oI p0, oI p1, oI (0 : Int32), oI (1 : Int32), oR b60, oU, oU, oU, oU] [(.ref b_68), (.ref b67), (.ref b67)]) _
        refine XS.iconst X68.here hx rfl (hb hby at_54) ?_
        show oP p e below T68 (mkF m 55 #[oI p0, oI p1, oI (0 : Int32), oI (1 : Int32), oR b60, oU, oU, oU, oU] [(.int (0 : Int32)), (.ref b_68), (.ref b67), (.ref b67)]) _
        refine st69.trans ?_
        show oP p e below T69 (mkF m 58 #[oI p0, oI p1, oI (0 : Int32), oI (1 : Int32), oR b60, oU, oU, oU, oU] [(.ref b67)]) _
        refine XS.astore X69.here hx rfl (hb hby at_58) rfl rfl (l' := #[oI p0, oI p1, oI (0 : Int32), oI (1 : Int32), oR b60, oR b67, oU, oU, oU]) rfl ?_
        show oP p e below T69 (mkF m 60 #[oI p0, oI p1, oI (0 : Int32), oI (1 : Int32), oR b60, oR b67, oU, oU, oU] []) _
        refine XS.aload X69.here hx rfl (hb hby at_60) rfl rfl ?_
        show oP p e below T69 (mkF m 62 #[oI p0, oI p1, oI (0 : Int32), oI (1 : Int32), oR b60, oR b67, oU, oU, oU] [(.ref b60)]) _
        refine XS.iloadN X69.here hx rfl (hb hby at_62) rfl ?_
        show oP p e below T69 (mkF m 63 #[oI p0, oI p1, oI (0 : Int32), oI (1 : Int32), oR b60, oR b67, oU, oU, oU] [(.int (0 : Int32)), (.ref b60)]) _
        refine st75.trans ?_
        show oP p e below T75 (mkF m 66 #[oI p0, oI p1, oI (0 : Int32), oI (1 : Int32), oR b60, oR b67, oU, oU, oU] [(.int (1 : Int32))]) _
        refine XS.istore X75.here hx rfl (hb hby at_66) rfl (l' := #[oI p0, oI p1, oI (0 : Int32), oI (1 : Int32), oR b60, oR b67, oI (1 : Int32), oU, oU]) rfl ?_
        show oP p e below T75 (mkF m 68 #[oI p0, oI p1, oI (0 : Int32), oI (1 : Int32), oR b60, oR b67, oI (1 : Int32), oU, oU] []) _
        refine XS.aload X75.here hx rfl (hb hby at_68) rfl rfl ?_
        show oP p e below T75 (mkF m 70 #[oI p0, oI p1, oI (0 : Int32), oI (1 : Int32), oR b60, oR b67, oI (1 : Int32), oU, oU] [(.ref b67)]) _
        refine XS.iloadN X75.here hx rfl (hb hby at_70) rfl ?_
        show oP p e below T75 (mkF m 71 #[oI p0, oI p1, oI (0 : Int32), oI (1 : Int32), oR b60, oR b67, oI (1 : Int32), oU, oU] [(.int (0 : Int32)), (.ref b67)]) _
        refine st78.trans ?_
        show oP p e below T78 (mkF m 74 #[oI p0, oI p1, oI (0 : Int32), oI (1 : Int32), oR b60, oR b67, oI (1 : Int32), oU, oU] [(.int (0 : Int32))]) _
        refine XS.istore X78.here hx rfl (hb hby at_74) rfl (l' := #[oI p0, oI p1, oI (0 : Int32), oI (1 : Int32), oR b60, oR b67, oI (1 : Int32), oI (0 : Int32), oU]) rfl ?_
        show oP p e below T78 (mkF m 76 #[oI p0, oI p1, oI (0 : Int32), oI (1 : Int32), oR b60, oR b67, oI (1 : Int32), oI (0 : Int32), oU] []) _
        refine XS.iloadN X78.here hx rfl (hb hby at_76) rfl ?_
        show oP p e below T78 (mkF m 77 #[oI p0, oI p1, oI (0 : Int32), oI (1 : Int32), oR b60, oR b67, oI (1 : Int32), oI (0 : Int32), oU] [(.int (1 : Int32))]) _
        refine XS.ifNo X78.here hx rfl (hb hby at_77) rfl ((if0 _ _).trans (feq (by decide : ¬ ((1 : Int32) = (0 : Int32)))).1) ?_
        show oP p e below T78 (mkF m 80 #[oI p0, oI p1, oI (0 : Int32), oI (1 : Int32), oR b60, oR b67, oI (1 : Int32), oI (0 : Int32), oU] []) _
        refine XS.iloadN X78.here hx rfl (hb hby at_80) rfl ?_
        show oP p e below T78 (mkF m 81 #[oI p0, oI p1, oI (0 : Int32), oI (1 : Int32), oR b60, oR b67, oI (1 : Int32), oI (0 : Int32), oU] [(.int (0 : Int32))]) _
        refine XS.ifNo X78.here hx rfl (hb hby at_81) rfl ((if0 _ _).trans (teq (by decide : (0 : Int32) = (0 : Int32))).2) ?_
        show oP p e below T78 (mkF m 84 #[oI p0, oI p1, oI (0 : Int32), oI (1 : Int32), oR b60, oR b67, oI (1 : Int32), oI (0 : Int32), oU] []) _
        refine XS.iconst X78.here hx rfl (hb hby at_84) ?_
        show oP p e below T78 (mkF m 85 #[oI p0, oI p1, oI (0 : Int32), oI (1 : Int32), oR b60, oR b67, oI (1 : Int32), oI (0 : Int32), oU] [(.int (1 : Int32))]) _
        refine XS.goto X78.here hx rfl (pc0 := 85) (pc' := 89) rfl (hb hby at_85) (by decide) (by decide) ?_
        show oP p e below T78 (mkF m 89 #[oI p0, oI p1, oI (0 : Int32), oI (1 : Int32), oR b60, oR b67, oI (1 : Int32), oI (0 : Int32), oU] [(.int (1 : Int32))]) _
        refine XS.istore X78.here hx rfl (hb hby at_89) rfl (l' := #[oI p0, oI p1, oI (0 : Int32), oI (1 : Int32), oR b60, oR b67, oI (1 : Int32), oI (0 : Int32), oI (1 : Int32)]) rfl ?_
        show oP p e below T78 (mkF m 91 #[oI p0, oI p1, oI (0 : Int32), oI (1 : Int32), oR b60, oR b67, oI (1 : Int32), oI (0 : Int32), oI (1 : Int32)] []) _
        refine XS.goto X78.here hx rfl (pc0 := 91) (pc' := 97) rfl (hb hby at_91) (by decide) (by decide) ?_
        show oP p e below T78 (mkF m 97 #[oI p0, oI p1, oI (0 : Int32), oI (1 : Int32), oR b60, oR b67, oI (1 : Int32), oI (0 : Int32), oI (1 : Int32)] []) _
        refine XS.iload X78.here hx rfl (hb hby at_97) rfl ?_
        show oP p e below T78 (mkF m 99 #[oI p0, oI p1, oI (0 : Int32), oI (1 : Int32), oR b60, oR b67, oI (1 : Int32), oI (0 : Int32), oI (1 : Int32)] [(.int (1 : Int32))]) _
        refine XS.iload X78.here hx rfl (hb hby at_99) rfl ?_
        show oP p e below T78 (mkF m 101 #[oI p0, oI p1, oI (0 : Int32), oI (1 : Int32), oR b60, oR b67, oI (1 : Int32), oI (0 : Int32), oI (1 : Int32)] [(.int (1 : Int32)), (.int (1 : Int32))]) _
        refine XS.icmpNo X78.here hx rfl (hb hby at_101) rfl (teq (by decide : (1 : Int32) = (1 : Int32))).2 ?_
        show oP p e below T78 (mkF m 104 #[oI p0, oI p1, oI (0 : Int32), oI (1 : Int32), oR b60, oR b67, oI (1 : Int32), oI (0 : Int32), oI (1 : Int32)] []) _
        refine XS.iload X78.here hx rfl (hb hby at_104) rfl ?_
        show oP p e below T78 (mkF m 106 #[oI p0, oI p1, oI (0 : Int32), oI (1 : Int32), oR b60, oR b67, oI (1 : Int32), oI (0 : Int32), oI (1 : Int32)] [(.int (0 : Int32))]) _
        refine XS.iload X78.here hx rfl (hb hby at_106) rfl ?_
        show oP p e below T78 (mkF m 108 #[oI p0, oI p1, oI (0 : Int32), oI (1 : Int32), oR b60, oR b67, oI (1 : Int32), oI (0 : Int32), oI (1 : Int32)] [(.int (1 : Int32)), (.int (0 : Int32))]) _
        refine XS.icmpNo X78.here hx rfl (hb hby at_108) rfl (feq (by decide : ¬ ((0 : Int32) = (1 : Int32)))).1 ?_
        show oP p e below T78 (mkF m 111 #[oI p0, oI p1, oI (0 : Int32), oI (1 : Int32), oR b60, oR b67, oI (1 : Int32), oI (0 : Int32), oI (1 : Int32)] []) _
        refine XS.iconst X78.here hx rfl (hb hby at_111) ?_
        show oP p e below T78 (mkF m 112 #[oI p0, oI p1, oI (0 : Int32), oI (1 : Int32), oR b60, oR b67, oI (1 : Int32), oI (0 : Int32), oI (1 : Int32)] [(.int (1 : Int32))]) _
        refine XS.goto X78.here hx rfl (pc0 := 112) (pc' := 116) rfl (hb hby at_112) (by decide) (by decide) ?_
        show oP p e below T78 (mkF m 116 #[oI p0, oI p1, oI (0 : Int32), oI (1 : Int32), oR b60, oR b67, oI (1 : Int32), oI (0 : Int32), oI (1 : Int32)] [(.int (1 : Int32))]) _
        exact retN X78 hx (t := .boolean) Bd.returns (by simp) (hb hby at_116) hr
      · show (some (.int (1 : Int32)) : Option Value) = some (.int (1 : Int32)) ∧ Fr n0 _ ∧ Keep h0 T78.heap []
        exact ⟨rfl, N78, Kc78⟩
  · have pre81 : ∀ t, oP p e below s₁ (mkF m 15 #[oI p0, oI p1, oI (1 : Int32), oU, oU, oU, oU, oU, oU] [(.int (p1 &&& (2 : Int32)))]) t → oP p e below s₁ (entryFrame m #[(.int p0), (.int p1)] maxLocals) t := fun t k => pre35 t (by
      show oP p e below s₁ (mkF m 3 #[oI p0, oI p1, oU, oU, oU, oU, oU, oU, oU] [(.int (p1 &&& (1 : Int32)))]) _
      refine XS.ifNo X0.here hx rfl (hb hby at_3) rfl ((if0 _ _).trans (feq hc36).1) ?_
      show oP p e below s₁ (mkF m 6 #[oI p0, oI p1, oU, oU, oU, oU, oU, oU, oU] []) _
      refine XS.iconst X0.here hx rfl (hb hby at_6) ?_
      show oP p e below s₁ (mkF m 7 #[oI p0, oI p1, oU, oU, oU, oU, oU, oU, oU] [(.int (1 : Int32))]) _
      refine XS.goto X0.here hx rfl (pc0 := 7) (pc' := 11) rfl (hb hby at_7) (by decide) (by decide) ?_
      show oP p e below s₁ (mkF m 11 #[oI p0, oI p1, oU, oU, oU, oU, oU, oU, oU] [(.int (1 : Int32))]) _
      refine XS.istoreN X0.here hx rfl (hb hby at_11) rfl (l' := #[oI p0, oI p1, oI (1 : Int32), oU, oU, oU, oU, oU, oU]) rfl ?_
      show oP p e below s₁ (mkF m 12 #[oI p0, oI p1, oI (1 : Int32), oU, oU, oU, oU, oU, oU] []) _
      refine XS.iloadN X0.here hx rfl (hb hby at_12) rfl ?_
      show oP p e below s₁ (mkF m 13 #[oI p0, oI p1, oI (1 : Int32), oU, oU, oU, oU, oU, oU] [(.int p1)]) _
      refine XS.iconst X0.here hx rfl (hb hby at_13) ?_
      show oP p e below s₁ (mkF m 14 #[oI p0, oI p1, oI (1 : Int32), oU, oU, oU, oU, oU, oU] [(.int (2 : Int32)), (.int p1)]) _
      refine XS.iand X0.here hx rfl (hb hby at_14) rfl ?_
      exact k)
    by_cases hc82 : (p1 &&& (2 : Int32)) = (0 : Int32)
    · obtain ⟨T83, h83, X83, e83, E83, A83, D83, -, st83⟩ := newO X0 hx hZ hown (hw _ (List.mem_of_getElem? (i := 0) rfl)) (hw _ (List.mem_of_getElem? (i := 1) rfl)) (hw _ (List.mem_of_getElem? (i := 2) rfl)) e0 (g := (mkF m 24 #[oI p0, oI p1, oI (1 : Int32), oI (0 : Int32), oU, oU, oU, oU, oU] [])) rfl (hb hby at_24) (by decide) (by decide)
      obtain ⟨b83, g83⟩ : ∃ z, z = h0.size := ⟨_, rfl⟩
      have g_b83 : n0 ≤ b83 := Nat.le_trans (own_old_le O0) (Nat.le_of_eq g83.symm)
      have sz_b83 : h0.size ≤ b83 := Nat.le_trans (Keep.refl h0 []).1 (Nat.le_of_eq g83.symm)
      rw [← g83] at A83 D83 st83
      have O83 := O0.ext E83
      have Kc83 := (Keep.refl h0 []).ext E83
      have F_named_b83 : Fld Z h83 b83 "com/example/menshen/menshen/policy/Scope" "named" "Ljava/lang/Object;" .null := D83 (Or.inr (hw _ (List.mem_of_getElem? (i := 34) rfl))) (ty := (.object "java/lang/Object")) (by decide)
      have F_negated_b83 : Fld Z h83 b83 "com/example/menshen/menshen/policy/Scope" "negated" "Z" (.int (0 : Int32)) := D83 (Or.inr (hw _ (List.mem_of_getElem? (i := 36) rfl))) (ty := .boolean) (by decide)
      obtain ⟨_, _, ⟨T84, L84, k84, n84⟩, -, X84, ⟨Lc84, hQ84, l84, y84, z84⟩, st84⟩ := Jvm.LawKit.callS X83 hx (y := (⟨"java/lang/Integer", "valueOf", "(I)Ljava/lang/Integer;"⟩ : MethodName)) hown (mvT hZ (hw _ (List.mem_of_getElem? (i := 3) rfl))) (mvT hZ (hw _ (List.mem_of_getElem? (i := 4) rfl))) (mvT hZ (hw _ (List.mem_of_getElem? (i := 5) rfl))) (mvT hZ (hw _ (List.mem_of_getElem? (i := 6) rfl))) (by decide) (backOf (W := 2) (rm1 l Z a0 hw hS [] p0 h83 n0 O83 ) hZ (hw _ (List.mem_of_getElem? (i := 6) rfl)) (hw _ (List.mem_of_getElem? (i := 5) rfl)) (by decide) (by decide)) (g := (mkF m 29 #[oI p0, oI p1, oI (1 : Int32), oI (0 : Int32), oU, oU, oU, oU, oU] [(.int p0), (.ref b83), (.ref b83)])) rfl (by rw [hml]; rfl) (argsL := [(.int p0)]) (rest := [(.ref b83), (.ref b83)]) (lenOf pd_3 rfl) rfl (by show 2 * 0 + _ ≤ _; exact Nat.le_of_eq rfl) (hb hby at_29) (fun _ _ => ⟨rfl, e83, (by decide : 1 + 1 ≤ _), (by decide : 2 + 1 ≤ _)⟩)
      dsimp only [Pt.U, Pt.locs, Pt.cells, Pt.slots] at X84 l84 y84 z84 st84 hQ84
      subst l84 y84 z84
      obtain ⟨b_84, v84, N84q, K84q, po84_0⟩ := hQ84
      subst v84
      have N84 := Fr.app N0 N84q
      have O84 := O83.keep K84q all0
      have Kc84 := Kc83.trans K84q all0
      have fx86 := (A83.keep K84q)
      have fx87 := (F_named_b83.keep K84q nin0)
      have fx88 := (F_negated_b83.keep K84q nin0)
      have fx89 := (Nat.le_trans (Nat.le_trans hki0 E83.1) K84q.1)
      obtain ⟨_, _, ⟨T85, L85, k85, n85⟩, -, X85, hsi85, hge85, ⟨Lc85, hQ85, l85, y85, z85⟩, st85⟩ := X84.specialBackS hx (y := (⟨"com/example/menshen/menshen/policy/Scope", "<init>", "(Ljava/lang/Object;Z)V"⟩ : MethodName)) rfl hown (mvT hZ (hw _ (List.mem_of_getElem? (i := 10) rfl))) (mvT hZ (hw _ (List.mem_of_getElem? (i := 11) rfl))) (mvT hZ (hw _ (List.mem_of_getElem? (i := 12) rfl))) (by decide) (backOfS (W := 1) (rm2 l Z a0 hw hS [] b83 b_84 (0 : Int32) T84.heap n0 O84 fx86 fx87 fx88 g_b83) hZ (hw _ (List.mem_of_getElem? (i := 12) rfl)) (hw _ (List.mem_of_getElem? (i := 2) rfl)) (by decide) (by decide)) (g := (mkF m 33 #[oI p0, oI p1, oI (1 : Int32), oI (0 : Int32), oU, oU, oU, oU, oU] [(.int (0 : Int32)), (.ref b_84), (.ref b83), (.ref b83)])) rfl (by rw [hml]; rfl) (Steps.refl _) (a := b83) (argsL := [(.ref b_84), (.int (0 : Int32))]) (rest := [(.ref b83)]) (lenOf pd_4 rfl) rfl (by show 2 * 0 + _ ≤ _; exact Nat.le_of_eq rfl) (hb hby at_33) (fun _ _ => ⟨rfl, rfl, (by decide : 2 + 2 ≤ _), (by decide : 3 + 24 ≤ _)⟩)
      dsimp only [Pt.U, Pt.locs, Pt.cells, Pt.slots] at X85 l85 y85 z85 st85 hQ85 hsi85 hge85
      subst l85 y85 z85
      obtain ⟨X85, hSi, hZ, hown⟩ := rebS hSi fx89 X85 hsi85 hge85 hZ hown
      obtain ⟨v85, N85q, K85q, po85_0, po85_1, po85_2⟩ := hQ85
      subst v85
      have N85 := Fr.app N84 N85q
      have O85 := O84.keep K85q (allS g_b83 all0)
      have Kc85 := Kc84.trans K85q (allS (Or.inr sz_b83) all0)
      obtain ⟨T90, h90, X90, e90, E90, A90, D90, -, st90⟩ := newO X85 hx hZ hown (hw _ (List.mem_of_getElem? (i := 0) rfl)) (hw _ (List.mem_of_getElem? (i := 1) rfl)) (hw _ (List.mem_of_getElem? (i := 2) rfl)) rfl (g := (mkF m 38 #[oI p0, oI p1, oI (1 : Int32), oI (0 : Int32), oR b83, oU, oU, oU, oU] [])) rfl (hb hby at_38) (by decide) (by decide)
      obtain ⟨b90, g90⟩ : ∃ z, z = T85.heap.size := ⟨_, rfl⟩
      have g_b90 : n0 ≤ b90 := Nat.le_trans (own_old_le O85) (Nat.le_of_eq g90.symm)
      have sz_b90 : h0.size ≤ b90 := Nat.le_trans Kc85.1 (Nat.le_of_eq g90.symm)
      have ne_b83_b90 : b83 ≠ b90 := Nat.ne_of_lt (Nat.lt_of_lt_of_le po85_0.lt (Nat.le_of_eq g90.symm))
      rw [← g90] at A90 D90 st90
      have O90 := O85.ext E90
      have Kc90 := Kc85.ext E90
      have F_named_b90 : Fld Z h90 b90 "com/example/menshen/menshen/policy/Scope" "named" "Ljava/lang/Object;" .null := D90 (Or.inr (hw _ (List.mem_of_getElem? (i := 34) rfl))) (ty := (.object "java/lang/Object")) (by decide)
      have F_negated_b90 : Fld Z h90 b90 "com/example/menshen/menshen/policy/Scope" "negated" "Z" (.int (0 : Int32)) := D90 (Or.inr (hw _ (List.mem_of_getElem? (i := 36) rfl))) (ty := .boolean) (by decide)
      obtain ⟨_, _, ⟨T91, L91, k91, n91⟩, -, X91, ⟨Lc91, hQ91, l91, y91, z91⟩, st91⟩ := Jvm.LawKit.callS X90 hx (y := (⟨"java/lang/Integer", "valueOf", "(I)Ljava/lang/Integer;"⟩ : MethodName)) hown (mvT hZ (hw _ (List.mem_of_getElem? (i := 3) rfl))) (mvT hZ (hw _ (List.mem_of_getElem? (i := 4) rfl))) (mvT hZ (hw _ (List.mem_of_getElem? (i := 5) rfl))) (mvT hZ (hw _ (List.mem_of_getElem? (i := 6) rfl))) (by decide) (backOf (W := 2) (rm1 l Z a0 hw hS [] p0 h90 n0 O90 ) hZ (hw _ (List.mem_of_getElem? (i := 6) rfl)) (hw _ (List.mem_of_getElem? (i := 5) rfl)) (by decide) (by decide)) (g := (mkF m 43 #[oI p0, oI p1, oI (1 : Int32), oI (0 : Int32), oR b83, oU, oU, oU, oU] [(.int p0), (.ref b90), (.ref b90)])) rfl (by rw [hml]; rfl) (argsL := [(.int p0)]) (rest := [(.ref b90), (.ref b90)]) (lenOf pd_3 rfl) rfl (by show 2 * 0 + _ ≤ _; exact Nat.le_of_eq rfl) (hb hby at_43) (fun _ _ => ⟨rfl, e90, (by decide : 5 + 1 ≤ _), (by decide : 29 + 1 ≤ _)⟩)
      dsimp only [Pt.U, Pt.locs, Pt.cells, Pt.slots] at X91 l91 y91 z91 st91 hQ91
      subst l91 y91 z91
      obtain ⟨b_91, v91, N91q, K91q, po91_0⟩ := hQ91
      subst v91
      have N91 := Fr.app N85 N91q
      have O91 := O90.keep K91q all0
      have Kc91 := Kc90.trans K91q all0
      have fx93 := (A90.keep K91q)
      have fx94 := (F_named_b90.keep K91q nin0)
      have fx95 := (F_negated_b90.keep K91q nin0)
      have fx96 := (Nat.le_trans (Nat.le_trans (Nat.le_refl _) E90.1) K91q.1)
      obtain ⟨_, _, ⟨T92, L92, k92, n92⟩, -, X92, hsi92, hge92, ⟨Lc92, hQ92, l92, y92, z92⟩, st92⟩ := X91.specialBackS hx (y := (⟨"com/example/menshen/menshen/policy/Scope", "<init>", "(Ljava/lang/Object;Z)V"⟩ : MethodName)) rfl hown (mvT hZ (hw _ (List.mem_of_getElem? (i := 10) rfl))) (mvT hZ (hw _ (List.mem_of_getElem? (i := 11) rfl))) (mvT hZ (hw _ (List.mem_of_getElem? (i := 12) rfl))) (by decide) (backOfS (W := 1) (rm2 l Z a0 hw hS [] b90 b_91 (1 : Int32) T91.heap n0 O91 fx93 fx94 fx95 g_b90) hZ (hw _ (List.mem_of_getElem? (i := 12) rfl)) (hw _ (List.mem_of_getElem? (i := 2) rfl)) (by decide) (by decide)) (g := (mkF m 55 #[oI p0, oI p1, oI (1 : Int32), oI (0 : Int32), oR b83, oU, oU, oU, oU] [(.int (1 : Int32)), (.ref b_91), (.ref b90), (.ref b90)])) rfl (by rw [hml]; rfl) (Steps.refl _) (a := b90) (argsL := [(.ref b_91), (.int (1 : Int32))]) (rest := [(.ref b90)]) (lenOf pd_4 rfl) rfl (by show 2 * 0 + _ ≤ _; exact Nat.le_of_eq rfl) (hb hby at_55) (fun _ _ => ⟨rfl, rfl, (by decide : 6 + 2 ≤ _), (by decide : 30 + 24 ≤ _)⟩)
      dsimp only [Pt.U, Pt.locs, Pt.cells, Pt.slots] at X92 l92 y92 z92 st92 hQ92 hsi92 hge92
      subst l92 y92 z92
      obtain ⟨X92, hSi, hZ, hown⟩ := rebS hSi fx96 X92 hsi92 hge92 hZ hown
      obtain ⟨v92, N92q, K92q, po92_0, po92_1, po92_2⟩ := hQ92
      subst v92
      have N92 := Fr.app N91 N92q
      have O92 := O91.keep K92q (allS g_b90 all0)
      have Kc92 := Kc91.trans K92q (allS (Or.inr sz_b90) all0)
      have fx97 := (((po85_0.ext E90).keep K91q).keep K92q)
      have fx99 := (((po85_2.ext E90).keep K91q nin0).keep K92q (ninS ne_b83_b90 nin0))
      obtain ⟨cq98, kq98, q98a, q98b, q98c⟩ := isOf hZ rfl fx97
      obtain ⟨_, _, ⟨T98, L98, k98, n98⟩, -, X98, ⟨Lc98, hQ98, l98, y98, z98⟩, st98⟩ := X92.virtualBack hx (y := (⟨"com/example/menshen/menshen/policy/Scope", "takesIn", "(Z)Z"⟩ : MethodName)) (z := (⟨"com/example/menshen/menshen/policy/Scope", "takesIn", "(Z)Z"⟩ : MethodName)) hown (mvT hZ (hw _ (List.mem_of_getElem? (i := 37) rfl))) (mvT hZ (hw _ (List.mem_of_getElem? (i := 38) rfl))) (notFace_of_selects (args := #[]) (mvT hZ (hw _ (List.mem_of_getElem? (i := 40) rfl)))) (mvT hZ (hw _ (List.mem_of_getElem? (i := 40) rfl))) (mvT hZ (hw _ (List.mem_of_getElem? (i := 39) rfl))) (by decide) (backOf (W := 0) (rm6 l Z a0 hw hS [] b83 (1 : Int32) ((0 : Int32) &&& 1) T92.heap n0 O92 fx99) hZ (hw _ (List.mem_of_getElem? (i := 41) rfl)) (hw _ (List.mem_of_getElem? (i := 2) rfl)) (by decide) (by decide)) q98a q98c (g := (mkF m 63 #[oI p0, oI p1, oI (1 : Int32), oI (0 : Int32), oR b83, oR b90, oU, oU, oU] [(.int (1 : Int32)), (.ref b83)])) rfl (by rw [hml]; rfl) (Steps.refl _) (argsL := [(.int (1 : Int32))]) (rest := []) (lenOf pd_5 rfl) rfl (by show 2 * 0 + _ ≤ _; exact Nat.le_of_eq rfl) (hb hby at_63) (fun _ _ => ⟨rfl, rfl, (by decide : 8 + 0 ≤ _), (by decide : 54 + 0 ≤ _)⟩)
      dsimp only [Pt.U, Pt.locs, Pt.cells, Pt.slots] at X98 l98 y98 z98 st98 hQ98
      subst l98 y98 z98
      obtain ⟨v98, N98q, K98q⟩ := hQ98
      have w98 : (fn6 Z b83 (1 : Int32) ((0 : Int32) &&& 1)) = (1 : Int32) := by unfold fn6; rw [if_neg (by decide : ¬ ((1 : Int32) = ((0 : Int32) &&& 1)))]; all_goals first | rfl | decide
      rw [w98] at v98
      subst v98
      have N98 := Fr.app N92 N98q
      have O98 := O92.keep K98q all0
      have Kc98 := Kc92.trans K98q all0
      have fx100 := (po92_0.keep K98q)
      have fx102 := (po92_2.keep K98q nin0)
      obtain ⟨cq101, kq101, q101a, q101b, q101c⟩ := isOf hZ rfl fx100
      obtain ⟨_, _, ⟨T101, L101, k101, n101⟩, -, X101, ⟨Lc101, hQ101, l101, y101, z101⟩, st101⟩ := X98.virtualBack hx (y := (⟨"com/example/menshen/menshen/policy/Scope", "takesIn", "(Z)Z"⟩ : MethodName)) (z := (⟨"com/example/menshen/menshen/policy/Scope", "takesIn", "(Z)Z"⟩ : MethodName)) hown (mvT hZ (hw _ (List.mem_of_getElem? (i := 37) rfl))) (mvT hZ (hw _ (List.mem_of_getElem? (i := 38) rfl))) (notFace_of_selects (args := #[]) (mvT hZ (hw _ (List.mem_of_getElem? (i := 40) rfl)))) (mvT hZ (hw _ (List.mem_of_getElem? (i := 40) rfl))) (mvT hZ (hw _ (List.mem_of_getElem? (i := 39) rfl))) (by decide) (backOf (W := 0) (rm6 l Z a0 hw hS [] b90 (1 : Int32) ((1 : Int32) &&& 1) T98.heap n0 O98 fx102) hZ (hw _ (List.mem_of_getElem? (i := 41) rfl)) (hw _ (List.mem_of_getElem? (i := 2) rfl)) (by decide) (by decide)) q101a q101c (g := (mkF m 71 #[oI p0, oI p1, oI (1 : Int32), oI (0 : Int32), oR b83, oR b90, oI (1 : Int32), oU, oU] [(.int (1 : Int32)), (.ref b90)])) rfl (by rw [hml]; rfl) (Steps.refl _) (argsL := [(.int (1 : Int32))]) (rest := []) (lenOf pd_5 rfl) rfl (by show 2 * 0 + _ ≤ _; exact Nat.le_of_eq rfl) (hb hby at_71) (fun _ _ => ⟨rfl, rfl, (by decide : 8 + 0 ≤ _), (by decide : 54 + 0 ≤ _)⟩)
      dsimp only [Pt.U, Pt.locs, Pt.cells, Pt.slots] at X101 l101 y101 z101 st101 hQ101
      subst l101 y101 z101
      obtain ⟨v101, N101q, K101q⟩ := hQ101
      have w101 : (fn6 Z b90 (1 : Int32) ((1 : Int32) &&& 1)) = (0 : Int32) := by unfold fn6; rw [if_pos (by decide : (1 : Int32) = ((1 : Int32) &&& 1))]; all_goals first | rfl | decide
      rw [w101] at v101
      subst v101
      have N101 := Fr.app N98 N101q
      have O101 := O98.keep K101q all0
      have Kc101 := Kc98.trans K101q all0
      have fx103 := (Nat.le_trans (Nat.le_trans (Nat.le_refl _) K98q.1) K101q.1)
      obtain ⟨fs, hr, hrun, hended, hRW⟩ := Stand.leaveW X101 hSi fx103 (v := some (.int (1 : Int32))) (fun h => by rw [Bd.returns] at h; cases h)
      refine ⟨_, _, pre81 _ ?_, hrun, hended, _, _, rfl, ?_, own_rwmono hRW (by decide) (by decide)⟩
      · show oP p e below s₁ (mkF m 15 #[oI p0, oI p1, oI (1 : Int32), oU, oU, oU, oU, oU, oU] [(.int (p1 &&& (2 : Int32)))]) _
        refine XS.ifYes X0.here hx rfl (pc0 := 15) (pc' := 22) rfl (hb hby at_15) rfl ((if0 _ _).trans (teq hc82).1) (by decide) (by decide) ?_
        show oP p e below s₁ (mkF m 22 #[oI p0, oI p1, oI (1 : Int32), oU, oU, oU, oU, oU, oU] []) _
        refine XS.iconst X0.here hx rfl (hb hby at_22) ?_
        show oP p e below s₁ (mkF m 23 #[oI p0, oI p1, oI (1 : Int32), oU, oU, oU, oU, oU, oU] [(.int (0 : Int32))]) _
        refine XS.istoreN X0.here hx rfl (hb hby at_23) rfl (l' := #[oI p0, oI p1, oI (1 : Int32), oI (0 : Int32), oU, oU, oU, oU, oU]) rfl ?_
        show oP p e below s₁ (mkF m 24 #[oI p0, oI p1, oI (1 : Int32), oI (0 : Int32), oU, oU, oU, oU, oU] []) _
        refine st83 _ ?_
        show oP p e below T83 (mkF m 27 #[oI p0, oI p1, oI (1 : Int32), oI (0 : Int32), oU, oU, oU, oU, oU] [(.ref b83)]) _
        refine XS.dup X83.here hx rfl (hb hby at_27) rfl rfl ?_
        show oP p e below T83 (mkF m 28 #[oI p0, oI p1, oI (1 : Int32), oI (0 : Int32), oU, oU, oU, oU, oU] [(.ref b83), (.ref b83)]) _
        refine XS.iloadN X83.here hx rfl (hb hby at_28) rfl ?_
        show oP p e below T83 (mkF m 29 #[oI p0, oI p1, oI (1 : Int32), oI (0 : Int32), oU, oU, oU, oU, oU] [(.int p0), (.ref b83), (.ref b83)]) _
        refine st84 _ ?_
        show oP p e below T84 (mkF m 32 #[oI p0, oI p1, oI (1 : Int32), oI (0 : Int32), oU, oU, oU, oU, oU] [(.ref b_84), (.ref b83), (.ref b83)]) _
        refine XS.iloadN X84.here hx rfl (hb hby at_32) rfl ?_
        show oP p e below T84 (mkF m 33 #[oI p0, oI p1, oI (1 : Int32), oI (0 : Int32), oU, oU, oU, oU, oU] [(.int (0 : Int32)), (.ref b_84), (.ref b83), (.ref b83)]) _
        refine st85.trans ?_
        show oP p e below T85 (mkF m 36 #[oI p0, oI p1, oI (1 : Int32), oI (0 : Int32), oU, oU, oU, oU, oU] [(.ref b83)]) _
        refine XS.astore X85.here hx rfl (hb hby at_36) rfl rfl (l' := #[oI p0, oI p1, oI (1 : Int32), oI (0 : Int32), oR b83, oU, oU, oU, oU]) rfl ?_
        show oP p e below T85 (mkF m 38 #[oI p0, oI p1, oI (1 : Int32), oI (0 : Int32), oR b83, oU, oU, oU, oU] []) _
        refine st90 _ ?_
        show oP p e below T90 (mkF m 41 #[oI p0, oI p1, oI (1 : Int32), oI (0 : Int32), oR b83, oU, oU, oU, oU] [(.ref b90)]) _
        refine XS.dup X90.here hx rfl (hb hby at_41) rfl rfl ?_
        show oP p e below T90 (mkF m 42 #[oI p0, oI p1, oI (1 : Int32), oI (0 : Int32), oR b83, oU, oU, oU, oU] [(.ref b90), (.ref b90)]) _
        refine XS.iloadN X90.here hx rfl (hb hby at_42) rfl ?_
        show oP p e below T90 (mkF m 43 #[oI p0, oI p1, oI (1 : Int32), oI (0 : Int32), oR b83, oU, oU, oU, oU] [(.int p0), (.ref b90), (.ref b90)]) _
        refine st91 _ ?_
        show oP p e below T91 (mkF m 46 #[oI p0, oI p1, oI (1 : Int32), oI (0 : Int32), oR b83, oU, oU, oU, oU] [(.ref b_91), (.ref b90), (.ref b90)]) _
        refine XS.iloadN X91.here hx rfl (hb hby at_46) rfl ?_
        show oP p e below T91 (mkF m 47 #[oI p0, oI p1, oI (1 : Int32), oI (0 : Int32), oR b83, oU, oU, oU, oU] [(.int (0 : Int32)), (.ref b_91), (.ref b90), (.ref b90)]) _
        refine XS.ifNo X91.here hx rfl (hb hby at_47) rfl ((if0 _ _).trans (teq (by decide : (0 : Int32) = (0 : Int32))).2) ?_
        show oP p e below T91 (mkF m 50 #[oI p0, oI p1, oI (1 : Int32), oI (0 : Int32), oR b83, oU, oU, oU, oU] [(.ref b_91), (.ref b90), (.ref b90)]) _
        refine XS.iconst X91.here hx rfl (hb hby at_50) ?_
        show oP p e below T91 (mkF m 51 #[oI p0, oI p1, oI (1 : Int32), oI (0 : Int32), oR b83, oU, oU, oU, oU] [(.int (1 : Int32)), (.ref b_91), (.ref b90), (.ref b90)]) _
        refine XS.goto X91.here hx rfl (pc0 := 51) (pc' := 55) rfl (hb hby at_51) (by decide) (by decide) ?_
        show oP p e below T91 (mkF m 55 #[oI p0, oI p1, oI (1 : Int32), oI (0 : Int32), oR b83, oU, oU, oU, oU] [(.int (1 : Int32)), (.ref b_91), (.ref b90), (.ref b90)]) _
        refine st92.trans ?_
        show oP p e below T92 (mkF m 58 #[oI p0, oI p1, oI (1 : Int32), oI (0 : Int32), oR b83, oU, oU, oU, oU] [(.ref b90)]) _
        refine XS.astore X92.here hx rfl (hb hby at_58) rfl rfl (l' := #[oI p0, oI p1, oI (1 : Int32), oI (0 : Int32), oR b83, oR b90, oU, oU, oU]) rfl ?_
        show oP p e below T92 (mkF m 60 #[oI p0, oI p1, oI (1 : Int32), oI (0 : Int32), oR b83, oR b90, oU, oU, oU] []) _
        refine XS.aload X92.here hx rfl (hb hby at_60) rfl rfl ?_
        show oP p e below T92 (mkF m 62 #[oI p0, oI p1, oI (1 : Int32), oI (0 : Int32), oR b83, oR b90, oU, oU, oU] [(.ref b83)]) _
        refine XS.iloadN X92.here hx rfl (hb hby at_62) rfl ?_
        show oP p e below T92 (mkF m 63 #[oI p0, oI p1, oI (1 : Int32), oI (0 : Int32), oR b83, oR b90, oU, oU, oU] [(.int (1 : Int32)), (.ref b83)]) _
        refine st98.trans ?_
        show oP p e below T98 (mkF m 66 #[oI p0, oI p1, oI (1 : Int32), oI (0 : Int32), oR b83, oR b90, oU, oU, oU] [(.int (1 : Int32))]) _
        refine XS.istore X98.here hx rfl (hb hby at_66) rfl (l' := #[oI p0, oI p1, oI (1 : Int32), oI (0 : Int32), oR b83, oR b90, oI (1 : Int32), oU, oU]) rfl ?_
        show oP p e below T98 (mkF m 68 #[oI p0, oI p1, oI (1 : Int32), oI (0 : Int32), oR b83, oR b90, oI (1 : Int32), oU, oU] []) _
        refine XS.aload X98.here hx rfl (hb hby at_68) rfl rfl ?_
        show oP p e below T98 (mkF m 70 #[oI p0, oI p1, oI (1 : Int32), oI (0 : Int32), oR b83, oR b90, oI (1 : Int32), oU, oU] [(.ref b90)]) _
        refine XS.iloadN X98.here hx rfl (hb hby at_70) rfl ?_
        show oP p e below T98 (mkF m 71 #[oI p0, oI p1, oI (1 : Int32), oI (0 : Int32), oR b83, oR b90, oI (1 : Int32), oU, oU] [(.int (1 : Int32)), (.ref b90)]) _
        refine st101.trans ?_
        show oP p e below T101 (mkF m 74 #[oI p0, oI p1, oI (1 : Int32), oI (0 : Int32), oR b83, oR b90, oI (1 : Int32), oU, oU] [(.int (0 : Int32))]) _
        refine XS.istore X101.here hx rfl (hb hby at_74) rfl (l' := #[oI p0, oI p1, oI (1 : Int32), oI (0 : Int32), oR b83, oR b90, oI (1 : Int32), oI (0 : Int32), oU]) rfl ?_
        show oP p e below T101 (mkF m 76 #[oI p0, oI p1, oI (1 : Int32), oI (0 : Int32), oR b83, oR b90, oI (1 : Int32), oI (0 : Int32), oU] []) _
        refine XS.iloadN X101.here hx rfl (hb hby at_76) rfl ?_
        show oP p e below T101 (mkF m 77 #[oI p0, oI p1, oI (1 : Int32), oI (0 : Int32), oR b83, oR b90, oI (1 : Int32), oI (0 : Int32), oU] [(.int (0 : Int32))]) _
        refine XS.ifYes X101.here hx rfl (pc0 := 77) (pc' := 94) rfl (hb hby at_77) rfl ((if0 _ _).trans (teq (by decide : (0 : Int32) = (0 : Int32))).1) (by decide) (by decide) ?_
        show oP p e below T101 (mkF m 94 #[oI p0, oI p1, oI (1 : Int32), oI (0 : Int32), oR b83, oR b90, oI (1 : Int32), oI (0 : Int32), oU] []) _
        refine XS.iloadN X101.here hx rfl (hb hby at_94) rfl ?_
        show oP p e below T101 (mkF m 95 #[oI p0, oI p1, oI (1 : Int32), oI (0 : Int32), oR b83, oR b90, oI (1 : Int32), oI (0 : Int32), oU] [(.int (1 : Int32))]) _
        refine XS.istore X101.here hx rfl (hb hby at_95) rfl (l' := #[oI p0, oI p1, oI (1 : Int32), oI (0 : Int32), oR b83, oR b90, oI (1 : Int32), oI (0 : Int32), oI (1 : Int32)]) rfl ?_
        show oP p e below T101 (mkF m 97 #[oI p0, oI p1, oI (1 : Int32), oI (0 : Int32), oR b83, oR b90, oI (1 : Int32), oI (0 : Int32), oI (1 : Int32)] []) _
        refine XS.iload X101.here hx rfl (hb hby at_97) rfl ?_
        show oP p e below T101 (mkF m 99 #[oI p0, oI p1, oI (1 : Int32), oI (0 : Int32), oR b83, oR b90, oI (1 : Int32), oI (0 : Int32), oI (1 : Int32)] [(.int (1 : Int32))]) _
        refine XS.iload X101.here hx rfl (hb hby at_99) rfl ?_
        show oP p e below T101 (mkF m 101 #[oI p0, oI p1, oI (1 : Int32), oI (0 : Int32), oR b83, oR b90, oI (1 : Int32), oI (0 : Int32), oI (1 : Int32)] [(.int (1 : Int32)), (.int (1 : Int32))]) _
        refine XS.icmpNo X101.here hx rfl (hb hby at_101) rfl (teq (by decide : (1 : Int32) = (1 : Int32))).2 ?_
        show oP p e below T101 (mkF m 104 #[oI p0, oI p1, oI (1 : Int32), oI (0 : Int32), oR b83, oR b90, oI (1 : Int32), oI (0 : Int32), oI (1 : Int32)] []) _
        refine XS.iload X101.here hx rfl (hb hby at_104) rfl ?_
        show oP p e below T101 (mkF m 106 #[oI p0, oI p1, oI (1 : Int32), oI (0 : Int32), oR b83, oR b90, oI (1 : Int32), oI (0 : Int32), oI (1 : Int32)] [(.int (0 : Int32))]) _
        refine XS.iload X101.here hx rfl (hb hby at_106) rfl ?_
        show oP p e below T101 (mkF m 108 #[oI p0, oI p1, oI (1 : Int32), oI (0 : Int32), oR b83, oR b90, oI (1 : Int32), oI (0 : Int32), oI (1 : Int32)] [(.int (1 : Int32)), (.int (0 : Int32))]) _
        refine XS.icmpNo X101.here hx rfl (hb hby at_108) rfl (feq (by decide : ¬ ((0 : Int32) = (1 : Int32)))).1 ?_
        show oP p e below T101 (mkF m 111 #[oI p0, oI p1, oI (1 : Int32), oI (0 : Int32), oR b83, oR b90, oI (1 : Int32), oI (0 : Int32), oI (1 : Int32)] []) _
        refine XS.iconst X101.here hx rfl (hb hby at_111) ?_
        show oP p e below T101 (mkF m 112 #[oI p0, oI p1, oI (1 : Int32), oI (0 : Int32), oR b83, oR b90, oI (1 : Int32), oI (0 : Int32), oI (1 : Int32)] [(.int (1 : Int32))]) _
        refine XS.goto X101.here hx rfl (pc0 := 112) (pc' := 116) rfl (hb hby at_112) (by decide) (by decide) ?_
        show oP p e below T101 (mkF m 116 #[oI p0, oI p1, oI (1 : Int32), oI (0 : Int32), oR b83, oR b90, oI (1 : Int32), oI (0 : Int32), oI (1 : Int32)] [(.int (1 : Int32))]) _
        exact retN X101 hx (t := .boolean) Bd.returns (by simp) (hb hby at_116) hr
      · show (some (.int (1 : Int32)) : Option Value) = some (.int (1 : Int32)) ∧ Fr n0 _ ∧ Keep h0 T101.heap []
        exact ⟨rfl, N101, Kc101⟩
    · obtain ⟨T104, h104, X104, e104, E104, A104, D104, -, st104⟩ := newO X0 hx hZ hown (hw _ (List.mem_of_getElem? (i := 0) rfl)) (hw _ (List.mem_of_getElem? (i := 1) rfl)) (hw _ (List.mem_of_getElem? (i := 2) rfl)) e0 (g := (mkF m 24 #[oI p0, oI p1, oI (1 : Int32), oI (1 : Int32), oU, oU, oU, oU, oU] [])) rfl (hb hby at_24) (by decide) (by decide)
      obtain ⟨b104, g104⟩ : ∃ z, z = h0.size := ⟨_, rfl⟩
      have g_b104 : n0 ≤ b104 := Nat.le_trans (own_old_le O0) (Nat.le_of_eq g104.symm)
      have sz_b104 : h0.size ≤ b104 := Nat.le_trans (Keep.refl h0 []).1 (Nat.le_of_eq g104.symm)
      rw [← g104] at A104 D104 st104
      have O104 := O0.ext E104
      have Kc104 := (Keep.refl h0 []).ext E104
      have F_named_b104 : Fld Z h104 b104 "com/example/menshen/menshen/policy/Scope" "named" "Ljava/lang/Object;" .null := D104 (Or.inr (hw _ (List.mem_of_getElem? (i := 34) rfl))) (ty := (.object "java/lang/Object")) (by decide)
      have F_negated_b104 : Fld Z h104 b104 "com/example/menshen/menshen/policy/Scope" "negated" "Z" (.int (0 : Int32)) := D104 (Or.inr (hw _ (List.mem_of_getElem? (i := 36) rfl))) (ty := .boolean) (by decide)
      obtain ⟨_, _, ⟨T105, L105, k105, n105⟩, -, X105, ⟨Lc105, hQ105, l105, y105, z105⟩, st105⟩ := Jvm.LawKit.callS X104 hx (y := (⟨"java/lang/Integer", "valueOf", "(I)Ljava/lang/Integer;"⟩ : MethodName)) hown (mvT hZ (hw _ (List.mem_of_getElem? (i := 3) rfl))) (mvT hZ (hw _ (List.mem_of_getElem? (i := 4) rfl))) (mvT hZ (hw _ (List.mem_of_getElem? (i := 5) rfl))) (mvT hZ (hw _ (List.mem_of_getElem? (i := 6) rfl))) (by decide) (backOf (W := 2) (rm1 l Z a0 hw hS [] p0 h104 n0 O104 ) hZ (hw _ (List.mem_of_getElem? (i := 6) rfl)) (hw _ (List.mem_of_getElem? (i := 5) rfl)) (by decide) (by decide)) (g := (mkF m 29 #[oI p0, oI p1, oI (1 : Int32), oI (1 : Int32), oU, oU, oU, oU, oU] [(.int p0), (.ref b104), (.ref b104)])) rfl (by rw [hml]; rfl) (argsL := [(.int p0)]) (rest := [(.ref b104), (.ref b104)]) (lenOf pd_3 rfl) rfl (by show 2 * 0 + _ ≤ _; exact Nat.le_of_eq rfl) (hb hby at_29) (fun _ _ => ⟨rfl, e104, (by decide : 1 + 1 ≤ _), (by decide : 2 + 1 ≤ _)⟩)
      dsimp only [Pt.U, Pt.locs, Pt.cells, Pt.slots] at X105 l105 y105 z105 st105 hQ105
      subst l105 y105 z105
      obtain ⟨b_105, v105, N105q, K105q, po105_0⟩ := hQ105
      subst v105
      have N105 := Fr.app N0 N105q
      have O105 := O104.keep K105q all0
      have Kc105 := Kc104.trans K105q all0
      have fx107 := (A104.keep K105q)
      have fx108 := (F_named_b104.keep K105q nin0)
      have fx109 := (F_negated_b104.keep K105q nin0)
      have fx110 := (Nat.le_trans (Nat.le_trans hki0 E104.1) K105q.1)
      obtain ⟨_, _, ⟨T106, L106, k106, n106⟩, -, X106, hsi106, hge106, ⟨Lc106, hQ106, l106, y106, z106⟩, st106⟩ := X105.specialBackS hx (y := (⟨"com/example/menshen/menshen/policy/Scope", "<init>", "(Ljava/lang/Object;Z)V"⟩ : MethodName)) rfl hown (mvT hZ (hw _ (List.mem_of_getElem? (i := 10) rfl))) (mvT hZ (hw _ (List.mem_of_getElem? (i := 11) rfl))) (mvT hZ (hw _ (List.mem_of_getElem? (i := 12) rfl))) (by decide) (backOfS (W := 1) (rm2 l Z a0 hw hS [] b104 b_105 (1 : Int32) T105.heap n0 O105 fx107 fx108 fx109 g_b104) hZ (hw _ (List.mem_of_getElem? (i := 12) rfl)) (hw _ (List.mem_of_getElem? (i := 2) rfl)) (by decide) (by decide)) (g := (mkF m 33 #[oI p0, oI p1, oI (1 : Int32), oI (1 : Int32), oU, oU, oU, oU, oU] [(.int (1 : Int32)), (.ref b_105), (.ref b104), (.ref b104)])) rfl (by rw [hml]; rfl) (Steps.refl _) (a := b104) (argsL := [(.ref b_105), (.int (1 : Int32))]) (rest := [(.ref b104)]) (lenOf pd_4 rfl) rfl (by show 2 * 0 + _ ≤ _; exact Nat.le_of_eq rfl) (hb hby at_33) (fun _ _ => ⟨rfl, rfl, (by decide : 2 + 2 ≤ _), (by decide : 3 + 24 ≤ _)⟩)
      dsimp only [Pt.U, Pt.locs, Pt.cells, Pt.slots] at X106 l106 y106 z106 st106 hQ106 hsi106 hge106
      subst l106 y106 z106
      obtain ⟨X106, hSi, hZ, hown⟩ := rebS hSi fx110 X106 hsi106 hge106 hZ hown
      obtain ⟨v106, N106q, K106q, po106_0, po106_1, po106_2⟩ := hQ106
      subst v106
      have N106 := Fr.app N105 N106q
      have O106 := O105.keep K106q (allS g_b104 all0)
      have Kc106 := Kc105.trans K106q (allS (Or.inr sz_b104) all0)
      obtain ⟨T111, h111, X111, e111, E111, A111, D111, -, st111⟩ := newO X106 hx hZ hown (hw _ (List.mem_of_getElem? (i := 0) rfl)) (hw _ (List.mem_of_getElem? (i := 1) rfl)) (hw _ (List.mem_of_getElem? (i := 2) rfl)) rfl (g := (mkF m 38 #[oI p0, oI p1, oI (1 : Int32), oI (1 : Int32), oR b104, oU, oU, oU, oU] [])) rfl (hb hby at_38) (by decide) (by decide)
      obtain ⟨b111, g111⟩ : ∃ z, z = T106.heap.size := ⟨_, rfl⟩
      have g_b111 : n0 ≤ b111 := Nat.le_trans (own_old_le O106) (Nat.le_of_eq g111.symm)
      have sz_b111 : h0.size ≤ b111 := Nat.le_trans Kc106.1 (Nat.le_of_eq g111.symm)
      have ne_b104_b111 : b104 ≠ b111 := Nat.ne_of_lt (Nat.lt_of_lt_of_le po106_0.lt (Nat.le_of_eq g111.symm))
      rw [← g111] at A111 D111 st111
      have O111 := O106.ext E111
      have Kc111 := Kc106.ext E111
      have F_named_b111 : Fld Z h111 b111 "com/example/menshen/menshen/policy/Scope" "named" "Ljava/lang/Object;" .null := D111 (Or.inr (hw _ (List.mem_of_getElem? (i := 34) rfl))) (ty := (.object "java/lang/Object")) (by decide)
      have F_negated_b111 : Fld Z h111 b111 "com/example/menshen/menshen/policy/Scope" "negated" "Z" (.int (0 : Int32)) := D111 (Or.inr (hw _ (List.mem_of_getElem? (i := 36) rfl))) (ty := .boolean) (by decide)
      obtain ⟨_, _, ⟨T112, L112, k112, n112⟩, -, X112, ⟨Lc112, hQ112, l112, y112, z112⟩, st112⟩ := Jvm.LawKit.callS X111 hx (y := (⟨"java/lang/Integer", "valueOf", "(I)Ljava/lang/Integer;"⟩ : MethodName)) hown (mvT hZ (hw _ (List.mem_of_getElem? (i := 3) rfl))) (mvT hZ (hw _ (List.mem_of_getElem? (i := 4) rfl))) (mvT hZ (hw _ (List.mem_of_getElem? (i := 5) rfl))) (mvT hZ (hw _ (List.mem_of_getElem? (i := 6) rfl))) (by decide) (backOf (W := 2) (rm1 l Z a0 hw hS [] p0 h111 n0 O111 ) hZ (hw _ (List.mem_of_getElem? (i := 6) rfl)) (hw _ (List.mem_of_getElem? (i := 5) rfl)) (by decide) (by decide)) (g := (mkF m 43 #[oI p0, oI p1, oI (1 : Int32), oI (1 : Int32), oR b104, oU, oU, oU, oU] [(.int p0), (.ref b111), (.ref b111)])) rfl (by rw [hml]; rfl) (argsL := [(.int p0)]) (rest := [(.ref b111), (.ref b111)]) (lenOf pd_3 rfl) rfl (by show 2 * 0 + _ ≤ _; exact Nat.le_of_eq rfl) (hb hby at_43) (fun _ _ => ⟨rfl, e111, (by decide : 5 + 1 ≤ _), (by decide : 29 + 1 ≤ _)⟩)
      dsimp only [Pt.U, Pt.locs, Pt.cells, Pt.slots] at X112 l112 y112 z112 st112 hQ112
      subst l112 y112 z112
      obtain ⟨b_112, v112, N112q, K112q, po112_0⟩ := hQ112
      subst v112
      have N112 := Fr.app N106 N112q
      have O112 := O111.keep K112q all0
      have Kc112 := Kc111.trans K112q all0
      have fx114 := (A111.keep K112q)
      have fx115 := (F_named_b111.keep K112q nin0)
      have fx116 := (F_negated_b111.keep K112q nin0)
      have fx117 := (Nat.le_trans (Nat.le_trans (Nat.le_refl _) E111.1) K112q.1)
      obtain ⟨_, _, ⟨T113, L113, k113, n113⟩, -, X113, hsi113, hge113, ⟨Lc113, hQ113, l113, y113, z113⟩, st113⟩ := X112.specialBackS hx (y := (⟨"com/example/menshen/menshen/policy/Scope", "<init>", "(Ljava/lang/Object;Z)V"⟩ : MethodName)) rfl hown (mvT hZ (hw _ (List.mem_of_getElem? (i := 10) rfl))) (mvT hZ (hw _ (List.mem_of_getElem? (i := 11) rfl))) (mvT hZ (hw _ (List.mem_of_getElem? (i := 12) rfl))) (by decide) (backOfS (W := 1) (rm2 l Z a0 hw hS [] b111 b_112 (0 : Int32) T112.heap n0 O112 fx114 fx115 fx116 g_b111) hZ (hw _ (List.mem_of_getElem? (i := 12) rfl)) (hw _ (List.mem_of_getElem? (i := 2) rfl)) (by decide) (by decide)) (g := (mkF m 55 #[oI p0, oI p1, oI (1 : Int32), oI (1 : Int32), oR b104, oU, oU, oU, oU] [(.int (0 : Int32)), (.ref b_112), (.ref b111), (.ref b111)])) rfl (by rw [hml]; rfl) (Steps.refl _) (a := b111) (argsL := [(.ref b_112), (.int (0 : Int32))]) (rest := [(.ref b111)]) (lenOf pd_4 rfl) rfl (by show 2 * 0 + _ ≤ _; exact Nat.le_of_eq rfl) (hb hby at_55) (fun _ _ => ⟨rfl, rfl, (by decide : 6 + 2 ≤ _), (by decide : 30 + 24 ≤ _)⟩)
      dsimp only [Pt.U, Pt.locs, Pt.cells, Pt.slots] at X113 l113 y113 z113 st113 hQ113 hsi113 hge113
      subst l113 y113 z113
      obtain ⟨X113, hSi, hZ, hown⟩ := rebS hSi fx117 X113 hsi113 hge113 hZ hown
      obtain ⟨v113, N113q, K113q, po113_0, po113_1, po113_2⟩ := hQ113
      subst v113
      have N113 := Fr.app N112 N113q
      have O113 := O112.keep K113q (allS g_b111 all0)
      have Kc113 := Kc112.trans K113q (allS (Or.inr sz_b111) all0)
      have fx118 := (((po106_0.ext E111).keep K112q).keep K113q)
      have fx120 := (((po106_2.ext E111).keep K112q nin0).keep K113q (ninS ne_b104_b111 nin0))
      obtain ⟨cq119, kq119, q119a, q119b, q119c⟩ := isOf hZ rfl fx118
      obtain ⟨_, _, ⟨T119, L119, k119, n119⟩, -, X119, ⟨Lc119, hQ119, l119, y119, z119⟩, st119⟩ := X113.virtualBack hx (y := (⟨"com/example/menshen/menshen/policy/Scope", "takesIn", "(Z)Z"⟩ : MethodName)) (z := (⟨"com/example/menshen/menshen/policy/Scope", "takesIn", "(Z)Z"⟩ : MethodName)) hown (mvT hZ (hw _ (List.mem_of_getElem? (i := 37) rfl))) (mvT hZ (hw _ (List.mem_of_getElem? (i := 38) rfl))) (notFace_of_selects (args := #[]) (mvT hZ (hw _ (List.mem_of_getElem? (i := 40) rfl)))) (mvT hZ (hw _ (List.mem_of_getElem? (i := 40) rfl))) (mvT hZ (hw _ (List.mem_of_getElem? (i := 39) rfl))) (by decide) (backOf (W := 0) (rm6 l Z a0 hw hS [] b104 (1 : Int32) ((1 : Int32) &&& 1) T113.heap n0 O113 fx120) hZ (hw _ (List.mem_of_getElem? (i := 41) rfl)) (hw _ (List.mem_of_getElem? (i := 2) rfl)) (by decide) (by decide)) q119a q119c (g := (mkF m 63 #[oI p0, oI p1, oI (1 : Int32), oI (1 : Int32), oR b104, oR b111, oU, oU, oU] [(.int (1 : Int32)), (.ref b104)])) rfl (by rw [hml]; rfl) (Steps.refl _) (argsL := [(.int (1 : Int32))]) (rest := []) (lenOf pd_5 rfl) rfl (by show 2 * 0 + _ ≤ _; exact Nat.le_of_eq rfl) (hb hby at_63) (fun _ _ => ⟨rfl, rfl, (by decide : 8 + 0 ≤ _), (by decide : 54 + 0 ≤ _)⟩)
      dsimp only [Pt.U, Pt.locs, Pt.cells, Pt.slots] at X119 l119 y119 z119 st119 hQ119
      subst l119 y119 z119
      obtain ⟨v119, N119q, K119q⟩ := hQ119
      have w119 : (fn6 Z b104 (1 : Int32) ((1 : Int32) &&& 1)) = (0 : Int32) := by unfold fn6; rw [if_pos (by decide : (1 : Int32) = ((1 : Int32) &&& 1))]; all_goals first | rfl | decide
      rw [w119] at v119
      subst v119
      have N119 := Fr.app N113 N119q
      have O119 := O113.keep K119q all0
      have Kc119 := Kc113.trans K119q all0
      have fx121 := (po113_0.keep K119q)
      have fx123 := (po113_2.keep K119q nin0)
      obtain ⟨cq122, kq122, q122a, q122b, q122c⟩ := isOf hZ rfl fx121
      obtain ⟨_, _, ⟨T122, L122, k122, n122⟩, -, X122, ⟨Lc122, hQ122, l122, y122, z122⟩, st122⟩ := X119.virtualBack hx (y := (⟨"com/example/menshen/menshen/policy/Scope", "takesIn", "(Z)Z"⟩ : MethodName)) (z := (⟨"com/example/menshen/menshen/policy/Scope", "takesIn", "(Z)Z"⟩ : MethodName)) hown (mvT hZ (hw _ (List.mem_of_getElem? (i := 37) rfl))) (mvT hZ (hw _ (List.mem_of_getElem? (i := 38) rfl))) (notFace_of_selects (args := #[]) (mvT hZ (hw _ (List.mem_of_getElem? (i := 40) rfl)))) (mvT hZ (hw _ (List.mem_of_getElem? (i := 40) rfl))) (mvT hZ (hw _ (List.mem_of_getElem? (i := 39) rfl))) (by decide) (backOf (W := 0) (rm6 l Z a0 hw hS [] b111 (1 : Int32) ((0 : Int32) &&& 1) T119.heap n0 O119 fx123) hZ (hw _ (List.mem_of_getElem? (i := 41) rfl)) (hw _ (List.mem_of_getElem? (i := 2) rfl)) (by decide) (by decide)) q122a q122c (g := (mkF m 71 #[oI p0, oI p1, oI (1 : Int32), oI (1 : Int32), oR b104, oR b111, oI (0 : Int32), oU, oU] [(.int (1 : Int32)), (.ref b111)])) rfl (by rw [hml]; rfl) (Steps.refl _) (argsL := [(.int (1 : Int32))]) (rest := []) (lenOf pd_5 rfl) rfl (by show 2 * 0 + _ ≤ _; exact Nat.le_of_eq rfl) (hb hby at_71) (fun _ _ => ⟨rfl, rfl, (by decide : 8 + 0 ≤ _), (by decide : 54 + 0 ≤ _)⟩)
      dsimp only [Pt.U, Pt.locs, Pt.cells, Pt.slots] at X122 l122 y122 z122 st122 hQ122
      subst l122 y122 z122
      obtain ⟨v122, N122q, K122q⟩ := hQ122
      have w122 : (fn6 Z b111 (1 : Int32) ((0 : Int32) &&& 1)) = (1 : Int32) := by unfold fn6; rw [if_neg (by decide : ¬ ((1 : Int32) = ((0 : Int32) &&& 1)))]; all_goals first | rfl | decide
      rw [w122] at v122
      subst v122
      have N122 := Fr.app N119 N122q
      have O122 := O119.keep K122q all0
      have Kc122 := Kc119.trans K122q all0
      have fx124 := (Nat.le_trans (Nat.le_trans (Nat.le_refl _) K119q.1) K122q.1)
      obtain ⟨fs, hr, hrun, hended, hRW⟩ := Stand.leaveW X122 hSi fx124 (v := some (.int (1 : Int32))) (fun h => by rw [Bd.returns] at h; cases h)
      refine ⟨_, _, pre81 _ ?_, hrun, hended, _, _, rfl, ?_, own_rwmono hRW (by decide) (by decide)⟩
      · show oP p e below s₁ (mkF m 15 #[oI p0, oI p1, oI (1 : Int32), oU, oU, oU, oU, oU, oU] [(.int (p1 &&& (2 : Int32)))]) _
        refine XS.ifNo X0.here hx rfl (hb hby at_15) rfl ((if0 _ _).trans (feq hc82).1) ?_
        show oP p e below s₁ (mkF m 18 #[oI p0, oI p1, oI (1 : Int32), oU, oU, oU, oU, oU, oU] []) _
        refine XS.iconst X0.here hx rfl (hb hby at_18) ?_
        show oP p e below s₁ (mkF m 19 #[oI p0, oI p1, oI (1 : Int32), oU, oU, oU, oU, oU, oU] [(.int (1 : Int32))]) _
        refine XS.goto X0.here hx rfl (pc0 := 19) (pc' := 23) rfl (hb hby at_19) (by decide) (by decide) ?_
        show oP p e below s₁ (mkF m 23 #[oI p0, oI p1, oI (1 : Int32), oU, oU, oU, oU, oU, oU] [(.int (1 : Int32))]) _
        refine XS.istoreN X0.here hx rfl (hb hby at_23) rfl (l' := #[oI p0, oI p1, oI (1 : Int32), oI (1 : Int32), oU, oU, oU, oU, oU]) rfl ?_
        show oP p e below s₁ (mkF m 24 #[oI p0, oI p1, oI (1 : Int32), oI (1 : Int32), oU, oU, oU, oU, oU] []) _
        refine st104 _ ?_
        show oP p e below T104 (mkF m 27 #[oI p0, oI p1, oI (1 : Int32), oI (1 : Int32), oU, oU, oU, oU, oU] [(.ref b104)]) _
        refine XS.dup X104.here hx rfl (hb hby at_27) rfl rfl ?_
        show oP p e below T104 (mkF m 28 #[oI p0, oI p1, oI (1 : Int32), oI (1 : Int32), oU, oU, oU, oU, oU] [(.ref b104), (.ref b104)]) _
        refine XS.iloadN X104.here hx rfl (hb hby at_28) rfl ?_
        show oP p e below T104 (mkF m 29 #[oI p0, oI p1, oI (1 : Int32), oI (1 : Int32), oU, oU, oU, oU, oU] [(.int p0), (.ref b104), (.ref b104)]) _
        refine st105 _ ?_
        show oP p e below T105 (mkF m 32 #[oI p0, oI p1, oI (1 : Int32), oI (1 : Int32), oU, oU, oU, oU, oU] [(.ref b_105), (.ref b104), (.ref b104)]) _
        refine XS.iloadN X105.here hx rfl (hb hby at_32) rfl ?_
        show oP p e below T105 (mkF m 33 #[oI p0, oI p1, oI (1 : Int32), oI (1 : Int32), oU, oU, oU, oU, oU] [(.int (1 : Int32)), (.ref b_105), (.ref b104), (.ref b104)]) _
        refine st106.trans ?_
        show oP p e below T106 (mkF m 36 #[oI p0, oI p1, oI (1 : Int32), oI (1 : Int32), oU, oU, oU, oU, oU] [(.ref b104)]) _
        refine XS.astore X106.here hx rfl (hb hby at_36) rfl rfl (l' := #[oI p0, oI p1, oI (1 : Int32), oI (1 : Int32), oR b104, oU, oU, oU, oU]) rfl ?_
        show oP p e below T106 (mkF m 38 #[oI p0, oI p1, oI (1 : Int32), oI (1 : Int32), oR b104, oU, oU, oU, oU] []) _
        refine st111 _ ?_
        show oP p e below T111 (mkF m 41 #[oI p0, oI p1, oI (1 : Int32), oI (1 : Int32), oR b104, oU, oU, oU, oU] [(.ref b111)]) _
        refine XS.dup X111.here hx rfl (hb hby at_41) rfl rfl ?_
        show oP p e below T111 (mkF m 42 #[oI p0, oI p1, oI (1 : Int32), oI (1 : Int32), oR b104, oU, oU, oU, oU] [(.ref b111), (.ref b111)]) _
        refine XS.iloadN X111.here hx rfl (hb hby at_42) rfl ?_
        show oP p e below T111 (mkF m 43 #[oI p0, oI p1, oI (1 : Int32), oI (1 : Int32), oR b104, oU, oU, oU, oU] [(.int p0), (.ref b111), (.ref b111)]) _
        refine st112 _ ?_
        show oP p e below T112 (mkF m 46 #[oI p0, oI p1, oI (1 : Int32), oI (1 : Int32), oR b104, oU, oU, oU, oU] [(.ref b_112), (.ref b111), (.ref b111)]) _
        refine XS.iloadN X112.here hx rfl (hb hby at_46) rfl ?_
        show oP p e below T112 (mkF m 47 #[oI p0, oI p1, oI (1 : Int32), oI (1 : Int32), oR b104, oU, oU, oU, oU] [(.int (1 : Int32)), (.ref b_112), (.ref b111), (.ref b111)]) _
        refine XS.ifYes X112.here hx rfl (pc0 := 47) (pc' := 54) rfl (hb hby at_47) rfl ((if0 _ _).trans (feq (by decide : ¬ ((1 : Int32) = (0 : Int32)))).2) (by decide) (by decide) ?_
        show oP p e below T112 (mkF m 54 #[oI p0, oI p1, oI (1 : Int32), oI (1 : Int32), oR b104, oU, oU, oU, oU] [(.ref b_112), (.ref b111), (.ref b111)]) _
        refine XS.iconst X112.here hx rfl (hb hby at_54) ?_
        show oP p e below T112 (mkF m 55 #[oI p0, oI p1, oI (1 : Int32), oI (1 : Int32), oR b104, oU, oU, oU, oU] [(.int (0 : Int32)), (.ref b_112), (.ref b111), (.ref b111)]) _
        refine st113.trans ?_
        show oP p e below T113 (mkF m 58 #[oI p0, oI p1, oI (1 : Int32), oI (1 : Int32), oR b104, oU, oU, oU, oU] [(.ref b111)]) _
        refine XS.astore X113.here hx rfl (hb hby at_58) rfl rfl (l' := #[oI p0, oI p1, oI (1 : Int32), oI (1 : Int32), oR b104, oR b111, oU, oU, oU]) rfl ?_
        show oP p e below T113 (mkF m 60 #[oI p0, oI p1, oI (1 : Int32), oI (1 : Int32), oR b104, oR b111, oU, oU, oU] []) _
        refine XS.aload X113.here hx rfl (hb hby at_60) rfl rfl ?_
        show oP p e below T113 (mkF m 62 #[oI p0, oI p1, oI (1 : Int32), oI (1 : Int32), oR b104, oR b111, oU, oU, oU] [(.ref b104)]) _
        refine XS.iloadN X113.here hx rfl (hb hby at_62) rfl ?_
        show oP p e below T113 (mkF m 63 #[oI p0, oI p1, oI (1 : Int32), oI (1 : Int32), oR b104, oR b111, oU, oU, oU] [(.int (1 : Int32)), (.ref b104)]) _
        refine st119.trans ?_
        show oP p e below T119 (mkF m 66 #[oI p0, oI p1, oI (1 : Int32), oI (1 : Int32), oR b104, oR b111, oU, oU, oU] [(.int (0 : Int32))]) _
        refine XS.istore X119.here hx rfl (hb hby at_66) rfl (l' := #[oI p0, oI p1, oI (1 : Int32), oI (1 : Int32), oR b104, oR b111, oI (0 : Int32), oU, oU]) rfl ?_
        show oP p e below T119 (mkF m 68 #[oI p0, oI p1, oI (1 : Int32), oI (1 : Int32), oR b104, oR b111, oI (0 : Int32), oU, oU] []) _
        refine XS.aload X119.here hx rfl (hb hby at_68) rfl rfl ?_
        show oP p e below T119 (mkF m 70 #[oI p0, oI p1, oI (1 : Int32), oI (1 : Int32), oR b104, oR b111, oI (0 : Int32), oU, oU] [(.ref b111)]) _
        refine XS.iloadN X119.here hx rfl (hb hby at_70) rfl ?_
        show oP p e below T119 (mkF m 71 #[oI p0, oI p1, oI (1 : Int32), oI (1 : Int32), oR b104, oR b111, oI (0 : Int32), oU, oU] [(.int (1 : Int32)), (.ref b111)]) _
        refine st122.trans ?_
        show oP p e below T122 (mkF m 74 #[oI p0, oI p1, oI (1 : Int32), oI (1 : Int32), oR b104, oR b111, oI (0 : Int32), oU, oU] [(.int (1 : Int32))]) _
        refine XS.istore X122.here hx rfl (hb hby at_74) rfl (l' := #[oI p0, oI p1, oI (1 : Int32), oI (1 : Int32), oR b104, oR b111, oI (0 : Int32), oI (1 : Int32), oU]) rfl ?_
        show oP p e below T122 (mkF m 76 #[oI p0, oI p1, oI (1 : Int32), oI (1 : Int32), oR b104, oR b111, oI (0 : Int32), oI (1 : Int32), oU] []) _
        refine XS.iloadN X122.here hx rfl (hb hby at_76) rfl ?_
        show oP p e below T122 (mkF m 77 #[oI p0, oI p1, oI (1 : Int32), oI (1 : Int32), oR b104, oR b111, oI (0 : Int32), oI (1 : Int32), oU] [(.int (1 : Int32))]) _
        refine XS.ifNo X122.here hx rfl (hb hby at_77) rfl ((if0 _ _).trans (feq (by decide : ¬ ((1 : Int32) = (0 : Int32)))).1) ?_
        show oP p e below T122 (mkF m 80 #[oI p0, oI p1, oI (1 : Int32), oI (1 : Int32), oR b104, oR b111, oI (0 : Int32), oI (1 : Int32), oU] []) _
        refine XS.iloadN X122.here hx rfl (hb hby at_80) rfl ?_
        show oP p e below T122 (mkF m 81 #[oI p0, oI p1, oI (1 : Int32), oI (1 : Int32), oR b104, oR b111, oI (0 : Int32), oI (1 : Int32), oU] [(.int (1 : Int32))]) _
        refine XS.ifYes X122.here hx rfl (pc0 := 81) (pc' := 88) rfl (hb hby at_81) rfl ((if0 _ _).trans (feq (by decide : ¬ ((1 : Int32) = (0 : Int32)))).2) (by decide) (by decide) ?_
        show oP p e below T122 (mkF m 88 #[oI p0, oI p1, oI (1 : Int32), oI (1 : Int32), oR b104, oR b111, oI (0 : Int32), oI (1 : Int32), oU] []) _
        refine XS.iconst X122.here hx rfl (hb hby at_88) ?_
        show oP p e below T122 (mkF m 89 #[oI p0, oI p1, oI (1 : Int32), oI (1 : Int32), oR b104, oR b111, oI (0 : Int32), oI (1 : Int32), oU] [(.int (0 : Int32))]) _
        refine XS.istore X122.here hx rfl (hb hby at_89) rfl (l' := #[oI p0, oI p1, oI (1 : Int32), oI (1 : Int32), oR b104, oR b111, oI (0 : Int32), oI (1 : Int32), oI (0 : Int32)]) rfl ?_
        show oP p e below T122 (mkF m 91 #[oI p0, oI p1, oI (1 : Int32), oI (1 : Int32), oR b104, oR b111, oI (0 : Int32), oI (1 : Int32), oI (0 : Int32)] []) _
        refine XS.goto X122.here hx rfl (pc0 := 91) (pc' := 97) rfl (hb hby at_91) (by decide) (by decide) ?_
        show oP p e below T122 (mkF m 97 #[oI p0, oI p1, oI (1 : Int32), oI (1 : Int32), oR b104, oR b111, oI (0 : Int32), oI (1 : Int32), oI (0 : Int32)] []) _
        refine XS.iload X122.here hx rfl (hb hby at_97) rfl ?_
        show oP p e below T122 (mkF m 99 #[oI p0, oI p1, oI (1 : Int32), oI (1 : Int32), oR b104, oR b111, oI (0 : Int32), oI (1 : Int32), oI (0 : Int32)] [(.int (0 : Int32))]) _
        refine XS.iload X122.here hx rfl (hb hby at_99) rfl ?_
        show oP p e below T122 (mkF m 101 #[oI p0, oI p1, oI (1 : Int32), oI (1 : Int32), oR b104, oR b111, oI (0 : Int32), oI (1 : Int32), oI (0 : Int32)] [(.int (0 : Int32)), (.int (0 : Int32))]) _
        refine XS.icmpNo X122.here hx rfl (hb hby at_101) rfl (teq (by decide : (0 : Int32) = (0 : Int32))).2 ?_
        show oP p e below T122 (mkF m 104 #[oI p0, oI p1, oI (1 : Int32), oI (1 : Int32), oR b104, oR b111, oI (0 : Int32), oI (1 : Int32), oI (0 : Int32)] []) _
        refine XS.iload X122.here hx rfl (hb hby at_104) rfl ?_
        show oP p e below T122 (mkF m 106 #[oI p0, oI p1, oI (1 : Int32), oI (1 : Int32), oR b104, oR b111, oI (0 : Int32), oI (1 : Int32), oI (0 : Int32)] [(.int (1 : Int32))]) _
        refine XS.iload X122.here hx rfl (hb hby at_106) rfl ?_
        show oP p e below T122 (mkF m 108 #[oI p0, oI p1, oI (1 : Int32), oI (1 : Int32), oR b104, oR b111, oI (0 : Int32), oI (1 : Int32), oI (0 : Int32)] [(.int (0 : Int32)), (.int (1 : Int32))]) _
        refine XS.icmpNo X122.here hx rfl (hb hby at_108) rfl (feq (by decide : ¬ ((1 : Int32) = (0 : Int32)))).1 ?_
        show oP p e below T122 (mkF m 111 #[oI p0, oI p1, oI (1 : Int32), oI (1 : Int32), oR b104, oR b111, oI (0 : Int32), oI (1 : Int32), oI (0 : Int32)] []) _
        refine XS.iconst X122.here hx rfl (hb hby at_111) ?_
        show oP p e below T122 (mkF m 112 #[oI p0, oI p1, oI (1 : Int32), oI (1 : Int32), oR b104, oR b111, oI (0 : Int32), oI (1 : Int32), oI (0 : Int32)] [(.int (1 : Int32))]) _
        refine XS.goto X122.here hx rfl (pc0 := 112) (pc' := 116) rfl (hb hby at_112) (by decide) (by decide) ?_
        show oP p e below T122 (mkF m 116 #[oI p0, oI p1, oI (1 : Int32), oI (1 : Int32), oR b104, oR b111, oI (0 : Int32), oI (1 : Int32), oI (0 : Int32)] [(.int (1 : Int32))]) _
        exact retN X122 hx (t := .boolean) Bd.returns (by simp) (hb hby at_116) hr
      · show (some (.int (1 : Int32)) : Option Value) = some (.int (1 : Int32)) ∧ Fr n0 _ ∧ Keep h0 T122.heap []
        exact ⟨rfl, N122, Kc122⟩
set_option maxRecDepth 65536 in
set_option maxHeartbeats 40000000 in
theorem comes_1 {Post : Tables → Env → Array Value → State → Outcome → State → Prop} (hpost : ∀ tb e args s v u, (limb_1_1.after args s (.returned v) u = true ∧ limb_1_2.after args s (.returned v) u = true ∧ True) → ReturnedEndW s (.returned v) u (Jvm.fieldLocs frame_1_writes args s ++ Jvm.arrayLocs frame_1_arrays args s ++ Jvm.staticLocs frame_1_statics s) 24 1152 → Post tb e args s (.returned v) u) :
    ArmFor flags0 classFile x code maxLocals ret World_1 tables_1 room_1 Calls_1 rest_1 Pre_1 Post := by
  intro l hfl _ _ p e ha hc hk s m args below hf hA hF happ hP
  obtain ⟨hcalls, hrest, hpre⟩ := hP
  obtain ⟨-, -, -, hnamed, -, -, -, hat⟩ := (Spec.applies_iff hf).mp happ
  obtain ⟨hg, hn⟩ := and_e (Cond.before_iff.mp (show (Jvm.Cond.and given_1 narrow_1).before args s = true from hpre))
  obtain ⟨g1, g2⟩ := and_e hg
  obtain ⟨g3, g4⟩ := and_e g2
  obtain ⟨w0, w1, rfl⟩ : ∃ w0 w1 : Value, args = #[w0, w1] := by
    have hs : args.size = 2 := by simpa [Cond.value, given_1] using g1
    obtain ⟨L⟩ := args
    match L, hs with
    | [w0, w1], _ => exact ⟨w0, w1, rfl⟩
  have hw := fun d (hd : d ∈ tables_1) => atoms_spec (ws := Jvm.Cond.code x code maxLocals ret :: tables_1) hat d (List.mem_cons_of_mem _ hd)
  have hfit : Fit s := fun {y c} hc i hi => by
    obtain ⟨ha, rfl⟩ := Array.getElem?_eq_some_iff.mp hc
    have q := List.all_eq_true.mp ((Array.all_eq_true_iff_forall_mem.mp hF) _ (Array.getElem_mem ha)) i (List.mem_range.mpr hi)
    simpa [Array.getElem?_eq_getElem hi] using q
  obtain ⟨i0, ei0⟩ := is_v g3
  obtain rfl : w0 = (.int i0) := Option.some.inj ei0
  obtain ⟨i1, ei1⟩ := is_v g4
  obtain rfl : w1 = (.int i1) := Option.some.inj ei1
  have q0 := hn
  obtain ⟨hsets, hown0⟩ := atoms_of _ (rest_1_c_eq ▸ (show rest_1_c.before _ s = true from hrest))
  have j0 := Cond.before_iff.mp (hsets _ (List.mem_of_getElem? (i := 0) rfl))
  have j1 := Cond.before_iff.mp (hsets _ (List.mem_of_getElem? (i := 1) rfl))
  have j2 := Cond.before_iff.mp (hsets _ (List.mem_of_getElem? (i := 2) rfl))
  have j3 := Cond.before_iff.mp (hsets _ (List.mem_of_getElem? (i := 3) rfl))
  have j4 := Cond.before_iff.mp (hsets _ (List.mem_of_getElem? (i := 4) rfl))
  have j5 := Cond.before_iff.mp (hsets _ (List.mem_of_getElem? (i := 5) rfl))
  have j6 := Cond.before_iff.mp (hsets _ (List.mem_of_getElem? (i := 6) rfl))
  have j7 := Cond.before_iff.mp (hsets _ (List.mem_of_getElem? (i := 7) rfl))
  have hS : St s := ⟨(own_staI j3 (Or.inr ⟨(hw _ (List.mem_of_getElem? (i := 8) rfl)), (hsets _ (List.mem_of_getElem? (i := 0) rfl))⟩)), (own_sta j5 (Or.inr ⟨(hw _ (List.mem_of_getElem? (i := 8) rfl)), (hsets _ (List.mem_of_getElem? (i := 2) rfl))⟩)), (own_exa j5), (own_cache j4 j6 j7 rfl)⟩
  obtain ⟨n, o, h1, h2, h3, _, L, rfl, ⟨rfl, N, -⟩, hq⟩ := rm0 l s _ hw hS tables_1 i0 i1 s.heap s.heap.size (Old.start s) p e ha hc hk s m _ below hf ((Spec.applies_iff_loose hf).mp happ).1 ⟨rfl, State.Warmed39.refl s, rfl⟩ trivial
  refine ⟨n, _, h1, h2, h3, hpost _ _ _ _ _ _ ⟨Cond.after_iff.mpr rfl, Cond.after_iff.mpr (eq_i res_at (Term.int_eval (1)) rfl), trivial⟩ ⟨hq.1, hq.2.1, hq.2.2.1, (hq.2.2.2.sift fun y hy => Or.inr (N y hy)).mono (by decide) (by decide)⟩⟩
theorem main_1_1 : Claimed_1_1 := comes_1 fun _ _ _ _ _ _ h hF => ⟨h.1, hF⟩
theorem main_1_2 : Claimed_1_2 := comes_1 fun _ _ _ _ _ _ h hF => ⟨h.2.1, hF⟩
end Jvm.Pilot.@@N@@
namespace Jvm.Pilot.@@N@@
open Jvm Jvm.ClassFile Sem Op Lib Jvm.Free Jvm.Stand Jvm.Pilot.@@N@@.Jvm.D
/-! MADE BY PROGRAM (witnessworld.py) out of the Statement's table words and the real class files: 20 classes; the members and pool entries that the words name. The judged class is class 1, her method 1. -/
namespace start1
open Jvm.ClassFile
def u (s : String) : CpInfo := .utf8 (stringToUtf16 s)
/-- a pool by its gaps: so many unusable entries, then the entry; so many at the end -/
def gap : Nat → List CpInfo → List CpInfo
  | 0, r => r
  | n + 1, r => .unusable :: gap n r
def poolList (es : List (Nat × CpInfo)) (last : Nat) : List CpInfo := es.foldr (fun e r => gap e.1 (e.2 :: r)) (gap last [])
def pool (es : List (Nat × CpInfo)) (last : Nat) : Array CpInfo := ⟨poolList es last⟩
def fileOf (pool : Array CpInfo) (this : Nat) (attrs : Array Attribute := #[]) (ms : Array MethodInfo := #[]) (fl : Nat := 33) (sup : Nat := 0) (ifs : Array Nat := #[]) (fds : Array FieldInfo := #[]) : ClassFile where
  minorVersion := 0
  majorVersion := 65
  constantPool := pool
  accessFlags := fl
  thisClass := this
  superClass := sup
  interfaces := ifs
  fields := fds
  methods := ms
  attributes := attrs
def plain (name : String) (sup : Option ClassId) : Class where
  name := name
  kind := .ordinary
  loader := none
  accessFlags := 33
  super := sup
  interfaces := #[]
  cf := none
  fields := #[]
  methods := #[]
  instanceTypes := #[]
  staticTypes := #[]
  resolved := #[]
  callSites := []
  init := .initialized
  statics := none
  mirror := none

def pool0 : Array CpInfo := pool [(5, u "<init>"), (0, u "()V"), (1, .class_ 10), (1, u "java/lang/Object")] 113

def k0c0 : Code := { maxStack := 0, maxLocals := 1, code := object_method_1_code, exceptionTable := #[], attributes := #[] }
def k0m0 : Method := { name := "<init>", desc := "()V", sig := { parameters := [], returnType := none }, accessFlags := 1, code := some k0c0 }
/-- java/lang/Object -/
def k0 : Class := { plain "java/lang/Object" none with
  accessFlags := 33
  interfaces := #[]
  cf := some (fileOf pool0 8 #[] #[{ accessFlags := 1, nameIndex := 5, descriptorIndex := 6, attributes := #[] }] 33 0 #[] #[])
  fields := #[]
  methods := #[k0m0]
  instanceTypes := #[]
  staticTypes := #[]
  resolved := Array.replicate 124 none
  statics := none }

def pool1 : Array CpInfo := pool [(2, .class_ 4), (1, u "java/lang/Object"), (0, u "<init>"), (0, u "()V"), (0, .class_ 8), (0, u "com/example/menshen/menshen/policy/Scope"), (0, .methodref 10 11), (0, .class_ 12), (0, .nameAndType 13 14), (0, u "java/lang/Integer"), (0, u "valueOf"), (0, u "(I)Ljava/lang/Integer;"), (0, .methodref 7 16), (0, .nameAndType 5 17), (0, u "(Ljava/lang/Object;Z)V"), (0, .methodref 7 19), (0, .nameAndType 20 21), (0, u "takesIn"), (0, u "(Z)Z"), (0, .class_ 23), (0, u "com/example/menshen/menshen/policy/ScopeTakesInPinLaw"), (2, u "law"), (0, u "(II)Z")] 3

def k1m0 : Method := { name := "<init>", desc := "()V", sig := { parameters := [], returnType := none }, accessFlags := 1, code := none }
def k1c1 : Code := { maxStack := 4, maxLocals := 9, code := code, exceptionTable := #[], attributes := #[] }
def k1m1 : Method := { name := "law", desc := "(II)Z", sig := { parameters := [.int, .int], returnType := some .boolean }, accessFlags := 9, code := some k1c1 }
/-- com/example/menshen/menshen/policy/ScopeTakesInPinLaw -/
def k1 : Class := { plain "com/example/menshen/menshen/policy/ScopeTakesInPinLaw" (some 0) with
  accessFlags := 49
  interfaces := #[]
  cf := some (fileOf pool1 22 #[] #[{ accessFlags := 1, nameIndex := 5, descriptorIndex := 6, attributes := #[] }, { accessFlags := 9, nameIndex := 26, descriptorIndex := 27, attributes := #[] }] 49 2 #[] #[])
  fields := #[]
  methods := #[k1m0, k1m1]
  instanceTypes := #[]
  staticTypes := #[]
  resolved := Array.replicate 31 none
  statics := none }

def pool2 : Array CpInfo := pool [(1, .methodref 2 3), (0, .class_ 4), (0, .nameAndType 5 6), (0, u "java/lang/Object"), (0, u "<init>"), (0, u "()V"), (0, .class_ 8), (0, u "java/lang/Record")] 13

def k2c0 : Code := { maxStack := 1, maxLocals := 1, code := jdk_30_method_1_code, exceptionTable := #[], attributes := #[] }
def k2m0 : Method := { name := "<init>", desc := "()V", sig := { parameters := [], returnType := none }, accessFlags := 4, code := some k2c0 }
/-- java/lang/Record -/
def k2 : Class := { plain "java/lang/Record" (some 0) with
  accessFlags := 1057
  interfaces := #[]
  cf := some (fileOf pool2 7 #[] #[{ accessFlags := 4, nameIndex := 5, descriptorIndex := 6, attributes := #[] }] 1057 2 #[] #[])
  fields := #[]
  methods := #[k2m0]
  instanceTypes := #[]
  staticTypes := #[]
  resolved := Array.replicate 22 none
  statics := none }

def pool3 : Array CpInfo := pool [(1, .methodref 2 3), (0, .class_ 4), (0, .nameAndType 5 6), (0, u "java/lang/Record"), (0, u "<init>"), (0, u "()V"), (0, .string 8), (0, u "named"), (0, .methodref 10 11), (0, .class_ 12), (0, .nameAndType 13 14), (0, u "java/util/Objects"), (0, u "requireNonNull"), (0, u "(Ljava/lang/Object;Ljava/lang/String;)Ljava/lang/Object;"), (0, .fieldref 16 17), (0, .class_ 18), (0, .nameAndType 8 19), (0, u "com/example/menshen/menshen/policy/Scope"), (0, u "Ljava/lang/Object;"), (0, .fieldref 16 21), (0, .nameAndType 22 23), (0, u "negated"), (0, u "Z"), (18, u "NEGATED_PREFIX"), (0, u "Ljava/lang/String;"), (3, u "(Ljava/lang/Object;Z)V"), (8, u "takesIn"), (0, u "(Z)Z")] 36

def k3c0 : Code := { maxStack := 2, maxLocals := 3, code := prog_32_method_1_code, exceptionTable := #[], attributes := #[] }
def k3m0 : Method := { name := "<init>", desc := "(Ljava/lang/Object;Z)V", sig := { parameters := [(.object "java/lang/Object"), .boolean], returnType := none }, accessFlags := 1, code := some k3c0 }
def k3c1 : Code := { maxStack := 2, maxLocals := 2, code := prog_32_method_3_code, exceptionTable := #[], attributes := #[] }
def k3m1 : Method := { name := "takesIn", desc := "(Z)Z", sig := { parameters := [.boolean], returnType := some .boolean }, accessFlags := 1, code := some k3c1 }
/-- com/example/menshen/menshen/policy/Scope -/
def k3 : Class := { plain "com/example/menshen/menshen/policy/Scope" (some 2) with
  accessFlags := 49
  interfaces := #[]
  cf := some (fileOf pool3 16 #[] #[{ accessFlags := 1, nameIndex := 5, descriptorIndex := 47, attributes := #[] }, { accessFlags := 1, nameIndex := 56, descriptorIndex := 57, attributes := #[] }] 49 2 #[] #[{ accessFlags := 18, nameIndex := 8, descriptorIndex := 19, attributes := #[] }, { accessFlags := 18, nameIndex := 22, descriptorIndex := 23, attributes := #[] }, { accessFlags := 24, nameIndex := 42, descriptorIndex := 43, attributes := #[] }])
  fields := #[{ name := "named", type := (.object "java/lang/Object"), accessFlags := 18, slot := 0, constantValue := 0 }, { name := "negated", type := .boolean, accessFlags := 18, slot := 1, constantValue := 0 }, { name := "NEGATED_PREFIX", type := (.object "java/lang/String"), accessFlags := 24, slot := 0, constantValue := 0 }]
  methods := #[k3m0, k3m1]
  instanceTypes := #[(.object "java/lang/Object"), .boolean]
  staticTypes := #[(.object "java/lang/String")]
  resolved := Array.replicate 94 none
  statics := none }

def pool4 : Array CpInfo := pool [(1, .class_ 2), (0, u "java/io/Serializable"), (0, .class_ 4), (0, u "java/lang/Object")] 2

/-- java/io/Serializable -/
def k4 : Class := { plain "java/io/Serializable" (some 0) with
  accessFlags := 1537
  interfaces := #[]
  cf := some (fileOf pool4 1 #[] #[] 1537 3 #[] #[])
  fields := #[]
  methods := #[]
  instanceTypes := #[]
  staticTypes := #[]
  resolved := Array.replicate 7 none
  statics := none }

def pool5 : Array CpInfo := pool [(1, .methodref 2 3), (0, .class_ 4), (0, .nameAndType 5 6), (0, u "java/lang/Object"), (0, u "<init>"), (0, u "()V"), (1, .class_ 10), (1, u "java/lang/Number"), (2, .class_ 14), (0, u "java/io/Serializable"), (0, u "serialVersionUID"), (0, u "J")] 20

def k5c0 : Code := { maxStack := 1, maxLocals := 1, code := jdk_18_method_1_code, exceptionTable := #[], attributes := #[] }
def k5m0 : Method := { name := "<init>", desc := "()V", sig := { parameters := [], returnType := none }, accessFlags := 1, code := some k5c0 }
/-- java/lang/Number -/
def k5 : Class := { plain "java/lang/Number" (some 0) with
  accessFlags := 1057
  interfaces := #[4]
  cf := some (fileOf pool5 8 #[] #[{ accessFlags := 1, nameIndex := 5, descriptorIndex := 6, attributes := #[] }] 1057 2 #[13] #[{ accessFlags := 26, nameIndex := 15, descriptorIndex := 16, attributes := #[] }])
  fields := #[{ name := "serialVersionUID", type := .long, accessFlags := 26, slot := 0, constantValue := 0 }]
  methods := #[k5m0]
  instanceTypes := #[]
  staticTypes := #[.long]
  resolved := Array.replicate 37 none
  statics := none }

def pool6 : Array CpInfo := pool [(1, .class_ 2), (0, u "java/lang/Comparable"), (0, .class_ 4), (0, u "java/lang/Object")] 7

/-- java/lang/Comparable -/
def k6 : Class := { plain "java/lang/Comparable" (some 0) with
  accessFlags := 1537
  interfaces := #[]
  cf := some (fileOf pool6 1 #[] #[] 1537 3 #[] #[])
  fields := #[]
  methods := #[]
  instanceTypes := #[]
  staticTypes := #[]
  resolved := Array.replicate 12 none
  statics := none }

def pool7 : Array CpInfo := pool [(1, .class_ 2), (0, u "java/lang/constant/Constable"), (0, .class_ 4), (0, u "java/lang/Object")] 6

/-- java/lang/constant/Constable -/
def k7 : Class := { plain "java/lang/constant/Constable" (some 0) with
  accessFlags := 1537
  interfaces := #[]
  cf := some (fileOf pool7 1 #[] #[] 1537 3 #[] #[])
  fields := #[]
  methods := #[]
  instanceTypes := #[]
  staticTypes := #[]
  resolved := Array.replicate 11 none
  statics := none }

def pool8 : Array CpInfo := pool [(1, .class_ 2), (0, u "java/lang/constant/ConstantDesc"), (0, .class_ 4), (0, u "java/lang/Object")] 32

/-- java/lang/constant/ConstantDesc -/
def k8 : Class := { plain "java/lang/constant/ConstantDesc" (some 0) with
  accessFlags := 1537
  interfaces := #[]
  cf := some (fileOf pool8 1 #[] #[] 1537 3 #[] #[])
  fields := #[]
  methods := #[]
  instanceTypes := #[]
  staticTypes := #[]
  resolved := Array.replicate 37 none
  statics := none }

def pool9 : Array CpInfo := pool [(1, .class_ 2), (0, u "java/lang/Integer"), (16, u "digits"), (0, u "[C"), (46, u "<init>"), (17, u "DigitOnes"), (0, u "[B"), (2, u "DigitTens"), (10, .nameAndType 67 101), (0, u "()V"), (85, u "valueOf"), (0, u "(I)Ljava/lang/Integer;"), (0, .class_ 190), (0, u "java/lang/Integer$IntegerCache"), (0, .fieldref 189 192), (0, .nameAndType 193 194), (0, u "high"), (0, u "I"), (0, .fieldref 189 196), (0, .nameAndType 197 198), (0, u "cache"), (0, u "[Ljava/lang/Integer;"), (0, .methodref 1 200), (0, .nameAndType 67 201), (0, u "(I)V"), (0, .methodref 203 100), (0, .class_ 204), (0, u "java/lang/Number"), (0, .fieldref 1 206), (0, .nameAndType 207 194), (0, u "value"), (94, u "TYPE"), (0, u "Ljava/lang/Class;"), (0, .class_ 305), (0, u "java/lang/Comparable"), (0, .class_ 307), (0, u "java/lang/constant/Constable"), (0, .class_ 309), (0, u "java/lang/constant/ConstantDesc"), (0, u "MIN_VALUE"), (1, u "MAX_VALUE"), (3, u "SIZE"), (1, u "BYTES"), (1, u "serialVersionUID"), (0, u "J")] 131

def k9c0 : Code := { maxStack := 3, maxLocals := 1, code := jdk_33_method_22_code, exceptionTable := #[], attributes := #[] }
def k9m0 : Method := { name := "valueOf", desc := "(I)Ljava/lang/Integer;", sig := { parameters := [.int], returnType := some (.object "java/lang/Integer") }, accessFlags := 9, code := some k9c0 }
def k9c1 : Code := { maxStack := 2, maxLocals := 2, code := jdk_33_method_23_code, exceptionTable := #[], attributes := #[] }
def k9m1 : Method := { name := "<init>", desc := "(I)V", sig := { parameters := [.int], returnType := none }, accessFlags := 1, code := some k9c1 }
/-- java/lang/Integer -/
def k9 : Class := { plain "java/lang/Integer" (some 5) with
  accessFlags := 49
  interfaces := #[6, 7, 8]
  cf := some (fileOf pool9 1 #[.nestMembers #[189]] #[{ accessFlags := 9, nameIndex := 187, descriptorIndex := 188, attributes := #[] }, { accessFlags := 1, nameIndex := 67, descriptorIndex := 201, attributes := #[] }] 49 203 #[304, 306, 308] #[{ accessFlags := 25, nameIndex := 310, descriptorIndex := 194, attributes := #[] }, { accessFlags := 25, nameIndex := 312, descriptorIndex := 194, attributes := #[] }, { accessFlags := 25, nameIndex := 302, descriptorIndex := 303, attributes := #[] }, { accessFlags := 24, nameIndex := 19, descriptorIndex := 20, attributes := #[] }, { accessFlags := 24, nameIndex := 89, descriptorIndex := 86, attributes := #[] }, { accessFlags := 24, nameIndex := 85, descriptorIndex := 86, attributes := #[] }, { accessFlags := 18, nameIndex := 207, descriptorIndex := 194, attributes := #[] }, { accessFlags := 25, nameIndex := 316, descriptorIndex := 194, attributes := #[] }, { accessFlags := 25, nameIndex := 318, descriptorIndex := 194, attributes := #[] }, { accessFlags := 26, nameIndex := 320, descriptorIndex := 321, attributes := #[] }])
  fields := #[{ name := "MIN_VALUE", type := .int, accessFlags := 25, slot := 0, constantValue := 0 }, { name := "MAX_VALUE", type := .int, accessFlags := 25, slot := 1, constantValue := 0 }, { name := "TYPE", type := (.object "java/lang/Class"), accessFlags := 25, slot := 2, constantValue := 0 }, { name := "digits", type := (.array .char), accessFlags := 24, slot := 3, constantValue := 0 }, { name := "DigitTens", type := (.array .byte), accessFlags := 24, slot := 4, constantValue := 0 }, { name := "DigitOnes", type := (.array .byte), accessFlags := 24, slot := 5, constantValue := 0 }, { name := "value", type := .int, accessFlags := 18, slot := 0, constantValue := 0 }, { name := "SIZE", type := .int, accessFlags := 25, slot := 6, constantValue := 0 }, { name := "BYTES", type := .int, accessFlags := 25, slot := 7, constantValue := 0 }, { name := "serialVersionUID", type := .long, accessFlags := 26, slot := 8, constantValue := 0 }]
  methods := #[k9m0, k9m1]
  instanceTypes := #[.int]
  staticTypes := #[.int, .int, (.object "java/lang/Class"), (.array .char), (.array .byte), (.array .byte), .int, .int, .long]
  resolved := Array.replicate 453 none
  statics := none }

def pool10 : Array CpInfo := pool [(2, .class_ 4), (1, u "java/lang/Object"), (0, u "<init>"), (0, u "()V"), (0, .class_ 8), (0, u "java/lang/Integer"), (7, .class_ 18), (1, u "java/lang/Integer$IntegerCache"), (0, u "$assertionsDisabled"), (0, u "Z"), (26, u "high"), (0, u "I"), (8, u "archivedCache"), (0, u "[Ljava/lang/Integer;"), (12, u "cache"), (0, u "low")] 27

def k10m0 : Method := { name := "<init>", desc := "()V", sig := { parameters := [], returnType := none }, accessFlags := 2, code := none }
/-- java/lang/Integer$IntegerCache -/
def k10 : Class := { plain "java/lang/Integer$IntegerCache" (some 0) with
  accessFlags := 48
  interfaces := #[]
  cf := some (fileOf pool10 16 #[.nestHost 7] #[{ accessFlags := 2, nameIndex := 5, descriptorIndex := 6, attributes := #[] }] 48 2 #[] #[{ accessFlags := 24, nameIndex := 72, descriptorIndex := 48, attributes := #[] }, { accessFlags := 24, nameIndex := 47, descriptorIndex := 48, attributes := #[] }, { accessFlags := 24, nameIndex := 71, descriptorIndex := 58, attributes := #[] }, { accessFlags := 8, nameIndex := 57, descriptorIndex := 58, attributes := #[] }, { accessFlags := 4120, nameIndex := 19, descriptorIndex := 20, attributes := #[] }])
  fields := #[{ name := "low", type := .int, accessFlags := 24, slot := 0, constantValue := 0 }, { name := "high", type := .int, accessFlags := 24, slot := 1, constantValue := 0 }, { name := "cache", type := (.array (.object "java/lang/Integer")), accessFlags := 24, slot := 2, constantValue := 0 }, { name := "archivedCache", type := (.array (.object "java/lang/Integer")), accessFlags := 8, slot := 3, constantValue := 0 }, { name := "$assertionsDisabled", type := .boolean, accessFlags := 4120, slot := 4, constantValue := 0 }]
  methods := #[k10m0]
  instanceTypes := #[]
  staticTypes := #[.int, .int, (.array (.object "java/lang/Integer")), (.array (.object "java/lang/Integer")), .boolean]
  resolved := Array.replicate 100 none
  statics := some 0 }

def pool11 : Array CpInfo := pool [(2, .class_ 4), (1, u "java/lang/CharSequence"), (42, .class_ 48), (0, u "java/lang/CharSequence$1CodePointIterator"), (10, .class_ 60), (0, u "java/lang/CharSequence$1CharIterator"), (5, .class_ 67), (0, u "java/lang/Object")] 63

/-- java/lang/CharSequence -/
def k11 : Class := { plain "java/lang/CharSequence" (some 0) with
  accessFlags := 1537
  interfaces := #[]
  cf := some (fileOf pool11 2 #[.nestMembers #[47, 59]] #[] 1537 66 #[] #[])
  fields := #[]
  methods := #[]
  instanceTypes := #[]
  staticTypes := #[]
  resolved := Array.replicate 131 none
  statics := none }

def pool12 : Array CpInfo := pool [(2, .class_ 4), (1, u "java/lang/Object"), (0, u "<init>"), (0, u "()V"), (3, .class_ 12), (1, u "java/lang/String"), (0, u "value"), (0, u "[B"), (2, u "coder"), (0, u "B"), (2, u "hash"), (0, u "I"), (2, u "hashIsZero"), (0, u "Z"), (13, u "COMPACT_STRINGS"), (534, .class_ 576), (0, u "java/lang/CharSequence"), (22, u "CASE_INSENSITIVE_ORDER"), (0, u "Ljava/util/Comparator;"), (500, u "serialPersistentFields"), (0, u "[Ljava/io/ObjectStreamField;"), (0, .class_ 1104), (0, u "java/lang/String$CaseInsensitiveComparator"), (1, .class_ 1107), (0, u "java/io/Serializable"), (0, .class_ 1109), (0, u "java/lang/Comparable"), (0, .class_ 1111), (0, u "java/lang/constant/Constable"), (0, .class_ 1113), (0, u "java/lang/constant/ConstantDesc"), (2, u "serialVersionUID"), (0, u "J"), (3, u "REPL"), (0, u "C"), (2, u "LATIN1"), (1, u "UTF16")] 323

def k12m0 : Method := { name := "<init>", desc := "()V", sig := { parameters := [], returnType := none }, accessFlags := 1, code := none }
/-- java/lang/String -/
def k12 : Class := { plain "java/lang/String" (some 0) with
  accessFlags := 49
  interfaces := #[4, 6, 11, 7, 8]
  cf := some (fileOf pool12 10 #[.nestMembers #[1103]] #[{ accessFlags := 1, nameIndex := 5, descriptorIndex := 6, attributes := #[] }] 49 2 #[1106, 1108, 575, 1110, 1112] #[{ accessFlags := 18, nameIndex := 13, descriptorIndex := 14, attributes := #[] }, { accessFlags := 18, nameIndex := 17, descriptorIndex := 18, attributes := #[] }, { accessFlags := 2, nameIndex := 21, descriptorIndex := 22, attributes := #[] }, { accessFlags := 2, nameIndex := 25, descriptorIndex := 26, attributes := #[] }, { accessFlags := 26, nameIndex := 1116, descriptorIndex := 1117, attributes := #[] }, { accessFlags := 24, nameIndex := 40, descriptorIndex := 26, attributes := #[] }, { accessFlags := 26, nameIndex := 1101, descriptorIndex := 1102, attributes := #[] }, { accessFlags := 26, nameIndex := 1121, descriptorIndex := 1122, attributes := #[] }, { accessFlags := 25, nameIndex := 599, descriptorIndex := 600, attributes := #[] }, { accessFlags := 24, nameIndex := 1125, descriptorIndex := 18, attributes := #[] }, { accessFlags := 24, nameIndex := 1127, descriptorIndex := 18, attributes := #[] }])
  fields := #[{ name := "value", type := (.array .byte), accessFlags := 18, slot := 0, constantValue := 0 }, { name := "coder", type := .byte, accessFlags := 18, slot := 1, constantValue := 0 }, { name := "hash", type := .int, accessFlags := 2, slot := 2, constantValue := 0 }, { name := "hashIsZero", type := .boolean, accessFlags := 2, slot := 3, constantValue := 0 }, { name := "serialVersionUID", type := .long, accessFlags := 26, slot := 0, constantValue := 0 }, { name := "COMPACT_STRINGS", type := .boolean, accessFlags := 24, slot := 1, constantValue := 0 }, { name := "serialPersistentFields", type := (.array (.object "java/io/ObjectStreamField")), accessFlags := 26, slot := 2, constantValue := 0 }, { name := "REPL", type := .char, accessFlags := 26, slot := 3, constantValue := 0 }, { name := "CASE_INSENSITIVE_ORDER", type := (.object "java/util/Comparator"), accessFlags := 25, slot := 4, constantValue := 0 }, { name := "LATIN1", type := .byte, accessFlags := 24, slot := 5, constantValue := 0 }, { name := "UTF16", type := .byte, accessFlags := 24, slot := 6, constantValue := 0 }]
  methods := #[k12m0]
  instanceTypes := #[(.array .byte), .byte, .int, .boolean]
  staticTypes := #[.long, .boolean, (.array (.object "java/io/ObjectStreamField")), .char, (.object "java/util/Comparator"), .byte, .byte]
  resolved := Array.replicate 1451 none
  statics := none }

def pool13 : Array CpInfo := pool [(2, .class_ 4), (1, u "java/lang/Object"), (0, u "<init>"), (0, u "()V"), (35, .class_ 44), (1, u "java/util/Objects"), (0, u "requireNonNull"), (48, u "(Ljava/lang/Object;Ljava/lang/String;)Ljava/lang/Object;")] 89

def k13m0 : Method := { name := "<init>", desc := "()V", sig := { parameters := [], returnType := none }, accessFlags := 2, code := none }
def k13c1 : Code := { maxStack := 3, maxLocals := 2, code := jdk_31_method_11_code, exceptionTable := #[], attributes := #[] }
def k13m1 : Method := { name := "requireNonNull", desc := "(Ljava/lang/Object;Ljava/lang/String;)Ljava/lang/Object;", sig := { parameters := [(.object "java/lang/Object"), (.object "java/lang/String")], returnType := some (.object "java/lang/Object") }, accessFlags := 9, code := some k13c1 }
/-- java/util/Objects -/
def k13 : Class := { plain "java/util/Objects" (some 0) with
  accessFlags := 49
  interfaces := #[]
  cf := some (fileOf pool13 42 #[] #[{ accessFlags := 2, nameIndex := 5, descriptorIndex := 6, attributes := #[] }, { accessFlags := 9, nameIndex := 45, descriptorIndex := 94, attributes := #[] }] 49 2 #[] #[])
  fields := #[]
  methods := #[k13m0, k13m1]
  instanceTypes := #[]
  staticTypes := #[]
  resolved := Array.replicate 184 none
  statics := none }

def pool14 : Array CpInfo := pool [(1, u "java/lang/Cloneable"), (0, .class_ 1), (0, u "java/lang/Object"), (0, .class_ 3)] 3

/-- java/lang/Cloneable -/
def k14 : Class := { plain "java/lang/Cloneable" (some 0) with
  accessFlags := 1537
  interfaces := #[]
  cf := some (fileOf pool14 2 #[] #[] 1537 4 #[] #[])
  fields := #[]
  methods := #[]
  instanceTypes := #[]
  staticTypes := #[]
  resolved := Array.replicate 8 none
  statics := none }

/-- the primitive byte -/
def k15 : Class := { plain "byte" none with kind := .primitive 'B', accessFlags := 0x411 }
/-- [B -/
def k16 : Class := { plain "[B" (some 0) with kind := .array 15 .byte, interfaces := #[14, 4], accessFlags := 1041 }

/-- the primitive int -/
def k17 : Class := { plain "int" none with kind := .primitive 'I', accessFlags := 0x411 }
/-- [I -/
def k18 : Class := { plain "[I" (some 0) with kind := .array 17 .int, interfaces := #[14, 4], accessFlags := 1041 }

/-- [Ljava/lang/Integer; -/
def k19 : Class := { plain "[Ljava/lang/Integer;" (some 0) with kind := .array 9 (.object "java/lang/Integer"), interfaces := #[14, 4], accessFlags := 1041 }

def heap : Heap := #[{ cls := 10, slots := #[.int 0, .int 127, .ref 1, .null, .int 0], vm := .statics 10 },
  { cls := 19, slots := #[.ref 2, .ref 3, .ref 4, .ref 5, .ref 6, .ref 7, .ref 8, .ref 9, .ref 10, .ref 11, .ref 12, .ref 13, .ref 14, .ref 15, .ref 16, .ref 17, .ref 18, .ref 19, .ref 20, .ref 21, .ref 22, .ref 23, .ref 24, .ref 25, .ref 26, .ref 27, .ref 28, .ref 29, .ref 30, .ref 31, .ref 32, .ref 33, .ref 34, .ref 35, .ref 36, .ref 37, .ref 38, .ref 39, .ref 40, .ref 41, .ref 42, .ref 43, .ref 44, .ref 45, .ref 46, .ref 47, .ref 48, .ref 49, .ref 50, .ref 51, .ref 52, .ref 53, .ref 54, .ref 55, .ref 56, .ref 57, .ref 58, .ref 59, .ref 60, .ref 61, .ref 62, .ref 63, .ref 64, .ref 65, .ref 66, .ref 67, .ref 68, .ref 69, .ref 70, .ref 71, .ref 72, .ref 73, .ref 74, .ref 75, .ref 76, .ref 77, .ref 78, .ref 79, .ref 80, .ref 81, .ref 82, .ref 83, .ref 84, .ref 85, .ref 86, .ref 87, .ref 88, .ref 89, .ref 90, .ref 91, .ref 92, .ref 93, .ref 94, .ref 95, .ref 96, .ref 97, .ref 98, .ref 99, .ref 100, .ref 101, .ref 102, .ref 103, .ref 104, .ref 105, .ref 106, .ref 107, .ref 108, .ref 109, .ref 110, .ref 111, .ref 112, .ref 113, .ref 114, .ref 115, .ref 116, .ref 117, .ref 118, .ref 119, .ref 120, .ref 121, .ref 122, .ref 123, .ref 124, .ref 125, .ref 126, .ref 127, .ref 128, .ref 129, .ref 130, .ref 131, .ref 132, .ref 133, .ref 134, .ref 135, .ref 136, .ref 137, .ref 138, .ref 139, .ref 140, .ref 141, .ref 142, .ref 143, .ref 144, .ref 145, .ref 146, .ref 147, .ref 148, .ref 149, .ref 150, .ref 151, .ref 152, .ref 153, .ref 154, .ref 155, .ref 156, .ref 157, .ref 158, .ref 159, .ref 160, .ref 161, .ref 162, .ref 163, .ref 164, .ref 165, .ref 166, .ref 167, .ref 168, .ref 169, .ref 170, .ref 171, .ref 172, .ref 173, .ref 174, .ref 175, .ref 176, .ref 177, .ref 178, .ref 179, .ref 180, .ref 181, .ref 182, .ref 183, .ref 184, .ref 185, .ref 186, .ref 187, .ref 188, .ref 189, .ref 190, .ref 191, .ref 192, .ref 193, .ref 194, .ref 195, .ref 196, .ref 197, .ref 198, .ref 199, .ref 200, .ref 201, .ref 202, .ref 203, .ref 204, .ref 205, .ref 206, .ref 207, .ref 208, .ref 209, .ref 210, .ref 211, .ref 212, .ref 213, .ref 214, .ref 215, .ref 216, .ref 217, .ref 218, .ref 219, .ref 220, .ref 221, .ref 222, .ref 223, .ref 224, .ref 225, .ref 226, .ref 227, .ref 228, .ref 229, .ref 230, .ref 231, .ref 232, .ref 233, .ref 234, .ref 235, .ref 236, .ref 237, .ref 238, .ref 239, .ref 240, .ref 241, .ref 242, .ref 243, .ref 244, .ref 245, .ref 246, .ref 247, .ref 248, .ref 249, .ref 250, .ref 251, .ref 252, .ref 253, .ref 254, .ref 255, .ref 256, .ref 257], vm := .none },
  { cls := 9, slots := #[.int (-128)], vm := .none },
  { cls := 9, slots := #[.int (-127)], vm := .none },
  { cls := 9, slots := #[.int (-126)], vm := .none },
  { cls := 9, slots := #[.int (-125)], vm := .none },
  { cls := 9, slots := #[.int (-124)], vm := .none },
  { cls := 9, slots := #[.int (-123)], vm := .none },
  { cls := 9, slots := #[.int (-122)], vm := .none },
  { cls := 9, slots := #[.int (-121)], vm := .none },
  { cls := 9, slots := #[.int (-120)], vm := .none },
  { cls := 9, slots := #[.int (-119)], vm := .none },
  { cls := 9, slots := #[.int (-118)], vm := .none },
  { cls := 9, slots := #[.int (-117)], vm := .none },
  { cls := 9, slots := #[.int (-116)], vm := .none },
  { cls := 9, slots := #[.int (-115)], vm := .none },
  { cls := 9, slots := #[.int (-114)], vm := .none },
  { cls := 9, slots := #[.int (-113)], vm := .none },
  { cls := 9, slots := #[.int (-112)], vm := .none },
  { cls := 9, slots := #[.int (-111)], vm := .none },
  { cls := 9, slots := #[.int (-110)], vm := .none },
  { cls := 9, slots := #[.int (-109)], vm := .none },
  { cls := 9, slots := #[.int (-108)], vm := .none },
  { cls := 9, slots := #[.int (-107)], vm := .none },
  { cls := 9, slots := #[.int (-106)], vm := .none },
  { cls := 9, slots := #[.int (-105)], vm := .none },
  { cls := 9, slots := #[.int (-104)], vm := .none },
  { cls := 9, slots := #[.int (-103)], vm := .none },
  { cls := 9, slots := #[.int (-102)], vm := .none },
  { cls := 9, slots := #[.int (-101)], vm := .none },
  { cls := 9, slots := #[.int (-100)], vm := .none },
  { cls := 9, slots := #[.int (-99)], vm := .none },
  { cls := 9, slots := #[.int (-98)], vm := .none },
  { cls := 9, slots := #[.int (-97)], vm := .none },
  { cls := 9, slots := #[.int (-96)], vm := .none },
  { cls := 9, slots := #[.int (-95)], vm := .none },
  { cls := 9, slots := #[.int (-94)], vm := .none },
  { cls := 9, slots := #[.int (-93)], vm := .none },
  { cls := 9, slots := #[.int (-92)], vm := .none },
  { cls := 9, slots := #[.int (-91)], vm := .none },
  { cls := 9, slots := #[.int (-90)], vm := .none },
  { cls := 9, slots := #[.int (-89)], vm := .none },
  { cls := 9, slots := #[.int (-88)], vm := .none },
  { cls := 9, slots := #[.int (-87)], vm := .none },
  { cls := 9, slots := #[.int (-86)], vm := .none },
  { cls := 9, slots := #[.int (-85)], vm := .none },
  { cls := 9, slots := #[.int (-84)], vm := .none },
  { cls := 9, slots := #[.int (-83)], vm := .none },
  { cls := 9, slots := #[.int (-82)], vm := .none },
  { cls := 9, slots := #[.int (-81)], vm := .none },
  { cls := 9, slots := #[.int (-80)], vm := .none },
  { cls := 9, slots := #[.int (-79)], vm := .none },
  { cls := 9, slots := #[.int (-78)], vm := .none },
  { cls := 9, slots := #[.int (-77)], vm := .none },
  { cls := 9, slots := #[.int (-76)], vm := .none },
  { cls := 9, slots := #[.int (-75)], vm := .none },
  { cls := 9, slots := #[.int (-74)], vm := .none },
  { cls := 9, slots := #[.int (-73)], vm := .none },
  { cls := 9, slots := #[.int (-72)], vm := .none },
  { cls := 9, slots := #[.int (-71)], vm := .none },
  { cls := 9, slots := #[.int (-70)], vm := .none },
  { cls := 9, slots := #[.int (-69)], vm := .none },
  { cls := 9, slots := #[.int (-68)], vm := .none },
  { cls := 9, slots := #[.int (-67)], vm := .none },
  { cls := 9, slots := #[.int (-66)], vm := .none },
  { cls := 9, slots := #[.int (-65)], vm := .none },
  { cls := 9, slots := #[.int (-64)], vm := .none },
  { cls := 9, slots := #[.int (-63)], vm := .none },
  { cls := 9, slots := #[.int (-62)], vm := .none },
  { cls := 9, slots := #[.int (-61)], vm := .none },
  { cls := 9, slots := #[.int (-60)], vm := .none },
  { cls := 9, slots := #[.int (-59)], vm := .none },
  { cls := 9, slots := #[.int (-58)], vm := .none },
  { cls := 9, slots := #[.int (-57)], vm := .none },
  { cls := 9, slots := #[.int (-56)], vm := .none },
  { cls := 9, slots := #[.int (-55)], vm := .none },
  { cls := 9, slots := #[.int (-54)], vm := .none },
  { cls := 9, slots := #[.int (-53)], vm := .none },
  { cls := 9, slots := #[.int (-52)], vm := .none },
  { cls := 9, slots := #[.int (-51)], vm := .none },
  { cls := 9, slots := #[.int (-50)], vm := .none },
  { cls := 9, slots := #[.int (-49)], vm := .none },
  { cls := 9, slots := #[.int (-48)], vm := .none },
  { cls := 9, slots := #[.int (-47)], vm := .none },
  { cls := 9, slots := #[.int (-46)], vm := .none },
  { cls := 9, slots := #[.int (-45)], vm := .none },
  { cls := 9, slots := #[.int (-44)], vm := .none },
  { cls := 9, slots := #[.int (-43)], vm := .none },
  { cls := 9, slots := #[.int (-42)], vm := .none },
  { cls := 9, slots := #[.int (-41)], vm := .none },
  { cls := 9, slots := #[.int (-40)], vm := .none },
  { cls := 9, slots := #[.int (-39)], vm := .none },
  { cls := 9, slots := #[.int (-38)], vm := .none },
  { cls := 9, slots := #[.int (-37)], vm := .none },
  { cls := 9, slots := #[.int (-36)], vm := .none },
  { cls := 9, slots := #[.int (-35)], vm := .none },
  { cls := 9, slots := #[.int (-34)], vm := .none },
  { cls := 9, slots := #[.int (-33)], vm := .none },
  { cls := 9, slots := #[.int (-32)], vm := .none },
  { cls := 9, slots := #[.int (-31)], vm := .none },
  { cls := 9, slots := #[.int (-30)], vm := .none },
  { cls := 9, slots := #[.int (-29)], vm := .none },
  { cls := 9, slots := #[.int (-28)], vm := .none },
  { cls := 9, slots := #[.int (-27)], vm := .none },
  { cls := 9, slots := #[.int (-26)], vm := .none },
  { cls := 9, slots := #[.int (-25)], vm := .none },
  { cls := 9, slots := #[.int (-24)], vm := .none },
  { cls := 9, slots := #[.int (-23)], vm := .none },
  { cls := 9, slots := #[.int (-22)], vm := .none },
  { cls := 9, slots := #[.int (-21)], vm := .none },
  { cls := 9, slots := #[.int (-20)], vm := .none },
  { cls := 9, slots := #[.int (-19)], vm := .none },
  { cls := 9, slots := #[.int (-18)], vm := .none },
  { cls := 9, slots := #[.int (-17)], vm := .none },
  { cls := 9, slots := #[.int (-16)], vm := .none },
  { cls := 9, slots := #[.int (-15)], vm := .none },
  { cls := 9, slots := #[.int (-14)], vm := .none },
  { cls := 9, slots := #[.int (-13)], vm := .none },
  { cls := 9, slots := #[.int (-12)], vm := .none },
  { cls := 9, slots := #[.int (-11)], vm := .none },
  { cls := 9, slots := #[.int (-10)], vm := .none },
  { cls := 9, slots := #[.int (-9)], vm := .none },
  { cls := 9, slots := #[.int (-8)], vm := .none },
  { cls := 9, slots := #[.int (-7)], vm := .none },
  { cls := 9, slots := #[.int (-6)], vm := .none },
  { cls := 9, slots := #[.int (-5)], vm := .none },
  { cls := 9, slots := #[.int (-4)], vm := .none },
  { cls := 9, slots := #[.int (-3)], vm := .none },
  { cls := 9, slots := #[.int (-2)], vm := .none },
  { cls := 9, slots := #[.int (-1)], vm := .none },
  { cls := 9, slots := #[.int 0], vm := .none },
  { cls := 9, slots := #[.int 1], vm := .none },
  { cls := 9, slots := #[.int 2], vm := .none },
  { cls := 9, slots := #[.int 3], vm := .none },
  { cls := 9, slots := #[.int 4], vm := .none },
  { cls := 9, slots := #[.int 5], vm := .none },
  { cls := 9, slots := #[.int 6], vm := .none },
  { cls := 9, slots := #[.int 7], vm := .none },
  { cls := 9, slots := #[.int 8], vm := .none },
  { cls := 9, slots := #[.int 9], vm := .none },
  { cls := 9, slots := #[.int 10], vm := .none },
  { cls := 9, slots := #[.int 11], vm := .none },
  { cls := 9, slots := #[.int 12], vm := .none },
  { cls := 9, slots := #[.int 13], vm := .none },
  { cls := 9, slots := #[.int 14], vm := .none },
  { cls := 9, slots := #[.int 15], vm := .none },
  { cls := 9, slots := #[.int 16], vm := .none },
  { cls := 9, slots := #[.int 17], vm := .none },
  { cls := 9, slots := #[.int 18], vm := .none },
  { cls := 9, slots := #[.int 19], vm := .none },
  { cls := 9, slots := #[.int 20], vm := .none },
  { cls := 9, slots := #[.int 21], vm := .none },
  { cls := 9, slots := #[.int 22], vm := .none },
  { cls := 9, slots := #[.int 23], vm := .none },
  { cls := 9, slots := #[.int 24], vm := .none },
  { cls := 9, slots := #[.int 25], vm := .none },
  { cls := 9, slots := #[.int 26], vm := .none },
  { cls := 9, slots := #[.int 27], vm := .none },
  { cls := 9, slots := #[.int 28], vm := .none },
  { cls := 9, slots := #[.int 29], vm := .none },
  { cls := 9, slots := #[.int 30], vm := .none },
  { cls := 9, slots := #[.int 31], vm := .none },
  { cls := 9, slots := #[.int 32], vm := .none },
  { cls := 9, slots := #[.int 33], vm := .none },
  { cls := 9, slots := #[.int 34], vm := .none },
  { cls := 9, slots := #[.int 35], vm := .none },
  { cls := 9, slots := #[.int 36], vm := .none },
  { cls := 9, slots := #[.int 37], vm := .none },
  { cls := 9, slots := #[.int 38], vm := .none },
  { cls := 9, slots := #[.int 39], vm := .none },
  { cls := 9, slots := #[.int 40], vm := .none },
  { cls := 9, slots := #[.int 41], vm := .none },
  { cls := 9, slots := #[.int 42], vm := .none },
  { cls := 9, slots := #[.int 43], vm := .none },
  { cls := 9, slots := #[.int 44], vm := .none },
  { cls := 9, slots := #[.int 45], vm := .none },
  { cls := 9, slots := #[.int 46], vm := .none },
  { cls := 9, slots := #[.int 47], vm := .none },
  { cls := 9, slots := #[.int 48], vm := .none },
  { cls := 9, slots := #[.int 49], vm := .none },
  { cls := 9, slots := #[.int 50], vm := .none },
  { cls := 9, slots := #[.int 51], vm := .none },
  { cls := 9, slots := #[.int 52], vm := .none },
  { cls := 9, slots := #[.int 53], vm := .none },
  { cls := 9, slots := #[.int 54], vm := .none },
  { cls := 9, slots := #[.int 55], vm := .none },
  { cls := 9, slots := #[.int 56], vm := .none },
  { cls := 9, slots := #[.int 57], vm := .none },
  { cls := 9, slots := #[.int 58], vm := .none },
  { cls := 9, slots := #[.int 59], vm := .none },
  { cls := 9, slots := #[.int 60], vm := .none },
  { cls := 9, slots := #[.int 61], vm := .none },
  { cls := 9, slots := #[.int 62], vm := .none },
  { cls := 9, slots := #[.int 63], vm := .none },
  { cls := 9, slots := #[.int 64], vm := .none },
  { cls := 9, slots := #[.int 65], vm := .none },
  { cls := 9, slots := #[.int 66], vm := .none },
  { cls := 9, slots := #[.int 67], vm := .none },
  { cls := 9, slots := #[.int 68], vm := .none },
  { cls := 9, slots := #[.int 69], vm := .none },
  { cls := 9, slots := #[.int 70], vm := .none },
  { cls := 9, slots := #[.int 71], vm := .none },
  { cls := 9, slots := #[.int 72], vm := .none },
  { cls := 9, slots := #[.int 73], vm := .none },
  { cls := 9, slots := #[.int 74], vm := .none },
  { cls := 9, slots := #[.int 75], vm := .none },
  { cls := 9, slots := #[.int 76], vm := .none },
  { cls := 9, slots := #[.int 77], vm := .none },
  { cls := 9, slots := #[.int 78], vm := .none },
  { cls := 9, slots := #[.int 79], vm := .none },
  { cls := 9, slots := #[.int 80], vm := .none },
  { cls := 9, slots := #[.int 81], vm := .none },
  { cls := 9, slots := #[.int 82], vm := .none },
  { cls := 9, slots := #[.int 83], vm := .none },
  { cls := 9, slots := #[.int 84], vm := .none },
  { cls := 9, slots := #[.int 85], vm := .none },
  { cls := 9, slots := #[.int 86], vm := .none },
  { cls := 9, slots := #[.int 87], vm := .none },
  { cls := 9, slots := #[.int 88], vm := .none },
  { cls := 9, slots := #[.int 89], vm := .none },
  { cls := 9, slots := #[.int 90], vm := .none },
  { cls := 9, slots := #[.int 91], vm := .none },
  { cls := 9, slots := #[.int 92], vm := .none },
  { cls := 9, slots := #[.int 93], vm := .none },
  { cls := 9, slots := #[.int 94], vm := .none },
  { cls := 9, slots := #[.int 95], vm := .none },
  { cls := 9, slots := #[.int 96], vm := .none },
  { cls := 9, slots := #[.int 97], vm := .none },
  { cls := 9, slots := #[.int 98], vm := .none },
  { cls := 9, slots := #[.int 99], vm := .none },
  { cls := 9, slots := #[.int 100], vm := .none },
  { cls := 9, slots := #[.int 101], vm := .none },
  { cls := 9, slots := #[.int 102], vm := .none },
  { cls := 9, slots := #[.int 103], vm := .none },
  { cls := 9, slots := #[.int 104], vm := .none },
  { cls := 9, slots := #[.int 105], vm := .none },
  { cls := 9, slots := #[.int 106], vm := .none },
  { cls := 9, slots := #[.int 107], vm := .none },
  { cls := 9, slots := #[.int 108], vm := .none },
  { cls := 9, slots := #[.int 109], vm := .none },
  { cls := 9, slots := #[.int 110], vm := .none },
  { cls := 9, slots := #[.int 111], vm := .none },
  { cls := 9, slots := #[.int 112], vm := .none },
  { cls := 9, slots := #[.int 113], vm := .none },
  { cls := 9, slots := #[.int 114], vm := .none },
  { cls := 9, slots := #[.int 115], vm := .none },
  { cls := 9, slots := #[.int 116], vm := .none },
  { cls := 9, slots := #[.int 117], vm := .none },
  { cls := 9, slots := #[.int 118], vm := .none },
  { cls := 9, slots := #[.int 119], vm := .none },
  { cls := 9, slots := #[.int 120], vm := .none },
  { cls := 9, slots := #[.int 121], vm := .none },
  { cls := 9, slots := #[.int 122], vm := .none },
  { cls := 9, slots := #[.int 123], vm := .none },
  { cls := 9, slots := #[.int 124], vm := .none },
  { cls := 9, slots := #[.int 125], vm := .none },
  { cls := 9, slots := #[.int 126], vm := .none },
  { cls := 9, slots := #[.int 127], vm := .none }]
def classes : Array Class := #[k0, k1, k2, k3, k4, k5, k6, k7, k8, k9, k10, k11, k12, k13, k14, k15, k16, k17, k18, k19]
def interned : List (Array UInt16 × Addr) := []
def slotsUsed : Nat := 517
def theMethod : MethodId := ⟨1, 1⟩
def args0 : Array Value := #[.int 5, .int 6]
def aboutOver (below : List Frame) : State where
  vm := { classes := classes, interned := interned.toArray }
  heap := heap
  slotsUsed := slotsUsed
  threads := #[{ frames := .invoking theMethod args0 :: below }]
def below0 : List Frame := [.native { method := ⟨0, 0⟩, args := #[] }]
def about1 : State := aboutOver below0
def p0 : Program := .bare "" "" ""
def e0 : Env := launch0.env 0 0 0
theorem w_frames : about1.frames = Frame.invoking theMethod args0 :: below0 := rfl
set_option maxRecDepth 65536 in
theorem w_args : argsFit about1.vm theMethod args0 = true := by decide +kernel
set_option maxRecDepth 65536 in
theorem w_heap : heapFits about1 = true := by decide +kernel
set_option maxRecDepth 65536 in
theorem w_runnable : about1.curStatus? = some .runnable := by decide +kernel
set_option maxRecDepth 65536 in
theorem w_alone : about1.alone = true := by decide +kernel
set_option maxRecDepth 65536 in
theorem w_named : about1.methodNamed? x = some theMethod := by decide +kernel
set_option maxRecDepth 65536 in
theorem w_hears : about1.hears theMethod below0 = true := by decide +kernel
set_option maxRecDepth 65536 in
theorem w_ripe : about1.ripe theMethod args0 below0 = true := by decide +kernel
theorem w_running : about1.status = .running := rfl
set_option maxRecDepth 65536 in
theorem w_room : about1.hasRoom e0.platform room_1 = true :=
  launch0.hasRoom_least _ room_1 (by decide +kernel) (by decide +kernel) (by decide +kernel) (by decide +kernel) (by decide +kernel) (by decide +kernel)
theorem allAtoms_all (ts : List Jvm.Cond) (a : Array Jvm.Value) (st : Jvm.State) : (allAtoms ts).before a st = ts.all (fun c => c.before a st) := by
  induction ts with
  | nil => rfl
  | cons c t ih =>
    show (Jvm.Cond.and c (allAtoms t)).before a st = _
    rw [Jvm.Cond.before_and, ih, List.all_cons]
def words1 : List Jvm.Cond := Jvm.Cond.code x code maxLocals ret :: tables_1
/-- a 'code' word, met by the world's own term for the bytes: nothing is compared byte by byte -/
theorem code_word {y : MethodName} {bytes : ByteArray} {mx : Nat} {rt : Option FieldType} {a : Array Value} {s : State} {m : MethodId} {meth : Method} {c : Code} (h1 : s.methodNamed? y = some m) (h2 : s.vm.method? m = some meth) (h3 : meth.code = some c) (h4 : c.code = bytes)
    (h5 : (c.maxLocals == mx && c.exceptionTable.isEmpty && decide (c.maxStack ≤ mostOperands) && decide (meth.sig.returnType = rt) && !meth.locks && decide (parseMethodDescriptor y.desc = some meth.sig)) = true) : (Jvm.Cond.code y bytes mx rt).before a s = true := by
  simp only [Bool.and_eq_true, beq_iff_eq, Bool.not_eq_true', decide_eq_true_eq] at h5
  obtain ⟨⟨⟨⟨⟨g1, g2⟩, g3⟩, g4⟩, g5⟩, g6⟩ := h5
  simp [Cond.before, Cond.holds, Cond.value, h1, h2, h3, h4, g1, g2, g3, g4, g5, g6]
def isCode : Jvm.Cond → Bool
  | .code _ _ _ _ => true
  | _ => false
theorem all_split {L : List Jvm.Cond} {P : Jvm.Cond → Bool} (h1 : L.all (fun c => isCode c || P c) = true) (h2 : ∀ c ∈ L.filter isCode, P c = true) : L.all P = true := by
  refine List.all_eq_true.mpr fun c hc => ?_
  have h := List.all_eq_true.mp h1 c hc
  rcases Bool.eq_false_or_eq_true (isCode c) with hi | hi
  · exact h2 c (List.mem_filter.mpr ⟨hc, hi⟩)
  · simpa [hi] using h
set_option maxRecDepth 65536 in
theorem w_c0 : (Jvm.Cond.code x code maxLocals ret).before args0 about1 = true := code_word (m := ⟨1, 1⟩) (meth := k1m1) (c := k1c1) (by decide +kernel) rfl rfl rfl (by decide +kernel)
set_option maxRecDepth 65536 in
theorem w_c1 : (Jvm.Cond.code ({ cls := "java/lang/Integer", name := "valueOf", desc := "(I)Ljava/lang/Integer;" } : Jvm.MethodName) jdk_33_method_22_code (1 : Nat) (Option.some (Jvm.ClassFile.FieldType.object "java/lang/Integer"))).before args0 about1 = true := code_word (m := ⟨9, 0⟩) (meth := k9m0) (c := k9c0) (by decide +kernel) rfl rfl rfl (by decide +kernel)
set_option maxRecDepth 65536 in
theorem w_c2 : (Jvm.Cond.code ({ cls := "com/example/menshen/menshen/policy/Scope", name := "<init>", desc := "(Ljava/lang/Object;Z)V" } : Jvm.MethodName) prog_32_method_1_code (3 : Nat) (Option.none : Option Jvm.ClassFile.FieldType)).before args0 about1 = true := code_word (m := ⟨3, 0⟩) (meth := k3m0) (c := k3c0) (by decide +kernel) rfl rfl rfl (by decide +kernel)
set_option maxRecDepth 65536 in
theorem w_c3 : (Jvm.Cond.code ({ cls := "java/lang/Record", name := "<init>", desc := "()V" } : Jvm.MethodName) jdk_30_method_1_code (1 : Nat) (Option.none : Option Jvm.ClassFile.FieldType)).before args0 about1 = true := code_word (m := ⟨2, 0⟩) (meth := k2m0) (c := k2c0) (by decide +kernel) rfl rfl rfl (by decide +kernel)
set_option maxRecDepth 65536 in
theorem w_c4 : (Jvm.Cond.code ({ cls := "java/lang/Object", name := "<init>", desc := "()V" } : Jvm.MethodName) object_method_1_code (1 : Nat) (Option.none : Option Jvm.ClassFile.FieldType)).before args0 about1 = true := code_word (m := ⟨0, 0⟩) (meth := k0m0) (c := k0c0) (by decide +kernel) rfl rfl rfl (by decide +kernel)
set_option maxRecDepth 65536 in
theorem w_c5 : (Jvm.Cond.code ({ cls := "java/util/Objects", name := "requireNonNull", desc := "(Ljava/lang/Object;Ljava/lang/String;)Ljava/lang/Object;" } : Jvm.MethodName) jdk_31_method_11_code (2 : Nat) (Option.some (Jvm.ClassFile.FieldType.object "java/lang/Object"))).before args0 about1 = true := code_word (m := ⟨13, 1⟩) (meth := k13m1) (c := k13c1) (by decide +kernel) rfl rfl rfl (by decide +kernel)
set_option maxRecDepth 65536 in
theorem w_c6 : (Jvm.Cond.code ({ cls := "com/example/menshen/menshen/policy/Scope", name := "takesIn", desc := "(Z)Z" } : Jvm.MethodName) prog_32_method_3_code (2 : Nat) (Option.some Jvm.ClassFile.FieldType.boolean)).before args0 about1 = true := code_word (m := ⟨3, 1⟩) (meth := k3m1) (c := k3c1) (by decide +kernel) rfl rfl rfl (by decide +kernel)
set_option maxRecDepth 65536 in
theorem w_c7 : (Jvm.Cond.code ({ cls := "java/lang/Integer", name := "<init>", desc := "(I)V" } : Jvm.MethodName) jdk_33_method_23_code (2 : Nat) (Option.none : Option Jvm.ClassFile.FieldType)).before args0 about1 = true := code_word (m := ⟨9, 1⟩) (meth := k9m1) (c := k9c1) (by decide +kernel) rfl rfl rfl (by decide +kernel)
set_option maxRecDepth 65536 in
theorem w_c8 : (Jvm.Cond.code ({ cls := "java/lang/Number", name := "<init>", desc := "()V" } : Jvm.MethodName) jdk_18_method_1_code (1 : Nat) (Option.none : Option Jvm.ClassFile.FieldType)).before args0 about1 = true := code_word (m := ⟨5, 0⟩) (meth := k5m0) (c := k5c0) (by decide +kernel) rfl rfl rfl (by decide +kernel)
def codes1 : List Jvm.Cond := [Jvm.Cond.code x code maxLocals ret, Jvm.Cond.code ({ cls := "java/lang/Integer", name := "valueOf", desc := "(I)Ljava/lang/Integer;" } : Jvm.MethodName) jdk_33_method_22_code (1 : Nat) (Option.some (Jvm.ClassFile.FieldType.object "java/lang/Integer")), Jvm.Cond.code ({ cls := "com/example/menshen/menshen/policy/Scope", name := "<init>", desc := "(Ljava/lang/Object;Z)V" } : Jvm.MethodName) prog_32_method_1_code (3 : Nat) (Option.none : Option Jvm.ClassFile.FieldType), Jvm.Cond.code ({ cls := "java/lang/Record", name := "<init>", desc := "()V" } : Jvm.MethodName) jdk_30_method_1_code (1 : Nat) (Option.none : Option Jvm.ClassFile.FieldType), Jvm.Cond.code ({ cls := "java/lang/Object", name := "<init>", desc := "()V" } : Jvm.MethodName) object_method_1_code (1 : Nat) (Option.none : Option Jvm.ClassFile.FieldType), Jvm.Cond.code ({ cls := "java/util/Objects", name := "requireNonNull", desc := "(Ljava/lang/Object;Ljava/lang/String;)Ljava/lang/Object;" } : Jvm.MethodName) jdk_31_method_11_code (2 : Nat) (Option.some (Jvm.ClassFile.FieldType.object "java/lang/Object")), Jvm.Cond.code ({ cls := "com/example/menshen/menshen/policy/Scope", name := "takesIn", desc := "(Z)Z" } : Jvm.MethodName) prog_32_method_3_code (2 : Nat) (Option.some Jvm.ClassFile.FieldType.boolean), Jvm.Cond.code ({ cls := "java/lang/Integer", name := "<init>", desc := "(I)V" } : Jvm.MethodName) jdk_33_method_23_code (2 : Nat) (Option.none : Option Jvm.ClassFile.FieldType), Jvm.Cond.code ({ cls := "java/lang/Number", name := "<init>", desc := "()V" } : Jvm.MethodName) jdk_18_method_1_code (1 : Nat) (Option.none : Option Jvm.ClassFile.FieldType)]
set_option maxRecDepth 65536 in
theorem codes_eq : words1.filter isCode = codes1 := rfl
theorem w_codes : ∀ c ∈ words1.filter isCode, c.before args0 about1 = true := by
  rw [codes_eq]
  intro c hc
  simp only [codes1, List.mem_cons, List.not_mem_nil, or_false] at hc
  rcases hc with rfl | rfl | rfl | rfl | rfl | rfl | rfl | rfl | rfl
  · exact w_c0
  · exact w_c1
  · exact w_c2
  · exact w_c3
  · exact w_c4
  · exact w_c5
  · exact w_c6
  · exact w_c7
  · exact w_c8
set_option maxRecDepth 65536 in
theorem w_t1 : (words1.take 24).all (fun c => isCode c || c.before args0 about1) = true := by decide +kernel
set_option maxRecDepth 65536 in
theorem w_t2 : ((words1.drop 24).take 24).all (fun c => isCode c || c.before args0 about1) = true := by decide +kernel
set_option maxRecDepth 65536 in
theorem w_t3 : ((words1.drop 24).drop 24).all (fun c => isCode c || c.before args0 about1) = true := by decide +kernel
theorem w_tables : (allAtoms (Jvm.Cond.code x code maxLocals ret :: tables_1)).before args0 about1 = true := by
  rw [allAtoms_all]
  show words1.all (fun c => c.before args0 about1) = true
  refine all_split ?_ w_codes
  rw [← List.take_append_drop 24 words1, List.all_append, w_t1, ← List.take_append_drop 24 (words1.drop 24), List.all_append, w_t2, w_t3]
  rfl
set_option maxRecDepth 65536 in
theorem w_rest : rest_1_c.before args0 about1 = true := by decide +kernel
set_option maxRecDepth 65536 in
theorem w_case : (Jvm.Cond.and given_1 narrow_1).before args0 about1 = true := by decide +kernel
theorem w_applies : (headSpec (Jvm.Cond.code x code maxLocals ret :: tables_1) room_1).applies x e0.platform about1 = true :=
  (Spec.applies_iff w_frames).mpr ⟨w_running, w_runnable, w_alone, w_named, w_hears, w_ripe, w_room, w_tables⟩
theorem atStart : AtStart classFile x code maxLocals ret World_1 tables_1 room_1 Calls_1 rest_1 Pre_1 launch0 p0 e0 about1 theMethod args0 below0 :=
  ⟨lists_1, trivial, launch0.admits_env _ _ _, launch0.least_env, fairChoices_fair.cas, fairChoices_fair.clock, w_frames, w_args, w_heap, w_applies, trivial, w_rest, w_case⟩
end start1
theorem witness_1 : WitnessClaimed_1 := ⟨start1.p0, start1.e0, start1.about1, start1.theMethod, start1.args0, start1.below0, start1.atStart⟩
end Jvm.Pilot.@@N@@
