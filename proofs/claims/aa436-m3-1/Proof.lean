import JvmDerived
import JvmDerived.Pilot.@@N@@Statement
import JvmDerived.Pilot.@@N@@Code
set_option linter.unusedVariables false
set_option linter.unusedSimpArgs false
namespace Jvm.Pilot.@@N@@
open Jvm Jvm.ClassFile Sem Op Lib Jvm.Free Jvm.Stand Jvm.LawKit Jvm.RoadKit Bundle Jvm.Pilot.@@N@@.Jvm.D
section OwnGo
variable {p : Program} {l : Launch} {e : Env} {R : Room} {s : State} {m : MethodId} {args : Array Value} {below : List Frame} {meth : Method} {c : Code} {T : State} {locs : List Loc} {cells slots : Nat} {Q : Option Value → Heap → List Loc → Prop} {kc ks : Nat}
/-- from this state the body runs to its return, and Q holds of what it leaves -/
def own_Go (p : Program) (e : Env) (below : List Frame) (s : State) (Q : Option Value → Heap → List Loc → Prop) (kc ks : Nat) (S : State) : Prop :=
  ∃ s₂ o, Steps p.tables e below S s₂ ∧ s₂.status = .running ∧ Ended s₂ below o ∧ ∃ v L, o = .returned v ∧ Q v s₂.heap L ∧ FrameEnd s o s₂ L kc ks
theorem own_st {A B : State} (f : ∀ t, Steps p.tables e below A t → Steps p.tables e below B t) (h : own_Go p e below s Q kc ks A) : own_Go p e below s Q kc ks B := by
  obtain ⟨s₂, o, h1, h2⟩ := h
  exact ⟨s₂, o, f _ h1, h2⟩
theorem own_mono {S : State} {Q' : Option Value → Heap → List Loc → Prop} (h : own_Go p e below s Q kc ks S) (f : ∀ v h L, Q v h L → Q' v h L) : own_Go p e below s Q' kc ks S := by
  obtain ⟨s₂, o, h1, h2, h3, v, L, h4, h5, h6⟩ := h
  exact ⟨s₂, o, h1, h2, h3, v, L, h4, f _ _ _ h5, h6⟩
theorem own_retN (X : Stand p l e R s m args below meth c T locs cells slots) (hx : p.tables.exec = Jvm.exec) (hlk : meth.locks = false) {pc : Nat} {Ls : Array Slot} {z : Int32} {t : FieldType} {rest : List Value} (hret : meth.sig.returnType = some t) (ht : t = .boolean ∨ t = .byte ∨ t = .char ∨ t = .short)
    (hd : decode c.code pc = .ok (.ireturn, 1)) (hq : Q (some (.int (nar t z))) T.heap locs) (hc : cells ≤ kc) (hs : slots ≤ ks) : own_Go p e below s Q kc ks (T.setTop (mkF m pc Ls (.int z :: rest))) := by
  obtain ⟨fs, hr, hrun, hended, hW, hsame⟩ := X.leave (v := some (.int (nar t z))) (fun h => by rw [hret] at h; cases h) hlk
  exact ⟨_, _, retN X hx hret ht hd hr, hrun, hended, _, _, rfl, hq, ⟨_, rfl⟩, hW, hsame.mono hc hs⟩
theorem own_retI (X : Stand p l e R s m args below meth c T locs cells slots) (hx : p.tables.exec = Jvm.exec) (hlk : meth.locks = false) {pc : Nat} {Ls : Array Slot} {z : Int32} {rest : List Value} (hret : meth.sig.returnType = some .int)
    (hd : decode c.code pc = .ok (.ireturn, 1)) (hq : Q (some (.int z)) T.heap locs) (hc : cells ≤ kc) (hs : slots ≤ ks) : own_Go p e below s Q kc ks (T.setTop (mkF m pc Ls (.int z :: rest))) := by
  obtain ⟨fs, hr, hrun, hended, hW, hsame⟩ := X.leave (v := some (.int z)) (fun h => by rw [hret] at h; cases h) hlk
  exact ⟨_, _, retOut X hx hret rfl (Or.inl ⟨rfl, Or.inl rfl, z, rfl⟩) hd hr, hrun, hended, _, _, rfl, hq, ⟨_, rfl⟩, hW, hsame.mono hc hs⟩
theorem own_retJ (X : Stand p l e R s m args below meth c T locs cells slots) (hx : p.tables.exec = Jvm.exec) (hlk : meth.locks = false) {pc : Nat} {Ls : Array Slot} {z : Int64} {rest : List Value} (hret : meth.sig.returnType = some .long)
    (hd : decode c.code pc = .ok (.lreturn, 1)) (hq : Q (some (.long z)) T.heap locs) (hc : cells ≤ kc) (hs : slots ≤ ks) : own_Go p e below s Q kc ks (T.setTop (mkF m pc Ls (.long z :: rest))) := by
  obtain ⟨fs, hr, hrun, hended, hW, hsame⟩ := X.leave (v := some (.long z)) (fun h => by rw [hret] at h; cases h) hlk
  exact ⟨_, _, retOut X hx hret rfl (Or.inr (Or.inl ⟨rfl, rfl, z, rfl⟩)) hd hr, hrun, hended, _, _, rfl, hq, ⟨_, rfl⟩, hW, hsame.mono hc hs⟩
theorem own_retA (X : Stand p l e R s m args below meth c T locs cells slots) (hx : p.tables.exec = Jvm.exec) (hlk : meth.locks = false) {pc : Nat} {Ls : Array Slot} {w : Value} {t : FieldType} {rest : List Value} (hret : meth.sig.returnType = some t) (ht : t.isReference = true) (hw : w.isRef = true)
    (hd : decode c.code pc = .ok (.areturn, 1)) (hq : Q (some w) T.heap locs) (hc : cells ≤ kc) (hs : slots ≤ ks) : own_Go p e below s Q kc ks (T.setTop (mkF m pc Ls (w :: rest))) := by
  obtain ⟨fs, hr, hrun, hended, hW, hsame⟩ := X.leave (v := some w) (fun h => by rw [hret] at h; cases h) hlk
  exact ⟨_, _, retOut X hx hret (by rcases ref_cases hw with rfl | ⟨a, rfl⟩ <;> cases t <;> first | rfl | cases ht) (Or.inr (Or.inr (Or.inr (Or.inr ⟨rfl, ht, hw⟩)))) hd hr, hrun, hended, _, _, rfl, hq, ⟨_, rfl⟩, hW, hsame.mono hc hs⟩
theorem own_retV (X : Stand p l e R s m args below meth c T locs cells slots) (hx : p.tables.exec = Jvm.exec) (hlk : meth.locks = false) {pc : Nat} {Ls : Array Slot} (hret : meth.sig.returnType = none)
    (hd : decode c.code pc = .ok (.return_, 1)) (hq : Q none T.heap locs) (hc : cells ≤ kc) (hs : slots ≤ ks) : own_Go p e below s Q kc ks (T.setTop (mkF m pc Ls [])) := by
  obtain ⟨fs, hr, hrun, hended, hW, hsame⟩ := X.leave (v := none) (fun _ => rfl) hlk
  exact ⟨_, _, X.returnOut hx hret hd hr, hrun, hended, _, _, rfl, hq, ⟨_, rfl⟩, hW, hsame.mono hc hs⟩
end OwnGo
section OwnWords
variable {args : Array Value} {s : State} {t i : Term} {a b : Addr} {C n d : String} {k : Int32} {cl : Cell} {ty : FieldType}
theorem own_fldI (ev : t.eval args s none [] s = some (.ref a)) (h : (Jvm.Cond.eq (Term.field t C n d) (Term.int k)).value args s none s [] = some true) : Fld s s.heap a C n d (.int k) := by
  have e1 := fld_at (C := C) (n := n) (dd := d) ev
  have e2 := Term.int_eval (args := args) (first := s) (o := none) (idx := []) (s := s) k
  refine Fld.start ?_
  cases hv : s.fieldOf? a C n d with
  | none => rw [hv] at e1; simp [Jvm.Cond.value, e1] at h
  | some v => rw [hv] at e1; cases v <;> simp [Jvm.Cond.value, e1, e2] at h; rw [h]
theorem own_len (ev : t.eval args s none [] s = some (.ref a)) (A : Arr s s.heap a cl ty) (h : (Jvm.Cond.eq (Term.length t) (Term.int k)).value args s none s [] = some true) : cl.slots.size < 2 ^ 31 ∧ cl.slots.size.toInt32 = k := by
  have e2 := Term.int_eval (args := args) (first := s) (o := none) (idx := []) (s := s) k
  have e0 := A.fin (Vm.Alike.refl _)
  by_cases hl : cl.slots.size < 2 ^ 31
  · have e1 := len_f ev e0 hl
    simp [Jvm.Cond.value, e1, e2] at h
    exact ⟨hl, h⟩
  · have e1 : (Term.length t).eval args s none [] s = none := by simp [Term.eval, ev, e0]; omega
    simp [Jvm.Cond.value, e1] at h
theorem own_elem {v : Value} (ev : t.eval args s none [] s = some (.ref a)) (A : Arr s s.heap a cl ty) {u : Term} (eu : u.eval args s none [] s = some v) (hv : v.isRef = true) (h : (Jvm.Cond.eq (Term.elem t (Term.int k)) u).value args s none s [] = some true) : cl.slots[k.toNatClampNeg]? = some v := by
  have e2 := Term.int_eval (args := args) (first := s) (o := none) (idx := []) (s := s) k
  obtain ⟨x, y, hx, hy, -, -⟩ := cmp_v (Or.inl h)
  cases eu.symm.trans hy
  obtain ⟨-, q⟩ := elem_in hx ev e2 A.1
  have hk : x.isRef = true := by
    cases x <;> rcases ref_cases hv with rfl | ⟨z, rfl⟩ <;> simp [Jvm.Cond.value, hx, hy] at h ⊢ <;> rfl
  rw [q, gotT (eq_R hx hy hk hv) h]
theorem own_elemR (ev : t.eval args s none [] s = some (.ref a)) (A : Arr s s.heap a cl ty) {u : Term} (eu : u.eval args s none [] s = some (.ref b)) (h : (Jvm.Cond.eq (Term.elem t (Term.int k)) u).value args s none s [] = some true) : cl.slots[k.toNatClampNeg]? = some (.ref b) := own_elem ev A eu rfl h
theorem own_elemN (ev : t.eval args s none [] s = some (.ref a)) (A : Arr s s.heap a cl ty) (h : (Jvm.Cond.eq (Term.elem t (Term.int k)) .null).value args s none s [] = some true) : cl.slots[k.toNatClampNeg]? = some .null := own_elem ev A null_at rfl h
end OwnWords
section OwnMore
theorem own_privSel {s : State} {args : Array Value} {y z z' : MethodName} {C : String} (hs : (Jvm.Cond.selects C z' z).before args s = true) (e : z.cls = y.cls) (hpriv : s.PrivateAt y) (hinst : (Jvm.Cond.instanceMethod y).before args s = true) (hy : y.cls ≠ "java/lang/invoke/MethodHandle" ∧ y.cls ≠ "java/lang/invoke/VarHandle") : (Jvm.Cond.selects y.cls y y).before args s = true := by
  obtain ⟨c, r, m, -, -, h3, -, mk, h5, h6⟩ := Cond.selects_spec hs
  exact selects_self_of_private (e ▸ findClass_of_methodNamed h3) h5 h6 hpriv hinst hy
theorem own_nar_boolean {x : Int32} (h : nar .boolean x = x) : narrow .boolean (.int x) = .int x := congrArg Value.int h
theorem own_fits_boolean {x : Int32} (h : nar .boolean x = x) : fits .boolean (.int x) = true := h ▸ fits_nar_bool x
theorem own_nar_char {x : Int32} (h : nar .char x = x) : narrow .char (.int x) = .int x := congrArg Value.int h
theorem own_fits_char {x : Int32} (h : nar .char x = x) : fits .char (.int x) = true := h ▸ fits_nar_char x
theorem own_nar_ref {v : Value} {C : String} (h : v.isRef = true) : narrow (.object C) v = v := by rcases ref_cases h with rfl | ⟨a, rfl⟩ <;> rfl
theorem own_fits_ref {v : Value} {C : String} (h : v.isRef = true) : fits (.object C) v = true := by rcases ref_cases h with rfl | ⟨a, rfl⟩ <;> rfl
theorem own_c1 {v : Value} (h : v.isRef = true) : v.category = 1 := by rcases ref_cases h with rfl | ⟨a, rfl⟩ <;> rfl
theorem own_ext_of_keep {h h' : Heap} (K : Keep h h' []) : Ext h h' := ⟨K.1, fun a c q => K.2.1 a c q nin0⟩
theorem own_ext_refl (h : Heap) : Ext h h := ⟨Nat.le_refl _, fun _ _ q => q⟩
theorem own_ext_trans {h h' h'' : Heap} (E : Ext h h') (E' : Ext h' h'') : Ext h h'' := ⟨Nat.le_trans E.1 E'.1, fun a c q => E'.2 a c (E.2 a c q)⟩
end OwnMore
section OwnWide
variable {p : Program} {l : Launch} {e : Env} {R : Room} {s : State} {m : MethodId} {args : Array Value} {below : List Frame} {meth : Method} {c : Code} {T : State} {locs : List Loc} {cells slots : Nat} {Q : Option Value → Heap → List Loc → Prop} {kc ks : Nat} {vm1 : Vm} {n : Nat}
/-- own_Go, where String constants may have been interned meanwhile -/
def own_GoW (p : Program) (e : Env) (below : List Frame) (s : State) (Q : Option Value → Heap → List Loc → Prop) (kc ks : Nat) (S : State) : Prop :=
  ∃ s₂ o, Steps p.tables e below S s₂ ∧ s₂.status = .running ∧ Ended s₂ below o ∧ ∃ v L, o = .returned v ∧ Q v s₂.heap L ∧ ReturnedEndW s o s₂ L kc ks
theorem own_stW {A B : State} (f : ∀ t, Steps p.tables e below A t → Steps p.tables e below B t) (h : own_GoW p e below s Q kc ks A) : own_GoW p e below s Q kc ks B := by
  obtain ⟨s₂, o, h1, h2⟩ := h
  exact ⟨s₂, o, f _ h1, h2⟩
theorem own_retWN (X : Stand p l e R (s.setVm vm1) m args below meth c T locs cells slots) (hx : p.tables.exec = Jvm.exec) (hlk : meth.locks = false) (hS : s.Since vm1 n) (hn : n ≤ T.heap.size) {pc : Nat} {Ls : Array Slot} {z : Int32} {t : FieldType} {rest : List Value} (hret : meth.sig.returnType = some t) (ht : t = .boolean ∨ t = .byte ∨ t = .char ∨ t = .short)
    (hd : decode c.code pc = .ok (.ireturn, 1)) (hq : Q (some (.int (nar t z))) T.heap locs) (hc : cells ≤ kc) (hs : slots ≤ ks) : own_GoW p e below s Q kc ks (T.setTop (mkF m pc Ls (.int z :: rest))) := by
  obtain ⟨fs, hr, hrun, hended, h1, h2, h3, h4⟩ := X.leaveW hS hn (v := some (.int (nar t z))) (fun h => by rw [hret] at h; cases h) hlk
  exact ⟨_, _, retN X hx hret ht hd hr, hrun, hended, _, _, rfl, hq, h1, h2, h3, h4.mono hc hs⟩
theorem own_retWA (X : Stand p l e R (s.setVm vm1) m args below meth c T locs cells slots) (hx : p.tables.exec = Jvm.exec) (hlk : meth.locks = false) (hS : s.Since vm1 n) (hn : n ≤ T.heap.size) {pc : Nat} {Ls : Array Slot} {w : Value} {t : FieldType} {rest : List Value} (hret : meth.sig.returnType = some t) (ht : t.isReference = true) (hw : w.isRef = true)
    (hd : decode c.code pc = .ok (.areturn, 1)) (hq : Q (some w) T.heap locs) (hc : cells ≤ kc) (hs : slots ≤ ks) : own_GoW p e below s Q kc ks (T.setTop (mkF m pc Ls (w :: rest))) := by
  obtain ⟨fs, hr, hrun, hended, h1, h2, h3, h4⟩ := X.leaveW hS hn (v := some w) (fun h => by rw [hret] at h; cases h) hlk
  exact ⟨_, _, retOut X hx hret (by rcases ref_cases hw with rfl | ⟨a, rfl⟩ <;> cases t <;> first | rfl | cases ht) (Or.inr (Or.inr (Or.inr (Or.inr ⟨rfl, ht, hw⟩)))) hd hr, hrun, hended, _, _, rfl, hq, h1, h2, h3, h4.mono hc hs⟩
theorem own_retWV (X : Stand p l e R (s.setVm vm1) m args below meth c T locs cells slots) (hx : p.tables.exec = Jvm.exec) (hlk : meth.locks = false) (hS : s.Since vm1 n) (hn : n ≤ T.heap.size) {pc : Nat} {Ls : Array Slot} (hret : meth.sig.returnType = none)
    (hd : decode c.code pc = .ok (.return_, 1)) (hq : Q none T.heap locs) (hc : cells ≤ kc) (hs : slots ≤ ks) : own_GoW p e below s Q kc ks (T.setTop (mkF m pc Ls [])) := by
  obtain ⟨fs, hr, hrun, hended, h1, h2, h3, h4⟩ := X.leaveW hS hn (v := none) (fun _ => rfl) hlk
  exact ⟨_, _, X.returnOut hx hret hd hr, hrun, hended, _, _, rfl, hq, h1, h2, h3, h4.mono hc hs⟩
/-- what a wide call leaves, said of the true start -/
theorem own_wideZ {Z : State} {vm0 : Vm} {U : State} (hZ : Z.Warmed39 vm0) (hS : (s.setVm vm0).Since U.vm n) : Z.Warmed39 (s.setVm U.vm).vm := State.Warmed39.trans (t := s.setVm vm0) hZ hS.1
theorem own_wideO {vm0 : Vm} {U : State} {own : String} {cid : ClassId} (hown : (s.setVm vm0).vm.findClass own = some cid) (hS : (s.setVm vm0).Since U.vm n) : (s.setVm U.vm).vm.findClass own = some cid := by
  rw [show (s.setVm U.vm).vm = U.vm from rfl, hS.1.alike.findClass]; exact hown
end OwnWide

def QLaw (n0 : Nat) (v : Option Value) (h : Heap) (L : List Loc) : Prop := v = some (.int 1) ∧ Fr n0 L
def Ck (x : Int32) : Prop := nar .char x = x ∧ ¬ (255 : Int32) < x ∧ ¬ x < 0
def Str (Z : State) (h : Heap) (a b : Addr) (k : ClassId) (n : Int32) (vs : List Value) : Prop := Exa Z h a "java/lang/String" ∧ Fld Z h a "java/lang/String" "value" "[B" (.ref b) ∧ Fld Z h a "java/lang/String" "coder" "B" (.int 0) ∧ Arv Z h b k .byte n vs (.int 0)
theorem own_Str_ext {Z : State} {h h' : Heap} {a b : Addr} {k : ClassId} {n : Int32} {vs : List Value} (o : Str Z h a b k n vs) (E : Ext h h') : Str Z h' a b k n vs := ⟨o.1.ext E, o.2.1.ext E, o.2.2.1.ext E, o.2.2.2.ext E⟩
theorem own_Str_keep {Z : State} {h h' : Heap} {a b : Addr} {k : ClassId} {n : Int32} {vs : List Value} {ws : List Addr} (o : Str Z h a b k n vs) (K : Keep h h' ws) (n1 : a ∉ ws) (n2 : b ∉ ws) : Str Z h' a b k n vs := ⟨o.1.keep K, o.2.1.keep K n1, o.2.2.1.keep K n1, o.2.2.2.keep K n2⟩
def Q0 (h0 : Heap) (n0 : Nat) (v : Option Value) (h : Heap) (L : List Loc) : Prop := v = none ∧ Fr n0 L ∧ h = h0
def Qw (w : Value) (h0 : Heap) (n0 : Nat) (v : Option Value) (h : Heap) (L : List Loc) : Prop := v = some w ∧ Fr n0 L ∧ h = h0
def QC5 (Z : State) (d : Addr) (k : ClassId) (n : Int32) (vs : List Value) (h0 : Heap) (n0 : Nat) (v : Option Value) (h : Heap) (L : List Loc) : Prop := v = some (.int n) ∧ Fr n0 L ∧ Keep h0 h [d] ∧ Arv Z h d k .byte n vs (.int 0)
def QC3 (Z : State) (n : Int32) (vs : List Value) (h0 : Heap) (n0 : Nat) (v : Option Value) (h : Heap) (L : List Loc) : Prop := ∃ d k, v = some (.ref d) ∧ Fr n0 L ∧ Ext h0 h ∧ Arv Z h d k .byte n vs (.int 0) ∧ h0.size ≤ d
def QS (Z : State) (a : Addr) (n : Int32) (vs : List Value) (h0 : Heap) (n0 : Nat) (v : Option Value) (h : Heap) (L : List Loc) : Prop := ∃ d k, v = none ∧ Fr n0 L ∧ Keep h0 h [a] ∧ Str Z h a d k n vs ∧ h0.size ≤ d
def QN (Z : State) (n : Int32) (vs : List Value) (h0 : Heap) (n0 : Nat) (v : Option Value) (h : Heap) (L : List Loc) : Prop := ∃ a d k, v = some (.ref a) ∧ Fr n0 L ∧ Ext h0 h ∧ Str Z h a d k n vs ∧ h0.size ≤ a ∧ h0.size ≤ d
theorem own_b (x : Int32) : (((x).toInt8.toInt32)).toInt8.toInt32 = x.toInt8.toInt32 := by
  have a := c_i2b x
  have b := c_i2b x.toInt8.toInt32
  rw [← Int32.toInt_inj]
  omega
theorem own_b_inj {x y : Int32} (hx : Ck x) (hy : Ck y) (h : (((x).toInt8.toInt32)).toInt8.toInt32 = (((y).toInt8.toInt32)).toInt8.toInt32) : x = y := by
  rw [own_b, own_b] at h
  have a := c_i2b x
  have b := c_i2b y
  have r1 := rng32 x
  have r2 := rng32 y
  obtain ⟨-, x1, x2⟩ := hx
  obtain ⟨-, y1, y2⟩ := hy
  rw [Int32.lt_iff_toInt_lt] at x1 x2 y1 y2
  have e0 : (0 : Int32).toInt = 0 := by decide
  have e1 : (255 : Int32).toInt = 255 := by decide
  rw [← Int32.toInt_inj] at h ⊢
  omega
theorem own_Ck (a : Int32) : Ck ((a &&& (255 : Int32)).toUInt32.toUInt16.toUInt32.toInt32) := by
  rw [i2c_mask]
  have m := c_mask a 255 8 (by decide) (by decide)
  have r := rng32 a
  refine ⟨i2c_mask a, ?_, ?_⟩
  · rw [Int32.lt_iff_toInt_lt]; have e1 : (255 : Int32).toInt = 255 := by decide
    omega
  · rw [Int32.lt_iff_toInt_lt]; have e1 : (0 : Int32).toInt = 0 := by decide
    omega
theorem own_wS {Z : State} {a0 : Array Value} (hw : ∀ d ∈ tables_1, d.before a0 Z = true) : ∀ d ∈ Bundle.stringAtoms, d.before a0 Z = true := fun d hd => by
  simp only [Bundle.stringAtoms, List.mem_cons, List.not_mem_nil, or_false] at hd
  rcases hd with rfl | rfl | rfl | rfl | rfl | rfl | rfl
  · exact (hw _ (List.mem_of_getElem? (i := 6) rfl))
  · exact (hw _ (List.mem_of_getElem? (i := 5) rfl))
  · exact (hw _ (List.mem_of_getElem? (i := 23) rfl))
  · exact (hw _ (List.mem_of_getElem? (i := 33) rfl))
  · exact (hw _ (List.mem_of_getElem? (i := 31) rfl))
  · exact (hw _ (List.mem_of_getElem? (i := 42) rfl))
  · exact (hw _ (List.mem_of_getElem? (i := 43) rfl))
theorem d6_0 : decode jdk_52_method_21_code 0 = .ok (.iconst 0, 1) := by decide +kernel
theorem d6_1 : decode jdk_52_method_21_code 1 = .ok (.istore 5, 2) := by decide +kernel
theorem d6_3 : decode jdk_52_method_21_code 3 = .ok (.iload 5, 2) := by decide +kernel
theorem d6_5 : decode jdk_52_method_21_code 5 = .ok (.iload 4, 2) := by decide +kernel
theorem d6_7 : decode jdk_52_method_21_code 7 = .ok (.if_icmp .ge 37, 3) := by decide +kernel
theorem d6_10 : decode jdk_52_method_21_code 10 = .ok (.aload_n 0, 1) := by decide +kernel
theorem d6_11 : decode jdk_52_method_21_code 11 = .ok (.iload_n 1, 1) := by decide +kernel
theorem d6_12 : decode jdk_52_method_21_code 12 = .ok (.caload, 1) := by decide +kernel
theorem d6_13 : decode jdk_52_method_21_code 13 = .ok (.istore 6, 2) := by decide +kernel
theorem d6_15 : decode jdk_52_method_21_code 15 = .ok (.iload 6, 2) := by decide +kernel
theorem d6_17 : decode jdk_52_method_21_code 17 = .ok (.sipush 255, 3) := by decide +kernel
theorem d6_20 : decode jdk_52_method_21_code 20 = .ok (.if_icmp .le 6, 3) := by decide +kernel
theorem d6_26 : decode jdk_52_method_21_code 26 = .ok (.aload_n 2, 1) := by decide +kernel
theorem d6_27 : decode jdk_52_method_21_code 27 = .ok (.iload_n 3, 1) := by decide +kernel
theorem d6_28 : decode jdk_52_method_21_code 28 = .ok (.iload 6, 2) := by decide +kernel
theorem d6_30 : decode jdk_52_method_21_code 30 = .ok (.i2b, 1) := by decide +kernel
theorem d6_31 : decode jdk_52_method_21_code 31 = .ok (.bastore, 1) := by decide +kernel
theorem d6_32 : decode jdk_52_method_21_code 32 = .ok (.iinc 1 1, 3) := by decide +kernel
theorem d6_35 : decode jdk_52_method_21_code 35 = .ok (.iinc 3 1, 3) := by decide +kernel
theorem d6_38 : decode jdk_52_method_21_code 38 = .ok (.iinc 5 1, 3) := by decide +kernel
theorem d6_41 : decode jdk_52_method_21_code 41 = .ok (.goto (-38), 3) := by decide +kernel
theorem d6_44 : decode jdk_52_method_21_code 44 = .ok (.iload 4, 2) := by decide +kernel
theorem d6_46 : decode jdk_52_method_21_code 46 = .ok (.ireturn, 1) := by decide +kernel
theorem pn_java_2flang_2fStringUTF16 : plainName "java/lang/StringUTF16" = true := by first | (simp [plainName, overriddenIn]; done) | decide +kernel
theorem ef_rmC5_1 (mM : MethodId) (s' : Addr) (ks : ClassId) (d : Addr) (kd : ClassId) (x0 : Int32) : entryFrame mM #[(.ref s'), (.int (0 : Int32)), (.ref d), (.int (0 : Int32)), (.int (1 : Int32))] 7 = mkF mM 0 #[.val (.ref s'), .val (.int (0 : Int32)), .val (.ref d), .val (.int (0 : Int32)), .val (.int (1 : Int32)), .unset, .unset] [] := by first | (simp [entryFrame, mkF, argsToLocals, Value.category]; done) | rfl
set_option maxRecDepth 65536 in
set_option maxHeartbeats 40000000 in
theorem rmC5_1 (lL : Launch) (Z : State) (a0 : Array Value) (hw : ∀ d ∈ tables_1, d.before a0 Z = true) (ws : List Jvm.Cond) (s' : Addr) (ks : ClassId) (d : Addr) (kd : ClassId) (x0 : Int32) (h0 : Heap) (n0 : Nat) (A_s' : Arv Z h0 s' ks .char 1 [(.int x0)] (.int 0)) (A_d : Arv Z h0 d kd .byte 1 [(.int 0)] (.int 0)) (g_d : n0 ≤ d) (nsd : s' ≠ d) (cx0 : Ck x0) :
    MetFree lL (⟨"java/lang/StringUTF16", "compress", "([CI[BII)I"⟩ : MethodName) (head1 (Jvm.Cond.code (⟨"java/lang/StringUTF16", "compress", "([CI[BII)I"⟩ : MethodName) jdk_52_method_21_code 7 (some .int) :: ws) ({ frames := 0, cells := 0, slots := 0, locals := 0 } : Room)) (fun as_ uU_ => as_ = #[(.ref s'), (.int (0 : Int32)), (.ref d), (.int (0 : Int32)), (.int (1 : Int32))] ∧ Z.Warmed39 uU_.vm ∧ uU_.heap = h0) (fun _ _ _ _ _ => True) (fun _ uU_ oO_ uE_ => ∃ vV_ lL_, oO_ = .returned vV_ ∧ QC5 Z d kd 1 [(.int (((x0).toInt8.toInt32)).toInt8.toInt32)] h0 n0 vV_ uE_.heap lL_ ∧ FrameEnd uU_ oO_ uE_ lL_ ({ frames := 0, cells := 0, slots := 0, locals := 0 } : Room).cells ({ frames := 0, cells := 0, slots := 0, locals := 0 } : Room).slots) := by
  refine MetFree.of_bodySF (plainFor_of_name pn_java_2flang_2fStringUTF16) hisR ?_
  intro pP eE sS mM args below meth cC s₁ Bd hml0 hP hK
  obtain ⟨rfl, hZ, hh⟩ := hP
  have hx := Bd.exec
  have hby := Bd.bytes
  have hml : cC.maxLocals = 7 := hml0
  have hown : sS.vm.findClass "java/lang/StringUTF16" = some mM.cls := findClass_of_methodNamed Bd.named
  have hnm := (name_of_methodNamed Bd.named Bd.method).1
  have hret := Bd.returns
  have hlk := BodyLoose.notSynchronized Bd
  have X0 : Stand pP lL eE ({ frames := 0, cells := 0, slots := 0, locals := 0 } : Room) sS mM #[(.ref s'), (.int (0 : Int32)), (.ref d), (.int (0 : Int32)), (.int (1 : Int32))] below meth cC s₁ [] 0 0 := Stand.of_body Bd
  have e0 : s₁.heap = h0 := by rw [← hh, Bd.state]; rfl
  have N0 := Fr.nil n0
  show own_Go pP eE below sS (QC5 Z d kd 1 [(.int (((x0).toInt8.toInt32)).toInt8.toInt32)] h0 n0) 0 0 (s₁.setTop (entryFrame mM #[(.ref s'), (.int (0 : Int32)), (.ref d), (.int (0 : Int32)), (.int (1 : Int32))] 7))
  refine own_st (A := s₁.setTop (mkF mM 0 #[.val (.ref s'), .val (.int (0 : Int32)), .val (.ref d), .val (.int (0 : Int32)), .val (.int (1 : Int32)), .unset, .unset] [])) (fun tT_ kK_ => castTop (ef_rmC5_1 mM s' ks d kd x0) kK_) ?_
  have Kp := Keep.refl h0 [d]
  refine own_st (A := s₁.setTop (mkF mM 1 #[.val (.ref s'), .val (.int (0 : Int32)), .val (.ref d), .val (.int (0 : Int32)), .val (.int (1 : Int32)), .unset, .unset] [(.int (0 : Int32))])) (fun tT_ kK_ => XS.iconst X0.here hx rfl (hb hby d6_0) kK_) ?_
  refine own_st (A := s₁.setTop (mkF mM 3 #[.val (.ref s'), .val (.int (0 : Int32)), .val (.ref d), .val (.int (0 : Int32)), .val (.int (1 : Int32)), .val (.int (0 : Int32)), .unset] [])) (fun tT_ kK_ => XS.istore X0.here hx rfl (hb hby d6_1) rfl (l' := #[.val (.ref s'), .val (.int (0 : Int32)), .val (.ref d), .val (.int (0 : Int32)), .val (.int (1 : Int32)), .val (.int (0 : Int32)), .unset]) rfl kK_) ?_
  refine own_st (A := s₁.setTop (mkF mM 5 #[.val (.ref s'), .val (.int (0 : Int32)), .val (.ref d), .val (.int (0 : Int32)), .val (.int (1 : Int32)), .val (.int (0 : Int32)), .unset] [(.int (0 : Int32))])) (fun tT_ kK_ => XS.iload X0.here hx rfl (hb hby d6_3) rfl kK_) ?_
  refine own_st (A := s₁.setTop (mkF mM 7 #[.val (.ref s'), .val (.int (0 : Int32)), .val (.ref d), .val (.int (0 : Int32)), .val (.int (1 : Int32)), .val (.int (0 : Int32)), .unset] [(.int (1 : Int32)), (.int (0 : Int32))])) (fun tT_ kK_ => XS.iload X0.here hx rfl (hb hby d6_5) rfl kK_) ?_
  refine own_st (A := s₁.setTop (mkF mM 10 #[.val (.ref s'), .val (.int (0 : Int32)), .val (.ref d), .val (.int (0 : Int32)), .val (.int (1 : Int32)), .val (.int (0 : Int32)), .unset] [])) (fun tT_ kK_ => XS.icmpNo X0.here hx rfl (hb hby d6_7) rfl (tlt (by decide : ((0 : Int32) < (1 : Int32)))).2.1 kK_) ?_
  refine own_st (A := s₁.setTop (mkF mM 11 #[.val (.ref s'), .val (.int (0 : Int32)), .val (.ref d), .val (.int (0 : Int32)), .val (.int (1 : Int32)), .val (.int (0 : Int32)), .unset] [(.ref s')])) (fun tT_ kK_ => XS.aloadN X0.here hx rfl (hb hby d6_10) rfl rfl kK_) ?_
  refine own_st (A := s₁.setTop (mkF mM 12 #[.val (.ref s'), .val (.int (0 : Int32)), .val (.ref d), .val (.int (0 : Int32)), .val (.int (1 : Int32)), .val (.int (0 : Int32)), .unset] [(.int (0 : Int32)), (.ref s')])) (fun tT_ kK_ => XS.iloadN X0.here hx rfl (hb hby d6_11) rfl kK_) ?_
  obtain ⟨cl1, Ar1, q1, S1, Nn1, H1, G1⟩ := id A_s'
  have hin1 : ¬ ((0 : Int32) < 0 ∨ cl1.slots.size ≤ ((0 : Int32)).toNatClampNeg) := inb_of S1 ⟨by decide, by decide⟩
  refine own_st (A := s₁.setTop (mkF mM 13 #[.val (.ref s'), .val (.int (0 : Int32)), .val (.ref d), .val (.int (0 : Int32)), .val (.int (1 : Int32)), .val (.int (0 : Int32)), .unset] [(.int x0)])) (fun tT_ kK_ => X0.caload hx (j := (0 : Int32)) (v := (.int x0)) (by rw [e0]; exact Ar1.1) (State.isArrayOf_alike hZ.alike Ar1.2.1) Ar1.2.2 hin1 (H1.at hin1 rfl) (g := (mkF mM 12 #[.val (.ref s'), .val (.int (0 : Int32)), .val (.ref d), .val (.int (0 : Int32)), .val (.int (1 : Int32)), .val (.int (0 : Int32)), .unset] [(.int (0 : Int32)), (.ref s')])) rfl rfl (hb hby d6_12) tT_ kK_) ?_
  refine own_st (A := s₁.setTop (mkF mM 15 #[.val (.ref s'), .val (.int (0 : Int32)), .val (.ref d), .val (.int (0 : Int32)), .val (.int (1 : Int32)), .val (.int (0 : Int32)), .val (.int x0)] [])) (fun tT_ kK_ => XS.istore X0.here hx rfl (hb hby d6_13) rfl (l' := #[.val (.ref s'), .val (.int (0 : Int32)), .val (.ref d), .val (.int (0 : Int32)), .val (.int (1 : Int32)), .val (.int (0 : Int32)), .val (.int x0)]) rfl kK_) ?_
  refine own_st (A := s₁.setTop (mkF mM 17 #[.val (.ref s'), .val (.int (0 : Int32)), .val (.ref d), .val (.int (0 : Int32)), .val (.int (1 : Int32)), .val (.int (0 : Int32)), .val (.int x0)] [(.int x0)])) (fun tT_ kK_ => XS.iload X0.here hx rfl (hb hby d6_15) rfl kK_) ?_
  refine own_st (A := s₁.setTop (mkF mM 20 #[.val (.ref s'), .val (.int (0 : Int32)), .val (.ref d), .val (.int (0 : Int32)), .val (.int (1 : Int32)), .val (.int (0 : Int32)), .val (.int x0)] [(.int (255 : Int32)), (.int x0)])) (fun tT_ kK_ => XS.sipush X0.here hx rfl (hb hby d6_17) kK_) ?_
  refine own_st (A := s₁.setTop (mkF mM 26 #[.val (.ref s'), .val (.int (0 : Int32)), .val (.ref d), .val (.int (0 : Int32)), .val (.int (1 : Int32)), .val (.int (0 : Int32)), .val (.int x0)] [])) (fun tT_ kK_ => XS.icmpYes X0.here hx rfl (pc0 := 20) (pc' := 26) rfl (hb hby d6_20) rfl (flt cx0.2.1).2.2.2 (by decide) (by decide) kK_) ?_
  refine own_st (A := s₁.setTop (mkF mM 27 #[.val (.ref s'), .val (.int (0 : Int32)), .val (.ref d), .val (.int (0 : Int32)), .val (.int (1 : Int32)), .val (.int (0 : Int32)), .val (.int x0)] [(.ref d)])) (fun tT_ kK_ => XS.aloadN X0.here hx rfl (hb hby d6_26) rfl rfl kK_) ?_
  refine own_st (A := s₁.setTop (mkF mM 28 #[.val (.ref s'), .val (.int (0 : Int32)), .val (.ref d), .val (.int (0 : Int32)), .val (.int (1 : Int32)), .val (.int (0 : Int32)), .val (.int x0)] [(.int (0 : Int32)), (.ref d)])) (fun tT_ kK_ => XS.iloadN X0.here hx rfl (hb hby d6_27) rfl kK_) ?_
  refine own_st (A := s₁.setTop (mkF mM 30 #[.val (.ref s'), .val (.int (0 : Int32)), .val (.ref d), .val (.int (0 : Int32)), .val (.int (1 : Int32)), .val (.int (0 : Int32)), .val (.int x0)] [(.int x0), (.int (0 : Int32)), (.ref d)])) (fun tT_ kK_ => XS.iload X0.here hx rfl (hb hby d6_28) rfl kK_) ?_
  refine own_st (A := s₁.setTop (mkF mM 31 #[.val (.ref s'), .val (.int (0 : Int32)), .val (.ref d), .val (.int (0 : Int32)), .val (.int (1 : Int32)), .val (.int (0 : Int32)), .val (.int x0)] [(.int ((x0).toInt8.toInt32)), (.int (0 : Int32)), (.ref d)])) (fun tT_ kK_ => XS.i2b X0.here hx rfl (hb hby d6_30) rfl kK_) ?_
  obtain ⟨cl2, Ar2, q2, S2, Nn2, H2, G2⟩ := id A_d
  obtain ⟨T3, h3, X3, e3, W3, st3⟩ := stB X0 hx hZ e0 Ar2 (j := (0 : Int32)) (inb_of S2 ⟨by decide, by decide⟩) (g := (mkF mM 31 #[.val (.ref s'), .val (.int (0 : Int32)), .val (.ref d), .val (.int (0 : Int32)), .val (.int (1 : Int32)), .val (.int (0 : Int32)), .val (.int x0)] [(.int ((x0).toInt8.toInt32)), (.int (0 : Int32)), (.ref d)])) rfl rfl (hb hby d6_31)
  have N3 := Fr.snoc X3 N0 g_d
  have A_s' := A_s'.other W3 nsd
  have Kp := Kp.wr W3 (Or.inl (List.mem_of_getElem? (i := 0) rfl))
  have A_d : Arv Z h3 d kd .byte 1 [(.int (((x0).toInt8.toInt32)).toInt8.toInt32)] (.int (0 : Int32)) := Arv.set Ar2 q2 S2 Nn2 H2 G2 (fits_nar_byte _) W3 0 rfl (Nat.le_of_ble_eq_true rfl)
  refine own_st (A := T3.setTop (mkF mM 32 #[.val (.ref s'), .val (.int (0 : Int32)), .val (.ref d), .val (.int (0 : Int32)), .val (.int (1 : Int32)), .val (.int (0 : Int32)), .val (.int x0)] [])) (fun tT_ kK_ => st3 tT_ kK_) ?_
  refine own_st (A := T3.setTop (mkF mM 35 #[.val (.ref s'), .val (.int (1 : Int32)), .val (.ref d), .val (.int (0 : Int32)), .val (.int (1 : Int32)), .val (.int (0 : Int32)), .val (.int x0)] [])) (fun tT_ kK_ => XS.iinc X3.here hx rfl (hb hby d6_32) rfl (l' := #[.val (.ref s'), .val (.int (1 : Int32)), .val (.ref d), .val (.int (0 : Int32)), .val (.int (1 : Int32)), .val (.int (0 : Int32)), .val (.int x0)]) rfl kK_) ?_
  refine own_st (A := T3.setTop (mkF mM 38 #[.val (.ref s'), .val (.int (1 : Int32)), .val (.ref d), .val (.int (1 : Int32)), .val (.int (1 : Int32)), .val (.int (0 : Int32)), .val (.int x0)] [])) (fun tT_ kK_ => XS.iinc X3.here hx rfl (hb hby d6_35) rfl (l' := #[.val (.ref s'), .val (.int (1 : Int32)), .val (.ref d), .val (.int (1 : Int32)), .val (.int (1 : Int32)), .val (.int (0 : Int32)), .val (.int x0)]) rfl kK_) ?_
  refine own_st (A := T3.setTop (mkF mM 41 #[.val (.ref s'), .val (.int (1 : Int32)), .val (.ref d), .val (.int (1 : Int32)), .val (.int (1 : Int32)), .val (.int (1 : Int32)), .val (.int x0)] [])) (fun tT_ kK_ => XS.iinc X3.here hx rfl (hb hby d6_38) rfl (l' := #[.val (.ref s'), .val (.int (1 : Int32)), .val (.ref d), .val (.int (1 : Int32)), .val (.int (1 : Int32)), .val (.int (1 : Int32)), .val (.int x0)]) rfl kK_) ?_
  refine own_st (A := T3.setTop (mkF mM 3 #[.val (.ref s'), .val (.int (1 : Int32)), .val (.ref d), .val (.int (1 : Int32)), .val (.int (1 : Int32)), .val (.int (1 : Int32)), .val (.int x0)] [])) (fun tT_ kK_ => XS.goto X3.here hx rfl (pc0 := 41) (pc' := 3) rfl (hb hby d6_41) (by decide) (by decide) kK_) ?_
  refine own_st (A := T3.setTop (mkF mM 5 #[.val (.ref s'), .val (.int (1 : Int32)), .val (.ref d), .val (.int (1 : Int32)), .val (.int (1 : Int32)), .val (.int (1 : Int32)), .val (.int x0)] [(.int (1 : Int32))])) (fun tT_ kK_ => XS.iload X3.here hx rfl (hb hby d6_3) rfl kK_) ?_
  refine own_st (A := T3.setTop (mkF mM 7 #[.val (.ref s'), .val (.int (1 : Int32)), .val (.ref d), .val (.int (1 : Int32)), .val (.int (1 : Int32)), .val (.int (1 : Int32)), .val (.int x0)] [(.int (1 : Int32)), (.int (1 : Int32))])) (fun tT_ kK_ => XS.iload X3.here hx rfl (hb hby d6_5) rfl kK_) ?_
  refine own_st (A := T3.setTop (mkF mM 44 #[.val (.ref s'), .val (.int (1 : Int32)), .val (.ref d), .val (.int (1 : Int32)), .val (.int (1 : Int32)), .val (.int (1 : Int32)), .val (.int x0)] [])) (fun tT_ kK_ => XS.icmpYes X3.here hx rfl (pc0 := 7) (pc' := 44) rfl (hb hby d6_7) rfl (flt (by decide : ¬ ((1 : Int32) < (1 : Int32)))).2.1 (by decide) (by decide) kK_) ?_
  refine own_st (A := T3.setTop (mkF mM 46 #[.val (.ref s'), .val (.int (1 : Int32)), .val (.ref d), .val (.int (1 : Int32)), .val (.int (1 : Int32)), .val (.int (1 : Int32)), .val (.int x0)] [(.int (1 : Int32))])) (fun tT_ kK_ => XS.iload X3.here hx rfl (hb hby d6_44) rfl kK_) ?_
  exact own_retI X3 hx hlk hret (hb hby d6_46) (by rw [e3]; exact ⟨rfl, N3, Kp, A_d⟩) (by decide) (by decide)
theorem d5_0 : decode jdk_52_method_16_code 0 = .ok (.iload_n 2, 1) := by decide +kernel
theorem d5_1 : decode jdk_52_method_16_code 1 = .ok (.newarray .byte, 2) := by decide +kernel
theorem d5_3 : decode jdk_52_method_16_code 3 = .ok (.astore_n 3, 1) := by decide +kernel
theorem d5_4 : decode jdk_52_method_16_code 4 = .ok (.aload_n 0, 1) := by decide +kernel
theorem d5_5 : decode jdk_52_method_16_code 5 = .ok (.iload_n 1, 1) := by decide +kernel
theorem d5_6 : decode jdk_52_method_16_code 6 = .ok (.aload_n 3, 1) := by decide +kernel
theorem d5_7 : decode jdk_52_method_16_code 7 = .ok (.iconst 0, 1) := by decide +kernel
theorem d5_8 : decode jdk_52_method_16_code 8 = .ok (.iload_n 2, 1) := by decide +kernel
theorem d5_9 : decode jdk_52_method_16_code 9 = .ok (.invokestatic 115, 3) := by decide +kernel
theorem pd__28_5bCI_5bBII_29I : parseMethodDescriptor "([CI[BII)I" = some ⟨[(.array .char), .int, (.array .byte), .int, .int], some .int⟩ := by decide +kernel
theorem d5_12 : decode jdk_52_method_16_code 12 = .ok (.istore 4, 2) := by decide +kernel
theorem d5_14 : decode jdk_52_method_16_code 14 = .ok (.iload 4, 2) := by decide +kernel
theorem d5_16 : decode jdk_52_method_16_code 16 = .ok (.iload_n 2, 1) := by decide +kernel
theorem d5_17 : decode jdk_52_method_16_code 17 = .ok (.if_icmp .eq 40, 3) := by decide +kernel
theorem d5_57 : decode jdk_52_method_16_code 57 = .ok (.aload_n 3, 1) := by decide +kernel
theorem d5_58 : decode jdk_52_method_16_code 58 = .ok (.areturn, 1) := by decide +kernel
theorem ef_rmC3_1 (mM : MethodId) (s' : Addr) (ks : ClassId) (x0 : Int32) : entryFrame mM #[(.ref s'), (.int (0 : Int32)), (.int (1 : Int32))] 6 = mkF mM 0 #[.val (.ref s'), .val (.int (0 : Int32)), .val (.int (1 : Int32)), .unset, .unset, .unset] [] := by first | (simp [entryFrame, mkF, argsToLocals, Value.category]; done) | rfl
set_option maxRecDepth 65536 in
set_option maxHeartbeats 40000000 in
theorem rmC3_1 (lL : Launch) (Z : State) (a0 : Array Value) (hw : ∀ d ∈ tables_1, d.before a0 Z = true) (ws : List Jvm.Cond) (s' : Addr) (ks : ClassId) (x0 : Int32) (h0 : Heap) (n0 : Nat) (Zn : n0 ≤ h0.size) (A_s' : Arv Z h0 s' ks .char 1 [(.int x0)] (.int 0)) (cx0 : Ck x0) :
    MetFree lL (⟨"java/lang/StringUTF16", "compress", "([CII)[B"⟩ : MethodName) (head1 (Jvm.Cond.code (⟨"java/lang/StringUTF16", "compress", "([CII)[B"⟩ : MethodName) jdk_52_method_16_code 6 (some (.array .byte)) :: ws) ({ frames := 1, cells := 1, slots := 1, locals := 18 } : Room)) (fun as_ uU_ => as_ = #[(.ref s'), (.int (0 : Int32)), (.int (1 : Int32))] ∧ Z.Warmed39 uU_.vm ∧ uU_.heap = h0) (fun _ _ _ _ _ => True) (fun _ uU_ oO_ uE_ => ∃ vV_ lL_, oO_ = .returned vV_ ∧ QC3 Z 1 [(.int (((x0).toInt8.toInt32)).toInt8.toInt32)] h0 n0 vV_ uE_.heap lL_ ∧ FrameEnd uU_ oO_ uE_ lL_ ({ frames := 1, cells := 1, slots := 1, locals := 18 } : Room).cells ({ frames := 1, cells := 1, slots := 1, locals := 18 } : Room).slots) := by
  refine MetFree.of_bodySF (plainFor_of_name pn_java_2flang_2fStringUTF16) hisR ?_
  intro pP eE sS mM args below meth cC s₁ Bd hml0 hP hK
  obtain ⟨rfl, hZ, hh⟩ := hP
  have hx := Bd.exec
  have hby := Bd.bytes
  have hml : cC.maxLocals = 6 := hml0
  have hown : sS.vm.findClass "java/lang/StringUTF16" = some mM.cls := findClass_of_methodNamed Bd.named
  have hnm := (name_of_methodNamed Bd.named Bd.method).1
  have hret := Bd.returns
  have hlk := BodyLoose.notSynchronized Bd
  have X0 : Stand pP lL eE ({ frames := 1, cells := 1, slots := 1, locals := 18 } : Room) sS mM #[(.ref s'), (.int (0 : Int32)), (.int (1 : Int32))] below meth cC s₁ [] 0 0 := Stand.of_body Bd
  have e0 : s₁.heap = h0 := by rw [← hh, Bd.state]; rfl
  have N0 := Fr.nil n0
  show own_Go pP eE below sS (QC3 Z 1 [(.int (((x0).toInt8.toInt32)).toInt8.toInt32)] h0 n0) 1 1 (s₁.setTop (entryFrame mM #[(.ref s'), (.int (0 : Int32)), (.int (1 : Int32))] 6))
  refine own_st (A := s₁.setTop (mkF mM 0 #[.val (.ref s'), .val (.int (0 : Int32)), .val (.int (1 : Int32)), .unset, .unset, .unset] [])) (fun tT_ kK_ => castTop (ef_rmC3_1 mM s' ks x0) kK_) ?_
  have Kp := Keep.refl h0 []
  refine own_st (A := s₁.setTop (mkF mM 1 #[.val (.ref s'), .val (.int (0 : Int32)), .val (.int (1 : Int32)), .unset, .unset, .unset] [(.int (1 : Int32))])) (fun tT_ kK_ => XS.iloadN X0.here hx rfl (hb hby d5_0) rfl kK_) ?_
  obtain ⟨T4, h4, k4, X4, e4, E4, A4, st4⟩ := newP X0 hx hZ (hw _ (List.mem_of_getElem? (i := 23) rfl)) e0 (g := (mkF mM 1 #[.val (.ref s'), .val (.int (0 : Int32)), .val (.int (1 : Int32)), .unset, .unset, .unset] [(.int (1 : Int32))])) rfl (hb hby d5_1) rfl (by decide) (cap := 1) (by decide) (by decide) (by decide) (by decide)
  obtain ⟨b4, g4⟩ : ∃ z, z = h0.size := ⟨_, rfl⟩
  rw [← g4] at A4 st4
  have ne_s'_b4 : s' ≠ b4 := Nat.ne_of_lt (Nat.lt_of_lt_of_le A_s'.lt (Nat.le_of_eq g4.symm))
  have g_b4 : n0 ≤ b4 := Nat.le_trans Zn (Nat.le_of_eq g4.symm)
  have b_b4 : h0.size ≤ b4 := Nat.le_trans Kp.1 (Nat.le_of_eq g4.symm)
  have A_s' := A_s'.ext E4
  have Zn := Nat.le_trans Zn E4.1
  have Kp := Kp.ext E4
  have A_b4 : Arv Z h4 b4 k4 .byte 1 [(.int (0 : Int32))] (.int (0 : Int32)) := (Arv.new A4 (by decide)).pad (pad_rep [] (.int (0 : Int32)) 1)
  refine own_st (A := T4.setTop (mkF mM 3 #[.val (.ref s'), .val (.int (0 : Int32)), .val (.int (1 : Int32)), .unset, .unset, .unset] [(.ref b4)])) (fun tT_ kK_ => st4 tT_ kK_) ?_
  refine own_st (A := T4.setTop (mkF mM 4 #[.val (.ref s'), .val (.int (0 : Int32)), .val (.int (1 : Int32)), .val (.ref b4), .unset, .unset] [])) (fun tT_ kK_ => XS.astoreN X4.here hx rfl (hb hby d5_3) rfl rfl (l' := #[.val (.ref s'), .val (.int (0 : Int32)), .val (.int (1 : Int32)), .val (.ref b4), .unset, .unset]) rfl kK_) ?_
  refine own_st (A := T4.setTop (mkF mM 5 #[.val (.ref s'), .val (.int (0 : Int32)), .val (.int (1 : Int32)), .val (.ref b4), .unset, .unset] [(.ref s')])) (fun tT_ kK_ => XS.aloadN X4.here hx rfl (hb hby d5_4) rfl rfl kK_) ?_
  refine own_st (A := T4.setTop (mkF mM 6 #[.val (.ref s'), .val (.int (0 : Int32)), .val (.int (1 : Int32)), .val (.ref b4), .unset, .unset] [(.int (0 : Int32)), (.ref s')])) (fun tT_ kK_ => XS.iloadN X4.here hx rfl (hb hby d5_5) rfl kK_) ?_
  refine own_st (A := T4.setTop (mkF mM 7 #[.val (.ref s'), .val (.int (0 : Int32)), .val (.int (1 : Int32)), .val (.ref b4), .unset, .unset] [(.ref b4), (.int (0 : Int32)), (.ref s')])) (fun tT_ kK_ => XS.aloadN X4.here hx rfl (hb hby d5_6) rfl rfl kK_) ?_
  refine own_st (A := T4.setTop (mkF mM 8 #[.val (.ref s'), .val (.int (0 : Int32)), .val (.int (1 : Int32)), .val (.ref b4), .unset, .unset] [(.int (0 : Int32)), (.ref b4), (.int (0 : Int32)), (.ref s')])) (fun tT_ kK_ => XS.iconst X4.here hx rfl (hb hby d5_7) kK_) ?_
  refine own_st (A := T4.setTop (mkF mM 9 #[.val (.ref s'), .val (.int (0 : Int32)), .val (.int (1 : Int32)), .val (.ref b4), .unset, .unset] [(.int (1 : Int32)), (.int (0 : Int32)), (.ref b4), (.int (0 : Int32)), (.ref s')])) (fun tT_ kK_ => XS.iloadN X4.here hx rfl (hb hby d5_8) rfl kK_) ?_
  obtain ⟨_, _, ⟨T5, L5, k5, n5⟩, -, X5, ⟨Lc5, hQ5, l5, y5, z5⟩, st5⟩ := Jvm.LawKit.callS X4 hx (y := (⟨"java/lang/StringUTF16", "compress", "([CI[BII)I"⟩ : MethodName)) hown (mvT hZ (hw _ (List.mem_of_getElem? (i := 24) rfl))) (mvT hZ (hw _ (List.mem_of_getElem? (i := 25) rfl))) (mvT hZ (hw _ (List.mem_of_getElem? (i := 21) rfl))) (mvT hZ (hw _ (List.mem_of_getElem? (i := 26) rfl))) (by decide) (backOf (W := 0) (rmC5_1 lL Z a0 hw [] s' ks b4 k4 x0 h4 n0 A_s' A_b4 g_b4 ne_s'_b4 cx0) hZ (hw _ (List.mem_of_getElem? (i := 26) rfl)) (hw _ (List.mem_of_getElem? (i := 21) rfl)) (by decide) (by decide)) (g := (mkF mM 9 #[.val (.ref s'), .val (.int (0 : Int32)), .val (.int (1 : Int32)), .val (.ref b4), .unset, .unset] [(.int (1 : Int32)), (.int (0 : Int32)), (.ref b4), (.int (0 : Int32)), (.ref s')])) rfl (by rw [hml]; rfl) (argsL := [(.ref s'), (.int (0 : Int32)), (.ref b4), (.int (0 : Int32)), (.int (1 : Int32))]) (rest := []) (lenOf pd__28_5bCI_5bBII_29I rfl) rfl (by show 2 * 0 + _ ≤ _; exact Nat.le_of_eq rfl) (hb hby d5_9) (fun _ _ => ⟨rfl, e4, (by decide : 1 + 0 ≤ _), (by decide : 1 + 0 ≤ _)⟩)
  dsimp only [Pt.U, Pt.locs, Pt.cells, Pt.slots] at X5 l5 y5 z5 st5 hQ5
  subst l5 y5 z5
  obtain ⟨rfl, N5q, K5, V5⟩ := hQ5
  have N5 := Fr.app N0 N5q
  have e5 : T5.heap = T5.heap := rfl
  refine own_st (A := T5.setTop (mkF mM 12 #[.val (.ref s'), .val (.int (0 : Int32)), .val (.int (1 : Int32)), .val (.ref b4), .unset, .unset] [(.int (1 : Int32))])) (fun tT_ kK_ => st5 tT_ kK_) ?_
  have A_s' := A_s'.keep K5 (ninS ne_s'_b4 nin0)
  have Zn := Nat.le_trans Zn K5.1
  have Kp := Kp.trans K5 (allS (Or.inr b_b4) all0)
  have A_b4 := V5
  refine own_st (A := T5.setTop (mkF mM 14 #[.val (.ref s'), .val (.int (0 : Int32)), .val (.int (1 : Int32)), .val (.ref b4), .val (.int (1 : Int32)), .unset] [])) (fun tT_ kK_ => XS.istore X5.here hx rfl (hb hby d5_12) rfl (l' := #[.val (.ref s'), .val (.int (0 : Int32)), .val (.int (1 : Int32)), .val (.ref b4), .val (.int (1 : Int32)), .unset]) rfl kK_) ?_
  refine own_st (A := T5.setTop (mkF mM 16 #[.val (.ref s'), .val (.int (0 : Int32)), .val (.int (1 : Int32)), .val (.ref b4), .val (.int (1 : Int32)), .unset] [(.int (1 : Int32))])) (fun tT_ kK_ => XS.iload X5.here hx rfl (hb hby d5_14) rfl kK_) ?_
  refine own_st (A := T5.setTop (mkF mM 17 #[.val (.ref s'), .val (.int (0 : Int32)), .val (.int (1 : Int32)), .val (.ref b4), .val (.int (1 : Int32)), .unset] [(.int (1 : Int32)), (.int (1 : Int32))])) (fun tT_ kK_ => XS.iloadN X5.here hx rfl (hb hby d5_16) rfl kK_) ?_
  refine own_st (A := T5.setTop (mkF mM 57 #[.val (.ref s'), .val (.int (0 : Int32)), .val (.int (1 : Int32)), .val (.ref b4), .val (.int (1 : Int32)), .unset] [])) (fun tT_ kK_ => XS.icmpYes X5.here hx rfl (pc0 := 17) (pc' := 57) rfl (hb hby d5_17) rfl (teq (by decide : ((1 : Int32) = (1 : Int32)))).1 (by decide) (by decide) kK_) ?_
  refine own_st (A := T5.setTop (mkF mM 58 #[.val (.ref s'), .val (.int (0 : Int32)), .val (.int (1 : Int32)), .val (.ref b4), .val (.int (1 : Int32)), .unset] [(.ref b4)])) (fun tT_ kK_ => XS.aloadN X5.here hx rfl (hb hby d5_57) rfl rfl kK_) ?_
  exact own_retA X5 hx hlk hret rfl rfl (hb hby d5_58) (by rw [e5]; exact ⟨_, _, rfl, N5, own_ext_of_keep Kp, A_b4, b_b4⟩) (by decide) (by decide)
theorem d7_0 : decode jdk_52_method_15_code 0 = .ok (.iload_n 1, 1) := by decide +kernel
theorem d7_1 : decode jdk_52_method_15_code 1 = .ok (.aload_n 0, 1) := by decide +kernel
theorem d7_2 : decode jdk_52_method_15_code 2 = .ok (.arraylength, 1) := by decide +kernel
theorem d7_3 : decode jdk_52_method_15_code 3 = .ok (.isub, 1) := by decide +kernel
theorem d7_4 : decode jdk_52_method_15_code 4 = .ok (.bipush 31, 2) := by decide +kernel
theorem d7_6 : decode jdk_52_method_15_code 6 = .ok (.iushr, 1) := by decide +kernel
theorem d7_7 : decode jdk_52_method_15_code 7 = .ok (.i2b, 1) := by decide +kernel
theorem d7_8 : decode jdk_52_method_15_code 8 = .ok (.ireturn, 1) := by decide +kernel
theorem ef_rmCo_1 (mM : MethodId) (d : Addr) (kd : ClassId) (x0 : Int32) : entryFrame mM #[(.ref d), (.int (1 : Int32))] 2 = mkF mM 0 #[.val (.ref d), .val (.int (1 : Int32))] [] := by first | (simp [entryFrame, mkF, argsToLocals, Value.category]; done) | rfl
set_option maxRecDepth 65536 in
set_option maxHeartbeats 40000000 in
theorem rmCo_1 (lL : Launch) (Z : State) (a0 : Array Value) (hw : ∀ d ∈ tables_1, d.before a0 Z = true) (ws : List Jvm.Cond) (d : Addr) (kd : ClassId) (x0 : Int32) (h0 : Heap) (n0 : Nat) (A_d : Arv Z h0 d kd .byte 1 [(.int (((x0).toInt8.toInt32)).toInt8.toInt32)] (.int 0)) :
    MetFree lL (⟨"java/lang/StringUTF16", "coderFromArrayLen", "([BI)B"⟩ : MethodName) (head1 (Jvm.Cond.code (⟨"java/lang/StringUTF16", "coderFromArrayLen", "([BI)B"⟩ : MethodName) jdk_52_method_15_code 2 (some .byte) :: ws) ({ frames := 0, cells := 0, slots := 0, locals := 0 } : Room)) (fun as_ uU_ => as_ = #[(.ref d), (.int (1 : Int32))] ∧ Z.Warmed39 uU_.vm ∧ uU_.heap = h0) (fun _ _ _ _ _ => True) (fun _ uU_ oO_ uE_ => ∃ vV_ lL_, oO_ = .returned vV_ ∧ Qw (.int 0) h0 n0 vV_ uE_.heap lL_ ∧ FrameEnd uU_ oO_ uE_ lL_ ({ frames := 0, cells := 0, slots := 0, locals := 0 } : Room).cells ({ frames := 0, cells := 0, slots := 0, locals := 0 } : Room).slots) := by
  refine MetFree.of_bodySF (plainFor_of_name pn_java_2flang_2fStringUTF16) hisR ?_
  intro pP eE sS mM args below meth cC s₁ Bd hml0 hP hK
  obtain ⟨rfl, hZ, hh⟩ := hP
  have hx := Bd.exec
  have hby := Bd.bytes
  have hml : cC.maxLocals = 2 := hml0
  have hown : sS.vm.findClass "java/lang/StringUTF16" = some mM.cls := findClass_of_methodNamed Bd.named
  have hnm := (name_of_methodNamed Bd.named Bd.method).1
  have hret := Bd.returns
  have hlk := BodyLoose.notSynchronized Bd
  have X0 : Stand pP lL eE ({ frames := 0, cells := 0, slots := 0, locals := 0 } : Room) sS mM #[(.ref d), (.int (1 : Int32))] below meth cC s₁ [] 0 0 := Stand.of_body Bd
  have e0 : s₁.heap = h0 := by rw [← hh, Bd.state]; rfl
  have N0 := Fr.nil n0
  show own_Go pP eE below sS (Qw (.int 0) h0 n0) 0 0 (s₁.setTop (entryFrame mM #[(.ref d), (.int (1 : Int32))] 2))
  refine own_st (A := s₁.setTop (mkF mM 0 #[.val (.ref d), .val (.int (1 : Int32))] [])) (fun tT_ kK_ => castTop (ef_rmCo_1 mM d kd x0) kK_) ?_
  refine own_st (A := s₁.setTop (mkF mM 1 #[.val (.ref d), .val (.int (1 : Int32))] [(.int (1 : Int32))])) (fun tT_ kK_ => XS.iloadN X0.here hx rfl (hb hby d7_0) rfl kK_) ?_
  refine own_st (A := s₁.setTop (mkF mM 2 #[.val (.ref d), .val (.int (1 : Int32))] [(.ref d), (.int (1 : Int32))])) (fun tT_ kK_ => XS.aloadN X0.here hx rfl (hb hby d7_1) rfl rfl kK_) ?_
  obtain ⟨cl6, Ar6, q6, S6, Nn6, H6, G6⟩ := id A_d
  refine own_st (A := s₁.setTop (mkF mM 3 #[.val (.ref d), .val (.int (1 : Int32))] [(.int (1 : Int32)), (.int (1 : Int32))])) (fun tT_ kK_ => X0.arraylength hx (by rw [e0]; exact Ar6.1) (State.isArrayOf_alike hZ.alike Ar6.2.1) (g := (mkF mM 2 #[.val (.ref d), .val (.int (1 : Int32))] [(.ref d), (.int (1 : Int32))])) rfl rfl (hb hby d7_2) tT_ (by rw [len_of S6 Nn6]; exact kK_)) ?_
  refine own_st (A := s₁.setTop (mkF mM 4 #[.val (.ref d), .val (.int (1 : Int32))] [(.int (0 : Int32))])) (fun tT_ kK_ => XS.isub X0.here hx rfl (hb hby d7_3) rfl kK_) ?_
  refine own_st (A := s₁.setTop (mkF mM 6 #[.val (.ref d), .val (.int (1 : Int32))] [(.int (31 : Int32)), (.int (0 : Int32))])) (fun tT_ kK_ => XS.bipush X0.here hx rfl (hb hby d7_4) kK_) ?_
  refine own_st (A := s₁.setTop (mkF mM 7 #[.val (.ref d), .val (.int (1 : Int32))] [(.int (((0 : Int32).toUInt32 >>> ((31 : Int32) &&& 31).toUInt32).toInt32))])) (fun tT_ kK_ => XS.iushr X0.here hx rfl (hb hby d7_6) rfl kK_) ?_
  refine own_st (A := s₁.setTop (mkF mM 8 #[.val (.ref d), .val (.int (1 : Int32))] [(.int (((((0 : Int32).toUInt32 >>> ((31 : Int32) &&& 31).toUInt32).toInt32)).toInt8.toInt32))])) (fun tT_ kK_ => XS.i2b X0.here hx rfl (hb hby d7_7) rfl kK_) ?_
  exact own_retN X0 hx hlk (t := .byte) hret (by simp) (hb hby d7_8) (show Qw _ _ _ (some (.int (0 : Int32))) _ _ from ⟨rfl, N0, e0⟩) (by decide) (by decide)
theorem d3_0 : decode jdk_42_method_149_code 0 = .ok (.aload_n 0, 1) := by decide +kernel
theorem d3_1 : decode jdk_42_method_149_code 1 = .ok (.invokespecial 1, 3) := by decide +kernel
theorem d3_4 : decode jdk_42_method_149_code 4 = .ok (.iload_n 3, 1) := by decide +kernel
theorem d3_5 : decode jdk_42_method_149_code 5 = .ok (.ifCond .ne 22, 3) := by decide +kernel
theorem d3_27 : decode jdk_42_method_149_code 27 = .ok (.getstatic 38, 3) := by decide +kernel
theorem d3_30 : decode jdk_42_method_149_code 30 = .ok (.ifCond .eq 28, 3) := by decide +kernel
theorem d3_33 : decode jdk_42_method_149_code 33 = .ok (.aload_n 1, 1) := by decide +kernel
theorem d3_34 : decode jdk_42_method_149_code 34 = .ok (.iload_n 2, 1) := by decide +kernel
theorem d3_35 : decode jdk_42_method_149_code 35 = .ok (.iload_n 3, 1) := by decide +kernel
theorem d3_36 : decode jdk_42_method_149_code 36 = .ok (.invokestatic 177, 3) := by decide +kernel
theorem pd__28_5bCII_29_5bB : parseMethodDescriptor "([CII)[B" = some ⟨[(.array .char), .int, .int], some (.array .byte)⟩ := by decide +kernel
theorem d3_39 : decode jdk_42_method_149_code 39 = .ok (.astore 5, 2) := by decide +kernel
theorem d3_41 : decode jdk_42_method_149_code 41 = .ok (.aload_n 0, 1) := by decide +kernel
theorem d3_42 : decode jdk_42_method_149_code 42 = .ok (.aload 5, 2) := by decide +kernel
theorem d3_44 : decode jdk_42_method_149_code 44 = .ok (.iload_n 3, 1) := by decide +kernel
theorem d3_45 : decode jdk_42_method_149_code 45 = .ok (.invokestatic 47, 3) := by decide +kernel
theorem pd__28_5bBI_29B : parseMethodDescriptor "([BI)B" = some ⟨[(.array .byte), .int], some .byte⟩ := by decide +kernel
theorem d3_48 : decode jdk_42_method_149_code 48 = .ok (.putfield 15, 3) := by decide +kernel
theorem d3_51 : decode jdk_42_method_149_code 51 = .ok (.aload_n 0, 1) := by decide +kernel
theorem d3_52 : decode jdk_42_method_149_code 52 = .ok (.aload 5, 2) := by decide +kernel
theorem d3_54 : decode jdk_42_method_149_code 54 = .ok (.putfield 9, 3) := by decide +kernel
theorem d3_57 : decode jdk_42_method_149_code 57 = .ok (.return_, 1) := by decide +kernel
theorem pn_java_2flang_2fString : plainName "java/lang/String" = true := by first | (simp [plainName, overriddenIn]; done) | decide +kernel
theorem ef_rmS4_1 (mM : MethodId) (a : Addr) (s' : Addr) (ks : ClassId) (cs : Int32) (x0 : Int32) : entryFrame mM #[(.ref a), (.ref s'), (.int (0 : Int32)), (.int (1 : Int32)), .null] 6 = mkF mM 0 #[.val (.ref a), .val (.ref s'), .val (.int (0 : Int32)), .val (.int (1 : Int32)), .val .null, .unset] [] := by first | (simp [entryFrame, mkF, argsToLocals, Value.category]; done) | rfl
set_option maxRecDepth 65536 in
set_option maxHeartbeats 40000000 in
theorem rmS4_1 (lL : Launch) (Z : State) (a0 : Array Value) (hw : ∀ d ∈ tables_1, d.before a0 Z = true) (ws : List Jvm.Cond) (a : Addr) (s' : Addr) (ks : ClassId) (cs : Int32) (x0 : Int32) (h0 : Heap) (n0 : Nat) (g_a : n0 ≤ a) (E_a : Exa Z h0 a "java/lang/String") (F_a_value : Fld Z h0 a "java/lang/String" "value" "[B" .null) (F_a_coder : Fld Z h0 a "java/lang/String" "coder" "B" (.int (0 : Int32))) (A_s' : Arv Z h0 s' ks .char 1 [(.int x0)] (.int 0)) (nsa : s' ≠ a) (O : Old Z n0 h0) (Zn : n0 ≤ h0.size) (S_cs : Sta Z Z.heap "java/lang/String" "COMPACT_STRINGS" "Z" (.int cs)) (hcs : ¬ cs = (0 : Int32)) (cx0 : Ck x0) :
    MetFree lL (⟨"java/lang/String", "<init>", "([CIILjava/lang/Void;)V"⟩ : MethodName) (head1 (Jvm.Cond.code (⟨"java/lang/String", "<init>", "([CIILjava/lang/Void;)V"⟩ : MethodName) jdk_42_method_149_code 6 none :: ws) ({ frames := 2, cells := 1, slots := 1, locals := 35 } : Room)) (fun as_ uU_ => as_ = #[(.ref a), (.ref s'), (.int (0 : Int32)), (.int (1 : Int32)), .null] ∧ Z.Warmed39 uU_.vm ∧ uU_.heap = h0) (fun _ _ _ _ _ => True) (fun _ uU_ oO_ uE_ => ∃ vV_ lL_, oO_ = .returned vV_ ∧ QS Z a 1 [(.int (((x0).toInt8.toInt32)).toInt8.toInt32)] h0 n0 vV_ uE_.heap lL_ ∧ FrameEnd uU_ oO_ uE_ lL_ ({ frames := 2, cells := 1, slots := 1, locals := 35 } : Room).cells ({ frames := 2, cells := 1, slots := 1, locals := 35 } : Room).slots) := by
  refine MetFree.of_bodySF (plainFor_of_name pn_java_2flang_2fString) hisR ?_
  intro pP eE sS mM args below meth cC s₁ Bd hml0 hP hK
  obtain ⟨rfl, hZ, hh⟩ := hP
  have hx := Bd.exec
  have hby := Bd.bytes
  have hml : cC.maxLocals = 6 := hml0
  have hown : sS.vm.findClass "java/lang/String" = some mM.cls := findClass_of_methodNamed Bd.named
  have hnm := (name_of_methodNamed Bd.named Bd.method).1
  have hret := Bd.returns
  have hlk := BodyLoose.notSynchronized Bd
  have X0 : Stand pP lL eE ({ frames := 2, cells := 1, slots := 1, locals := 35 } : Room) sS mM #[(.ref a), (.ref s'), (.int (0 : Int32)), (.int (1 : Int32)), .null] below meth cC s₁ [] 0 0 := Stand.of_body Bd
  have e0 : s₁.heap = h0 := by rw [← hh, Bd.state]; rfl
  have N0 := Fr.nil n0
  show own_Go pP eE below sS (QS Z a 1 [(.int (((x0).toInt8.toInt32)).toInt8.toInt32)] h0 n0) 1 1 (s₁.setTop (entryFrame mM #[(.ref a), (.ref s'), (.int (0 : Int32)), (.int (1 : Int32)), .null] 6))
  refine own_st (A := s₁.setTop (mkF mM 0 #[.val (.ref a), .val (.ref s'), .val (.int (0 : Int32)), .val (.int (1 : Int32)), .val .null, .unset] [])) (fun tT_ kK_ => castTop (ef_rmS4_1 mM a s' ks cs x0) kK_) ?_
  have Kp := Keep.refl h0 [a]
  refine own_st (A := s₁.setTop (mkF mM 1 #[.val (.ref a), .val (.ref s'), .val (.int (0 : Int32)), .val (.int (1 : Int32)), .val .null, .unset] [(.ref a)])) (fun tT_ kK_ => XS.aloadN X0.here hx rfl (hb hby d3_0) rfl rfl kK_) ?_
  obtain ⟨T7, X7, e7, st7⟩ := initO X0 hx hZ hown (hw _ (List.mem_of_getElem? (i := 15) rfl)) (hw _ (List.mem_of_getElem? (i := 16) rfl)) (hw _ (List.mem_of_getElem? (i := 17) rfl)) e0 (g := (mkF mM 1 #[.val (.ref a), .val (.ref s'), .val (.int (0 : Int32)), .val (.int (1 : Int32)), .val .null, .unset] [(.ref a)])) rfl (by rw [hml]; rfl) rfl (hb hby d3_1) (by decide) (W := 0) (by show 2 * 0 + _ ≤ _; exact Nat.le_of_eq rfl) (by decide)
  refine own_st (A := T7.setTop (mkF mM 4 #[.val (.ref a), .val (.ref s'), .val (.int (0 : Int32)), .val (.int (1 : Int32)), .val .null, .unset] [])) (fun tT_ kK_ => st7 tT_ kK_) ?_
  refine own_st (A := T7.setTop (mkF mM 5 #[.val (.ref a), .val (.ref s'), .val (.int (0 : Int32)), .val (.int (1 : Int32)), .val .null, .unset] [(.int (1 : Int32))])) (fun tT_ kK_ => XS.iloadN X7.here hx rfl (hb hby d3_4) rfl kK_) ?_
  refine own_st (A := T7.setTop (mkF mM 27 #[.val (.ref a), .val (.ref s'), .val (.int (0 : Int32)), .val (.int (1 : Int32)), .val .null, .unset] [])) (fun tT_ kK_ => XS.ifYes X7.here hx rfl (pc0 := 5) (pc' := 27) rfl (hb hby d3_5) rfl ((if0 _ _).trans (feq (by decide : ¬ ((1 : Int32) = (0 : Int32)))).2) (by decide) (by decide) kK_) ?_
  obtain ⟨T8, X8, e8, st8⟩ := getS2 X7 hx hZ hown (host := "") (Or.inl (hw _ (List.mem_of_getElem? (i := 18) rfl))) Via.refl e7 (S_cs.ext O.2) (g := (mkF mM 27 #[.val (.ref a), .val (.ref s'), .val (.int (0 : Int32)), .val (.int (1 : Int32)), .val .null, .unset] [])) rfl (hb hby d3_27)
  refine own_st (A := T8.setTop (mkF mM 30 #[.val (.ref a), .val (.ref s'), .val (.int (0 : Int32)), .val (.int (1 : Int32)), .val .null, .unset] [(.int cs)])) (fun tT_ kK_ => st8 tT_ kK_) ?_
  refine own_st (A := T8.setTop (mkF mM 33 #[.val (.ref a), .val (.ref s'), .val (.int (0 : Int32)), .val (.int (1 : Int32)), .val .null, .unset] [])) (fun tT_ kK_ => XS.ifNo X8.here hx rfl (hb hby d3_30) rfl ((if0 _ _).trans (feq hcs).1) kK_) ?_
  refine own_st (A := T8.setTop (mkF mM 34 #[.val (.ref a), .val (.ref s'), .val (.int (0 : Int32)), .val (.int (1 : Int32)), .val .null, .unset] [(.ref s')])) (fun tT_ kK_ => XS.aloadN X8.here hx rfl (hb hby d3_33) rfl rfl kK_) ?_
  refine own_st (A := T8.setTop (mkF mM 35 #[.val (.ref a), .val (.ref s'), .val (.int (0 : Int32)), .val (.int (1 : Int32)), .val .null, .unset] [(.int (0 : Int32)), (.ref s')])) (fun tT_ kK_ => XS.iloadN X8.here hx rfl (hb hby d3_34) rfl kK_) ?_
  refine own_st (A := T8.setTop (mkF mM 36 #[.val (.ref a), .val (.ref s'), .val (.int (0 : Int32)), .val (.int (1 : Int32)), .val .null, .unset] [(.int (1 : Int32)), (.int (0 : Int32)), (.ref s')])) (fun tT_ kK_ => XS.iloadN X8.here hx rfl (hb hby d3_35) rfl kK_) ?_
  obtain ⟨_, _, ⟨T9, L9, k9, n9⟩, -, X9, ⟨Lc9, hQ9, l9, y9, z9⟩, st9⟩ := Jvm.LawKit.callS X8 hx (y := (⟨"java/lang/StringUTF16", "compress", "([CII)[B"⟩ : MethodName)) hown (mvT hZ (hw _ (List.mem_of_getElem? (i := 19) rfl))) (mvT hZ (hw _ (List.mem_of_getElem? (i := 20) rfl))) (mvT hZ (hw _ (List.mem_of_getElem? (i := 21) rfl))) (mvT hZ (hw _ (List.mem_of_getElem? (i := 22) rfl))) (by decide) (backOf (W := 0) (rmC3_1 lL Z a0 hw [] s' ks x0 h0 n0 Zn A_s' cx0) hZ (hw _ (List.mem_of_getElem? (i := 22) rfl)) (hw _ (List.mem_of_getElem? (i := 21) rfl)) (by decide) (by decide)) (g := (mkF mM 36 #[.val (.ref a), .val (.ref s'), .val (.int (0 : Int32)), .val (.int (1 : Int32)), .val .null, .unset] [(.int (1 : Int32)), (.int (0 : Int32)), (.ref s')])) rfl (by rw [hml]; rfl) (argsL := [(.ref s'), (.int (0 : Int32)), (.int (1 : Int32))]) (rest := []) (lenOf pd__28_5bCII_29_5bB rfl) rfl (by show 2 * 0 + _ ≤ _; exact Nat.le_of_eq rfl) (hb hby d3_36) (fun _ _ => ⟨rfl, e8, (by decide : 0 + 1 ≤ _), (by decide : 0 + 1 ≤ _)⟩)
  dsimp only [Pt.U, Pt.locs, Pt.cells, Pt.slots] at X9 l9 y9 z9 st9 hQ9
  subst l9 y9 z9
  obtain ⟨b9, k9', rfl, N9q, E9, V9, ge9⟩ := hQ9
  have N9 := Fr.app N0 N9q
  have e9 : T9.heap = T9.heap := rfl
  refine own_st (A := T9.setTop (mkF mM 39 #[.val (.ref a), .val (.ref s'), .val (.int (0 : Int32)), .val (.int (1 : Int32)), .val .null, .unset] [(.ref b9)])) (fun tT_ kK_ => st9 tT_ kK_) ?_
  have ne_a_b9 : a ≠ b9 := Nat.ne_of_lt (Nat.lt_of_lt_of_le E_a.lt ge9)
  have b_b9 : h0.size ≤ b9 := Nat.le_trans Kp.1 ge9
  have F_a_value := F_a_value.ext E9
  have F_a_coder := F_a_coder.ext E9
  have E_a := E_a.ext E9
  have O := O.ext E9
  have A_s' := A_s'.ext E9
  have Zn := Nat.le_trans Zn E9.1
  have Kp := Kp.ext E9
  have A_b9 := V9
  refine own_st (A := T9.setTop (mkF mM 41 #[.val (.ref a), .val (.ref s'), .val (.int (0 : Int32)), .val (.int (1 : Int32)), .val .null, .val (.ref b9)] [])) (fun tT_ kK_ => XS.astore X9.here hx rfl (hb hby d3_39) rfl rfl (l' := #[.val (.ref a), .val (.ref s'), .val (.int (0 : Int32)), .val (.int (1 : Int32)), .val .null, .val (.ref b9)]) rfl kK_) ?_
  refine own_st (A := T9.setTop (mkF mM 42 #[.val (.ref a), .val (.ref s'), .val (.int (0 : Int32)), .val (.int (1 : Int32)), .val .null, .val (.ref b9)] [(.ref a)])) (fun tT_ kK_ => XS.aloadN X9.here hx rfl (hb hby d3_41) rfl rfl kK_) ?_
  refine own_st (A := T9.setTop (mkF mM 44 #[.val (.ref a), .val (.ref s'), .val (.int (0 : Int32)), .val (.int (1 : Int32)), .val .null, .val (.ref b9)] [(.ref b9), (.ref a)])) (fun tT_ kK_ => XS.aload X9.here hx rfl (hb hby d3_42) rfl rfl kK_) ?_
  refine own_st (A := T9.setTop (mkF mM 45 #[.val (.ref a), .val (.ref s'), .val (.int (0 : Int32)), .val (.int (1 : Int32)), .val .null, .val (.ref b9)] [(.int (1 : Int32)), (.ref b9), (.ref a)])) (fun tT_ kK_ => XS.iloadN X9.here hx rfl (hb hby d3_44) rfl kK_) ?_
  obtain ⟨_, _, ⟨T10, L10, k10, n10⟩, -, X10, ⟨Lc10, hQ10, l10, y10, z10⟩, st10⟩ := Jvm.LawKit.callS X9 hx (y := (⟨"java/lang/StringUTF16", "coderFromArrayLen", "([BI)B"⟩ : MethodName)) hown (mvT hZ (hw _ (List.mem_of_getElem? (i := 27) rfl))) (mvT hZ (hw _ (List.mem_of_getElem? (i := 28) rfl))) (mvT hZ (hw _ (List.mem_of_getElem? (i := 21) rfl))) (mvT hZ (hw _ (List.mem_of_getElem? (i := 29) rfl))) (by decide) (backOf (W := 1) (rmCo_1 lL Z a0 hw [] b9 k9' x0 T9.heap n0 A_b9) hZ (hw _ (List.mem_of_getElem? (i := 29) rfl)) (hw _ (List.mem_of_getElem? (i := 21) rfl)) (by decide) (by decide)) (g := (mkF mM 45 #[.val (.ref a), .val (.ref s'), .val (.int (0 : Int32)), .val (.int (1 : Int32)), .val .null, .val (.ref b9)] [(.int (1 : Int32)), (.ref b9), (.ref a)])) rfl (by rw [hml]; rfl) (argsL := [(.ref b9), (.int (1 : Int32))]) (rest := [(.ref a)]) (lenOf pd__28_5bBI_29B rfl) rfl (by show 2 * 0 + _ ≤ _; exact Nat.le_of_eq rfl) (hb hby d3_45) (fun _ _ => ⟨rfl, e9, (by decide : 1 + 0 ≤ _), (by decide : 1 + 0 ≤ _)⟩)
  dsimp only [Pt.U, Pt.locs, Pt.cells, Pt.slots] at X10 l10 y10 z10 st10 hQ10
  subst l10 y10 z10
  obtain ⟨rfl, N10q, e10⟩ := hQ10
  have N10 := Fr.app N9 N10q
  refine own_st (A := T10.setTop (mkF mM 48 #[.val (.ref a), .val (.ref s'), .val (.int (0 : Int32)), .val (.int (1 : Int32)), .val .null, .val (.ref b9)] [(.int (0 : Int32)), (.ref a)])) (fun tT_ kK_ => st10 tT_ kK_) ?_
  obtain ⟨T11, h11, X11, e11, W11, st11⟩ := putFN X10 hx hZ hown (hw _ (List.mem_of_getElem? (i := 30) rfl)) Via.refl e10 F_a_coder E_a (Or.inr ⟨(hw _ (List.mem_of_getElem? (i := 31) rfl)), rfl, hnm⟩) (hw _ (List.mem_of_getElem? (i := 5) rfl)) (ty := .byte) (v' := (.int (0 : Int32))) (by decide) rfl (by decide) (g := (mkF mM 48 #[.val (.ref a), .val (.ref s'), .val (.int (0 : Int32)), .val (.int (1 : Int32)), .val .null, .val (.ref b9)] [(.int (0 : Int32)), (.ref a)])) rfl rfl (hb hby d3_48)
  have N11 := Fr.snoc X11 N10 g_a
  have F_a_value := F_a_value.other W11 (Or.inr (slot_ne (Or.inr (hw _ (List.mem_of_getElem? (i := 33) rfl))) (Or.inr (hw _ (List.mem_of_getElem? (i := 31) rfl))) (by decide) (t := (.array .byte)) (t' := .byte) (by decide) (by decide)))
  have F_a_coder := F_a_coder.same W11
  have E_a := E_a.wr W11
  have A_s' := A_s'.other W11 nsa
  have A_b9 := A_b9.other W11 (Ne.symm ne_a_b9)
  have O := O.wr W11 g_a
  have Zn := Nat.le_trans Zn (Keep.of_wr W11).1
  have Kp := Kp.wr W11 (Or.inl (List.mem_of_getElem? (i := 0) rfl))
  refine own_st (A := T11.setTop (mkF mM 51 #[.val (.ref a), .val (.ref s'), .val (.int (0 : Int32)), .val (.int (1 : Int32)), .val .null, .val (.ref b9)] [])) (fun tT_ kK_ => st11 tT_ kK_) ?_
  refine own_st (A := T11.setTop (mkF mM 52 #[.val (.ref a), .val (.ref s'), .val (.int (0 : Int32)), .val (.int (1 : Int32)), .val .null, .val (.ref b9)] [(.ref a)])) (fun tT_ kK_ => XS.aloadN X11.here hx rfl (hb hby d3_51) rfl rfl kK_) ?_
  refine own_st (A := T11.setTop (mkF mM 54 #[.val (.ref a), .val (.ref s'), .val (.int (0 : Int32)), .val (.int (1 : Int32)), .val .null, .val (.ref b9)] [(.ref b9), (.ref a)])) (fun tT_ kK_ => XS.aload X11.here hx rfl (hb hby d3_52) rfl rfl kK_) ?_
  obtain ⟨T12, h12, X12, e12, W12, st12⟩ := putF X11 hx hZ hown (host := "") (Or.inl (hw _ (List.mem_of_getElem? (i := 32) rfl))) Via.refl e11 F_a_value E_a (Or.inr ⟨(hw _ (List.mem_of_getElem? (i := 33) rfl)), rfl, hnm⟩) (hw _ (List.mem_of_getElem? (i := 5) rfl)) (ty := (.array .byte)) (by decide) rfl rfl (g := (mkF mM 54 #[.val (.ref a), .val (.ref s'), .val (.int (0 : Int32)), .val (.int (1 : Int32)), .val .null, .val (.ref b9)] [(.ref b9), (.ref a)])) rfl rfl (hb hby d3_54)
  have N12 := Fr.snoc X12 N11 g_a
  have F_a_value := F_a_value.same W12
  have F_a_coder := F_a_coder.other W12 (Or.inr (slot_ne (Or.inr (hw _ (List.mem_of_getElem? (i := 31) rfl))) (Or.inr (hw _ (List.mem_of_getElem? (i := 33) rfl))) (by decide) (t := .byte) (t' := (.array .byte)) (by decide) (by decide)))
  have E_a := E_a.wr W12
  have A_s' := A_s'.other W12 nsa
  have A_b9 := A_b9.other W12 (Ne.symm ne_a_b9)
  have O := O.wr W12 g_a
  have Zn := Nat.le_trans Zn (Keep.of_wr W12).1
  have Kp := Kp.wr W12 (Or.inl (List.mem_of_getElem? (i := 0) rfl))
  refine own_st (A := T12.setTop (mkF mM 57 #[.val (.ref a), .val (.ref s'), .val (.int (0 : Int32)), .val (.int (1 : Int32)), .val .null, .val (.ref b9)] [])) (fun tT_ kK_ => st12 tT_ kK_) ?_
  exact own_retV X12 hx hlk hret (hb hby d3_57) (by rw [e12]; exact ⟨_, _, rfl, N12, Kp, ⟨E_a, F_a_value, F_a_coder, A_b9⟩, b_b9⟩) (by decide) (by decide)
theorem d2_0 : decode jdk_42_method_3_code 0 = .ok (.aload_n 0, 1) := by decide +kernel
theorem d2_1 : decode jdk_42_method_3_code 1 = .ok (.aload_n 1, 1) := by decide +kernel
theorem d2_2 : decode jdk_42_method_3_code 2 = .ok (.iconst 0, 1) := by decide +kernel
theorem d2_3 : decode jdk_42_method_3_code 3 = .ok (.aload_n 1, 1) := by decide +kernel
theorem d2_4 : decode jdk_42_method_3_code 4 = .ok (.arraylength, 1) := by decide +kernel
theorem d2_5 : decode jdk_42_method_3_code 5 = .ok (.aconst_null, 1) := by decide +kernel
theorem d2_6 : decode jdk_42_method_3_code 6 = .ok (.invokespecial 27, 3) := by decide +kernel
theorem pd__28_5bCIILjava_2flang_2fVoid_3b_29V : parseMethodDescriptor "([CIILjava/lang/Void;)V" = some ⟨[(.array .char), .int, .int, (.object "java/lang/Void")], none⟩ := by decide +kernel
theorem d2_9 : decode jdk_42_method_3_code 9 = .ok (.return_, 1) := by decide +kernel
theorem ef_rmS1_1 (mM : MethodId) (a : Addr) (s' : Addr) (ks : ClassId) (cs : Int32) (x0 : Int32) : entryFrame mM #[(.ref a), (.ref s')] 2 = mkF mM 0 #[.val (.ref a), .val (.ref s')] [] := by first | (simp [entryFrame, mkF, argsToLocals, Value.category]; done) | rfl
set_option maxRecDepth 65536 in
set_option maxHeartbeats 40000000 in
theorem rmS1_1 (lL : Launch) (Z : State) (a0 : Array Value) (hw : ∀ d ∈ tables_1, d.before a0 Z = true) (ws : List Jvm.Cond) (a : Addr) (s' : Addr) (ks : ClassId) (cs : Int32) (x0 : Int32) (h0 : Heap) (n0 : Nat) (g_a : n0 ≤ a) (E_a : Exa Z h0 a "java/lang/String") (F_a_value : Fld Z h0 a "java/lang/String" "value" "[B" .null) (F_a_coder : Fld Z h0 a "java/lang/String" "coder" "B" (.int (0 : Int32))) (A_s' : Arv Z h0 s' ks .char 1 [(.int x0)] (.int 0)) (nsa : s' ≠ a) (O : Old Z n0 h0) (Zn : n0 ≤ h0.size) (S_cs : Sta Z Z.heap "java/lang/String" "COMPACT_STRINGS" "Z" (.int cs)) (hcs : ¬ cs = (0 : Int32)) (cx0 : Ck x0) :
    MetFree lL (⟨"java/lang/String", "<init>", "([C)V"⟩ : MethodName) (head1 (Jvm.Cond.code (⟨"java/lang/String", "<init>", "([C)V"⟩ : MethodName) jdk_42_method_3_code 2 none :: ws) ({ frames := 3, cells := 1, slots := 1, locals := 52 } : Room)) (fun as_ uU_ => as_ = #[(.ref a), (.ref s')] ∧ Z.Warmed39 uU_.vm ∧ uU_.heap = h0) (fun _ _ _ _ _ => True) (fun _ uU_ oO_ uE_ => ∃ vV_ lL_, oO_ = .returned vV_ ∧ QS Z a 1 [(.int (((x0).toInt8.toInt32)).toInt8.toInt32)] h0 n0 vV_ uE_.heap lL_ ∧ FrameEnd uU_ oO_ uE_ lL_ ({ frames := 3, cells := 1, slots := 1, locals := 52 } : Room).cells ({ frames := 3, cells := 1, slots := 1, locals := 52 } : Room).slots) := by
  refine MetFree.of_bodySF (plainFor_of_name pn_java_2flang_2fString) hisR ?_
  intro pP eE sS mM args below meth cC s₁ Bd hml0 hP hK
  obtain ⟨rfl, hZ, hh⟩ := hP
  have hx := Bd.exec
  have hby := Bd.bytes
  have hml : cC.maxLocals = 2 := hml0
  have hown : sS.vm.findClass "java/lang/String" = some mM.cls := findClass_of_methodNamed Bd.named
  have hnm := (name_of_methodNamed Bd.named Bd.method).1
  have hret := Bd.returns
  have hlk := BodyLoose.notSynchronized Bd
  have X0 : Stand pP lL eE ({ frames := 3, cells := 1, slots := 1, locals := 52 } : Room) sS mM #[(.ref a), (.ref s')] below meth cC s₁ [] 0 0 := Stand.of_body Bd
  have e0 : s₁.heap = h0 := by rw [← hh, Bd.state]; rfl
  have N0 := Fr.nil n0
  show own_Go pP eE below sS (QS Z a 1 [(.int (((x0).toInt8.toInt32)).toInt8.toInt32)] h0 n0) 1 1 (s₁.setTop (entryFrame mM #[(.ref a), (.ref s')] 2))
  refine own_st (A := s₁.setTop (mkF mM 0 #[.val (.ref a), .val (.ref s')] [])) (fun tT_ kK_ => castTop (ef_rmS1_1 mM a s' ks cs x0) kK_) ?_
  refine own_st (A := s₁.setTop (mkF mM 1 #[.val (.ref a), .val (.ref s')] [(.ref a)])) (fun tT_ kK_ => XS.aloadN X0.here hx rfl (hb hby d2_0) rfl rfl kK_) ?_
  refine own_st (A := s₁.setTop (mkF mM 2 #[.val (.ref a), .val (.ref s')] [(.ref s'), (.ref a)])) (fun tT_ kK_ => XS.aloadN X0.here hx rfl (hb hby d2_1) rfl rfl kK_) ?_
  refine own_st (A := s₁.setTop (mkF mM 3 #[.val (.ref a), .val (.ref s')] [(.int (0 : Int32)), (.ref s'), (.ref a)])) (fun tT_ kK_ => XS.iconst X0.here hx rfl (hb hby d2_2) kK_) ?_
  refine own_st (A := s₁.setTop (mkF mM 4 #[.val (.ref a), .val (.ref s')] [(.ref s'), (.int (0 : Int32)), (.ref s'), (.ref a)])) (fun tT_ kK_ => XS.aloadN X0.here hx rfl (hb hby d2_3) rfl rfl kK_) ?_
  obtain ⟨cl13, Ar13, q13, S13, Nn13, H13, G13⟩ := id A_s'
  refine own_st (A := s₁.setTop (mkF mM 5 #[.val (.ref a), .val (.ref s')] [(.int (1 : Int32)), (.int (0 : Int32)), (.ref s'), (.ref a)])) (fun tT_ kK_ => X0.arraylength hx (by rw [e0]; exact Ar13.1) (State.isArrayOf_alike hZ.alike Ar13.2.1) (g := (mkF mM 4 #[.val (.ref a), .val (.ref s')] [(.ref s'), (.int (0 : Int32)), (.ref s'), (.ref a)])) rfl rfl (hb hby d2_4) tT_ (by rw [len_of S13 Nn13]; exact kK_)) ?_
  refine own_st (A := s₁.setTop (mkF mM 6 #[.val (.ref a), .val (.ref s')] [.null, (.int (1 : Int32)), (.int (0 : Int32)), (.ref s'), (.ref a)])) (fun tT_ kK_ => XS.aconstNull X0.here hx rfl (hb hby d2_5) kK_) ?_
  obtain ⟨_, _, ⟨T14, L14, k14, n14⟩, -, X14, ⟨Lc14, hQ14, l14, y14, z14⟩, st14⟩ := X0.specialBack hx (y := (⟨"java/lang/String", "<init>", "([CIILjava/lang/Void;)V"⟩ : MethodName)) rfl hown (mvT hZ (hw _ (List.mem_of_getElem? (i := 11) rfl))) (mvT hZ (hw _ (List.mem_of_getElem? (i := 12) rfl))) (mvT hZ (hw _ (List.mem_of_getElem? (i := 14) rfl))) (by decide) (backOf (W := 0) (rmS4_1 lL Z a0 hw [] a s' ks cs x0 h0 n0 g_a E_a F_a_value F_a_coder A_s' nsa O Zn S_cs hcs cx0) hZ (hw _ (List.mem_of_getElem? (i := 14) rfl)) (hw _ (List.mem_of_getElem? (i := 6) rfl)) (by decide) (by decide)) (g := (mkF mM 6 #[.val (.ref a), .val (.ref s')] [.null, (.int (1 : Int32)), (.int (0 : Int32)), (.ref s'), (.ref a)])) rfl (by rw [hml]; rfl) (Steps.refl _) (a := a) (argsL := [(.ref s'), (.int (0 : Int32)), (.int (1 : Int32)), .null]) (rest := []) (lenOf pd__28_5bCIILjava_2flang_2fVoid_3b_29V rfl) rfl (by show 2 * 0 + _ ≤ _; exact Nat.le_of_eq rfl) (hb hby d2_6) (fun _ _ => ⟨rfl, e0, (by decide : 0 + 1 ≤ _), (by decide : 0 + 1 ≤ _)⟩)
  dsimp only [Pt.U, Pt.locs, Pt.cells, Pt.slots] at X14 l14 y14 z14 st14 hQ14
  subst l14 y14 z14
  obtain ⟨d14, k14', rfl, N14q, R14⟩ := hQ14
  have N14 := Fr.app N0 N14q
  have e14 : T14.heap = T14.heap := rfl
  refine own_st (A := T14.setTop (mkF mM 9 #[.val (.ref a), .val (.ref s')] [])) (fun tT_ kK_ => st14.trans kK_) ?_
  exact own_retV X14 hx hlk hret (hb hby d2_9) ⟨_, _, rfl, N14, R14⟩ (by decide) (by decide)
theorem ef_rmC5_2 (mM : MethodId) (s' : Addr) (ks : ClassId) (d : Addr) (kd : ClassId) (x0 : Int32) (x1 : Int32) : entryFrame mM #[(.ref s'), (.int (0 : Int32)), (.ref d), (.int (0 : Int32)), (.int (2 : Int32))] 7 = mkF mM 0 #[.val (.ref s'), .val (.int (0 : Int32)), .val (.ref d), .val (.int (0 : Int32)), .val (.int (2 : Int32)), .unset, .unset] [] := by first | (simp [entryFrame, mkF, argsToLocals, Value.category]; done) | rfl
set_option maxRecDepth 65536 in
set_option maxHeartbeats 40000000 in
theorem rmC5_2 (lL : Launch) (Z : State) (a0 : Array Value) (hw : ∀ d ∈ tables_1, d.before a0 Z = true) (ws : List Jvm.Cond) (s' : Addr) (ks : ClassId) (d : Addr) (kd : ClassId) (x0 : Int32) (x1 : Int32) (h0 : Heap) (n0 : Nat) (A_s' : Arv Z h0 s' ks .char 2 [(.int x0), (.int x1)] (.int 0)) (A_d : Arv Z h0 d kd .byte 2 [(.int 0), (.int 0)] (.int 0)) (g_d : n0 ≤ d) (nsd : s' ≠ d) (cx0 : Ck x0) (cx1 : Ck x1) :
    MetFree lL (⟨"java/lang/StringUTF16", "compress", "([CI[BII)I"⟩ : MethodName) (head1 (Jvm.Cond.code (⟨"java/lang/StringUTF16", "compress", "([CI[BII)I"⟩ : MethodName) jdk_52_method_21_code 7 (some .int) :: ws) ({ frames := 0, cells := 0, slots := 0, locals := 0 } : Room)) (fun as_ uU_ => as_ = #[(.ref s'), (.int (0 : Int32)), (.ref d), (.int (0 : Int32)), (.int (2 : Int32))] ∧ Z.Warmed39 uU_.vm ∧ uU_.heap = h0) (fun _ _ _ _ _ => True) (fun _ uU_ oO_ uE_ => ∃ vV_ lL_, oO_ = .returned vV_ ∧ QC5 Z d kd 2 [(.int (((x0).toInt8.toInt32)).toInt8.toInt32), (.int (((x1).toInt8.toInt32)).toInt8.toInt32)] h0 n0 vV_ uE_.heap lL_ ∧ FrameEnd uU_ oO_ uE_ lL_ ({ frames := 0, cells := 0, slots := 0, locals := 0 } : Room).cells ({ frames := 0, cells := 0, slots := 0, locals := 0 } : Room).slots) := by
  refine MetFree.of_bodySF (plainFor_of_name pn_java_2flang_2fStringUTF16) hisR ?_
  intro pP eE sS mM args below meth cC s₁ Bd hml0 hP hK
  obtain ⟨rfl, hZ, hh⟩ := hP
  have hx := Bd.exec
  have hby := Bd.bytes
  have hml : cC.maxLocals = 7 := hml0
  have hown : sS.vm.findClass "java/lang/StringUTF16" = some mM.cls := findClass_of_methodNamed Bd.named
  have hnm := (name_of_methodNamed Bd.named Bd.method).1
  have hret := Bd.returns
  have hlk := BodyLoose.notSynchronized Bd
  have X0 : Stand pP lL eE ({ frames := 0, cells := 0, slots := 0, locals := 0 } : Room) sS mM #[(.ref s'), (.int (0 : Int32)), (.ref d), (.int (0 : Int32)), (.int (2 : Int32))] below meth cC s₁ [] 0 0 := Stand.of_body Bd
  have e0 : s₁.heap = h0 := by rw [← hh, Bd.state]; rfl
  have N0 := Fr.nil n0
  show own_Go pP eE below sS (QC5 Z d kd 2 [(.int (((x0).toInt8.toInt32)).toInt8.toInt32), (.int (((x1).toInt8.toInt32)).toInt8.toInt32)] h0 n0) 0 0 (s₁.setTop (entryFrame mM #[(.ref s'), (.int (0 : Int32)), (.ref d), (.int (0 : Int32)), (.int (2 : Int32))] 7))
  refine own_st (A := s₁.setTop (mkF mM 0 #[.val (.ref s'), .val (.int (0 : Int32)), .val (.ref d), .val (.int (0 : Int32)), .val (.int (2 : Int32)), .unset, .unset] [])) (fun tT_ kK_ => castTop (ef_rmC5_2 mM s' ks d kd x0 x1) kK_) ?_
  have Kp := Keep.refl h0 [d]
  refine own_st (A := s₁.setTop (mkF mM 1 #[.val (.ref s'), .val (.int (0 : Int32)), .val (.ref d), .val (.int (0 : Int32)), .val (.int (2 : Int32)), .unset, .unset] [(.int (0 : Int32))])) (fun tT_ kK_ => XS.iconst X0.here hx rfl (hb hby d6_0) kK_) ?_
  refine own_st (A := s₁.setTop (mkF mM 3 #[.val (.ref s'), .val (.int (0 : Int32)), .val (.ref d), .val (.int (0 : Int32)), .val (.int (2 : Int32)), .val (.int (0 : Int32)), .unset] [])) (fun tT_ kK_ => XS.istore X0.here hx rfl (hb hby d6_1) rfl (l' := #[.val (.ref s'), .val (.int (0 : Int32)), .val (.ref d), .val (.int (0 : Int32)), .val (.int (2 : Int32)), .val (.int (0 : Int32)), .unset]) rfl kK_) ?_
  refine own_st (A := s₁.setTop (mkF mM 5 #[.val (.ref s'), .val (.int (0 : Int32)), .val (.ref d), .val (.int (0 : Int32)), .val (.int (2 : Int32)), .val (.int (0 : Int32)), .unset] [(.int (0 : Int32))])) (fun tT_ kK_ => XS.iload X0.here hx rfl (hb hby d6_3) rfl kK_) ?_
  refine own_st (A := s₁.setTop (mkF mM 7 #[.val (.ref s'), .val (.int (0 : Int32)), .val (.ref d), .val (.int (0 : Int32)), .val (.int (2 : Int32)), .val (.int (0 : Int32)), .unset] [(.int (2 : Int32)), (.int (0 : Int32))])) (fun tT_ kK_ => XS.iload X0.here hx rfl (hb hby d6_5) rfl kK_) ?_
  refine own_st (A := s₁.setTop (mkF mM 10 #[.val (.ref s'), .val (.int (0 : Int32)), .val (.ref d), .val (.int (0 : Int32)), .val (.int (2 : Int32)), .val (.int (0 : Int32)), .unset] [])) (fun tT_ kK_ => XS.icmpNo X0.here hx rfl (hb hby d6_7) rfl (tlt (by decide : ((0 : Int32) < (2 : Int32)))).2.1 kK_) ?_
  refine own_st (A := s₁.setTop (mkF mM 11 #[.val (.ref s'), .val (.int (0 : Int32)), .val (.ref d), .val (.int (0 : Int32)), .val (.int (2 : Int32)), .val (.int (0 : Int32)), .unset] [(.ref s')])) (fun tT_ kK_ => XS.aloadN X0.here hx rfl (hb hby d6_10) rfl rfl kK_) ?_
  refine own_st (A := s₁.setTop (mkF mM 12 #[.val (.ref s'), .val (.int (0 : Int32)), .val (.ref d), .val (.int (0 : Int32)), .val (.int (2 : Int32)), .val (.int (0 : Int32)), .unset] [(.int (0 : Int32)), (.ref s')])) (fun tT_ kK_ => XS.iloadN X0.here hx rfl (hb hby d6_11) rfl kK_) ?_
  obtain ⟨cl15, Ar15, q15, S15, Nn15, H15, G15⟩ := id A_s'
  have hin15 : ¬ ((0 : Int32) < 0 ∨ cl15.slots.size ≤ ((0 : Int32)).toNatClampNeg) := inb_of S15 ⟨by decide, by decide⟩
  refine own_st (A := s₁.setTop (mkF mM 13 #[.val (.ref s'), .val (.int (0 : Int32)), .val (.ref d), .val (.int (0 : Int32)), .val (.int (2 : Int32)), .val (.int (0 : Int32)), .unset] [(.int x0)])) (fun tT_ kK_ => X0.caload hx (j := (0 : Int32)) (v := (.int x0)) (by rw [e0]; exact Ar15.1) (State.isArrayOf_alike hZ.alike Ar15.2.1) Ar15.2.2 hin15 (H15.at hin15 rfl) (g := (mkF mM 12 #[.val (.ref s'), .val (.int (0 : Int32)), .val (.ref d), .val (.int (0 : Int32)), .val (.int (2 : Int32)), .val (.int (0 : Int32)), .unset] [(.int (0 : Int32)), (.ref s')])) rfl rfl (hb hby d6_12) tT_ kK_) ?_
  refine own_st (A := s₁.setTop (mkF mM 15 #[.val (.ref s'), .val (.int (0 : Int32)), .val (.ref d), .val (.int (0 : Int32)), .val (.int (2 : Int32)), .val (.int (0 : Int32)), .val (.int x0)] [])) (fun tT_ kK_ => XS.istore X0.here hx rfl (hb hby d6_13) rfl (l' := #[.val (.ref s'), .val (.int (0 : Int32)), .val (.ref d), .val (.int (0 : Int32)), .val (.int (2 : Int32)), .val (.int (0 : Int32)), .val (.int x0)]) rfl kK_) ?_
  refine own_st (A := s₁.setTop (mkF mM 17 #[.val (.ref s'), .val (.int (0 : Int32)), .val (.ref d), .val (.int (0 : Int32)), .val (.int (2 : Int32)), .val (.int (0 : Int32)), .val (.int x0)] [(.int x0)])) (fun tT_ kK_ => XS.iload X0.here hx rfl (hb hby d6_15) rfl kK_) ?_
  refine own_st (A := s₁.setTop (mkF mM 20 #[.val (.ref s'), .val (.int (0 : Int32)), .val (.ref d), .val (.int (0 : Int32)), .val (.int (2 : Int32)), .val (.int (0 : Int32)), .val (.int x0)] [(.int (255 : Int32)), (.int x0)])) (fun tT_ kK_ => XS.sipush X0.here hx rfl (hb hby d6_17) kK_) ?_
  refine own_st (A := s₁.setTop (mkF mM 26 #[.val (.ref s'), .val (.int (0 : Int32)), .val (.ref d), .val (.int (0 : Int32)), .val (.int (2 : Int32)), .val (.int (0 : Int32)), .val (.int x0)] [])) (fun tT_ kK_ => XS.icmpYes X0.here hx rfl (pc0 := 20) (pc' := 26) rfl (hb hby d6_20) rfl (flt cx0.2.1).2.2.2 (by decide) (by decide) kK_) ?_
  refine own_st (A := s₁.setTop (mkF mM 27 #[.val (.ref s'), .val (.int (0 : Int32)), .val (.ref d), .val (.int (0 : Int32)), .val (.int (2 : Int32)), .val (.int (0 : Int32)), .val (.int x0)] [(.ref d)])) (fun tT_ kK_ => XS.aloadN X0.here hx rfl (hb hby d6_26) rfl rfl kK_) ?_
  refine own_st (A := s₁.setTop (mkF mM 28 #[.val (.ref s'), .val (.int (0 : Int32)), .val (.ref d), .val (.int (0 : Int32)), .val (.int (2 : Int32)), .val (.int (0 : Int32)), .val (.int x0)] [(.int (0 : Int32)), (.ref d)])) (fun tT_ kK_ => XS.iloadN X0.here hx rfl (hb hby d6_27) rfl kK_) ?_
  refine own_st (A := s₁.setTop (mkF mM 30 #[.val (.ref s'), .val (.int (0 : Int32)), .val (.ref d), .val (.int (0 : Int32)), .val (.int (2 : Int32)), .val (.int (0 : Int32)), .val (.int x0)] [(.int x0), (.int (0 : Int32)), (.ref d)])) (fun tT_ kK_ => XS.iload X0.here hx rfl (hb hby d6_28) rfl kK_) ?_
  refine own_st (A := s₁.setTop (mkF mM 31 #[.val (.ref s'), .val (.int (0 : Int32)), .val (.ref d), .val (.int (0 : Int32)), .val (.int (2 : Int32)), .val (.int (0 : Int32)), .val (.int x0)] [(.int ((x0).toInt8.toInt32)), (.int (0 : Int32)), (.ref d)])) (fun tT_ kK_ => XS.i2b X0.here hx rfl (hb hby d6_30) rfl kK_) ?_
  obtain ⟨cl16, Ar16, q16, S16, Nn16, H16, G16⟩ := id A_d
  obtain ⟨T17, h17, X17, e17, W17, st17⟩ := stB X0 hx hZ e0 Ar16 (j := (0 : Int32)) (inb_of S16 ⟨by decide, by decide⟩) (g := (mkF mM 31 #[.val (.ref s'), .val (.int (0 : Int32)), .val (.ref d), .val (.int (0 : Int32)), .val (.int (2 : Int32)), .val (.int (0 : Int32)), .val (.int x0)] [(.int ((x0).toInt8.toInt32)), (.int (0 : Int32)), (.ref d)])) rfl rfl (hb hby d6_31)
  have N17 := Fr.snoc X17 N0 g_d
  have A_s' := A_s'.other W17 nsd
  have Kp := Kp.wr W17 (Or.inl (List.mem_of_getElem? (i := 0) rfl))
  have A_d : Arv Z h17 d kd .byte 2 [(.int (((x0).toInt8.toInt32)).toInt8.toInt32), (.int (0 : Int32))] (.int (0 : Int32)) := Arv.set Ar16 q16 S16 Nn16 H16 G16 (fits_nar_byte _) W17 0 rfl (Nat.le_of_ble_eq_true rfl)
  refine own_st (A := T17.setTop (mkF mM 32 #[.val (.ref s'), .val (.int (0 : Int32)), .val (.ref d), .val (.int (0 : Int32)), .val (.int (2 : Int32)), .val (.int (0 : Int32)), .val (.int x0)] [])) (fun tT_ kK_ => st17 tT_ kK_) ?_
  refine own_st (A := T17.setTop (mkF mM 35 #[.val (.ref s'), .val (.int (1 : Int32)), .val (.ref d), .val (.int (0 : Int32)), .val (.int (2 : Int32)), .val (.int (0 : Int32)), .val (.int x0)] [])) (fun tT_ kK_ => XS.iinc X17.here hx rfl (hb hby d6_32) rfl (l' := #[.val (.ref s'), .val (.int (1 : Int32)), .val (.ref d), .val (.int (0 : Int32)), .val (.int (2 : Int32)), .val (.int (0 : Int32)), .val (.int x0)]) rfl kK_) ?_
  refine own_st (A := T17.setTop (mkF mM 38 #[.val (.ref s'), .val (.int (1 : Int32)), .val (.ref d), .val (.int (1 : Int32)), .val (.int (2 : Int32)), .val (.int (0 : Int32)), .val (.int x0)] [])) (fun tT_ kK_ => XS.iinc X17.here hx rfl (hb hby d6_35) rfl (l' := #[.val (.ref s'), .val (.int (1 : Int32)), .val (.ref d), .val (.int (1 : Int32)), .val (.int (2 : Int32)), .val (.int (0 : Int32)), .val (.int x0)]) rfl kK_) ?_
  refine own_st (A := T17.setTop (mkF mM 41 #[.val (.ref s'), .val (.int (1 : Int32)), .val (.ref d), .val (.int (1 : Int32)), .val (.int (2 : Int32)), .val (.int (1 : Int32)), .val (.int x0)] [])) (fun tT_ kK_ => XS.iinc X17.here hx rfl (hb hby d6_38) rfl (l' := #[.val (.ref s'), .val (.int (1 : Int32)), .val (.ref d), .val (.int (1 : Int32)), .val (.int (2 : Int32)), .val (.int (1 : Int32)), .val (.int x0)]) rfl kK_) ?_
  refine own_st (A := T17.setTop (mkF mM 3 #[.val (.ref s'), .val (.int (1 : Int32)), .val (.ref d), .val (.int (1 : Int32)), .val (.int (2 : Int32)), .val (.int (1 : Int32)), .val (.int x0)] [])) (fun tT_ kK_ => XS.goto X17.here hx rfl (pc0 := 41) (pc' := 3) rfl (hb hby d6_41) (by decide) (by decide) kK_) ?_
  refine own_st (A := T17.setTop (mkF mM 5 #[.val (.ref s'), .val (.int (1 : Int32)), .val (.ref d), .val (.int (1 : Int32)), .val (.int (2 : Int32)), .val (.int (1 : Int32)), .val (.int x0)] [(.int (1 : Int32))])) (fun tT_ kK_ => XS.iload X17.here hx rfl (hb hby d6_3) rfl kK_) ?_
  refine own_st (A := T17.setTop (mkF mM 7 #[.val (.ref s'), .val (.int (1 : Int32)), .val (.ref d), .val (.int (1 : Int32)), .val (.int (2 : Int32)), .val (.int (1 : Int32)), .val (.int x0)] [(.int (2 : Int32)), (.int (1 : Int32))])) (fun tT_ kK_ => XS.iload X17.here hx rfl (hb hby d6_5) rfl kK_) ?_
  refine own_st (A := T17.setTop (mkF mM 10 #[.val (.ref s'), .val (.int (1 : Int32)), .val (.ref d), .val (.int (1 : Int32)), .val (.int (2 : Int32)), .val (.int (1 : Int32)), .val (.int x0)] [])) (fun tT_ kK_ => XS.icmpNo X17.here hx rfl (hb hby d6_7) rfl (tlt (by decide : ((1 : Int32) < (2 : Int32)))).2.1 kK_) ?_
  refine own_st (A := T17.setTop (mkF mM 11 #[.val (.ref s'), .val (.int (1 : Int32)), .val (.ref d), .val (.int (1 : Int32)), .val (.int (2 : Int32)), .val (.int (1 : Int32)), .val (.int x0)] [(.ref s')])) (fun tT_ kK_ => XS.aloadN X17.here hx rfl (hb hby d6_10) rfl rfl kK_) ?_
  refine own_st (A := T17.setTop (mkF mM 12 #[.val (.ref s'), .val (.int (1 : Int32)), .val (.ref d), .val (.int (1 : Int32)), .val (.int (2 : Int32)), .val (.int (1 : Int32)), .val (.int x0)] [(.int (1 : Int32)), (.ref s')])) (fun tT_ kK_ => XS.iloadN X17.here hx rfl (hb hby d6_11) rfl kK_) ?_
  obtain ⟨cl18, Ar18, q18, S18, Nn18, H18, G18⟩ := id A_s'
  have hin18 : ¬ ((1 : Int32) < 0 ∨ cl18.slots.size ≤ ((1 : Int32)).toNatClampNeg) := inb_of S18 ⟨by decide, by decide⟩
  refine own_st (A := T17.setTop (mkF mM 13 #[.val (.ref s'), .val (.int (1 : Int32)), .val (.ref d), .val (.int (1 : Int32)), .val (.int (2 : Int32)), .val (.int (1 : Int32)), .val (.int x0)] [(.int x1)])) (fun tT_ kK_ => X17.caload hx (j := (1 : Int32)) (v := (.int x1)) (by rw [e17]; exact Ar18.1) (State.isArrayOf_alike hZ.alike Ar18.2.1) Ar18.2.2 hin18 (H18.at hin18 rfl) (g := (mkF mM 12 #[.val (.ref s'), .val (.int (1 : Int32)), .val (.ref d), .val (.int (1 : Int32)), .val (.int (2 : Int32)), .val (.int (1 : Int32)), .val (.int x0)] [(.int (1 : Int32)), (.ref s')])) rfl rfl (hb hby d6_12) tT_ kK_) ?_
  refine own_st (A := T17.setTop (mkF mM 15 #[.val (.ref s'), .val (.int (1 : Int32)), .val (.ref d), .val (.int (1 : Int32)), .val (.int (2 : Int32)), .val (.int (1 : Int32)), .val (.int x1)] [])) (fun tT_ kK_ => XS.istore X17.here hx rfl (hb hby d6_13) rfl (l' := #[.val (.ref s'), .val (.int (1 : Int32)), .val (.ref d), .val (.int (1 : Int32)), .val (.int (2 : Int32)), .val (.int (1 : Int32)), .val (.int x1)]) rfl kK_) ?_
  refine own_st (A := T17.setTop (mkF mM 17 #[.val (.ref s'), .val (.int (1 : Int32)), .val (.ref d), .val (.int (1 : Int32)), .val (.int (2 : Int32)), .val (.int (1 : Int32)), .val (.int x1)] [(.int x1)])) (fun tT_ kK_ => XS.iload X17.here hx rfl (hb hby d6_15) rfl kK_) ?_
  refine own_st (A := T17.setTop (mkF mM 20 #[.val (.ref s'), .val (.int (1 : Int32)), .val (.ref d), .val (.int (1 : Int32)), .val (.int (2 : Int32)), .val (.int (1 : Int32)), .val (.int x1)] [(.int (255 : Int32)), (.int x1)])) (fun tT_ kK_ => XS.sipush X17.here hx rfl (hb hby d6_17) kK_) ?_
  refine own_st (A := T17.setTop (mkF mM 26 #[.val (.ref s'), .val (.int (1 : Int32)), .val (.ref d), .val (.int (1 : Int32)), .val (.int (2 : Int32)), .val (.int (1 : Int32)), .val (.int x1)] [])) (fun tT_ kK_ => XS.icmpYes X17.here hx rfl (pc0 := 20) (pc' := 26) rfl (hb hby d6_20) rfl (flt cx1.2.1).2.2.2 (by decide) (by decide) kK_) ?_
  refine own_st (A := T17.setTop (mkF mM 27 #[.val (.ref s'), .val (.int (1 : Int32)), .val (.ref d), .val (.int (1 : Int32)), .val (.int (2 : Int32)), .val (.int (1 : Int32)), .val (.int x1)] [(.ref d)])) (fun tT_ kK_ => XS.aloadN X17.here hx rfl (hb hby d6_26) rfl rfl kK_) ?_
  refine own_st (A := T17.setTop (mkF mM 28 #[.val (.ref s'), .val (.int (1 : Int32)), .val (.ref d), .val (.int (1 : Int32)), .val (.int (2 : Int32)), .val (.int (1 : Int32)), .val (.int x1)] [(.int (1 : Int32)), (.ref d)])) (fun tT_ kK_ => XS.iloadN X17.here hx rfl (hb hby d6_27) rfl kK_) ?_
  refine own_st (A := T17.setTop (mkF mM 30 #[.val (.ref s'), .val (.int (1 : Int32)), .val (.ref d), .val (.int (1 : Int32)), .val (.int (2 : Int32)), .val (.int (1 : Int32)), .val (.int x1)] [(.int x1), (.int (1 : Int32)), (.ref d)])) (fun tT_ kK_ => XS.iload X17.here hx rfl (hb hby d6_28) rfl kK_) ?_
  refine own_st (A := T17.setTop (mkF mM 31 #[.val (.ref s'), .val (.int (1 : Int32)), .val (.ref d), .val (.int (1 : Int32)), .val (.int (2 : Int32)), .val (.int (1 : Int32)), .val (.int x1)] [(.int ((x1).toInt8.toInt32)), (.int (1 : Int32)), (.ref d)])) (fun tT_ kK_ => XS.i2b X17.here hx rfl (hb hby d6_30) rfl kK_) ?_
  obtain ⟨cl19, Ar19, q19, S19, Nn19, H19, G19⟩ := id A_d
  obtain ⟨T20, h20, X20, e20, W20, st20⟩ := stB X17 hx hZ e17 Ar19 (j := (1 : Int32)) (inb_of S19 ⟨by decide, by decide⟩) (g := (mkF mM 31 #[.val (.ref s'), .val (.int (1 : Int32)), .val (.ref d), .val (.int (1 : Int32)), .val (.int (2 : Int32)), .val (.int (1 : Int32)), .val (.int x1)] [(.int ((x1).toInt8.toInt32)), (.int (1 : Int32)), (.ref d)])) rfl rfl (hb hby d6_31)
  have N20 := Fr.snoc X20 N17 g_d
  have A_s' := A_s'.other W20 nsd
  have Kp := Kp.wr W20 (Or.inl (List.mem_of_getElem? (i := 0) rfl))
  have A_d : Arv Z h20 d kd .byte 2 [(.int (((x0).toInt8.toInt32)).toInt8.toInt32), (.int (((x1).toInt8.toInt32)).toInt8.toInt32)] (.int (0 : Int32)) := Arv.set Ar19 q19 S19 Nn19 H19 G19 (fits_nar_byte _) W20 1 rfl (Nat.le_of_ble_eq_true rfl)
  refine own_st (A := T20.setTop (mkF mM 32 #[.val (.ref s'), .val (.int (1 : Int32)), .val (.ref d), .val (.int (1 : Int32)), .val (.int (2 : Int32)), .val (.int (1 : Int32)), .val (.int x1)] [])) (fun tT_ kK_ => st20 tT_ kK_) ?_
  refine own_st (A := T20.setTop (mkF mM 35 #[.val (.ref s'), .val (.int (2 : Int32)), .val (.ref d), .val (.int (1 : Int32)), .val (.int (2 : Int32)), .val (.int (1 : Int32)), .val (.int x1)] [])) (fun tT_ kK_ => XS.iinc X20.here hx rfl (hb hby d6_32) rfl (l' := #[.val (.ref s'), .val (.int (2 : Int32)), .val (.ref d), .val (.int (1 : Int32)), .val (.int (2 : Int32)), .val (.int (1 : Int32)), .val (.int x1)]) rfl kK_) ?_
  refine own_st (A := T20.setTop (mkF mM 38 #[.val (.ref s'), .val (.int (2 : Int32)), .val (.ref d), .val (.int (2 : Int32)), .val (.int (2 : Int32)), .val (.int (1 : Int32)), .val (.int x1)] [])) (fun tT_ kK_ => XS.iinc X20.here hx rfl (hb hby d6_35) rfl (l' := #[.val (.ref s'), .val (.int (2 : Int32)), .val (.ref d), .val (.int (2 : Int32)), .val (.int (2 : Int32)), .val (.int (1 : Int32)), .val (.int x1)]) rfl kK_) ?_
  refine own_st (A := T20.setTop (mkF mM 41 #[.val (.ref s'), .val (.int (2 : Int32)), .val (.ref d), .val (.int (2 : Int32)), .val (.int (2 : Int32)), .val (.int (2 : Int32)), .val (.int x1)] [])) (fun tT_ kK_ => XS.iinc X20.here hx rfl (hb hby d6_38) rfl (l' := #[.val (.ref s'), .val (.int (2 : Int32)), .val (.ref d), .val (.int (2 : Int32)), .val (.int (2 : Int32)), .val (.int (2 : Int32)), .val (.int x1)]) rfl kK_) ?_
  refine own_st (A := T20.setTop (mkF mM 3 #[.val (.ref s'), .val (.int (2 : Int32)), .val (.ref d), .val (.int (2 : Int32)), .val (.int (2 : Int32)), .val (.int (2 : Int32)), .val (.int x1)] [])) (fun tT_ kK_ => XS.goto X20.here hx rfl (pc0 := 41) (pc' := 3) rfl (hb hby d6_41) (by decide) (by decide) kK_) ?_
  refine own_st (A := T20.setTop (mkF mM 5 #[.val (.ref s'), .val (.int (2 : Int32)), .val (.ref d), .val (.int (2 : Int32)), .val (.int (2 : Int32)), .val (.int (2 : Int32)), .val (.int x1)] [(.int (2 : Int32))])) (fun tT_ kK_ => XS.iload X20.here hx rfl (hb hby d6_3) rfl kK_) ?_
  refine own_st (A := T20.setTop (mkF mM 7 #[.val (.ref s'), .val (.int (2 : Int32)), .val (.ref d), .val (.int (2 : Int32)), .val (.int (2 : Int32)), .val (.int (2 : Int32)), .val (.int x1)] [(.int (2 : Int32)), (.int (2 : Int32))])) (fun tT_ kK_ => XS.iload X20.here hx rfl (hb hby d6_5) rfl kK_) ?_
  refine own_st (A := T20.setTop (mkF mM 44 #[.val (.ref s'), .val (.int (2 : Int32)), .val (.ref d), .val (.int (2 : Int32)), .val (.int (2 : Int32)), .val (.int (2 : Int32)), .val (.int x1)] [])) (fun tT_ kK_ => XS.icmpYes X20.here hx rfl (pc0 := 7) (pc' := 44) rfl (hb hby d6_7) rfl (flt (by decide : ¬ ((2 : Int32) < (2 : Int32)))).2.1 (by decide) (by decide) kK_) ?_
  refine own_st (A := T20.setTop (mkF mM 46 #[.val (.ref s'), .val (.int (2 : Int32)), .val (.ref d), .val (.int (2 : Int32)), .val (.int (2 : Int32)), .val (.int (2 : Int32)), .val (.int x1)] [(.int (2 : Int32))])) (fun tT_ kK_ => XS.iload X20.here hx rfl (hb hby d6_44) rfl kK_) ?_
  exact own_retI X20 hx hlk hret (hb hby d6_46) (by rw [e20]; exact ⟨rfl, N20, Kp, A_d⟩) (by decide) (by decide)
theorem ef_rmC3_2 (mM : MethodId) (s' : Addr) (ks : ClassId) (x0 : Int32) (x1 : Int32) : entryFrame mM #[(.ref s'), (.int (0 : Int32)), (.int (2 : Int32))] 6 = mkF mM 0 #[.val (.ref s'), .val (.int (0 : Int32)), .val (.int (2 : Int32)), .unset, .unset, .unset] [] := by first | (simp [entryFrame, mkF, argsToLocals, Value.category]; done) | rfl
set_option maxRecDepth 65536 in
set_option maxHeartbeats 40000000 in
theorem rmC3_2 (lL : Launch) (Z : State) (a0 : Array Value) (hw : ∀ d ∈ tables_1, d.before a0 Z = true) (ws : List Jvm.Cond) (s' : Addr) (ks : ClassId) (x0 : Int32) (x1 : Int32) (h0 : Heap) (n0 : Nat) (Zn : n0 ≤ h0.size) (A_s' : Arv Z h0 s' ks .char 2 [(.int x0), (.int x1)] (.int 0)) (cx0 : Ck x0) (cx1 : Ck x1) :
    MetFree lL (⟨"java/lang/StringUTF16", "compress", "([CII)[B"⟩ : MethodName) (head1 (Jvm.Cond.code (⟨"java/lang/StringUTF16", "compress", "([CII)[B"⟩ : MethodName) jdk_52_method_16_code 6 (some (.array .byte)) :: ws) ({ frames := 1, cells := 1, slots := 2, locals := 18 } : Room)) (fun as_ uU_ => as_ = #[(.ref s'), (.int (0 : Int32)), (.int (2 : Int32))] ∧ Z.Warmed39 uU_.vm ∧ uU_.heap = h0) (fun _ _ _ _ _ => True) (fun _ uU_ oO_ uE_ => ∃ vV_ lL_, oO_ = .returned vV_ ∧ QC3 Z 2 [(.int (((x0).toInt8.toInt32)).toInt8.toInt32), (.int (((x1).toInt8.toInt32)).toInt8.toInt32)] h0 n0 vV_ uE_.heap lL_ ∧ FrameEnd uU_ oO_ uE_ lL_ ({ frames := 1, cells := 1, slots := 2, locals := 18 } : Room).cells ({ frames := 1, cells := 1, slots := 2, locals := 18 } : Room).slots) := by
  refine MetFree.of_bodySF (plainFor_of_name pn_java_2flang_2fStringUTF16) hisR ?_
  intro pP eE sS mM args below meth cC s₁ Bd hml0 hP hK
  obtain ⟨rfl, hZ, hh⟩ := hP
  have hx := Bd.exec
  have hby := Bd.bytes
  have hml : cC.maxLocals = 6 := hml0
  have hown : sS.vm.findClass "java/lang/StringUTF16" = some mM.cls := findClass_of_methodNamed Bd.named
  have hnm := (name_of_methodNamed Bd.named Bd.method).1
  have hret := Bd.returns
  have hlk := BodyLoose.notSynchronized Bd
  have X0 : Stand pP lL eE ({ frames := 1, cells := 1, slots := 2, locals := 18 } : Room) sS mM #[(.ref s'), (.int (0 : Int32)), (.int (2 : Int32))] below meth cC s₁ [] 0 0 := Stand.of_body Bd
  have e0 : s₁.heap = h0 := by rw [← hh, Bd.state]; rfl
  have N0 := Fr.nil n0
  show own_Go pP eE below sS (QC3 Z 2 [(.int (((x0).toInt8.toInt32)).toInt8.toInt32), (.int (((x1).toInt8.toInt32)).toInt8.toInt32)] h0 n0) 1 2 (s₁.setTop (entryFrame mM #[(.ref s'), (.int (0 : Int32)), (.int (2 : Int32))] 6))
  refine own_st (A := s₁.setTop (mkF mM 0 #[.val (.ref s'), .val (.int (0 : Int32)), .val (.int (2 : Int32)), .unset, .unset, .unset] [])) (fun tT_ kK_ => castTop (ef_rmC3_2 mM s' ks x0 x1) kK_) ?_
  have Kp := Keep.refl h0 []
  refine own_st (A := s₁.setTop (mkF mM 1 #[.val (.ref s'), .val (.int (0 : Int32)), .val (.int (2 : Int32)), .unset, .unset, .unset] [(.int (2 : Int32))])) (fun tT_ kK_ => XS.iloadN X0.here hx rfl (hb hby d5_0) rfl kK_) ?_
  obtain ⟨T21, h21, k21, X21, e21, E21, A21, st21⟩ := newP X0 hx hZ (hw _ (List.mem_of_getElem? (i := 23) rfl)) e0 (g := (mkF mM 1 #[.val (.ref s'), .val (.int (0 : Int32)), .val (.int (2 : Int32)), .unset, .unset, .unset] [(.int (2 : Int32))])) rfl (hb hby d5_1) rfl (by decide) (cap := 2) (by decide) (by decide) (by decide) (by decide)
  obtain ⟨b21, g21⟩ : ∃ z, z = h0.size := ⟨_, rfl⟩
  rw [← g21] at A21 st21
  have ne_s'_b21 : s' ≠ b21 := Nat.ne_of_lt (Nat.lt_of_lt_of_le A_s'.lt (Nat.le_of_eq g21.symm))
  have g_b21 : n0 ≤ b21 := Nat.le_trans Zn (Nat.le_of_eq g21.symm)
  have b_b21 : h0.size ≤ b21 := Nat.le_trans Kp.1 (Nat.le_of_eq g21.symm)
  have A_s' := A_s'.ext E21
  have Zn := Nat.le_trans Zn E21.1
  have Kp := Kp.ext E21
  have A_b21 : Arv Z h21 b21 k21 .byte 2 [(.int (0 : Int32)), (.int (0 : Int32))] (.int (0 : Int32)) := (Arv.new A21 (by decide)).pad (pad_rep [] (.int (0 : Int32)) 2)
  refine own_st (A := T21.setTop (mkF mM 3 #[.val (.ref s'), .val (.int (0 : Int32)), .val (.int (2 : Int32)), .unset, .unset, .unset] [(.ref b21)])) (fun tT_ kK_ => st21 tT_ kK_) ?_
  refine own_st (A := T21.setTop (mkF mM 4 #[.val (.ref s'), .val (.int (0 : Int32)), .val (.int (2 : Int32)), .val (.ref b21), .unset, .unset] [])) (fun tT_ kK_ => XS.astoreN X21.here hx rfl (hb hby d5_3) rfl rfl (l' := #[.val (.ref s'), .val (.int (0 : Int32)), .val (.int (2 : Int32)), .val (.ref b21), .unset, .unset]) rfl kK_) ?_
  refine own_st (A := T21.setTop (mkF mM 5 #[.val (.ref s'), .val (.int (0 : Int32)), .val (.int (2 : Int32)), .val (.ref b21), .unset, .unset] [(.ref s')])) (fun tT_ kK_ => XS.aloadN X21.here hx rfl (hb hby d5_4) rfl rfl kK_) ?_
  refine own_st (A := T21.setTop (mkF mM 6 #[.val (.ref s'), .val (.int (0 : Int32)), .val (.int (2 : Int32)), .val (.ref b21), .unset, .unset] [(.int (0 : Int32)), (.ref s')])) (fun tT_ kK_ => XS.iloadN X21.here hx rfl (hb hby d5_5) rfl kK_) ?_
  refine own_st (A := T21.setTop (mkF mM 7 #[.val (.ref s'), .val (.int (0 : Int32)), .val (.int (2 : Int32)), .val (.ref b21), .unset, .unset] [(.ref b21), (.int (0 : Int32)), (.ref s')])) (fun tT_ kK_ => XS.aloadN X21.here hx rfl (hb hby d5_6) rfl rfl kK_) ?_
  refine own_st (A := T21.setTop (mkF mM 8 #[.val (.ref s'), .val (.int (0 : Int32)), .val (.int (2 : Int32)), .val (.ref b21), .unset, .unset] [(.int (0 : Int32)), (.ref b21), (.int (0 : Int32)), (.ref s')])) (fun tT_ kK_ => XS.iconst X21.here hx rfl (hb hby d5_7) kK_) ?_
  refine own_st (A := T21.setTop (mkF mM 9 #[.val (.ref s'), .val (.int (0 : Int32)), .val (.int (2 : Int32)), .val (.ref b21), .unset, .unset] [(.int (2 : Int32)), (.int (0 : Int32)), (.ref b21), (.int (0 : Int32)), (.ref s')])) (fun tT_ kK_ => XS.iloadN X21.here hx rfl (hb hby d5_8) rfl kK_) ?_
  obtain ⟨_, _, ⟨T22, L22, k22, n22⟩, -, X22, ⟨Lc22, hQ22, l22, y22, z22⟩, st22⟩ := Jvm.LawKit.callS X21 hx (y := (⟨"java/lang/StringUTF16", "compress", "([CI[BII)I"⟩ : MethodName)) hown (mvT hZ (hw _ (List.mem_of_getElem? (i := 24) rfl))) (mvT hZ (hw _ (List.mem_of_getElem? (i := 25) rfl))) (mvT hZ (hw _ (List.mem_of_getElem? (i := 21) rfl))) (mvT hZ (hw _ (List.mem_of_getElem? (i := 26) rfl))) (by decide) (backOf (W := 0) (rmC5_2 lL Z a0 hw [] s' ks b21 k21 x0 x1 h21 n0 A_s' A_b21 g_b21 ne_s'_b21 cx0 cx1) hZ (hw _ (List.mem_of_getElem? (i := 26) rfl)) (hw _ (List.mem_of_getElem? (i := 21) rfl)) (by decide) (by decide)) (g := (mkF mM 9 #[.val (.ref s'), .val (.int (0 : Int32)), .val (.int (2 : Int32)), .val (.ref b21), .unset, .unset] [(.int (2 : Int32)), (.int (0 : Int32)), (.ref b21), (.int (0 : Int32)), (.ref s')])) rfl (by rw [hml]; rfl) (argsL := [(.ref s'), (.int (0 : Int32)), (.ref b21), (.int (0 : Int32)), (.int (2 : Int32))]) (rest := []) (lenOf pd__28_5bCI_5bBII_29I rfl) rfl (by show 2 * 0 + _ ≤ _; exact Nat.le_of_eq rfl) (hb hby d5_9) (fun _ _ => ⟨rfl, e21, (by decide : 1 + 0 ≤ _), (by decide : 2 + 0 ≤ _)⟩)
  dsimp only [Pt.U, Pt.locs, Pt.cells, Pt.slots] at X22 l22 y22 z22 st22 hQ22
  subst l22 y22 z22
  obtain ⟨rfl, N22q, K22, V22⟩ := hQ22
  have N22 := Fr.app N0 N22q
  have e22 : T22.heap = T22.heap := rfl
  refine own_st (A := T22.setTop (mkF mM 12 #[.val (.ref s'), .val (.int (0 : Int32)), .val (.int (2 : Int32)), .val (.ref b21), .unset, .unset] [(.int (2 : Int32))])) (fun tT_ kK_ => st22 tT_ kK_) ?_
  have A_s' := A_s'.keep K22 (ninS ne_s'_b21 nin0)
  have Zn := Nat.le_trans Zn K22.1
  have Kp := Kp.trans K22 (allS (Or.inr b_b21) all0)
  have A_b21 := V22
  refine own_st (A := T22.setTop (mkF mM 14 #[.val (.ref s'), .val (.int (0 : Int32)), .val (.int (2 : Int32)), .val (.ref b21), .val (.int (2 : Int32)), .unset] [])) (fun tT_ kK_ => XS.istore X22.here hx rfl (hb hby d5_12) rfl (l' := #[.val (.ref s'), .val (.int (0 : Int32)), .val (.int (2 : Int32)), .val (.ref b21), .val (.int (2 : Int32)), .unset]) rfl kK_) ?_
  refine own_st (A := T22.setTop (mkF mM 16 #[.val (.ref s'), .val (.int (0 : Int32)), .val (.int (2 : Int32)), .val (.ref b21), .val (.int (2 : Int32)), .unset] [(.int (2 : Int32))])) (fun tT_ kK_ => XS.iload X22.here hx rfl (hb hby d5_14) rfl kK_) ?_
  refine own_st (A := T22.setTop (mkF mM 17 #[.val (.ref s'), .val (.int (0 : Int32)), .val (.int (2 : Int32)), .val (.ref b21), .val (.int (2 : Int32)), .unset] [(.int (2 : Int32)), (.int (2 : Int32))])) (fun tT_ kK_ => XS.iloadN X22.here hx rfl (hb hby d5_16) rfl kK_) ?_
  refine own_st (A := T22.setTop (mkF mM 57 #[.val (.ref s'), .val (.int (0 : Int32)), .val (.int (2 : Int32)), .val (.ref b21), .val (.int (2 : Int32)), .unset] [])) (fun tT_ kK_ => XS.icmpYes X22.here hx rfl (pc0 := 17) (pc' := 57) rfl (hb hby d5_17) rfl (teq (by decide : ((2 : Int32) = (2 : Int32)))).1 (by decide) (by decide) kK_) ?_
  refine own_st (A := T22.setTop (mkF mM 58 #[.val (.ref s'), .val (.int (0 : Int32)), .val (.int (2 : Int32)), .val (.ref b21), .val (.int (2 : Int32)), .unset] [(.ref b21)])) (fun tT_ kK_ => XS.aloadN X22.here hx rfl (hb hby d5_57) rfl rfl kK_) ?_
  exact own_retA X22 hx hlk hret rfl rfl (hb hby d5_58) (by rw [e22]; exact ⟨_, _, rfl, N22, own_ext_of_keep Kp, A_b21, b_b21⟩) (by decide) (by decide)
theorem ef_rmCo_2 (mM : MethodId) (d : Addr) (kd : ClassId) (x0 : Int32) (x1 : Int32) : entryFrame mM #[(.ref d), (.int (2 : Int32))] 2 = mkF mM 0 #[.val (.ref d), .val (.int (2 : Int32))] [] := by first | (simp [entryFrame, mkF, argsToLocals, Value.category]; done) | rfl
set_option maxRecDepth 65536 in
set_option maxHeartbeats 40000000 in
theorem rmCo_2 (lL : Launch) (Z : State) (a0 : Array Value) (hw : ∀ d ∈ tables_1, d.before a0 Z = true) (ws : List Jvm.Cond) (d : Addr) (kd : ClassId) (x0 : Int32) (x1 : Int32) (h0 : Heap) (n0 : Nat) (A_d : Arv Z h0 d kd .byte 2 [(.int (((x0).toInt8.toInt32)).toInt8.toInt32), (.int (((x1).toInt8.toInt32)).toInt8.toInt32)] (.int 0)) :
    MetFree lL (⟨"java/lang/StringUTF16", "coderFromArrayLen", "([BI)B"⟩ : MethodName) (head1 (Jvm.Cond.code (⟨"java/lang/StringUTF16", "coderFromArrayLen", "([BI)B"⟩ : MethodName) jdk_52_method_15_code 2 (some .byte) :: ws) ({ frames := 0, cells := 0, slots := 0, locals := 0 } : Room)) (fun as_ uU_ => as_ = #[(.ref d), (.int (2 : Int32))] ∧ Z.Warmed39 uU_.vm ∧ uU_.heap = h0) (fun _ _ _ _ _ => True) (fun _ uU_ oO_ uE_ => ∃ vV_ lL_, oO_ = .returned vV_ ∧ Qw (.int 0) h0 n0 vV_ uE_.heap lL_ ∧ FrameEnd uU_ oO_ uE_ lL_ ({ frames := 0, cells := 0, slots := 0, locals := 0 } : Room).cells ({ frames := 0, cells := 0, slots := 0, locals := 0 } : Room).slots) := by
  refine MetFree.of_bodySF (plainFor_of_name pn_java_2flang_2fStringUTF16) hisR ?_
  intro pP eE sS mM args below meth cC s₁ Bd hml0 hP hK
  obtain ⟨rfl, hZ, hh⟩ := hP
  have hx := Bd.exec
  have hby := Bd.bytes
  have hml : cC.maxLocals = 2 := hml0
  have hown : sS.vm.findClass "java/lang/StringUTF16" = some mM.cls := findClass_of_methodNamed Bd.named
  have hnm := (name_of_methodNamed Bd.named Bd.method).1
  have hret := Bd.returns
  have hlk := BodyLoose.notSynchronized Bd
  have X0 : Stand pP lL eE ({ frames := 0, cells := 0, slots := 0, locals := 0 } : Room) sS mM #[(.ref d), (.int (2 : Int32))] below meth cC s₁ [] 0 0 := Stand.of_body Bd
  have e0 : s₁.heap = h0 := by rw [← hh, Bd.state]; rfl
  have N0 := Fr.nil n0
  show own_Go pP eE below sS (Qw (.int 0) h0 n0) 0 0 (s₁.setTop (entryFrame mM #[(.ref d), (.int (2 : Int32))] 2))
  refine own_st (A := s₁.setTop (mkF mM 0 #[.val (.ref d), .val (.int (2 : Int32))] [])) (fun tT_ kK_ => castTop (ef_rmCo_2 mM d kd x0 x1) kK_) ?_
  refine own_st (A := s₁.setTop (mkF mM 1 #[.val (.ref d), .val (.int (2 : Int32))] [(.int (2 : Int32))])) (fun tT_ kK_ => XS.iloadN X0.here hx rfl (hb hby d7_0) rfl kK_) ?_
  refine own_st (A := s₁.setTop (mkF mM 2 #[.val (.ref d), .val (.int (2 : Int32))] [(.ref d), (.int (2 : Int32))])) (fun tT_ kK_ => XS.aloadN X0.here hx rfl (hb hby d7_1) rfl rfl kK_) ?_
  obtain ⟨cl23, Ar23, q23, S23, Nn23, H23, G23⟩ := id A_d
  refine own_st (A := s₁.setTop (mkF mM 3 #[.val (.ref d), .val (.int (2 : Int32))] [(.int (2 : Int32)), (.int (2 : Int32))])) (fun tT_ kK_ => X0.arraylength hx (by rw [e0]; exact Ar23.1) (State.isArrayOf_alike hZ.alike Ar23.2.1) (g := (mkF mM 2 #[.val (.ref d), .val (.int (2 : Int32))] [(.ref d), (.int (2 : Int32))])) rfl rfl (hb hby d7_2) tT_ (by rw [len_of S23 Nn23]; exact kK_)) ?_
  refine own_st (A := s₁.setTop (mkF mM 4 #[.val (.ref d), .val (.int (2 : Int32))] [(.int (0 : Int32))])) (fun tT_ kK_ => XS.isub X0.here hx rfl (hb hby d7_3) rfl kK_) ?_
  refine own_st (A := s₁.setTop (mkF mM 6 #[.val (.ref d), .val (.int (2 : Int32))] [(.int (31 : Int32)), (.int (0 : Int32))])) (fun tT_ kK_ => XS.bipush X0.here hx rfl (hb hby d7_4) kK_) ?_
  refine own_st (A := s₁.setTop (mkF mM 7 #[.val (.ref d), .val (.int (2 : Int32))] [(.int (((0 : Int32).toUInt32 >>> ((31 : Int32) &&& 31).toUInt32).toInt32))])) (fun tT_ kK_ => XS.iushr X0.here hx rfl (hb hby d7_6) rfl kK_) ?_
  refine own_st (A := s₁.setTop (mkF mM 8 #[.val (.ref d), .val (.int (2 : Int32))] [(.int (((((0 : Int32).toUInt32 >>> ((31 : Int32) &&& 31).toUInt32).toInt32)).toInt8.toInt32))])) (fun tT_ kK_ => XS.i2b X0.here hx rfl (hb hby d7_7) rfl kK_) ?_
  exact own_retN X0 hx hlk (t := .byte) hret (by simp) (hb hby d7_8) (show Qw _ _ _ (some (.int (0 : Int32))) _ _ from ⟨rfl, N0, e0⟩) (by decide) (by decide)
theorem ef_rmS4_2 (mM : MethodId) (a : Addr) (s' : Addr) (ks : ClassId) (cs : Int32) (x0 : Int32) (x1 : Int32) : entryFrame mM #[(.ref a), (.ref s'), (.int (0 : Int32)), (.int (2 : Int32)), .null] 6 = mkF mM 0 #[.val (.ref a), .val (.ref s'), .val (.int (0 : Int32)), .val (.int (2 : Int32)), .val .null, .unset] [] := by first | (simp [entryFrame, mkF, argsToLocals, Value.category]; done) | rfl
set_option maxRecDepth 65536 in
set_option maxHeartbeats 40000000 in
theorem rmS4_2 (lL : Launch) (Z : State) (a0 : Array Value) (hw : ∀ d ∈ tables_1, d.before a0 Z = true) (ws : List Jvm.Cond) (a : Addr) (s' : Addr) (ks : ClassId) (cs : Int32) (x0 : Int32) (x1 : Int32) (h0 : Heap) (n0 : Nat) (g_a : n0 ≤ a) (E_a : Exa Z h0 a "java/lang/String") (F_a_value : Fld Z h0 a "java/lang/String" "value" "[B" .null) (F_a_coder : Fld Z h0 a "java/lang/String" "coder" "B" (.int (0 : Int32))) (A_s' : Arv Z h0 s' ks .char 2 [(.int x0), (.int x1)] (.int 0)) (nsa : s' ≠ a) (O : Old Z n0 h0) (Zn : n0 ≤ h0.size) (S_cs : Sta Z Z.heap "java/lang/String" "COMPACT_STRINGS" "Z" (.int cs)) (hcs : ¬ cs = (0 : Int32)) (cx0 : Ck x0) (cx1 : Ck x1) :
    MetFree lL (⟨"java/lang/String", "<init>", "([CIILjava/lang/Void;)V"⟩ : MethodName) (head1 (Jvm.Cond.code (⟨"java/lang/String", "<init>", "([CIILjava/lang/Void;)V"⟩ : MethodName) jdk_42_method_149_code 6 none :: ws) ({ frames := 2, cells := 1, slots := 2, locals := 35 } : Room)) (fun as_ uU_ => as_ = #[(.ref a), (.ref s'), (.int (0 : Int32)), (.int (2 : Int32)), .null] ∧ Z.Warmed39 uU_.vm ∧ uU_.heap = h0) (fun _ _ _ _ _ => True) (fun _ uU_ oO_ uE_ => ∃ vV_ lL_, oO_ = .returned vV_ ∧ QS Z a 2 [(.int (((x0).toInt8.toInt32)).toInt8.toInt32), (.int (((x1).toInt8.toInt32)).toInt8.toInt32)] h0 n0 vV_ uE_.heap lL_ ∧ FrameEnd uU_ oO_ uE_ lL_ ({ frames := 2, cells := 1, slots := 2, locals := 35 } : Room).cells ({ frames := 2, cells := 1, slots := 2, locals := 35 } : Room).slots) := by
  refine MetFree.of_bodySF (plainFor_of_name pn_java_2flang_2fString) hisR ?_
  intro pP eE sS mM args below meth cC s₁ Bd hml0 hP hK
  obtain ⟨rfl, hZ, hh⟩ := hP
  have hx := Bd.exec
  have hby := Bd.bytes
  have hml : cC.maxLocals = 6 := hml0
  have hown : sS.vm.findClass "java/lang/String" = some mM.cls := findClass_of_methodNamed Bd.named
  have hnm := (name_of_methodNamed Bd.named Bd.method).1
  have hret := Bd.returns
  have hlk := BodyLoose.notSynchronized Bd
  have X0 : Stand pP lL eE ({ frames := 2, cells := 1, slots := 2, locals := 35 } : Room) sS mM #[(.ref a), (.ref s'), (.int (0 : Int32)), (.int (2 : Int32)), .null] below meth cC s₁ [] 0 0 := Stand.of_body Bd
  have e0 : s₁.heap = h0 := by rw [← hh, Bd.state]; rfl
  have N0 := Fr.nil n0
  show own_Go pP eE below sS (QS Z a 2 [(.int (((x0).toInt8.toInt32)).toInt8.toInt32), (.int (((x1).toInt8.toInt32)).toInt8.toInt32)] h0 n0) 1 2 (s₁.setTop (entryFrame mM #[(.ref a), (.ref s'), (.int (0 : Int32)), (.int (2 : Int32)), .null] 6))
  refine own_st (A := s₁.setTop (mkF mM 0 #[.val (.ref a), .val (.ref s'), .val (.int (0 : Int32)), .val (.int (2 : Int32)), .val .null, .unset] [])) (fun tT_ kK_ => castTop (ef_rmS4_2 mM a s' ks cs x0 x1) kK_) ?_
  have Kp := Keep.refl h0 [a]
  refine own_st (A := s₁.setTop (mkF mM 1 #[.val (.ref a), .val (.ref s'), .val (.int (0 : Int32)), .val (.int (2 : Int32)), .val .null, .unset] [(.ref a)])) (fun tT_ kK_ => XS.aloadN X0.here hx rfl (hb hby d3_0) rfl rfl kK_) ?_
  obtain ⟨T24, X24, e24, st24⟩ := initO X0 hx hZ hown (hw _ (List.mem_of_getElem? (i := 15) rfl)) (hw _ (List.mem_of_getElem? (i := 16) rfl)) (hw _ (List.mem_of_getElem? (i := 17) rfl)) e0 (g := (mkF mM 1 #[.val (.ref a), .val (.ref s'), .val (.int (0 : Int32)), .val (.int (2 : Int32)), .val .null, .unset] [(.ref a)])) rfl (by rw [hml]; rfl) rfl (hb hby d3_1) (by decide) (W := 0) (by show 2 * 0 + _ ≤ _; exact Nat.le_of_eq rfl) (by decide)
  refine own_st (A := T24.setTop (mkF mM 4 #[.val (.ref a), .val (.ref s'), .val (.int (0 : Int32)), .val (.int (2 : Int32)), .val .null, .unset] [])) (fun tT_ kK_ => st24 tT_ kK_) ?_
  refine own_st (A := T24.setTop (mkF mM 5 #[.val (.ref a), .val (.ref s'), .val (.int (0 : Int32)), .val (.int (2 : Int32)), .val .null, .unset] [(.int (2 : Int32))])) (fun tT_ kK_ => XS.iloadN X24.here hx rfl (hb hby d3_4) rfl kK_) ?_
  refine own_st (A := T24.setTop (mkF mM 27 #[.val (.ref a), .val (.ref s'), .val (.int (0 : Int32)), .val (.int (2 : Int32)), .val .null, .unset] [])) (fun tT_ kK_ => XS.ifYes X24.here hx rfl (pc0 := 5) (pc' := 27) rfl (hb hby d3_5) rfl ((if0 _ _).trans (feq (by decide : ¬ ((2 : Int32) = (0 : Int32)))).2) (by decide) (by decide) kK_) ?_
  obtain ⟨T25, X25, e25, st25⟩ := getS2 X24 hx hZ hown (host := "") (Or.inl (hw _ (List.mem_of_getElem? (i := 18) rfl))) Via.refl e24 (S_cs.ext O.2) (g := (mkF mM 27 #[.val (.ref a), .val (.ref s'), .val (.int (0 : Int32)), .val (.int (2 : Int32)), .val .null, .unset] [])) rfl (hb hby d3_27)
  refine own_st (A := T25.setTop (mkF mM 30 #[.val (.ref a), .val (.ref s'), .val (.int (0 : Int32)), .val (.int (2 : Int32)), .val .null, .unset] [(.int cs)])) (fun tT_ kK_ => st25 tT_ kK_) ?_
  refine own_st (A := T25.setTop (mkF mM 33 #[.val (.ref a), .val (.ref s'), .val (.int (0 : Int32)), .val (.int (2 : Int32)), .val .null, .unset] [])) (fun tT_ kK_ => XS.ifNo X25.here hx rfl (hb hby d3_30) rfl ((if0 _ _).trans (feq hcs).1) kK_) ?_
  refine own_st (A := T25.setTop (mkF mM 34 #[.val (.ref a), .val (.ref s'), .val (.int (0 : Int32)), .val (.int (2 : Int32)), .val .null, .unset] [(.ref s')])) (fun tT_ kK_ => XS.aloadN X25.here hx rfl (hb hby d3_33) rfl rfl kK_) ?_
  refine own_st (A := T25.setTop (mkF mM 35 #[.val (.ref a), .val (.ref s'), .val (.int (0 : Int32)), .val (.int (2 : Int32)), .val .null, .unset] [(.int (0 : Int32)), (.ref s')])) (fun tT_ kK_ => XS.iloadN X25.here hx rfl (hb hby d3_34) rfl kK_) ?_
  refine own_st (A := T25.setTop (mkF mM 36 #[.val (.ref a), .val (.ref s'), .val (.int (0 : Int32)), .val (.int (2 : Int32)), .val .null, .unset] [(.int (2 : Int32)), (.int (0 : Int32)), (.ref s')])) (fun tT_ kK_ => XS.iloadN X25.here hx rfl (hb hby d3_35) rfl kK_) ?_
  obtain ⟨_, _, ⟨T26, L26, k26, n26⟩, -, X26, ⟨Lc26, hQ26, l26, y26, z26⟩, st26⟩ := Jvm.LawKit.callS X25 hx (y := (⟨"java/lang/StringUTF16", "compress", "([CII)[B"⟩ : MethodName)) hown (mvT hZ (hw _ (List.mem_of_getElem? (i := 19) rfl))) (mvT hZ (hw _ (List.mem_of_getElem? (i := 20) rfl))) (mvT hZ (hw _ (List.mem_of_getElem? (i := 21) rfl))) (mvT hZ (hw _ (List.mem_of_getElem? (i := 22) rfl))) (by decide) (backOf (W := 0) (rmC3_2 lL Z a0 hw [] s' ks x0 x1 h0 n0 Zn A_s' cx0 cx1) hZ (hw _ (List.mem_of_getElem? (i := 22) rfl)) (hw _ (List.mem_of_getElem? (i := 21) rfl)) (by decide) (by decide)) (g := (mkF mM 36 #[.val (.ref a), .val (.ref s'), .val (.int (0 : Int32)), .val (.int (2 : Int32)), .val .null, .unset] [(.int (2 : Int32)), (.int (0 : Int32)), (.ref s')])) rfl (by rw [hml]; rfl) (argsL := [(.ref s'), (.int (0 : Int32)), (.int (2 : Int32))]) (rest := []) (lenOf pd__28_5bCII_29_5bB rfl) rfl (by show 2 * 0 + _ ≤ _; exact Nat.le_of_eq rfl) (hb hby d3_36) (fun _ _ => ⟨rfl, e25, (by decide : 0 + 1 ≤ _), (by decide : 0 + 2 ≤ _)⟩)
  dsimp only [Pt.U, Pt.locs, Pt.cells, Pt.slots] at X26 l26 y26 z26 st26 hQ26
  subst l26 y26 z26
  obtain ⟨b26, k26', rfl, N26q, E26, V26, ge26⟩ := hQ26
  have N26 := Fr.app N0 N26q
  have e26 : T26.heap = T26.heap := rfl
  refine own_st (A := T26.setTop (mkF mM 39 #[.val (.ref a), .val (.ref s'), .val (.int (0 : Int32)), .val (.int (2 : Int32)), .val .null, .unset] [(.ref b26)])) (fun tT_ kK_ => st26 tT_ kK_) ?_
  have ne_a_b26 : a ≠ b26 := Nat.ne_of_lt (Nat.lt_of_lt_of_le E_a.lt ge26)
  have b_b26 : h0.size ≤ b26 := Nat.le_trans Kp.1 ge26
  have F_a_value := F_a_value.ext E26
  have F_a_coder := F_a_coder.ext E26
  have E_a := E_a.ext E26
  have O := O.ext E26
  have A_s' := A_s'.ext E26
  have Zn := Nat.le_trans Zn E26.1
  have Kp := Kp.ext E26
  have A_b26 := V26
  refine own_st (A := T26.setTop (mkF mM 41 #[.val (.ref a), .val (.ref s'), .val (.int (0 : Int32)), .val (.int (2 : Int32)), .val .null, .val (.ref b26)] [])) (fun tT_ kK_ => XS.astore X26.here hx rfl (hb hby d3_39) rfl rfl (l' := #[.val (.ref a), .val (.ref s'), .val (.int (0 : Int32)), .val (.int (2 : Int32)), .val .null, .val (.ref b26)]) rfl kK_) ?_
  refine own_st (A := T26.setTop (mkF mM 42 #[.val (.ref a), .val (.ref s'), .val (.int (0 : Int32)), .val (.int (2 : Int32)), .val .null, .val (.ref b26)] [(.ref a)])) (fun tT_ kK_ => XS.aloadN X26.here hx rfl (hb hby d3_41) rfl rfl kK_) ?_
  refine own_st (A := T26.setTop (mkF mM 44 #[.val (.ref a), .val (.ref s'), .val (.int (0 : Int32)), .val (.int (2 : Int32)), .val .null, .val (.ref b26)] [(.ref b26), (.ref a)])) (fun tT_ kK_ => XS.aload X26.here hx rfl (hb hby d3_42) rfl rfl kK_) ?_
  refine own_st (A := T26.setTop (mkF mM 45 #[.val (.ref a), .val (.ref s'), .val (.int (0 : Int32)), .val (.int (2 : Int32)), .val .null, .val (.ref b26)] [(.int (2 : Int32)), (.ref b26), (.ref a)])) (fun tT_ kK_ => XS.iloadN X26.here hx rfl (hb hby d3_44) rfl kK_) ?_
  obtain ⟨_, _, ⟨T27, L27, k27, n27⟩, -, X27, ⟨Lc27, hQ27, l27, y27, z27⟩, st27⟩ := Jvm.LawKit.callS X26 hx (y := (⟨"java/lang/StringUTF16", "coderFromArrayLen", "([BI)B"⟩ : MethodName)) hown (mvT hZ (hw _ (List.mem_of_getElem? (i := 27) rfl))) (mvT hZ (hw _ (List.mem_of_getElem? (i := 28) rfl))) (mvT hZ (hw _ (List.mem_of_getElem? (i := 21) rfl))) (mvT hZ (hw _ (List.mem_of_getElem? (i := 29) rfl))) (by decide) (backOf (W := 1) (rmCo_2 lL Z a0 hw [] b26 k26' x0 x1 T26.heap n0 A_b26) hZ (hw _ (List.mem_of_getElem? (i := 29) rfl)) (hw _ (List.mem_of_getElem? (i := 21) rfl)) (by decide) (by decide)) (g := (mkF mM 45 #[.val (.ref a), .val (.ref s'), .val (.int (0 : Int32)), .val (.int (2 : Int32)), .val .null, .val (.ref b26)] [(.int (2 : Int32)), (.ref b26), (.ref a)])) rfl (by rw [hml]; rfl) (argsL := [(.ref b26), (.int (2 : Int32))]) (rest := [(.ref a)]) (lenOf pd__28_5bBI_29B rfl) rfl (by show 2 * 0 + _ ≤ _; exact Nat.le_of_eq rfl) (hb hby d3_45) (fun _ _ => ⟨rfl, e26, (by decide : 1 + 0 ≤ _), (by decide : 2 + 0 ≤ _)⟩)
  dsimp only [Pt.U, Pt.locs, Pt.cells, Pt.slots] at X27 l27 y27 z27 st27 hQ27
  subst l27 y27 z27
  obtain ⟨rfl, N27q, e27⟩ := hQ27
  have N27 := Fr.app N26 N27q
  refine own_st (A := T27.setTop (mkF mM 48 #[.val (.ref a), .val (.ref s'), .val (.int (0 : Int32)), .val (.int (2 : Int32)), .val .null, .val (.ref b26)] [(.int (0 : Int32)), (.ref a)])) (fun tT_ kK_ => st27 tT_ kK_) ?_
  obtain ⟨T28, h28, X28, e28, W28, st28⟩ := putFN X27 hx hZ hown (hw _ (List.mem_of_getElem? (i := 30) rfl)) Via.refl e27 F_a_coder E_a (Or.inr ⟨(hw _ (List.mem_of_getElem? (i := 31) rfl)), rfl, hnm⟩) (hw _ (List.mem_of_getElem? (i := 5) rfl)) (ty := .byte) (v' := (.int (0 : Int32))) (by decide) rfl (by decide) (g := (mkF mM 48 #[.val (.ref a), .val (.ref s'), .val (.int (0 : Int32)), .val (.int (2 : Int32)), .val .null, .val (.ref b26)] [(.int (0 : Int32)), (.ref a)])) rfl rfl (hb hby d3_48)
  have N28 := Fr.snoc X28 N27 g_a
  have F_a_value := F_a_value.other W28 (Or.inr (slot_ne (Or.inr (hw _ (List.mem_of_getElem? (i := 33) rfl))) (Or.inr (hw _ (List.mem_of_getElem? (i := 31) rfl))) (by decide) (t := (.array .byte)) (t' := .byte) (by decide) (by decide)))
  have F_a_coder := F_a_coder.same W28
  have E_a := E_a.wr W28
  have A_s' := A_s'.other W28 nsa
  have A_b26 := A_b26.other W28 (Ne.symm ne_a_b26)
  have O := O.wr W28 g_a
  have Zn := Nat.le_trans Zn (Keep.of_wr W28).1
  have Kp := Kp.wr W28 (Or.inl (List.mem_of_getElem? (i := 0) rfl))
  refine own_st (A := T28.setTop (mkF mM 51 #[.val (.ref a), .val (.ref s'), .val (.int (0 : Int32)), .val (.int (2 : Int32)), .val .null, .val (.ref b26)] [])) (fun tT_ kK_ => st28 tT_ kK_) ?_
  refine own_st (A := T28.setTop (mkF mM 52 #[.val (.ref a), .val (.ref s'), .val (.int (0 : Int32)), .val (.int (2 : Int32)), .val .null, .val (.ref b26)] [(.ref a)])) (fun tT_ kK_ => XS.aloadN X28.here hx rfl (hb hby d3_51) rfl rfl kK_) ?_
  refine own_st (A := T28.setTop (mkF mM 54 #[.val (.ref a), .val (.ref s'), .val (.int (0 : Int32)), .val (.int (2 : Int32)), .val .null, .val (.ref b26)] [(.ref b26), (.ref a)])) (fun tT_ kK_ => XS.aload X28.here hx rfl (hb hby d3_52) rfl rfl kK_) ?_
  obtain ⟨T29, h29, X29, e29, W29, st29⟩ := putF X28 hx hZ hown (host := "") (Or.inl (hw _ (List.mem_of_getElem? (i := 32) rfl))) Via.refl e28 F_a_value E_a (Or.inr ⟨(hw _ (List.mem_of_getElem? (i := 33) rfl)), rfl, hnm⟩) (hw _ (List.mem_of_getElem? (i := 5) rfl)) (ty := (.array .byte)) (by decide) rfl rfl (g := (mkF mM 54 #[.val (.ref a), .val (.ref s'), .val (.int (0 : Int32)), .val (.int (2 : Int32)), .val .null, .val (.ref b26)] [(.ref b26), (.ref a)])) rfl rfl (hb hby d3_54)
  have N29 := Fr.snoc X29 N28 g_a
  have F_a_value := F_a_value.same W29
  have F_a_coder := F_a_coder.other W29 (Or.inr (slot_ne (Or.inr (hw _ (List.mem_of_getElem? (i := 31) rfl))) (Or.inr (hw _ (List.mem_of_getElem? (i := 33) rfl))) (by decide) (t := .byte) (t' := (.array .byte)) (by decide) (by decide)))
  have E_a := E_a.wr W29
  have A_s' := A_s'.other W29 nsa
  have A_b26 := A_b26.other W29 (Ne.symm ne_a_b26)
  have O := O.wr W29 g_a
  have Zn := Nat.le_trans Zn (Keep.of_wr W29).1
  have Kp := Kp.wr W29 (Or.inl (List.mem_of_getElem? (i := 0) rfl))
  refine own_st (A := T29.setTop (mkF mM 57 #[.val (.ref a), .val (.ref s'), .val (.int (0 : Int32)), .val (.int (2 : Int32)), .val .null, .val (.ref b26)] [])) (fun tT_ kK_ => st29 tT_ kK_) ?_
  exact own_retV X29 hx hlk hret (hb hby d3_57) (by rw [e29]; exact ⟨_, _, rfl, N29, Kp, ⟨E_a, F_a_value, F_a_coder, A_b26⟩, b_b26⟩) (by decide) (by decide)
theorem ef_rmS1_2 (mM : MethodId) (a : Addr) (s' : Addr) (ks : ClassId) (cs : Int32) (x0 : Int32) (x1 : Int32) : entryFrame mM #[(.ref a), (.ref s')] 2 = mkF mM 0 #[.val (.ref a), .val (.ref s')] [] := by first | (simp [entryFrame, mkF, argsToLocals, Value.category]; done) | rfl
set_option maxRecDepth 65536 in
set_option maxHeartbeats 40000000 in
theorem rmS1_2 (lL : Launch) (Z : State) (a0 : Array Value) (hw : ∀ d ∈ tables_1, d.before a0 Z = true) (ws : List Jvm.Cond) (a : Addr) (s' : Addr) (ks : ClassId) (cs : Int32) (x0 : Int32) (x1 : Int32) (h0 : Heap) (n0 : Nat) (g_a : n0 ≤ a) (E_a : Exa Z h0 a "java/lang/String") (F_a_value : Fld Z h0 a "java/lang/String" "value" "[B" .null) (F_a_coder : Fld Z h0 a "java/lang/String" "coder" "B" (.int (0 : Int32))) (A_s' : Arv Z h0 s' ks .char 2 [(.int x0), (.int x1)] (.int 0)) (nsa : s' ≠ a) (O : Old Z n0 h0) (Zn : n0 ≤ h0.size) (S_cs : Sta Z Z.heap "java/lang/String" "COMPACT_STRINGS" "Z" (.int cs)) (hcs : ¬ cs = (0 : Int32)) (cx0 : Ck x0) (cx1 : Ck x1) :
    MetFree lL (⟨"java/lang/String", "<init>", "([C)V"⟩ : MethodName) (head1 (Jvm.Cond.code (⟨"java/lang/String", "<init>", "([C)V"⟩ : MethodName) jdk_42_method_3_code 2 none :: ws) ({ frames := 3, cells := 1, slots := 2, locals := 52 } : Room)) (fun as_ uU_ => as_ = #[(.ref a), (.ref s')] ∧ Z.Warmed39 uU_.vm ∧ uU_.heap = h0) (fun _ _ _ _ _ => True) (fun _ uU_ oO_ uE_ => ∃ vV_ lL_, oO_ = .returned vV_ ∧ QS Z a 2 [(.int (((x0).toInt8.toInt32)).toInt8.toInt32), (.int (((x1).toInt8.toInt32)).toInt8.toInt32)] h0 n0 vV_ uE_.heap lL_ ∧ FrameEnd uU_ oO_ uE_ lL_ ({ frames := 3, cells := 1, slots := 2, locals := 52 } : Room).cells ({ frames := 3, cells := 1, slots := 2, locals := 52 } : Room).slots) := by
  refine MetFree.of_bodySF (plainFor_of_name pn_java_2flang_2fString) hisR ?_
  intro pP eE sS mM args below meth cC s₁ Bd hml0 hP hK
  obtain ⟨rfl, hZ, hh⟩ := hP
  have hx := Bd.exec
  have hby := Bd.bytes
  have hml : cC.maxLocals = 2 := hml0
  have hown : sS.vm.findClass "java/lang/String" = some mM.cls := findClass_of_methodNamed Bd.named
  have hnm := (name_of_methodNamed Bd.named Bd.method).1
  have hret := Bd.returns
  have hlk := BodyLoose.notSynchronized Bd
  have X0 : Stand pP lL eE ({ frames := 3, cells := 1, slots := 2, locals := 52 } : Room) sS mM #[(.ref a), (.ref s')] below meth cC s₁ [] 0 0 := Stand.of_body Bd
  have e0 : s₁.heap = h0 := by rw [← hh, Bd.state]; rfl
  have N0 := Fr.nil n0
  show own_Go pP eE below sS (QS Z a 2 [(.int (((x0).toInt8.toInt32)).toInt8.toInt32), (.int (((x1).toInt8.toInt32)).toInt8.toInt32)] h0 n0) 1 2 (s₁.setTop (entryFrame mM #[(.ref a), (.ref s')] 2))
  refine own_st (A := s₁.setTop (mkF mM 0 #[.val (.ref a), .val (.ref s')] [])) (fun tT_ kK_ => castTop (ef_rmS1_2 mM a s' ks cs x0 x1) kK_) ?_
  refine own_st (A := s₁.setTop (mkF mM 1 #[.val (.ref a), .val (.ref s')] [(.ref a)])) (fun tT_ kK_ => XS.aloadN X0.here hx rfl (hb hby d2_0) rfl rfl kK_) ?_
  refine own_st (A := s₁.setTop (mkF mM 2 #[.val (.ref a), .val (.ref s')] [(.ref s'), (.ref a)])) (fun tT_ kK_ => XS.aloadN X0.here hx rfl (hb hby d2_1) rfl rfl kK_) ?_
  refine own_st (A := s₁.setTop (mkF mM 3 #[.val (.ref a), .val (.ref s')] [(.int (0 : Int32)), (.ref s'), (.ref a)])) (fun tT_ kK_ => XS.iconst X0.here hx rfl (hb hby d2_2) kK_) ?_
  refine own_st (A := s₁.setTop (mkF mM 4 #[.val (.ref a), .val (.ref s')] [(.ref s'), (.int (0 : Int32)), (.ref s'), (.ref a)])) (fun tT_ kK_ => XS.aloadN X0.here hx rfl (hb hby d2_3) rfl rfl kK_) ?_
  obtain ⟨cl30, Ar30, q30, S30, Nn30, H30, G30⟩ := id A_s'
  refine own_st (A := s₁.setTop (mkF mM 5 #[.val (.ref a), .val (.ref s')] [(.int (2 : Int32)), (.int (0 : Int32)), (.ref s'), (.ref a)])) (fun tT_ kK_ => X0.arraylength hx (by rw [e0]; exact Ar30.1) (State.isArrayOf_alike hZ.alike Ar30.2.1) (g := (mkF mM 4 #[.val (.ref a), .val (.ref s')] [(.ref s'), (.int (0 : Int32)), (.ref s'), (.ref a)])) rfl rfl (hb hby d2_4) tT_ (by rw [len_of S30 Nn30]; exact kK_)) ?_
  refine own_st (A := s₁.setTop (mkF mM 6 #[.val (.ref a), .val (.ref s')] [.null, (.int (2 : Int32)), (.int (0 : Int32)), (.ref s'), (.ref a)])) (fun tT_ kK_ => XS.aconstNull X0.here hx rfl (hb hby d2_5) kK_) ?_
  obtain ⟨_, _, ⟨T31, L31, k31, n31⟩, -, X31, ⟨Lc31, hQ31, l31, y31, z31⟩, st31⟩ := X0.specialBack hx (y := (⟨"java/lang/String", "<init>", "([CIILjava/lang/Void;)V"⟩ : MethodName)) rfl hown (mvT hZ (hw _ (List.mem_of_getElem? (i := 11) rfl))) (mvT hZ (hw _ (List.mem_of_getElem? (i := 12) rfl))) (mvT hZ (hw _ (List.mem_of_getElem? (i := 14) rfl))) (by decide) (backOf (W := 0) (rmS4_2 lL Z a0 hw [] a s' ks cs x0 x1 h0 n0 g_a E_a F_a_value F_a_coder A_s' nsa O Zn S_cs hcs cx0 cx1) hZ (hw _ (List.mem_of_getElem? (i := 14) rfl)) (hw _ (List.mem_of_getElem? (i := 6) rfl)) (by decide) (by decide)) (g := (mkF mM 6 #[.val (.ref a), .val (.ref s')] [.null, (.int (2 : Int32)), (.int (0 : Int32)), (.ref s'), (.ref a)])) rfl (by rw [hml]; rfl) (Steps.refl _) (a := a) (argsL := [(.ref s'), (.int (0 : Int32)), (.int (2 : Int32)), .null]) (rest := []) (lenOf pd__28_5bCIILjava_2flang_2fVoid_3b_29V rfl) rfl (by show 2 * 0 + _ ≤ _; exact Nat.le_of_eq rfl) (hb hby d2_6) (fun _ _ => ⟨rfl, e0, (by decide : 0 + 1 ≤ _), (by decide : 0 + 2 ≤ _)⟩)
  dsimp only [Pt.U, Pt.locs, Pt.cells, Pt.slots] at X31 l31 y31 z31 st31 hQ31
  subst l31 y31 z31
  obtain ⟨d31, k31', rfl, N31q, R31⟩ := hQ31
  have N31 := Fr.app N0 N31q
  have e31 : T31.heap = T31.heap := rfl
  refine own_st (A := T31.setTop (mkF mM 9 #[.val (.ref a), .val (.ref s')] [])) (fun tT_ kK_ => st31.trans kK_) ?_
  exact own_retV X31 hx hlk hret (hb hby d2_9) ⟨_, _, rfl, N31, R31⟩ (by decide) (by decide)
theorem d1_0 : decode method_2_code 0 = .ok (.iload_n 0, 1) := by decide +kernel
theorem d1_1 : decode method_2_code 1 = .ok (.ifCond .eq 22, 3) := by decide +kernel
theorem d1_23 : decode method_2_code 23 = .ok (.new 7, 3) := by decide +kernel
theorem d1_26 : decode method_2_code 26 = .ok (.dup, 1) := by decide +kernel
theorem d1_27 : decode method_2_code 27 = .ok (.iconst 1, 1) := by decide +kernel
theorem d1_28 : decode method_2_code 28 = .ok (.newarray .char, 2) := by decide +kernel
theorem d1_30 : decode method_2_code 30 = .ok (.dup, 1) := by decide +kernel
theorem d1_31 : decode method_2_code 31 = .ok (.iconst 0, 1) := by decide +kernel
theorem d1_32 : decode method_2_code 32 = .ok (.iload_n 1, 1) := by decide +kernel
theorem d1_33 : decode method_2_code 33 = .ok (.castore, 1) := by decide +kernel
theorem d1_34 : decode method_2_code 34 = .ok (.invokespecial 9, 3) := by decide +kernel
theorem pd__28_5bC_29V : parseMethodDescriptor "([C)V" = some ⟨[(.array .char)], none⟩ := by decide +kernel
theorem d1_37 : decode method_2_code 37 = .ok (.areturn, 1) := by decide +kernel
theorem pn_com_2fexample_2fupfront_duty_2fupfrontduty_2falgebra_2fRoleEqualsPinLaw : plainName "com/example/upfront_duty/upfrontduty/algebra/RoleEqualsPinLaw" = true := by first | (simp [plainName, overriddenIn]; done) | decide +kernel
theorem ef_rmN1 (mM : MethodId) (cs : Int32) (x0 : Int32) (x1 : Int32) : entryFrame mM #[(.int (0 : Int32)), (.int x0), (.int x1)] 3 = mkF mM 0 #[.val (.int (0 : Int32)), .val (.int x0), .val (.int x1)] [] := by first | (simp [entryFrame, mkF, argsToLocals, Value.category]; done) | rfl
set_option maxRecDepth 65536 in
set_option maxHeartbeats 40000000 in
theorem rmN1 (lL : Launch) (Z : State) (a0 : Array Value) (hw : ∀ d ∈ tables_1, d.before a0 Z = true) (ws : List Jvm.Cond) (cs : Int32) (x0 : Int32) (x1 : Int32) (h0 : Heap) (n0 : Nat) (O : Old Z n0 h0) (Zn : n0 ≤ h0.size) (S_cs : Sta Z Z.heap "java/lang/String" "COMPACT_STRINGS" "Z" (.int cs)) (hcs : ¬ cs = (0 : Int32)) (cx0 : Ck x0) (cx1 : Ck x1) :
    MetFree lL (⟨"com/example/upfront_duty/upfrontduty/algebra/RoleEqualsPinLaw", "name", "(ZCC)Ljava/lang/String;"⟩ : MethodName) (head1 (Jvm.Cond.code (⟨"com/example/upfront_duty/upfrontduty/algebra/RoleEqualsPinLaw", "name", "(ZCC)Ljava/lang/String;"⟩ : MethodName) method_2_code 3 (some (.object "java/lang/String")) :: ws) ({ frames := 4, cells := 3, slots := 6, locals := 66 } : Room)) (fun as_ uU_ => as_ = #[(.int (0 : Int32)), (.int x0), (.int x1)] ∧ Z.Warmed39 uU_.vm ∧ uU_.heap = h0) (fun _ _ _ _ _ => True) (fun _ uU_ oO_ uE_ => ∃ vV_ lL_, oO_ = .returned vV_ ∧ QN Z 1 [(.int (((x0).toInt8.toInt32)).toInt8.toInt32)] h0 n0 vV_ uE_.heap lL_ ∧ FrameEnd uU_ oO_ uE_ lL_ ({ frames := 4, cells := 3, slots := 6, locals := 66 } : Room).cells ({ frames := 4, cells := 3, slots := 6, locals := 66 } : Room).slots) := by
  refine MetFree.of_bodySF (plainFor_of_name pn_com_2fexample_2fupfront_duty_2fupfrontduty_2falgebra_2fRoleEqualsPinLaw) hisR ?_
  intro pP eE sS mM args below meth cC s₁ Bd hml0 hP hK
  obtain ⟨rfl, hZ, hh⟩ := hP
  have hx := Bd.exec
  have hby := Bd.bytes
  have hml : cC.maxLocals = 3 := hml0
  have hown : sS.vm.findClass "com/example/upfront_duty/upfrontduty/algebra/RoleEqualsPinLaw" = some mM.cls := findClass_of_methodNamed Bd.named
  have hnm := (name_of_methodNamed Bd.named Bd.method).1
  have hret := Bd.returns
  have hlk := BodyLoose.notSynchronized Bd
  have X0 : Stand pP lL eE ({ frames := 4, cells := 3, slots := 6, locals := 66 } : Room) sS mM #[(.int (0 : Int32)), (.int x0), (.int x1)] below meth cC s₁ [] 0 0 := Stand.of_body Bd
  have e0 : s₁.heap = h0 := by rw [← hh, Bd.state]; rfl
  have N0 := Fr.nil n0
  show own_Go pP eE below sS (QN Z 1 [(.int (((x0).toInt8.toInt32)).toInt8.toInt32)] h0 n0) 3 6 (s₁.setTop (entryFrame mM #[(.int (0 : Int32)), (.int x0), (.int x1)] 3))
  refine own_st (A := s₁.setTop (mkF mM 0 #[.val (.int (0 : Int32)), .val (.int x0), .val (.int x1)] [])) (fun tT_ kK_ => castTop (ef_rmN1 mM cs x0 x1) kK_) ?_
  have Kp := Keep.refl h0 []
  refine own_st (A := s₁.setTop (mkF mM 1 #[.val (.int (0 : Int32)), .val (.int x0), .val (.int x1)] [(.int (0 : Int32))])) (fun tT_ kK_ => XS.iloadN X0.here hx rfl (hb hby d1_0) rfl kK_) ?_
  refine own_st (A := s₁.setTop (mkF mM 23 #[.val (.int (0 : Int32)), .val (.int x0), .val (.int x1)] [])) (fun tT_ kK_ => XS.ifYes X0.here hx rfl (pc0 := 1) (pc' := 23) rfl (hb hby d1_1) rfl ((if0 _ _).trans (teq (by decide : ((0 : Int32) = (0 : Int32)))).1) (by decide) (by decide) kK_) ?_
  obtain ⟨T32, h32, X32, e32, E32, A32, D32, -, st32⟩ := newO X0 hx hZ hown (hw _ (List.mem_of_getElem? (i := 4) rfl)) (hw _ (List.mem_of_getElem? (i := 5) rfl)) (hw _ (List.mem_of_getElem? (i := 6) rfl)) e0 (g := (mkF mM 23 #[.val (.int (0 : Int32)), .val (.int x0), .val (.int x1)] [])) rfl (hb hby d1_23) (by decide) (by decide)
  obtain ⟨b32, g32⟩ : ∃ z, z = h0.size := ⟨_, rfl⟩
  rw [← g32] at A32 D32 st32
  have g_b32 : n0 ≤ b32 := Nat.le_trans Zn (Nat.le_of_eq g32.symm)
  have b_b32 : h0.size ≤ b32 := Nat.le_trans Kp.1 (Nat.le_of_eq g32.symm)
  have O := O.ext E32
  have Zn := Nat.le_trans Zn E32.1
  have Kp := Kp.ext E32
  have E_b32 := A32
  have F_b32_coder : Fld Z h32 b32 "java/lang/String" "coder" "B" (.int (0 : Int32)) := D32 (Or.inr (hw _ (List.mem_of_getElem? (i := 31) rfl))) (ty := .byte) (by decide)
  have F_b32_value : Fld Z h32 b32 "java/lang/String" "value" "[B" .null := D32 (Or.inr (hw _ (List.mem_of_getElem? (i := 33) rfl))) (ty := (.array .byte)) (by decide)
  refine own_st (A := T32.setTop (mkF mM 26 #[.val (.int (0 : Int32)), .val (.int x0), .val (.int x1)] [(.ref b32)])) (fun tT_ kK_ => st32 tT_ kK_) ?_
  refine own_st (A := T32.setTop (mkF mM 27 #[.val (.int (0 : Int32)), .val (.int x0), .val (.int x1)] [(.ref b32), (.ref b32)])) (fun tT_ kK_ => XS.dup X32.here hx rfl (hb hby d1_26) rfl rfl kK_) ?_
  refine own_st (A := T32.setTop (mkF mM 28 #[.val (.int (0 : Int32)), .val (.int x0), .val (.int x1)] [(.int (1 : Int32)), (.ref b32), (.ref b32)])) (fun tT_ kK_ => XS.iconst X32.here hx rfl (hb hby d1_27) kK_) ?_
  obtain ⟨T33, h33, k33, X33, e33, E33, A33, st33⟩ := newP X32 hx hZ (hw _ (List.mem_of_getElem? (i := 7) rfl)) e32 (g := (mkF mM 28 #[.val (.int (0 : Int32)), .val (.int x0), .val (.int x1)] [(.int (1 : Int32)), (.ref b32), (.ref b32)])) rfl (hb hby d1_28) rfl (by decide) (cap := 1) (by decide) (by decide) (by decide) (by decide)
  obtain ⟨b33, g33⟩ : ∃ z, z = h32.size := ⟨_, rfl⟩
  rw [← g33] at A33 st33
  have ne_b32_b33 : b32 ≠ b33 := Nat.ne_of_lt (Nat.lt_of_lt_of_le E_b32.lt (Nat.le_of_eq g33.symm))
  have g_b33 : n0 ≤ b33 := Nat.le_trans Zn (Nat.le_of_eq g33.symm)
  have b_b33 : h0.size ≤ b33 := Nat.le_trans Kp.1 (Nat.le_of_eq g33.symm)
  have F_b32_coder := F_b32_coder.ext E33
  have F_b32_value := F_b32_value.ext E33
  have E_b32 := E_b32.ext E33
  have O := O.ext E33
  have Zn := Nat.le_trans Zn E33.1
  have Kp := Kp.ext E33
  have A_b33 : Arv Z h33 b33 k33 .char 1 [(.int (0 : Int32))] (.int (0 : Int32)) := (Arv.new A33 (by decide)).pad (pad_rep [] (.int (0 : Int32)) 1)
  refine own_st (A := T33.setTop (mkF mM 30 #[.val (.int (0 : Int32)), .val (.int x0), .val (.int x1)] [(.ref b33), (.ref b32), (.ref b32)])) (fun tT_ kK_ => st33 tT_ kK_) ?_
  refine own_st (A := T33.setTop (mkF mM 31 #[.val (.int (0 : Int32)), .val (.int x0), .val (.int x1)] [(.ref b33), (.ref b33), (.ref b32), (.ref b32)])) (fun tT_ kK_ => XS.dup X33.here hx rfl (hb hby d1_30) rfl rfl kK_) ?_
  refine own_st (A := T33.setTop (mkF mM 32 #[.val (.int (0 : Int32)), .val (.int x0), .val (.int x1)] [(.int (0 : Int32)), (.ref b33), (.ref b33), (.ref b32), (.ref b32)])) (fun tT_ kK_ => XS.iconst X33.here hx rfl (hb hby d1_31) kK_) ?_
  refine own_st (A := T33.setTop (mkF mM 33 #[.val (.int (0 : Int32)), .val (.int x0), .val (.int x1)] [(.int x0), (.int (0 : Int32)), (.ref b33), (.ref b33), (.ref b32), (.ref b32)])) (fun tT_ kK_ => XS.iloadN X33.here hx rfl (hb hby d1_32) rfl kK_) ?_
  obtain ⟨cl34, Ar34, q34, S34, Nn34, H34, G34⟩ := id A_b33
  obtain ⟨T35, h35, X35, e35, W35, st35⟩ := stC X33 hx hZ e33 Ar34 (j := (0 : Int32)) (inb_of S34 ⟨by decide, by decide⟩) (g := (mkF mM 33 #[.val (.int (0 : Int32)), .val (.int x0), .val (.int x1)] [(.int x0), (.int (0 : Int32)), (.ref b33), (.ref b33), (.ref b32), (.ref b32)])) rfl rfl (hb hby d1_33)
  have N35 := Fr.snoc X35 N0 g_b33
  have F_b32_coder := F_b32_coder.other W35 (Or.inl ne_b32_b33)
  have F_b32_value := F_b32_value.other W35 (Or.inl ne_b32_b33)
  have E_b32 := E_b32.wr W35
  have O := O.wr W35 g_b33
  have Zn := Nat.le_trans Zn (Keep.of_wr W35).1
  have Kp := Kp.wr W35 (Or.inr b_b33)
  have A_b33 : Arv Z h35 b33 k33 .char 1 [(.int (nar .char x0))] (.int (0 : Int32)) := Arv.set Ar34 q34 S34 Nn34 H34 G34 (fits_nar_char _) W35 0 rfl (Nat.le_of_ble_eq_true rfl)
  refine own_st (A := T35.setTop (mkF mM 34 #[.val (.int (0 : Int32)), .val (.int x0), .val (.int x1)] [(.ref b33), (.ref b32), (.ref b32)])) (fun tT_ kK_ => st35 tT_ kK_) ?_
  rw [cx0.1] at A_b33
  obtain ⟨_, _, ⟨T36, L36, k36, n36⟩, -, X36, ⟨Lc36, hQ36, l36, y36, z36⟩, st36⟩ := X35.specialBack hx (y := (⟨"java/lang/String", "<init>", "([C)V"⟩ : MethodName)) rfl hown (mvT hZ (hw _ (List.mem_of_getElem? (i := 8) rfl))) (mvT hZ (hw _ (List.mem_of_getElem? (i := 9) rfl))) (mvT hZ (hw _ (List.mem_of_getElem? (i := 10) rfl))) (by decide) (backOf (W := 1) (rmS1_1 lL Z a0 hw [] b32 b33 k33 cs x0 h35 n0 g_b32 E_b32 F_b32_value F_b32_coder A_b33 (Ne.symm ne_b32_b33) O Zn S_cs hcs cx0) hZ (hw _ (List.mem_of_getElem? (i := 10) rfl)) (hw _ (List.mem_of_getElem? (i := 6) rfl)) (by decide) (by decide)) (g := (mkF mM 34 #[.val (.int (0 : Int32)), .val (.int x0), .val (.int x1)] [(.ref b33), (.ref b32), (.ref b32)])) rfl (by rw [hml]; rfl) (Steps.refl _) (a := b32) (argsL := [(.ref b33)]) (rest := [(.ref b32)]) (lenOf pd__28_5bC_29V rfl) rfl (by show 2 * 0 + _ ≤ _; exact Nat.le_of_eq rfl) (hb hby d1_34) (fun _ _ => ⟨rfl, e35, (by decide : 2 + 1 ≤ _), (by decide : 5 + 1 ≤ _)⟩)
  dsimp only [Pt.U, Pt.locs, Pt.cells, Pt.slots] at X36 l36 y36 z36 st36 hQ36
  subst l36 y36 z36
  obtain ⟨d36, k36', rfl, N36q, K36, str36, ge36⟩ := hQ36
  have N36 := Fr.app N35 N36q
  have e36 : T36.heap = T36.heap := rfl
  refine own_st (A := T36.setTop (mkF mM 37 #[.val (.int (0 : Int32)), .val (.int x0), .val (.int x1)] [(.ref b32)])) (fun tT_ kK_ => st36.trans kK_) ?_
  have ged36 := Nat.le_trans Kp.1 ge36
  have E_b32 := E_b32.keep K36
  have A_b33 := A_b33.keep K36 (ninS (Ne.symm ne_b32_b33) nin0)
  have O := O.keep K36 (allS g_b32 all0)
  have Zn := Nat.le_trans Zn K36.1
  have Kp := Kp.trans K36 (allS (Or.inr b_b32) all0)
  exact own_retA X36 hx hlk hret rfl rfl (hb hby d1_37) ⟨_, _, _, rfl, N36, own_ext_of_keep Kp, str36, b_b32, ged36⟩ (by decide) (by decide)
theorem d1_4 : decode method_2_code 4 = .ok (.new 7, 3) := by decide +kernel
theorem d1_7 : decode method_2_code 7 = .ok (.dup, 1) := by decide +kernel
theorem d1_8 : decode method_2_code 8 = .ok (.iconst 2, 1) := by decide +kernel
theorem d1_9 : decode method_2_code 9 = .ok (.newarray .char, 2) := by decide +kernel
theorem d1_11 : decode method_2_code 11 = .ok (.dup, 1) := by decide +kernel
theorem d1_12 : decode method_2_code 12 = .ok (.iconst 0, 1) := by decide +kernel
theorem d1_13 : decode method_2_code 13 = .ok (.iload_n 1, 1) := by decide +kernel
theorem d1_14 : decode method_2_code 14 = .ok (.castore, 1) := by decide +kernel
theorem d1_15 : decode method_2_code 15 = .ok (.dup, 1) := by decide +kernel
theorem d1_16 : decode method_2_code 16 = .ok (.iconst 1, 1) := by decide +kernel
theorem d1_17 : decode method_2_code 17 = .ok (.iload_n 2, 1) := by decide +kernel
theorem d1_18 : decode method_2_code 18 = .ok (.castore, 1) := by decide +kernel
theorem d1_19 : decode method_2_code 19 = .ok (.invokespecial 9, 3) := by decide +kernel
theorem d1_22 : decode method_2_code 22 = .ok (.areturn, 1) := by decide +kernel
theorem ef_rmN2 (mM : MethodId) (cs : Int32) (x0 : Int32) (x1 : Int32) : entryFrame mM #[(.int (1 : Int32)), (.int x0), (.int x1)] 3 = mkF mM 0 #[.val (.int (1 : Int32)), .val (.int x0), .val (.int x1)] [] := by first | (simp [entryFrame, mkF, argsToLocals, Value.category]; done) | rfl
set_option maxRecDepth 65536 in
set_option maxHeartbeats 40000000 in
theorem rmN2 (lL : Launch) (Z : State) (a0 : Array Value) (hw : ∀ d ∈ tables_1, d.before a0 Z = true) (ws : List Jvm.Cond) (cs : Int32) (x0 : Int32) (x1 : Int32) (h0 : Heap) (n0 : Nat) (O : Old Z n0 h0) (Zn : n0 ≤ h0.size) (S_cs : Sta Z Z.heap "java/lang/String" "COMPACT_STRINGS" "Z" (.int cs)) (hcs : ¬ cs = (0 : Int32)) (cx0 : Ck x0) (cx1 : Ck x1) :
    MetFree lL (⟨"com/example/upfront_duty/upfrontduty/algebra/RoleEqualsPinLaw", "name", "(ZCC)Ljava/lang/String;"⟩ : MethodName) (head1 (Jvm.Cond.code (⟨"com/example/upfront_duty/upfrontduty/algebra/RoleEqualsPinLaw", "name", "(ZCC)Ljava/lang/String;"⟩ : MethodName) method_2_code 3 (some (.object "java/lang/String")) :: ws) ({ frames := 4, cells := 3, slots := 8, locals := 66 } : Room)) (fun as_ uU_ => as_ = #[(.int (1 : Int32)), (.int x0), (.int x1)] ∧ Z.Warmed39 uU_.vm ∧ uU_.heap = h0) (fun _ _ _ _ _ => True) (fun _ uU_ oO_ uE_ => ∃ vV_ lL_, oO_ = .returned vV_ ∧ QN Z 2 [(.int (((x0).toInt8.toInt32)).toInt8.toInt32), (.int (((x1).toInt8.toInt32)).toInt8.toInt32)] h0 n0 vV_ uE_.heap lL_ ∧ FrameEnd uU_ oO_ uE_ lL_ ({ frames := 4, cells := 3, slots := 8, locals := 66 } : Room).cells ({ frames := 4, cells := 3, slots := 8, locals := 66 } : Room).slots) := by
  refine MetFree.of_bodySF (plainFor_of_name pn_com_2fexample_2fupfront_duty_2fupfrontduty_2falgebra_2fRoleEqualsPinLaw) hisR ?_
  intro pP eE sS mM args below meth cC s₁ Bd hml0 hP hK
  obtain ⟨rfl, hZ, hh⟩ := hP
  have hx := Bd.exec
  have hby := Bd.bytes
  have hml : cC.maxLocals = 3 := hml0
  have hown : sS.vm.findClass "com/example/upfront_duty/upfrontduty/algebra/RoleEqualsPinLaw" = some mM.cls := findClass_of_methodNamed Bd.named
  have hnm := (name_of_methodNamed Bd.named Bd.method).1
  have hret := Bd.returns
  have hlk := BodyLoose.notSynchronized Bd
  have X0 : Stand pP lL eE ({ frames := 4, cells := 3, slots := 8, locals := 66 } : Room) sS mM #[(.int (1 : Int32)), (.int x0), (.int x1)] below meth cC s₁ [] 0 0 := Stand.of_body Bd
  have e0 : s₁.heap = h0 := by rw [← hh, Bd.state]; rfl
  have N0 := Fr.nil n0
  show own_Go pP eE below sS (QN Z 2 [(.int (((x0).toInt8.toInt32)).toInt8.toInt32), (.int (((x1).toInt8.toInt32)).toInt8.toInt32)] h0 n0) 3 8 (s₁.setTop (entryFrame mM #[(.int (1 : Int32)), (.int x0), (.int x1)] 3))
  refine own_st (A := s₁.setTop (mkF mM 0 #[.val (.int (1 : Int32)), .val (.int x0), .val (.int x1)] [])) (fun tT_ kK_ => castTop (ef_rmN2 mM cs x0 x1) kK_) ?_
  have Kp := Keep.refl h0 []
  refine own_st (A := s₁.setTop (mkF mM 1 #[.val (.int (1 : Int32)), .val (.int x0), .val (.int x1)] [(.int (1 : Int32))])) (fun tT_ kK_ => XS.iloadN X0.here hx rfl (hb hby d1_0) rfl kK_) ?_
  refine own_st (A := s₁.setTop (mkF mM 4 #[.val (.int (1 : Int32)), .val (.int x0), .val (.int x1)] [])) (fun tT_ kK_ => XS.ifNo X0.here hx rfl (hb hby d1_1) rfl ((if0 _ _).trans (feq (by decide : ¬ ((1 : Int32) = (0 : Int32)))).1) kK_) ?_
  obtain ⟨T37, h37, X37, e37, E37, A37, D37, -, st37⟩ := newO X0 hx hZ hown (hw _ (List.mem_of_getElem? (i := 4) rfl)) (hw _ (List.mem_of_getElem? (i := 5) rfl)) (hw _ (List.mem_of_getElem? (i := 6) rfl)) e0 (g := (mkF mM 4 #[.val (.int (1 : Int32)), .val (.int x0), .val (.int x1)] [])) rfl (hb hby d1_4) (by decide) (by decide)
  obtain ⟨b37, g37⟩ : ∃ z, z = h0.size := ⟨_, rfl⟩
  rw [← g37] at A37 D37 st37
  have g_b37 : n0 ≤ b37 := Nat.le_trans Zn (Nat.le_of_eq g37.symm)
  have b_b37 : h0.size ≤ b37 := Nat.le_trans Kp.1 (Nat.le_of_eq g37.symm)
  have O := O.ext E37
  have Zn := Nat.le_trans Zn E37.1
  have Kp := Kp.ext E37
  have E_b37 := A37
  have F_b37_coder : Fld Z h37 b37 "java/lang/String" "coder" "B" (.int (0 : Int32)) := D37 (Or.inr (hw _ (List.mem_of_getElem? (i := 31) rfl))) (ty := .byte) (by decide)
  have F_b37_value : Fld Z h37 b37 "java/lang/String" "value" "[B" .null := D37 (Or.inr (hw _ (List.mem_of_getElem? (i := 33) rfl))) (ty := (.array .byte)) (by decide)
  refine own_st (A := T37.setTop (mkF mM 7 #[.val (.int (1 : Int32)), .val (.int x0), .val (.int x1)] [(.ref b37)])) (fun tT_ kK_ => st37 tT_ kK_) ?_
  refine own_st (A := T37.setTop (mkF mM 8 #[.val (.int (1 : Int32)), .val (.int x0), .val (.int x1)] [(.ref b37), (.ref b37)])) (fun tT_ kK_ => XS.dup X37.here hx rfl (hb hby d1_7) rfl rfl kK_) ?_
  refine own_st (A := T37.setTop (mkF mM 9 #[.val (.int (1 : Int32)), .val (.int x0), .val (.int x1)] [(.int (2 : Int32)), (.ref b37), (.ref b37)])) (fun tT_ kK_ => XS.iconst X37.here hx rfl (hb hby d1_8) kK_) ?_
  obtain ⟨T38, h38, k38, X38, e38, E38, A38, st38⟩ := newP X37 hx hZ (hw _ (List.mem_of_getElem? (i := 7) rfl)) e37 (g := (mkF mM 9 #[.val (.int (1 : Int32)), .val (.int x0), .val (.int x1)] [(.int (2 : Int32)), (.ref b37), (.ref b37)])) rfl (hb hby d1_9) rfl (by decide) (cap := 2) (by decide) (by decide) (by decide) (by decide)
  obtain ⟨b38, g38⟩ : ∃ z, z = h37.size := ⟨_, rfl⟩
  rw [← g38] at A38 st38
  have ne_b37_b38 : b37 ≠ b38 := Nat.ne_of_lt (Nat.lt_of_lt_of_le E_b37.lt (Nat.le_of_eq g38.symm))
  have g_b38 : n0 ≤ b38 := Nat.le_trans Zn (Nat.le_of_eq g38.symm)
  have b_b38 : h0.size ≤ b38 := Nat.le_trans Kp.1 (Nat.le_of_eq g38.symm)
  have F_b37_coder := F_b37_coder.ext E38
  have F_b37_value := F_b37_value.ext E38
  have E_b37 := E_b37.ext E38
  have O := O.ext E38
  have Zn := Nat.le_trans Zn E38.1
  have Kp := Kp.ext E38
  have A_b38 : Arv Z h38 b38 k38 .char 2 [(.int (0 : Int32)), (.int (0 : Int32))] (.int (0 : Int32)) := (Arv.new A38 (by decide)).pad (pad_rep [] (.int (0 : Int32)) 2)
  refine own_st (A := T38.setTop (mkF mM 11 #[.val (.int (1 : Int32)), .val (.int x0), .val (.int x1)] [(.ref b38), (.ref b37), (.ref b37)])) (fun tT_ kK_ => st38 tT_ kK_) ?_
  refine own_st (A := T38.setTop (mkF mM 12 #[.val (.int (1 : Int32)), .val (.int x0), .val (.int x1)] [(.ref b38), (.ref b38), (.ref b37), (.ref b37)])) (fun tT_ kK_ => XS.dup X38.here hx rfl (hb hby d1_11) rfl rfl kK_) ?_
  refine own_st (A := T38.setTop (mkF mM 13 #[.val (.int (1 : Int32)), .val (.int x0), .val (.int x1)] [(.int (0 : Int32)), (.ref b38), (.ref b38), (.ref b37), (.ref b37)])) (fun tT_ kK_ => XS.iconst X38.here hx rfl (hb hby d1_12) kK_) ?_
  refine own_st (A := T38.setTop (mkF mM 14 #[.val (.int (1 : Int32)), .val (.int x0), .val (.int x1)] [(.int x0), (.int (0 : Int32)), (.ref b38), (.ref b38), (.ref b37), (.ref b37)])) (fun tT_ kK_ => XS.iloadN X38.here hx rfl (hb hby d1_13) rfl kK_) ?_
  obtain ⟨cl39, Ar39, q39, S39, Nn39, H39, G39⟩ := id A_b38
  obtain ⟨T40, h40, X40, e40, W40, st40⟩ := stC X38 hx hZ e38 Ar39 (j := (0 : Int32)) (inb_of S39 ⟨by decide, by decide⟩) (g := (mkF mM 14 #[.val (.int (1 : Int32)), .val (.int x0), .val (.int x1)] [(.int x0), (.int (0 : Int32)), (.ref b38), (.ref b38), (.ref b37), (.ref b37)])) rfl rfl (hb hby d1_14)
  have N40 := Fr.snoc X40 N0 g_b38
  have F_b37_coder := F_b37_coder.other W40 (Or.inl ne_b37_b38)
  have F_b37_value := F_b37_value.other W40 (Or.inl ne_b37_b38)
  have E_b37 := E_b37.wr W40
  have O := O.wr W40 g_b38
  have Zn := Nat.le_trans Zn (Keep.of_wr W40).1
  have Kp := Kp.wr W40 (Or.inr b_b38)
  have A_b38 : Arv Z h40 b38 k38 .char 2 [(.int (nar .char x0)), (.int (0 : Int32))] (.int (0 : Int32)) := Arv.set Ar39 q39 S39 Nn39 H39 G39 (fits_nar_char _) W40 0 rfl (Nat.le_of_ble_eq_true rfl)
  refine own_st (A := T40.setTop (mkF mM 15 #[.val (.int (1 : Int32)), .val (.int x0), .val (.int x1)] [(.ref b38), (.ref b37), (.ref b37)])) (fun tT_ kK_ => st40 tT_ kK_) ?_
  rw [cx0.1] at A_b38
  refine own_st (A := T40.setTop (mkF mM 16 #[.val (.int (1 : Int32)), .val (.int x0), .val (.int x1)] [(.ref b38), (.ref b38), (.ref b37), (.ref b37)])) (fun tT_ kK_ => XS.dup X40.here hx rfl (hb hby d1_15) rfl rfl kK_) ?_
  refine own_st (A := T40.setTop (mkF mM 17 #[.val (.int (1 : Int32)), .val (.int x0), .val (.int x1)] [(.int (1 : Int32)), (.ref b38), (.ref b38), (.ref b37), (.ref b37)])) (fun tT_ kK_ => XS.iconst X40.here hx rfl (hb hby d1_16) kK_) ?_
  refine own_st (A := T40.setTop (mkF mM 18 #[.val (.int (1 : Int32)), .val (.int x0), .val (.int x1)] [(.int x1), (.int (1 : Int32)), (.ref b38), (.ref b38), (.ref b37), (.ref b37)])) (fun tT_ kK_ => XS.iloadN X40.here hx rfl (hb hby d1_17) rfl kK_) ?_
  obtain ⟨cl41, Ar41, q41, S41, Nn41, H41, G41⟩ := id A_b38
  obtain ⟨T42, h42, X42, e42, W42, st42⟩ := stC X40 hx hZ e40 Ar41 (j := (1 : Int32)) (inb_of S41 ⟨by decide, by decide⟩) (g := (mkF mM 18 #[.val (.int (1 : Int32)), .val (.int x0), .val (.int x1)] [(.int x1), (.int (1 : Int32)), (.ref b38), (.ref b38), (.ref b37), (.ref b37)])) rfl rfl (hb hby d1_18)
  have N42 := Fr.snoc X42 N40 g_b38
  have F_b37_coder := F_b37_coder.other W42 (Or.inl ne_b37_b38)
  have F_b37_value := F_b37_value.other W42 (Or.inl ne_b37_b38)
  have E_b37 := E_b37.wr W42
  have O := O.wr W42 g_b38
  have Zn := Nat.le_trans Zn (Keep.of_wr W42).1
  have Kp := Kp.wr W42 (Or.inr b_b38)
  have A_b38 : Arv Z h42 b38 k38 .char 2 [(.int x0), (.int (nar .char x1))] (.int (0 : Int32)) := Arv.set Ar41 q41 S41 Nn41 H41 G41 (fits_nar_char _) W42 1 rfl (Nat.le_of_ble_eq_true rfl)
  refine own_st (A := T42.setTop (mkF mM 19 #[.val (.int (1 : Int32)), .val (.int x0), .val (.int x1)] [(.ref b38), (.ref b37), (.ref b37)])) (fun tT_ kK_ => st42 tT_ kK_) ?_
  rw [cx1.1] at A_b38
  obtain ⟨_, _, ⟨T43, L43, k43, n43⟩, -, X43, ⟨Lc43, hQ43, l43, y43, z43⟩, st43⟩ := X42.specialBack hx (y := (⟨"java/lang/String", "<init>", "([C)V"⟩ : MethodName)) rfl hown (mvT hZ (hw _ (List.mem_of_getElem? (i := 8) rfl))) (mvT hZ (hw _ (List.mem_of_getElem? (i := 9) rfl))) (mvT hZ (hw _ (List.mem_of_getElem? (i := 10) rfl))) (by decide) (backOf (W := 1) (rmS1_2 lL Z a0 hw [] b37 b38 k38 cs x0 x1 h42 n0 g_b37 E_b37 F_b37_value F_b37_coder A_b38 (Ne.symm ne_b37_b38) O Zn S_cs hcs cx0 cx1) hZ (hw _ (List.mem_of_getElem? (i := 10) rfl)) (hw _ (List.mem_of_getElem? (i := 6) rfl)) (by decide) (by decide)) (g := (mkF mM 19 #[.val (.int (1 : Int32)), .val (.int x0), .val (.int x1)] [(.ref b38), (.ref b37), (.ref b37)])) rfl (by rw [hml]; rfl) (Steps.refl _) (a := b37) (argsL := [(.ref b38)]) (rest := [(.ref b37)]) (lenOf pd__28_5bC_29V rfl) rfl (by show 2 * 0 + _ ≤ _; exact Nat.le_of_eq rfl) (hb hby d1_19) (fun _ _ => ⟨rfl, e42, (by decide : 2 + 1 ≤ _), (by decide : 6 + 2 ≤ _)⟩)
  dsimp only [Pt.U, Pt.locs, Pt.cells, Pt.slots] at X43 l43 y43 z43 st43 hQ43
  subst l43 y43 z43
  obtain ⟨d43, k43', rfl, N43q, K43, str43, ge43⟩ := hQ43
  have N43 := Fr.app N42 N43q
  have e43 : T43.heap = T43.heap := rfl
  refine own_st (A := T43.setTop (mkF mM 22 #[.val (.int (1 : Int32)), .val (.int x0), .val (.int x1)] [(.ref b37)])) (fun tT_ kK_ => st43.trans kK_) ?_
  have ged43 := Nat.le_trans Kp.1 ge43
  have E_b37 := E_b37.keep K43
  have A_b38 := A_b38.keep K43 (ninS (Ne.symm ne_b37_b38) nin0)
  have O := O.keep K43 (allS g_b37 all0)
  have Zn := Nat.le_trans Zn K43.1
  have Kp := Kp.trans K43 (allS (Or.inr b_b37) all0)
  exact own_retA X43 hx hlk hret rfl rfl (hb hby d1_22) ⟨_, _, _, rfl, N43, own_ext_of_keep Kp, str43, b_b37, ged43⟩ (by decide) (by decide)
theorem d9_0 : decode jdk_31_method_11_code 0 = .ok (.aload_n 0, 1) := by decide +kernel
theorem d9_1 : decode jdk_31_method_11_code 1 = .ok (.ifnonnull 12, 3) := by decide +kernel
theorem d9_13 : decode jdk_31_method_11_code 13 = .ok (.aload_n 0, 1) := by decide +kernel
theorem d9_14 : decode jdk_31_method_11_code 14 = .ok (.areturn, 1) := by decide +kernel
theorem pn_java_2futil_2fObjects : plainName "java/util/Objects" = true := by first | (simp [plainName, overriddenIn]; done) | decide +kernel
theorem ef_rmRN (mM : MethodId) (a : Addr) (m' : Addr) : entryFrame mM #[(.ref a), (.ref m')] 2 = mkF mM 0 #[.val (.ref a), .val (.ref m')] [] := by first | (simp [entryFrame, mkF, argsToLocals, Value.category]; done) | rfl
set_option maxRecDepth 65536 in
set_option maxHeartbeats 40000000 in
theorem rmRN (lL : Launch) (Z : State) (a0 : Array Value) (hw : ∀ d ∈ tables_1, d.before a0 Z = true) (ws : List Jvm.Cond) (a : Addr) (m' : Addr) (h0 : Heap) (n0 : Nat)  :
    MetFree lL (⟨"java/util/Objects", "requireNonNull", "(Ljava/lang/Object;Ljava/lang/String;)Ljava/lang/Object;"⟩ : MethodName) (head1 (Jvm.Cond.code (⟨"java/util/Objects", "requireNonNull", "(Ljava/lang/Object;Ljava/lang/String;)Ljava/lang/Object;"⟩ : MethodName) jdk_31_method_11_code 2 (some (.object "java/lang/Object")) :: ws) ({ frames := 0, cells := 0, slots := 0, locals := 0 } : Room)) (fun as_ uU_ => as_ = #[(.ref a), (.ref m')] ∧ Z.Warmed39 uU_.vm ∧ uU_.heap = h0) (fun _ _ _ _ _ => True) (fun _ uU_ oO_ uE_ => ∃ vV_ lL_, oO_ = .returned vV_ ∧ Qw (.ref a) h0 n0 vV_ uE_.heap lL_ ∧ FrameEnd uU_ oO_ uE_ lL_ ({ frames := 0, cells := 0, slots := 0, locals := 0 } : Room).cells ({ frames := 0, cells := 0, slots := 0, locals := 0 } : Room).slots) := by
  refine MetFree.of_bodySF (plainFor_of_name pn_java_2futil_2fObjects) hisR ?_
  intro pP eE sS mM args below meth cC s₁ Bd hml0 hP hK
  obtain ⟨rfl, hZ, hh⟩ := hP
  have hx := Bd.exec
  have hby := Bd.bytes
  have hml : cC.maxLocals = 2 := hml0
  have hown : sS.vm.findClass "java/util/Objects" = some mM.cls := findClass_of_methodNamed Bd.named
  have hnm := (name_of_methodNamed Bd.named Bd.method).1
  have hret := Bd.returns
  have hlk := BodyLoose.notSynchronized Bd
  have X0 : Stand pP lL eE ({ frames := 0, cells := 0, slots := 0, locals := 0 } : Room) sS mM #[(.ref a), (.ref m')] below meth cC s₁ [] 0 0 := Stand.of_body Bd
  have e0 : s₁.heap = h0 := by rw [← hh, Bd.state]; rfl
  have N0 := Fr.nil n0
  show own_Go pP eE below sS (Qw (.ref a) h0 n0) 0 0 (s₁.setTop (entryFrame mM #[(.ref a), (.ref m')] 2))
  refine own_st (A := s₁.setTop (mkF mM 0 #[.val (.ref a), .val (.ref m')] [])) (fun tT_ kK_ => castTop (ef_rmRN mM a m') kK_) ?_
  refine own_st (A := s₁.setTop (mkF mM 1 #[.val (.ref a), .val (.ref m')] [(.ref a)])) (fun tT_ kK_ => XS.aloadN X0.here hx rfl (hb hby d9_0) rfl rfl kK_) ?_
  refine own_st (A := s₁.setTop (mkF mM 13 #[.val (.ref a), .val (.ref m')] [])) (fun tT_ kK_ => XS.ifnonnullYes X0.here hx rfl (pc0 := 1) (pc' := 13) rfl (hb hby d9_1) rfl (by decide) (by decide) kK_) ?_
  refine own_st (A := s₁.setTop (mkF mM 14 #[.val (.ref a), .val (.ref m')] [(.ref a)])) (fun tT_ kK_ => XS.aloadN X0.here hx rfl (hb hby d9_13) rfl rfl kK_) ?_
  exact own_retA X0 hx hlk hret rfl rfl (hb hby d9_14) ⟨rfl, N0, e0⟩ (by decide) (by decide)
theorem d10_0 : decode jdk_42_method_55_code 0 = .ok (.aload_n 0, 1) := by decide +kernel
theorem d10_1 : decode jdk_42_method_55_code 1 = .ok (.getfield 9, 3) := by decide +kernel
theorem d10_4 : decode jdk_42_method_55_code 4 = .ok (.arraylength, 1) := by decide +kernel
theorem d10_5 : decode jdk_42_method_55_code 5 = .ok (.ifCond .ne 7, 3) := by decide +kernel
theorem d10_12 : decode jdk_42_method_55_code 12 = .ok (.iconst 0, 1) := by decide +kernel
theorem d10_13 : decode jdk_42_method_55_code 13 = .ok (.ireturn, 1) := by decide +kernel
theorem ef_rmE1 (mM : MethodId) (a : Addr) (b : Addr) (kb : ClassId) (x0 : Int32) : entryFrame mM #[(.ref a)] 1 = mkF mM 0 #[.val (.ref a)] [] := by first | (simp [entryFrame, mkF, argsToLocals, Value.category]; done) | rfl
set_option maxRecDepth 65536 in
set_option maxHeartbeats 40000000 in
theorem rmE1 (lL : Launch) (Z : State) (a0 : Array Value) (hw : ∀ d ∈ tables_1, d.before a0 Z = true) (ws : List Jvm.Cond) (a : Addr) (b : Addr) (kb : ClassId) (x0 : Int32) (h0 : Heap) (n0 : Nat) (sa : Str Z h0 a b kb 1 [(.int (((x0).toInt8.toInt32)).toInt8.toInt32)]) :
    MetFree lL (⟨"java/lang/String", "isEmpty", "()Z"⟩ : MethodName) (head1 (Jvm.Cond.code (⟨"java/lang/String", "isEmpty", "()Z"⟩ : MethodName) jdk_42_method_55_code 1 (some .boolean) :: ws) ({ frames := 0, cells := 0, slots := 0, locals := 0 } : Room)) (fun as_ uU_ => as_ = #[(.ref a)] ∧ Z.Warmed39 uU_.vm ∧ uU_.heap = h0) (fun _ _ _ _ _ => True) (fun _ uU_ oO_ uE_ => ∃ vV_ lL_, oO_ = .returned vV_ ∧ Qw (.int 0) h0 n0 vV_ uE_.heap lL_ ∧ FrameEnd uU_ oO_ uE_ lL_ ({ frames := 0, cells := 0, slots := 0, locals := 0 } : Room).cells ({ frames := 0, cells := 0, slots := 0, locals := 0 } : Room).slots) := by
  refine MetFree.of_bodySF (plainFor_of_name pn_java_2flang_2fString) hisR ?_
  intro pP eE sS mM args below meth cC s₁ Bd hml0 hP hK
  obtain ⟨rfl, hZ, hh⟩ := hP
  have hx := Bd.exec
  have hby := Bd.bytes
  have hml : cC.maxLocals = 1 := hml0
  have hown : sS.vm.findClass "java/lang/String" = some mM.cls := findClass_of_methodNamed Bd.named
  have hnm := (name_of_methodNamed Bd.named Bd.method).1
  have hret := Bd.returns
  have hlk := BodyLoose.notSynchronized Bd
  have X0 : Stand pP lL eE ({ frames := 0, cells := 0, slots := 0, locals := 0 } : Room) sS mM #[(.ref a)] below meth cC s₁ [] 0 0 := Stand.of_body Bd
  have e0 : s₁.heap = h0 := by rw [← hh, Bd.state]; rfl
  have N0 := Fr.nil n0
  show own_Go pP eE below sS (Qw (.int 0) h0 n0) 0 0 (s₁.setTop (entryFrame mM #[(.ref a)] 1))
  refine own_st (A := s₁.setTop (mkF mM 0 #[.val (.ref a)] [])) (fun tT_ kK_ => castTop (ef_rmE1 mM a b kb x0) kK_) ?_
  obtain ⟨E_a, F_a_value, F_a_coder, A_b⟩ := sa
  refine own_st (A := s₁.setTop (mkF mM 1 #[.val (.ref a)] [(.ref a)])) (fun tT_ kK_ => XS.aloadN X0.here hx rfl (hb hby d10_0) rfl rfl kK_) ?_
  obtain ⟨T44, X44, e44, st44⟩ := getF X0 hx hZ hown (host := "") (Or.inl (hw _ (List.mem_of_getElem? (i := 32) rfl))) Via.refl e0 F_a_value (g := (mkF mM 1 #[.val (.ref a)] [(.ref a)])) rfl rfl (hb hby d10_1)
  refine own_st (A := T44.setTop (mkF mM 4 #[.val (.ref a)] [(.ref b)])) (fun tT_ kK_ => st44 tT_ kK_) ?_
  obtain ⟨cl45, Ar45, q45, S45, Nn45, H45, G45⟩ := id A_b
  refine own_st (A := T44.setTop (mkF mM 5 #[.val (.ref a)] [(.int (1 : Int32))])) (fun tT_ kK_ => X44.arraylength hx (by rw [e44]; exact Ar45.1) (State.isArrayOf_alike hZ.alike Ar45.2.1) (g := (mkF mM 4 #[.val (.ref a)] [(.ref b)])) rfl rfl (hb hby d10_4) tT_ (by rw [len_of S45 Nn45]; exact kK_)) ?_
  refine own_st (A := T44.setTop (mkF mM 12 #[.val (.ref a)] [])) (fun tT_ kK_ => XS.ifYes X44.here hx rfl (pc0 := 5) (pc' := 12) rfl (hb hby d10_5) rfl ((if0 _ _).trans (feq (by decide : ¬ ((1 : Int32) = (0 : Int32)))).2) (by decide) (by decide) kK_) ?_
  refine own_st (A := T44.setTop (mkF mM 13 #[.val (.ref a)] [(.int (0 : Int32))])) (fun tT_ kK_ => XS.iconst X44.here hx rfl (hb hby d10_12) kK_) ?_
  exact own_retN X44 hx hlk (t := .boolean) hret (by simp) (hb hby d10_13) ⟨rfl, N0, e44⟩ (by decide) (by decide)
theorem ef_rmE2 (mM : MethodId) (a : Addr) (b : Addr) (kb : ClassId) (x0 : Int32) (x1 : Int32) : entryFrame mM #[(.ref a)] 1 = mkF mM 0 #[.val (.ref a)] [] := by first | (simp [entryFrame, mkF, argsToLocals, Value.category]; done) | rfl
set_option maxRecDepth 65536 in
set_option maxHeartbeats 40000000 in
theorem rmE2 (lL : Launch) (Z : State) (a0 : Array Value) (hw : ∀ d ∈ tables_1, d.before a0 Z = true) (ws : List Jvm.Cond) (a : Addr) (b : Addr) (kb : ClassId) (x0 : Int32) (x1 : Int32) (h0 : Heap) (n0 : Nat) (sa : Str Z h0 a b kb 2 [(.int (((x0).toInt8.toInt32)).toInt8.toInt32), (.int (((x1).toInt8.toInt32)).toInt8.toInt32)]) :
    MetFree lL (⟨"java/lang/String", "isEmpty", "()Z"⟩ : MethodName) (head1 (Jvm.Cond.code (⟨"java/lang/String", "isEmpty", "()Z"⟩ : MethodName) jdk_42_method_55_code 1 (some .boolean) :: ws) ({ frames := 0, cells := 0, slots := 0, locals := 0 } : Room)) (fun as_ uU_ => as_ = #[(.ref a)] ∧ Z.Warmed39 uU_.vm ∧ uU_.heap = h0) (fun _ _ _ _ _ => True) (fun _ uU_ oO_ uE_ => ∃ vV_ lL_, oO_ = .returned vV_ ∧ Qw (.int 0) h0 n0 vV_ uE_.heap lL_ ∧ FrameEnd uU_ oO_ uE_ lL_ ({ frames := 0, cells := 0, slots := 0, locals := 0 } : Room).cells ({ frames := 0, cells := 0, slots := 0, locals := 0 } : Room).slots) := by
  refine MetFree.of_bodySF (plainFor_of_name pn_java_2flang_2fString) hisR ?_
  intro pP eE sS mM args below meth cC s₁ Bd hml0 hP hK
  obtain ⟨rfl, hZ, hh⟩ := hP
  have hx := Bd.exec
  have hby := Bd.bytes
  have hml : cC.maxLocals = 1 := hml0
  have hown : sS.vm.findClass "java/lang/String" = some mM.cls := findClass_of_methodNamed Bd.named
  have hnm := (name_of_methodNamed Bd.named Bd.method).1
  have hret := Bd.returns
  have hlk := BodyLoose.notSynchronized Bd
  have X0 : Stand pP lL eE ({ frames := 0, cells := 0, slots := 0, locals := 0 } : Room) sS mM #[(.ref a)] below meth cC s₁ [] 0 0 := Stand.of_body Bd
  have e0 : s₁.heap = h0 := by rw [← hh, Bd.state]; rfl
  have N0 := Fr.nil n0
  show own_Go pP eE below sS (Qw (.int 0) h0 n0) 0 0 (s₁.setTop (entryFrame mM #[(.ref a)] 1))
  refine own_st (A := s₁.setTop (mkF mM 0 #[.val (.ref a)] [])) (fun tT_ kK_ => castTop (ef_rmE2 mM a b kb x0 x1) kK_) ?_
  obtain ⟨E_a, F_a_value, F_a_coder, A_b⟩ := sa
  refine own_st (A := s₁.setTop (mkF mM 1 #[.val (.ref a)] [(.ref a)])) (fun tT_ kK_ => XS.aloadN X0.here hx rfl (hb hby d10_0) rfl rfl kK_) ?_
  obtain ⟨T46, X46, e46, st46⟩ := getF X0 hx hZ hown (host := "") (Or.inl (hw _ (List.mem_of_getElem? (i := 32) rfl))) Via.refl e0 F_a_value (g := (mkF mM 1 #[.val (.ref a)] [(.ref a)])) rfl rfl (hb hby d10_1)
  refine own_st (A := T46.setTop (mkF mM 4 #[.val (.ref a)] [(.ref b)])) (fun tT_ kK_ => st46 tT_ kK_) ?_
  obtain ⟨cl47, Ar47, q47, S47, Nn47, H47, G47⟩ := id A_b
  refine own_st (A := T46.setTop (mkF mM 5 #[.val (.ref a)] [(.int (2 : Int32))])) (fun tT_ kK_ => X46.arraylength hx (by rw [e46]; exact Ar47.1) (State.isArrayOf_alike hZ.alike Ar47.2.1) (g := (mkF mM 4 #[.val (.ref a)] [(.ref b)])) rfl rfl (hb hby d10_4) tT_ (by rw [len_of S47 Nn47]; exact kK_)) ?_
  refine own_st (A := T46.setTop (mkF mM 12 #[.val (.ref a)] [])) (fun tT_ kK_ => XS.ifYes X46.here hx rfl (pc0 := 5) (pc' := 12) rfl (hb hby d10_5) rfl ((if0 _ _).trans (feq (by decide : ¬ ((2 : Int32) = (0 : Int32)))).2) (by decide) (by decide) kK_) ?_
  refine own_st (A := T46.setTop (mkF mM 13 #[.val (.ref a)] [(.int (0 : Int32))])) (fun tT_ kK_ => XS.iconst X46.here hx rfl (hb hby d10_12) kK_) ?_
  exact own_retN X46 hx hlk (t := .boolean) hret (by simp) (hb hby d10_13) ⟨rfl, N0, e46⟩ (by decide) (by decide)
def QR (Z : State) (a s' : Addr) (h0 : Heap) (n0 : Nat) (v : Option Value) (h : Heap) (L : List Loc) : Prop := v = none ∧ Fr n0 L ∧ Keep h0 h [a] ∧ Exa Z h a "com/example/upfront_duty/upfrontduty/algebra/Role" ∧ Fld Z h a "com/example/upfront_duty/upfrontduty/algebra/Role" "name" "Ljava/lang/String;" (.ref s')
theorem d8_0 : decode prog_20_method_1_code 0 = .ok (.aload_n 0, 1) := by decide +kernel
theorem d8_1 : decode prog_20_method_1_code 1 = .ok (.invokespecial 1, 3) := by decide +kernel
theorem d8_4 : decode prog_20_method_1_code 4 = .ok (.aload_n 1, 1) := by decide +kernel
theorem d8_5 : decode prog_20_method_1_code 5 = .ok (.ldc 7, 2) := by decide +kernel
theorem d8_7 : decode prog_20_method_1_code 7 = .ok (.invokestatic 9, 3) := by decide +kernel
theorem pd__28Ljava_2flang_2fObject_3bLjava_2flang_2fString_3b_29Ljava_2flang_2fObject_3b : parseMethodDescriptor "(Ljava/lang/Object;Ljava/lang/String;)Ljava/lang/Object;" = some ⟨[(.object "java/lang/Object"), (.object "java/lang/String")], some (.object "java/lang/Object")⟩ := by decide +kernel
theorem d8_10 : decode prog_20_method_1_code 10 = .ok (.pop, 1) := by decide +kernel
theorem d8_11 : decode prog_20_method_1_code 11 = .ok (.aload_n 1, 1) := by decide +kernel
theorem d8_12 : decode prog_20_method_1_code 12 = .ok (.invokevirtual 15, 3) := by decide +kernel
theorem pd__28_29Z : parseMethodDescriptor "()Z" = some ⟨[], some .boolean⟩ := by decide +kernel
theorem d8_15 : decode prog_20_method_1_code 15 = .ok (.ifCond .eq 13, 3) := by decide +kernel
theorem d8_28 : decode prog_20_method_1_code 28 = .ok (.aload_n 0, 1) := by decide +kernel
theorem d8_29 : decode prog_20_method_1_code 29 = .ok (.aload_n 1, 1) := by decide +kernel
theorem d8_30 : decode prog_20_method_1_code 30 = .ok (.putfield 28, 3) := by decide +kernel
theorem d8_33 : decode prog_20_method_1_code 33 = .ok (.return_, 1) := by decide +kernel
theorem pn_com_2fexample_2fupfront_duty_2fupfrontduty_2falgebra_2fRole : plainName "com/example/upfront_duty/upfrontduty/algebra/Role" = true := by first | (simp [plainName, overriddenIn]; done) | decide +kernel
theorem ef_rmRI1 (mM : MethodId) (a : Addr) (s' : Addr) (b : Addr) (kb : ClassId) (x0 : Int32) : entryFrame mM #[(.ref a), (.ref s')] 2 = mkF mM 0 #[.val (.ref a), .val (.ref s')] [] := by first | (simp [entryFrame, mkF, argsToLocals, Value.category]; done) | rfl
set_option maxRecDepth 65536 in
set_option maxHeartbeats 40000000 in
theorem rmRI1 (lL : Launch) (Z : State) (a0 : Array Value) (hw : ∀ d ∈ tables_1, d.before a0 Z = true) (ws : List Jvm.Cond) (a : Addr) (s' : Addr) (b : Addr) (kb : ClassId) (x0 : Int32) (h0 : Heap) (n0 : Nat) (g_a : n0 ≤ a) (E_a : Exa Z h0 a "com/example/upfront_duty/upfrontduty/algebra/Role") (F_a_name : Fld Z h0 a "com/example/upfront_duty/upfrontduty/algebra/Role" "name" "Ljava/lang/String;" .null) (sa : Str Z h0 s' b kb 1 [(.int (((x0).toInt8.toInt32)).toInt8.toInt32)]) (nsa : s' ≠ a) (nba : b ≠ a) :
    MetFree lL (⟨"com/example/upfront_duty/upfrontduty/algebra/Role", "<init>", "(Ljava/lang/String;)V"⟩ : MethodName) (head1 (Jvm.Cond.code (⟨"com/example/upfront_duty/upfrontduty/algebra/Role", "<init>", "(Ljava/lang/String;)V"⟩ : MethodName) prog_20_method_1_code 2 none :: ws) ({ frames := 1, cells := 2, slots := 20, locals := 13 } : Room)) (fun as_ uU_ => as_ = #[(.ref a), (.ref s')] ∧ Z.Warmed39 uU_.vm ∧ uU_.heap = h0) (fun _ _ _ _ _ => True) (fun _ uU_ oO_ uE_ => ∃ vV_ lL_, oO_ = .returned vV_ ∧ QR Z a s' h0 n0 vV_ uE_.heap lL_ ∧ ReturnedEndW uU_ oO_ uE_ lL_ ({ frames := 1, cells := 2, slots := 20, locals := 13 } : Room).cells ({ frames := 1, cells := 2, slots := 20, locals := 13 } : Room).slots) := by
  refine MetFree.of_bodySF (plainFor_of_name pn_com_2fexample_2fupfront_duty_2fupfrontduty_2falgebra_2fRole) hisR ?_
  intro pP eE sS mM args below meth cC s₁ Bd hml0 hP hK
  obtain ⟨rfl, hZ, hh⟩ := hP
  have hx := Bd.exec
  have hby := Bd.bytes
  have hml : cC.maxLocals = 2 := hml0
  have hown : sS.vm.findClass "com/example/upfront_duty/upfrontduty/algebra/Role" = some mM.cls := findClass_of_methodNamed Bd.named
  have hnm := (name_of_methodNamed Bd.named Bd.method).1
  have hret := Bd.returns
  have hlk := BodyLoose.notSynchronized Bd
  have X0 : Stand pP lL eE ({ frames := 1, cells := 2, slots := 20, locals := 13 } : Room) sS mM #[(.ref a), (.ref s')] below meth cC s₁ [] 0 0 := Stand.of_body Bd
  have e0 : s₁.heap = h0 := by rw [← hh, Bd.state]; rfl
  have N0 := Fr.nil n0
  have X0 : Stand pP lL eE ({ frames := 1, cells := 2, slots := 20, locals := 13 } : Room) (sS.setVm sS.vm) mM #[(.ref a), (.ref s')] below meth cC s₁ [] 0 0 := X0
  have hZ : Z.Warmed39 (sS.setVm sS.vm).vm := hZ
  have hown : (sS.setVm sS.vm).vm.findClass "com/example/upfront_duty/upfrontduty/algebra/Role" = some mM.cls := hown
  have hS : sS.Since sS.vm 0 := (State.WarmedH.refl sS).since 0
  have hk : 0 ≤ h0.size := Nat.zero_le _
  show own_GoW pP eE below sS (QR Z a s' h0 n0) 2 20 (s₁.setTop (entryFrame mM #[(.ref a), (.ref s')] 2))
  refine own_stW (A := s₁.setTop (mkF mM 0 #[.val (.ref a), .val (.ref s')] [])) (fun tT_ kK_ => castTop (ef_rmRI1 mM a s' b kb x0) kK_) ?_
  have Kp := Keep.refl h0 [a]
  refine own_stW (A := s₁.setTop (mkF mM 1 #[.val (.ref a), .val (.ref s')] [(.ref a)])) (fun tT_ kK_ => XS.aloadN X0.here hx rfl (hb hby d8_0) rfl rfl kK_) ?_
  obtain ⟨T48, X48, e48, st48⟩ := initO X0 hx hZ hown (hw _ (List.mem_of_getElem? (i := 40) rfl)) (hw _ (List.mem_of_getElem? (i := 16) rfl)) (hw _ (List.mem_of_getElem? (i := 17) rfl)) e0 (g := (mkF mM 1 #[.val (.ref a), .val (.ref s')] [(.ref a)])) rfl (by rw [hml]; rfl) rfl (hb hby d8_1) (by decide) (W := 0) (by show 2 * 0 + _ ≤ _; exact Nat.le_of_eq rfl) (by decide)
  refine own_stW (A := T48.setTop (mkF mM 4 #[.val (.ref a), .val (.ref s')] [])) (fun tT_ kK_ => st48 tT_ kK_) ?_
  refine own_stW (A := T48.setTop (mkF mM 5 #[.val (.ref a), .val (.ref s')] [(.ref s')])) (fun tT_ kK_ => XS.aloadN X48.here hx rfl (hb hby d8_4) rfl rfl kK_) ?_
  obtain ⟨b49, T49, h49, k49, X49, e49, E49, hS, hk49, hZ49, hown49, st49⟩ := ldcS X48 hx hZ hown (hw _ (List.mem_of_getElem? (i := 41) rfl)) (own_wS hw) e48 hS hk (g := (mkF mM 5 #[.val (.ref a), .val (.ref s')] [(.ref s')])) rfl (hb hby d8_5) (n := 16) (by decide) (by decide) (by decide) (by decide)
  have F_a_name := F_a_name.ext E49
  have E_a := E_a.ext E49
  have sa := own_Str_ext sa E49
  have hk := Nat.le_trans hk E49.1
  have Kp := Kp.ext E49
  have hk := hk49
  have hZ := hZ49
  have hown := hown49
  refine own_stW (A := T49.setTop (mkF mM 7 #[.val (.ref a), .val (.ref s')] [(.ref b49), (.ref s')])) (fun tT_ kK_ => st49 tT_ kK_) ?_
  obtain ⟨_, _, ⟨T50, L50, k50, n50⟩, -, X50, ⟨Lc50, hQ50, l50, y50, z50⟩, st50⟩ := Jvm.LawKit.callS X49 hx (y := (⟨"java/util/Objects", "requireNonNull", "(Ljava/lang/Object;Ljava/lang/String;)Ljava/lang/Object;"⟩ : MethodName)) hown (mvT hZ (hw _ (List.mem_of_getElem? (i := 44) rfl))) (mvT hZ (hw _ (List.mem_of_getElem? (i := 45) rfl))) (mvT hZ (hw _ (List.mem_of_getElem? (i := 46) rfl))) (mvT hZ (hw _ (List.mem_of_getElem? (i := 47) rfl))) (by decide) (backOf (W := 0) (rmRN lL Z a0 hw [] s' b49 h49 n0 ) hZ (hw _ (List.mem_of_getElem? (i := 47) rfl)) (hw _ (List.mem_of_getElem? (i := 46) rfl)) (by decide) (by decide)) (g := (mkF mM 7 #[.val (.ref a), .val (.ref s')] [(.ref b49), (.ref s')])) rfl (by rw [hml]; rfl) (argsL := [(.ref s'), (.ref b49)]) (rest := []) (lenOf pd__28Ljava_2flang_2fObject_3bLjava_2flang_2fString_3b_29Ljava_2flang_2fObject_3b rfl) rfl (by show 2 * 0 + _ ≤ _; exact Nat.le_of_eq rfl) (hb hby d8_7) (fun _ _ => ⟨rfl, e49, (by decide : 2 + 0 ≤ _), (by decide : 20 + 0 ≤ _)⟩)
  dsimp only [Pt.U, Pt.locs, Pt.cells, Pt.slots] at X50 l50 y50 z50 st50 hQ50
  subst l50 y50 z50
  obtain ⟨rfl, N50q, e50⟩ := hQ50
  have N50 := Fr.app N0 N50q
  refine own_stW (A := T50.setTop (mkF mM 10 #[.val (.ref a), .val (.ref s')] [(.ref s')])) (fun tT_ kK_ => st50 tT_ kK_) ?_
  refine own_stW (A := T50.setTop (mkF mM 11 #[.val (.ref a), .val (.ref s')] [])) (fun tT_ kK_ => XS.pop X50.here hx rfl (hb hby d8_10) rfl rfl kK_) ?_
  refine own_stW (A := T50.setTop (mkF mM 12 #[.val (.ref a), .val (.ref s')] [(.ref s')])) (fun tT_ kK_ => XS.aloadN X50.here hx rfl (hb hby d8_11) rfl rfl kK_) ?_
  obtain ⟨cq51, kq51, q51a, q51b, q51c⟩ := isOf hZ e50 sa.1
  obtain ⟨_, _, ⟨T51, L51, k51, n51⟩, -, X51, ⟨Lc51, hQ51, l51, y51, z51⟩, st51⟩ := X50.virtualBack hx (y := (⟨"java/lang/String", "isEmpty", "()Z"⟩ : MethodName)) (z := (⟨"java/lang/String", "isEmpty", "()Z"⟩ : MethodName)) hown (mvT hZ (hw _ (List.mem_of_getElem? (i := 48) rfl))) (mvT hZ (hw _ (List.mem_of_getElem? (i := 49) rfl))) (notFace_of_selects (args := #[]) (mvT hZ (hw _ (List.mem_of_getElem? (i := 51) rfl)))) (mvT hZ (hw _ (List.mem_of_getElem? (i := 51) rfl))) (mvT hZ (hw _ (List.mem_of_getElem? (i := 50) rfl))) (by decide) (backOf (W := 0) (rmE1 lL Z a0 hw [] s' b kb x0 h49 n0 sa) hZ (hw _ (List.mem_of_getElem? (i := 52) rfl)) (hw _ (List.mem_of_getElem? (i := 6) rfl)) (by decide) (by decide)) q51a q51c (g := (mkF mM 12 #[.val (.ref a), .val (.ref s')] [(.ref s')])) rfl (by rw [hml]; rfl) (Steps.refl _) (argsL := []) (rest := []) (lenOf pd__28_29Z rfl) rfl (by show 2 * 0 + _ ≤ _; exact Nat.le_of_eq rfl) (hb hby d8_12) (fun _ _ => ⟨rfl, e50, (by decide : 2 + 0 ≤ _), (by decide : 20 + 0 ≤ _)⟩)
  dsimp only [Pt.U, Pt.locs, Pt.cells, Pt.slots] at X51 l51 y51 z51 st51 hQ51
  subst l51 y51 z51
  obtain ⟨rfl, N51q, e51⟩ := hQ51
  have N51 := Fr.app N50 N51q
  refine own_stW (A := T51.setTop (mkF mM 15 #[.val (.ref a), .val (.ref s')] [(.int (0 : Int32))])) (fun tT_ kK_ => st51.trans kK_) ?_
  refine own_stW (A := T51.setTop (mkF mM 28 #[.val (.ref a), .val (.ref s')] [])) (fun tT_ kK_ => XS.ifYes X51.here hx rfl (pc0 := 15) (pc' := 28) rfl (hb hby d8_15) rfl ((if0 _ _).trans (teq (by decide : ((0 : Int32) = (0 : Int32)))).1) (by decide) (by decide) kK_) ?_
  refine own_stW (A := T51.setTop (mkF mM 29 #[.val (.ref a), .val (.ref s')] [(.ref a)])) (fun tT_ kK_ => XS.aloadN X51.here hx rfl (hb hby d8_28) rfl rfl kK_) ?_
  refine own_stW (A := T51.setTop (mkF mM 30 #[.val (.ref a), .val (.ref s')] [(.ref s'), (.ref a)])) (fun tT_ kK_ => XS.aloadN X51.here hx rfl (hb hby d8_29) rfl rfl kK_) ?_
  obtain ⟨T52, h52, X52, e52, W52, st52⟩ := putF X51 hx hZ hown (host := "") (Or.inl (hw _ (List.mem_of_getElem? (i := 53) rfl))) Via.refl e51 F_a_name E_a (Or.inr ⟨(hw _ (List.mem_of_getElem? (i := 54) rfl)), rfl, hnm⟩) (hw _ (List.mem_of_getElem? (i := 35) rfl)) (ty := (.object "java/lang/String")) (by decide) rfl rfl (g := (mkF mM 30 #[.val (.ref a), .val (.ref s')] [(.ref s'), (.ref a)])) rfl rfl (hb hby d8_30)
  have N52 := Fr.snoc X52 N51 g_a
  have sa := own_Str_keep sa (Keep.of_wr W52) (ninS nsa nin0) (ninS nba nin0)
  have F_a_name := F_a_name.same W52
  have E_a := E_a.wr W52
  have hk := Nat.le_trans hk (Keep.of_wr W52).1
  have Kp := Kp.wr W52 (Or.inl (List.mem_of_getElem? (i := 0) rfl))
  refine own_stW (A := T52.setTop (mkF mM 33 #[.val (.ref a), .val (.ref s')] [])) (fun tT_ kK_ => st52 tT_ kK_) ?_
  exact own_retWV X52 hx hlk hS (by rw [e52]; exact hk) hret (hb hby d8_33) (by rw [e52]; exact ⟨rfl, N52, Kp, E_a, F_a_name⟩) (by decide) (by decide)
theorem ef_rmRI2 (mM : MethodId) (a : Addr) (s' : Addr) (b : Addr) (kb : ClassId) (x0 : Int32) (x1 : Int32) : entryFrame mM #[(.ref a), (.ref s')] 2 = mkF mM 0 #[.val (.ref a), .val (.ref s')] [] := by first | (simp [entryFrame, mkF, argsToLocals, Value.category]; done) | rfl
set_option maxRecDepth 65536 in
set_option maxHeartbeats 40000000 in
theorem rmRI2 (lL : Launch) (Z : State) (a0 : Array Value) (hw : ∀ d ∈ tables_1, d.before a0 Z = true) (ws : List Jvm.Cond) (a : Addr) (s' : Addr) (b : Addr) (kb : ClassId) (x0 : Int32) (x1 : Int32) (h0 : Heap) (n0 : Nat) (g_a : n0 ≤ a) (E_a : Exa Z h0 a "com/example/upfront_duty/upfrontduty/algebra/Role") (F_a_name : Fld Z h0 a "com/example/upfront_duty/upfrontduty/algebra/Role" "name" "Ljava/lang/String;" .null) (sa : Str Z h0 s' b kb 2 [(.int (((x0).toInt8.toInt32)).toInt8.toInt32), (.int (((x1).toInt8.toInt32)).toInt8.toInt32)]) (nsa : s' ≠ a) (nba : b ≠ a) :
    MetFree lL (⟨"com/example/upfront_duty/upfrontduty/algebra/Role", "<init>", "(Ljava/lang/String;)V"⟩ : MethodName) (head1 (Jvm.Cond.code (⟨"com/example/upfront_duty/upfrontduty/algebra/Role", "<init>", "(Ljava/lang/String;)V"⟩ : MethodName) prog_20_method_1_code 2 none :: ws) ({ frames := 1, cells := 2, slots := 20, locals := 13 } : Room)) (fun as_ uU_ => as_ = #[(.ref a), (.ref s')] ∧ Z.Warmed39 uU_.vm ∧ uU_.heap = h0) (fun _ _ _ _ _ => True) (fun _ uU_ oO_ uE_ => ∃ vV_ lL_, oO_ = .returned vV_ ∧ QR Z a s' h0 n0 vV_ uE_.heap lL_ ∧ ReturnedEndW uU_ oO_ uE_ lL_ ({ frames := 1, cells := 2, slots := 20, locals := 13 } : Room).cells ({ frames := 1, cells := 2, slots := 20, locals := 13 } : Room).slots) := by
  refine MetFree.of_bodySF (plainFor_of_name pn_com_2fexample_2fupfront_duty_2fupfrontduty_2falgebra_2fRole) hisR ?_
  intro pP eE sS mM args below meth cC s₁ Bd hml0 hP hK
  obtain ⟨rfl, hZ, hh⟩ := hP
  have hx := Bd.exec
  have hby := Bd.bytes
  have hml : cC.maxLocals = 2 := hml0
  have hown : sS.vm.findClass "com/example/upfront_duty/upfrontduty/algebra/Role" = some mM.cls := findClass_of_methodNamed Bd.named
  have hnm := (name_of_methodNamed Bd.named Bd.method).1
  have hret := Bd.returns
  have hlk := BodyLoose.notSynchronized Bd
  have X0 : Stand pP lL eE ({ frames := 1, cells := 2, slots := 20, locals := 13 } : Room) sS mM #[(.ref a), (.ref s')] below meth cC s₁ [] 0 0 := Stand.of_body Bd
  have e0 : s₁.heap = h0 := by rw [← hh, Bd.state]; rfl
  have N0 := Fr.nil n0
  have X0 : Stand pP lL eE ({ frames := 1, cells := 2, slots := 20, locals := 13 } : Room) (sS.setVm sS.vm) mM #[(.ref a), (.ref s')] below meth cC s₁ [] 0 0 := X0
  have hZ : Z.Warmed39 (sS.setVm sS.vm).vm := hZ
  have hown : (sS.setVm sS.vm).vm.findClass "com/example/upfront_duty/upfrontduty/algebra/Role" = some mM.cls := hown
  have hS : sS.Since sS.vm 0 := (State.WarmedH.refl sS).since 0
  have hk : 0 ≤ h0.size := Nat.zero_le _
  show own_GoW pP eE below sS (QR Z a s' h0 n0) 2 20 (s₁.setTop (entryFrame mM #[(.ref a), (.ref s')] 2))
  refine own_stW (A := s₁.setTop (mkF mM 0 #[.val (.ref a), .val (.ref s')] [])) (fun tT_ kK_ => castTop (ef_rmRI2 mM a s' b kb x0 x1) kK_) ?_
  have Kp := Keep.refl h0 [a]
  refine own_stW (A := s₁.setTop (mkF mM 1 #[.val (.ref a), .val (.ref s')] [(.ref a)])) (fun tT_ kK_ => XS.aloadN X0.here hx rfl (hb hby d8_0) rfl rfl kK_) ?_
  obtain ⟨T53, X53, e53, st53⟩ := initO X0 hx hZ hown (hw _ (List.mem_of_getElem? (i := 40) rfl)) (hw _ (List.mem_of_getElem? (i := 16) rfl)) (hw _ (List.mem_of_getElem? (i := 17) rfl)) e0 (g := (mkF mM 1 #[.val (.ref a), .val (.ref s')] [(.ref a)])) rfl (by rw [hml]; rfl) rfl (hb hby d8_1) (by decide) (W := 0) (by show 2 * 0 + _ ≤ _; exact Nat.le_of_eq rfl) (by decide)
  refine own_stW (A := T53.setTop (mkF mM 4 #[.val (.ref a), .val (.ref s')] [])) (fun tT_ kK_ => st53 tT_ kK_) ?_
  refine own_stW (A := T53.setTop (mkF mM 5 #[.val (.ref a), .val (.ref s')] [(.ref s')])) (fun tT_ kK_ => XS.aloadN X53.here hx rfl (hb hby d8_4) rfl rfl kK_) ?_
  obtain ⟨b54, T54, h54, k54, X54, e54, E54, hS, hk54, hZ54, hown54, st54⟩ := ldcS X53 hx hZ hown (hw _ (List.mem_of_getElem? (i := 41) rfl)) (own_wS hw) e53 hS hk (g := (mkF mM 5 #[.val (.ref a), .val (.ref s')] [(.ref s')])) rfl (hb hby d8_5) (n := 16) (by decide) (by decide) (by decide) (by decide)
  have F_a_name := F_a_name.ext E54
  have E_a := E_a.ext E54
  have sa := own_Str_ext sa E54
  have hk := Nat.le_trans hk E54.1
  have Kp := Kp.ext E54
  have hk := hk54
  have hZ := hZ54
  have hown := hown54
  refine own_stW (A := T54.setTop (mkF mM 7 #[.val (.ref a), .val (.ref s')] [(.ref b54), (.ref s')])) (fun tT_ kK_ => st54 tT_ kK_) ?_
  obtain ⟨_, _, ⟨T55, L55, k55, n55⟩, -, X55, ⟨Lc55, hQ55, l55, y55, z55⟩, st55⟩ := Jvm.LawKit.callS X54 hx (y := (⟨"java/util/Objects", "requireNonNull", "(Ljava/lang/Object;Ljava/lang/String;)Ljava/lang/Object;"⟩ : MethodName)) hown (mvT hZ (hw _ (List.mem_of_getElem? (i := 44) rfl))) (mvT hZ (hw _ (List.mem_of_getElem? (i := 45) rfl))) (mvT hZ (hw _ (List.mem_of_getElem? (i := 46) rfl))) (mvT hZ (hw _ (List.mem_of_getElem? (i := 47) rfl))) (by decide) (backOf (W := 0) (rmRN lL Z a0 hw [] s' b54 h54 n0 ) hZ (hw _ (List.mem_of_getElem? (i := 47) rfl)) (hw _ (List.mem_of_getElem? (i := 46) rfl)) (by decide) (by decide)) (g := (mkF mM 7 #[.val (.ref a), .val (.ref s')] [(.ref b54), (.ref s')])) rfl (by rw [hml]; rfl) (argsL := [(.ref s'), (.ref b54)]) (rest := []) (lenOf pd__28Ljava_2flang_2fObject_3bLjava_2flang_2fString_3b_29Ljava_2flang_2fObject_3b rfl) rfl (by show 2 * 0 + _ ≤ _; exact Nat.le_of_eq rfl) (hb hby d8_7) (fun _ _ => ⟨rfl, e54, (by decide : 2 + 0 ≤ _), (by decide : 20 + 0 ≤ _)⟩)
  dsimp only [Pt.U, Pt.locs, Pt.cells, Pt.slots] at X55 l55 y55 z55 st55 hQ55
  subst l55 y55 z55
  obtain ⟨rfl, N55q, e55⟩ := hQ55
  have N55 := Fr.app N0 N55q
  refine own_stW (A := T55.setTop (mkF mM 10 #[.val (.ref a), .val (.ref s')] [(.ref s')])) (fun tT_ kK_ => st55 tT_ kK_) ?_
  refine own_stW (A := T55.setTop (mkF mM 11 #[.val (.ref a), .val (.ref s')] [])) (fun tT_ kK_ => XS.pop X55.here hx rfl (hb hby d8_10) rfl rfl kK_) ?_
  refine own_stW (A := T55.setTop (mkF mM 12 #[.val (.ref a), .val (.ref s')] [(.ref s')])) (fun tT_ kK_ => XS.aloadN X55.here hx rfl (hb hby d8_11) rfl rfl kK_) ?_
  obtain ⟨cq56, kq56, q56a, q56b, q56c⟩ := isOf hZ e55 sa.1
  obtain ⟨_, _, ⟨T56, L56, k56, n56⟩, -, X56, ⟨Lc56, hQ56, l56, y56, z56⟩, st56⟩ := X55.virtualBack hx (y := (⟨"java/lang/String", "isEmpty", "()Z"⟩ : MethodName)) (z := (⟨"java/lang/String", "isEmpty", "()Z"⟩ : MethodName)) hown (mvT hZ (hw _ (List.mem_of_getElem? (i := 48) rfl))) (mvT hZ (hw _ (List.mem_of_getElem? (i := 49) rfl))) (notFace_of_selects (args := #[]) (mvT hZ (hw _ (List.mem_of_getElem? (i := 51) rfl)))) (mvT hZ (hw _ (List.mem_of_getElem? (i := 51) rfl))) (mvT hZ (hw _ (List.mem_of_getElem? (i := 50) rfl))) (by decide) (backOf (W := 0) (rmE2 lL Z a0 hw [] s' b kb x0 x1 h54 n0 sa) hZ (hw _ (List.mem_of_getElem? (i := 52) rfl)) (hw _ (List.mem_of_getElem? (i := 6) rfl)) (by decide) (by decide)) q56a q56c (g := (mkF mM 12 #[.val (.ref a), .val (.ref s')] [(.ref s')])) rfl (by rw [hml]; rfl) (Steps.refl _) (argsL := []) (rest := []) (lenOf pd__28_29Z rfl) rfl (by show 2 * 0 + _ ≤ _; exact Nat.le_of_eq rfl) (hb hby d8_12) (fun _ _ => ⟨rfl, e55, (by decide : 2 + 0 ≤ _), (by decide : 20 + 0 ≤ _)⟩)
  dsimp only [Pt.U, Pt.locs, Pt.cells, Pt.slots] at X56 l56 y56 z56 st56 hQ56
  subst l56 y56 z56
  obtain ⟨rfl, N56q, e56⟩ := hQ56
  have N56 := Fr.app N55 N56q
  refine own_stW (A := T56.setTop (mkF mM 15 #[.val (.ref a), .val (.ref s')] [(.int (0 : Int32))])) (fun tT_ kK_ => st56.trans kK_) ?_
  refine own_stW (A := T56.setTop (mkF mM 28 #[.val (.ref a), .val (.ref s')] [])) (fun tT_ kK_ => XS.ifYes X56.here hx rfl (pc0 := 15) (pc' := 28) rfl (hb hby d8_15) rfl ((if0 _ _).trans (teq (by decide : ((0 : Int32) = (0 : Int32)))).1) (by decide) (by decide) kK_) ?_
  refine own_stW (A := T56.setTop (mkF mM 29 #[.val (.ref a), .val (.ref s')] [(.ref a)])) (fun tT_ kK_ => XS.aloadN X56.here hx rfl (hb hby d8_28) rfl rfl kK_) ?_
  refine own_stW (A := T56.setTop (mkF mM 30 #[.val (.ref a), .val (.ref s')] [(.ref s'), (.ref a)])) (fun tT_ kK_ => XS.aloadN X56.here hx rfl (hb hby d8_29) rfl rfl kK_) ?_
  obtain ⟨T57, h57, X57, e57, W57, st57⟩ := putF X56 hx hZ hown (host := "") (Or.inl (hw _ (List.mem_of_getElem? (i := 53) rfl))) Via.refl e56 F_a_name E_a (Or.inr ⟨(hw _ (List.mem_of_getElem? (i := 54) rfl)), rfl, hnm⟩) (hw _ (List.mem_of_getElem? (i := 35) rfl)) (ty := (.object "java/lang/String")) (by decide) rfl rfl (g := (mkF mM 30 #[.val (.ref a), .val (.ref s')] [(.ref s'), (.ref a)])) rfl rfl (hb hby d8_30)
  have N57 := Fr.snoc X57 N56 g_a
  have sa := own_Str_keep sa (Keep.of_wr W57) (ninS nsa nin0) (ninS nba nin0)
  have F_a_name := F_a_name.same W57
  have E_a := E_a.wr W57
  have hk := Nat.le_trans hk (Keep.of_wr W57).1
  have Kp := Kp.wr W57 (Or.inl (List.mem_of_getElem? (i := 0) rfl))
  refine own_stW (A := T57.setTop (mkF mM 33 #[.val (.ref a), .val (.ref s')] [])) (fun tT_ kK_ => st57 tT_ kK_) ?_
  exact own_retWV X57 hx hlk hS (by rw [e57]; exact hk) hret (hb hby d8_33) (by rw [e57]; exact ⟨rfl, N57, Kp, E_a, F_a_name⟩) (by decide) (by decide)
theorem d13_0 : decode jdk_43_method_13_code 0 = .ok (.aload_n 0, 1) := by decide +kernel
theorem d13_1 : decode jdk_43_method_13_code 1 = .ok (.arraylength, 1) := by decide +kernel
theorem d13_2 : decode jdk_43_method_13_code 2 = .ok (.aload_n 1, 1) := by decide +kernel
theorem d13_3 : decode jdk_43_method_13_code 3 = .ok (.arraylength, 1) := by decide +kernel
theorem d13_4 : decode jdk_43_method_13_code 4 = .ok (.if_icmp .ne 30, 3) := by decide +kernel
theorem d13_7 : decode jdk_43_method_13_code 7 = .ok (.iconst 0, 1) := by decide +kernel
theorem d13_8 : decode jdk_43_method_13_code 8 = .ok (.istore_n 2, 1) := by decide +kernel
theorem d13_9 : decode jdk_43_method_13_code 9 = .ok (.iload_n 2, 1) := by decide +kernel
theorem d13_10 : decode jdk_43_method_13_code 10 = .ok (.aload_n 0, 1) := by decide +kernel
theorem d13_11 : decode jdk_43_method_13_code 11 = .ok (.arraylength, 1) := by decide +kernel
theorem d13_12 : decode jdk_43_method_13_code 12 = .ok (.if_icmp .ge 20, 3) := by decide +kernel
theorem d13_15 : decode jdk_43_method_13_code 15 = .ok (.aload_n 0, 1) := by decide +kernel
theorem d13_16 : decode jdk_43_method_13_code 16 = .ok (.iload_n 2, 1) := by decide +kernel
theorem d13_17 : decode jdk_43_method_13_code 17 = .ok (.baload, 1) := by decide +kernel
theorem d13_18 : decode jdk_43_method_13_code 18 = .ok (.aload_n 1, 1) := by decide +kernel
theorem d13_19 : decode jdk_43_method_13_code 19 = .ok (.iload_n 2, 1) := by decide +kernel
theorem d13_20 : decode jdk_43_method_13_code 20 = .ok (.baload, 1) := by decide +kernel
theorem d13_21 : decode jdk_43_method_13_code 21 = .ok (.if_icmp .eq 5, 3) := by decide +kernel
theorem d13_26 : decode jdk_43_method_13_code 26 = .ok (.iinc 2 1, 3) := by decide +kernel
theorem d13_29 : decode jdk_43_method_13_code 29 = .ok (.goto (-20), 3) := by decide +kernel
theorem d13_32 : decode jdk_43_method_13_code 32 = .ok (.iconst 1, 1) := by decide +kernel
theorem d13_33 : decode jdk_43_method_13_code 33 = .ok (.ireturn, 1) := by decide +kernel
theorem d13_24 : decode jdk_43_method_13_code 24 = .ok (.iconst 0, 1) := by decide +kernel
theorem d13_25 : decode jdk_43_method_13_code 25 = .ok (.ireturn, 1) := by decide +kernel
theorem pn_java_2flang_2fStringLatin1 : plainName "java/lang/StringLatin1" = true := by first | (simp [plainName, overriddenIn]; done) | decide +kernel
theorem ef_rmLE11 (mM : MethodId) (a : Addr) (ka : ClassId) (b : Addr) (kb : ClassId) (x0 : Int32) (y0 : Int32) (r : Int32) : entryFrame mM #[(.ref a), (.ref b)] 3 = mkF mM 0 #[.val (.ref a), .val (.ref b), .unset] [] := by first | (simp [entryFrame, mkF, argsToLocals, Value.category]; done) | rfl
set_option maxRecDepth 65536 in
set_option maxHeartbeats 40000000 in
theorem rmLE11 (lL : Launch) (Z : State) (a0 : Array Value) (hw : ∀ d ∈ tables_1, d.before a0 Z = true) (ws : List Jvm.Cond) (a : Addr) (ka : ClassId) (b : Addr) (kb : ClassId) (x0 : Int32) (y0 : Int32) (r : Int32) (h0 : Heap) (n0 : Nat) (A_a : Arv Z h0 a ka .byte 1 [(.int (((x0).toInt8.toInt32)).toInt8.toInt32)] (.int 0)) (A_b : Arv Z h0 b kb .byte 1 [(.int (((y0).toInt8.toInt32)).toInt8.toInt32)] (.int 0)) (qe0 : ¬ (((x0).toInt8.toInt32)).toInt8.toInt32 = (((y0).toInt8.toInt32)).toInt8.toInt32 → r = 0) (qe9 : (((x0).toInt8.toInt32)).toInt8.toInt32 = (((y0).toInt8.toInt32)).toInt8.toInt32 → r = 1) :
    MetFree lL (⟨"java/lang/StringLatin1", "equals", "([B[B)Z"⟩ : MethodName) (head1 (Jvm.Cond.code (⟨"java/lang/StringLatin1", "equals", "([B[B)Z"⟩ : MethodName) jdk_43_method_13_code 3 (some .boolean) :: ws) ({ frames := 0, cells := 0, slots := 0, locals := 0 } : Room)) (fun as_ uU_ => as_ = #[(.ref a), (.ref b)] ∧ Z.Warmed39 uU_.vm ∧ uU_.heap = h0) (fun _ _ _ _ _ => True) (fun _ uU_ oO_ uE_ => ∃ vV_ lL_, oO_ = .returned vV_ ∧ Qw (.int r) h0 n0 vV_ uE_.heap lL_ ∧ FrameEnd uU_ oO_ uE_ lL_ ({ frames := 0, cells := 0, slots := 0, locals := 0 } : Room).cells ({ frames := 0, cells := 0, slots := 0, locals := 0 } : Room).slots) := by
  refine MetFree.of_bodySF (plainFor_of_name pn_java_2flang_2fStringLatin1) hisR ?_
  intro pP eE sS mM args below meth cC s₁ Bd hml0 hP hK
  obtain ⟨rfl, hZ, hh⟩ := hP
  have hx := Bd.exec
  have hby := Bd.bytes
  have hml : cC.maxLocals = 3 := hml0
  have hown : sS.vm.findClass "java/lang/StringLatin1" = some mM.cls := findClass_of_methodNamed Bd.named
  have hnm := (name_of_methodNamed Bd.named Bd.method).1
  have hret := Bd.returns
  have hlk := BodyLoose.notSynchronized Bd
  have X0 : Stand pP lL eE ({ frames := 0, cells := 0, slots := 0, locals := 0 } : Room) sS mM #[(.ref a), (.ref b)] below meth cC s₁ [] 0 0 := Stand.of_body Bd
  have e0 : s₁.heap = h0 := by rw [← hh, Bd.state]; rfl
  have N0 := Fr.nil n0
  show own_Go pP eE below sS (Qw (.int r) h0 n0) 0 0 (s₁.setTop (entryFrame mM #[(.ref a), (.ref b)] 3))
  refine own_st (A := s₁.setTop (mkF mM 0 #[.val (.ref a), .val (.ref b), .unset] [])) (fun tT_ kK_ => castTop (ef_rmLE11 mM a ka b kb x0 y0 r) kK_) ?_
  refine own_st (A := s₁.setTop (mkF mM 1 #[.val (.ref a), .val (.ref b), .unset] [(.ref a)])) (fun tT_ kK_ => XS.aloadN X0.here hx rfl (hb hby d13_0) rfl rfl kK_) ?_
  obtain ⟨cl58, Ar58, q58, S58, Nn58, H58, G58⟩ := id A_a
  refine own_st (A := s₁.setTop (mkF mM 2 #[.val (.ref a), .val (.ref b), .unset] [(.int (1 : Int32))])) (fun tT_ kK_ => X0.arraylength hx (by rw [e0]; exact Ar58.1) (State.isArrayOf_alike hZ.alike Ar58.2.1) (g := (mkF mM 1 #[.val (.ref a), .val (.ref b), .unset] [(.ref a)])) rfl rfl (hb hby d13_1) tT_ (by rw [len_of S58 Nn58]; exact kK_)) ?_
  refine own_st (A := s₁.setTop (mkF mM 3 #[.val (.ref a), .val (.ref b), .unset] [(.ref b), (.int (1 : Int32))])) (fun tT_ kK_ => XS.aloadN X0.here hx rfl (hb hby d13_2) rfl rfl kK_) ?_
  obtain ⟨cl59, Ar59, q59, S59, Nn59, H59, G59⟩ := id A_b
  refine own_st (A := s₁.setTop (mkF mM 4 #[.val (.ref a), .val (.ref b), .unset] [(.int (1 : Int32)), (.int (1 : Int32))])) (fun tT_ kK_ => X0.arraylength hx (by rw [e0]; exact Ar59.1) (State.isArrayOf_alike hZ.alike Ar59.2.1) (g := (mkF mM 3 #[.val (.ref a), .val (.ref b), .unset] [(.ref b), (.int (1 : Int32))])) rfl rfl (hb hby d13_3) tT_ (by rw [len_of S59 Nn59]; exact kK_)) ?_
  refine own_st (A := s₁.setTop (mkF mM 7 #[.val (.ref a), .val (.ref b), .unset] [])) (fun tT_ kK_ => XS.icmpNo X0.here hx rfl (hb hby d13_4) rfl (teq (by decide : ((1 : Int32) = (1 : Int32)))).2 kK_) ?_
  refine own_st (A := s₁.setTop (mkF mM 8 #[.val (.ref a), .val (.ref b), .unset] [(.int (0 : Int32))])) (fun tT_ kK_ => XS.iconst X0.here hx rfl (hb hby d13_7) kK_) ?_
  refine own_st (A := s₁.setTop (mkF mM 9 #[.val (.ref a), .val (.ref b), .val (.int (0 : Int32))] [])) (fun tT_ kK_ => XS.istoreN X0.here hx rfl (hb hby d13_8) rfl (l' := #[.val (.ref a), .val (.ref b), .val (.int (0 : Int32))]) rfl kK_) ?_
  refine own_st (A := s₁.setTop (mkF mM 10 #[.val (.ref a), .val (.ref b), .val (.int (0 : Int32))] [(.int (0 : Int32))])) (fun tT_ kK_ => XS.iloadN X0.here hx rfl (hb hby d13_9) rfl kK_) ?_
  refine own_st (A := s₁.setTop (mkF mM 11 #[.val (.ref a), .val (.ref b), .val (.int (0 : Int32))] [(.ref a), (.int (0 : Int32))])) (fun tT_ kK_ => XS.aloadN X0.here hx rfl (hb hby d13_10) rfl rfl kK_) ?_
  obtain ⟨cl60, Ar60, q60, S60, Nn60, H60, G60⟩ := id A_a
  refine own_st (A := s₁.setTop (mkF mM 12 #[.val (.ref a), .val (.ref b), .val (.int (0 : Int32))] [(.int (1 : Int32)), (.int (0 : Int32))])) (fun tT_ kK_ => X0.arraylength hx (by rw [e0]; exact Ar60.1) (State.isArrayOf_alike hZ.alike Ar60.2.1) (g := (mkF mM 11 #[.val (.ref a), .val (.ref b), .val (.int (0 : Int32))] [(.ref a), (.int (0 : Int32))])) rfl rfl (hb hby d13_11) tT_ (by rw [len_of S60 Nn60]; exact kK_)) ?_
  refine own_st (A := s₁.setTop (mkF mM 15 #[.val (.ref a), .val (.ref b), .val (.int (0 : Int32))] [])) (fun tT_ kK_ => XS.icmpNo X0.here hx rfl (hb hby d13_12) rfl (tlt (by decide : ((0 : Int32) < (1 : Int32)))).2.1 kK_) ?_
  refine own_st (A := s₁.setTop (mkF mM 16 #[.val (.ref a), .val (.ref b), .val (.int (0 : Int32))] [(.ref a)])) (fun tT_ kK_ => XS.aloadN X0.here hx rfl (hb hby d13_15) rfl rfl kK_) ?_
  refine own_st (A := s₁.setTop (mkF mM 17 #[.val (.ref a), .val (.ref b), .val (.int (0 : Int32))] [(.int (0 : Int32)), (.ref a)])) (fun tT_ kK_ => XS.iloadN X0.here hx rfl (hb hby d13_16) rfl kK_) ?_
  obtain ⟨cl61, Ar61, q61, S61, Nn61, H61, G61⟩ := id A_a
  have hin61 : ¬ ((0 : Int32) < 0 ∨ cl61.slots.size ≤ ((0 : Int32)).toNatClampNeg) := inb_of S61 ⟨by decide, by decide⟩
  refine own_st (A := s₁.setTop (mkF mM 18 #[.val (.ref a), .val (.ref b), .val (.int (0 : Int32))] [(.int (((x0).toInt8.toInt32)).toInt8.toInt32)])) (fun tT_ kK_ => X0.baloadBytes hx (j := (0 : Int32)) (v := (.int (((x0).toInt8.toInt32)).toInt8.toInt32)) (by rw [e0]; exact Ar61.1) (State.isArrayOf_alike hZ.alike Ar61.2.1) Ar61.2.2 hin61 (H61.at hin61 rfl) (g := (mkF mM 17 #[.val (.ref a), .val (.ref b), .val (.int (0 : Int32))] [(.int (0 : Int32)), (.ref a)])) rfl rfl (hb hby d13_17) tT_ kK_) ?_
  refine own_st (A := s₁.setTop (mkF mM 19 #[.val (.ref a), .val (.ref b), .val (.int (0 : Int32))] [(.ref b), (.int (((x0).toInt8.toInt32)).toInt8.toInt32)])) (fun tT_ kK_ => XS.aloadN X0.here hx rfl (hb hby d13_18) rfl rfl kK_) ?_
  refine own_st (A := s₁.setTop (mkF mM 20 #[.val (.ref a), .val (.ref b), .val (.int (0 : Int32))] [(.int (0 : Int32)), (.ref b), (.int (((x0).toInt8.toInt32)).toInt8.toInt32)])) (fun tT_ kK_ => XS.iloadN X0.here hx rfl (hb hby d13_19) rfl kK_) ?_
  obtain ⟨cl62, Ar62, q62, S62, Nn62, H62, G62⟩ := id A_b
  have hin62 : ¬ ((0 : Int32) < 0 ∨ cl62.slots.size ≤ ((0 : Int32)).toNatClampNeg) := inb_of S62 ⟨by decide, by decide⟩
  refine own_st (A := s₁.setTop (mkF mM 21 #[.val (.ref a), .val (.ref b), .val (.int (0 : Int32))] [(.int (((y0).toInt8.toInt32)).toInt8.toInt32), (.int (((x0).toInt8.toInt32)).toInt8.toInt32)])) (fun tT_ kK_ => X0.baloadBytes hx (j := (0 : Int32)) (v := (.int (((y0).toInt8.toInt32)).toInt8.toInt32)) (by rw [e0]; exact Ar62.1) (State.isArrayOf_alike hZ.alike Ar62.2.1) Ar62.2.2 hin62 (H62.at hin62 rfl) (g := (mkF mM 20 #[.val (.ref a), .val (.ref b), .val (.int (0 : Int32))] [(.int (0 : Int32)), (.ref b), (.int (((x0).toInt8.toInt32)).toInt8.toInt32)])) rfl rfl (hb hby d13_20) tT_ kK_) ?_
  by_cases hc21_63 : (((x0).toInt8.toInt32)).toInt8.toInt32 = (((y0).toInt8.toInt32)).toInt8.toInt32
  · skip
    refine own_st (A := s₁.setTop (mkF mM 26 #[.val (.ref a), .val (.ref b), .val (.int (0 : Int32))] [])) (fun tT_ kK_ => XS.icmpYes X0.here hx rfl (pc0 := 21) (pc' := 26) rfl (hb hby d13_21) rfl (teq hc21_63).1 (by decide) (by decide) kK_) ?_
    refine own_st (A := s₁.setTop (mkF mM 29 #[.val (.ref a), .val (.ref b), .val (.int (1 : Int32))] [])) (fun tT_ kK_ => XS.iinc X0.here hx rfl (hb hby d13_26) rfl (l' := #[.val (.ref a), .val (.ref b), .val (.int (1 : Int32))]) rfl kK_) ?_
    refine own_st (A := s₁.setTop (mkF mM 9 #[.val (.ref a), .val (.ref b), .val (.int (1 : Int32))] [])) (fun tT_ kK_ => XS.goto X0.here hx rfl (pc0 := 29) (pc' := 9) rfl (hb hby d13_29) (by decide) (by decide) kK_) ?_
    refine own_st (A := s₁.setTop (mkF mM 10 #[.val (.ref a), .val (.ref b), .val (.int (1 : Int32))] [(.int (1 : Int32))])) (fun tT_ kK_ => XS.iloadN X0.here hx rfl (hb hby d13_9) rfl kK_) ?_
    refine own_st (A := s₁.setTop (mkF mM 11 #[.val (.ref a), .val (.ref b), .val (.int (1 : Int32))] [(.ref a), (.int (1 : Int32))])) (fun tT_ kK_ => XS.aloadN X0.here hx rfl (hb hby d13_10) rfl rfl kK_) ?_
    obtain ⟨cl64, Ar64, q64, S64, Nn64, H64, G64⟩ := id A_a
    refine own_st (A := s₁.setTop (mkF mM 12 #[.val (.ref a), .val (.ref b), .val (.int (1 : Int32))] [(.int (1 : Int32)), (.int (1 : Int32))])) (fun tT_ kK_ => X0.arraylength hx (by rw [e0]; exact Ar64.1) (State.isArrayOf_alike hZ.alike Ar64.2.1) (g := (mkF mM 11 #[.val (.ref a), .val (.ref b), .val (.int (1 : Int32))] [(.ref a), (.int (1 : Int32))])) rfl rfl (hb hby d13_11) tT_ (by rw [len_of S64 Nn64]; exact kK_)) ?_
    refine own_st (A := s₁.setTop (mkF mM 32 #[.val (.ref a), .val (.ref b), .val (.int (1 : Int32))] [])) (fun tT_ kK_ => XS.icmpYes X0.here hx rfl (pc0 := 12) (pc' := 32) rfl (hb hby d13_12) rfl (flt (by decide : ¬ ((1 : Int32) < (1 : Int32)))).2.1 (by decide) (by decide) kK_) ?_
    refine own_st (A := s₁.setTop (mkF mM 33 #[.val (.ref a), .val (.ref b), .val (.int (1 : Int32))] [(.int (1 : Int32))])) (fun tT_ kK_ => XS.iconst X0.here hx rfl (hb hby d13_32) kK_) ?_
    exact own_retN X0 hx hlk (t := .boolean) hret (by simp) (hb hby d13_33) (by rw [qe9 hc21_63]; exact ⟨rfl, N0, e0⟩) (by decide) (by decide)
  · skip
    refine own_st (A := s₁.setTop (mkF mM 24 #[.val (.ref a), .val (.ref b), .val (.int (0 : Int32))] [])) (fun tT_ kK_ => XS.icmpNo X0.here hx rfl (hb hby d13_21) rfl (feq hc21_63).1 kK_) ?_
    refine own_st (A := s₁.setTop (mkF mM 25 #[.val (.ref a), .val (.ref b), .val (.int (0 : Int32))] [(.int (0 : Int32))])) (fun tT_ kK_ => XS.iconst X0.here hx rfl (hb hby d13_24) kK_) ?_
    exact own_retN X0 hx hlk (t := .boolean) hret (by simp) (hb hby d13_25) (by rw [qe0 hc21_63]; exact ⟨rfl, N0, e0⟩) (by decide) (by decide)
theorem d12_0 : decode jdk_42_method_66_code 0 = .ok (.aload_n 0, 1) := by decide +kernel
theorem d12_1 : decode jdk_42_method_66_code 1 = .ok (.aload_n 1, 1) := by decide +kernel
theorem d12_2 : decode jdk_42_method_66_code 2 = .ok (.if_acmp .ne 5, 3) := by decide +kernel
theorem d12_7 : decode jdk_42_method_66_code 7 = .ok (.aload_n 1, 1) := by decide +kernel
theorem d12_8 : decode jdk_42_method_66_code 8 = .ok (.instanceof 10, 3) := by decide +kernel
theorem d12_11 : decode jdk_42_method_66_code 11 = .ok (.ifCond .eq 43, 3) := by decide +kernel
theorem d12_14 : decode jdk_42_method_66_code 14 = .ok (.aload_n 1, 1) := by decide +kernel
theorem d12_15 : decode jdk_42_method_66_code 15 = .ok (.checkcast 10, 3) := by decide +kernel
theorem d12_18 : decode jdk_42_method_66_code 18 = .ok (.astore_n 2, 1) := by decide +kernel
theorem d12_19 : decode jdk_42_method_66_code 19 = .ok (.getstatic 38, 3) := by decide +kernel
theorem d12_22 : decode jdk_42_method_66_code 22 = .ok (.ifCond .eq 14, 3) := by decide +kernel
theorem d12_25 : decode jdk_42_method_66_code 25 = .ok (.aload_n 0, 1) := by decide +kernel
theorem d12_26 : decode jdk_42_method_66_code 26 = .ok (.getfield 15, 3) := by decide +kernel
theorem d12_29 : decode jdk_42_method_66_code 29 = .ok (.aload_n 2, 1) := by decide +kernel
theorem d12_30 : decode jdk_42_method_66_code 30 = .ok (.getfield 15, 3) := by decide +kernel
theorem d12_33 : decode jdk_42_method_66_code 33 = .ok (.if_icmp .ne 21, 3) := by decide +kernel
theorem d12_36 : decode jdk_42_method_66_code 36 = .ok (.aload_n 0, 1) := by decide +kernel
theorem d12_37 : decode jdk_42_method_66_code 37 = .ok (.getfield 9, 3) := by decide +kernel
theorem d12_40 : decode jdk_42_method_66_code 40 = .ok (.aload_n 2, 1) := by decide +kernel
theorem d12_41 : decode jdk_42_method_66_code 41 = .ok (.getfield 9, 3) := by decide +kernel
theorem d12_44 : decode jdk_42_method_66_code 44 = .ok (.invokestatic 541, 3) := by decide +kernel
theorem pd__28_5bB_5bB_29Z : parseMethodDescriptor "([B[B)Z" = some ⟨[(.array .byte), (.array .byte)], some .boolean⟩ := by decide +kernel
theorem d12_47 : decode jdk_42_method_66_code 47 = .ok (.ifCond .eq 7, 3) := by decide +kernel
theorem d12_54 : decode jdk_42_method_66_code 54 = .ok (.iconst 0, 1) := by decide +kernel
theorem d12_55 : decode jdk_42_method_66_code 55 = .ok (.ireturn, 1) := by decide +kernel
theorem d12_50 : decode jdk_42_method_66_code 50 = .ok (.iconst 1, 1) := by decide +kernel
theorem d12_51 : decode jdk_42_method_66_code 51 = .ok (.goto 4, 3) := by decide +kernel
theorem ef_rmSE11 (mM : MethodId) (a : Addr) (a' : Addr) (ka : ClassId) (b : Addr) (b' : Addr) (kb : ClassId) (cs : Int32) (x0 : Int32) (y0 : Int32) (r : Int32) : entryFrame mM #[(.ref a), (.ref b)] 3 = mkF mM 0 #[.val (.ref a), .val (.ref b), .unset] [] := by first | (simp [entryFrame, mkF, argsToLocals, Value.category]; done) | rfl
set_option maxRecDepth 65536 in
set_option maxHeartbeats 40000000 in
theorem rmSE11 (lL : Launch) (Z : State) (a0 : Array Value) (hw : ∀ d ∈ tables_1, d.before a0 Z = true) (ws : List Jvm.Cond) (a : Addr) (a' : Addr) (ka : ClassId) (b : Addr) (b' : Addr) (kb : ClassId) (cs : Int32) (x0 : Int32) (y0 : Int32) (r : Int32) (h0 : Heap) (n0 : Nat) (sa : Str Z h0 a a' ka 1 [(.int (((x0).toInt8.toInt32)).toInt8.toInt32)]) (sb : Str Z h0 b b' kb 1 [(.int (((y0).toInt8.toInt32)).toInt8.toInt32)]) (nab : a ≠ b) (S_cs : Sta Z h0 "java/lang/String" "COMPACT_STRINGS" "Z" (.int cs)) (hcs : ¬ cs = (0 : Int32)) (cx0 : Ck x0) (cy0 : Ck y0) (qe0 : ¬ x0 = y0 → r = 0) (qe9 : x0 = y0 → r = 1) (d01 : r = 0 ∨ r = 1) :
    MetFree lL (⟨"java/lang/String", "equals", "(Ljava/lang/Object;)Z"⟩ : MethodName) (head1 (Jvm.Cond.code (⟨"java/lang/String", "equals", "(Ljava/lang/Object;)Z"⟩ : MethodName) jdk_42_method_66_code 3 (some .boolean) :: ws) ({ frames := 1, cells := 0, slots := 0, locals := 14 } : Room)) (fun as_ uU_ => as_ = #[(.ref a), (.ref b)] ∧ Z.Warmed39 uU_.vm ∧ uU_.heap = h0) (fun _ _ _ _ _ => True) (fun _ uU_ oO_ uE_ => ∃ vV_ lL_, oO_ = .returned vV_ ∧ Qw (.int r) h0 n0 vV_ uE_.heap lL_ ∧ FrameEnd uU_ oO_ uE_ lL_ ({ frames := 1, cells := 0, slots := 0, locals := 14 } : Room).cells ({ frames := 1, cells := 0, slots := 0, locals := 14 } : Room).slots) := by
  refine MetFree.of_bodySF (plainFor_of_name pn_java_2flang_2fString) hisR ?_
  intro pP eE sS mM args below meth cC s₁ Bd hml0 hP hK
  obtain ⟨rfl, hZ, hh⟩ := hP
  have hx := Bd.exec
  have hby := Bd.bytes
  have hml : cC.maxLocals = 3 := hml0
  have hown : sS.vm.findClass "java/lang/String" = some mM.cls := findClass_of_methodNamed Bd.named
  have hnm := (name_of_methodNamed Bd.named Bd.method).1
  have hret := Bd.returns
  have hlk := BodyLoose.notSynchronized Bd
  have X0 : Stand pP lL eE ({ frames := 1, cells := 0, slots := 0, locals := 14 } : Room) sS mM #[(.ref a), (.ref b)] below meth cC s₁ [] 0 0 := Stand.of_body Bd
  have e0 : s₁.heap = h0 := by rw [← hh, Bd.state]; rfl
  have N0 := Fr.nil n0
  show own_Go pP eE below sS (Qw (.int r) h0 n0) 0 0 (s₁.setTop (entryFrame mM #[(.ref a), (.ref b)] 3))
  refine own_st (A := s₁.setTop (mkF mM 0 #[.val (.ref a), .val (.ref b), .unset] [])) (fun tT_ kK_ => castTop (ef_rmSE11 mM a a' ka b b' kb cs x0 y0 r) kK_) ?_
  obtain ⟨E_a, F_a_value, F_a_coder, A_a'⟩ := sa
  obtain ⟨E_b, F_b_value, F_b_coder, A_b'⟩ := sb
  refine own_st (A := s₁.setTop (mkF mM 1 #[.val (.ref a), .val (.ref b), .unset] [(.ref a)])) (fun tT_ kK_ => XS.aloadN X0.here hx rfl (hb hby d12_0) rfl rfl kK_) ?_
  refine own_st (A := s₁.setTop (mkF mM 2 #[.val (.ref a), .val (.ref b), .unset] [(.ref b), (.ref a)])) (fun tT_ kK_ => XS.aloadN X0.here hx rfl (hb hby d12_1) rfl rfl kK_) ?_
  refine own_st (A := s₁.setTop (mkF mM 7 #[.val (.ref a), .val (.ref b), .unset] [])) (fun tT_ kK_ => Jvm.RoadKit.acmp X0 hx rfl (x := (.ref a)) (y := (.ref b)) rfl rfl (pc0 := 2) (pc' := 7) (same := false) rfl (hb hby d12_2) rfl (decide_eq_false (fun q => nab (Value.ref.inj q))) (by decide) (by decide) kK_) ?_
  refine own_st (A := s₁.setTop (mkF mM 8 #[.val (.ref a), .val (.ref b), .unset] [(.ref b)])) (fun tT_ kK_ => XS.aloadN X0.here hx rfl (hb hby d12_7) rfl rfl kK_) ?_
  obtain ⟨T65, X65, e65, st65⟩ := instY X0 hx hZ hown (hw _ (List.mem_of_getElem? (i := 67) rfl)) e0 (Ins.self E_b) (g := (mkF mM 8 #[.val (.ref a), .val (.ref b), .unset] [(.ref b)])) rfl rfl (hb hby d12_8)
  refine own_st (A := T65.setTop (mkF mM 11 #[.val (.ref a), .val (.ref b), .unset] [(.int (1 : Int32))])) (fun tT_ kK_ => st65 tT_ kK_) ?_
  refine own_st (A := T65.setTop (mkF mM 14 #[.val (.ref a), .val (.ref b), .unset] [])) (fun tT_ kK_ => XS.ifNo X65.here hx rfl (hb hby d12_11) rfl ((if0 _ _).trans (feq (by decide : ¬ ((1 : Int32) = (0 : Int32)))).1) kK_) ?_
  refine own_st (A := T65.setTop (mkF mM 15 #[.val (.ref a), .val (.ref b), .unset] [(.ref b)])) (fun tT_ kK_ => XS.aloadN X65.here hx rfl (hb hby d12_14) rfl rfl kK_) ?_
  obtain ⟨T66, X66, e66, st66⟩ := castY X65 hx hZ hown (hw _ (List.mem_of_getElem? (i := 67) rfl)) e65 (Ins.self E_b) (g := (mkF mM 15 #[.val (.ref a), .val (.ref b), .unset] [(.ref b)])) rfl rfl (hb hby d12_15)
  refine own_st (A := T66.setTop (mkF mM 18 #[.val (.ref a), .val (.ref b), .unset] [(.ref b)])) (fun tT_ kK_ => st66 tT_ kK_) ?_
  refine own_st (A := T66.setTop (mkF mM 19 #[.val (.ref a), .val (.ref b), .val (.ref b)] [])) (fun tT_ kK_ => XS.astoreN X66.here hx rfl (hb hby d12_18) rfl rfl (l' := #[.val (.ref a), .val (.ref b), .val (.ref b)]) rfl kK_) ?_
  obtain ⟨T67, X67, e67, st67⟩ := getS2 X66 hx hZ hown (host := "") (Or.inl (hw _ (List.mem_of_getElem? (i := 18) rfl))) Via.refl e66 S_cs (g := (mkF mM 19 #[.val (.ref a), .val (.ref b), .val (.ref b)] [])) rfl (hb hby d12_19)
  refine own_st (A := T67.setTop (mkF mM 22 #[.val (.ref a), .val (.ref b), .val (.ref b)] [(.int cs)])) (fun tT_ kK_ => st67 tT_ kK_) ?_
  refine own_st (A := T67.setTop (mkF mM 25 #[.val (.ref a), .val (.ref b), .val (.ref b)] [])) (fun tT_ kK_ => XS.ifNo X67.here hx rfl (hb hby d12_22) rfl ((if0 _ _).trans (feq hcs).1) kK_) ?_
  refine own_st (A := T67.setTop (mkF mM 26 #[.val (.ref a), .val (.ref b), .val (.ref b)] [(.ref a)])) (fun tT_ kK_ => XS.aloadN X67.here hx rfl (hb hby d12_25) rfl rfl kK_) ?_
  obtain ⟨T68, X68, e68, st68⟩ := getF X67 hx hZ hown (host := "") (Or.inl (hw _ (List.mem_of_getElem? (i := 30) rfl))) Via.refl e67 F_a_coder (g := (mkF mM 26 #[.val (.ref a), .val (.ref b), .val (.ref b)] [(.ref a)])) rfl rfl (hb hby d12_26)
  refine own_st (A := T68.setTop (mkF mM 29 #[.val (.ref a), .val (.ref b), .val (.ref b)] [(.int (0 : Int32))])) (fun tT_ kK_ => st68 tT_ kK_) ?_
  refine own_st (A := T68.setTop (mkF mM 30 #[.val (.ref a), .val (.ref b), .val (.ref b)] [(.ref b), (.int (0 : Int32))])) (fun tT_ kK_ => XS.aloadN X68.here hx rfl (hb hby d12_29) rfl rfl kK_) ?_
  obtain ⟨T69, X69, e69, st69⟩ := getF X68 hx hZ hown (host := "") (Or.inl (hw _ (List.mem_of_getElem? (i := 30) rfl))) Via.refl e68 F_b_coder (g := (mkF mM 30 #[.val (.ref a), .val (.ref b), .val (.ref b)] [(.ref b), (.int (0 : Int32))])) rfl rfl (hb hby d12_30)
  refine own_st (A := T69.setTop (mkF mM 33 #[.val (.ref a), .val (.ref b), .val (.ref b)] [(.int (0 : Int32)), (.int (0 : Int32))])) (fun tT_ kK_ => st69 tT_ kK_) ?_
  refine own_st (A := T69.setTop (mkF mM 36 #[.val (.ref a), .val (.ref b), .val (.ref b)] [])) (fun tT_ kK_ => XS.icmpNo X69.here hx rfl (hb hby d12_33) rfl (teq (by decide : ((0 : Int32) = (0 : Int32)))).2 kK_) ?_
  refine own_st (A := T69.setTop (mkF mM 37 #[.val (.ref a), .val (.ref b), .val (.ref b)] [(.ref a)])) (fun tT_ kK_ => XS.aloadN X69.here hx rfl (hb hby d12_36) rfl rfl kK_) ?_
  obtain ⟨T70, X70, e70, st70⟩ := getF X69 hx hZ hown (host := "") (Or.inl (hw _ (List.mem_of_getElem? (i := 32) rfl))) Via.refl e69 F_a_value (g := (mkF mM 37 #[.val (.ref a), .val (.ref b), .val (.ref b)] [(.ref a)])) rfl rfl (hb hby d12_37)
  refine own_st (A := T70.setTop (mkF mM 40 #[.val (.ref a), .val (.ref b), .val (.ref b)] [(.ref a')])) (fun tT_ kK_ => st70 tT_ kK_) ?_
  refine own_st (A := T70.setTop (mkF mM 41 #[.val (.ref a), .val (.ref b), .val (.ref b)] [(.ref b), (.ref a')])) (fun tT_ kK_ => XS.aloadN X70.here hx rfl (hb hby d12_40) rfl rfl kK_) ?_
  obtain ⟨T71, X71, e71, st71⟩ := getF X70 hx hZ hown (host := "") (Or.inl (hw _ (List.mem_of_getElem? (i := 32) rfl))) Via.refl e70 F_b_value (g := (mkF mM 41 #[.val (.ref a), .val (.ref b), .val (.ref b)] [(.ref b), (.ref a')])) rfl rfl (hb hby d12_41)
  refine own_st (A := T71.setTop (mkF mM 44 #[.val (.ref a), .val (.ref b), .val (.ref b)] [(.ref b'), (.ref a')])) (fun tT_ kK_ => st71 tT_ kK_) ?_
  obtain ⟨_, _, ⟨T72, L72, k72, n72⟩, -, X72, ⟨Lc72, hQ72, l72, y72, z72⟩, st72⟩ := Jvm.LawKit.callS X71 hx (y := (⟨"java/lang/StringLatin1", "equals", "([B[B)Z"⟩ : MethodName)) hown (mvT hZ (hw _ (List.mem_of_getElem? (i := 68) rfl))) (mvT hZ (hw _ (List.mem_of_getElem? (i := 69) rfl))) (mvT hZ (hw _ (List.mem_of_getElem? (i := 70) rfl))) (mvT hZ (hw _ (List.mem_of_getElem? (i := 71) rfl))) (by decide) (backOf (W := 0) (rmLE11 lL Z a0 hw [] a' ka b' kb x0 y0 r h0 n0 A_a' A_b' (fun z => qe0 (fun t => z (by rw [t]))) (fun q0 => qe9 (own_b_inj cx0 cy0 q0))) hZ (hw _ (List.mem_of_getElem? (i := 71) rfl)) (hw _ (List.mem_of_getElem? (i := 70) rfl)) (by decide) (by decide)) (g := (mkF mM 44 #[.val (.ref a), .val (.ref b), .val (.ref b)] [(.ref b'), (.ref a')])) rfl (by rw [hml]; rfl) (argsL := [(.ref a'), (.ref b')]) (rest := []) (lenOf pd__28_5bB_5bB_29Z rfl) rfl (by show 2 * 0 + _ ≤ _; exact Nat.le_of_eq rfl) (hb hby d12_44) (fun _ _ => ⟨rfl, e71, (by decide : 0 + 0 ≤ _), (by decide : 0 + 0 ≤ _)⟩)
  dsimp only [Pt.U, Pt.locs, Pt.cells, Pt.slots] at X72 l72 y72 z72 st72 hQ72
  subst l72 y72 z72
  obtain ⟨rfl, N72q, e72⟩ := hQ72
  have N72 := Fr.app N0 N72q
  refine own_st (A := T72.setTop (mkF mM 47 #[.val (.ref a), .val (.ref b), .val (.ref b)] [(.int r)])) (fun tT_ kK_ => st72 tT_ kK_) ?_
  by_cases hc47_73 : r = (0 : Int32)
  · skip
    refine own_st (A := T72.setTop (mkF mM 54 #[.val (.ref a), .val (.ref b), .val (.ref b)] [])) (fun tT_ kK_ => XS.ifYes X72.here hx rfl (pc0 := 47) (pc' := 54) rfl (hb hby d12_47) rfl ((if0 _ _).trans (teq hc47_73).1) (by decide) (by decide) kK_) ?_
    refine own_st (A := T72.setTop (mkF mM 55 #[.val (.ref a), .val (.ref b), .val (.ref b)] [(.int (0 : Int32))])) (fun tT_ kK_ => XS.iconst X72.here hx rfl (hb hby d12_54) kK_) ?_
    exact own_retN X72 hx hlk (t := .boolean) hret (by simp) (hb hby d12_55) (by rw [hc47_73]; exact ⟨rfl, N72, e72⟩) (by decide) (by decide)
  · skip
    refine own_st (A := T72.setTop (mkF mM 50 #[.val (.ref a), .val (.ref b), .val (.ref b)] [])) (fun tT_ kK_ => XS.ifNo X72.here hx rfl (hb hby d12_47) rfl ((if0 _ _).trans (feq hc47_73).1) kK_) ?_
    refine own_st (A := T72.setTop (mkF mM 51 #[.val (.ref a), .val (.ref b), .val (.ref b)] [(.int (1 : Int32))])) (fun tT_ kK_ => XS.iconst X72.here hx rfl (hb hby d12_50) kK_) ?_
    refine own_st (A := T72.setTop (mkF mM 55 #[.val (.ref a), .val (.ref b), .val (.ref b)] [(.int (1 : Int32))])) (fun tT_ kK_ => XS.goto X72.here hx rfl (pc0 := 51) (pc' := 55) rfl (hb hby d12_51) (by decide) (by decide) kK_) ?_
    exact own_retN X72 hx hlk (t := .boolean) hret (by simp) (hb hby d12_55) (by rw [d01.resolve_left hc47_73]; exact ⟨rfl, N72, e72⟩) (by decide) (by decide)
theorem d13_34 : decode jdk_43_method_13_code 34 = .ok (.iconst 0, 1) := by decide +kernel
theorem d13_35 : decode jdk_43_method_13_code 35 = .ok (.ireturn, 1) := by decide +kernel
theorem ef_rmLE12 (mM : MethodId) (a : Addr) (ka : ClassId) (b : Addr) (kb : ClassId) (x0 : Int32) (y0 : Int32) (y1 : Int32) (r : Int32) : entryFrame mM #[(.ref a), (.ref b)] 3 = mkF mM 0 #[.val (.ref a), .val (.ref b), .unset] [] := by first | (simp [entryFrame, mkF, argsToLocals, Value.category]; done) | rfl
set_option maxRecDepth 65536 in
set_option maxHeartbeats 40000000 in
theorem rmLE12 (lL : Launch) (Z : State) (a0 : Array Value) (hw : ∀ d ∈ tables_1, d.before a0 Z = true) (ws : List Jvm.Cond) (a : Addr) (ka : ClassId) (b : Addr) (kb : ClassId) (x0 : Int32) (y0 : Int32) (y1 : Int32) (r : Int32) (h0 : Heap) (n0 : Nat) (A_a : Arv Z h0 a ka .byte 1 [(.int (((x0).toInt8.toInt32)).toInt8.toInt32)] (.int 0)) (A_b : Arv Z h0 b kb .byte 2 [(.int (((y0).toInt8.toInt32)).toInt8.toInt32), (.int (((y1).toInt8.toInt32)).toInt8.toInt32)] (.int 0)) (qe9 : r = 0) :
    MetFree lL (⟨"java/lang/StringLatin1", "equals", "([B[B)Z"⟩ : MethodName) (head1 (Jvm.Cond.code (⟨"java/lang/StringLatin1", "equals", "([B[B)Z"⟩ : MethodName) jdk_43_method_13_code 3 (some .boolean) :: ws) ({ frames := 0, cells := 0, slots := 0, locals := 0 } : Room)) (fun as_ uU_ => as_ = #[(.ref a), (.ref b)] ∧ Z.Warmed39 uU_.vm ∧ uU_.heap = h0) (fun _ _ _ _ _ => True) (fun _ uU_ oO_ uE_ => ∃ vV_ lL_, oO_ = .returned vV_ ∧ Qw (.int r) h0 n0 vV_ uE_.heap lL_ ∧ FrameEnd uU_ oO_ uE_ lL_ ({ frames := 0, cells := 0, slots := 0, locals := 0 } : Room).cells ({ frames := 0, cells := 0, slots := 0, locals := 0 } : Room).slots) := by
  refine MetFree.of_bodySF (plainFor_of_name pn_java_2flang_2fStringLatin1) hisR ?_
  intro pP eE sS mM args below meth cC s₁ Bd hml0 hP hK
  obtain ⟨rfl, hZ, hh⟩ := hP
  have hx := Bd.exec
  have hby := Bd.bytes
  have hml : cC.maxLocals = 3 := hml0
  have hown : sS.vm.findClass "java/lang/StringLatin1" = some mM.cls := findClass_of_methodNamed Bd.named
  have hnm := (name_of_methodNamed Bd.named Bd.method).1
  have hret := Bd.returns
  have hlk := BodyLoose.notSynchronized Bd
  have X0 : Stand pP lL eE ({ frames := 0, cells := 0, slots := 0, locals := 0 } : Room) sS mM #[(.ref a), (.ref b)] below meth cC s₁ [] 0 0 := Stand.of_body Bd
  have e0 : s₁.heap = h0 := by rw [← hh, Bd.state]; rfl
  have N0 := Fr.nil n0
  show own_Go pP eE below sS (Qw (.int r) h0 n0) 0 0 (s₁.setTop (entryFrame mM #[(.ref a), (.ref b)] 3))
  refine own_st (A := s₁.setTop (mkF mM 0 #[.val (.ref a), .val (.ref b), .unset] [])) (fun tT_ kK_ => castTop (ef_rmLE12 mM a ka b kb x0 y0 y1 r) kK_) ?_
  refine own_st (A := s₁.setTop (mkF mM 1 #[.val (.ref a), .val (.ref b), .unset] [(.ref a)])) (fun tT_ kK_ => XS.aloadN X0.here hx rfl (hb hby d13_0) rfl rfl kK_) ?_
  obtain ⟨cl74, Ar74, q74, S74, Nn74, H74, G74⟩ := id A_a
  refine own_st (A := s₁.setTop (mkF mM 2 #[.val (.ref a), .val (.ref b), .unset] [(.int (1 : Int32))])) (fun tT_ kK_ => X0.arraylength hx (by rw [e0]; exact Ar74.1) (State.isArrayOf_alike hZ.alike Ar74.2.1) (g := (mkF mM 1 #[.val (.ref a), .val (.ref b), .unset] [(.ref a)])) rfl rfl (hb hby d13_1) tT_ (by rw [len_of S74 Nn74]; exact kK_)) ?_
  refine own_st (A := s₁.setTop (mkF mM 3 #[.val (.ref a), .val (.ref b), .unset] [(.ref b), (.int (1 : Int32))])) (fun tT_ kK_ => XS.aloadN X0.here hx rfl (hb hby d13_2) rfl rfl kK_) ?_
  obtain ⟨cl75, Ar75, q75, S75, Nn75, H75, G75⟩ := id A_b
  refine own_st (A := s₁.setTop (mkF mM 4 #[.val (.ref a), .val (.ref b), .unset] [(.int (2 : Int32)), (.int (1 : Int32))])) (fun tT_ kK_ => X0.arraylength hx (by rw [e0]; exact Ar75.1) (State.isArrayOf_alike hZ.alike Ar75.2.1) (g := (mkF mM 3 #[.val (.ref a), .val (.ref b), .unset] [(.ref b), (.int (1 : Int32))])) rfl rfl (hb hby d13_3) tT_ (by rw [len_of S75 Nn75]; exact kK_)) ?_
  refine own_st (A := s₁.setTop (mkF mM 34 #[.val (.ref a), .val (.ref b), .unset] [])) (fun tT_ kK_ => XS.icmpYes X0.here hx rfl (pc0 := 4) (pc' := 34) rfl (hb hby d13_4) rfl (feq (by decide : ¬ ((1 : Int32) = (2 : Int32)))).2 (by decide) (by decide) kK_) ?_
  refine own_st (A := s₁.setTop (mkF mM 35 #[.val (.ref a), .val (.ref b), .unset] [(.int (0 : Int32))])) (fun tT_ kK_ => XS.iconst X0.here hx rfl (hb hby d13_34) kK_) ?_
  exact own_retN X0 hx hlk (t := .boolean) hret (by simp) (hb hby d13_35) (by rw [qe9]; exact ⟨rfl, N0, e0⟩) (by decide) (by decide)
theorem ef_rmSE12 (mM : MethodId) (a : Addr) (a' : Addr) (ka : ClassId) (b : Addr) (b' : Addr) (kb : ClassId) (cs : Int32) (x0 : Int32) (y0 : Int32) (y1 : Int32) (r : Int32) : entryFrame mM #[(.ref a), (.ref b)] 3 = mkF mM 0 #[.val (.ref a), .val (.ref b), .unset] [] := by first | (simp [entryFrame, mkF, argsToLocals, Value.category]; done) | rfl
set_option maxRecDepth 65536 in
set_option maxHeartbeats 40000000 in
theorem rmSE12 (lL : Launch) (Z : State) (a0 : Array Value) (hw : ∀ d ∈ tables_1, d.before a0 Z = true) (ws : List Jvm.Cond) (a : Addr) (a' : Addr) (ka : ClassId) (b : Addr) (b' : Addr) (kb : ClassId) (cs : Int32) (x0 : Int32) (y0 : Int32) (y1 : Int32) (r : Int32) (h0 : Heap) (n0 : Nat) (sa : Str Z h0 a a' ka 1 [(.int (((x0).toInt8.toInt32)).toInt8.toInt32)]) (sb : Str Z h0 b b' kb 2 [(.int (((y0).toInt8.toInt32)).toInt8.toInt32), (.int (((y1).toInt8.toInt32)).toInt8.toInt32)]) (nab : a ≠ b) (S_cs : Sta Z h0 "java/lang/String" "COMPACT_STRINGS" "Z" (.int cs)) (hcs : ¬ cs = (0 : Int32)) (cx0 : Ck x0) (cy0 : Ck y0) (cy1 : Ck y1) (qe9 : r = 0) (d01 : r = 0 ∨ r = 1) :
    MetFree lL (⟨"java/lang/String", "equals", "(Ljava/lang/Object;)Z"⟩ : MethodName) (head1 (Jvm.Cond.code (⟨"java/lang/String", "equals", "(Ljava/lang/Object;)Z"⟩ : MethodName) jdk_42_method_66_code 3 (some .boolean) :: ws) ({ frames := 1, cells := 0, slots := 0, locals := 14 } : Room)) (fun as_ uU_ => as_ = #[(.ref a), (.ref b)] ∧ Z.Warmed39 uU_.vm ∧ uU_.heap = h0) (fun _ _ _ _ _ => True) (fun _ uU_ oO_ uE_ => ∃ vV_ lL_, oO_ = .returned vV_ ∧ Qw (.int r) h0 n0 vV_ uE_.heap lL_ ∧ FrameEnd uU_ oO_ uE_ lL_ ({ frames := 1, cells := 0, slots := 0, locals := 14 } : Room).cells ({ frames := 1, cells := 0, slots := 0, locals := 14 } : Room).slots) := by
  refine MetFree.of_bodySF (plainFor_of_name pn_java_2flang_2fString) hisR ?_
  intro pP eE sS mM args below meth cC s₁ Bd hml0 hP hK
  obtain ⟨rfl, hZ, hh⟩ := hP
  have hx := Bd.exec
  have hby := Bd.bytes
  have hml : cC.maxLocals = 3 := hml0
  have hown : sS.vm.findClass "java/lang/String" = some mM.cls := findClass_of_methodNamed Bd.named
  have hnm := (name_of_methodNamed Bd.named Bd.method).1
  have hret := Bd.returns
  have hlk := BodyLoose.notSynchronized Bd
  have X0 : Stand pP lL eE ({ frames := 1, cells := 0, slots := 0, locals := 14 } : Room) sS mM #[(.ref a), (.ref b)] below meth cC s₁ [] 0 0 := Stand.of_body Bd
  have e0 : s₁.heap = h0 := by rw [← hh, Bd.state]; rfl
  have N0 := Fr.nil n0
  show own_Go pP eE below sS (Qw (.int r) h0 n0) 0 0 (s₁.setTop (entryFrame mM #[(.ref a), (.ref b)] 3))
  refine own_st (A := s₁.setTop (mkF mM 0 #[.val (.ref a), .val (.ref b), .unset] [])) (fun tT_ kK_ => castTop (ef_rmSE12 mM a a' ka b b' kb cs x0 y0 y1 r) kK_) ?_
  obtain ⟨E_a, F_a_value, F_a_coder, A_a'⟩ := sa
  obtain ⟨E_b, F_b_value, F_b_coder, A_b'⟩ := sb
  refine own_st (A := s₁.setTop (mkF mM 1 #[.val (.ref a), .val (.ref b), .unset] [(.ref a)])) (fun tT_ kK_ => XS.aloadN X0.here hx rfl (hb hby d12_0) rfl rfl kK_) ?_
  refine own_st (A := s₁.setTop (mkF mM 2 #[.val (.ref a), .val (.ref b), .unset] [(.ref b), (.ref a)])) (fun tT_ kK_ => XS.aloadN X0.here hx rfl (hb hby d12_1) rfl rfl kK_) ?_
  refine own_st (A := s₁.setTop (mkF mM 7 #[.val (.ref a), .val (.ref b), .unset] [])) (fun tT_ kK_ => Jvm.RoadKit.acmp X0 hx rfl (x := (.ref a)) (y := (.ref b)) rfl rfl (pc0 := 2) (pc' := 7) (same := false) rfl (hb hby d12_2) rfl (decide_eq_false (fun q => nab (Value.ref.inj q))) (by decide) (by decide) kK_) ?_
  refine own_st (A := s₁.setTop (mkF mM 8 #[.val (.ref a), .val (.ref b), .unset] [(.ref b)])) (fun tT_ kK_ => XS.aloadN X0.here hx rfl (hb hby d12_7) rfl rfl kK_) ?_
  obtain ⟨T76, X76, e76, st76⟩ := instY X0 hx hZ hown (hw _ (List.mem_of_getElem? (i := 67) rfl)) e0 (Ins.self E_b) (g := (mkF mM 8 #[.val (.ref a), .val (.ref b), .unset] [(.ref b)])) rfl rfl (hb hby d12_8)
  refine own_st (A := T76.setTop (mkF mM 11 #[.val (.ref a), .val (.ref b), .unset] [(.int (1 : Int32))])) (fun tT_ kK_ => st76 tT_ kK_) ?_
  refine own_st (A := T76.setTop (mkF mM 14 #[.val (.ref a), .val (.ref b), .unset] [])) (fun tT_ kK_ => XS.ifNo X76.here hx rfl (hb hby d12_11) rfl ((if0 _ _).trans (feq (by decide : ¬ ((1 : Int32) = (0 : Int32)))).1) kK_) ?_
  refine own_st (A := T76.setTop (mkF mM 15 #[.val (.ref a), .val (.ref b), .unset] [(.ref b)])) (fun tT_ kK_ => XS.aloadN X76.here hx rfl (hb hby d12_14) rfl rfl kK_) ?_
  obtain ⟨T77, X77, e77, st77⟩ := castY X76 hx hZ hown (hw _ (List.mem_of_getElem? (i := 67) rfl)) e76 (Ins.self E_b) (g := (mkF mM 15 #[.val (.ref a), .val (.ref b), .unset] [(.ref b)])) rfl rfl (hb hby d12_15)
  refine own_st (A := T77.setTop (mkF mM 18 #[.val (.ref a), .val (.ref b), .unset] [(.ref b)])) (fun tT_ kK_ => st77 tT_ kK_) ?_
  refine own_st (A := T77.setTop (mkF mM 19 #[.val (.ref a), .val (.ref b), .val (.ref b)] [])) (fun tT_ kK_ => XS.astoreN X77.here hx rfl (hb hby d12_18) rfl rfl (l' := #[.val (.ref a), .val (.ref b), .val (.ref b)]) rfl kK_) ?_
  obtain ⟨T78, X78, e78, st78⟩ := getS2 X77 hx hZ hown (host := "") (Or.inl (hw _ (List.mem_of_getElem? (i := 18) rfl))) Via.refl e77 S_cs (g := (mkF mM 19 #[.val (.ref a), .val (.ref b), .val (.ref b)] [])) rfl (hb hby d12_19)
  refine own_st (A := T78.setTop (mkF mM 22 #[.val (.ref a), .val (.ref b), .val (.ref b)] [(.int cs)])) (fun tT_ kK_ => st78 tT_ kK_) ?_
  refine own_st (A := T78.setTop (mkF mM 25 #[.val (.ref a), .val (.ref b), .val (.ref b)] [])) (fun tT_ kK_ => XS.ifNo X78.here hx rfl (hb hby d12_22) rfl ((if0 _ _).trans (feq hcs).1) kK_) ?_
  refine own_st (A := T78.setTop (mkF mM 26 #[.val (.ref a), .val (.ref b), .val (.ref b)] [(.ref a)])) (fun tT_ kK_ => XS.aloadN X78.here hx rfl (hb hby d12_25) rfl rfl kK_) ?_
  obtain ⟨T79, X79, e79, st79⟩ := getF X78 hx hZ hown (host := "") (Or.inl (hw _ (List.mem_of_getElem? (i := 30) rfl))) Via.refl e78 F_a_coder (g := (mkF mM 26 #[.val (.ref a), .val (.ref b), .val (.ref b)] [(.ref a)])) rfl rfl (hb hby d12_26)
  refine own_st (A := T79.setTop (mkF mM 29 #[.val (.ref a), .val (.ref b), .val (.ref b)] [(.int (0 : Int32))])) (fun tT_ kK_ => st79 tT_ kK_) ?_
  refine own_st (A := T79.setTop (mkF mM 30 #[.val (.ref a), .val (.ref b), .val (.ref b)] [(.ref b), (.int (0 : Int32))])) (fun tT_ kK_ => XS.aloadN X79.here hx rfl (hb hby d12_29) rfl rfl kK_) ?_
  obtain ⟨T80, X80, e80, st80⟩ := getF X79 hx hZ hown (host := "") (Or.inl (hw _ (List.mem_of_getElem? (i := 30) rfl))) Via.refl e79 F_b_coder (g := (mkF mM 30 #[.val (.ref a), .val (.ref b), .val (.ref b)] [(.ref b), (.int (0 : Int32))])) rfl rfl (hb hby d12_30)
  refine own_st (A := T80.setTop (mkF mM 33 #[.val (.ref a), .val (.ref b), .val (.ref b)] [(.int (0 : Int32)), (.int (0 : Int32))])) (fun tT_ kK_ => st80 tT_ kK_) ?_
  refine own_st (A := T80.setTop (mkF mM 36 #[.val (.ref a), .val (.ref b), .val (.ref b)] [])) (fun tT_ kK_ => XS.icmpNo X80.here hx rfl (hb hby d12_33) rfl (teq (by decide : ((0 : Int32) = (0 : Int32)))).2 kK_) ?_
  refine own_st (A := T80.setTop (mkF mM 37 #[.val (.ref a), .val (.ref b), .val (.ref b)] [(.ref a)])) (fun tT_ kK_ => XS.aloadN X80.here hx rfl (hb hby d12_36) rfl rfl kK_) ?_
  obtain ⟨T81, X81, e81, st81⟩ := getF X80 hx hZ hown (host := "") (Or.inl (hw _ (List.mem_of_getElem? (i := 32) rfl))) Via.refl e80 F_a_value (g := (mkF mM 37 #[.val (.ref a), .val (.ref b), .val (.ref b)] [(.ref a)])) rfl rfl (hb hby d12_37)
  refine own_st (A := T81.setTop (mkF mM 40 #[.val (.ref a), .val (.ref b), .val (.ref b)] [(.ref a')])) (fun tT_ kK_ => st81 tT_ kK_) ?_
  refine own_st (A := T81.setTop (mkF mM 41 #[.val (.ref a), .val (.ref b), .val (.ref b)] [(.ref b), (.ref a')])) (fun tT_ kK_ => XS.aloadN X81.here hx rfl (hb hby d12_40) rfl rfl kK_) ?_
  obtain ⟨T82, X82, e82, st82⟩ := getF X81 hx hZ hown (host := "") (Or.inl (hw _ (List.mem_of_getElem? (i := 32) rfl))) Via.refl e81 F_b_value (g := (mkF mM 41 #[.val (.ref a), .val (.ref b), .val (.ref b)] [(.ref b), (.ref a')])) rfl rfl (hb hby d12_41)
  refine own_st (A := T82.setTop (mkF mM 44 #[.val (.ref a), .val (.ref b), .val (.ref b)] [(.ref b'), (.ref a')])) (fun tT_ kK_ => st82 tT_ kK_) ?_
  obtain ⟨_, _, ⟨T83, L83, k83, n83⟩, -, X83, ⟨Lc83, hQ83, l83, y83, z83⟩, st83⟩ := Jvm.LawKit.callS X82 hx (y := (⟨"java/lang/StringLatin1", "equals", "([B[B)Z"⟩ : MethodName)) hown (mvT hZ (hw _ (List.mem_of_getElem? (i := 68) rfl))) (mvT hZ (hw _ (List.mem_of_getElem? (i := 69) rfl))) (mvT hZ (hw _ (List.mem_of_getElem? (i := 70) rfl))) (mvT hZ (hw _ (List.mem_of_getElem? (i := 71) rfl))) (by decide) (backOf (W := 0) (rmLE12 lL Z a0 hw [] a' ka b' kb x0 y0 y1 r h0 n0 A_a' A_b' qe9) hZ (hw _ (List.mem_of_getElem? (i := 71) rfl)) (hw _ (List.mem_of_getElem? (i := 70) rfl)) (by decide) (by decide)) (g := (mkF mM 44 #[.val (.ref a), .val (.ref b), .val (.ref b)] [(.ref b'), (.ref a')])) rfl (by rw [hml]; rfl) (argsL := [(.ref a'), (.ref b')]) (rest := []) (lenOf pd__28_5bB_5bB_29Z rfl) rfl (by show 2 * 0 + _ ≤ _; exact Nat.le_of_eq rfl) (hb hby d12_44) (fun _ _ => ⟨rfl, e82, (by decide : 0 + 0 ≤ _), (by decide : 0 + 0 ≤ _)⟩)
  dsimp only [Pt.U, Pt.locs, Pt.cells, Pt.slots] at X83 l83 y83 z83 st83 hQ83
  subst l83 y83 z83
  obtain ⟨rfl, N83q, e83⟩ := hQ83
  have N83 := Fr.app N0 N83q
  refine own_st (A := T83.setTop (mkF mM 47 #[.val (.ref a), .val (.ref b), .val (.ref b)] [(.int r)])) (fun tT_ kK_ => st83 tT_ kK_) ?_
  by_cases hc47_84 : r = (0 : Int32)
  · skip
    refine own_st (A := T83.setTop (mkF mM 54 #[.val (.ref a), .val (.ref b), .val (.ref b)] [])) (fun tT_ kK_ => XS.ifYes X83.here hx rfl (pc0 := 47) (pc' := 54) rfl (hb hby d12_47) rfl ((if0 _ _).trans (teq hc47_84).1) (by decide) (by decide) kK_) ?_
    refine own_st (A := T83.setTop (mkF mM 55 #[.val (.ref a), .val (.ref b), .val (.ref b)] [(.int (0 : Int32))])) (fun tT_ kK_ => XS.iconst X83.here hx rfl (hb hby d12_54) kK_) ?_
    exact own_retN X83 hx hlk (t := .boolean) hret (by simp) (hb hby d12_55) (by rw [hc47_84]; exact ⟨rfl, N83, e83⟩) (by decide) (by decide)
  · skip
    refine own_st (A := T83.setTop (mkF mM 50 #[.val (.ref a), .val (.ref b), .val (.ref b)] [])) (fun tT_ kK_ => XS.ifNo X83.here hx rfl (hb hby d12_47) rfl ((if0 _ _).trans (feq hc47_84).1) kK_) ?_
    refine own_st (A := T83.setTop (mkF mM 51 #[.val (.ref a), .val (.ref b), .val (.ref b)] [(.int (1 : Int32))])) (fun tT_ kK_ => XS.iconst X83.here hx rfl (hb hby d12_50) kK_) ?_
    refine own_st (A := T83.setTop (mkF mM 55 #[.val (.ref a), .val (.ref b), .val (.ref b)] [(.int (1 : Int32))])) (fun tT_ kK_ => XS.goto X83.here hx rfl (pc0 := 51) (pc' := 55) rfl (hb hby d12_51) (by decide) (by decide) kK_) ?_
    exact own_retN X83 hx hlk (t := .boolean) hret (by simp) (hb hby d12_55) (by rw [d01.resolve_left hc47_84]; exact ⟨rfl, N83, e83⟩) (by decide) (by decide)
theorem ef_rmLE21 (mM : MethodId) (a : Addr) (ka : ClassId) (b : Addr) (kb : ClassId) (x0 : Int32) (x1 : Int32) (y0 : Int32) (r : Int32) : entryFrame mM #[(.ref a), (.ref b)] 3 = mkF mM 0 #[.val (.ref a), .val (.ref b), .unset] [] := by first | (simp [entryFrame, mkF, argsToLocals, Value.category]; done) | rfl
set_option maxRecDepth 65536 in
set_option maxHeartbeats 40000000 in
theorem rmLE21 (lL : Launch) (Z : State) (a0 : Array Value) (hw : ∀ d ∈ tables_1, d.before a0 Z = true) (ws : List Jvm.Cond) (a : Addr) (ka : ClassId) (b : Addr) (kb : ClassId) (x0 : Int32) (x1 : Int32) (y0 : Int32) (r : Int32) (h0 : Heap) (n0 : Nat) (A_a : Arv Z h0 a ka .byte 2 [(.int (((x0).toInt8.toInt32)).toInt8.toInt32), (.int (((x1).toInt8.toInt32)).toInt8.toInt32)] (.int 0)) (A_b : Arv Z h0 b kb .byte 1 [(.int (((y0).toInt8.toInt32)).toInt8.toInt32)] (.int 0)) (qe9 : r = 0) :
    MetFree lL (⟨"java/lang/StringLatin1", "equals", "([B[B)Z"⟩ : MethodName) (head1 (Jvm.Cond.code (⟨"java/lang/StringLatin1", "equals", "([B[B)Z"⟩ : MethodName) jdk_43_method_13_code 3 (some .boolean) :: ws) ({ frames := 0, cells := 0, slots := 0, locals := 0 } : Room)) (fun as_ uU_ => as_ = #[(.ref a), (.ref b)] ∧ Z.Warmed39 uU_.vm ∧ uU_.heap = h0) (fun _ _ _ _ _ => True) (fun _ uU_ oO_ uE_ => ∃ vV_ lL_, oO_ = .returned vV_ ∧ Qw (.int r) h0 n0 vV_ uE_.heap lL_ ∧ FrameEnd uU_ oO_ uE_ lL_ ({ frames := 0, cells := 0, slots := 0, locals := 0 } : Room).cells ({ frames := 0, cells := 0, slots := 0, locals := 0 } : Room).slots) := by
  refine MetFree.of_bodySF (plainFor_of_name pn_java_2flang_2fStringLatin1) hisR ?_
  intro pP eE sS mM args below meth cC s₁ Bd hml0 hP hK
  obtain ⟨rfl, hZ, hh⟩ := hP
  have hx := Bd.exec
  have hby := Bd.bytes
  have hml : cC.maxLocals = 3 := hml0
  have hown : sS.vm.findClass "java/lang/StringLatin1" = some mM.cls := findClass_of_methodNamed Bd.named
  have hnm := (name_of_methodNamed Bd.named Bd.method).1
  have hret := Bd.returns
  have hlk := BodyLoose.notSynchronized Bd
  have X0 : Stand pP lL eE ({ frames := 0, cells := 0, slots := 0, locals := 0 } : Room) sS mM #[(.ref a), (.ref b)] below meth cC s₁ [] 0 0 := Stand.of_body Bd
  have e0 : s₁.heap = h0 := by rw [← hh, Bd.state]; rfl
  have N0 := Fr.nil n0
  show own_Go pP eE below sS (Qw (.int r) h0 n0) 0 0 (s₁.setTop (entryFrame mM #[(.ref a), (.ref b)] 3))
  refine own_st (A := s₁.setTop (mkF mM 0 #[.val (.ref a), .val (.ref b), .unset] [])) (fun tT_ kK_ => castTop (ef_rmLE21 mM a ka b kb x0 x1 y0 r) kK_) ?_
  refine own_st (A := s₁.setTop (mkF mM 1 #[.val (.ref a), .val (.ref b), .unset] [(.ref a)])) (fun tT_ kK_ => XS.aloadN X0.here hx rfl (hb hby d13_0) rfl rfl kK_) ?_
  obtain ⟨cl85, Ar85, q85, S85, Nn85, H85, G85⟩ := id A_a
  refine own_st (A := s₁.setTop (mkF mM 2 #[.val (.ref a), .val (.ref b), .unset] [(.int (2 : Int32))])) (fun tT_ kK_ => X0.arraylength hx (by rw [e0]; exact Ar85.1) (State.isArrayOf_alike hZ.alike Ar85.2.1) (g := (mkF mM 1 #[.val (.ref a), .val (.ref b), .unset] [(.ref a)])) rfl rfl (hb hby d13_1) tT_ (by rw [len_of S85 Nn85]; exact kK_)) ?_
  refine own_st (A := s₁.setTop (mkF mM 3 #[.val (.ref a), .val (.ref b), .unset] [(.ref b), (.int (2 : Int32))])) (fun tT_ kK_ => XS.aloadN X0.here hx rfl (hb hby d13_2) rfl rfl kK_) ?_
  obtain ⟨cl86, Ar86, q86, S86, Nn86, H86, G86⟩ := id A_b
  refine own_st (A := s₁.setTop (mkF mM 4 #[.val (.ref a), .val (.ref b), .unset] [(.int (1 : Int32)), (.int (2 : Int32))])) (fun tT_ kK_ => X0.arraylength hx (by rw [e0]; exact Ar86.1) (State.isArrayOf_alike hZ.alike Ar86.2.1) (g := (mkF mM 3 #[.val (.ref a), .val (.ref b), .unset] [(.ref b), (.int (2 : Int32))])) rfl rfl (hb hby d13_3) tT_ (by rw [len_of S86 Nn86]; exact kK_)) ?_
  refine own_st (A := s₁.setTop (mkF mM 34 #[.val (.ref a), .val (.ref b), .unset] [])) (fun tT_ kK_ => XS.icmpYes X0.here hx rfl (pc0 := 4) (pc' := 34) rfl (hb hby d13_4) rfl (feq (by decide : ¬ ((2 : Int32) = (1 : Int32)))).2 (by decide) (by decide) kK_) ?_
  refine own_st (A := s₁.setTop (mkF mM 35 #[.val (.ref a), .val (.ref b), .unset] [(.int (0 : Int32))])) (fun tT_ kK_ => XS.iconst X0.here hx rfl (hb hby d13_34) kK_) ?_
  exact own_retN X0 hx hlk (t := .boolean) hret (by simp) (hb hby d13_35) (by rw [qe9]; exact ⟨rfl, N0, e0⟩) (by decide) (by decide)
theorem ef_rmSE21 (mM : MethodId) (a : Addr) (a' : Addr) (ka : ClassId) (b : Addr) (b' : Addr) (kb : ClassId) (cs : Int32) (x0 : Int32) (x1 : Int32) (y0 : Int32) (r : Int32) : entryFrame mM #[(.ref a), (.ref b)] 3 = mkF mM 0 #[.val (.ref a), .val (.ref b), .unset] [] := by first | (simp [entryFrame, mkF, argsToLocals, Value.category]; done) | rfl
set_option maxRecDepth 65536 in
set_option maxHeartbeats 40000000 in
theorem rmSE21 (lL : Launch) (Z : State) (a0 : Array Value) (hw : ∀ d ∈ tables_1, d.before a0 Z = true) (ws : List Jvm.Cond) (a : Addr) (a' : Addr) (ka : ClassId) (b : Addr) (b' : Addr) (kb : ClassId) (cs : Int32) (x0 : Int32) (x1 : Int32) (y0 : Int32) (r : Int32) (h0 : Heap) (n0 : Nat) (sa : Str Z h0 a a' ka 2 [(.int (((x0).toInt8.toInt32)).toInt8.toInt32), (.int (((x1).toInt8.toInt32)).toInt8.toInt32)]) (sb : Str Z h0 b b' kb 1 [(.int (((y0).toInt8.toInt32)).toInt8.toInt32)]) (nab : a ≠ b) (S_cs : Sta Z h0 "java/lang/String" "COMPACT_STRINGS" "Z" (.int cs)) (hcs : ¬ cs = (0 : Int32)) (cx0 : Ck x0) (cx1 : Ck x1) (cy0 : Ck y0) (qe9 : r = 0) (d01 : r = 0 ∨ r = 1) :
    MetFree lL (⟨"java/lang/String", "equals", "(Ljava/lang/Object;)Z"⟩ : MethodName) (head1 (Jvm.Cond.code (⟨"java/lang/String", "equals", "(Ljava/lang/Object;)Z"⟩ : MethodName) jdk_42_method_66_code 3 (some .boolean) :: ws) ({ frames := 1, cells := 0, slots := 0, locals := 14 } : Room)) (fun as_ uU_ => as_ = #[(.ref a), (.ref b)] ∧ Z.Warmed39 uU_.vm ∧ uU_.heap = h0) (fun _ _ _ _ _ => True) (fun _ uU_ oO_ uE_ => ∃ vV_ lL_, oO_ = .returned vV_ ∧ Qw (.int r) h0 n0 vV_ uE_.heap lL_ ∧ FrameEnd uU_ oO_ uE_ lL_ ({ frames := 1, cells := 0, slots := 0, locals := 14 } : Room).cells ({ frames := 1, cells := 0, slots := 0, locals := 14 } : Room).slots) := by
  refine MetFree.of_bodySF (plainFor_of_name pn_java_2flang_2fString) hisR ?_
  intro pP eE sS mM args below meth cC s₁ Bd hml0 hP hK
  obtain ⟨rfl, hZ, hh⟩ := hP
  have hx := Bd.exec
  have hby := Bd.bytes
  have hml : cC.maxLocals = 3 := hml0
  have hown : sS.vm.findClass "java/lang/String" = some mM.cls := findClass_of_methodNamed Bd.named
  have hnm := (name_of_methodNamed Bd.named Bd.method).1
  have hret := Bd.returns
  have hlk := BodyLoose.notSynchronized Bd
  have X0 : Stand pP lL eE ({ frames := 1, cells := 0, slots := 0, locals := 14 } : Room) sS mM #[(.ref a), (.ref b)] below meth cC s₁ [] 0 0 := Stand.of_body Bd
  have e0 : s₁.heap = h0 := by rw [← hh, Bd.state]; rfl
  have N0 := Fr.nil n0
  show own_Go pP eE below sS (Qw (.int r) h0 n0) 0 0 (s₁.setTop (entryFrame mM #[(.ref a), (.ref b)] 3))
  refine own_st (A := s₁.setTop (mkF mM 0 #[.val (.ref a), .val (.ref b), .unset] [])) (fun tT_ kK_ => castTop (ef_rmSE21 mM a a' ka b b' kb cs x0 x1 y0 r) kK_) ?_
  obtain ⟨E_a, F_a_value, F_a_coder, A_a'⟩ := sa
  obtain ⟨E_b, F_b_value, F_b_coder, A_b'⟩ := sb
  refine own_st (A := s₁.setTop (mkF mM 1 #[.val (.ref a), .val (.ref b), .unset] [(.ref a)])) (fun tT_ kK_ => XS.aloadN X0.here hx rfl (hb hby d12_0) rfl rfl kK_) ?_
  refine own_st (A := s₁.setTop (mkF mM 2 #[.val (.ref a), .val (.ref b), .unset] [(.ref b), (.ref a)])) (fun tT_ kK_ => XS.aloadN X0.here hx rfl (hb hby d12_1) rfl rfl kK_) ?_
  refine own_st (A := s₁.setTop (mkF mM 7 #[.val (.ref a), .val (.ref b), .unset] [])) (fun tT_ kK_ => Jvm.RoadKit.acmp X0 hx rfl (x := (.ref a)) (y := (.ref b)) rfl rfl (pc0 := 2) (pc' := 7) (same := false) rfl (hb hby d12_2) rfl (decide_eq_false (fun q => nab (Value.ref.inj q))) (by decide) (by decide) kK_) ?_
  refine own_st (A := s₁.setTop (mkF mM 8 #[.val (.ref a), .val (.ref b), .unset] [(.ref b)])) (fun tT_ kK_ => XS.aloadN X0.here hx rfl (hb hby d12_7) rfl rfl kK_) ?_
  obtain ⟨T87, X87, e87, st87⟩ := instY X0 hx hZ hown (hw _ (List.mem_of_getElem? (i := 67) rfl)) e0 (Ins.self E_b) (g := (mkF mM 8 #[.val (.ref a), .val (.ref b), .unset] [(.ref b)])) rfl rfl (hb hby d12_8)
  refine own_st (A := T87.setTop (mkF mM 11 #[.val (.ref a), .val (.ref b), .unset] [(.int (1 : Int32))])) (fun tT_ kK_ => st87 tT_ kK_) ?_
  refine own_st (A := T87.setTop (mkF mM 14 #[.val (.ref a), .val (.ref b), .unset] [])) (fun tT_ kK_ => XS.ifNo X87.here hx rfl (hb hby d12_11) rfl ((if0 _ _).trans (feq (by decide : ¬ ((1 : Int32) = (0 : Int32)))).1) kK_) ?_
  refine own_st (A := T87.setTop (mkF mM 15 #[.val (.ref a), .val (.ref b), .unset] [(.ref b)])) (fun tT_ kK_ => XS.aloadN X87.here hx rfl (hb hby d12_14) rfl rfl kK_) ?_
  obtain ⟨T88, X88, e88, st88⟩ := castY X87 hx hZ hown (hw _ (List.mem_of_getElem? (i := 67) rfl)) e87 (Ins.self E_b) (g := (mkF mM 15 #[.val (.ref a), .val (.ref b), .unset] [(.ref b)])) rfl rfl (hb hby d12_15)
  refine own_st (A := T88.setTop (mkF mM 18 #[.val (.ref a), .val (.ref b), .unset] [(.ref b)])) (fun tT_ kK_ => st88 tT_ kK_) ?_
  refine own_st (A := T88.setTop (mkF mM 19 #[.val (.ref a), .val (.ref b), .val (.ref b)] [])) (fun tT_ kK_ => XS.astoreN X88.here hx rfl (hb hby d12_18) rfl rfl (l' := #[.val (.ref a), .val (.ref b), .val (.ref b)]) rfl kK_) ?_
  obtain ⟨T89, X89, e89, st89⟩ := getS2 X88 hx hZ hown (host := "") (Or.inl (hw _ (List.mem_of_getElem? (i := 18) rfl))) Via.refl e88 S_cs (g := (mkF mM 19 #[.val (.ref a), .val (.ref b), .val (.ref b)] [])) rfl (hb hby d12_19)
  refine own_st (A := T89.setTop (mkF mM 22 #[.val (.ref a), .val (.ref b), .val (.ref b)] [(.int cs)])) (fun tT_ kK_ => st89 tT_ kK_) ?_
  refine own_st (A := T89.setTop (mkF mM 25 #[.val (.ref a), .val (.ref b), .val (.ref b)] [])) (fun tT_ kK_ => XS.ifNo X89.here hx rfl (hb hby d12_22) rfl ((if0 _ _).trans (feq hcs).1) kK_) ?_
  refine own_st (A := T89.setTop (mkF mM 26 #[.val (.ref a), .val (.ref b), .val (.ref b)] [(.ref a)])) (fun tT_ kK_ => XS.aloadN X89.here hx rfl (hb hby d12_25) rfl rfl kK_) ?_
  obtain ⟨T90, X90, e90, st90⟩ := getF X89 hx hZ hown (host := "") (Or.inl (hw _ (List.mem_of_getElem? (i := 30) rfl))) Via.refl e89 F_a_coder (g := (mkF mM 26 #[.val (.ref a), .val (.ref b), .val (.ref b)] [(.ref a)])) rfl rfl (hb hby d12_26)
  refine own_st (A := T90.setTop (mkF mM 29 #[.val (.ref a), .val (.ref b), .val (.ref b)] [(.int (0 : Int32))])) (fun tT_ kK_ => st90 tT_ kK_) ?_
  refine own_st (A := T90.setTop (mkF mM 30 #[.val (.ref a), .val (.ref b), .val (.ref b)] [(.ref b), (.int (0 : Int32))])) (fun tT_ kK_ => XS.aloadN X90.here hx rfl (hb hby d12_29) rfl rfl kK_) ?_
  obtain ⟨T91, X91, e91, st91⟩ := getF X90 hx hZ hown (host := "") (Or.inl (hw _ (List.mem_of_getElem? (i := 30) rfl))) Via.refl e90 F_b_coder (g := (mkF mM 30 #[.val (.ref a), .val (.ref b), .val (.ref b)] [(.ref b), (.int (0 : Int32))])) rfl rfl (hb hby d12_30)
  refine own_st (A := T91.setTop (mkF mM 33 #[.val (.ref a), .val (.ref b), .val (.ref b)] [(.int (0 : Int32)), (.int (0 : Int32))])) (fun tT_ kK_ => st91 tT_ kK_) ?_
  refine own_st (A := T91.setTop (mkF mM 36 #[.val (.ref a), .val (.ref b), .val (.ref b)] [])) (fun tT_ kK_ => XS.icmpNo X91.here hx rfl (hb hby d12_33) rfl (teq (by decide : ((0 : Int32) = (0 : Int32)))).2 kK_) ?_
  refine own_st (A := T91.setTop (mkF mM 37 #[.val (.ref a), .val (.ref b), .val (.ref b)] [(.ref a)])) (fun tT_ kK_ => XS.aloadN X91.here hx rfl (hb hby d12_36) rfl rfl kK_) ?_
  obtain ⟨T92, X92, e92, st92⟩ := getF X91 hx hZ hown (host := "") (Or.inl (hw _ (List.mem_of_getElem? (i := 32) rfl))) Via.refl e91 F_a_value (g := (mkF mM 37 #[.val (.ref a), .val (.ref b), .val (.ref b)] [(.ref a)])) rfl rfl (hb hby d12_37)
  refine own_st (A := T92.setTop (mkF mM 40 #[.val (.ref a), .val (.ref b), .val (.ref b)] [(.ref a')])) (fun tT_ kK_ => st92 tT_ kK_) ?_
  refine own_st (A := T92.setTop (mkF mM 41 #[.val (.ref a), .val (.ref b), .val (.ref b)] [(.ref b), (.ref a')])) (fun tT_ kK_ => XS.aloadN X92.here hx rfl (hb hby d12_40) rfl rfl kK_) ?_
  obtain ⟨T93, X93, e93, st93⟩ := getF X92 hx hZ hown (host := "") (Or.inl (hw _ (List.mem_of_getElem? (i := 32) rfl))) Via.refl e92 F_b_value (g := (mkF mM 41 #[.val (.ref a), .val (.ref b), .val (.ref b)] [(.ref b), (.ref a')])) rfl rfl (hb hby d12_41)
  refine own_st (A := T93.setTop (mkF mM 44 #[.val (.ref a), .val (.ref b), .val (.ref b)] [(.ref b'), (.ref a')])) (fun tT_ kK_ => st93 tT_ kK_) ?_
  obtain ⟨_, _, ⟨T94, L94, k94, n94⟩, -, X94, ⟨Lc94, hQ94, l94, y94, z94⟩, st94⟩ := Jvm.LawKit.callS X93 hx (y := (⟨"java/lang/StringLatin1", "equals", "([B[B)Z"⟩ : MethodName)) hown (mvT hZ (hw _ (List.mem_of_getElem? (i := 68) rfl))) (mvT hZ (hw _ (List.mem_of_getElem? (i := 69) rfl))) (mvT hZ (hw _ (List.mem_of_getElem? (i := 70) rfl))) (mvT hZ (hw _ (List.mem_of_getElem? (i := 71) rfl))) (by decide) (backOf (W := 0) (rmLE21 lL Z a0 hw [] a' ka b' kb x0 x1 y0 r h0 n0 A_a' A_b' qe9) hZ (hw _ (List.mem_of_getElem? (i := 71) rfl)) (hw _ (List.mem_of_getElem? (i := 70) rfl)) (by decide) (by decide)) (g := (mkF mM 44 #[.val (.ref a), .val (.ref b), .val (.ref b)] [(.ref b'), (.ref a')])) rfl (by rw [hml]; rfl) (argsL := [(.ref a'), (.ref b')]) (rest := []) (lenOf pd__28_5bB_5bB_29Z rfl) rfl (by show 2 * 0 + _ ≤ _; exact Nat.le_of_eq rfl) (hb hby d12_44) (fun _ _ => ⟨rfl, e93, (by decide : 0 + 0 ≤ _), (by decide : 0 + 0 ≤ _)⟩)
  dsimp only [Pt.U, Pt.locs, Pt.cells, Pt.slots] at X94 l94 y94 z94 st94 hQ94
  subst l94 y94 z94
  obtain ⟨rfl, N94q, e94⟩ := hQ94
  have N94 := Fr.app N0 N94q
  refine own_st (A := T94.setTop (mkF mM 47 #[.val (.ref a), .val (.ref b), .val (.ref b)] [(.int r)])) (fun tT_ kK_ => st94 tT_ kK_) ?_
  by_cases hc47_95 : r = (0 : Int32)
  · skip
    refine own_st (A := T94.setTop (mkF mM 54 #[.val (.ref a), .val (.ref b), .val (.ref b)] [])) (fun tT_ kK_ => XS.ifYes X94.here hx rfl (pc0 := 47) (pc' := 54) rfl (hb hby d12_47) rfl ((if0 _ _).trans (teq hc47_95).1) (by decide) (by decide) kK_) ?_
    refine own_st (A := T94.setTop (mkF mM 55 #[.val (.ref a), .val (.ref b), .val (.ref b)] [(.int (0 : Int32))])) (fun tT_ kK_ => XS.iconst X94.here hx rfl (hb hby d12_54) kK_) ?_
    exact own_retN X94 hx hlk (t := .boolean) hret (by simp) (hb hby d12_55) (by rw [hc47_95]; exact ⟨rfl, N94, e94⟩) (by decide) (by decide)
  · skip
    refine own_st (A := T94.setTop (mkF mM 50 #[.val (.ref a), .val (.ref b), .val (.ref b)] [])) (fun tT_ kK_ => XS.ifNo X94.here hx rfl (hb hby d12_47) rfl ((if0 _ _).trans (feq hc47_95).1) kK_) ?_
    refine own_st (A := T94.setTop (mkF mM 51 #[.val (.ref a), .val (.ref b), .val (.ref b)] [(.int (1 : Int32))])) (fun tT_ kK_ => XS.iconst X94.here hx rfl (hb hby d12_50) kK_) ?_
    refine own_st (A := T94.setTop (mkF mM 55 #[.val (.ref a), .val (.ref b), .val (.ref b)] [(.int (1 : Int32))])) (fun tT_ kK_ => XS.goto X94.here hx rfl (pc0 := 51) (pc' := 55) rfl (hb hby d12_51) (by decide) (by decide) kK_) ?_
    exact own_retN X94 hx hlk (t := .boolean) hret (by simp) (hb hby d12_55) (by rw [d01.resolve_left hc47_95]; exact ⟨rfl, N94, e94⟩) (by decide) (by decide)
theorem ef_rmLE22 (mM : MethodId) (a : Addr) (ka : ClassId) (b : Addr) (kb : ClassId) (x0 : Int32) (x1 : Int32) (y0 : Int32) (y1 : Int32) (r : Int32) : entryFrame mM #[(.ref a), (.ref b)] 3 = mkF mM 0 #[.val (.ref a), .val (.ref b), .unset] [] := by first | (simp [entryFrame, mkF, argsToLocals, Value.category]; done) | rfl
set_option maxRecDepth 65536 in
set_option maxHeartbeats 40000000 in
theorem rmLE22 (lL : Launch) (Z : State) (a0 : Array Value) (hw : ∀ d ∈ tables_1, d.before a0 Z = true) (ws : List Jvm.Cond) (a : Addr) (ka : ClassId) (b : Addr) (kb : ClassId) (x0 : Int32) (x1 : Int32) (y0 : Int32) (y1 : Int32) (r : Int32) (h0 : Heap) (n0 : Nat) (A_a : Arv Z h0 a ka .byte 2 [(.int (((x0).toInt8.toInt32)).toInt8.toInt32), (.int (((x1).toInt8.toInt32)).toInt8.toInt32)] (.int 0)) (A_b : Arv Z h0 b kb .byte 2 [(.int (((y0).toInt8.toInt32)).toInt8.toInt32), (.int (((y1).toInt8.toInt32)).toInt8.toInt32)] (.int 0)) (qe0 : ¬ (((x0).toInt8.toInt32)).toInt8.toInt32 = (((y0).toInt8.toInt32)).toInt8.toInt32 → r = 0) (qe1 : (((x0).toInt8.toInt32)).toInt8.toInt32 = (((y0).toInt8.toInt32)).toInt8.toInt32 → ¬ (((x1).toInt8.toInt32)).toInt8.toInt32 = (((y1).toInt8.toInt32)).toInt8.toInt32 → r = 0) (qe9 : (((x0).toInt8.toInt32)).toInt8.toInt32 = (((y0).toInt8.toInt32)).toInt8.toInt32 → (((x1).toInt8.toInt32)).toInt8.toInt32 = (((y1).toInt8.toInt32)).toInt8.toInt32 → r = 1) :
    MetFree lL (⟨"java/lang/StringLatin1", "equals", "([B[B)Z"⟩ : MethodName) (head1 (Jvm.Cond.code (⟨"java/lang/StringLatin1", "equals", "([B[B)Z"⟩ : MethodName) jdk_43_method_13_code 3 (some .boolean) :: ws) ({ frames := 0, cells := 0, slots := 0, locals := 0 } : Room)) (fun as_ uU_ => as_ = #[(.ref a), (.ref b)] ∧ Z.Warmed39 uU_.vm ∧ uU_.heap = h0) (fun _ _ _ _ _ => True) (fun _ uU_ oO_ uE_ => ∃ vV_ lL_, oO_ = .returned vV_ ∧ Qw (.int r) h0 n0 vV_ uE_.heap lL_ ∧ FrameEnd uU_ oO_ uE_ lL_ ({ frames := 0, cells := 0, slots := 0, locals := 0 } : Room).cells ({ frames := 0, cells := 0, slots := 0, locals := 0 } : Room).slots) := by
  refine MetFree.of_bodySF (plainFor_of_name pn_java_2flang_2fStringLatin1) hisR ?_
  intro pP eE sS mM args below meth cC s₁ Bd hml0 hP hK
  obtain ⟨rfl, hZ, hh⟩ := hP
  have hx := Bd.exec
  have hby := Bd.bytes
  have hml : cC.maxLocals = 3 := hml0
  have hown : sS.vm.findClass "java/lang/StringLatin1" = some mM.cls := findClass_of_methodNamed Bd.named
  have hnm := (name_of_methodNamed Bd.named Bd.method).1
  have hret := Bd.returns
  have hlk := BodyLoose.notSynchronized Bd
  have X0 : Stand pP lL eE ({ frames := 0, cells := 0, slots := 0, locals := 0 } : Room) sS mM #[(.ref a), (.ref b)] below meth cC s₁ [] 0 0 := Stand.of_body Bd
  have e0 : s₁.heap = h0 := by rw [← hh, Bd.state]; rfl
  have N0 := Fr.nil n0
  show own_Go pP eE below sS (Qw (.int r) h0 n0) 0 0 (s₁.setTop (entryFrame mM #[(.ref a), (.ref b)] 3))
  refine own_st (A := s₁.setTop (mkF mM 0 #[.val (.ref a), .val (.ref b), .unset] [])) (fun tT_ kK_ => castTop (ef_rmLE22 mM a ka b kb x0 x1 y0 y1 r) kK_) ?_
  refine own_st (A := s₁.setTop (mkF mM 1 #[.val (.ref a), .val (.ref b), .unset] [(.ref a)])) (fun tT_ kK_ => XS.aloadN X0.here hx rfl (hb hby d13_0) rfl rfl kK_) ?_
  obtain ⟨cl96, Ar96, q96, S96, Nn96, H96, G96⟩ := id A_a
  refine own_st (A := s₁.setTop (mkF mM 2 #[.val (.ref a), .val (.ref b), .unset] [(.int (2 : Int32))])) (fun tT_ kK_ => X0.arraylength hx (by rw [e0]; exact Ar96.1) (State.isArrayOf_alike hZ.alike Ar96.2.1) (g := (mkF mM 1 #[.val (.ref a), .val (.ref b), .unset] [(.ref a)])) rfl rfl (hb hby d13_1) tT_ (by rw [len_of S96 Nn96]; exact kK_)) ?_
  refine own_st (A := s₁.setTop (mkF mM 3 #[.val (.ref a), .val (.ref b), .unset] [(.ref b), (.int (2 : Int32))])) (fun tT_ kK_ => XS.aloadN X0.here hx rfl (hb hby d13_2) rfl rfl kK_) ?_
  obtain ⟨cl97, Ar97, q97, S97, Nn97, H97, G97⟩ := id A_b
  refine own_st (A := s₁.setTop (mkF mM 4 #[.val (.ref a), .val (.ref b), .unset] [(.int (2 : Int32)), (.int (2 : Int32))])) (fun tT_ kK_ => X0.arraylength hx (by rw [e0]; exact Ar97.1) (State.isArrayOf_alike hZ.alike Ar97.2.1) (g := (mkF mM 3 #[.val (.ref a), .val (.ref b), .unset] [(.ref b), (.int (2 : Int32))])) rfl rfl (hb hby d13_3) tT_ (by rw [len_of S97 Nn97]; exact kK_)) ?_
  refine own_st (A := s₁.setTop (mkF mM 7 #[.val (.ref a), .val (.ref b), .unset] [])) (fun tT_ kK_ => XS.icmpNo X0.here hx rfl (hb hby d13_4) rfl (teq (by decide : ((2 : Int32) = (2 : Int32)))).2 kK_) ?_
  refine own_st (A := s₁.setTop (mkF mM 8 #[.val (.ref a), .val (.ref b), .unset] [(.int (0 : Int32))])) (fun tT_ kK_ => XS.iconst X0.here hx rfl (hb hby d13_7) kK_) ?_
  refine own_st (A := s₁.setTop (mkF mM 9 #[.val (.ref a), .val (.ref b), .val (.int (0 : Int32))] [])) (fun tT_ kK_ => XS.istoreN X0.here hx rfl (hb hby d13_8) rfl (l' := #[.val (.ref a), .val (.ref b), .val (.int (0 : Int32))]) rfl kK_) ?_
  refine own_st (A := s₁.setTop (mkF mM 10 #[.val (.ref a), .val (.ref b), .val (.int (0 : Int32))] [(.int (0 : Int32))])) (fun tT_ kK_ => XS.iloadN X0.here hx rfl (hb hby d13_9) rfl kK_) ?_
  refine own_st (A := s₁.setTop (mkF mM 11 #[.val (.ref a), .val (.ref b), .val (.int (0 : Int32))] [(.ref a), (.int (0 : Int32))])) (fun tT_ kK_ => XS.aloadN X0.here hx rfl (hb hby d13_10) rfl rfl kK_) ?_
  obtain ⟨cl98, Ar98, q98, S98, Nn98, H98, G98⟩ := id A_a
  refine own_st (A := s₁.setTop (mkF mM 12 #[.val (.ref a), .val (.ref b), .val (.int (0 : Int32))] [(.int (2 : Int32)), (.int (0 : Int32))])) (fun tT_ kK_ => X0.arraylength hx (by rw [e0]; exact Ar98.1) (State.isArrayOf_alike hZ.alike Ar98.2.1) (g := (mkF mM 11 #[.val (.ref a), .val (.ref b), .val (.int (0 : Int32))] [(.ref a), (.int (0 : Int32))])) rfl rfl (hb hby d13_11) tT_ (by rw [len_of S98 Nn98]; exact kK_)) ?_
  refine own_st (A := s₁.setTop (mkF mM 15 #[.val (.ref a), .val (.ref b), .val (.int (0 : Int32))] [])) (fun tT_ kK_ => XS.icmpNo X0.here hx rfl (hb hby d13_12) rfl (tlt (by decide : ((0 : Int32) < (2 : Int32)))).2.1 kK_) ?_
  refine own_st (A := s₁.setTop (mkF mM 16 #[.val (.ref a), .val (.ref b), .val (.int (0 : Int32))] [(.ref a)])) (fun tT_ kK_ => XS.aloadN X0.here hx rfl (hb hby d13_15) rfl rfl kK_) ?_
  refine own_st (A := s₁.setTop (mkF mM 17 #[.val (.ref a), .val (.ref b), .val (.int (0 : Int32))] [(.int (0 : Int32)), (.ref a)])) (fun tT_ kK_ => XS.iloadN X0.here hx rfl (hb hby d13_16) rfl kK_) ?_
  obtain ⟨cl99, Ar99, q99, S99, Nn99, H99, G99⟩ := id A_a
  have hin99 : ¬ ((0 : Int32) < 0 ∨ cl99.slots.size ≤ ((0 : Int32)).toNatClampNeg) := inb_of S99 ⟨by decide, by decide⟩
  refine own_st (A := s₁.setTop (mkF mM 18 #[.val (.ref a), .val (.ref b), .val (.int (0 : Int32))] [(.int (((x0).toInt8.toInt32)).toInt8.toInt32)])) (fun tT_ kK_ => X0.baloadBytes hx (j := (0 : Int32)) (v := (.int (((x0).toInt8.toInt32)).toInt8.toInt32)) (by rw [e0]; exact Ar99.1) (State.isArrayOf_alike hZ.alike Ar99.2.1) Ar99.2.2 hin99 (H99.at hin99 rfl) (g := (mkF mM 17 #[.val (.ref a), .val (.ref b), .val (.int (0 : Int32))] [(.int (0 : Int32)), (.ref a)])) rfl rfl (hb hby d13_17) tT_ kK_) ?_
  refine own_st (A := s₁.setTop (mkF mM 19 #[.val (.ref a), .val (.ref b), .val (.int (0 : Int32))] [(.ref b), (.int (((x0).toInt8.toInt32)).toInt8.toInt32)])) (fun tT_ kK_ => XS.aloadN X0.here hx rfl (hb hby d13_18) rfl rfl kK_) ?_
  refine own_st (A := s₁.setTop (mkF mM 20 #[.val (.ref a), .val (.ref b), .val (.int (0 : Int32))] [(.int (0 : Int32)), (.ref b), (.int (((x0).toInt8.toInt32)).toInt8.toInt32)])) (fun tT_ kK_ => XS.iloadN X0.here hx rfl (hb hby d13_19) rfl kK_) ?_
  obtain ⟨cl100, Ar100, q100, S100, Nn100, H100, G100⟩ := id A_b
  have hin100 : ¬ ((0 : Int32) < 0 ∨ cl100.slots.size ≤ ((0 : Int32)).toNatClampNeg) := inb_of S100 ⟨by decide, by decide⟩
  refine own_st (A := s₁.setTop (mkF mM 21 #[.val (.ref a), .val (.ref b), .val (.int (0 : Int32))] [(.int (((y0).toInt8.toInt32)).toInt8.toInt32), (.int (((x0).toInt8.toInt32)).toInt8.toInt32)])) (fun tT_ kK_ => X0.baloadBytes hx (j := (0 : Int32)) (v := (.int (((y0).toInt8.toInt32)).toInt8.toInt32)) (by rw [e0]; exact Ar100.1) (State.isArrayOf_alike hZ.alike Ar100.2.1) Ar100.2.2 hin100 (H100.at hin100 rfl) (g := (mkF mM 20 #[.val (.ref a), .val (.ref b), .val (.int (0 : Int32))] [(.int (0 : Int32)), (.ref b), (.int (((x0).toInt8.toInt32)).toInt8.toInt32)])) rfl rfl (hb hby d13_20) tT_ kK_) ?_
  by_cases hc21_101 : (((x0).toInt8.toInt32)).toInt8.toInt32 = (((y0).toInt8.toInt32)).toInt8.toInt32
  · skip
    refine own_st (A := s₁.setTop (mkF mM 26 #[.val (.ref a), .val (.ref b), .val (.int (0 : Int32))] [])) (fun tT_ kK_ => XS.icmpYes X0.here hx rfl (pc0 := 21) (pc' := 26) rfl (hb hby d13_21) rfl (teq hc21_101).1 (by decide) (by decide) kK_) ?_
    refine own_st (A := s₁.setTop (mkF mM 29 #[.val (.ref a), .val (.ref b), .val (.int (1 : Int32))] [])) (fun tT_ kK_ => XS.iinc X0.here hx rfl (hb hby d13_26) rfl (l' := #[.val (.ref a), .val (.ref b), .val (.int (1 : Int32))]) rfl kK_) ?_
    refine own_st (A := s₁.setTop (mkF mM 9 #[.val (.ref a), .val (.ref b), .val (.int (1 : Int32))] [])) (fun tT_ kK_ => XS.goto X0.here hx rfl (pc0 := 29) (pc' := 9) rfl (hb hby d13_29) (by decide) (by decide) kK_) ?_
    refine own_st (A := s₁.setTop (mkF mM 10 #[.val (.ref a), .val (.ref b), .val (.int (1 : Int32))] [(.int (1 : Int32))])) (fun tT_ kK_ => XS.iloadN X0.here hx rfl (hb hby d13_9) rfl kK_) ?_
    refine own_st (A := s₁.setTop (mkF mM 11 #[.val (.ref a), .val (.ref b), .val (.int (1 : Int32))] [(.ref a), (.int (1 : Int32))])) (fun tT_ kK_ => XS.aloadN X0.here hx rfl (hb hby d13_10) rfl rfl kK_) ?_
    obtain ⟨cl102, Ar102, q102, S102, Nn102, H102, G102⟩ := id A_a
    refine own_st (A := s₁.setTop (mkF mM 12 #[.val (.ref a), .val (.ref b), .val (.int (1 : Int32))] [(.int (2 : Int32)), (.int (1 : Int32))])) (fun tT_ kK_ => X0.arraylength hx (by rw [e0]; exact Ar102.1) (State.isArrayOf_alike hZ.alike Ar102.2.1) (g := (mkF mM 11 #[.val (.ref a), .val (.ref b), .val (.int (1 : Int32))] [(.ref a), (.int (1 : Int32))])) rfl rfl (hb hby d13_11) tT_ (by rw [len_of S102 Nn102]; exact kK_)) ?_
    refine own_st (A := s₁.setTop (mkF mM 15 #[.val (.ref a), .val (.ref b), .val (.int (1 : Int32))] [])) (fun tT_ kK_ => XS.icmpNo X0.here hx rfl (hb hby d13_12) rfl (tlt (by decide : ((1 : Int32) < (2 : Int32)))).2.1 kK_) ?_
    refine own_st (A := s₁.setTop (mkF mM 16 #[.val (.ref a), .val (.ref b), .val (.int (1 : Int32))] [(.ref a)])) (fun tT_ kK_ => XS.aloadN X0.here hx rfl (hb hby d13_15) rfl rfl kK_) ?_
    refine own_st (A := s₁.setTop (mkF mM 17 #[.val (.ref a), .val (.ref b), .val (.int (1 : Int32))] [(.int (1 : Int32)), (.ref a)])) (fun tT_ kK_ => XS.iloadN X0.here hx rfl (hb hby d13_16) rfl kK_) ?_
    obtain ⟨cl103, Ar103, q103, S103, Nn103, H103, G103⟩ := id A_a
    have hin103 : ¬ ((1 : Int32) < 0 ∨ cl103.slots.size ≤ ((1 : Int32)).toNatClampNeg) := inb_of S103 ⟨by decide, by decide⟩
    refine own_st (A := s₁.setTop (mkF mM 18 #[.val (.ref a), .val (.ref b), .val (.int (1 : Int32))] [(.int (((x1).toInt8.toInt32)).toInt8.toInt32)])) (fun tT_ kK_ => X0.baloadBytes hx (j := (1 : Int32)) (v := (.int (((x1).toInt8.toInt32)).toInt8.toInt32)) (by rw [e0]; exact Ar103.1) (State.isArrayOf_alike hZ.alike Ar103.2.1) Ar103.2.2 hin103 (H103.at hin103 rfl) (g := (mkF mM 17 #[.val (.ref a), .val (.ref b), .val (.int (1 : Int32))] [(.int (1 : Int32)), (.ref a)])) rfl rfl (hb hby d13_17) tT_ kK_) ?_
    refine own_st (A := s₁.setTop (mkF mM 19 #[.val (.ref a), .val (.ref b), .val (.int (1 : Int32))] [(.ref b), (.int (((x1).toInt8.toInt32)).toInt8.toInt32)])) (fun tT_ kK_ => XS.aloadN X0.here hx rfl (hb hby d13_18) rfl rfl kK_) ?_
    refine own_st (A := s₁.setTop (mkF mM 20 #[.val (.ref a), .val (.ref b), .val (.int (1 : Int32))] [(.int (1 : Int32)), (.ref b), (.int (((x1).toInt8.toInt32)).toInt8.toInt32)])) (fun tT_ kK_ => XS.iloadN X0.here hx rfl (hb hby d13_19) rfl kK_) ?_
    obtain ⟨cl104, Ar104, q104, S104, Nn104, H104, G104⟩ := id A_b
    have hin104 : ¬ ((1 : Int32) < 0 ∨ cl104.slots.size ≤ ((1 : Int32)).toNatClampNeg) := inb_of S104 ⟨by decide, by decide⟩
    refine own_st (A := s₁.setTop (mkF mM 21 #[.val (.ref a), .val (.ref b), .val (.int (1 : Int32))] [(.int (((y1).toInt8.toInt32)).toInt8.toInt32), (.int (((x1).toInt8.toInt32)).toInt8.toInt32)])) (fun tT_ kK_ => X0.baloadBytes hx (j := (1 : Int32)) (v := (.int (((y1).toInt8.toInt32)).toInt8.toInt32)) (by rw [e0]; exact Ar104.1) (State.isArrayOf_alike hZ.alike Ar104.2.1) Ar104.2.2 hin104 (H104.at hin104 rfl) (g := (mkF mM 20 #[.val (.ref a), .val (.ref b), .val (.int (1 : Int32))] [(.int (1 : Int32)), (.ref b), (.int (((x1).toInt8.toInt32)).toInt8.toInt32)])) rfl rfl (hb hby d13_20) tT_ kK_) ?_
    by_cases hc21_105 : (((x1).toInt8.toInt32)).toInt8.toInt32 = (((y1).toInt8.toInt32)).toInt8.toInt32
    · skip
      refine own_st (A := s₁.setTop (mkF mM 26 #[.val (.ref a), .val (.ref b), .val (.int (1 : Int32))] [])) (fun tT_ kK_ => XS.icmpYes X0.here hx rfl (pc0 := 21) (pc' := 26) rfl (hb hby d13_21) rfl (teq hc21_105).1 (by decide) (by decide) kK_) ?_
      refine own_st (A := s₁.setTop (mkF mM 29 #[.val (.ref a), .val (.ref b), .val (.int (2 : Int32))] [])) (fun tT_ kK_ => XS.iinc X0.here hx rfl (hb hby d13_26) rfl (l' := #[.val (.ref a), .val (.ref b), .val (.int (2 : Int32))]) rfl kK_) ?_
      refine own_st (A := s₁.setTop (mkF mM 9 #[.val (.ref a), .val (.ref b), .val (.int (2 : Int32))] [])) (fun tT_ kK_ => XS.goto X0.here hx rfl (pc0 := 29) (pc' := 9) rfl (hb hby d13_29) (by decide) (by decide) kK_) ?_
      refine own_st (A := s₁.setTop (mkF mM 10 #[.val (.ref a), .val (.ref b), .val (.int (2 : Int32))] [(.int (2 : Int32))])) (fun tT_ kK_ => XS.iloadN X0.here hx rfl (hb hby d13_9) rfl kK_) ?_
      refine own_st (A := s₁.setTop (mkF mM 11 #[.val (.ref a), .val (.ref b), .val (.int (2 : Int32))] [(.ref a), (.int (2 : Int32))])) (fun tT_ kK_ => XS.aloadN X0.here hx rfl (hb hby d13_10) rfl rfl kK_) ?_
      obtain ⟨cl106, Ar106, q106, S106, Nn106, H106, G106⟩ := id A_a
      refine own_st (A := s₁.setTop (mkF mM 12 #[.val (.ref a), .val (.ref b), .val (.int (2 : Int32))] [(.int (2 : Int32)), (.int (2 : Int32))])) (fun tT_ kK_ => X0.arraylength hx (by rw [e0]; exact Ar106.1) (State.isArrayOf_alike hZ.alike Ar106.2.1) (g := (mkF mM 11 #[.val (.ref a), .val (.ref b), .val (.int (2 : Int32))] [(.ref a), (.int (2 : Int32))])) rfl rfl (hb hby d13_11) tT_ (by rw [len_of S106 Nn106]; exact kK_)) ?_
      refine own_st (A := s₁.setTop (mkF mM 32 #[.val (.ref a), .val (.ref b), .val (.int (2 : Int32))] [])) (fun tT_ kK_ => XS.icmpYes X0.here hx rfl (pc0 := 12) (pc' := 32) rfl (hb hby d13_12) rfl (flt (by decide : ¬ ((2 : Int32) < (2 : Int32)))).2.1 (by decide) (by decide) kK_) ?_
      refine own_st (A := s₁.setTop (mkF mM 33 #[.val (.ref a), .val (.ref b), .val (.int (2 : Int32))] [(.int (1 : Int32))])) (fun tT_ kK_ => XS.iconst X0.here hx rfl (hb hby d13_32) kK_) ?_
      exact own_retN X0 hx hlk (t := .boolean) hret (by simp) (hb hby d13_33) (by rw [qe9 hc21_101 hc21_105]; exact ⟨rfl, N0, e0⟩) (by decide) (by decide)
    · skip
      refine own_st (A := s₁.setTop (mkF mM 24 #[.val (.ref a), .val (.ref b), .val (.int (1 : Int32))] [])) (fun tT_ kK_ => XS.icmpNo X0.here hx rfl (hb hby d13_21) rfl (feq hc21_105).1 kK_) ?_
      refine own_st (A := s₁.setTop (mkF mM 25 #[.val (.ref a), .val (.ref b), .val (.int (1 : Int32))] [(.int (0 : Int32))])) (fun tT_ kK_ => XS.iconst X0.here hx rfl (hb hby d13_24) kK_) ?_
      exact own_retN X0 hx hlk (t := .boolean) hret (by simp) (hb hby d13_25) (by rw [qe1 hc21_101 hc21_105]; exact ⟨rfl, N0, e0⟩) (by decide) (by decide)
  · skip
    refine own_st (A := s₁.setTop (mkF mM 24 #[.val (.ref a), .val (.ref b), .val (.int (0 : Int32))] [])) (fun tT_ kK_ => XS.icmpNo X0.here hx rfl (hb hby d13_21) rfl (feq hc21_101).1 kK_) ?_
    refine own_st (A := s₁.setTop (mkF mM 25 #[.val (.ref a), .val (.ref b), .val (.int (0 : Int32))] [(.int (0 : Int32))])) (fun tT_ kK_ => XS.iconst X0.here hx rfl (hb hby d13_24) kK_) ?_
    exact own_retN X0 hx hlk (t := .boolean) hret (by simp) (hb hby d13_25) (by rw [qe0 hc21_101]; exact ⟨rfl, N0, e0⟩) (by decide) (by decide)
theorem ef_rmSE22 (mM : MethodId) (a : Addr) (a' : Addr) (ka : ClassId) (b : Addr) (b' : Addr) (kb : ClassId) (cs : Int32) (x0 : Int32) (x1 : Int32) (y0 : Int32) (y1 : Int32) (r : Int32) : entryFrame mM #[(.ref a), (.ref b)] 3 = mkF mM 0 #[.val (.ref a), .val (.ref b), .unset] [] := by first | (simp [entryFrame, mkF, argsToLocals, Value.category]; done) | rfl
set_option maxRecDepth 65536 in
set_option maxHeartbeats 40000000 in
theorem rmSE22 (lL : Launch) (Z : State) (a0 : Array Value) (hw : ∀ d ∈ tables_1, d.before a0 Z = true) (ws : List Jvm.Cond) (a : Addr) (a' : Addr) (ka : ClassId) (b : Addr) (b' : Addr) (kb : ClassId) (cs : Int32) (x0 : Int32) (x1 : Int32) (y0 : Int32) (y1 : Int32) (r : Int32) (h0 : Heap) (n0 : Nat) (sa : Str Z h0 a a' ka 2 [(.int (((x0).toInt8.toInt32)).toInt8.toInt32), (.int (((x1).toInt8.toInt32)).toInt8.toInt32)]) (sb : Str Z h0 b b' kb 2 [(.int (((y0).toInt8.toInt32)).toInt8.toInt32), (.int (((y1).toInt8.toInt32)).toInt8.toInt32)]) (nab : a ≠ b) (S_cs : Sta Z h0 "java/lang/String" "COMPACT_STRINGS" "Z" (.int cs)) (hcs : ¬ cs = (0 : Int32)) (cx0 : Ck x0) (cx1 : Ck x1) (cy0 : Ck y0) (cy1 : Ck y1) (qe0 : ¬ x0 = y0 → r = 0) (qe1 : x0 = y0 → ¬ x1 = y1 → r = 0) (qe9 : x0 = y0 → x1 = y1 → r = 1) (d01 : r = 0 ∨ r = 1) :
    MetFree lL (⟨"java/lang/String", "equals", "(Ljava/lang/Object;)Z"⟩ : MethodName) (head1 (Jvm.Cond.code (⟨"java/lang/String", "equals", "(Ljava/lang/Object;)Z"⟩ : MethodName) jdk_42_method_66_code 3 (some .boolean) :: ws) ({ frames := 1, cells := 0, slots := 0, locals := 14 } : Room)) (fun as_ uU_ => as_ = #[(.ref a), (.ref b)] ∧ Z.Warmed39 uU_.vm ∧ uU_.heap = h0) (fun _ _ _ _ _ => True) (fun _ uU_ oO_ uE_ => ∃ vV_ lL_, oO_ = .returned vV_ ∧ Qw (.int r) h0 n0 vV_ uE_.heap lL_ ∧ FrameEnd uU_ oO_ uE_ lL_ ({ frames := 1, cells := 0, slots := 0, locals := 14 } : Room).cells ({ frames := 1, cells := 0, slots := 0, locals := 14 } : Room).slots) := by
  refine MetFree.of_bodySF (plainFor_of_name pn_java_2flang_2fString) hisR ?_
  intro pP eE sS mM args below meth cC s₁ Bd hml0 hP hK
  obtain ⟨rfl, hZ, hh⟩ := hP
  have hx := Bd.exec
  have hby := Bd.bytes
  have hml : cC.maxLocals = 3 := hml0
  have hown : sS.vm.findClass "java/lang/String" = some mM.cls := findClass_of_methodNamed Bd.named
  have hnm := (name_of_methodNamed Bd.named Bd.method).1
  have hret := Bd.returns
  have hlk := BodyLoose.notSynchronized Bd
  have X0 : Stand pP lL eE ({ frames := 1, cells := 0, slots := 0, locals := 14 } : Room) sS mM #[(.ref a), (.ref b)] below meth cC s₁ [] 0 0 := Stand.of_body Bd
  have e0 : s₁.heap = h0 := by rw [← hh, Bd.state]; rfl
  have N0 := Fr.nil n0
  show own_Go pP eE below sS (Qw (.int r) h0 n0) 0 0 (s₁.setTop (entryFrame mM #[(.ref a), (.ref b)] 3))
  refine own_st (A := s₁.setTop (mkF mM 0 #[.val (.ref a), .val (.ref b), .unset] [])) (fun tT_ kK_ => castTop (ef_rmSE22 mM a a' ka b b' kb cs x0 x1 y0 y1 r) kK_) ?_
  obtain ⟨E_a, F_a_value, F_a_coder, A_a'⟩ := sa
  obtain ⟨E_b, F_b_value, F_b_coder, A_b'⟩ := sb
  refine own_st (A := s₁.setTop (mkF mM 1 #[.val (.ref a), .val (.ref b), .unset] [(.ref a)])) (fun tT_ kK_ => XS.aloadN X0.here hx rfl (hb hby d12_0) rfl rfl kK_) ?_
  refine own_st (A := s₁.setTop (mkF mM 2 #[.val (.ref a), .val (.ref b), .unset] [(.ref b), (.ref a)])) (fun tT_ kK_ => XS.aloadN X0.here hx rfl (hb hby d12_1) rfl rfl kK_) ?_
  refine own_st (A := s₁.setTop (mkF mM 7 #[.val (.ref a), .val (.ref b), .unset] [])) (fun tT_ kK_ => Jvm.RoadKit.acmp X0 hx rfl (x := (.ref a)) (y := (.ref b)) rfl rfl (pc0 := 2) (pc' := 7) (same := false) rfl (hb hby d12_2) rfl (decide_eq_false (fun q => nab (Value.ref.inj q))) (by decide) (by decide) kK_) ?_
  refine own_st (A := s₁.setTop (mkF mM 8 #[.val (.ref a), .val (.ref b), .unset] [(.ref b)])) (fun tT_ kK_ => XS.aloadN X0.here hx rfl (hb hby d12_7) rfl rfl kK_) ?_
  obtain ⟨T107, X107, e107, st107⟩ := instY X0 hx hZ hown (hw _ (List.mem_of_getElem? (i := 67) rfl)) e0 (Ins.self E_b) (g := (mkF mM 8 #[.val (.ref a), .val (.ref b), .unset] [(.ref b)])) rfl rfl (hb hby d12_8)
  refine own_st (A := T107.setTop (mkF mM 11 #[.val (.ref a), .val (.ref b), .unset] [(.int (1 : Int32))])) (fun tT_ kK_ => st107 tT_ kK_) ?_
  refine own_st (A := T107.setTop (mkF mM 14 #[.val (.ref a), .val (.ref b), .unset] [])) (fun tT_ kK_ => XS.ifNo X107.here hx rfl (hb hby d12_11) rfl ((if0 _ _).trans (feq (by decide : ¬ ((1 : Int32) = (0 : Int32)))).1) kK_) ?_
  refine own_st (A := T107.setTop (mkF mM 15 #[.val (.ref a), .val (.ref b), .unset] [(.ref b)])) (fun tT_ kK_ => XS.aloadN X107.here hx rfl (hb hby d12_14) rfl rfl kK_) ?_
  obtain ⟨T108, X108, e108, st108⟩ := castY X107 hx hZ hown (hw _ (List.mem_of_getElem? (i := 67) rfl)) e107 (Ins.self E_b) (g := (mkF mM 15 #[.val (.ref a), .val (.ref b), .unset] [(.ref b)])) rfl rfl (hb hby d12_15)
  refine own_st (A := T108.setTop (mkF mM 18 #[.val (.ref a), .val (.ref b), .unset] [(.ref b)])) (fun tT_ kK_ => st108 tT_ kK_) ?_
  refine own_st (A := T108.setTop (mkF mM 19 #[.val (.ref a), .val (.ref b), .val (.ref b)] [])) (fun tT_ kK_ => XS.astoreN X108.here hx rfl (hb hby d12_18) rfl rfl (l' := #[.val (.ref a), .val (.ref b), .val (.ref b)]) rfl kK_) ?_
  obtain ⟨T109, X109, e109, st109⟩ := getS2 X108 hx hZ hown (host := "") (Or.inl (hw _ (List.mem_of_getElem? (i := 18) rfl))) Via.refl e108 S_cs (g := (mkF mM 19 #[.val (.ref a), .val (.ref b), .val (.ref b)] [])) rfl (hb hby d12_19)
  refine own_st (A := T109.setTop (mkF mM 22 #[.val (.ref a), .val (.ref b), .val (.ref b)] [(.int cs)])) (fun tT_ kK_ => st109 tT_ kK_) ?_
  refine own_st (A := T109.setTop (mkF mM 25 #[.val (.ref a), .val (.ref b), .val (.ref b)] [])) (fun tT_ kK_ => XS.ifNo X109.here hx rfl (hb hby d12_22) rfl ((if0 _ _).trans (feq hcs).1) kK_) ?_
  refine own_st (A := T109.setTop (mkF mM 26 #[.val (.ref a), .val (.ref b), .val (.ref b)] [(.ref a)])) (fun tT_ kK_ => XS.aloadN X109.here hx rfl (hb hby d12_25) rfl rfl kK_) ?_
  obtain ⟨T110, X110, e110, st110⟩ := getF X109 hx hZ hown (host := "") (Or.inl (hw _ (List.mem_of_getElem? (i := 30) rfl))) Via.refl e109 F_a_coder (g := (mkF mM 26 #[.val (.ref a), .val (.ref b), .val (.ref b)] [(.ref a)])) rfl rfl (hb hby d12_26)
  refine own_st (A := T110.setTop (mkF mM 29 #[.val (.ref a), .val (.ref b), .val (.ref b)] [(.int (0 : Int32))])) (fun tT_ kK_ => st110 tT_ kK_) ?_
  refine own_st (A := T110.setTop (mkF mM 30 #[.val (.ref a), .val (.ref b), .val (.ref b)] [(.ref b), (.int (0 : Int32))])) (fun tT_ kK_ => XS.aloadN X110.here hx rfl (hb hby d12_29) rfl rfl kK_) ?_
  obtain ⟨T111, X111, e111, st111⟩ := getF X110 hx hZ hown (host := "") (Or.inl (hw _ (List.mem_of_getElem? (i := 30) rfl))) Via.refl e110 F_b_coder (g := (mkF mM 30 #[.val (.ref a), .val (.ref b), .val (.ref b)] [(.ref b), (.int (0 : Int32))])) rfl rfl (hb hby d12_30)
  refine own_st (A := T111.setTop (mkF mM 33 #[.val (.ref a), .val (.ref b), .val (.ref b)] [(.int (0 : Int32)), (.int (0 : Int32))])) (fun tT_ kK_ => st111 tT_ kK_) ?_
  refine own_st (A := T111.setTop (mkF mM 36 #[.val (.ref a), .val (.ref b), .val (.ref b)] [])) (fun tT_ kK_ => XS.icmpNo X111.here hx rfl (hb hby d12_33) rfl (teq (by decide : ((0 : Int32) = (0 : Int32)))).2 kK_) ?_
  refine own_st (A := T111.setTop (mkF mM 37 #[.val (.ref a), .val (.ref b), .val (.ref b)] [(.ref a)])) (fun tT_ kK_ => XS.aloadN X111.here hx rfl (hb hby d12_36) rfl rfl kK_) ?_
  obtain ⟨T112, X112, e112, st112⟩ := getF X111 hx hZ hown (host := "") (Or.inl (hw _ (List.mem_of_getElem? (i := 32) rfl))) Via.refl e111 F_a_value (g := (mkF mM 37 #[.val (.ref a), .val (.ref b), .val (.ref b)] [(.ref a)])) rfl rfl (hb hby d12_37)
  refine own_st (A := T112.setTop (mkF mM 40 #[.val (.ref a), .val (.ref b), .val (.ref b)] [(.ref a')])) (fun tT_ kK_ => st112 tT_ kK_) ?_
  refine own_st (A := T112.setTop (mkF mM 41 #[.val (.ref a), .val (.ref b), .val (.ref b)] [(.ref b), (.ref a')])) (fun tT_ kK_ => XS.aloadN X112.here hx rfl (hb hby d12_40) rfl rfl kK_) ?_
  obtain ⟨T113, X113, e113, st113⟩ := getF X112 hx hZ hown (host := "") (Or.inl (hw _ (List.mem_of_getElem? (i := 32) rfl))) Via.refl e112 F_b_value (g := (mkF mM 41 #[.val (.ref a), .val (.ref b), .val (.ref b)] [(.ref b), (.ref a')])) rfl rfl (hb hby d12_41)
  refine own_st (A := T113.setTop (mkF mM 44 #[.val (.ref a), .val (.ref b), .val (.ref b)] [(.ref b'), (.ref a')])) (fun tT_ kK_ => st113 tT_ kK_) ?_
  obtain ⟨_, _, ⟨T114, L114, k114, n114⟩, -, X114, ⟨Lc114, hQ114, l114, y114, z114⟩, st114⟩ := Jvm.LawKit.callS X113 hx (y := (⟨"java/lang/StringLatin1", "equals", "([B[B)Z"⟩ : MethodName)) hown (mvT hZ (hw _ (List.mem_of_getElem? (i := 68) rfl))) (mvT hZ (hw _ (List.mem_of_getElem? (i := 69) rfl))) (mvT hZ (hw _ (List.mem_of_getElem? (i := 70) rfl))) (mvT hZ (hw _ (List.mem_of_getElem? (i := 71) rfl))) (by decide) (backOf (W := 0) (rmLE22 lL Z a0 hw [] a' ka b' kb x0 x1 y0 y1 r h0 n0 A_a' A_b' (fun z => qe0 (fun t => z (by rw [t]))) (fun q0 z => qe1 (own_b_inj cx0 cy0 q0) (fun t => z (by rw [t]))) (fun q0 q1 => qe9 (own_b_inj cx0 cy0 q0) (own_b_inj cx1 cy1 q1))) hZ (hw _ (List.mem_of_getElem? (i := 71) rfl)) (hw _ (List.mem_of_getElem? (i := 70) rfl)) (by decide) (by decide)) (g := (mkF mM 44 #[.val (.ref a), .val (.ref b), .val (.ref b)] [(.ref b'), (.ref a')])) rfl (by rw [hml]; rfl) (argsL := [(.ref a'), (.ref b')]) (rest := []) (lenOf pd__28_5bB_5bB_29Z rfl) rfl (by show 2 * 0 + _ ≤ _; exact Nat.le_of_eq rfl) (hb hby d12_44) (fun _ _ => ⟨rfl, e113, (by decide : 0 + 0 ≤ _), (by decide : 0 + 0 ≤ _)⟩)
  dsimp only [Pt.U, Pt.locs, Pt.cells, Pt.slots] at X114 l114 y114 z114 st114 hQ114
  subst l114 y114 z114
  obtain ⟨rfl, N114q, e114⟩ := hQ114
  have N114 := Fr.app N0 N114q
  refine own_st (A := T114.setTop (mkF mM 47 #[.val (.ref a), .val (.ref b), .val (.ref b)] [(.int r)])) (fun tT_ kK_ => st114 tT_ kK_) ?_
  by_cases hc47_115 : r = (0 : Int32)
  · skip
    refine own_st (A := T114.setTop (mkF mM 54 #[.val (.ref a), .val (.ref b), .val (.ref b)] [])) (fun tT_ kK_ => XS.ifYes X114.here hx rfl (pc0 := 47) (pc' := 54) rfl (hb hby d12_47) rfl ((if0 _ _).trans (teq hc47_115).1) (by decide) (by decide) kK_) ?_
    refine own_st (A := T114.setTop (mkF mM 55 #[.val (.ref a), .val (.ref b), .val (.ref b)] [(.int (0 : Int32))])) (fun tT_ kK_ => XS.iconst X114.here hx rfl (hb hby d12_54) kK_) ?_
    exact own_retN X114 hx hlk (t := .boolean) hret (by simp) (hb hby d12_55) (by rw [hc47_115]; exact ⟨rfl, N114, e114⟩) (by decide) (by decide)
  · skip
    refine own_st (A := T114.setTop (mkF mM 50 #[.val (.ref a), .val (.ref b), .val (.ref b)] [])) (fun tT_ kK_ => XS.ifNo X114.here hx rfl (hb hby d12_47) rfl ((if0 _ _).trans (feq hc47_115).1) kK_) ?_
    refine own_st (A := T114.setTop (mkF mM 51 #[.val (.ref a), .val (.ref b), .val (.ref b)] [(.int (1 : Int32))])) (fun tT_ kK_ => XS.iconst X114.here hx rfl (hb hby d12_50) kK_) ?_
    refine own_st (A := T114.setTop (mkF mM 55 #[.val (.ref a), .val (.ref b), .val (.ref b)] [(.int (1 : Int32))])) (fun tT_ kK_ => XS.goto X114.here hx rfl (pc0 := 51) (pc' := 55) rfl (hb hby d12_51) (by decide) (by decide) kK_) ?_
    exact own_retN X114 hx hlk (t := .boolean) hret (by simp) (hb hby d12_55) (by rw [d01.resolve_left hc47_115]; exact ⟨rfl, N114, e114⟩) (by decide) (by decide)
theorem d12_5 : decode jdk_42_method_66_code 5 = .ok (.iconst 1, 1) := by decide +kernel
theorem d12_6 : decode jdk_42_method_66_code 6 = .ok (.ireturn, 1) := by decide +kernel
theorem ef_rmSEs (mM : MethodId) (a : Addr) : entryFrame mM #[(.ref a), (.ref a)] 3 = mkF mM 0 #[.val (.ref a), .val (.ref a), .unset] [] := by first | (simp [entryFrame, mkF, argsToLocals, Value.category]; done) | rfl
set_option maxRecDepth 65536 in
set_option maxHeartbeats 40000000 in
theorem rmSEs (lL : Launch) (Z : State) (a0 : Array Value) (hw : ∀ d ∈ tables_1, d.before a0 Z = true) (ws : List Jvm.Cond) (a : Addr) (h0 : Heap) (n0 : Nat)  :
    MetFree lL (⟨"java/lang/String", "equals", "(Ljava/lang/Object;)Z"⟩ : MethodName) (head1 (Jvm.Cond.code (⟨"java/lang/String", "equals", "(Ljava/lang/Object;)Z"⟩ : MethodName) jdk_42_method_66_code 3 (some .boolean) :: ws) ({ frames := 0, cells := 0, slots := 0, locals := 0 } : Room)) (fun as_ uU_ => as_ = #[(.ref a), (.ref a)] ∧ Z.Warmed39 uU_.vm ∧ uU_.heap = h0) (fun _ _ _ _ _ => True) (fun _ uU_ oO_ uE_ => ∃ vV_ lL_, oO_ = .returned vV_ ∧ Qw (.int 1) h0 n0 vV_ uE_.heap lL_ ∧ FrameEnd uU_ oO_ uE_ lL_ ({ frames := 0, cells := 0, slots := 0, locals := 0 } : Room).cells ({ frames := 0, cells := 0, slots := 0, locals := 0 } : Room).slots) := by
  refine MetFree.of_bodySF (plainFor_of_name pn_java_2flang_2fString) hisR ?_
  intro pP eE sS mM args below meth cC s₁ Bd hml0 hP hK
  obtain ⟨rfl, hZ, hh⟩ := hP
  have hx := Bd.exec
  have hby := Bd.bytes
  have hml : cC.maxLocals = 3 := hml0
  have hown : sS.vm.findClass "java/lang/String" = some mM.cls := findClass_of_methodNamed Bd.named
  have hnm := (name_of_methodNamed Bd.named Bd.method).1
  have hret := Bd.returns
  have hlk := BodyLoose.notSynchronized Bd
  have X0 : Stand pP lL eE ({ frames := 0, cells := 0, slots := 0, locals := 0 } : Room) sS mM #[(.ref a), (.ref a)] below meth cC s₁ [] 0 0 := Stand.of_body Bd
  have e0 : s₁.heap = h0 := by rw [← hh, Bd.state]; rfl
  have N0 := Fr.nil n0
  show own_Go pP eE below sS (Qw (.int 1) h0 n0) 0 0 (s₁.setTop (entryFrame mM #[(.ref a), (.ref a)] 3))
  refine own_st (A := s₁.setTop (mkF mM 0 #[.val (.ref a), .val (.ref a), .unset] [])) (fun tT_ kK_ => castTop (ef_rmSEs mM a) kK_) ?_
  refine own_st (A := s₁.setTop (mkF mM 1 #[.val (.ref a), .val (.ref a), .unset] [(.ref a)])) (fun tT_ kK_ => XS.aloadN X0.here hx rfl (hb hby d12_0) rfl rfl kK_) ?_
  refine own_st (A := s₁.setTop (mkF mM 2 #[.val (.ref a), .val (.ref a), .unset] [(.ref a), (.ref a)])) (fun tT_ kK_ => XS.aloadN X0.here hx rfl (hb hby d12_1) rfl rfl kK_) ?_
  refine own_st (A := s₁.setTop (mkF mM 5 #[.val (.ref a), .val (.ref a), .unset] [])) (fun tT_ kK_ => Jvm.RoadKit.acmp X0 hx rfl (x := (.ref a)) (y := (.ref a)) rfl rfl (pc0 := 2) (pc' := 5) (same := true) rfl (hb hby d12_2) rfl (decide_eq_true rfl) (by decide) (by decide) kK_) ?_
  refine own_st (A := s₁.setTop (mkF mM 6 #[.val (.ref a), .val (.ref a), .unset] [(.int (1 : Int32))])) (fun tT_ kK_ => XS.iconst X0.here hx rfl (hb hby d12_5) kK_) ?_
  exact own_retN X0 hx hlk (t := .boolean) hret (by simp) (hb hby d12_6) ⟨rfl, N0, e0⟩ (by decide) (by decide)
def Rol (Z : State) (h : Heap) (a s' : Addr) : Prop := Exa Z h a "com/example/upfront_duty/upfrontduty/algebra/Role" ∧ Fld Z h a "com/example/upfront_duty/upfrontduty/algebra/Role" "name" "Ljava/lang/String;" (.ref s')
theorem own_Rol_ext {Z : State} {h h' : Heap} {a s' : Addr} (o : Rol Z h a s') (E : Ext h h') : Rol Z h' a s' := ⟨o.1.ext E, o.2.ext E⟩
theorem own_Rol_keep {Z : State} {h h' : Heap} {a s' : Addr} {ws : List Addr} (o : Rol Z h a s') (K : Keep h h' ws) (n : a ∉ ws) : Rol Z h' a s' := ⟨o.1.keep K, o.2.keep K n⟩
theorem own_NSroot {Z : State} {a0 : Array Value} {O K : String} {n : Nat} (w : (Jvm.Cond.noSuperclass O).before a0 Z = true) (wk : (Jvm.Cond.instantiable K n).before a0 Z = true) (hn : O ≠ K) : NS Z O K := by
  obtain ⟨c, k, h1, h2, h3, -, -⟩ := Cond.noSuperclass_spec w
  obtain ⟨t, kt, g1, -⟩ := Cond.instantiable_spec wk
  have ne := ids_ne h1 g1 hn
  refine ⟨c, t, h1, g1, fun fuel => ?_⟩
  cases fuel with
  | zero => rfl
  | succ f => simp [Vm.isSubclassAux, ne, h2, h3]
theorem own_NSno {Z : State} {a0 : Array Value} {C S K : String} {n : Nat} (w : (Jvm.Cond.superclass C S).before a0 Z = true) (wk : (Jvm.Cond.instantiable K n).before a0 Z = true) (nS : NS Z C K) (hn : C ≠ K) : ∃ c t, Z.vm.findClass C = some c ∧ Z.vm.findClass K = some t ∧ Z.vm.assignable c t = false := by
  obtain ⟨c, t, h0, g0, n3⟩ := nS
  obtain ⟨p, k, kp, h1, h2, h3, h4, h5, -, h7⟩ := Cond.superclass_spec h0 w
  obtain ⟨t', kt, g1, g2, g3, g4, -⟩ := Cond.instantiable_spec wk
  cases g0.symm.trans g1
  have gi : kt.isInterface = false := (Bool.or_eq_false_iff.mp g4).1
  have ne := ids_ne h0 g0 hn
  refine ⟨c, t, h0, g0, ?_⟩
  show Z.vm.assignableAux (255 + 1) c t = false
  simp [Vm.assignableAux, ne, h2, g2, h5, g3, gi, Vm.isSubclass, n3]
theorem d11_0 : decode prog_20_method_4_code 0 = .ok (.aload_n 1, 1) := by decide +kernel
theorem d11_1 : decode prog_20_method_4_code 1 = .ok (.instanceof 29, 3) := by decide +kernel
theorem d11_4 : decode prog_20_method_4_code 4 = .ok (.ifCond .eq 26, 3) := by decide +kernel
theorem d11_7 : decode prog_20_method_4_code 7 = .ok (.aload_n 1, 1) := by decide +kernel
theorem d11_8 : decode prog_20_method_4_code 8 = .ok (.checkcast 29, 3) := by decide +kernel
theorem d11_11 : decode prog_20_method_4_code 11 = .ok (.astore_n 2, 1) := by decide +kernel
theorem d11_12 : decode prog_20_method_4_code 12 = .ok (.aload_n 0, 1) := by decide +kernel
theorem d11_13 : decode prog_20_method_4_code 13 = .ok (.getfield 28, 3) := by decide +kernel
theorem d11_16 : decode prog_20_method_4_code 16 = .ok (.aload_n 2, 1) := by decide +kernel
theorem d11_17 : decode prog_20_method_4_code 17 = .ok (.getfield 28, 3) := by decide +kernel
theorem d11_20 : decode prog_20_method_4_code 20 = .ok (.invokevirtual 33, 3) := by decide +kernel
theorem pd__28Ljava_2flang_2fObject_3b_29Z : parseMethodDescriptor "(Ljava/lang/Object;)Z" = some ⟨[(.object "java/lang/Object")], some .boolean⟩ := by decide +kernel
theorem d11_23 : decode prog_20_method_4_code 23 = .ok (.ifCond .eq 7, 3) := by decide +kernel
theorem d11_30 : decode prog_20_method_4_code 30 = .ok (.iconst 0, 1) := by decide +kernel
theorem d11_31 : decode prog_20_method_4_code 31 = .ok (.ireturn, 1) := by decide +kernel
theorem d11_26 : decode prog_20_method_4_code 26 = .ok (.iconst 1, 1) := by decide +kernel
theorem d11_27 : decode prog_20_method_4_code 27 = .ok (.goto 4, 3) := by decide +kernel
theorem ef_rmRE11 (mM : MethodId) (a : Addr) (b : Addr) (s1 : Addr) (b1 : Addr) (k1 : ClassId) (s2 : Addr) (b2 : Addr) (k2 : ClassId) (cs : Int32) (x0 : Int32) (y0 : Int32) (r : Int32) : entryFrame mM #[(.ref a), (.ref b)] 3 = mkF mM 0 #[.val (.ref a), .val (.ref b), .unset] [] := by first | (simp [entryFrame, mkF, argsToLocals, Value.category]; done) | rfl
set_option maxRecDepth 65536 in
set_option maxHeartbeats 40000000 in
theorem rmRE11 (lL : Launch) (Z : State) (a0 : Array Value) (hw : ∀ d ∈ tables_1, d.before a0 Z = true) (ws : List Jvm.Cond) (a : Addr) (b : Addr) (s1 : Addr) (b1 : Addr) (k1 : ClassId) (s2 : Addr) (b2 : Addr) (k2 : ClassId) (cs : Int32) (x0 : Int32) (y0 : Int32) (r : Int32) (h0 : Heap) (n0 : Nat) (ra : Rol Z h0 a s1) (rb : Rol Z h0 b s2) (sa : Str Z h0 s1 b1 k1 1 [(.int (((x0).toInt8.toInt32)).toInt8.toInt32)]) (sb : Str Z h0 s2 b2 k2 1 [(.int (((y0).toInt8.toInt32)).toInt8.toInt32)]) (nss : s1 ≠ s2) (S_cs : Sta Z h0 "java/lang/String" "COMPACT_STRINGS" "Z" (.int cs)) (hcs : ¬ cs = (0 : Int32)) (cx0 : Ck x0) (cy0 : Ck y0) (qe0 : ¬ x0 = y0 → r = 0) (qe9 : x0 = y0 → r = 1) (d01 : r = 0 ∨ r = 1) :
    MetFree lL (⟨"com/example/upfront_duty/upfrontduty/algebra/Role", "equals", "(Ljava/lang/Object;)Z"⟩ : MethodName) (head1 (Jvm.Cond.code (⟨"com/example/upfront_duty/upfrontduty/algebra/Role", "equals", "(Ljava/lang/Object;)Z"⟩ : MethodName) prog_20_method_4_code 3 (some .boolean) :: ws) ({ frames := 2, cells := 0, slots := 0, locals := 28 } : Room)) (fun as_ uU_ => as_ = #[(.ref a), (.ref b)] ∧ Z.Warmed39 uU_.vm ∧ uU_.heap = h0) (fun _ _ _ _ _ => True) (fun _ uU_ oO_ uE_ => ∃ vV_ lL_, oO_ = .returned vV_ ∧ Qw (.int r) h0 n0 vV_ uE_.heap lL_ ∧ FrameEnd uU_ oO_ uE_ lL_ ({ frames := 2, cells := 0, slots := 0, locals := 28 } : Room).cells ({ frames := 2, cells := 0, slots := 0, locals := 28 } : Room).slots) := by
  refine MetFree.of_bodySF (plainFor_of_name pn_com_2fexample_2fupfront_duty_2fupfrontduty_2falgebra_2fRole) hisR ?_
  intro pP eE sS mM args below meth cC s₁ Bd hml0 hP hK
  obtain ⟨rfl, hZ, hh⟩ := hP
  have hx := Bd.exec
  have hby := Bd.bytes
  have hml : cC.maxLocals = 3 := hml0
  have hown : sS.vm.findClass "com/example/upfront_duty/upfrontduty/algebra/Role" = some mM.cls := findClass_of_methodNamed Bd.named
  have hnm := (name_of_methodNamed Bd.named Bd.method).1
  have hret := Bd.returns
  have hlk := BodyLoose.notSynchronized Bd
  have X0 : Stand pP lL eE ({ frames := 2, cells := 0, slots := 0, locals := 28 } : Room) sS mM #[(.ref a), (.ref b)] below meth cC s₁ [] 0 0 := Stand.of_body Bd
  have e0 : s₁.heap = h0 := by rw [← hh, Bd.state]; rfl
  have N0 := Fr.nil n0
  show own_Go pP eE below sS (Qw (.int r) h0 n0) 0 0 (s₁.setTop (entryFrame mM #[(.ref a), (.ref b)] 3))
  refine own_st (A := s₁.setTop (mkF mM 0 #[.val (.ref a), .val (.ref b), .unset] [])) (fun tT_ kK_ => castTop (ef_rmRE11 mM a b s1 b1 k1 s2 b2 k2 cs x0 y0 r) kK_) ?_
  refine own_st (A := s₁.setTop (mkF mM 1 #[.val (.ref a), .val (.ref b), .unset] [(.ref b)])) (fun tT_ kK_ => XS.aloadN X0.here hx rfl (hb hby d11_0) rfl rfl kK_) ?_
  obtain ⟨T116, X116, e116, st116⟩ := instY X0 hx hZ hown (hw _ (List.mem_of_getElem? (i := 60) rfl)) e0 (Ins.self rb.1) (g := (mkF mM 1 #[.val (.ref a), .val (.ref b), .unset] [(.ref b)])) rfl rfl (hb hby d11_1)
  refine own_st (A := T116.setTop (mkF mM 4 #[.val (.ref a), .val (.ref b), .unset] [(.int (1 : Int32))])) (fun tT_ kK_ => st116 tT_ kK_) ?_
  refine own_st (A := T116.setTop (mkF mM 7 #[.val (.ref a), .val (.ref b), .unset] [])) (fun tT_ kK_ => XS.ifNo X116.here hx rfl (hb hby d11_4) rfl ((if0 _ _).trans (feq (by decide : ¬ ((1 : Int32) = (0 : Int32)))).1) kK_) ?_
  refine own_st (A := T116.setTop (mkF mM 8 #[.val (.ref a), .val (.ref b), .unset] [(.ref b)])) (fun tT_ kK_ => XS.aloadN X116.here hx rfl (hb hby d11_7) rfl rfl kK_) ?_
  obtain ⟨T117, X117, e117, st117⟩ := castY X116 hx hZ hown (hw _ (List.mem_of_getElem? (i := 60) rfl)) e116 (Ins.self rb.1) (g := (mkF mM 8 #[.val (.ref a), .val (.ref b), .unset] [(.ref b)])) rfl rfl (hb hby d11_8)
  refine own_st (A := T117.setTop (mkF mM 11 #[.val (.ref a), .val (.ref b), .unset] [(.ref b)])) (fun tT_ kK_ => st117 tT_ kK_) ?_
  refine own_st (A := T117.setTop (mkF mM 12 #[.val (.ref a), .val (.ref b), .val (.ref b)] [])) (fun tT_ kK_ => XS.astoreN X117.here hx rfl (hb hby d11_11) rfl rfl (l' := #[.val (.ref a), .val (.ref b), .val (.ref b)]) rfl kK_) ?_
  refine own_st (A := T117.setTop (mkF mM 13 #[.val (.ref a), .val (.ref b), .val (.ref b)] [(.ref a)])) (fun tT_ kK_ => XS.aloadN X117.here hx rfl (hb hby d11_12) rfl rfl kK_) ?_
  obtain ⟨T118, X118, e118, st118⟩ := getF X117 hx hZ hown (host := "") (Or.inl (hw _ (List.mem_of_getElem? (i := 53) rfl))) Via.refl e117 ra.2 (g := (mkF mM 13 #[.val (.ref a), .val (.ref b), .val (.ref b)] [(.ref a)])) rfl rfl (hb hby d11_13)
  refine own_st (A := T118.setTop (mkF mM 16 #[.val (.ref a), .val (.ref b), .val (.ref b)] [(.ref s1)])) (fun tT_ kK_ => st118 tT_ kK_) ?_
  refine own_st (A := T118.setTop (mkF mM 17 #[.val (.ref a), .val (.ref b), .val (.ref b)] [(.ref b), (.ref s1)])) (fun tT_ kK_ => XS.aloadN X118.here hx rfl (hb hby d11_16) rfl rfl kK_) ?_
  obtain ⟨T119, X119, e119, st119⟩ := getF X118 hx hZ hown (host := "") (Or.inl (hw _ (List.mem_of_getElem? (i := 53) rfl))) Via.refl e118 rb.2 (g := (mkF mM 17 #[.val (.ref a), .val (.ref b), .val (.ref b)] [(.ref b), (.ref s1)])) rfl rfl (hb hby d11_17)
  refine own_st (A := T119.setTop (mkF mM 20 #[.val (.ref a), .val (.ref b), .val (.ref b)] [(.ref s2), (.ref s1)])) (fun tT_ kK_ => st119 tT_ kK_) ?_
  obtain ⟨cq120, kq120, q120a, q120b, q120c⟩ := isOf hZ e119 sa.1
  obtain ⟨_, _, ⟨T120, L120, k120, n120⟩, -, X120, ⟨Lc120, hQ120, l120, y120, z120⟩, st120⟩ := X119.virtualBack hx (y := (⟨"java/lang/String", "equals", "(Ljava/lang/Object;)Z"⟩ : MethodName)) (z := (⟨"java/lang/String", "equals", "(Ljava/lang/Object;)Z"⟩ : MethodName)) hown (mvT hZ (hw _ (List.mem_of_getElem? (i := 62) rfl))) (mvT hZ (hw _ (List.mem_of_getElem? (i := 63) rfl))) (notFace_of_selects (args := #[]) (mvT hZ (hw _ (List.mem_of_getElem? (i := 65) rfl)))) (mvT hZ (hw _ (List.mem_of_getElem? (i := 65) rfl))) (mvT hZ (hw _ (List.mem_of_getElem? (i := 64) rfl))) (by decide) (backOf (W := 0) (rmSE11 lL Z a0 hw [] s1 b1 k1 s2 b2 k2 cs x0 y0 r h0 n0 sa sb nss S_cs hcs cx0 cy0 qe0 qe9 d01) hZ (hw _ (List.mem_of_getElem? (i := 66) rfl)) (hw _ (List.mem_of_getElem? (i := 6) rfl)) (by decide) (by decide)) q120a q120c (g := (mkF mM 20 #[.val (.ref a), .val (.ref b), .val (.ref b)] [(.ref s2), (.ref s1)])) rfl (by rw [hml]; rfl) (Steps.refl _) (argsL := [(.ref s2)]) (rest := []) (lenOf pd__28Ljava_2flang_2fObject_3b_29Z rfl) rfl (by show 2 * 0 + _ ≤ _; exact Nat.le_of_eq rfl) (hb hby d11_20) (fun _ _ => ⟨rfl, e119, (by decide : 0 + 0 ≤ _), (by decide : 0 + 0 ≤ _)⟩)
  dsimp only [Pt.U, Pt.locs, Pt.cells, Pt.slots] at X120 l120 y120 z120 st120 hQ120
  subst l120 y120 z120
  obtain ⟨rfl, N120q, e120⟩ := hQ120
  have N120 := Fr.app N0 N120q
  refine own_st (A := T120.setTop (mkF mM 23 #[.val (.ref a), .val (.ref b), .val (.ref b)] [(.int r)])) (fun tT_ kK_ => st120.trans kK_) ?_
  by_cases hc23_121 : r = (0 : Int32)
  · skip
    refine own_st (A := T120.setTop (mkF mM 30 #[.val (.ref a), .val (.ref b), .val (.ref b)] [])) (fun tT_ kK_ => XS.ifYes X120.here hx rfl (pc0 := 23) (pc' := 30) rfl (hb hby d11_23) rfl ((if0 _ _).trans (teq hc23_121).1) (by decide) (by decide) kK_) ?_
    refine own_st (A := T120.setTop (mkF mM 31 #[.val (.ref a), .val (.ref b), .val (.ref b)] [(.int (0 : Int32))])) (fun tT_ kK_ => XS.iconst X120.here hx rfl (hb hby d11_30) kK_) ?_
    exact own_retN X120 hx hlk (t := .boolean) hret (by simp) (hb hby d11_31) (by rw [hc23_121]; exact ⟨rfl, N120, e120⟩) (by decide) (by decide)
  · skip
    refine own_st (A := T120.setTop (mkF mM 26 #[.val (.ref a), .val (.ref b), .val (.ref b)] [])) (fun tT_ kK_ => XS.ifNo X120.here hx rfl (hb hby d11_23) rfl ((if0 _ _).trans (feq hc23_121).1) kK_) ?_
    refine own_st (A := T120.setTop (mkF mM 27 #[.val (.ref a), .val (.ref b), .val (.ref b)] [(.int (1 : Int32))])) (fun tT_ kK_ => XS.iconst X120.here hx rfl (hb hby d11_26) kK_) ?_
    refine own_st (A := T120.setTop (mkF mM 31 #[.val (.ref a), .val (.ref b), .val (.ref b)] [(.int (1 : Int32))])) (fun tT_ kK_ => XS.goto X120.here hx rfl (pc0 := 27) (pc' := 31) rfl (hb hby d11_27) (by decide) (by decide) kK_) ?_
    exact own_retN X120 hx hlk (t := .boolean) hret (by simp) (hb hby d11_31) (by rw [d01.resolve_left hc23_121]; exact ⟨rfl, N120, e120⟩) (by decide) (by decide)
theorem ef_rmRE12 (mM : MethodId) (a : Addr) (b : Addr) (s1 : Addr) (b1 : Addr) (k1 : ClassId) (s2 : Addr) (b2 : Addr) (k2 : ClassId) (cs : Int32) (x0 : Int32) (y0 : Int32) (y1 : Int32) (r : Int32) : entryFrame mM #[(.ref a), (.ref b)] 3 = mkF mM 0 #[.val (.ref a), .val (.ref b), .unset] [] := by first | (simp [entryFrame, mkF, argsToLocals, Value.category]; done) | rfl
set_option maxRecDepth 65536 in
set_option maxHeartbeats 40000000 in
theorem rmRE12 (lL : Launch) (Z : State) (a0 : Array Value) (hw : ∀ d ∈ tables_1, d.before a0 Z = true) (ws : List Jvm.Cond) (a : Addr) (b : Addr) (s1 : Addr) (b1 : Addr) (k1 : ClassId) (s2 : Addr) (b2 : Addr) (k2 : ClassId) (cs : Int32) (x0 : Int32) (y0 : Int32) (y1 : Int32) (r : Int32) (h0 : Heap) (n0 : Nat) (ra : Rol Z h0 a s1) (rb : Rol Z h0 b s2) (sa : Str Z h0 s1 b1 k1 1 [(.int (((x0).toInt8.toInt32)).toInt8.toInt32)]) (sb : Str Z h0 s2 b2 k2 2 [(.int (((y0).toInt8.toInt32)).toInt8.toInt32), (.int (((y1).toInt8.toInt32)).toInt8.toInt32)]) (nss : s1 ≠ s2) (S_cs : Sta Z h0 "java/lang/String" "COMPACT_STRINGS" "Z" (.int cs)) (hcs : ¬ cs = (0 : Int32)) (cx0 : Ck x0) (cy0 : Ck y0) (cy1 : Ck y1) (qe9 : r = 0) (d01 : r = 0 ∨ r = 1) :
    MetFree lL (⟨"com/example/upfront_duty/upfrontduty/algebra/Role", "equals", "(Ljava/lang/Object;)Z"⟩ : MethodName) (head1 (Jvm.Cond.code (⟨"com/example/upfront_duty/upfrontduty/algebra/Role", "equals", "(Ljava/lang/Object;)Z"⟩ : MethodName) prog_20_method_4_code 3 (some .boolean) :: ws) ({ frames := 2, cells := 0, slots := 0, locals := 28 } : Room)) (fun as_ uU_ => as_ = #[(.ref a), (.ref b)] ∧ Z.Warmed39 uU_.vm ∧ uU_.heap = h0) (fun _ _ _ _ _ => True) (fun _ uU_ oO_ uE_ => ∃ vV_ lL_, oO_ = .returned vV_ ∧ Qw (.int r) h0 n0 vV_ uE_.heap lL_ ∧ FrameEnd uU_ oO_ uE_ lL_ ({ frames := 2, cells := 0, slots := 0, locals := 28 } : Room).cells ({ frames := 2, cells := 0, slots := 0, locals := 28 } : Room).slots) := by
  refine MetFree.of_bodySF (plainFor_of_name pn_com_2fexample_2fupfront_duty_2fupfrontduty_2falgebra_2fRole) hisR ?_
  intro pP eE sS mM args below meth cC s₁ Bd hml0 hP hK
  obtain ⟨rfl, hZ, hh⟩ := hP
  have hx := Bd.exec
  have hby := Bd.bytes
  have hml : cC.maxLocals = 3 := hml0
  have hown : sS.vm.findClass "com/example/upfront_duty/upfrontduty/algebra/Role" = some mM.cls := findClass_of_methodNamed Bd.named
  have hnm := (name_of_methodNamed Bd.named Bd.method).1
  have hret := Bd.returns
  have hlk := BodyLoose.notSynchronized Bd
  have X0 : Stand pP lL eE ({ frames := 2, cells := 0, slots := 0, locals := 28 } : Room) sS mM #[(.ref a), (.ref b)] below meth cC s₁ [] 0 0 := Stand.of_body Bd
  have e0 : s₁.heap = h0 := by rw [← hh, Bd.state]; rfl
  have N0 := Fr.nil n0
  show own_Go pP eE below sS (Qw (.int r) h0 n0) 0 0 (s₁.setTop (entryFrame mM #[(.ref a), (.ref b)] 3))
  refine own_st (A := s₁.setTop (mkF mM 0 #[.val (.ref a), .val (.ref b), .unset] [])) (fun tT_ kK_ => castTop (ef_rmRE12 mM a b s1 b1 k1 s2 b2 k2 cs x0 y0 y1 r) kK_) ?_
  refine own_st (A := s₁.setTop (mkF mM 1 #[.val (.ref a), .val (.ref b), .unset] [(.ref b)])) (fun tT_ kK_ => XS.aloadN X0.here hx rfl (hb hby d11_0) rfl rfl kK_) ?_
  obtain ⟨T122, X122, e122, st122⟩ := instY X0 hx hZ hown (hw _ (List.mem_of_getElem? (i := 60) rfl)) e0 (Ins.self rb.1) (g := (mkF mM 1 #[.val (.ref a), .val (.ref b), .unset] [(.ref b)])) rfl rfl (hb hby d11_1)
  refine own_st (A := T122.setTop (mkF mM 4 #[.val (.ref a), .val (.ref b), .unset] [(.int (1 : Int32))])) (fun tT_ kK_ => st122 tT_ kK_) ?_
  refine own_st (A := T122.setTop (mkF mM 7 #[.val (.ref a), .val (.ref b), .unset] [])) (fun tT_ kK_ => XS.ifNo X122.here hx rfl (hb hby d11_4) rfl ((if0 _ _).trans (feq (by decide : ¬ ((1 : Int32) = (0 : Int32)))).1) kK_) ?_
  refine own_st (A := T122.setTop (mkF mM 8 #[.val (.ref a), .val (.ref b), .unset] [(.ref b)])) (fun tT_ kK_ => XS.aloadN X122.here hx rfl (hb hby d11_7) rfl rfl kK_) ?_
  obtain ⟨T123, X123, e123, st123⟩ := castY X122 hx hZ hown (hw _ (List.mem_of_getElem? (i := 60) rfl)) e122 (Ins.self rb.1) (g := (mkF mM 8 #[.val (.ref a), .val (.ref b), .unset] [(.ref b)])) rfl rfl (hb hby d11_8)
  refine own_st (A := T123.setTop (mkF mM 11 #[.val (.ref a), .val (.ref b), .unset] [(.ref b)])) (fun tT_ kK_ => st123 tT_ kK_) ?_
  refine own_st (A := T123.setTop (mkF mM 12 #[.val (.ref a), .val (.ref b), .val (.ref b)] [])) (fun tT_ kK_ => XS.astoreN X123.here hx rfl (hb hby d11_11) rfl rfl (l' := #[.val (.ref a), .val (.ref b), .val (.ref b)]) rfl kK_) ?_
  refine own_st (A := T123.setTop (mkF mM 13 #[.val (.ref a), .val (.ref b), .val (.ref b)] [(.ref a)])) (fun tT_ kK_ => XS.aloadN X123.here hx rfl (hb hby d11_12) rfl rfl kK_) ?_
  obtain ⟨T124, X124, e124, st124⟩ := getF X123 hx hZ hown (host := "") (Or.inl (hw _ (List.mem_of_getElem? (i := 53) rfl))) Via.refl e123 ra.2 (g := (mkF mM 13 #[.val (.ref a), .val (.ref b), .val (.ref b)] [(.ref a)])) rfl rfl (hb hby d11_13)
  refine own_st (A := T124.setTop (mkF mM 16 #[.val (.ref a), .val (.ref b), .val (.ref b)] [(.ref s1)])) (fun tT_ kK_ => st124 tT_ kK_) ?_
  refine own_st (A := T124.setTop (mkF mM 17 #[.val (.ref a), .val (.ref b), .val (.ref b)] [(.ref b), (.ref s1)])) (fun tT_ kK_ => XS.aloadN X124.here hx rfl (hb hby d11_16) rfl rfl kK_) ?_
  obtain ⟨T125, X125, e125, st125⟩ := getF X124 hx hZ hown (host := "") (Or.inl (hw _ (List.mem_of_getElem? (i := 53) rfl))) Via.refl e124 rb.2 (g := (mkF mM 17 #[.val (.ref a), .val (.ref b), .val (.ref b)] [(.ref b), (.ref s1)])) rfl rfl (hb hby d11_17)
  refine own_st (A := T125.setTop (mkF mM 20 #[.val (.ref a), .val (.ref b), .val (.ref b)] [(.ref s2), (.ref s1)])) (fun tT_ kK_ => st125 tT_ kK_) ?_
  obtain ⟨cq126, kq126, q126a, q126b, q126c⟩ := isOf hZ e125 sa.1
  obtain ⟨_, _, ⟨T126, L126, k126, n126⟩, -, X126, ⟨Lc126, hQ126, l126, y126, z126⟩, st126⟩ := X125.virtualBack hx (y := (⟨"java/lang/String", "equals", "(Ljava/lang/Object;)Z"⟩ : MethodName)) (z := (⟨"java/lang/String", "equals", "(Ljava/lang/Object;)Z"⟩ : MethodName)) hown (mvT hZ (hw _ (List.mem_of_getElem? (i := 62) rfl))) (mvT hZ (hw _ (List.mem_of_getElem? (i := 63) rfl))) (notFace_of_selects (args := #[]) (mvT hZ (hw _ (List.mem_of_getElem? (i := 65) rfl)))) (mvT hZ (hw _ (List.mem_of_getElem? (i := 65) rfl))) (mvT hZ (hw _ (List.mem_of_getElem? (i := 64) rfl))) (by decide) (backOf (W := 0) (rmSE12 lL Z a0 hw [] s1 b1 k1 s2 b2 k2 cs x0 y0 y1 r h0 n0 sa sb nss S_cs hcs cx0 cy0 cy1 qe9 d01) hZ (hw _ (List.mem_of_getElem? (i := 66) rfl)) (hw _ (List.mem_of_getElem? (i := 6) rfl)) (by decide) (by decide)) q126a q126c (g := (mkF mM 20 #[.val (.ref a), .val (.ref b), .val (.ref b)] [(.ref s2), (.ref s1)])) rfl (by rw [hml]; rfl) (Steps.refl _) (argsL := [(.ref s2)]) (rest := []) (lenOf pd__28Ljava_2flang_2fObject_3b_29Z rfl) rfl (by show 2 * 0 + _ ≤ _; exact Nat.le_of_eq rfl) (hb hby d11_20) (fun _ _ => ⟨rfl, e125, (by decide : 0 + 0 ≤ _), (by decide : 0 + 0 ≤ _)⟩)
  dsimp only [Pt.U, Pt.locs, Pt.cells, Pt.slots] at X126 l126 y126 z126 st126 hQ126
  subst l126 y126 z126
  obtain ⟨rfl, N126q, e126⟩ := hQ126
  have N126 := Fr.app N0 N126q
  refine own_st (A := T126.setTop (mkF mM 23 #[.val (.ref a), .val (.ref b), .val (.ref b)] [(.int r)])) (fun tT_ kK_ => st126.trans kK_) ?_
  by_cases hc23_127 : r = (0 : Int32)
  · skip
    refine own_st (A := T126.setTop (mkF mM 30 #[.val (.ref a), .val (.ref b), .val (.ref b)] [])) (fun tT_ kK_ => XS.ifYes X126.here hx rfl (pc0 := 23) (pc' := 30) rfl (hb hby d11_23) rfl ((if0 _ _).trans (teq hc23_127).1) (by decide) (by decide) kK_) ?_
    refine own_st (A := T126.setTop (mkF mM 31 #[.val (.ref a), .val (.ref b), .val (.ref b)] [(.int (0 : Int32))])) (fun tT_ kK_ => XS.iconst X126.here hx rfl (hb hby d11_30) kK_) ?_
    exact own_retN X126 hx hlk (t := .boolean) hret (by simp) (hb hby d11_31) (by rw [hc23_127]; exact ⟨rfl, N126, e126⟩) (by decide) (by decide)
  · skip
    refine own_st (A := T126.setTop (mkF mM 26 #[.val (.ref a), .val (.ref b), .val (.ref b)] [])) (fun tT_ kK_ => XS.ifNo X126.here hx rfl (hb hby d11_23) rfl ((if0 _ _).trans (feq hc23_127).1) kK_) ?_
    refine own_st (A := T126.setTop (mkF mM 27 #[.val (.ref a), .val (.ref b), .val (.ref b)] [(.int (1 : Int32))])) (fun tT_ kK_ => XS.iconst X126.here hx rfl (hb hby d11_26) kK_) ?_
    refine own_st (A := T126.setTop (mkF mM 31 #[.val (.ref a), .val (.ref b), .val (.ref b)] [(.int (1 : Int32))])) (fun tT_ kK_ => XS.goto X126.here hx rfl (pc0 := 27) (pc' := 31) rfl (hb hby d11_27) (by decide) (by decide) kK_) ?_
    exact own_retN X126 hx hlk (t := .boolean) hret (by simp) (hb hby d11_31) (by rw [d01.resolve_left hc23_127]; exact ⟨rfl, N126, e126⟩) (by decide) (by decide)
theorem ef_rmRE21 (mM : MethodId) (a : Addr) (b : Addr) (s1 : Addr) (b1 : Addr) (k1 : ClassId) (s2 : Addr) (b2 : Addr) (k2 : ClassId) (cs : Int32) (x0 : Int32) (x1 : Int32) (y0 : Int32) (r : Int32) : entryFrame mM #[(.ref a), (.ref b)] 3 = mkF mM 0 #[.val (.ref a), .val (.ref b), .unset] [] := by first | (simp [entryFrame, mkF, argsToLocals, Value.category]; done) | rfl
set_option maxRecDepth 65536 in
set_option maxHeartbeats 40000000 in
theorem rmRE21 (lL : Launch) (Z : State) (a0 : Array Value) (hw : ∀ d ∈ tables_1, d.before a0 Z = true) (ws : List Jvm.Cond) (a : Addr) (b : Addr) (s1 : Addr) (b1 : Addr) (k1 : ClassId) (s2 : Addr) (b2 : Addr) (k2 : ClassId) (cs : Int32) (x0 : Int32) (x1 : Int32) (y0 : Int32) (r : Int32) (h0 : Heap) (n0 : Nat) (ra : Rol Z h0 a s1) (rb : Rol Z h0 b s2) (sa : Str Z h0 s1 b1 k1 2 [(.int (((x0).toInt8.toInt32)).toInt8.toInt32), (.int (((x1).toInt8.toInt32)).toInt8.toInt32)]) (sb : Str Z h0 s2 b2 k2 1 [(.int (((y0).toInt8.toInt32)).toInt8.toInt32)]) (nss : s1 ≠ s2) (S_cs : Sta Z h0 "java/lang/String" "COMPACT_STRINGS" "Z" (.int cs)) (hcs : ¬ cs = (0 : Int32)) (cx0 : Ck x0) (cx1 : Ck x1) (cy0 : Ck y0) (qe9 : r = 0) (d01 : r = 0 ∨ r = 1) :
    MetFree lL (⟨"com/example/upfront_duty/upfrontduty/algebra/Role", "equals", "(Ljava/lang/Object;)Z"⟩ : MethodName) (head1 (Jvm.Cond.code (⟨"com/example/upfront_duty/upfrontduty/algebra/Role", "equals", "(Ljava/lang/Object;)Z"⟩ : MethodName) prog_20_method_4_code 3 (some .boolean) :: ws) ({ frames := 2, cells := 0, slots := 0, locals := 28 } : Room)) (fun as_ uU_ => as_ = #[(.ref a), (.ref b)] ∧ Z.Warmed39 uU_.vm ∧ uU_.heap = h0) (fun _ _ _ _ _ => True) (fun _ uU_ oO_ uE_ => ∃ vV_ lL_, oO_ = .returned vV_ ∧ Qw (.int r) h0 n0 vV_ uE_.heap lL_ ∧ FrameEnd uU_ oO_ uE_ lL_ ({ frames := 2, cells := 0, slots := 0, locals := 28 } : Room).cells ({ frames := 2, cells := 0, slots := 0, locals := 28 } : Room).slots) := by
  refine MetFree.of_bodySF (plainFor_of_name pn_com_2fexample_2fupfront_duty_2fupfrontduty_2falgebra_2fRole) hisR ?_
  intro pP eE sS mM args below meth cC s₁ Bd hml0 hP hK
  obtain ⟨rfl, hZ, hh⟩ := hP
  have hx := Bd.exec
  have hby := Bd.bytes
  have hml : cC.maxLocals = 3 := hml0
  have hown : sS.vm.findClass "com/example/upfront_duty/upfrontduty/algebra/Role" = some mM.cls := findClass_of_methodNamed Bd.named
  have hnm := (name_of_methodNamed Bd.named Bd.method).1
  have hret := Bd.returns
  have hlk := BodyLoose.notSynchronized Bd
  have X0 : Stand pP lL eE ({ frames := 2, cells := 0, slots := 0, locals := 28 } : Room) sS mM #[(.ref a), (.ref b)] below meth cC s₁ [] 0 0 := Stand.of_body Bd
  have e0 : s₁.heap = h0 := by rw [← hh, Bd.state]; rfl
  have N0 := Fr.nil n0
  show own_Go pP eE below sS (Qw (.int r) h0 n0) 0 0 (s₁.setTop (entryFrame mM #[(.ref a), (.ref b)] 3))
  refine own_st (A := s₁.setTop (mkF mM 0 #[.val (.ref a), .val (.ref b), .unset] [])) (fun tT_ kK_ => castTop (ef_rmRE21 mM a b s1 b1 k1 s2 b2 k2 cs x0 x1 y0 r) kK_) ?_
  refine own_st (A := s₁.setTop (mkF mM 1 #[.val (.ref a), .val (.ref b), .unset] [(.ref b)])) (fun tT_ kK_ => XS.aloadN X0.here hx rfl (hb hby d11_0) rfl rfl kK_) ?_
  obtain ⟨T128, X128, e128, st128⟩ := instY X0 hx hZ hown (hw _ (List.mem_of_getElem? (i := 60) rfl)) e0 (Ins.self rb.1) (g := (mkF mM 1 #[.val (.ref a), .val (.ref b), .unset] [(.ref b)])) rfl rfl (hb hby d11_1)
  refine own_st (A := T128.setTop (mkF mM 4 #[.val (.ref a), .val (.ref b), .unset] [(.int (1 : Int32))])) (fun tT_ kK_ => st128 tT_ kK_) ?_
  refine own_st (A := T128.setTop (mkF mM 7 #[.val (.ref a), .val (.ref b), .unset] [])) (fun tT_ kK_ => XS.ifNo X128.here hx rfl (hb hby d11_4) rfl ((if0 _ _).trans (feq (by decide : ¬ ((1 : Int32) = (0 : Int32)))).1) kK_) ?_
  refine own_st (A := T128.setTop (mkF mM 8 #[.val (.ref a), .val (.ref b), .unset] [(.ref b)])) (fun tT_ kK_ => XS.aloadN X128.here hx rfl (hb hby d11_7) rfl rfl kK_) ?_
  obtain ⟨T129, X129, e129, st129⟩ := castY X128 hx hZ hown (hw _ (List.mem_of_getElem? (i := 60) rfl)) e128 (Ins.self rb.1) (g := (mkF mM 8 #[.val (.ref a), .val (.ref b), .unset] [(.ref b)])) rfl rfl (hb hby d11_8)
  refine own_st (A := T129.setTop (mkF mM 11 #[.val (.ref a), .val (.ref b), .unset] [(.ref b)])) (fun tT_ kK_ => st129 tT_ kK_) ?_
  refine own_st (A := T129.setTop (mkF mM 12 #[.val (.ref a), .val (.ref b), .val (.ref b)] [])) (fun tT_ kK_ => XS.astoreN X129.here hx rfl (hb hby d11_11) rfl rfl (l' := #[.val (.ref a), .val (.ref b), .val (.ref b)]) rfl kK_) ?_
  refine own_st (A := T129.setTop (mkF mM 13 #[.val (.ref a), .val (.ref b), .val (.ref b)] [(.ref a)])) (fun tT_ kK_ => XS.aloadN X129.here hx rfl (hb hby d11_12) rfl rfl kK_) ?_
  obtain ⟨T130, X130, e130, st130⟩ := getF X129 hx hZ hown (host := "") (Or.inl (hw _ (List.mem_of_getElem? (i := 53) rfl))) Via.refl e129 ra.2 (g := (mkF mM 13 #[.val (.ref a), .val (.ref b), .val (.ref b)] [(.ref a)])) rfl rfl (hb hby d11_13)
  refine own_st (A := T130.setTop (mkF mM 16 #[.val (.ref a), .val (.ref b), .val (.ref b)] [(.ref s1)])) (fun tT_ kK_ => st130 tT_ kK_) ?_
  refine own_st (A := T130.setTop (mkF mM 17 #[.val (.ref a), .val (.ref b), .val (.ref b)] [(.ref b), (.ref s1)])) (fun tT_ kK_ => XS.aloadN X130.here hx rfl (hb hby d11_16) rfl rfl kK_) ?_
  obtain ⟨T131, X131, e131, st131⟩ := getF X130 hx hZ hown (host := "") (Or.inl (hw _ (List.mem_of_getElem? (i := 53) rfl))) Via.refl e130 rb.2 (g := (mkF mM 17 #[.val (.ref a), .val (.ref b), .val (.ref b)] [(.ref b), (.ref s1)])) rfl rfl (hb hby d11_17)
  refine own_st (A := T131.setTop (mkF mM 20 #[.val (.ref a), .val (.ref b), .val (.ref b)] [(.ref s2), (.ref s1)])) (fun tT_ kK_ => st131 tT_ kK_) ?_
  obtain ⟨cq132, kq132, q132a, q132b, q132c⟩ := isOf hZ e131 sa.1
  obtain ⟨_, _, ⟨T132, L132, k132, n132⟩, -, X132, ⟨Lc132, hQ132, l132, y132, z132⟩, st132⟩ := X131.virtualBack hx (y := (⟨"java/lang/String", "equals", "(Ljava/lang/Object;)Z"⟩ : MethodName)) (z := (⟨"java/lang/String", "equals", "(Ljava/lang/Object;)Z"⟩ : MethodName)) hown (mvT hZ (hw _ (List.mem_of_getElem? (i := 62) rfl))) (mvT hZ (hw _ (List.mem_of_getElem? (i := 63) rfl))) (notFace_of_selects (args := #[]) (mvT hZ (hw _ (List.mem_of_getElem? (i := 65) rfl)))) (mvT hZ (hw _ (List.mem_of_getElem? (i := 65) rfl))) (mvT hZ (hw _ (List.mem_of_getElem? (i := 64) rfl))) (by decide) (backOf (W := 0) (rmSE21 lL Z a0 hw [] s1 b1 k1 s2 b2 k2 cs x0 x1 y0 r h0 n0 sa sb nss S_cs hcs cx0 cx1 cy0 qe9 d01) hZ (hw _ (List.mem_of_getElem? (i := 66) rfl)) (hw _ (List.mem_of_getElem? (i := 6) rfl)) (by decide) (by decide)) q132a q132c (g := (mkF mM 20 #[.val (.ref a), .val (.ref b), .val (.ref b)] [(.ref s2), (.ref s1)])) rfl (by rw [hml]; rfl) (Steps.refl _) (argsL := [(.ref s2)]) (rest := []) (lenOf pd__28Ljava_2flang_2fObject_3b_29Z rfl) rfl (by show 2 * 0 + _ ≤ _; exact Nat.le_of_eq rfl) (hb hby d11_20) (fun _ _ => ⟨rfl, e131, (by decide : 0 + 0 ≤ _), (by decide : 0 + 0 ≤ _)⟩)
  dsimp only [Pt.U, Pt.locs, Pt.cells, Pt.slots] at X132 l132 y132 z132 st132 hQ132
  subst l132 y132 z132
  obtain ⟨rfl, N132q, e132⟩ := hQ132
  have N132 := Fr.app N0 N132q
  refine own_st (A := T132.setTop (mkF mM 23 #[.val (.ref a), .val (.ref b), .val (.ref b)] [(.int r)])) (fun tT_ kK_ => st132.trans kK_) ?_
  by_cases hc23_133 : r = (0 : Int32)
  · skip
    refine own_st (A := T132.setTop (mkF mM 30 #[.val (.ref a), .val (.ref b), .val (.ref b)] [])) (fun tT_ kK_ => XS.ifYes X132.here hx rfl (pc0 := 23) (pc' := 30) rfl (hb hby d11_23) rfl ((if0 _ _).trans (teq hc23_133).1) (by decide) (by decide) kK_) ?_
    refine own_st (A := T132.setTop (mkF mM 31 #[.val (.ref a), .val (.ref b), .val (.ref b)] [(.int (0 : Int32))])) (fun tT_ kK_ => XS.iconst X132.here hx rfl (hb hby d11_30) kK_) ?_
    exact own_retN X132 hx hlk (t := .boolean) hret (by simp) (hb hby d11_31) (by rw [hc23_133]; exact ⟨rfl, N132, e132⟩) (by decide) (by decide)
  · skip
    refine own_st (A := T132.setTop (mkF mM 26 #[.val (.ref a), .val (.ref b), .val (.ref b)] [])) (fun tT_ kK_ => XS.ifNo X132.here hx rfl (hb hby d11_23) rfl ((if0 _ _).trans (feq hc23_133).1) kK_) ?_
    refine own_st (A := T132.setTop (mkF mM 27 #[.val (.ref a), .val (.ref b), .val (.ref b)] [(.int (1 : Int32))])) (fun tT_ kK_ => XS.iconst X132.here hx rfl (hb hby d11_26) kK_) ?_
    refine own_st (A := T132.setTop (mkF mM 31 #[.val (.ref a), .val (.ref b), .val (.ref b)] [(.int (1 : Int32))])) (fun tT_ kK_ => XS.goto X132.here hx rfl (pc0 := 27) (pc' := 31) rfl (hb hby d11_27) (by decide) (by decide) kK_) ?_
    exact own_retN X132 hx hlk (t := .boolean) hret (by simp) (hb hby d11_31) (by rw [d01.resolve_left hc23_133]; exact ⟨rfl, N132, e132⟩) (by decide) (by decide)
theorem ef_rmRE22 (mM : MethodId) (a : Addr) (b : Addr) (s1 : Addr) (b1 : Addr) (k1 : ClassId) (s2 : Addr) (b2 : Addr) (k2 : ClassId) (cs : Int32) (x0 : Int32) (x1 : Int32) (y0 : Int32) (y1 : Int32) (r : Int32) : entryFrame mM #[(.ref a), (.ref b)] 3 = mkF mM 0 #[.val (.ref a), .val (.ref b), .unset] [] := by first | (simp [entryFrame, mkF, argsToLocals, Value.category]; done) | rfl
set_option maxRecDepth 65536 in
set_option maxHeartbeats 40000000 in
theorem rmRE22 (lL : Launch) (Z : State) (a0 : Array Value) (hw : ∀ d ∈ tables_1, d.before a0 Z = true) (ws : List Jvm.Cond) (a : Addr) (b : Addr) (s1 : Addr) (b1 : Addr) (k1 : ClassId) (s2 : Addr) (b2 : Addr) (k2 : ClassId) (cs : Int32) (x0 : Int32) (x1 : Int32) (y0 : Int32) (y1 : Int32) (r : Int32) (h0 : Heap) (n0 : Nat) (ra : Rol Z h0 a s1) (rb : Rol Z h0 b s2) (sa : Str Z h0 s1 b1 k1 2 [(.int (((x0).toInt8.toInt32)).toInt8.toInt32), (.int (((x1).toInt8.toInt32)).toInt8.toInt32)]) (sb : Str Z h0 s2 b2 k2 2 [(.int (((y0).toInt8.toInt32)).toInt8.toInt32), (.int (((y1).toInt8.toInt32)).toInt8.toInt32)]) (nss : s1 ≠ s2) (S_cs : Sta Z h0 "java/lang/String" "COMPACT_STRINGS" "Z" (.int cs)) (hcs : ¬ cs = (0 : Int32)) (cx0 : Ck x0) (cx1 : Ck x1) (cy0 : Ck y0) (cy1 : Ck y1) (qe0 : ¬ x0 = y0 → r = 0) (qe1 : x0 = y0 → ¬ x1 = y1 → r = 0) (qe9 : x0 = y0 → x1 = y1 → r = 1) (d01 : r = 0 ∨ r = 1) :
    MetFree lL (⟨"com/example/upfront_duty/upfrontduty/algebra/Role", "equals", "(Ljava/lang/Object;)Z"⟩ : MethodName) (head1 (Jvm.Cond.code (⟨"com/example/upfront_duty/upfrontduty/algebra/Role", "equals", "(Ljava/lang/Object;)Z"⟩ : MethodName) prog_20_method_4_code 3 (some .boolean) :: ws) ({ frames := 2, cells := 0, slots := 0, locals := 28 } : Room)) (fun as_ uU_ => as_ = #[(.ref a), (.ref b)] ∧ Z.Warmed39 uU_.vm ∧ uU_.heap = h0) (fun _ _ _ _ _ => True) (fun _ uU_ oO_ uE_ => ∃ vV_ lL_, oO_ = .returned vV_ ∧ Qw (.int r) h0 n0 vV_ uE_.heap lL_ ∧ FrameEnd uU_ oO_ uE_ lL_ ({ frames := 2, cells := 0, slots := 0, locals := 28 } : Room).cells ({ frames := 2, cells := 0, slots := 0, locals := 28 } : Room).slots) := by
  refine MetFree.of_bodySF (plainFor_of_name pn_com_2fexample_2fupfront_duty_2fupfrontduty_2falgebra_2fRole) hisR ?_
  intro pP eE sS mM args below meth cC s₁ Bd hml0 hP hK
  obtain ⟨rfl, hZ, hh⟩ := hP
  have hx := Bd.exec
  have hby := Bd.bytes
  have hml : cC.maxLocals = 3 := hml0
  have hown : sS.vm.findClass "com/example/upfront_duty/upfrontduty/algebra/Role" = some mM.cls := findClass_of_methodNamed Bd.named
  have hnm := (name_of_methodNamed Bd.named Bd.method).1
  have hret := Bd.returns
  have hlk := BodyLoose.notSynchronized Bd
  have X0 : Stand pP lL eE ({ frames := 2, cells := 0, slots := 0, locals := 28 } : Room) sS mM #[(.ref a), (.ref b)] below meth cC s₁ [] 0 0 := Stand.of_body Bd
  have e0 : s₁.heap = h0 := by rw [← hh, Bd.state]; rfl
  have N0 := Fr.nil n0
  show own_Go pP eE below sS (Qw (.int r) h0 n0) 0 0 (s₁.setTop (entryFrame mM #[(.ref a), (.ref b)] 3))
  refine own_st (A := s₁.setTop (mkF mM 0 #[.val (.ref a), .val (.ref b), .unset] [])) (fun tT_ kK_ => castTop (ef_rmRE22 mM a b s1 b1 k1 s2 b2 k2 cs x0 x1 y0 y1 r) kK_) ?_
  refine own_st (A := s₁.setTop (mkF mM 1 #[.val (.ref a), .val (.ref b), .unset] [(.ref b)])) (fun tT_ kK_ => XS.aloadN X0.here hx rfl (hb hby d11_0) rfl rfl kK_) ?_
  obtain ⟨T134, X134, e134, st134⟩ := instY X0 hx hZ hown (hw _ (List.mem_of_getElem? (i := 60) rfl)) e0 (Ins.self rb.1) (g := (mkF mM 1 #[.val (.ref a), .val (.ref b), .unset] [(.ref b)])) rfl rfl (hb hby d11_1)
  refine own_st (A := T134.setTop (mkF mM 4 #[.val (.ref a), .val (.ref b), .unset] [(.int (1 : Int32))])) (fun tT_ kK_ => st134 tT_ kK_) ?_
  refine own_st (A := T134.setTop (mkF mM 7 #[.val (.ref a), .val (.ref b), .unset] [])) (fun tT_ kK_ => XS.ifNo X134.here hx rfl (hb hby d11_4) rfl ((if0 _ _).trans (feq (by decide : ¬ ((1 : Int32) = (0 : Int32)))).1) kK_) ?_
  refine own_st (A := T134.setTop (mkF mM 8 #[.val (.ref a), .val (.ref b), .unset] [(.ref b)])) (fun tT_ kK_ => XS.aloadN X134.here hx rfl (hb hby d11_7) rfl rfl kK_) ?_
  obtain ⟨T135, X135, e135, st135⟩ := castY X134 hx hZ hown (hw _ (List.mem_of_getElem? (i := 60) rfl)) e134 (Ins.self rb.1) (g := (mkF mM 8 #[.val (.ref a), .val (.ref b), .unset] [(.ref b)])) rfl rfl (hb hby d11_8)
  refine own_st (A := T135.setTop (mkF mM 11 #[.val (.ref a), .val (.ref b), .unset] [(.ref b)])) (fun tT_ kK_ => st135 tT_ kK_) ?_
  refine own_st (A := T135.setTop (mkF mM 12 #[.val (.ref a), .val (.ref b), .val (.ref b)] [])) (fun tT_ kK_ => XS.astoreN X135.here hx rfl (hb hby d11_11) rfl rfl (l' := #[.val (.ref a), .val (.ref b), .val (.ref b)]) rfl kK_) ?_
  refine own_st (A := T135.setTop (mkF mM 13 #[.val (.ref a), .val (.ref b), .val (.ref b)] [(.ref a)])) (fun tT_ kK_ => XS.aloadN X135.here hx rfl (hb hby d11_12) rfl rfl kK_) ?_
  obtain ⟨T136, X136, e136, st136⟩ := getF X135 hx hZ hown (host := "") (Or.inl (hw _ (List.mem_of_getElem? (i := 53) rfl))) Via.refl e135 ra.2 (g := (mkF mM 13 #[.val (.ref a), .val (.ref b), .val (.ref b)] [(.ref a)])) rfl rfl (hb hby d11_13)
  refine own_st (A := T136.setTop (mkF mM 16 #[.val (.ref a), .val (.ref b), .val (.ref b)] [(.ref s1)])) (fun tT_ kK_ => st136 tT_ kK_) ?_
  refine own_st (A := T136.setTop (mkF mM 17 #[.val (.ref a), .val (.ref b), .val (.ref b)] [(.ref b), (.ref s1)])) (fun tT_ kK_ => XS.aloadN X136.here hx rfl (hb hby d11_16) rfl rfl kK_) ?_
  obtain ⟨T137, X137, e137, st137⟩ := getF X136 hx hZ hown (host := "") (Or.inl (hw _ (List.mem_of_getElem? (i := 53) rfl))) Via.refl e136 rb.2 (g := (mkF mM 17 #[.val (.ref a), .val (.ref b), .val (.ref b)] [(.ref b), (.ref s1)])) rfl rfl (hb hby d11_17)
  refine own_st (A := T137.setTop (mkF mM 20 #[.val (.ref a), .val (.ref b), .val (.ref b)] [(.ref s2), (.ref s1)])) (fun tT_ kK_ => st137 tT_ kK_) ?_
  obtain ⟨cq138, kq138, q138a, q138b, q138c⟩ := isOf hZ e137 sa.1
  obtain ⟨_, _, ⟨T138, L138, k138, n138⟩, -, X138, ⟨Lc138, hQ138, l138, y138, z138⟩, st138⟩ := X137.virtualBack hx (y := (⟨"java/lang/String", "equals", "(Ljava/lang/Object;)Z"⟩ : MethodName)) (z := (⟨"java/lang/String", "equals", "(Ljava/lang/Object;)Z"⟩ : MethodName)) hown (mvT hZ (hw _ (List.mem_of_getElem? (i := 62) rfl))) (mvT hZ (hw _ (List.mem_of_getElem? (i := 63) rfl))) (notFace_of_selects (args := #[]) (mvT hZ (hw _ (List.mem_of_getElem? (i := 65) rfl)))) (mvT hZ (hw _ (List.mem_of_getElem? (i := 65) rfl))) (mvT hZ (hw _ (List.mem_of_getElem? (i := 64) rfl))) (by decide) (backOf (W := 0) (rmSE22 lL Z a0 hw [] s1 b1 k1 s2 b2 k2 cs x0 x1 y0 y1 r h0 n0 sa sb nss S_cs hcs cx0 cx1 cy0 cy1 qe0 qe1 qe9 d01) hZ (hw _ (List.mem_of_getElem? (i := 66) rfl)) (hw _ (List.mem_of_getElem? (i := 6) rfl)) (by decide) (by decide)) q138a q138c (g := (mkF mM 20 #[.val (.ref a), .val (.ref b), .val (.ref b)] [(.ref s2), (.ref s1)])) rfl (by rw [hml]; rfl) (Steps.refl _) (argsL := [(.ref s2)]) (rest := []) (lenOf pd__28Ljava_2flang_2fObject_3b_29Z rfl) rfl (by show 2 * 0 + _ ≤ _; exact Nat.le_of_eq rfl) (hb hby d11_20) (fun _ _ => ⟨rfl, e137, (by decide : 0 + 0 ≤ _), (by decide : 0 + 0 ≤ _)⟩)
  dsimp only [Pt.U, Pt.locs, Pt.cells, Pt.slots] at X138 l138 y138 z138 st138 hQ138
  subst l138 y138 z138
  obtain ⟨rfl, N138q, e138⟩ := hQ138
  have N138 := Fr.app N0 N138q
  refine own_st (A := T138.setTop (mkF mM 23 #[.val (.ref a), .val (.ref b), .val (.ref b)] [(.int r)])) (fun tT_ kK_ => st138.trans kK_) ?_
  by_cases hc23_139 : r = (0 : Int32)
  · skip
    refine own_st (A := T138.setTop (mkF mM 30 #[.val (.ref a), .val (.ref b), .val (.ref b)] [])) (fun tT_ kK_ => XS.ifYes X138.here hx rfl (pc0 := 23) (pc' := 30) rfl (hb hby d11_23) rfl ((if0 _ _).trans (teq hc23_139).1) (by decide) (by decide) kK_) ?_
    refine own_st (A := T138.setTop (mkF mM 31 #[.val (.ref a), .val (.ref b), .val (.ref b)] [(.int (0 : Int32))])) (fun tT_ kK_ => XS.iconst X138.here hx rfl (hb hby d11_30) kK_) ?_
    exact own_retN X138 hx hlk (t := .boolean) hret (by simp) (hb hby d11_31) (by rw [hc23_139]; exact ⟨rfl, N138, e138⟩) (by decide) (by decide)
  · skip
    refine own_st (A := T138.setTop (mkF mM 26 #[.val (.ref a), .val (.ref b), .val (.ref b)] [])) (fun tT_ kK_ => XS.ifNo X138.here hx rfl (hb hby d11_23) rfl ((if0 _ _).trans (feq hc23_139).1) kK_) ?_
    refine own_st (A := T138.setTop (mkF mM 27 #[.val (.ref a), .val (.ref b), .val (.ref b)] [(.int (1 : Int32))])) (fun tT_ kK_ => XS.iconst X138.here hx rfl (hb hby d11_26) kK_) ?_
    refine own_st (A := T138.setTop (mkF mM 31 #[.val (.ref a), .val (.ref b), .val (.ref b)] [(.int (1 : Int32))])) (fun tT_ kK_ => XS.goto X138.here hx rfl (pc0 := 27) (pc' := 31) rfl (hb hby d11_27) (by decide) (by decide) kK_) ?_
    exact own_retN X138 hx hlk (t := .boolean) hret (by simp) (hb hby d11_31) (by rw [d01.resolve_left hc23_139]; exact ⟨rfl, N138, e138⟩) (by decide) (by decide)
theorem ef_rmREs (mM : MethodId) (a : Addr) (s1 : Addr) : entryFrame mM #[(.ref a), (.ref a)] 3 = mkF mM 0 #[.val (.ref a), .val (.ref a), .unset] [] := by first | (simp [entryFrame, mkF, argsToLocals, Value.category]; done) | rfl
set_option maxRecDepth 65536 in
set_option maxHeartbeats 40000000 in
theorem rmREs (lL : Launch) (Z : State) (a0 : Array Value) (hw : ∀ d ∈ tables_1, d.before a0 Z = true) (ws : List Jvm.Cond) (a : Addr) (s1 : Addr) (h0 : Heap) (n0 : Nat) (ra : Rol Z h0 a s1) (es : Exa Z h0 s1 "java/lang/String") :
    MetFree lL (⟨"com/example/upfront_duty/upfrontduty/algebra/Role", "equals", "(Ljava/lang/Object;)Z"⟩ : MethodName) (head1 (Jvm.Cond.code (⟨"com/example/upfront_duty/upfrontduty/algebra/Role", "equals", "(Ljava/lang/Object;)Z"⟩ : MethodName) prog_20_method_4_code 3 (some .boolean) :: ws) ({ frames := 1, cells := 0, slots := 0, locals := 14 } : Room)) (fun as_ uU_ => as_ = #[(.ref a), (.ref a)] ∧ Z.Warmed39 uU_.vm ∧ uU_.heap = h0) (fun _ _ _ _ _ => True) (fun _ uU_ oO_ uE_ => ∃ vV_ lL_, oO_ = .returned vV_ ∧ Qw (.int 1) h0 n0 vV_ uE_.heap lL_ ∧ FrameEnd uU_ oO_ uE_ lL_ ({ frames := 1, cells := 0, slots := 0, locals := 14 } : Room).cells ({ frames := 1, cells := 0, slots := 0, locals := 14 } : Room).slots) := by
  refine MetFree.of_bodySF (plainFor_of_name pn_com_2fexample_2fupfront_duty_2fupfrontduty_2falgebra_2fRole) hisR ?_
  intro pP eE sS mM args below meth cC s₁ Bd hml0 hP hK
  obtain ⟨rfl, hZ, hh⟩ := hP
  have hx := Bd.exec
  have hby := Bd.bytes
  have hml : cC.maxLocals = 3 := hml0
  have hown : sS.vm.findClass "com/example/upfront_duty/upfrontduty/algebra/Role" = some mM.cls := findClass_of_methodNamed Bd.named
  have hnm := (name_of_methodNamed Bd.named Bd.method).1
  have hret := Bd.returns
  have hlk := BodyLoose.notSynchronized Bd
  have X0 : Stand pP lL eE ({ frames := 1, cells := 0, slots := 0, locals := 14 } : Room) sS mM #[(.ref a), (.ref a)] below meth cC s₁ [] 0 0 := Stand.of_body Bd
  have e0 : s₁.heap = h0 := by rw [← hh, Bd.state]; rfl
  have N0 := Fr.nil n0
  show own_Go pP eE below sS (Qw (.int 1) h0 n0) 0 0 (s₁.setTop (entryFrame mM #[(.ref a), (.ref a)] 3))
  refine own_st (A := s₁.setTop (mkF mM 0 #[.val (.ref a), .val (.ref a), .unset] [])) (fun tT_ kK_ => castTop (ef_rmREs mM a s1) kK_) ?_
  refine own_st (A := s₁.setTop (mkF mM 1 #[.val (.ref a), .val (.ref a), .unset] [(.ref a)])) (fun tT_ kK_ => XS.aloadN X0.here hx rfl (hb hby d11_0) rfl rfl kK_) ?_
  obtain ⟨T140, X140, e140, st140⟩ := instY X0 hx hZ hown (hw _ (List.mem_of_getElem? (i := 60) rfl)) e0 (Ins.self ra.1) (g := (mkF mM 1 #[.val (.ref a), .val (.ref a), .unset] [(.ref a)])) rfl rfl (hb hby d11_1)
  refine own_st (A := T140.setTop (mkF mM 4 #[.val (.ref a), .val (.ref a), .unset] [(.int (1 : Int32))])) (fun tT_ kK_ => st140 tT_ kK_) ?_
  refine own_st (A := T140.setTop (mkF mM 7 #[.val (.ref a), .val (.ref a), .unset] [])) (fun tT_ kK_ => XS.ifNo X140.here hx rfl (hb hby d11_4) rfl ((if0 _ _).trans (feq (by decide : ¬ ((1 : Int32) = (0 : Int32)))).1) kK_) ?_
  refine own_st (A := T140.setTop (mkF mM 8 #[.val (.ref a), .val (.ref a), .unset] [(.ref a)])) (fun tT_ kK_ => XS.aloadN X140.here hx rfl (hb hby d11_7) rfl rfl kK_) ?_
  obtain ⟨T141, X141, e141, st141⟩ := castY X140 hx hZ hown (hw _ (List.mem_of_getElem? (i := 60) rfl)) e140 (Ins.self ra.1) (g := (mkF mM 8 #[.val (.ref a), .val (.ref a), .unset] [(.ref a)])) rfl rfl (hb hby d11_8)
  refine own_st (A := T141.setTop (mkF mM 11 #[.val (.ref a), .val (.ref a), .unset] [(.ref a)])) (fun tT_ kK_ => st141 tT_ kK_) ?_
  refine own_st (A := T141.setTop (mkF mM 12 #[.val (.ref a), .val (.ref a), .val (.ref a)] [])) (fun tT_ kK_ => XS.astoreN X141.here hx rfl (hb hby d11_11) rfl rfl (l' := #[.val (.ref a), .val (.ref a), .val (.ref a)]) rfl kK_) ?_
  refine own_st (A := T141.setTop (mkF mM 13 #[.val (.ref a), .val (.ref a), .val (.ref a)] [(.ref a)])) (fun tT_ kK_ => XS.aloadN X141.here hx rfl (hb hby d11_12) rfl rfl kK_) ?_
  obtain ⟨T142, X142, e142, st142⟩ := getF X141 hx hZ hown (host := "") (Or.inl (hw _ (List.mem_of_getElem? (i := 53) rfl))) Via.refl e141 ra.2 (g := (mkF mM 13 #[.val (.ref a), .val (.ref a), .val (.ref a)] [(.ref a)])) rfl rfl (hb hby d11_13)
  refine own_st (A := T142.setTop (mkF mM 16 #[.val (.ref a), .val (.ref a), .val (.ref a)] [(.ref s1)])) (fun tT_ kK_ => st142 tT_ kK_) ?_
  refine own_st (A := T142.setTop (mkF mM 17 #[.val (.ref a), .val (.ref a), .val (.ref a)] [(.ref a), (.ref s1)])) (fun tT_ kK_ => XS.aloadN X142.here hx rfl (hb hby d11_16) rfl rfl kK_) ?_
  obtain ⟨T143, X143, e143, st143⟩ := getF X142 hx hZ hown (host := "") (Or.inl (hw _ (List.mem_of_getElem? (i := 53) rfl))) Via.refl e142 ra.2 (g := (mkF mM 17 #[.val (.ref a), .val (.ref a), .val (.ref a)] [(.ref a), (.ref s1)])) rfl rfl (hb hby d11_17)
  refine own_st (A := T143.setTop (mkF mM 20 #[.val (.ref a), .val (.ref a), .val (.ref a)] [(.ref s1), (.ref s1)])) (fun tT_ kK_ => st143 tT_ kK_) ?_
  obtain ⟨cq144, kq144, q144a, q144b, q144c⟩ := isOf hZ e143 es
  obtain ⟨_, _, ⟨T144, L144, k144, n144⟩, -, X144, ⟨Lc144, hQ144, l144, y144, z144⟩, st144⟩ := X143.virtualBack hx (y := (⟨"java/lang/String", "equals", "(Ljava/lang/Object;)Z"⟩ : MethodName)) (z := (⟨"java/lang/String", "equals", "(Ljava/lang/Object;)Z"⟩ : MethodName)) hown (mvT hZ (hw _ (List.mem_of_getElem? (i := 62) rfl))) (mvT hZ (hw _ (List.mem_of_getElem? (i := 63) rfl))) (notFace_of_selects (args := #[]) (mvT hZ (hw _ (List.mem_of_getElem? (i := 65) rfl)))) (mvT hZ (hw _ (List.mem_of_getElem? (i := 65) rfl))) (mvT hZ (hw _ (List.mem_of_getElem? (i := 64) rfl))) (by decide) (backOf (W := 0) (rmSEs lL Z a0 hw [] s1 h0 n0 ) hZ (hw _ (List.mem_of_getElem? (i := 66) rfl)) (hw _ (List.mem_of_getElem? (i := 6) rfl)) (by decide) (by decide)) q144a q144c (g := (mkF mM 20 #[.val (.ref a), .val (.ref a), .val (.ref a)] [(.ref s1), (.ref s1)])) rfl (by rw [hml]; rfl) (Steps.refl _) (argsL := [(.ref s1)]) (rest := []) (lenOf pd__28Ljava_2flang_2fObject_3b_29Z rfl) rfl (by show 2 * 0 + _ ≤ _; exact Nat.le_of_eq rfl) (hb hby d11_20) (fun _ _ => ⟨rfl, e143, (by decide : 0 + 0 ≤ _), (by decide : 0 + 0 ≤ _)⟩)
  dsimp only [Pt.U, Pt.locs, Pt.cells, Pt.slots] at X144 l144 y144 z144 st144 hQ144
  subst l144 y144 z144
  obtain ⟨rfl, N144q, e144⟩ := hQ144
  have N144 := Fr.app N0 N144q
  refine own_st (A := T144.setTop (mkF mM 23 #[.val (.ref a), .val (.ref a), .val (.ref a)] [(.int (1 : Int32))])) (fun tT_ kK_ => st144.trans kK_) ?_
  refine own_st (A := T144.setTop (mkF mM 26 #[.val (.ref a), .val (.ref a), .val (.ref a)] [])) (fun tT_ kK_ => XS.ifNo X144.here hx rfl (hb hby d11_23) rfl ((if0 _ _).trans (feq (by decide : ¬ ((1 : Int32) = (0 : Int32)))).1) kK_) ?_
  refine own_st (A := T144.setTop (mkF mM 27 #[.val (.ref a), .val (.ref a), .val (.ref a)] [(.int (1 : Int32))])) (fun tT_ kK_ => XS.iconst X144.here hx rfl (hb hby d11_26) kK_) ?_
  refine own_st (A := T144.setTop (mkF mM 31 #[.val (.ref a), .val (.ref a), .val (.ref a)] [(.int (1 : Int32))])) (fun tT_ kK_ => XS.goto X144.here hx rfl (pc0 := 27) (pc' := 31) rfl (hb hby d11_27) (by decide) (by decide) kK_) ?_
  exact own_retN X144 hx hlk (t := .boolean) hret (by simp) (hb hby d11_31) ⟨rfl, N144, e144⟩ (by decide) (by decide)
theorem ef_rmREn (mM : MethodId) (a : Addr) : entryFrame mM #[(.ref a), .null] 3 = mkF mM 0 #[.val (.ref a), .val .null, .unset] [] := by first | (simp [entryFrame, mkF, argsToLocals, Value.category]; done) | rfl
set_option maxRecDepth 65536 in
set_option maxHeartbeats 40000000 in
theorem rmREn (lL : Launch) (Z : State) (a0 : Array Value) (hw : ∀ d ∈ tables_1, d.before a0 Z = true) (ws : List Jvm.Cond) (a : Addr) (h0 : Heap) (n0 : Nat)  :
    MetFree lL (⟨"com/example/upfront_duty/upfrontduty/algebra/Role", "equals", "(Ljava/lang/Object;)Z"⟩ : MethodName) (head1 (Jvm.Cond.code (⟨"com/example/upfront_duty/upfrontduty/algebra/Role", "equals", "(Ljava/lang/Object;)Z"⟩ : MethodName) prog_20_method_4_code 3 (some .boolean) :: ws) ({ frames := 0, cells := 0, slots := 0, locals := 0 } : Room)) (fun as_ uU_ => as_ = #[(.ref a), .null] ∧ Z.Warmed39 uU_.vm ∧ uU_.heap = h0) (fun _ _ _ _ _ => True) (fun _ uU_ oO_ uE_ => ∃ vV_ lL_, oO_ = .returned vV_ ∧ Qw (.int 0) h0 n0 vV_ uE_.heap lL_ ∧ FrameEnd uU_ oO_ uE_ lL_ ({ frames := 0, cells := 0, slots := 0, locals := 0 } : Room).cells ({ frames := 0, cells := 0, slots := 0, locals := 0 } : Room).slots) := by
  refine MetFree.of_bodySF (plainFor_of_name pn_com_2fexample_2fupfront_duty_2fupfrontduty_2falgebra_2fRole) hisR ?_
  intro pP eE sS mM args below meth cC s₁ Bd hml0 hP hK
  obtain ⟨rfl, hZ, hh⟩ := hP
  have hx := Bd.exec
  have hby := Bd.bytes
  have hml : cC.maxLocals = 3 := hml0
  have hown : sS.vm.findClass "com/example/upfront_duty/upfrontduty/algebra/Role" = some mM.cls := findClass_of_methodNamed Bd.named
  have hnm := (name_of_methodNamed Bd.named Bd.method).1
  have hret := Bd.returns
  have hlk := BodyLoose.notSynchronized Bd
  have X0 : Stand pP lL eE ({ frames := 0, cells := 0, slots := 0, locals := 0 } : Room) sS mM #[(.ref a), .null] below meth cC s₁ [] 0 0 := Stand.of_body Bd
  have e0 : s₁.heap = h0 := by rw [← hh, Bd.state]; rfl
  have N0 := Fr.nil n0
  show own_Go pP eE below sS (Qw (.int 0) h0 n0) 0 0 (s₁.setTop (entryFrame mM #[(.ref a), .null] 3))
  refine own_st (A := s₁.setTop (mkF mM 0 #[.val (.ref a), .val .null, .unset] [])) (fun tT_ kK_ => castTop (ef_rmREn mM a) kK_) ?_
  refine own_st (A := s₁.setTop (mkF mM 1 #[.val (.ref a), .val .null, .unset] [.null])) (fun tT_ kK_ => XS.aloadN X0.here hx rfl (hb hby d11_0) rfl rfl kK_) ?_
  refine own_st (A := s₁.setTop (mkF mM 4 #[.val (.ref a), .val .null, .unset] [(.int (0 : Int32))])) (fun tT_ kK_ => X0.instanceofNull hx (g := (mkF mM 1 #[.val (.ref a), .val .null, .unset] [.null])) rfl rfl (hb hby d11_1) tT_ kK_) ?_
  refine own_st (A := s₁.setTop (mkF mM 30 #[.val (.ref a), .val .null, .unset] [])) (fun tT_ kK_ => XS.ifYes X0.here hx rfl (pc0 := 4) (pc' := 30) rfl (hb hby d11_4) rfl ((if0 _ _).trans (teq (by decide : ((0 : Int32) = (0 : Int32)))).1) (by decide) (by decide) kK_) ?_
  refine own_st (A := s₁.setTop (mkF mM 31 #[.val (.ref a), .val .null, .unset] [(.int (0 : Int32))])) (fun tT_ kK_ => XS.iconst X0.here hx rfl (hb hby d11_30) kK_) ?_
  exact own_retN X0 hx hlk (t := .boolean) hret (by simp) (hb hby d11_31) ⟨rfl, N0, e0⟩ (by decide) (by decide)
theorem ef_rmREo0 (mM : MethodId) (a : Addr) (b : Addr) : entryFrame mM #[(.ref a), (.ref b)] 3 = mkF mM 0 #[.val (.ref a), .val (.ref b), .unset] [] := by first | (simp [entryFrame, mkF, argsToLocals, Value.category]; done) | rfl
set_option maxRecDepth 65536 in
set_option maxHeartbeats 40000000 in
theorem rmREo0 (lL : Launch) (Z : State) (a0 : Array Value) (hw : ∀ d ∈ tables_1, d.before a0 Z = true) (ws : List Jvm.Cond) (a : Addr) (b : Addr) (h0 : Heap) (n0 : Nat) (eb : Exa Z h0 b "java/lang/String") :
    MetFree lL (⟨"com/example/upfront_duty/upfrontduty/algebra/Role", "equals", "(Ljava/lang/Object;)Z"⟩ : MethodName) (head1 (Jvm.Cond.code (⟨"com/example/upfront_duty/upfrontduty/algebra/Role", "equals", "(Ljava/lang/Object;)Z"⟩ : MethodName) prog_20_method_4_code 3 (some .boolean) :: ws) ({ frames := 0, cells := 0, slots := 0, locals := 0 } : Room)) (fun as_ uU_ => as_ = #[(.ref a), (.ref b)] ∧ Z.Warmed39 uU_.vm ∧ uU_.heap = h0) (fun _ _ _ _ _ => True) (fun _ uU_ oO_ uE_ => ∃ vV_ lL_, oO_ = .returned vV_ ∧ Qw (.int 0) h0 n0 vV_ uE_.heap lL_ ∧ FrameEnd uU_ oO_ uE_ lL_ ({ frames := 0, cells := 0, slots := 0, locals := 0 } : Room).cells ({ frames := 0, cells := 0, slots := 0, locals := 0 } : Room).slots) := by
  refine MetFree.of_bodySF (plainFor_of_name pn_com_2fexample_2fupfront_duty_2fupfrontduty_2falgebra_2fRole) hisR ?_
  intro pP eE sS mM args below meth cC s₁ Bd hml0 hP hK
  obtain ⟨rfl, hZ, hh⟩ := hP
  have hx := Bd.exec
  have hby := Bd.bytes
  have hml : cC.maxLocals = 3 := hml0
  have hown : sS.vm.findClass "com/example/upfront_duty/upfrontduty/algebra/Role" = some mM.cls := findClass_of_methodNamed Bd.named
  have hnm := (name_of_methodNamed Bd.named Bd.method).1
  have hret := Bd.returns
  have hlk := BodyLoose.notSynchronized Bd
  have X0 : Stand pP lL eE ({ frames := 0, cells := 0, slots := 0, locals := 0 } : Room) sS mM #[(.ref a), (.ref b)] below meth cC s₁ [] 0 0 := Stand.of_body Bd
  have e0 : s₁.heap = h0 := by rw [← hh, Bd.state]; rfl
  have N0 := Fr.nil n0
  show own_Go pP eE below sS (Qw (.int 0) h0 n0) 0 0 (s₁.setTop (entryFrame mM #[(.ref a), (.ref b)] 3))
  refine own_st (A := s₁.setTop (mkF mM 0 #[.val (.ref a), .val (.ref b), .unset] [])) (fun tT_ kK_ => castTop (ef_rmREo0 mM a b) kK_) ?_
  refine own_st (A := s₁.setTop (mkF mM 1 #[.val (.ref a), .val (.ref b), .unset] [(.ref b)])) (fun tT_ kK_ => XS.aloadN X0.here hx rfl (hb hby d11_0) rfl rfl kK_) ?_
  obtain ⟨T145, X145, e145, st145⟩ := instNo X0 hx hZ hown (hw _ (List.mem_of_getElem? (i := 60) rfl)) e0 eb (own_NSno (hw _ (List.mem_of_getElem? (i := 77) rfl)) (hw _ (List.mem_of_getElem? (i := 35) rfl)) (NS.step (hw _ (List.mem_of_getElem? (i := 77) rfl)) (own_NSroot (hw _ (List.mem_of_getElem? (i := 76) rfl)) (hw _ (List.mem_of_getElem? (i := 35) rfl)) (by decide)) (by decide)) (by decide)) (g := (mkF mM 1 #[.val (.ref a), .val (.ref b), .unset] [(.ref b)])) rfl rfl (hb hby d11_1)
  refine own_st (A := T145.setTop (mkF mM 4 #[.val (.ref a), .val (.ref b), .unset] [(.int (0 : Int32))])) (fun tT_ kK_ => st145 tT_ kK_) ?_
  refine own_st (A := T145.setTop (mkF mM 30 #[.val (.ref a), .val (.ref b), .unset] [])) (fun tT_ kK_ => XS.ifYes X145.here hx rfl (pc0 := 4) (pc' := 30) rfl (hb hby d11_4) rfl ((if0 _ _).trans (teq (by decide : ((0 : Int32) = (0 : Int32)))).1) (by decide) (by decide) kK_) ?_
  refine own_st (A := T145.setTop (mkF mM 31 #[.val (.ref a), .val (.ref b), .unset] [(.int (0 : Int32))])) (fun tT_ kK_ => XS.iconst X145.here hx rfl (hb hby d11_30) kK_) ?_
  exact own_retN X145 hx hlk (t := .boolean) hret (by simp) (hb hby d11_31) ⟨rfl, N0, e145⟩ (by decide) (by decide)
theorem ef_rmREo1 (mM : MethodId) (a : Addr) (b : Addr) : entryFrame mM #[(.ref a), (.ref b)] 3 = mkF mM 0 #[.val (.ref a), .val (.ref b), .unset] [] := by first | (simp [entryFrame, mkF, argsToLocals, Value.category]; done) | rfl
set_option maxRecDepth 65536 in
set_option maxHeartbeats 40000000 in
theorem rmREo1 (lL : Launch) (Z : State) (a0 : Array Value) (hw : ∀ d ∈ tables_1, d.before a0 Z = true) (ws : List Jvm.Cond) (a : Addr) (b : Addr) (h0 : Heap) (n0 : Nat) (eb : Exa Z h0 b "com/example/upfront_duty/upfrontduty/algebra/AllUsers") :
    MetFree lL (⟨"com/example/upfront_duty/upfrontduty/algebra/Role", "equals", "(Ljava/lang/Object;)Z"⟩ : MethodName) (head1 (Jvm.Cond.code (⟨"com/example/upfront_duty/upfrontduty/algebra/Role", "equals", "(Ljava/lang/Object;)Z"⟩ : MethodName) prog_20_method_4_code 3 (some .boolean) :: ws) ({ frames := 0, cells := 0, slots := 0, locals := 0 } : Room)) (fun as_ uU_ => as_ = #[(.ref a), (.ref b)] ∧ Z.Warmed39 uU_.vm ∧ uU_.heap = h0) (fun _ _ _ _ _ => True) (fun _ uU_ oO_ uE_ => ∃ vV_ lL_, oO_ = .returned vV_ ∧ Qw (.int 0) h0 n0 vV_ uE_.heap lL_ ∧ FrameEnd uU_ oO_ uE_ lL_ ({ frames := 0, cells := 0, slots := 0, locals := 0 } : Room).cells ({ frames := 0, cells := 0, slots := 0, locals := 0 } : Room).slots) := by
  refine MetFree.of_bodySF (plainFor_of_name pn_com_2fexample_2fupfront_duty_2fupfrontduty_2falgebra_2fRole) hisR ?_
  intro pP eE sS mM args below meth cC s₁ Bd hml0 hP hK
  obtain ⟨rfl, hZ, hh⟩ := hP
  have hx := Bd.exec
  have hby := Bd.bytes
  have hml : cC.maxLocals = 3 := hml0
  have hown : sS.vm.findClass "com/example/upfront_duty/upfrontduty/algebra/Role" = some mM.cls := findClass_of_methodNamed Bd.named
  have hnm := (name_of_methodNamed Bd.named Bd.method).1
  have hret := Bd.returns
  have hlk := BodyLoose.notSynchronized Bd
  have X0 : Stand pP lL eE ({ frames := 0, cells := 0, slots := 0, locals := 0 } : Room) sS mM #[(.ref a), (.ref b)] below meth cC s₁ [] 0 0 := Stand.of_body Bd
  have e0 : s₁.heap = h0 := by rw [← hh, Bd.state]; rfl
  have N0 := Fr.nil n0
  show own_Go pP eE below sS (Qw (.int 0) h0 n0) 0 0 (s₁.setTop (entryFrame mM #[(.ref a), (.ref b)] 3))
  refine own_st (A := s₁.setTop (mkF mM 0 #[.val (.ref a), .val (.ref b), .unset] [])) (fun tT_ kK_ => castTop (ef_rmREo1 mM a b) kK_) ?_
  refine own_st (A := s₁.setTop (mkF mM 1 #[.val (.ref a), .val (.ref b), .unset] [(.ref b)])) (fun tT_ kK_ => XS.aloadN X0.here hx rfl (hb hby d11_0) rfl rfl kK_) ?_
  obtain ⟨T146, X146, e146, st146⟩ := instNo X0 hx hZ hown (hw _ (List.mem_of_getElem? (i := 60) rfl)) e0 eb (own_NSno (hw _ (List.mem_of_getElem? (i := 75) rfl)) (hw _ (List.mem_of_getElem? (i := 35) rfl)) (NS.step (hw _ (List.mem_of_getElem? (i := 75) rfl)) (own_NSroot (hw _ (List.mem_of_getElem? (i := 76) rfl)) (hw _ (List.mem_of_getElem? (i := 35) rfl)) (by decide)) (by decide)) (by decide)) (g := (mkF mM 1 #[.val (.ref a), .val (.ref b), .unset] [(.ref b)])) rfl rfl (hb hby d11_1)
  refine own_st (A := T146.setTop (mkF mM 4 #[.val (.ref a), .val (.ref b), .unset] [(.int (0 : Int32))])) (fun tT_ kK_ => st146 tT_ kK_) ?_
  refine own_st (A := T146.setTop (mkF mM 30 #[.val (.ref a), .val (.ref b), .unset] [])) (fun tT_ kK_ => XS.ifYes X146.here hx rfl (pc0 := 4) (pc' := 30) rfl (hb hby d11_4) rfl ((if0 _ _).trans (teq (by decide : ((0 : Int32) = (0 : Int32)))).1) (by decide) (by decide) kK_) ?_
  refine own_st (A := T146.setTop (mkF mM 31 #[.val (.ref a), .val (.ref b), .unset] [(.int (0 : Int32))])) (fun tT_ kK_ => XS.iconst X146.here hx rfl (hb hby d11_30) kK_) ?_
  exact own_retN X146 hx hlk (t := .boolean) hret (by simp) (hb hby d11_31) ⟨rfl, N0, e146⟩ (by decide) (by decide)
theorem pd__28ZCC_29Ljava_2flang_2fString_3b : parseMethodDescriptor "(ZCC)Ljava/lang/String;" = some ⟨[.boolean, .char, .char], some (.object "java/lang/String")⟩ := by decide +kernel
theorem pd__28Ljava_2flang_2fString_3b_29V : parseMethodDescriptor "(Ljava/lang/String;)V" = some ⟨[(.object "java/lang/String")], none⟩ := by decide +kernel
set_option maxRecDepth 65536 in
set_option maxHeartbeats 40000000 in
theorem J84_00 {pP : Program} {lL : Launch} {eE : Env} {sS : State} {mM : MethodId} {args : Array Value} {below : List Frame} {meth : Method} {cC : Code} {T0 : State} {locs : List Loc} {Z : State} {a0 : Array Value} {h0 : Heap} {n0 : Nat} {vmV : Vm} (hw : ∀ d ∈ tables_1, d.before a0 Z = true) (X0 : Stand pP lL eE room_1 (sS.setVm vmV) mM args below meth cC T0 locs 0 0) (hx : pP.tables.exec = Jvm.exec) (hZ : Z.Warmed39 (sS.setVm vmV).vm) (hby : cC.code = code) (hml : cC.maxLocals = 18) (hown : (sS.setVm vmV).vm.findClass "com/example/upfront_duty/upfrontduty/algebra/RoleEqualsPinLaw" = some mM.cls) (hlk : meth.locks = false) (hret : meth.sig.returnType = ret) {kV : Nat} (hS : sS.Since vmV kV) (hk : kV ≤ h0.size) (e0 : T0.heap = h0) (N0 : Fr n0 locs) (u0 : Int32) (u1 : Int32) (u2 : Int32) (u3 : Int32) (u4 : Int32) (u5 : Int32) (x0 : Int32) (x1 : Int32) (y0 : Int32) (y1 : Int32) (cs : Int32) (au : Addr) (O : Old Z n0 h0) (Zn : n0 ≤ h0.size) (S_cs : Sta Z Z.heap "java/lang/String" "COMPACT_STRINGS" "Z" (.int cs)) (hcs : ¬ cs = (0 : Int32)) (S_au : Sta Z Z.heap "com/example/upfront_duty/upfrontduty/algebra/AllUsers" "INSTANCE" "Lcom/example/upfront_duty/upfrontduty/algebra/AllUsers;" (.ref au)) (E_au : Exa Z Z.heap au "com/example/upfront_duty/upfrontduty/algebra/AllUsers") (cx0 : Ck x0) (cx1 : Ck x1) (cy0 : Ck y0) (cy1 : Ck y1) :
    own_GoW pP eE below sS (QLaw n0) 32 1152 (T0.setTop (mkF mM 84 #[.val (.int u0), .val (.int u1), .val (.int u2), .val (.int u3), .val (.int u4), .val (.int u5), .val (.int x0), .val (.int x1), .val (.int y0), .val (.int y1), .val (.int (0 : Int32)), .val (.int (0 : Int32)), .unset, .unset, .unset, .unset, .unset, .unset] [])) := by
  refine own_stW (A := T0.setTop (mkF mM 86 #[.val (.int u0), .val (.int u1), .val (.int u2), .val (.int u3), .val (.int u4), .val (.int u5), .val (.int x0), .val (.int x1), .val (.int y0), .val (.int y1), .val (.int (0 : Int32)), .val (.int (0 : Int32)), .unset, .unset, .unset, .unset, .unset, .unset] [(.int (0 : Int32))])) (fun tT_ kK_ => XS.iload X0.here hx rfl (hb hby at_84) rfl kK_) ?_
  refine own_stW (A := T0.setTop (mkF mM 88 #[.val (.int u0), .val (.int u1), .val (.int u2), .val (.int u3), .val (.int u4), .val (.int u5), .val (.int x0), .val (.int x1), .val (.int y0), .val (.int y1), .val (.int (0 : Int32)), .val (.int (0 : Int32)), .unset, .unset, .unset, .unset, .unset, .unset] [(.int x0), (.int (0 : Int32))])) (fun tT_ kK_ => XS.iload X0.here hx rfl (hb hby at_86) rfl kK_) ?_
  refine own_stW (A := T0.setTop (mkF mM 90 #[.val (.int u0), .val (.int u1), .val (.int u2), .val (.int u3), .val (.int u4), .val (.int u5), .val (.int x0), .val (.int x1), .val (.int y0), .val (.int y1), .val (.int (0 : Int32)), .val (.int (0 : Int32)), .unset, .unset, .unset, .unset, .unset, .unset] [(.int x1), (.int x0), (.int (0 : Int32))])) (fun tT_ kK_ => XS.iload X0.here hx rfl (hb hby at_88) rfl kK_) ?_
  obtain ⟨_, _, ⟨T147, L147, k147, n147⟩, -, X147, ⟨Lc147, hQ147, l147, y147, z147⟩, st147⟩ := Jvm.LawKit.callS X0 hx (y := (⟨"com/example/upfront_duty/upfrontduty/algebra/RoleEqualsPinLaw", "name", "(ZCC)Ljava/lang/String;"⟩ : MethodName)) hown (mvT hZ (hw _ (List.mem_of_getElem? (i := 0) rfl))) (mvT hZ (hw _ (List.mem_of_getElem? (i := 1) rfl))) (mvT hZ (hw _ (List.mem_of_getElem? (i := 2) rfl))) (mvT hZ (hw _ (List.mem_of_getElem? (i := 3) rfl))) (by decide) (backOf (W := 0) (rmN1 lL Z a0 hw [] cs x0 x1 h0 n0 O Zn S_cs hcs cx0 cx1) hZ (hw _ (List.mem_of_getElem? (i := 3) rfl)) (hw _ (List.mem_of_getElem? (i := 2) rfl)) (by decide) (by decide)) (g := (mkF mM 90 #[.val (.int u0), .val (.int u1), .val (.int u2), .val (.int u3), .val (.int u4), .val (.int u5), .val (.int x0), .val (.int x1), .val (.int y0), .val (.int y1), .val (.int (0 : Int32)), .val (.int (0 : Int32)), .unset, .unset, .unset, .unset, .unset, .unset] [(.int x1), (.int x0), (.int (0 : Int32))])) rfl (by rw [hml]; rfl) (argsL := [(.int (0 : Int32)), (.int x0), (.int x1)]) (rest := []) (lenOf pd__28ZCC_29Ljava_2flang_2fString_3b rfl) rfl (by show 2 * 0 + _ ≤ _; exact Nat.le_of_eq rfl) (hb hby at_90) (fun _ _ => ⟨rfl, e0, (by decide : 0 + 3 ≤ _), (by decide : 0 + 6 ≤ _)⟩)
  dsimp only [Pt.U, Pt.locs, Pt.cells, Pt.slots] at X147 l147 y147 z147 st147 hQ147
  subst l147 y147 z147
  obtain ⟨p147, d147, k147', rfl, N147q, E147, str147, ga147, gd147⟩ := hQ147
  have N147 := Fr.app N0 N147q
  have e147 : T147.heap = T147.heap := rfl
  refine own_stW (A := T147.setTop (mkF mM 93 #[.val (.int u0), .val (.int u1), .val (.int u2), .val (.int u3), .val (.int u4), .val (.int u5), .val (.int x0), .val (.int x1), .val (.int y0), .val (.int y1), .val (.int (0 : Int32)), .val (.int (0 : Int32)), .unset, .unset, .unset, .unset, .unset, .unset] [(.ref p147)])) (fun tT_ kK_ => st147 tT_ kK_) ?_
  have O := O.ext E147
  have hk := Nat.le_trans hk E147.1
  have Zn := Nat.le_trans Zn E147.1
  have sa := str147
  refine own_stW (A := T147.setTop (mkF mM 95 #[.val (.int u0), .val (.int u1), .val (.int u2), .val (.int u3), .val (.int u4), .val (.int u5), .val (.int x0), .val (.int x1), .val (.int y0), .val (.int y1), .val (.int (0 : Int32)), .val (.int (0 : Int32)), .val (.ref p147), .unset, .unset, .unset, .unset, .unset] [])) (fun tT_ kK_ => XS.astore X147.here hx rfl (hb hby at_93) rfl rfl (l' := #[.val (.int u0), .val (.int u1), .val (.int u2), .val (.int u3), .val (.int u4), .val (.int u5), .val (.int x0), .val (.int x1), .val (.int y0), .val (.int y1), .val (.int (0 : Int32)), .val (.int (0 : Int32)), .val (.ref p147), .unset, .unset, .unset, .unset, .unset]) rfl kK_) ?_
  refine own_stW (A := T147.setTop (mkF mM 97 #[.val (.int u0), .val (.int u1), .val (.int u2), .val (.int u3), .val (.int u4), .val (.int u5), .val (.int x0), .val (.int x1), .val (.int y0), .val (.int y1), .val (.int (0 : Int32)), .val (.int (0 : Int32)), .val (.ref p147), .unset, .unset, .unset, .unset, .unset] [(.int (0 : Int32))])) (fun tT_ kK_ => XS.iload X147.here hx rfl (hb hby at_95) rfl kK_) ?_
  refine own_stW (A := T147.setTop (mkF mM 99 #[.val (.int u0), .val (.int u1), .val (.int u2), .val (.int u3), .val (.int u4), .val (.int u5), .val (.int x0), .val (.int x1), .val (.int y0), .val (.int y1), .val (.int (0 : Int32)), .val (.int (0 : Int32)), .val (.ref p147), .unset, .unset, .unset, .unset, .unset] [(.int y0), (.int (0 : Int32))])) (fun tT_ kK_ => XS.iload X147.here hx rfl (hb hby at_97) rfl kK_) ?_
  refine own_stW (A := T147.setTop (mkF mM 101 #[.val (.int u0), .val (.int u1), .val (.int u2), .val (.int u3), .val (.int u4), .val (.int u5), .val (.int x0), .val (.int x1), .val (.int y0), .val (.int y1), .val (.int (0 : Int32)), .val (.int (0 : Int32)), .val (.ref p147), .unset, .unset, .unset, .unset, .unset] [(.int y1), (.int y0), (.int (0 : Int32))])) (fun tT_ kK_ => XS.iload X147.here hx rfl (hb hby at_99) rfl kK_) ?_
  obtain ⟨_, _, ⟨T148, L148, k148, n148⟩, -, X148, ⟨Lc148, hQ148, l148, y148, z148⟩, st148⟩ := Jvm.LawKit.callS X147 hx (y := (⟨"com/example/upfront_duty/upfrontduty/algebra/RoleEqualsPinLaw", "name", "(ZCC)Ljava/lang/String;"⟩ : MethodName)) hown (mvT hZ (hw _ (List.mem_of_getElem? (i := 0) rfl))) (mvT hZ (hw _ (List.mem_of_getElem? (i := 1) rfl))) (mvT hZ (hw _ (List.mem_of_getElem? (i := 2) rfl))) (mvT hZ (hw _ (List.mem_of_getElem? (i := 3) rfl))) (by decide) (backOf (W := 0) (rmN1 lL Z a0 hw [] cs y0 y1 T147.heap n0 O Zn S_cs hcs cy0 cy1) hZ (hw _ (List.mem_of_getElem? (i := 3) rfl)) (hw _ (List.mem_of_getElem? (i := 2) rfl)) (by decide) (by decide)) (g := (mkF mM 101 #[.val (.int u0), .val (.int u1), .val (.int u2), .val (.int u3), .val (.int u4), .val (.int u5), .val (.int x0), .val (.int x1), .val (.int y0), .val (.int y1), .val (.int (0 : Int32)), .val (.int (0 : Int32)), .val (.ref p147), .unset, .unset, .unset, .unset, .unset] [(.int y1), (.int y0), (.int (0 : Int32))])) rfl (by rw [hml]; rfl) (argsL := [(.int (0 : Int32)), (.int y0), (.int y1)]) (rest := []) (lenOf pd__28ZCC_29Ljava_2flang_2fString_3b rfl) rfl (by show 2 * 0 + _ ≤ _; exact Nat.le_of_eq rfl) (hb hby at_101) (fun _ _ => ⟨rfl, e147, (by decide : 3 + 3 ≤ _), (by decide : 6 + 6 ≤ _)⟩)
  dsimp only [Pt.U, Pt.locs, Pt.cells, Pt.slots] at X148 l148 y148 z148 st148 hQ148
  subst l148 y148 z148
  obtain ⟨p148, d148, k148', rfl, N148q, E148, str148, ga148, gd148⟩ := hQ148
  have N148 := Fr.app N147 N148q
  have e148 : T148.heap = T148.heap := rfl
  refine own_stW (A := T148.setTop (mkF mM 104 #[.val (.int u0), .val (.int u1), .val (.int u2), .val (.int u3), .val (.int u4), .val (.int u5), .val (.int x0), .val (.int x1), .val (.int y0), .val (.int y1), .val (.int (0 : Int32)), .val (.int (0 : Int32)), .val (.ref p147), .unset, .unset, .unset, .unset, .unset] [(.ref p148)])) (fun tT_ kK_ => st148 tT_ kK_) ?_
  have nss : p147 ≠ p148 := Nat.ne_of_lt (Nat.lt_of_lt_of_le sa.1.lt ga148)
  have sa := own_Str_ext sa E148
  have O := O.ext E148
  have hk := Nat.le_trans hk E148.1
  have Zn := Nat.le_trans Zn E148.1
  have sb := str148
  refine own_stW (A := T148.setTop (mkF mM 106 #[.val (.int u0), .val (.int u1), .val (.int u2), .val (.int u3), .val (.int u4), .val (.int u5), .val (.int x0), .val (.int x1), .val (.int y0), .val (.int y1), .val (.int (0 : Int32)), .val (.int (0 : Int32)), .val (.ref p147), .val (.ref p148), .unset, .unset, .unset, .unset] [])) (fun tT_ kK_ => XS.astore X148.here hx rfl (hb hby at_104) rfl rfl (l' := #[.val (.int u0), .val (.int u1), .val (.int u2), .val (.int u3), .val (.int u4), .val (.int u5), .val (.int x0), .val (.int x1), .val (.int y0), .val (.int y1), .val (.int (0 : Int32)), .val (.int (0 : Int32)), .val (.ref p147), .val (.ref p148), .unset, .unset, .unset, .unset]) rfl kK_) ?_
  obtain ⟨T149, h149, X149, e149, E149, A149, D149, -, st149⟩ := newO X148 hx hZ hown (hw _ (List.mem_of_getElem? (i := 34) rfl)) (hw _ (List.mem_of_getElem? (i := 35) rfl)) (hw _ (List.mem_of_getElem? (i := 36) rfl)) e148 (g := (mkF mM 106 #[.val (.int u0), .val (.int u1), .val (.int u2), .val (.int u3), .val (.int u4), .val (.int u5), .val (.int x0), .val (.int x1), .val (.int y0), .val (.int y1), .val (.int (0 : Int32)), .val (.int (0 : Int32)), .val (.ref p147), .val (.ref p148), .unset, .unset, .unset, .unset] [])) rfl (hb hby at_106) (by decide) (by decide)
  obtain ⟨b149, g149⟩ : ∃ z, z = T148.heap.size := ⟨_, rfl⟩
  rw [← g149] at A149 D149 st149
  have g_b149 : n0 ≤ b149 := Nat.le_trans Zn (Nat.le_of_eq g149.symm)
  have sa := own_Str_ext sa E149
  have sb := own_Str_ext sb E149
  have O := O.ext E149
  have hk := Nat.le_trans hk E149.1
  have Zn := Nat.le_trans Zn E149.1
  have E_b149 := A149
  have F_b149_name : Fld Z h149 b149 "com/example/upfront_duty/upfrontduty/algebra/Role" "name" "Ljava/lang/String;" .null := D149 (Or.inr (hw _ (List.mem_of_getElem? (i := 54) rfl))) (ty := (.object "java/lang/String")) (by decide)
  refine own_stW (A := T149.setTop (mkF mM 109 #[.val (.int u0), .val (.int u1), .val (.int u2), .val (.int u3), .val (.int u4), .val (.int u5), .val (.int x0), .val (.int x1), .val (.int y0), .val (.int y1), .val (.int (0 : Int32)), .val (.int (0 : Int32)), .val (.ref p147), .val (.ref p148), .unset, .unset, .unset, .unset] [(.ref b149)])) (fun tT_ kK_ => st149 tT_ kK_) ?_
  refine own_stW (A := T149.setTop (mkF mM 110 #[.val (.int u0), .val (.int u1), .val (.int u2), .val (.int u3), .val (.int u4), .val (.int u5), .val (.int x0), .val (.int x1), .val (.int y0), .val (.int y1), .val (.int (0 : Int32)), .val (.int (0 : Int32)), .val (.ref p147), .val (.ref p148), .unset, .unset, .unset, .unset] [(.ref b149), (.ref b149)])) (fun tT_ kK_ => XS.dup X149.here hx rfl (hb hby at_109) rfl rfl kK_) ?_
  refine own_stW (A := T149.setTop (mkF mM 112 #[.val (.int u0), .val (.int u1), .val (.int u2), .val (.int u3), .val (.int u4), .val (.int u5), .val (.int x0), .val (.int x1), .val (.int y0), .val (.int y1), .val (.int (0 : Int32)), .val (.int (0 : Int32)), .val (.ref p147), .val (.ref p148), .unset, .unset, .unset, .unset] [(.ref p147), (.ref b149), (.ref b149)])) (fun tT_ kK_ => XS.aload X149.here hx rfl (hb hby at_110) rfl rfl kK_) ?_
  obtain ⟨_, _, ⟨T150, L150, k150, n150⟩, -, X150, hS150, hg150, ⟨Lc150, hQ150, l150, y150, z150⟩, st150⟩ := X149.specialBackS hx (y := (⟨"com/example/upfront_duty/upfrontduty/algebra/Role", "<init>", "(Ljava/lang/String;)V"⟩ : MethodName)) rfl hown (mvT hZ (hw _ (List.mem_of_getElem? (i := 37) rfl))) (mvT hZ (hw _ (List.mem_of_getElem? (i := 38) rfl))) (mvT hZ (hw _ (List.mem_of_getElem? (i := 39) rfl))) (by decide) (backOfS (W := 1) (rmRI1 lL Z a0 hw [] b149 p147 d147 k147' x0 h149 n0 g_b149 E_b149 F_b149_name sa (Exa.ne sa.1 E_b149 (by decide)) (Exa.neArv E_b149 sa.2.2.2 (hw _ (List.mem_of_getElem? (i := 35) rfl))).symm) hZ (hw _ (List.mem_of_getElem? (i := 39) rfl)) (hw _ (List.mem_of_getElem? (i := 36) rfl)) (by decide) (by decide)) (g := (mkF mM 112 #[.val (.int u0), .val (.int u1), .val (.int u2), .val (.int u3), .val (.int u4), .val (.int u5), .val (.int x0), .val (.int x1), .val (.int y0), .val (.int y1), .val (.int (0 : Int32)), .val (.int (0 : Int32)), .val (.ref p147), .val (.ref p148), .unset, .unset, .unset, .unset] [(.ref p147), (.ref b149), (.ref b149)])) rfl (by rw [hml]; rfl) (Steps.refl _) (a := b149) (argsL := [(.ref p147)]) (rest := [(.ref b149)]) (lenOf pd__28Ljava_2flang_2fString_3b_29V rfl) rfl (by show 2 * 0 + _ ≤ _; exact Nat.le_of_eq rfl) (hb hby at_112) (fun _ _ => ⟨rfl, e149, (by decide : 7 + 2 ≤ _), (by decide : 13 + 20 ≤ _)⟩)
  dsimp only [Pt.U, Pt.locs, Pt.cells, Pt.slots] at X150 l150 y150 z150 st150 hQ150 hS150 hg150
  subst l150 y150 z150
  obtain ⟨rfl, N150q, K150, x150, y150⟩ := hQ150
  have N150 := Fr.app N148 N150q
  rw [e149] at hg150
  have hZ := own_wideZ hZ hS150
  have hown := own_wideO hown hS150
  have hS := hS.trans hS150 (Nat.le_trans hk hg150)
  have hk : T150.heap.size ≤ T150.heap.size := Nat.le_refl _
  have X150 : Stand pP lL eE room_1 (sS.setVm T150.vm) mM args below meth cC T150 _ 9 33 := X150
  have e150 : T150.heap = T150.heap := rfl
  refine own_stW (A := T150.setTop (mkF mM 115 #[.val (.int u0), .val (.int u1), .val (.int u2), .val (.int u3), .val (.int u4), .val (.int u5), .val (.int x0), .val (.int x1), .val (.int y0), .val (.int y1), .val (.int (0 : Int32)), .val (.int (0 : Int32)), .val (.ref p147), .val (.ref p148), .unset, .unset, .unset, .unset] [(.ref b149)])) (fun tT_ kK_ => st150.trans kK_) ?_
  have sa := own_Str_keep sa K150 (ninS (Exa.ne sa.1 E_b149 (by decide)) nin0) (ninS (Exa.neArv E_b149 sa.2.2.2 (hw _ (List.mem_of_getElem? (i := 35) rfl))).symm nin0)
  have sb := own_Str_keep sb K150 (ninS (Exa.ne sb.1 E_b149 (by decide)) nin0) (ninS (Exa.neArv E_b149 sb.2.2.2 (hw _ (List.mem_of_getElem? (i := 35) rfl))).symm nin0)
  have E_b149 := E_b149.keep K150
  have O := O.keep K150 (allS g_b149 all0)
  have Zn := Nat.le_trans Zn K150.1
  have ra : Rol Z _ _ _ := ⟨x150, y150⟩
  refine own_stW (A := T150.setTop (mkF mM 117 #[.val (.int u0), .val (.int u1), .val (.int u2), .val (.int u3), .val (.int u4), .val (.int u5), .val (.int x0), .val (.int x1), .val (.int y0), .val (.int y1), .val (.int (0 : Int32)), .val (.int (0 : Int32)), .val (.ref p147), .val (.ref p148), .val (.ref b149), .unset, .unset, .unset] [])) (fun tT_ kK_ => XS.astore X150.here hx rfl (hb hby at_115) rfl rfl (l' := #[.val (.int u0), .val (.int u1), .val (.int u2), .val (.int u3), .val (.int u4), .val (.int u5), .val (.int x0), .val (.int x1), .val (.int y0), .val (.int y1), .val (.int (0 : Int32)), .val (.int (0 : Int32)), .val (.ref p147), .val (.ref p148), .val (.ref b149), .unset, .unset, .unset]) rfl kK_) ?_
  refine own_stW (A := T150.setTop (mkF mM 119 #[.val (.int u0), .val (.int u1), .val (.int u2), .val (.int u3), .val (.int u4), .val (.int u5), .val (.int x0), .val (.int x1), .val (.int y0), .val (.int y1), .val (.int (0 : Int32)), .val (.int (0 : Int32)), .val (.ref p147), .val (.ref p148), .val (.ref b149), .unset, .unset, .unset] [(.int u5)])) (fun tT_ kK_ => XS.iload X150.here hx rfl (hb hby at_117) rfl kK_) ?_
  refine own_stW (A := T150.setTop (mkF mM 120 #[.val (.int u0), .val (.int u1), .val (.int u2), .val (.int u3), .val (.int u4), .val (.int u5), .val (.int x0), .val (.int x1), .val (.int y0), .val (.int y1), .val (.int (0 : Int32)), .val (.int (0 : Int32)), .val (.ref p147), .val (.ref p148), .val (.ref b149), .unset, .unset, .unset] [(.int (2 : Int32)), (.int u5)])) (fun tT_ kK_ => XS.iconst X150.here hx rfl (hb hby at_119) kK_) ?_
  refine own_stW (A := T150.setTop (mkF mM 121 #[.val (.int u0), .val (.int u1), .val (.int u2), .val (.int u3), .val (.int u4), .val (.int u5), .val (.int x0), .val (.int x1), .val (.int y0), .val (.int y1), .val (.int (0 : Int32)), .val (.int (0 : Int32)), .val (.ref p147), .val (.ref p148), .val (.ref b149), .unset, .unset, .unset] [(.int (u5 >>> ((2 : Int32) &&& 31)))])) (fun tT_ kK_ => XS.ishr X150.here hx rfl (hb hby at_120) rfl kK_) ?_
  refine own_stW (A := T150.setTop (mkF mM 122 #[.val (.int u0), .val (.int u1), .val (.int u2), .val (.int u3), .val (.int u4), .val (.int u5), .val (.int x0), .val (.int x1), .val (.int y0), .val (.int y1), .val (.int (0 : Int32)), .val (.int (0 : Int32)), .val (.ref p147), .val (.ref p148), .val (.ref b149), .unset, .unset, .unset] [(.int (3 : Int32)), (.int (u5 >>> ((2 : Int32) &&& 31)))])) (fun tT_ kK_ => XS.iconst X150.here hx rfl (hb hby at_121) kK_) ?_
  refine own_stW (A := T150.setTop (mkF mM 123 #[.val (.int u0), .val (.int u1), .val (.int u2), .val (.int u3), .val (.int u4), .val (.int u5), .val (.int x0), .val (.int x1), .val (.int y0), .val (.int y1), .val (.int (0 : Int32)), .val (.int (0 : Int32)), .val (.ref p147), .val (.ref p148), .val (.ref b149), .unset, .unset, .unset] [(.int ((u5 >>> ((2 : Int32) &&& 31)) &&& (3 : Int32)))])) (fun tT_ kK_ => XS.iand X150.here hx rfl (hb hby at_122) rfl kK_) ?_
  refine own_stW (A := T150.setTop (mkF mM 125 #[.val (.int u0), .val (.int u1), .val (.int u2), .val (.int u3), .val (.int u4), .val (.int u5), .val (.int x0), .val (.int x1), .val (.int y0), .val (.int y1), .val (.int (0 : Int32)), .val (.int (0 : Int32)), .val (.ref p147), .val (.ref p148), .val (.ref b149), .val (.int ((u5 >>> ((2 : Int32) &&& 31)) &&& (3 : Int32))), .unset, .unset] [])) (fun tT_ kK_ => XS.istore X150.here hx rfl (hb hby at_123) rfl (l' := #[.val (.int u0), .val (.int u1), .val (.int u2), .val (.int u3), .val (.int u4), .val (.int u5), .val (.int x0), .val (.int x1), .val (.int y0), .val (.int y1), .val (.int (0 : Int32)), .val (.int (0 : Int32)), .val (.ref p147), .val (.ref p148), .val (.ref b149), .val (.int ((u5 >>> ((2 : Int32) &&& 31)) &&& (3 : Int32))), .unset, .unset]) rfl kK_) ?_
  refine own_stW (A := T150.setTop (mkF mM 127 #[.val (.int u0), .val (.int u1), .val (.int u2), .val (.int u3), .val (.int u4), .val (.int u5), .val (.int x0), .val (.int x1), .val (.int y0), .val (.int y1), .val (.int (0 : Int32)), .val (.int (0 : Int32)), .val (.ref p147), .val (.ref p148), .val (.ref b149), .val (.int ((u5 >>> ((2 : Int32) &&& 31)) &&& (3 : Int32))), .unset, .unset] [(.int ((u5 >>> ((2 : Int32) &&& 31)) &&& (3 : Int32)))])) (fun tT_ kK_ => XS.iload X150.here hx rfl (hb hby at_125) rfl kK_) ?_
  by_cases hc127_151 : ((u5 >>> ((2 : Int32) &&& 31)) &&& (3 : Int32)) = (0 : Int32)
  · skip
    refine own_stW (A := T150.setTop (mkF mM 130 #[.val (.int u0), .val (.int u1), .val (.int u2), .val (.int u3), .val (.int u4), .val (.int u5), .val (.int x0), .val (.int x1), .val (.int y0), .val (.int y1), .val (.int (0 : Int32)), .val (.int (0 : Int32)), .val (.ref p147), .val (.ref p148), .val (.ref b149), .val (.int ((u5 >>> ((2 : Int32) &&& 31)) &&& (3 : Int32))), .unset, .unset] [])) (fun tT_ kK_ => XS.ifNo X150.here hx rfl (hb hby at_127) rfl ((if0 _ _).trans (teq hc127_151).2) kK_) ?_
    obtain ⟨T152, h152, X152, e152, E152, A152, D152, -, st152⟩ := newO X150 hx hZ hown (hw _ (List.mem_of_getElem? (i := 34) rfl)) (hw _ (List.mem_of_getElem? (i := 35) rfl)) (hw _ (List.mem_of_getElem? (i := 36) rfl)) e150 (g := (mkF mM 130 #[.val (.int u0), .val (.int u1), .val (.int u2), .val (.int u3), .val (.int u4), .val (.int u5), .val (.int x0), .val (.int x1), .val (.int y0), .val (.int y1), .val (.int (0 : Int32)), .val (.int (0 : Int32)), .val (.ref p147), .val (.ref p148), .val (.ref b149), .val (.int ((u5 >>> ((2 : Int32) &&& 31)) &&& (3 : Int32))), .unset, .unset] [])) rfl (hb hby at_130) (by decide) (by decide)
    obtain ⟨b152, g152⟩ : ∃ z, z = T150.heap.size := ⟨_, rfl⟩
    rw [← g152] at A152 D152 st152
    have ne_b149_b152 : b149 ≠ b152 := Nat.ne_of_lt (Nat.lt_of_lt_of_le ra.1.lt (Nat.le_of_eq g152.symm))
    have g_b152 : n0 ≤ b152 := Nat.le_trans Zn (Nat.le_of_eq g152.symm)
    have sa := own_Str_ext sa E152
    have sb := own_Str_ext sb E152
    have ra := own_Rol_ext ra E152
    have O := O.ext E152
    have hk := Nat.le_trans hk E152.1
    have Zn := Nat.le_trans Zn E152.1
    have E_b152 := A152
    have F_b152_name : Fld Z h152 b152 "com/example/upfront_duty/upfrontduty/algebra/Role" "name" "Ljava/lang/String;" .null := D152 (Or.inr (hw _ (List.mem_of_getElem? (i := 54) rfl))) (ty := (.object "java/lang/String")) (by decide)
    refine own_stW (A := T152.setTop (mkF mM 133 #[.val (.int u0), .val (.int u1), .val (.int u2), .val (.int u3), .val (.int u4), .val (.int u5), .val (.int x0), .val (.int x1), .val (.int y0), .val (.int y1), .val (.int (0 : Int32)), .val (.int (0 : Int32)), .val (.ref p147), .val (.ref p148), .val (.ref b149), .val (.int ((u5 >>> ((2 : Int32) &&& 31)) &&& (3 : Int32))), .unset, .unset] [(.ref b152)])) (fun tT_ kK_ => st152 tT_ kK_) ?_
    refine own_stW (A := T152.setTop (mkF mM 134 #[.val (.int u0), .val (.int u1), .val (.int u2), .val (.int u3), .val (.int u4), .val (.int u5), .val (.int x0), .val (.int x1), .val (.int y0), .val (.int y1), .val (.int (0 : Int32)), .val (.int (0 : Int32)), .val (.ref p147), .val (.ref p148), .val (.ref b149), .val (.int ((u5 >>> ((2 : Int32) &&& 31)) &&& (3 : Int32))), .unset, .unset] [(.ref b152), (.ref b152)])) (fun tT_ kK_ => XS.dup X152.here hx rfl (hb hby at_133) rfl rfl kK_) ?_
    refine own_stW (A := T152.setTop (mkF mM 136 #[.val (.int u0), .val (.int u1), .val (.int u2), .val (.int u3), .val (.int u4), .val (.int u5), .val (.int x0), .val (.int x1), .val (.int y0), .val (.int y1), .val (.int (0 : Int32)), .val (.int (0 : Int32)), .val (.ref p147), .val (.ref p148), .val (.ref b149), .val (.int ((u5 >>> ((2 : Int32) &&& 31)) &&& (3 : Int32))), .unset, .unset] [(.ref p148), (.ref b152), (.ref b152)])) (fun tT_ kK_ => XS.aload X152.here hx rfl (hb hby at_134) rfl rfl kK_) ?_
    obtain ⟨_, _, ⟨T153, L153, k153, n153⟩, -, X153, hS153, hg153, ⟨Lc153, hQ153, l153, y153, z153⟩, st153⟩ := X152.specialBackS hx (y := (⟨"com/example/upfront_duty/upfrontduty/algebra/Role", "<init>", "(Ljava/lang/String;)V"⟩ : MethodName)) rfl hown (mvT hZ (hw _ (List.mem_of_getElem? (i := 37) rfl))) (mvT hZ (hw _ (List.mem_of_getElem? (i := 38) rfl))) (mvT hZ (hw _ (List.mem_of_getElem? (i := 39) rfl))) (by decide) (backOfS (W := 1) (rmRI1 lL Z a0 hw [] b152 p148 d148 k148' y0 h152 n0 g_b152 E_b152 F_b152_name sb (Exa.ne sb.1 E_b152 (by decide)) (Exa.neArv E_b152 sb.2.2.2 (hw _ (List.mem_of_getElem? (i := 35) rfl))).symm) hZ (hw _ (List.mem_of_getElem? (i := 39) rfl)) (hw _ (List.mem_of_getElem? (i := 36) rfl)) (by decide) (by decide)) (g := (mkF mM 136 #[.val (.int u0), .val (.int u1), .val (.int u2), .val (.int u3), .val (.int u4), .val (.int u5), .val (.int x0), .val (.int x1), .val (.int y0), .val (.int y1), .val (.int (0 : Int32)), .val (.int (0 : Int32)), .val (.ref p147), .val (.ref p148), .val (.ref b149), .val (.int ((u5 >>> ((2 : Int32) &&& 31)) &&& (3 : Int32))), .unset, .unset] [(.ref p148), (.ref b152), (.ref b152)])) rfl (by rw [hml]; rfl) (Steps.refl _) (a := b152) (argsL := [(.ref p148)]) (rest := [(.ref b152)]) (lenOf pd__28Ljava_2flang_2fString_3b_29V rfl) rfl (by show 2 * 0 + _ ≤ _; exact Nat.le_of_eq rfl) (hb hby at_136) (fun _ _ => ⟨rfl, e152, (by decide : 10 + 2 ≤ _), (by decide : 34 + 20 ≤ _)⟩)
    dsimp only [Pt.U, Pt.locs, Pt.cells, Pt.slots] at X153 l153 y153 z153 st153 hQ153 hS153 hg153
    subst l153 y153 z153
    obtain ⟨rfl, N153q, K153, x153, y153⟩ := hQ153
    have N153 := Fr.app N150 N153q
    rw [e152] at hg153
    have hZ := own_wideZ hZ hS153
    have hown := own_wideO hown hS153
    have hS := hS.trans hS153 (Nat.le_trans hk hg153)
    have hk : T153.heap.size ≤ T153.heap.size := Nat.le_refl _
    have X153 : Stand pP lL eE room_1 (sS.setVm T153.vm) mM args below meth cC T153 _ 12 54 := X153
    have e153 : T153.heap = T153.heap := rfl
    refine own_stW (A := T153.setTop (mkF mM 139 #[.val (.int u0), .val (.int u1), .val (.int u2), .val (.int u3), .val (.int u4), .val (.int u5), .val (.int x0), .val (.int x1), .val (.int y0), .val (.int y1), .val (.int (0 : Int32)), .val (.int (0 : Int32)), .val (.ref p147), .val (.ref p148), .val (.ref b149), .val (.int ((u5 >>> ((2 : Int32) &&& 31)) &&& (3 : Int32))), .unset, .unset] [(.ref b152)])) (fun tT_ kK_ => st153.trans kK_) ?_
    have sa := own_Str_keep sa K153 (ninS (Exa.ne sa.1 E_b152 (by decide)) nin0) (ninS (Exa.neArv E_b152 sa.2.2.2 (hw _ (List.mem_of_getElem? (i := 35) rfl))).symm nin0)
    have sb := own_Str_keep sb K153 (ninS (Exa.ne sb.1 E_b152 (by decide)) nin0) (ninS (Exa.neArv E_b152 sb.2.2.2 (hw _ (List.mem_of_getElem? (i := 35) rfl))).symm nin0)
    have ra := own_Rol_keep ra K153 (ninS ne_b149_b152 nin0)
    have E_b152 := E_b152.keep K153
    have O := O.keep K153 (allS g_b152 all0)
    have Zn := Nat.le_trans Zn K153.1
    have rb : Rol Z _ _ _ := ⟨x153, y153⟩
    refine own_stW (A := T153.setTop (mkF mM 141 #[.val (.int u0), .val (.int u1), .val (.int u2), .val (.int u3), .val (.int u4), .val (.int u5), .val (.int x0), .val (.int x1), .val (.int y0), .val (.int y1), .val (.int (0 : Int32)), .val (.int (0 : Int32)), .val (.ref p147), .val (.ref p148), .val (.ref b149), .val (.int ((u5 >>> ((2 : Int32) &&& 31)) &&& (3 : Int32))), .val (.ref b152), .unset] [])) (fun tT_ kK_ => XS.astore X153.here hx rfl (hb hby at_139) rfl rfl (l' := #[.val (.int u0), .val (.int u1), .val (.int u2), .val (.int u3), .val (.int u4), .val (.int u5), .val (.int x0), .val (.int x1), .val (.int y0), .val (.int y1), .val (.int (0 : Int32)), .val (.int (0 : Int32)), .val (.ref p147), .val (.ref p148), .val (.ref b149), .val (.int ((u5 >>> ((2 : Int32) &&& 31)) &&& (3 : Int32))), .val (.ref b152), .unset]) rfl kK_) ?_
    refine own_stW (A := T153.setTop (mkF mM 143 #[.val (.int u0), .val (.int u1), .val (.int u2), .val (.int u3), .val (.int u4), .val (.int u5), .val (.int x0), .val (.int x1), .val (.int y0), .val (.int y1), .val (.int (0 : Int32)), .val (.int (0 : Int32)), .val (.ref p147), .val (.ref p148), .val (.ref b149), .val (.int ((u5 >>> ((2 : Int32) &&& 31)) &&& (3 : Int32))), .val (.ref b152), .unset] [(.int (0 : Int32))])) (fun tT_ kK_ => XS.iload X153.here hx rfl (hb hby at_141) rfl kK_) ?_
    refine own_stW (A := T153.setTop (mkF mM 145 #[.val (.int u0), .val (.int u1), .val (.int u2), .val (.int u3), .val (.int u4), .val (.int u5), .val (.int x0), .val (.int x1), .val (.int y0), .val (.int y1), .val (.int (0 : Int32)), .val (.int (0 : Int32)), .val (.ref p147), .val (.ref p148), .val (.ref b149), .val (.int ((u5 >>> ((2 : Int32) &&& 31)) &&& (3 : Int32))), .val (.ref b152), .unset] [(.int (0 : Int32)), (.int (0 : Int32))])) (fun tT_ kK_ => XS.iload X153.here hx rfl (hb hby at_143) rfl kK_) ?_
    refine own_stW (A := T153.setTop (mkF mM 148 #[.val (.int u0), .val (.int u1), .val (.int u2), .val (.int u3), .val (.int u4), .val (.int u5), .val (.int x0), .val (.int x1), .val (.int y0), .val (.int y1), .val (.int (0 : Int32)), .val (.int (0 : Int32)), .val (.ref p147), .val (.ref p148), .val (.ref b149), .val (.int ((u5 >>> ((2 : Int32) &&& 31)) &&& (3 : Int32))), .val (.ref b152), .unset] [])) (fun tT_ kK_ => XS.icmpNo X153.here hx rfl (hb hby at_145) rfl (teq (by decide : ((0 : Int32) = (0 : Int32)))).2 kK_) ?_
    refine own_stW (A := T153.setTop (mkF mM 150 #[.val (.int u0), .val (.int u1), .val (.int u2), .val (.int u3), .val (.int u4), .val (.int u5), .val (.int x0), .val (.int x1), .val (.int y0), .val (.int y1), .val (.int (0 : Int32)), .val (.int (0 : Int32)), .val (.ref p147), .val (.ref p148), .val (.ref b149), .val (.int ((u5 >>> ((2 : Int32) &&& 31)) &&& (3 : Int32))), .val (.ref b152), .unset] [(.int x0)])) (fun tT_ kK_ => XS.iload X153.here hx rfl (hb hby at_148) rfl kK_) ?_
    refine own_stW (A := T153.setTop (mkF mM 152 #[.val (.int u0), .val (.int u1), .val (.int u2), .val (.int u3), .val (.int u4), .val (.int u5), .val (.int x0), .val (.int x1), .val (.int y0), .val (.int y1), .val (.int (0 : Int32)), .val (.int (0 : Int32)), .val (.ref p147), .val (.ref p148), .val (.ref b149), .val (.int ((u5 >>> ((2 : Int32) &&& 31)) &&& (3 : Int32))), .val (.ref b152), .unset] [(.int y0), (.int x0)])) (fun tT_ kK_ => XS.iload X153.here hx rfl (hb hby at_150) rfl kK_) ?_
    by_cases hc152_154 : x0 = y0
    · skip
      refine own_stW (A := T153.setTop (mkF mM 155 #[.val (.int u0), .val (.int u1), .val (.int u2), .val (.int u3), .val (.int u4), .val (.int u5), .val (.int x0), .val (.int x1), .val (.int y0), .val (.int y1), .val (.int (0 : Int32)), .val (.int (0 : Int32)), .val (.ref p147), .val (.ref p148), .val (.ref b149), .val (.int ((u5 >>> ((2 : Int32) &&& 31)) &&& (3 : Int32))), .val (.ref b152), .unset] [])) (fun tT_ kK_ => XS.icmpNo X153.here hx rfl (hb hby at_152) rfl (teq hc152_154).2 kK_) ?_
      refine own_stW (A := T153.setTop (mkF mM 157 #[.val (.int u0), .val (.int u1), .val (.int u2), .val (.int u3), .val (.int u4), .val (.int u5), .val (.int x0), .val (.int x1), .val (.int y0), .val (.int y1), .val (.int (0 : Int32)), .val (.int (0 : Int32)), .val (.ref p147), .val (.ref p148), .val (.ref b149), .val (.int ((u5 >>> ((2 : Int32) &&& 31)) &&& (3 : Int32))), .val (.ref b152), .unset] [(.int (0 : Int32))])) (fun tT_ kK_ => XS.iload X153.here hx rfl (hb hby at_155) rfl kK_) ?_
      refine own_stW (A := T153.setTop (mkF mM 167 #[.val (.int u0), .val (.int u1), .val (.int u2), .val (.int u3), .val (.int u4), .val (.int u5), .val (.int x0), .val (.int x1), .val (.int y0), .val (.int y1), .val (.int (0 : Int32)), .val (.int (0 : Int32)), .val (.ref p147), .val (.ref p148), .val (.ref b149), .val (.int ((u5 >>> ((2 : Int32) &&& 31)) &&& (3 : Int32))), .val (.ref b152), .unset] [])) (fun tT_ kK_ => XS.ifYes X153.here hx rfl (pc0 := 157) (pc' := 167) rfl (hb hby at_157) rfl ((if0 _ _).trans (teq (by decide : ((0 : Int32) = (0 : Int32)))).1) (by decide) (by decide) kK_) ?_
      refine own_stW (A := T153.setTop (mkF mM 168 #[.val (.int u0), .val (.int u1), .val (.int u2), .val (.int u3), .val (.int u4), .val (.int u5), .val (.int x0), .val (.int x1), .val (.int y0), .val (.int y1), .val (.int (0 : Int32)), .val (.int (0 : Int32)), .val (.ref p147), .val (.ref p148), .val (.ref b149), .val (.int ((u5 >>> ((2 : Int32) &&& 31)) &&& (3 : Int32))), .val (.ref b152), .unset] [(.int (1 : Int32))])) (fun tT_ kK_ => XS.iconst X153.here hx rfl (hb hby at_167) kK_) ?_
      refine own_stW (A := T153.setTop (mkF mM 172 #[.val (.int u0), .val (.int u1), .val (.int u2), .val (.int u3), .val (.int u4), .val (.int u5), .val (.int x0), .val (.int x1), .val (.int y0), .val (.int y1), .val (.int (0 : Int32)), .val (.int (0 : Int32)), .val (.ref p147), .val (.ref p148), .val (.ref b149), .val (.int ((u5 >>> ((2 : Int32) &&& 31)) &&& (3 : Int32))), .val (.ref b152), .unset] [(.int (1 : Int32))])) (fun tT_ kK_ => XS.goto X153.here hx rfl (pc0 := 168) (pc' := 172) rfl (hb hby at_168) (by decide) (by decide) kK_) ?_
      refine own_stW (A := T153.setTop (mkF mM 174 #[.val (.int u0), .val (.int u1), .val (.int u2), .val (.int u3), .val (.int u4), .val (.int u5), .val (.int x0), .val (.int x1), .val (.int y0), .val (.int y1), .val (.int (0 : Int32)), .val (.int (0 : Int32)), .val (.ref p147), .val (.ref p148), .val (.ref b149), .val (.int ((u5 >>> ((2 : Int32) &&& 31)) &&& (3 : Int32))), .val (.ref b152), .val (.int (1 : Int32))] [])) (fun tT_ kK_ => XS.istore X153.here hx rfl (hb hby at_172) rfl (l' := #[.val (.int u0), .val (.int u1), .val (.int u2), .val (.int u3), .val (.int u4), .val (.int u5), .val (.int x0), .val (.int x1), .val (.int y0), .val (.int y1), .val (.int (0 : Int32)), .val (.int (0 : Int32)), .val (.ref p147), .val (.ref p148), .val (.ref b149), .val (.int ((u5 >>> ((2 : Int32) &&& 31)) &&& (3 : Int32))), .val (.ref b152), .val (.int (1 : Int32))]) rfl kK_) ?_
      refine own_stW (A := T153.setTop (mkF mM 176 #[.val (.int u0), .val (.int u1), .val (.int u2), .val (.int u3), .val (.int u4), .val (.int u5), .val (.int x0), .val (.int x1), .val (.int y0), .val (.int y1), .val (.int (0 : Int32)), .val (.int (0 : Int32)), .val (.ref p147), .val (.ref p148), .val (.ref b149), .val (.int ((u5 >>> ((2 : Int32) &&& 31)) &&& (3 : Int32))), .val (.ref b152), .val (.int (1 : Int32))] [(.ref b149)])) (fun tT_ kK_ => XS.aload X153.here hx rfl (hb hby at_174) rfl rfl kK_) ?_
      refine own_stW (A := T153.setTop (mkF mM 178 #[.val (.int u0), .val (.int u1), .val (.int u2), .val (.int u3), .val (.int u4), .val (.int u5), .val (.int x0), .val (.int x1), .val (.int y0), .val (.int y1), .val (.int (0 : Int32)), .val (.int (0 : Int32)), .val (.ref p147), .val (.ref p148), .val (.ref b149), .val (.int ((u5 >>> ((2 : Int32) &&& 31)) &&& (3 : Int32))), .val (.ref b152), .val (.int (1 : Int32))] [(.ref b152), (.ref b149)])) (fun tT_ kK_ => XS.aload X153.here hx rfl (hb hby at_176) rfl rfl kK_) ?_
      obtain ⟨cq155, kq155, q155a, q155b, q155c⟩ := isOf hZ e153 ra.1
      obtain ⟨_, _, ⟨T155, L155, k155, n155⟩, -, X155, ⟨Lc155, hQ155, l155, y155, z155⟩, st155⟩ := X153.virtualBack hx (y := (⟨"com/example/upfront_duty/upfrontduty/algebra/Role", "equals", "(Ljava/lang/Object;)Z"⟩ : MethodName)) (z := (⟨"com/example/upfront_duty/upfrontduty/algebra/Role", "equals", "(Ljava/lang/Object;)Z"⟩ : MethodName)) hown (mvT hZ (hw _ (List.mem_of_getElem? (i := 55) rfl))) (mvT hZ (hw _ (List.mem_of_getElem? (i := 56) rfl))) (notFace_of_selects (args := #[]) (mvT hZ (hw _ (List.mem_of_getElem? (i := 58) rfl)))) (mvT hZ (hw _ (List.mem_of_getElem? (i := 58) rfl))) (mvT hZ (hw _ (List.mem_of_getElem? (i := 57) rfl))) (by decide) (backOf (W := 0) (rmRE11 lL Z a0 hw [] b149 b152 p147 d147 k147' p148 d148 k148' cs x0 y0 1 T153.heap n0 ra rb sa sb nss (S_cs.ext O.2) hcs cx0 cy0 (fun q => absurd hc152_154 q) (fun _ => rfl) (Or.inr rfl)) hZ (hw _ (List.mem_of_getElem? (i := 59) rfl)) (hw _ (List.mem_of_getElem? (i := 36) rfl)) (by decide) (by decide)) q155a q155c (g := (mkF mM 178 #[.val (.int u0), .val (.int u1), .val (.int u2), .val (.int u3), .val (.int u4), .val (.int u5), .val (.int x0), .val (.int x1), .val (.int y0), .val (.int y1), .val (.int (0 : Int32)), .val (.int (0 : Int32)), .val (.ref p147), .val (.ref p148), .val (.ref b149), .val (.int ((u5 >>> ((2 : Int32) &&& 31)) &&& (3 : Int32))), .val (.ref b152), .val (.int (1 : Int32))] [(.ref b152), (.ref b149)])) rfl (by rw [hml]; rfl) (Steps.refl _) (argsL := [(.ref b152)]) (rest := []) (lenOf pd__28Ljava_2flang_2fObject_3b_29Z rfl) rfl (by show 2 * 0 + _ ≤ _; exact Nat.le_of_eq rfl) (hb hby at_178) (fun _ _ => ⟨rfl, e153, (by decide : 12 + 0 ≤ _), (by decide : 54 + 0 ≤ _)⟩)
      dsimp only [Pt.U, Pt.locs, Pt.cells, Pt.slots] at X155 l155 y155 z155 st155 hQ155
      subst l155 y155 z155
      obtain ⟨rfl, N155q, e155⟩ := hQ155
      have N155 := Fr.app N153 N155q
      refine own_stW (A := T155.setTop (mkF mM 181 #[.val (.int u0), .val (.int u1), .val (.int u2), .val (.int u3), .val (.int u4), .val (.int u5), .val (.int x0), .val (.int x1), .val (.int y0), .val (.int y1), .val (.int (0 : Int32)), .val (.int (0 : Int32)), .val (.ref p147), .val (.ref p148), .val (.ref b149), .val (.int ((u5 >>> ((2 : Int32) &&& 31)) &&& (3 : Int32))), .val (.ref b152), .val (.int (1 : Int32))] [(.int (1 : Int32))])) (fun tT_ kK_ => st155.trans kK_) ?_
      refine own_stW (A := T155.setTop (mkF mM 183 #[.val (.int u0), .val (.int u1), .val (.int u2), .val (.int u3), .val (.int u4), .val (.int u5), .val (.int x0), .val (.int x1), .val (.int y0), .val (.int y1), .val (.int (0 : Int32)), .val (.int (0 : Int32)), .val (.ref p147), .val (.ref p148), .val (.ref b149), .val (.int ((u5 >>> ((2 : Int32) &&& 31)) &&& (3 : Int32))), .val (.ref b152), .val (.int (1 : Int32))] [(.int (1 : Int32)), (.int (1 : Int32))])) (fun tT_ kK_ => XS.iload X155.here hx rfl (hb hby at_181) rfl kK_) ?_
      refine own_stW (A := T155.setTop (mkF mM 186 #[.val (.int u0), .val (.int u1), .val (.int u2), .val (.int u3), .val (.int u4), .val (.int u5), .val (.int x0), .val (.int x1), .val (.int y0), .val (.int y1), .val (.int (0 : Int32)), .val (.int (0 : Int32)), .val (.ref p147), .val (.ref p148), .val (.ref b149), .val (.int ((u5 >>> ((2 : Int32) &&& 31)) &&& (3 : Int32))), .val (.ref b152), .val (.int (1 : Int32))] [])) (fun tT_ kK_ => XS.icmpNo X155.here hx rfl (hb hby at_183) rfl (teq (by decide : ((1 : Int32) = (1 : Int32)))).2 kK_) ?_
      refine own_stW (A := T155.setTop (mkF mM 188 #[.val (.int u0), .val (.int u1), .val (.int u2), .val (.int u3), .val (.int u4), .val (.int u5), .val (.int x0), .val (.int x1), .val (.int y0), .val (.int y1), .val (.int (0 : Int32)), .val (.int (0 : Int32)), .val (.ref p147), .val (.ref p148), .val (.ref b149), .val (.int ((u5 >>> ((2 : Int32) &&& 31)) &&& (3 : Int32))), .val (.ref b152), .val (.int (1 : Int32))] [(.ref b152)])) (fun tT_ kK_ => XS.aload X155.here hx rfl (hb hby at_186) rfl rfl kK_) ?_
      refine own_stW (A := T155.setTop (mkF mM 190 #[.val (.int u0), .val (.int u1), .val (.int u2), .val (.int u3), .val (.int u4), .val (.int u5), .val (.int x0), .val (.int x1), .val (.int y0), .val (.int y1), .val (.int (0 : Int32)), .val (.int (0 : Int32)), .val (.ref p147), .val (.ref p148), .val (.ref b149), .val (.int ((u5 >>> ((2 : Int32) &&& 31)) &&& (3 : Int32))), .val (.ref b152), .val (.int (1 : Int32))] [(.ref b149), (.ref b152)])) (fun tT_ kK_ => XS.aload X155.here hx rfl (hb hby at_188) rfl rfl kK_) ?_
      obtain ⟨cq156, kq156, q156a, q156b, q156c⟩ := isOf hZ e155 rb.1
      obtain ⟨_, _, ⟨T156, L156, k156, n156⟩, -, X156, ⟨Lc156, hQ156, l156, y156, z156⟩, st156⟩ := X155.virtualBack hx (y := (⟨"com/example/upfront_duty/upfrontduty/algebra/Role", "equals", "(Ljava/lang/Object;)Z"⟩ : MethodName)) (z := (⟨"com/example/upfront_duty/upfrontduty/algebra/Role", "equals", "(Ljava/lang/Object;)Z"⟩ : MethodName)) hown (mvT hZ (hw _ (List.mem_of_getElem? (i := 55) rfl))) (mvT hZ (hw _ (List.mem_of_getElem? (i := 56) rfl))) (notFace_of_selects (args := #[]) (mvT hZ (hw _ (List.mem_of_getElem? (i := 58) rfl)))) (mvT hZ (hw _ (List.mem_of_getElem? (i := 58) rfl))) (mvT hZ (hw _ (List.mem_of_getElem? (i := 57) rfl))) (by decide) (backOf (W := 0) (rmRE11 lL Z a0 hw [] b152 b149 p148 d148 k148' p147 d147 k147' cs y0 x0 1 T153.heap n0 rb ra sb sa nss.symm (S_cs.ext O.2) hcs cy0 cx0 (fun q => absurd (hc152_154).symm q) (fun _ => rfl) (Or.inr rfl)) hZ (hw _ (List.mem_of_getElem? (i := 59) rfl)) (hw _ (List.mem_of_getElem? (i := 36) rfl)) (by decide) (by decide)) q156a q156c (g := (mkF mM 190 #[.val (.int u0), .val (.int u1), .val (.int u2), .val (.int u3), .val (.int u4), .val (.int u5), .val (.int x0), .val (.int x1), .val (.int y0), .val (.int y1), .val (.int (0 : Int32)), .val (.int (0 : Int32)), .val (.ref p147), .val (.ref p148), .val (.ref b149), .val (.int ((u5 >>> ((2 : Int32) &&& 31)) &&& (3 : Int32))), .val (.ref b152), .val (.int (1 : Int32))] [(.ref b149), (.ref b152)])) rfl (by rw [hml]; rfl) (Steps.refl _) (argsL := [(.ref b149)]) (rest := []) (lenOf pd__28Ljava_2flang_2fObject_3b_29Z rfl) rfl (by show 2 * 0 + _ ≤ _; exact Nat.le_of_eq rfl) (hb hby at_190) (fun _ _ => ⟨rfl, e155, (by decide : 12 + 0 ≤ _), (by decide : 54 + 0 ≤ _)⟩)
      dsimp only [Pt.U, Pt.locs, Pt.cells, Pt.slots] at X156 l156 y156 z156 st156 hQ156
      subst l156 y156 z156
      obtain ⟨rfl, N156q, e156⟩ := hQ156
      have N156 := Fr.app N155 N156q
      refine own_stW (A := T156.setTop (mkF mM 193 #[.val (.int u0), .val (.int u1), .val (.int u2), .val (.int u3), .val (.int u4), .val (.int u5), .val (.int x0), .val (.int x1), .val (.int y0), .val (.int y1), .val (.int (0 : Int32)), .val (.int (0 : Int32)), .val (.ref p147), .val (.ref p148), .val (.ref b149), .val (.int ((u5 >>> ((2 : Int32) &&& 31)) &&& (3 : Int32))), .val (.ref b152), .val (.int (1 : Int32))] [(.int (1 : Int32))])) (fun tT_ kK_ => st156.trans kK_) ?_
      refine own_stW (A := T156.setTop (mkF mM 195 #[.val (.int u0), .val (.int u1), .val (.int u2), .val (.int u3), .val (.int u4), .val (.int u5), .val (.int x0), .val (.int x1), .val (.int y0), .val (.int y1), .val (.int (0 : Int32)), .val (.int (0 : Int32)), .val (.ref p147), .val (.ref p148), .val (.ref b149), .val (.int ((u5 >>> ((2 : Int32) &&& 31)) &&& (3 : Int32))), .val (.ref b152), .val (.int (1 : Int32))] [(.int (1 : Int32)), (.int (1 : Int32))])) (fun tT_ kK_ => XS.iload X156.here hx rfl (hb hby at_193) rfl kK_) ?_
      refine own_stW (A := T156.setTop (mkF mM 198 #[.val (.int u0), .val (.int u1), .val (.int u2), .val (.int u3), .val (.int u4), .val (.int u5), .val (.int x0), .val (.int x1), .val (.int y0), .val (.int y1), .val (.int (0 : Int32)), .val (.int (0 : Int32)), .val (.ref p147), .val (.ref p148), .val (.ref b149), .val (.int ((u5 >>> ((2 : Int32) &&& 31)) &&& (3 : Int32))), .val (.ref b152), .val (.int (1 : Int32))] [])) (fun tT_ kK_ => XS.icmpNo X156.here hx rfl (hb hby at_195) rfl (teq (by decide : ((1 : Int32) = (1 : Int32)))).2 kK_) ?_
      refine own_stW (A := T156.setTop (mkF mM 200 #[.val (.int u0), .val (.int u1), .val (.int u2), .val (.int u3), .val (.int u4), .val (.int u5), .val (.int x0), .val (.int x1), .val (.int y0), .val (.int y1), .val (.int (0 : Int32)), .val (.int (0 : Int32)), .val (.ref p147), .val (.ref p148), .val (.ref b149), .val (.int ((u5 >>> ((2 : Int32) &&& 31)) &&& (3 : Int32))), .val (.ref b152), .val (.int (1 : Int32))] [(.ref b149)])) (fun tT_ kK_ => XS.aload X156.here hx rfl (hb hby at_198) rfl rfl kK_) ?_
      refine own_stW (A := T156.setTop (mkF mM 202 #[.val (.int u0), .val (.int u1), .val (.int u2), .val (.int u3), .val (.int u4), .val (.int u5), .val (.int x0), .val (.int x1), .val (.int y0), .val (.int y1), .val (.int (0 : Int32)), .val (.int (0 : Int32)), .val (.ref p147), .val (.ref p148), .val (.ref b149), .val (.int ((u5 >>> ((2 : Int32) &&& 31)) &&& (3 : Int32))), .val (.ref b152), .val (.int (1 : Int32))] [(.ref b149), (.ref b149)])) (fun tT_ kK_ => XS.aload X156.here hx rfl (hb hby at_200) rfl rfl kK_) ?_
      obtain ⟨cq157, kq157, q157a, q157b, q157c⟩ := isOf hZ e156 ra.1
      obtain ⟨_, _, ⟨T157, L157, k157, n157⟩, -, X157, ⟨Lc157, hQ157, l157, y157, z157⟩, st157⟩ := X156.virtualBack hx (y := (⟨"com/example/upfront_duty/upfrontduty/algebra/Role", "equals", "(Ljava/lang/Object;)Z"⟩ : MethodName)) (z := (⟨"com/example/upfront_duty/upfrontduty/algebra/Role", "equals", "(Ljava/lang/Object;)Z"⟩ : MethodName)) hown (mvT hZ (hw _ (List.mem_of_getElem? (i := 55) rfl))) (mvT hZ (hw _ (List.mem_of_getElem? (i := 56) rfl))) (notFace_of_selects (args := #[]) (mvT hZ (hw _ (List.mem_of_getElem? (i := 58) rfl)))) (mvT hZ (hw _ (List.mem_of_getElem? (i := 58) rfl))) (mvT hZ (hw _ (List.mem_of_getElem? (i := 57) rfl))) (by decide) (backOf (W := 0) (rmREs lL Z a0 hw [] b149 p147 T153.heap n0 ra sa.1) hZ (hw _ (List.mem_of_getElem? (i := 59) rfl)) (hw _ (List.mem_of_getElem? (i := 36) rfl)) (by decide) (by decide)) q157a q157c (g := (mkF mM 202 #[.val (.int u0), .val (.int u1), .val (.int u2), .val (.int u3), .val (.int u4), .val (.int u5), .val (.int x0), .val (.int x1), .val (.int y0), .val (.int y1), .val (.int (0 : Int32)), .val (.int (0 : Int32)), .val (.ref p147), .val (.ref p148), .val (.ref b149), .val (.int ((u5 >>> ((2 : Int32) &&& 31)) &&& (3 : Int32))), .val (.ref b152), .val (.int (1 : Int32))] [(.ref b149), (.ref b149)])) rfl (by rw [hml]; rfl) (Steps.refl _) (argsL := [(.ref b149)]) (rest := []) (lenOf pd__28Ljava_2flang_2fObject_3b_29Z rfl) rfl (by show 2 * 0 + _ ≤ _; exact Nat.le_of_eq rfl) (hb hby at_202) (fun _ _ => ⟨rfl, e156, (by decide : 12 + 0 ≤ _), (by decide : 54 + 0 ≤ _)⟩)
      dsimp only [Pt.U, Pt.locs, Pt.cells, Pt.slots] at X157 l157 y157 z157 st157 hQ157
      subst l157 y157 z157
      obtain ⟨rfl, N157q, e157⟩ := hQ157
      have N157 := Fr.app N156 N157q
      refine own_stW (A := T157.setTop (mkF mM 205 #[.val (.int u0), .val (.int u1), .val (.int u2), .val (.int u3), .val (.int u4), .val (.int u5), .val (.int x0), .val (.int x1), .val (.int y0), .val (.int y1), .val (.int (0 : Int32)), .val (.int (0 : Int32)), .val (.ref p147), .val (.ref p148), .val (.ref b149), .val (.int ((u5 >>> ((2 : Int32) &&& 31)) &&& (3 : Int32))), .val (.ref b152), .val (.int (1 : Int32))] [(.int (1 : Int32))])) (fun tT_ kK_ => st157.trans kK_) ?_
      refine own_stW (A := T157.setTop (mkF mM 208 #[.val (.int u0), .val (.int u1), .val (.int u2), .val (.int u3), .val (.int u4), .val (.int u5), .val (.int x0), .val (.int x1), .val (.int y0), .val (.int y1), .val (.int (0 : Int32)), .val (.int (0 : Int32)), .val (.ref p147), .val (.ref p148), .val (.ref b149), .val (.int ((u5 >>> ((2 : Int32) &&& 31)) &&& (3 : Int32))), .val (.ref b152), .val (.int (1 : Int32))] [])) (fun tT_ kK_ => XS.ifNo X157.here hx rfl (hb hby at_205) rfl ((if0 _ _).trans (feq (by decide : ¬ ((1 : Int32) = (0 : Int32)))).1) kK_) ?_
      refine own_stW (A := T157.setTop (mkF mM 209 #[.val (.int u0), .val (.int u1), .val (.int u2), .val (.int u3), .val (.int u4), .val (.int u5), .val (.int x0), .val (.int x1), .val (.int y0), .val (.int y1), .val (.int (0 : Int32)), .val (.int (0 : Int32)), .val (.ref p147), .val (.ref p148), .val (.ref b149), .val (.int ((u5 >>> ((2 : Int32) &&& 31)) &&& (3 : Int32))), .val (.ref b152), .val (.int (1 : Int32))] [(.int (1 : Int32))])) (fun tT_ kK_ => XS.iconst X157.here hx rfl (hb hby at_208) kK_) ?_
      refine own_stW (A := T157.setTop (mkF mM 213 #[.val (.int u0), .val (.int u1), .val (.int u2), .val (.int u3), .val (.int u4), .val (.int u5), .val (.int x0), .val (.int x1), .val (.int y0), .val (.int y1), .val (.int (0 : Int32)), .val (.int (0 : Int32)), .val (.ref p147), .val (.ref p148), .val (.ref b149), .val (.int ((u5 >>> ((2 : Int32) &&& 31)) &&& (3 : Int32))), .val (.ref b152), .val (.int (1 : Int32))] [(.int (1 : Int32))])) (fun tT_ kK_ => XS.goto X157.here hx rfl (pc0 := 209) (pc' := 213) rfl (hb hby at_209) (by decide) (by decide) kK_) ?_
      exact own_retWN X157 hx hlk hS (by rw [e157]; exact hk) (t := .boolean) hret (by simp) (hb hby at_213) ⟨rfl, N157⟩ (by decide) (by decide)
    · skip
      refine own_stW (A := T153.setTop (mkF mM 171 #[.val (.int u0), .val (.int u1), .val (.int u2), .val (.int u3), .val (.int u4), .val (.int u5), .val (.int x0), .val (.int x1), .val (.int y0), .val (.int y1), .val (.int (0 : Int32)), .val (.int (0 : Int32)), .val (.ref p147), .val (.ref p148), .val (.ref b149), .val (.int ((u5 >>> ((2 : Int32) &&& 31)) &&& (3 : Int32))), .val (.ref b152), .unset] [])) (fun tT_ kK_ => XS.icmpYes X153.here hx rfl (pc0 := 152) (pc' := 171) rfl (hb hby at_152) rfl (feq hc152_154).2 (by decide) (by decide) kK_) ?_
      refine own_stW (A := T153.setTop (mkF mM 172 #[.val (.int u0), .val (.int u1), .val (.int u2), .val (.int u3), .val (.int u4), .val (.int u5), .val (.int x0), .val (.int x1), .val (.int y0), .val (.int y1), .val (.int (0 : Int32)), .val (.int (0 : Int32)), .val (.ref p147), .val (.ref p148), .val (.ref b149), .val (.int ((u5 >>> ((2 : Int32) &&& 31)) &&& (3 : Int32))), .val (.ref b152), .unset] [(.int (0 : Int32))])) (fun tT_ kK_ => XS.iconst X153.here hx rfl (hb hby at_171) kK_) ?_
      refine own_stW (A := T153.setTop (mkF mM 174 #[.val (.int u0), .val (.int u1), .val (.int u2), .val (.int u3), .val (.int u4), .val (.int u5), .val (.int x0), .val (.int x1), .val (.int y0), .val (.int y1), .val (.int (0 : Int32)), .val (.int (0 : Int32)), .val (.ref p147), .val (.ref p148), .val (.ref b149), .val (.int ((u5 >>> ((2 : Int32) &&& 31)) &&& (3 : Int32))), .val (.ref b152), .val (.int (0 : Int32))] [])) (fun tT_ kK_ => XS.istore X153.here hx rfl (hb hby at_172) rfl (l' := #[.val (.int u0), .val (.int u1), .val (.int u2), .val (.int u3), .val (.int u4), .val (.int u5), .val (.int x0), .val (.int x1), .val (.int y0), .val (.int y1), .val (.int (0 : Int32)), .val (.int (0 : Int32)), .val (.ref p147), .val (.ref p148), .val (.ref b149), .val (.int ((u5 >>> ((2 : Int32) &&& 31)) &&& (3 : Int32))), .val (.ref b152), .val (.int (0 : Int32))]) rfl kK_) ?_
      refine own_stW (A := T153.setTop (mkF mM 176 #[.val (.int u0), .val (.int u1), .val (.int u2), .val (.int u3), .val (.int u4), .val (.int u5), .val (.int x0), .val (.int x1), .val (.int y0), .val (.int y1), .val (.int (0 : Int32)), .val (.int (0 : Int32)), .val (.ref p147), .val (.ref p148), .val (.ref b149), .val (.int ((u5 >>> ((2 : Int32) &&& 31)) &&& (3 : Int32))), .val (.ref b152), .val (.int (0 : Int32))] [(.ref b149)])) (fun tT_ kK_ => XS.aload X153.here hx rfl (hb hby at_174) rfl rfl kK_) ?_
      refine own_stW (A := T153.setTop (mkF mM 178 #[.val (.int u0), .val (.int u1), .val (.int u2), .val (.int u3), .val (.int u4), .val (.int u5), .val (.int x0), .val (.int x1), .val (.int y0), .val (.int y1), .val (.int (0 : Int32)), .val (.int (0 : Int32)), .val (.ref p147), .val (.ref p148), .val (.ref b149), .val (.int ((u5 >>> ((2 : Int32) &&& 31)) &&& (3 : Int32))), .val (.ref b152), .val (.int (0 : Int32))] [(.ref b152), (.ref b149)])) (fun tT_ kK_ => XS.aload X153.here hx rfl (hb hby at_176) rfl rfl kK_) ?_
      obtain ⟨cq158, kq158, q158a, q158b, q158c⟩ := isOf hZ e153 ra.1
      obtain ⟨_, _, ⟨T158, L158, k158, n158⟩, -, X158, ⟨Lc158, hQ158, l158, y158, z158⟩, st158⟩ := X153.virtualBack hx (y := (⟨"com/example/upfront_duty/upfrontduty/algebra/Role", "equals", "(Ljava/lang/Object;)Z"⟩ : MethodName)) (z := (⟨"com/example/upfront_duty/upfrontduty/algebra/Role", "equals", "(Ljava/lang/Object;)Z"⟩ : MethodName)) hown (mvT hZ (hw _ (List.mem_of_getElem? (i := 55) rfl))) (mvT hZ (hw _ (List.mem_of_getElem? (i := 56) rfl))) (notFace_of_selects (args := #[]) (mvT hZ (hw _ (List.mem_of_getElem? (i := 58) rfl)))) (mvT hZ (hw _ (List.mem_of_getElem? (i := 58) rfl))) (mvT hZ (hw _ (List.mem_of_getElem? (i := 57) rfl))) (by decide) (backOf (W := 0) (rmRE11 lL Z a0 hw [] b149 b152 p147 d147 k147' p148 d148 k148' cs x0 y0 0 T153.heap n0 ra rb sa sb nss (S_cs.ext O.2) hcs cx0 cy0 (fun _ => rfl) (fun q => absurd q hc152_154) (Or.inl rfl)) hZ (hw _ (List.mem_of_getElem? (i := 59) rfl)) (hw _ (List.mem_of_getElem? (i := 36) rfl)) (by decide) (by decide)) q158a q158c (g := (mkF mM 178 #[.val (.int u0), .val (.int u1), .val (.int u2), .val (.int u3), .val (.int u4), .val (.int u5), .val (.int x0), .val (.int x1), .val (.int y0), .val (.int y1), .val (.int (0 : Int32)), .val (.int (0 : Int32)), .val (.ref p147), .val (.ref p148), .val (.ref b149), .val (.int ((u5 >>> ((2 : Int32) &&& 31)) &&& (3 : Int32))), .val (.ref b152), .val (.int (0 : Int32))] [(.ref b152), (.ref b149)])) rfl (by rw [hml]; rfl) (Steps.refl _) (argsL := [(.ref b152)]) (rest := []) (lenOf pd__28Ljava_2flang_2fObject_3b_29Z rfl) rfl (by show 2 * 0 + _ ≤ _; exact Nat.le_of_eq rfl) (hb hby at_178) (fun _ _ => ⟨rfl, e153, (by decide : 12 + 0 ≤ _), (by decide : 54 + 0 ≤ _)⟩)
      dsimp only [Pt.U, Pt.locs, Pt.cells, Pt.slots] at X158 l158 y158 z158 st158 hQ158
      subst l158 y158 z158
      obtain ⟨rfl, N158q, e158⟩ := hQ158
      have N158 := Fr.app N153 N158q
      refine own_stW (A := T158.setTop (mkF mM 181 #[.val (.int u0), .val (.int u1), .val (.int u2), .val (.int u3), .val (.int u4), .val (.int u5), .val (.int x0), .val (.int x1), .val (.int y0), .val (.int y1), .val (.int (0 : Int32)), .val (.int (0 : Int32)), .val (.ref p147), .val (.ref p148), .val (.ref b149), .val (.int ((u5 >>> ((2 : Int32) &&& 31)) &&& (3 : Int32))), .val (.ref b152), .val (.int (0 : Int32))] [(.int (0 : Int32))])) (fun tT_ kK_ => st158.trans kK_) ?_
      refine own_stW (A := T158.setTop (mkF mM 183 #[.val (.int u0), .val (.int u1), .val (.int u2), .val (.int u3), .val (.int u4), .val (.int u5), .val (.int x0), .val (.int x1), .val (.int y0), .val (.int y1), .val (.int (0 : Int32)), .val (.int (0 : Int32)), .val (.ref p147), .val (.ref p148), .val (.ref b149), .val (.int ((u5 >>> ((2 : Int32) &&& 31)) &&& (3 : Int32))), .val (.ref b152), .val (.int (0 : Int32))] [(.int (0 : Int32)), (.int (0 : Int32))])) (fun tT_ kK_ => XS.iload X158.here hx rfl (hb hby at_181) rfl kK_) ?_
      refine own_stW (A := T158.setTop (mkF mM 186 #[.val (.int u0), .val (.int u1), .val (.int u2), .val (.int u3), .val (.int u4), .val (.int u5), .val (.int x0), .val (.int x1), .val (.int y0), .val (.int y1), .val (.int (0 : Int32)), .val (.int (0 : Int32)), .val (.ref p147), .val (.ref p148), .val (.ref b149), .val (.int ((u5 >>> ((2 : Int32) &&& 31)) &&& (3 : Int32))), .val (.ref b152), .val (.int (0 : Int32))] [])) (fun tT_ kK_ => XS.icmpNo X158.here hx rfl (hb hby at_183) rfl (teq (by decide : ((0 : Int32) = (0 : Int32)))).2 kK_) ?_
      refine own_stW (A := T158.setTop (mkF mM 188 #[.val (.int u0), .val (.int u1), .val (.int u2), .val (.int u3), .val (.int u4), .val (.int u5), .val (.int x0), .val (.int x1), .val (.int y0), .val (.int y1), .val (.int (0 : Int32)), .val (.int (0 : Int32)), .val (.ref p147), .val (.ref p148), .val (.ref b149), .val (.int ((u5 >>> ((2 : Int32) &&& 31)) &&& (3 : Int32))), .val (.ref b152), .val (.int (0 : Int32))] [(.ref b152)])) (fun tT_ kK_ => XS.aload X158.here hx rfl (hb hby at_186) rfl rfl kK_) ?_
      refine own_stW (A := T158.setTop (mkF mM 190 #[.val (.int u0), .val (.int u1), .val (.int u2), .val (.int u3), .val (.int u4), .val (.int u5), .val (.int x0), .val (.int x1), .val (.int y0), .val (.int y1), .val (.int (0 : Int32)), .val (.int (0 : Int32)), .val (.ref p147), .val (.ref p148), .val (.ref b149), .val (.int ((u5 >>> ((2 : Int32) &&& 31)) &&& (3 : Int32))), .val (.ref b152), .val (.int (0 : Int32))] [(.ref b149), (.ref b152)])) (fun tT_ kK_ => XS.aload X158.here hx rfl (hb hby at_188) rfl rfl kK_) ?_
      obtain ⟨cq159, kq159, q159a, q159b, q159c⟩ := isOf hZ e158 rb.1
      obtain ⟨_, _, ⟨T159, L159, k159, n159⟩, -, X159, ⟨Lc159, hQ159, l159, y159, z159⟩, st159⟩ := X158.virtualBack hx (y := (⟨"com/example/upfront_duty/upfrontduty/algebra/Role", "equals", "(Ljava/lang/Object;)Z"⟩ : MethodName)) (z := (⟨"com/example/upfront_duty/upfrontduty/algebra/Role", "equals", "(Ljava/lang/Object;)Z"⟩ : MethodName)) hown (mvT hZ (hw _ (List.mem_of_getElem? (i := 55) rfl))) (mvT hZ (hw _ (List.mem_of_getElem? (i := 56) rfl))) (notFace_of_selects (args := #[]) (mvT hZ (hw _ (List.mem_of_getElem? (i := 58) rfl)))) (mvT hZ (hw _ (List.mem_of_getElem? (i := 58) rfl))) (mvT hZ (hw _ (List.mem_of_getElem? (i := 57) rfl))) (by decide) (backOf (W := 0) (rmRE11 lL Z a0 hw [] b152 b149 p148 d148 k148' p147 d147 k147' cs y0 x0 0 T153.heap n0 rb ra sb sa nss.symm (S_cs.ext O.2) hcs cy0 cx0 (fun _ => rfl) (fun q => absurd q (fun q => hc152_154 q.symm)) (Or.inl rfl)) hZ (hw _ (List.mem_of_getElem? (i := 59) rfl)) (hw _ (List.mem_of_getElem? (i := 36) rfl)) (by decide) (by decide)) q159a q159c (g := (mkF mM 190 #[.val (.int u0), .val (.int u1), .val (.int u2), .val (.int u3), .val (.int u4), .val (.int u5), .val (.int x0), .val (.int x1), .val (.int y0), .val (.int y1), .val (.int (0 : Int32)), .val (.int (0 : Int32)), .val (.ref p147), .val (.ref p148), .val (.ref b149), .val (.int ((u5 >>> ((2 : Int32) &&& 31)) &&& (3 : Int32))), .val (.ref b152), .val (.int (0 : Int32))] [(.ref b149), (.ref b152)])) rfl (by rw [hml]; rfl) (Steps.refl _) (argsL := [(.ref b149)]) (rest := []) (lenOf pd__28Ljava_2flang_2fObject_3b_29Z rfl) rfl (by show 2 * 0 + _ ≤ _; exact Nat.le_of_eq rfl) (hb hby at_190) (fun _ _ => ⟨rfl, e158, (by decide : 12 + 0 ≤ _), (by decide : 54 + 0 ≤ _)⟩)
      dsimp only [Pt.U, Pt.locs, Pt.cells, Pt.slots] at X159 l159 y159 z159 st159 hQ159
      subst l159 y159 z159
      obtain ⟨rfl, N159q, e159⟩ := hQ159
      have N159 := Fr.app N158 N159q
      refine own_stW (A := T159.setTop (mkF mM 193 #[.val (.int u0), .val (.int u1), .val (.int u2), .val (.int u3), .val (.int u4), .val (.int u5), .val (.int x0), .val (.int x1), .val (.int y0), .val (.int y1), .val (.int (0 : Int32)), .val (.int (0 : Int32)), .val (.ref p147), .val (.ref p148), .val (.ref b149), .val (.int ((u5 >>> ((2 : Int32) &&& 31)) &&& (3 : Int32))), .val (.ref b152), .val (.int (0 : Int32))] [(.int (0 : Int32))])) (fun tT_ kK_ => st159.trans kK_) ?_
      refine own_stW (A := T159.setTop (mkF mM 195 #[.val (.int u0), .val (.int u1), .val (.int u2), .val (.int u3), .val (.int u4), .val (.int u5), .val (.int x0), .val (.int x1), .val (.int y0), .val (.int y1), .val (.int (0 : Int32)), .val (.int (0 : Int32)), .val (.ref p147), .val (.ref p148), .val (.ref b149), .val (.int ((u5 >>> ((2 : Int32) &&& 31)) &&& (3 : Int32))), .val (.ref b152), .val (.int (0 : Int32))] [(.int (0 : Int32)), (.int (0 : Int32))])) (fun tT_ kK_ => XS.iload X159.here hx rfl (hb hby at_193) rfl kK_) ?_
      refine own_stW (A := T159.setTop (mkF mM 198 #[.val (.int u0), .val (.int u1), .val (.int u2), .val (.int u3), .val (.int u4), .val (.int u5), .val (.int x0), .val (.int x1), .val (.int y0), .val (.int y1), .val (.int (0 : Int32)), .val (.int (0 : Int32)), .val (.ref p147), .val (.ref p148), .val (.ref b149), .val (.int ((u5 >>> ((2 : Int32) &&& 31)) &&& (3 : Int32))), .val (.ref b152), .val (.int (0 : Int32))] [])) (fun tT_ kK_ => XS.icmpNo X159.here hx rfl (hb hby at_195) rfl (teq (by decide : ((0 : Int32) = (0 : Int32)))).2 kK_) ?_
      refine own_stW (A := T159.setTop (mkF mM 200 #[.val (.int u0), .val (.int u1), .val (.int u2), .val (.int u3), .val (.int u4), .val (.int u5), .val (.int x0), .val (.int x1), .val (.int y0), .val (.int y1), .val (.int (0 : Int32)), .val (.int (0 : Int32)), .val (.ref p147), .val (.ref p148), .val (.ref b149), .val (.int ((u5 >>> ((2 : Int32) &&& 31)) &&& (3 : Int32))), .val (.ref b152), .val (.int (0 : Int32))] [(.ref b149)])) (fun tT_ kK_ => XS.aload X159.here hx rfl (hb hby at_198) rfl rfl kK_) ?_
      refine own_stW (A := T159.setTop (mkF mM 202 #[.val (.int u0), .val (.int u1), .val (.int u2), .val (.int u3), .val (.int u4), .val (.int u5), .val (.int x0), .val (.int x1), .val (.int y0), .val (.int y1), .val (.int (0 : Int32)), .val (.int (0 : Int32)), .val (.ref p147), .val (.ref p148), .val (.ref b149), .val (.int ((u5 >>> ((2 : Int32) &&& 31)) &&& (3 : Int32))), .val (.ref b152), .val (.int (0 : Int32))] [(.ref b149), (.ref b149)])) (fun tT_ kK_ => XS.aload X159.here hx rfl (hb hby at_200) rfl rfl kK_) ?_
      obtain ⟨cq160, kq160, q160a, q160b, q160c⟩ := isOf hZ e159 ra.1
      obtain ⟨_, _, ⟨T160, L160, k160, n160⟩, -, X160, ⟨Lc160, hQ160, l160, y160, z160⟩, st160⟩ := X159.virtualBack hx (y := (⟨"com/example/upfront_duty/upfrontduty/algebra/Role", "equals", "(Ljava/lang/Object;)Z"⟩ : MethodName)) (z := (⟨"com/example/upfront_duty/upfrontduty/algebra/Role", "equals", "(Ljava/lang/Object;)Z"⟩ : MethodName)) hown (mvT hZ (hw _ (List.mem_of_getElem? (i := 55) rfl))) (mvT hZ (hw _ (List.mem_of_getElem? (i := 56) rfl))) (notFace_of_selects (args := #[]) (mvT hZ (hw _ (List.mem_of_getElem? (i := 58) rfl)))) (mvT hZ (hw _ (List.mem_of_getElem? (i := 58) rfl))) (mvT hZ (hw _ (List.mem_of_getElem? (i := 57) rfl))) (by decide) (backOf (W := 0) (rmREs lL Z a0 hw [] b149 p147 T153.heap n0 ra sa.1) hZ (hw _ (List.mem_of_getElem? (i := 59) rfl)) (hw _ (List.mem_of_getElem? (i := 36) rfl)) (by decide) (by decide)) q160a q160c (g := (mkF mM 202 #[.val (.int u0), .val (.int u1), .val (.int u2), .val (.int u3), .val (.int u4), .val (.int u5), .val (.int x0), .val (.int x1), .val (.int y0), .val (.int y1), .val (.int (0 : Int32)), .val (.int (0 : Int32)), .val (.ref p147), .val (.ref p148), .val (.ref b149), .val (.int ((u5 >>> ((2 : Int32) &&& 31)) &&& (3 : Int32))), .val (.ref b152), .val (.int (0 : Int32))] [(.ref b149), (.ref b149)])) rfl (by rw [hml]; rfl) (Steps.refl _) (argsL := [(.ref b149)]) (rest := []) (lenOf pd__28Ljava_2flang_2fObject_3b_29Z rfl) rfl (by show 2 * 0 + _ ≤ _; exact Nat.le_of_eq rfl) (hb hby at_202) (fun _ _ => ⟨rfl, e159, (by decide : 12 + 0 ≤ _), (by decide : 54 + 0 ≤ _)⟩)
      dsimp only [Pt.U, Pt.locs, Pt.cells, Pt.slots] at X160 l160 y160 z160 st160 hQ160
      subst l160 y160 z160
      obtain ⟨rfl, N160q, e160⟩ := hQ160
      have N160 := Fr.app N159 N160q
      refine own_stW (A := T160.setTop (mkF mM 205 #[.val (.int u0), .val (.int u1), .val (.int u2), .val (.int u3), .val (.int u4), .val (.int u5), .val (.int x0), .val (.int x1), .val (.int y0), .val (.int y1), .val (.int (0 : Int32)), .val (.int (0 : Int32)), .val (.ref p147), .val (.ref p148), .val (.ref b149), .val (.int ((u5 >>> ((2 : Int32) &&& 31)) &&& (3 : Int32))), .val (.ref b152), .val (.int (0 : Int32))] [(.int (1 : Int32))])) (fun tT_ kK_ => st160.trans kK_) ?_
      refine own_stW (A := T160.setTop (mkF mM 208 #[.val (.int u0), .val (.int u1), .val (.int u2), .val (.int u3), .val (.int u4), .val (.int u5), .val (.int x0), .val (.int x1), .val (.int y0), .val (.int y1), .val (.int (0 : Int32)), .val (.int (0 : Int32)), .val (.ref p147), .val (.ref p148), .val (.ref b149), .val (.int ((u5 >>> ((2 : Int32) &&& 31)) &&& (3 : Int32))), .val (.ref b152), .val (.int (0 : Int32))] [])) (fun tT_ kK_ => XS.ifNo X160.here hx rfl (hb hby at_205) rfl ((if0 _ _).trans (feq (by decide : ¬ ((1 : Int32) = (0 : Int32)))).1) kK_) ?_
      refine own_stW (A := T160.setTop (mkF mM 209 #[.val (.int u0), .val (.int u1), .val (.int u2), .val (.int u3), .val (.int u4), .val (.int u5), .val (.int x0), .val (.int x1), .val (.int y0), .val (.int y1), .val (.int (0 : Int32)), .val (.int (0 : Int32)), .val (.ref p147), .val (.ref p148), .val (.ref b149), .val (.int ((u5 >>> ((2 : Int32) &&& 31)) &&& (3 : Int32))), .val (.ref b152), .val (.int (0 : Int32))] [(.int (1 : Int32))])) (fun tT_ kK_ => XS.iconst X160.here hx rfl (hb hby at_208) kK_) ?_
      refine own_stW (A := T160.setTop (mkF mM 213 #[.val (.int u0), .val (.int u1), .val (.int u2), .val (.int u3), .val (.int u4), .val (.int u5), .val (.int x0), .val (.int x1), .val (.int y0), .val (.int y1), .val (.int (0 : Int32)), .val (.int (0 : Int32)), .val (.ref p147), .val (.ref p148), .val (.ref b149), .val (.int ((u5 >>> ((2 : Int32) &&& 31)) &&& (3 : Int32))), .val (.ref b152), .val (.int (0 : Int32))] [(.int (1 : Int32))])) (fun tT_ kK_ => XS.goto X160.here hx rfl (pc0 := 209) (pc' := 213) rfl (hb hby at_209) (by decide) (by decide) kK_) ?_
      exact own_retWN X160 hx hlk hS (by rw [e160]; exact hk) (t := .boolean) hret (by simp) (hb hby at_213) ⟨rfl, N160⟩ (by decide) (by decide)
  · skip
    refine own_stW (A := T150.setTop (mkF mM 214 #[.val (.int u0), .val (.int u1), .val (.int u2), .val (.int u3), .val (.int u4), .val (.int u5), .val (.int x0), .val (.int x1), .val (.int y0), .val (.int y1), .val (.int (0 : Int32)), .val (.int (0 : Int32)), .val (.ref p147), .val (.ref p148), .val (.ref b149), .val (.int ((u5 >>> ((2 : Int32) &&& 31)) &&& (3 : Int32))), .unset, .unset] [])) (fun tT_ kK_ => XS.ifYes X150.here hx rfl (pc0 := 127) (pc' := 214) rfl (hb hby at_127) rfl ((if0 _ _).trans (feq hc127_151).2) (by decide) (by decide) kK_) ?_
    refine own_stW (A := T150.setTop (mkF mM 216 #[.val (.int u0), .val (.int u1), .val (.int u2), .val (.int u3), .val (.int u4), .val (.int u5), .val (.int x0), .val (.int x1), .val (.int y0), .val (.int y1), .val (.int (0 : Int32)), .val (.int (0 : Int32)), .val (.ref p147), .val (.ref p148), .val (.ref b149), .val (.int ((u5 >>> ((2 : Int32) &&& 31)) &&& (3 : Int32))), .unset, .unset] [(.int ((u5 >>> ((2 : Int32) &&& 31)) &&& (3 : Int32)))])) (fun tT_ kK_ => XS.iload X150.here hx rfl (hb hby at_214) rfl kK_) ?_
    refine own_stW (A := T150.setTop (mkF mM 217 #[.val (.int u0), .val (.int u1), .val (.int u2), .val (.int u3), .val (.int u4), .val (.int u5), .val (.int x0), .val (.int x1), .val (.int y0), .val (.int y1), .val (.int (0 : Int32)), .val (.int (0 : Int32)), .val (.ref p147), .val (.ref p148), .val (.ref b149), .val (.int ((u5 >>> ((2 : Int32) &&& 31)) &&& (3 : Int32))), .unset, .unset] [(.int (1 : Int32)), (.int ((u5 >>> ((2 : Int32) &&& 31)) &&& (3 : Int32)))])) (fun tT_ kK_ => XS.iconst X150.here hx rfl (hb hby at_216) kK_) ?_
    by_cases hc217_161 : ((u5 >>> ((2 : Int32) &&& 31)) &&& (3 : Int32)) = (1 : Int32)
    · skip
      refine own_stW (A := T150.setTop (mkF mM 220 #[.val (.int u0), .val (.int u1), .val (.int u2), .val (.int u3), .val (.int u4), .val (.int u5), .val (.int x0), .val (.int x1), .val (.int y0), .val (.int y1), .val (.int (0 : Int32)), .val (.int (0 : Int32)), .val (.ref p147), .val (.ref p148), .val (.ref b149), .val (.int ((u5 >>> ((2 : Int32) &&& 31)) &&& (3 : Int32))), .unset, .unset] [])) (fun tT_ kK_ => XS.icmpNo X150.here hx rfl (hb hby at_217) rfl (teq hc217_161).2 kK_) ?_
      refine own_stW (A := T150.setTop (mkF mM 222 #[.val (.int u0), .val (.int u1), .val (.int u2), .val (.int u3), .val (.int u4), .val (.int u5), .val (.int x0), .val (.int x1), .val (.int y0), .val (.int y1), .val (.int (0 : Int32)), .val (.int (0 : Int32)), .val (.ref p147), .val (.ref p148), .val (.ref b149), .val (.int ((u5 >>> ((2 : Int32) &&& 31)) &&& (3 : Int32))), .unset, .unset] [(.ref b149)])) (fun tT_ kK_ => XS.aload X150.here hx rfl (hb hby at_220) rfl rfl kK_) ?_
      refine own_stW (A := T150.setTop (mkF mM 223 #[.val (.int u0), .val (.int u1), .val (.int u2), .val (.int u3), .val (.int u4), .val (.int u5), .val (.int x0), .val (.int x1), .val (.int y0), .val (.int y1), .val (.int (0 : Int32)), .val (.int (0 : Int32)), .val (.ref p147), .val (.ref p148), .val (.ref b149), .val (.int ((u5 >>> ((2 : Int32) &&& 31)) &&& (3 : Int32))), .unset, .unset] [.null, (.ref b149)])) (fun tT_ kK_ => XS.aconstNull X150.here hx rfl (hb hby at_222) kK_) ?_
      obtain ⟨cq162, kq162, q162a, q162b, q162c⟩ := isOf hZ e150 ra.1
      obtain ⟨_, _, ⟨T162, L162, k162, n162⟩, -, X162, ⟨Lc162, hQ162, l162, y162, z162⟩, st162⟩ := X150.virtualBack hx (y := (⟨"com/example/upfront_duty/upfrontduty/algebra/Role", "equals", "(Ljava/lang/Object;)Z"⟩ : MethodName)) (z := (⟨"com/example/upfront_duty/upfrontduty/algebra/Role", "equals", "(Ljava/lang/Object;)Z"⟩ : MethodName)) hown (mvT hZ (hw _ (List.mem_of_getElem? (i := 55) rfl))) (mvT hZ (hw _ (List.mem_of_getElem? (i := 56) rfl))) (notFace_of_selects (args := #[]) (mvT hZ (hw _ (List.mem_of_getElem? (i := 58) rfl)))) (mvT hZ (hw _ (List.mem_of_getElem? (i := 58) rfl))) (mvT hZ (hw _ (List.mem_of_getElem? (i := 57) rfl))) (by decide) (backOf (W := 0) (rmREn lL Z a0 hw [] b149 T150.heap n0 ) hZ (hw _ (List.mem_of_getElem? (i := 59) rfl)) (hw _ (List.mem_of_getElem? (i := 36) rfl)) (by decide) (by decide)) q162a q162c (g := (mkF mM 223 #[.val (.int u0), .val (.int u1), .val (.int u2), .val (.int u3), .val (.int u4), .val (.int u5), .val (.int x0), .val (.int x1), .val (.int y0), .val (.int y1), .val (.int (0 : Int32)), .val (.int (0 : Int32)), .val (.ref p147), .val (.ref p148), .val (.ref b149), .val (.int ((u5 >>> ((2 : Int32) &&& 31)) &&& (3 : Int32))), .unset, .unset] [.null, (.ref b149)])) rfl (by rw [hml]; rfl) (Steps.refl _) (argsL := [.null]) (rest := []) (lenOf pd__28Ljava_2flang_2fObject_3b_29Z rfl) rfl (by show 2 * 0 + _ ≤ _; exact Nat.le_of_eq rfl) (hb hby at_223) (fun _ _ => ⟨rfl, e150, (by decide : 9 + 0 ≤ _), (by decide : 33 + 0 ≤ _)⟩)
      dsimp only [Pt.U, Pt.locs, Pt.cells, Pt.slots] at X162 l162 y162 z162 st162 hQ162
      subst l162 y162 z162
      obtain ⟨rfl, N162q, e162⟩ := hQ162
      have N162 := Fr.app N150 N162q
      refine own_stW (A := T162.setTop (mkF mM 226 #[.val (.int u0), .val (.int u1), .val (.int u2), .val (.int u3), .val (.int u4), .val (.int u5), .val (.int x0), .val (.int x1), .val (.int y0), .val (.int y1), .val (.int (0 : Int32)), .val (.int (0 : Int32)), .val (.ref p147), .val (.ref p148), .val (.ref b149), .val (.int ((u5 >>> ((2 : Int32) &&& 31)) &&& (3 : Int32))), .unset, .unset] [(.int (0 : Int32))])) (fun tT_ kK_ => st162.trans kK_) ?_
      refine own_stW (A := T162.setTop (mkF mM 229 #[.val (.int u0), .val (.int u1), .val (.int u2), .val (.int u3), .val (.int u4), .val (.int u5), .val (.int x0), .val (.int x1), .val (.int y0), .val (.int y1), .val (.int (0 : Int32)), .val (.int (0 : Int32)), .val (.ref p147), .val (.ref p148), .val (.ref b149), .val (.int ((u5 >>> ((2 : Int32) &&& 31)) &&& (3 : Int32))), .unset, .unset] [])) (fun tT_ kK_ => XS.ifNo X162.here hx rfl (hb hby at_226) rfl ((if0 _ _).trans (teq (by decide : ((0 : Int32) = (0 : Int32)))).2) kK_) ?_
      refine own_stW (A := T162.setTop (mkF mM 230 #[.val (.int u0), .val (.int u1), .val (.int u2), .val (.int u3), .val (.int u4), .val (.int u5), .val (.int x0), .val (.int x1), .val (.int y0), .val (.int y1), .val (.int (0 : Int32)), .val (.int (0 : Int32)), .val (.ref p147), .val (.ref p148), .val (.ref b149), .val (.int ((u5 >>> ((2 : Int32) &&& 31)) &&& (3 : Int32))), .unset, .unset] [(.int (1 : Int32))])) (fun tT_ kK_ => XS.iconst X162.here hx rfl (hb hby at_229) kK_) ?_
      refine own_stW (A := T162.setTop (mkF mM 234 #[.val (.int u0), .val (.int u1), .val (.int u2), .val (.int u3), .val (.int u4), .val (.int u5), .val (.int x0), .val (.int x1), .val (.int y0), .val (.int y1), .val (.int (0 : Int32)), .val (.int (0 : Int32)), .val (.ref p147), .val (.ref p148), .val (.ref b149), .val (.int ((u5 >>> ((2 : Int32) &&& 31)) &&& (3 : Int32))), .unset, .unset] [(.int (1 : Int32))])) (fun tT_ kK_ => XS.goto X162.here hx rfl (pc0 := 230) (pc' := 234) rfl (hb hby at_230) (by decide) (by decide) kK_) ?_
      exact own_retWN X162 hx hlk hS (by rw [e162]; exact hk) (t := .boolean) hret (by simp) (hb hby at_234) ⟨rfl, N162⟩ (by decide) (by decide)
    · skip
      refine own_stW (A := T150.setTop (mkF mM 235 #[.val (.int u0), .val (.int u1), .val (.int u2), .val (.int u3), .val (.int u4), .val (.int u5), .val (.int x0), .val (.int x1), .val (.int y0), .val (.int y1), .val (.int (0 : Int32)), .val (.int (0 : Int32)), .val (.ref p147), .val (.ref p148), .val (.ref b149), .val (.int ((u5 >>> ((2 : Int32) &&& 31)) &&& (3 : Int32))), .unset, .unset] [])) (fun tT_ kK_ => XS.icmpYes X150.here hx rfl (pc0 := 217) (pc' := 235) rfl (hb hby at_217) rfl (feq hc217_161).2 (by decide) (by decide) kK_) ?_
      refine own_stW (A := T150.setTop (mkF mM 237 #[.val (.int u0), .val (.int u1), .val (.int u2), .val (.int u3), .val (.int u4), .val (.int u5), .val (.int x0), .val (.int x1), .val (.int y0), .val (.int y1), .val (.int (0 : Int32)), .val (.int (0 : Int32)), .val (.ref p147), .val (.ref p148), .val (.ref b149), .val (.int ((u5 >>> ((2 : Int32) &&& 31)) &&& (3 : Int32))), .unset, .unset] [(.int ((u5 >>> ((2 : Int32) &&& 31)) &&& (3 : Int32)))])) (fun tT_ kK_ => XS.iload X150.here hx rfl (hb hby at_235) rfl kK_) ?_
      refine own_stW (A := T150.setTop (mkF mM 238 #[.val (.int u0), .val (.int u1), .val (.int u2), .val (.int u3), .val (.int u4), .val (.int u5), .val (.int x0), .val (.int x1), .val (.int y0), .val (.int y1), .val (.int (0 : Int32)), .val (.int (0 : Int32)), .val (.ref p147), .val (.ref p148), .val (.ref b149), .val (.int ((u5 >>> ((2 : Int32) &&& 31)) &&& (3 : Int32))), .unset, .unset] [(.int (2 : Int32)), (.int ((u5 >>> ((2 : Int32) &&& 31)) &&& (3 : Int32)))])) (fun tT_ kK_ => XS.iconst X150.here hx rfl (hb hby at_237) kK_) ?_
      by_cases hc238_163 : ((u5 >>> ((2 : Int32) &&& 31)) &&& (3 : Int32)) = (2 : Int32)
      · skip
        refine own_stW (A := T150.setTop (mkF mM 241 #[.val (.int u0), .val (.int u1), .val (.int u2), .val (.int u3), .val (.int u4), .val (.int u5), .val (.int x0), .val (.int x1), .val (.int y0), .val (.int y1), .val (.int (0 : Int32)), .val (.int (0 : Int32)), .val (.ref p147), .val (.ref p148), .val (.ref b149), .val (.int ((u5 >>> ((2 : Int32) &&& 31)) &&& (3 : Int32))), .unset, .unset] [])) (fun tT_ kK_ => XS.icmpNo X150.here hx rfl (hb hby at_238) rfl (teq hc238_163).2 kK_) ?_
        refine own_stW (A := T150.setTop (mkF mM 243 #[.val (.int u0), .val (.int u1), .val (.int u2), .val (.int u3), .val (.int u4), .val (.int u5), .val (.int x0), .val (.int x1), .val (.int y0), .val (.int y1), .val (.int (0 : Int32)), .val (.int (0 : Int32)), .val (.ref p147), .val (.ref p148), .val (.ref b149), .val (.int ((u5 >>> ((2 : Int32) &&& 31)) &&& (3 : Int32))), .unset, .unset] [(.ref b149)])) (fun tT_ kK_ => XS.aload X150.here hx rfl (hb hby at_241) rfl rfl kK_) ?_
        refine own_stW (A := T150.setTop (mkF mM 245 #[.val (.int u0), .val (.int u1), .val (.int u2), .val (.int u3), .val (.int u4), .val (.int u5), .val (.int x0), .val (.int x1), .val (.int y0), .val (.int y1), .val (.int (0 : Int32)), .val (.int (0 : Int32)), .val (.ref p147), .val (.ref p148), .val (.ref b149), .val (.int ((u5 >>> ((2 : Int32) &&& 31)) &&& (3 : Int32))), .unset, .unset] [(.ref p147), (.ref b149)])) (fun tT_ kK_ => XS.aload X150.here hx rfl (hb hby at_243) rfl rfl kK_) ?_
        obtain ⟨cq164, kq164, q164a, q164b, q164c⟩ := isOf hZ e150 ra.1
        obtain ⟨_, _, ⟨T164, L164, k164, n164⟩, -, X164, ⟨Lc164, hQ164, l164, y164, z164⟩, st164⟩ := X150.virtualBack hx (y := (⟨"com/example/upfront_duty/upfrontduty/algebra/Role", "equals", "(Ljava/lang/Object;)Z"⟩ : MethodName)) (z := (⟨"com/example/upfront_duty/upfrontduty/algebra/Role", "equals", "(Ljava/lang/Object;)Z"⟩ : MethodName)) hown (mvT hZ (hw _ (List.mem_of_getElem? (i := 55) rfl))) (mvT hZ (hw _ (List.mem_of_getElem? (i := 56) rfl))) (notFace_of_selects (args := #[]) (mvT hZ (hw _ (List.mem_of_getElem? (i := 58) rfl)))) (mvT hZ (hw _ (List.mem_of_getElem? (i := 58) rfl))) (mvT hZ (hw _ (List.mem_of_getElem? (i := 57) rfl))) (by decide) (backOf (W := 0) (rmREo0 lL Z a0 hw [] b149 p147 T150.heap n0 sa.1) hZ (hw _ (List.mem_of_getElem? (i := 59) rfl)) (hw _ (List.mem_of_getElem? (i := 36) rfl)) (by decide) (by decide)) q164a q164c (g := (mkF mM 245 #[.val (.int u0), .val (.int u1), .val (.int u2), .val (.int u3), .val (.int u4), .val (.int u5), .val (.int x0), .val (.int x1), .val (.int y0), .val (.int y1), .val (.int (0 : Int32)), .val (.int (0 : Int32)), .val (.ref p147), .val (.ref p148), .val (.ref b149), .val (.int ((u5 >>> ((2 : Int32) &&& 31)) &&& (3 : Int32))), .unset, .unset] [(.ref p147), (.ref b149)])) rfl (by rw [hml]; rfl) (Steps.refl _) (argsL := [(.ref p147)]) (rest := []) (lenOf pd__28Ljava_2flang_2fObject_3b_29Z rfl) rfl (by show 2 * 0 + _ ≤ _; exact Nat.le_of_eq rfl) (hb hby at_245) (fun _ _ => ⟨rfl, e150, (by decide : 9 + 0 ≤ _), (by decide : 33 + 0 ≤ _)⟩)
        dsimp only [Pt.U, Pt.locs, Pt.cells, Pt.slots] at X164 l164 y164 z164 st164 hQ164
        subst l164 y164 z164
        obtain ⟨rfl, N164q, e164⟩ := hQ164
        have N164 := Fr.app N150 N164q
        refine own_stW (A := T164.setTop (mkF mM 248 #[.val (.int u0), .val (.int u1), .val (.int u2), .val (.int u3), .val (.int u4), .val (.int u5), .val (.int x0), .val (.int x1), .val (.int y0), .val (.int y1), .val (.int (0 : Int32)), .val (.int (0 : Int32)), .val (.ref p147), .val (.ref p148), .val (.ref b149), .val (.int ((u5 >>> ((2 : Int32) &&& 31)) &&& (3 : Int32))), .unset, .unset] [(.int (0 : Int32))])) (fun tT_ kK_ => st164.trans kK_) ?_
        refine own_stW (A := T164.setTop (mkF mM 251 #[.val (.int u0), .val (.int u1), .val (.int u2), .val (.int u3), .val (.int u4), .val (.int u5), .val (.int x0), .val (.int x1), .val (.int y0), .val (.int y1), .val (.int (0 : Int32)), .val (.int (0 : Int32)), .val (.ref p147), .val (.ref p148), .val (.ref b149), .val (.int ((u5 >>> ((2 : Int32) &&& 31)) &&& (3 : Int32))), .unset, .unset] [])) (fun tT_ kK_ => XS.ifNo X164.here hx rfl (hb hby at_248) rfl ((if0 _ _).trans (teq (by decide : ((0 : Int32) = (0 : Int32)))).2) kK_) ?_
        refine own_stW (A := T164.setTop (mkF mM 252 #[.val (.int u0), .val (.int u1), .val (.int u2), .val (.int u3), .val (.int u4), .val (.int u5), .val (.int x0), .val (.int x1), .val (.int y0), .val (.int y1), .val (.int (0 : Int32)), .val (.int (0 : Int32)), .val (.ref p147), .val (.ref p148), .val (.ref b149), .val (.int ((u5 >>> ((2 : Int32) &&& 31)) &&& (3 : Int32))), .unset, .unset] [(.int (1 : Int32))])) (fun tT_ kK_ => XS.iconst X164.here hx rfl (hb hby at_251) kK_) ?_
        refine own_stW (A := T164.setTop (mkF mM 256 #[.val (.int u0), .val (.int u1), .val (.int u2), .val (.int u3), .val (.int u4), .val (.int u5), .val (.int x0), .val (.int x1), .val (.int y0), .val (.int y1), .val (.int (0 : Int32)), .val (.int (0 : Int32)), .val (.ref p147), .val (.ref p148), .val (.ref b149), .val (.int ((u5 >>> ((2 : Int32) &&& 31)) &&& (3 : Int32))), .unset, .unset] [(.int (1 : Int32))])) (fun tT_ kK_ => XS.goto X164.here hx rfl (pc0 := 252) (pc' := 256) rfl (hb hby at_252) (by decide) (by decide) kK_) ?_
        exact own_retWN X164 hx hlk hS (by rw [e164]; exact hk) (t := .boolean) hret (by simp) (hb hby at_256) ⟨rfl, N164⟩ (by decide) (by decide)
      · skip
        refine own_stW (A := T150.setTop (mkF mM 257 #[.val (.int u0), .val (.int u1), .val (.int u2), .val (.int u3), .val (.int u4), .val (.int u5), .val (.int x0), .val (.int x1), .val (.int y0), .val (.int y1), .val (.int (0 : Int32)), .val (.int (0 : Int32)), .val (.ref p147), .val (.ref p148), .val (.ref b149), .val (.int ((u5 >>> ((2 : Int32) &&& 31)) &&& (3 : Int32))), .unset, .unset] [])) (fun tT_ kK_ => XS.icmpYes X150.here hx rfl (pc0 := 238) (pc' := 257) rfl (hb hby at_238) rfl (feq hc238_163).2 (by decide) (by decide) kK_) ?_
        refine own_stW (A := T150.setTop (mkF mM 259 #[.val (.int u0), .val (.int u1), .val (.int u2), .val (.int u3), .val (.int u4), .val (.int u5), .val (.int x0), .val (.int x1), .val (.int y0), .val (.int y1), .val (.int (0 : Int32)), .val (.int (0 : Int32)), .val (.ref p147), .val (.ref p148), .val (.ref b149), .val (.int ((u5 >>> ((2 : Int32) &&& 31)) &&& (3 : Int32))), .unset, .unset] [(.ref b149)])) (fun tT_ kK_ => XS.aload X150.here hx rfl (hb hby at_257) rfl rfl kK_) ?_
        obtain ⟨T165, X165, e165, st165⟩ := getS2 X150 hx hZ hown (host := "") (Or.inl (hw _ (List.mem_of_getElem? (i := 72) rfl))) Via.refl e150 (S_au.ext O.2) (g := (mkF mM 259 #[.val (.int u0), .val (.int u1), .val (.int u2), .val (.int u3), .val (.int u4), .val (.int u5), .val (.int x0), .val (.int x1), .val (.int y0), .val (.int y1), .val (.int (0 : Int32)), .val (.int (0 : Int32)), .val (.ref p147), .val (.ref p148), .val (.ref b149), .val (.int ((u5 >>> ((2 : Int32) &&& 31)) &&& (3 : Int32))), .unset, .unset] [(.ref b149)])) rfl (hb hby at_259)
        refine own_stW (A := T165.setTop (mkF mM 262 #[.val (.int u0), .val (.int u1), .val (.int u2), .val (.int u3), .val (.int u4), .val (.int u5), .val (.int x0), .val (.int x1), .val (.int y0), .val (.int y1), .val (.int (0 : Int32)), .val (.int (0 : Int32)), .val (.ref p147), .val (.ref p148), .val (.ref b149), .val (.int ((u5 >>> ((2 : Int32) &&& 31)) &&& (3 : Int32))), .unset, .unset] [(.ref au), (.ref b149)])) (fun tT_ kK_ => st165 tT_ kK_) ?_
        obtain ⟨cq166, kq166, q166a, q166b, q166c⟩ := isOf hZ e165 ra.1
        obtain ⟨_, _, ⟨T166, L166, k166, n166⟩, -, X166, ⟨Lc166, hQ166, l166, y166, z166⟩, st166⟩ := X165.virtualBack hx (y := (⟨"com/example/upfront_duty/upfrontduty/algebra/Role", "equals", "(Ljava/lang/Object;)Z"⟩ : MethodName)) (z := (⟨"com/example/upfront_duty/upfrontduty/algebra/Role", "equals", "(Ljava/lang/Object;)Z"⟩ : MethodName)) hown (mvT hZ (hw _ (List.mem_of_getElem? (i := 55) rfl))) (mvT hZ (hw _ (List.mem_of_getElem? (i := 56) rfl))) (notFace_of_selects (args := #[]) (mvT hZ (hw _ (List.mem_of_getElem? (i := 58) rfl)))) (mvT hZ (hw _ (List.mem_of_getElem? (i := 58) rfl))) (mvT hZ (hw _ (List.mem_of_getElem? (i := 57) rfl))) (by decide) (backOf (W := 0) (rmREo1 lL Z a0 hw [] b149 au T150.heap n0 (E_au.ext O.2)) hZ (hw _ (List.mem_of_getElem? (i := 59) rfl)) (hw _ (List.mem_of_getElem? (i := 36) rfl)) (by decide) (by decide)) q166a q166c (g := (mkF mM 262 #[.val (.int u0), .val (.int u1), .val (.int u2), .val (.int u3), .val (.int u4), .val (.int u5), .val (.int x0), .val (.int x1), .val (.int y0), .val (.int y1), .val (.int (0 : Int32)), .val (.int (0 : Int32)), .val (.ref p147), .val (.ref p148), .val (.ref b149), .val (.int ((u5 >>> ((2 : Int32) &&& 31)) &&& (3 : Int32))), .unset, .unset] [(.ref au), (.ref b149)])) rfl (by rw [hml]; rfl) (Steps.refl _) (argsL := [(.ref au)]) (rest := []) (lenOf pd__28Ljava_2flang_2fObject_3b_29Z rfl) rfl (by show 2 * 0 + _ ≤ _; exact Nat.le_of_eq rfl) (hb hby at_262) (fun _ _ => ⟨rfl, e165, (by decide : 9 + 0 ≤ _), (by decide : 33 + 0 ≤ _)⟩)
        dsimp only [Pt.U, Pt.locs, Pt.cells, Pt.slots] at X166 l166 y166 z166 st166 hQ166
        subst l166 y166 z166
        obtain ⟨rfl, N166q, e166⟩ := hQ166
        have N166 := Fr.app N150 N166q
        refine own_stW (A := T166.setTop (mkF mM 265 #[.val (.int u0), .val (.int u1), .val (.int u2), .val (.int u3), .val (.int u4), .val (.int u5), .val (.int x0), .val (.int x1), .val (.int y0), .val (.int y1), .val (.int (0 : Int32)), .val (.int (0 : Int32)), .val (.ref p147), .val (.ref p148), .val (.ref b149), .val (.int ((u5 >>> ((2 : Int32) &&& 31)) &&& (3 : Int32))), .unset, .unset] [(.int (0 : Int32))])) (fun tT_ kK_ => st166.trans kK_) ?_
        refine own_stW (A := T166.setTop (mkF mM 268 #[.val (.int u0), .val (.int u1), .val (.int u2), .val (.int u3), .val (.int u4), .val (.int u5), .val (.int x0), .val (.int x1), .val (.int y0), .val (.int y1), .val (.int (0 : Int32)), .val (.int (0 : Int32)), .val (.ref p147), .val (.ref p148), .val (.ref b149), .val (.int ((u5 >>> ((2 : Int32) &&& 31)) &&& (3 : Int32))), .unset, .unset] [])) (fun tT_ kK_ => XS.ifNo X166.here hx rfl (hb hby at_265) rfl ((if0 _ _).trans (teq (by decide : ((0 : Int32) = (0 : Int32)))).2) kK_) ?_
        refine own_stW (A := T166.setTop (mkF mM 269 #[.val (.int u0), .val (.int u1), .val (.int u2), .val (.int u3), .val (.int u4), .val (.int u5), .val (.int x0), .val (.int x1), .val (.int y0), .val (.int y1), .val (.int (0 : Int32)), .val (.int (0 : Int32)), .val (.ref p147), .val (.ref p148), .val (.ref b149), .val (.int ((u5 >>> ((2 : Int32) &&& 31)) &&& (3 : Int32))), .unset, .unset] [(.int (1 : Int32))])) (fun tT_ kK_ => XS.iconst X166.here hx rfl (hb hby at_268) kK_) ?_
        refine own_stW (A := T166.setTop (mkF mM 273 #[.val (.int u0), .val (.int u1), .val (.int u2), .val (.int u3), .val (.int u4), .val (.int u5), .val (.int x0), .val (.int x1), .val (.int y0), .val (.int y1), .val (.int (0 : Int32)), .val (.int (0 : Int32)), .val (.ref p147), .val (.ref p148), .val (.ref b149), .val (.int ((u5 >>> ((2 : Int32) &&& 31)) &&& (3 : Int32))), .unset, .unset] [(.int (1 : Int32))])) (fun tT_ kK_ => XS.goto X166.here hx rfl (pc0 := 269) (pc' := 273) rfl (hb hby at_269) (by decide) (by decide) kK_) ?_
        exact own_retWN X166 hx hlk hS (by rw [e166]; exact hk) (t := .boolean) hret (by simp) (hb hby at_273) ⟨rfl, N166⟩ (by decide) (by decide)
set_option maxRecDepth 65536 in
set_option maxHeartbeats 40000000 in
theorem J84_01 {pP : Program} {lL : Launch} {eE : Env} {sS : State} {mM : MethodId} {args : Array Value} {below : List Frame} {meth : Method} {cC : Code} {T0 : State} {locs : List Loc} {Z : State} {a0 : Array Value} {h0 : Heap} {n0 : Nat} {vmV : Vm} (hw : ∀ d ∈ tables_1, d.before a0 Z = true) (X0 : Stand pP lL eE room_1 (sS.setVm vmV) mM args below meth cC T0 locs 0 0) (hx : pP.tables.exec = Jvm.exec) (hZ : Z.Warmed39 (sS.setVm vmV).vm) (hby : cC.code = code) (hml : cC.maxLocals = 18) (hown : (sS.setVm vmV).vm.findClass "com/example/upfront_duty/upfrontduty/algebra/RoleEqualsPinLaw" = some mM.cls) (hlk : meth.locks = false) (hret : meth.sig.returnType = ret) {kV : Nat} (hS : sS.Since vmV kV) (hk : kV ≤ h0.size) (e0 : T0.heap = h0) (N0 : Fr n0 locs) (u0 : Int32) (u1 : Int32) (u2 : Int32) (u3 : Int32) (u4 : Int32) (u5 : Int32) (x0 : Int32) (x1 : Int32) (y0 : Int32) (y1 : Int32) (cs : Int32) (au : Addr) (O : Old Z n0 h0) (Zn : n0 ≤ h0.size) (S_cs : Sta Z Z.heap "java/lang/String" "COMPACT_STRINGS" "Z" (.int cs)) (hcs : ¬ cs = (0 : Int32)) (S_au : Sta Z Z.heap "com/example/upfront_duty/upfrontduty/algebra/AllUsers" "INSTANCE" "Lcom/example/upfront_duty/upfrontduty/algebra/AllUsers;" (.ref au)) (E_au : Exa Z Z.heap au "com/example/upfront_duty/upfrontduty/algebra/AllUsers") (cx0 : Ck x0) (cx1 : Ck x1) (cy0 : Ck y0) (cy1 : Ck y1) :
    own_GoW pP eE below sS (QLaw n0) 32 1152 (T0.setTop (mkF mM 84 #[.val (.int u0), .val (.int u1), .val (.int u2), .val (.int u3), .val (.int u4), .val (.int u5), .val (.int x0), .val (.int x1), .val (.int y0), .val (.int y1), .val (.int (0 : Int32)), .val (.int (1 : Int32)), .unset, .unset, .unset, .unset, .unset, .unset] [])) := by
  refine own_stW (A := T0.setTop (mkF mM 86 #[.val (.int u0), .val (.int u1), .val (.int u2), .val (.int u3), .val (.int u4), .val (.int u5), .val (.int x0), .val (.int x1), .val (.int y0), .val (.int y1), .val (.int (0 : Int32)), .val (.int (1 : Int32)), .unset, .unset, .unset, .unset, .unset, .unset] [(.int (0 : Int32))])) (fun tT_ kK_ => XS.iload X0.here hx rfl (hb hby at_84) rfl kK_) ?_
  refine own_stW (A := T0.setTop (mkF mM 88 #[.val (.int u0), .val (.int u1), .val (.int u2), .val (.int u3), .val (.int u4), .val (.int u5), .val (.int x0), .val (.int x1), .val (.int y0), .val (.int y1), .val (.int (0 : Int32)), .val (.int (1 : Int32)), .unset, .unset, .unset, .unset, .unset, .unset] [(.int x0), (.int (0 : Int32))])) (fun tT_ kK_ => XS.iload X0.here hx rfl (hb hby at_86) rfl kK_) ?_
  refine own_stW (A := T0.setTop (mkF mM 90 #[.val (.int u0), .val (.int u1), .val (.int u2), .val (.int u3), .val (.int u4), .val (.int u5), .val (.int x0), .val (.int x1), .val (.int y0), .val (.int y1), .val (.int (0 : Int32)), .val (.int (1 : Int32)), .unset, .unset, .unset, .unset, .unset, .unset] [(.int x1), (.int x0), (.int (0 : Int32))])) (fun tT_ kK_ => XS.iload X0.here hx rfl (hb hby at_88) rfl kK_) ?_
  obtain ⟨_, _, ⟨T167, L167, k167, n167⟩, -, X167, ⟨Lc167, hQ167, l167, y167, z167⟩, st167⟩ := Jvm.LawKit.callS X0 hx (y := (⟨"com/example/upfront_duty/upfrontduty/algebra/RoleEqualsPinLaw", "name", "(ZCC)Ljava/lang/String;"⟩ : MethodName)) hown (mvT hZ (hw _ (List.mem_of_getElem? (i := 0) rfl))) (mvT hZ (hw _ (List.mem_of_getElem? (i := 1) rfl))) (mvT hZ (hw _ (List.mem_of_getElem? (i := 2) rfl))) (mvT hZ (hw _ (List.mem_of_getElem? (i := 3) rfl))) (by decide) (backOf (W := 0) (rmN1 lL Z a0 hw [] cs x0 x1 h0 n0 O Zn S_cs hcs cx0 cx1) hZ (hw _ (List.mem_of_getElem? (i := 3) rfl)) (hw _ (List.mem_of_getElem? (i := 2) rfl)) (by decide) (by decide)) (g := (mkF mM 90 #[.val (.int u0), .val (.int u1), .val (.int u2), .val (.int u3), .val (.int u4), .val (.int u5), .val (.int x0), .val (.int x1), .val (.int y0), .val (.int y1), .val (.int (0 : Int32)), .val (.int (1 : Int32)), .unset, .unset, .unset, .unset, .unset, .unset] [(.int x1), (.int x0), (.int (0 : Int32))])) rfl (by rw [hml]; rfl) (argsL := [(.int (0 : Int32)), (.int x0), (.int x1)]) (rest := []) (lenOf pd__28ZCC_29Ljava_2flang_2fString_3b rfl) rfl (by show 2 * 0 + _ ≤ _; exact Nat.le_of_eq rfl) (hb hby at_90) (fun _ _ => ⟨rfl, e0, (by decide : 0 + 3 ≤ _), (by decide : 0 + 6 ≤ _)⟩)
  dsimp only [Pt.U, Pt.locs, Pt.cells, Pt.slots] at X167 l167 y167 z167 st167 hQ167
  subst l167 y167 z167
  obtain ⟨p167, d167, k167', rfl, N167q, E167, str167, ga167, gd167⟩ := hQ167
  have N167 := Fr.app N0 N167q
  have e167 : T167.heap = T167.heap := rfl
  refine own_stW (A := T167.setTop (mkF mM 93 #[.val (.int u0), .val (.int u1), .val (.int u2), .val (.int u3), .val (.int u4), .val (.int u5), .val (.int x0), .val (.int x1), .val (.int y0), .val (.int y1), .val (.int (0 : Int32)), .val (.int (1 : Int32)), .unset, .unset, .unset, .unset, .unset, .unset] [(.ref p167)])) (fun tT_ kK_ => st167 tT_ kK_) ?_
  have O := O.ext E167
  have hk := Nat.le_trans hk E167.1
  have Zn := Nat.le_trans Zn E167.1
  have sa := str167
  refine own_stW (A := T167.setTop (mkF mM 95 #[.val (.int u0), .val (.int u1), .val (.int u2), .val (.int u3), .val (.int u4), .val (.int u5), .val (.int x0), .val (.int x1), .val (.int y0), .val (.int y1), .val (.int (0 : Int32)), .val (.int (1 : Int32)), .val (.ref p167), .unset, .unset, .unset, .unset, .unset] [])) (fun tT_ kK_ => XS.astore X167.here hx rfl (hb hby at_93) rfl rfl (l' := #[.val (.int u0), .val (.int u1), .val (.int u2), .val (.int u3), .val (.int u4), .val (.int u5), .val (.int x0), .val (.int x1), .val (.int y0), .val (.int y1), .val (.int (0 : Int32)), .val (.int (1 : Int32)), .val (.ref p167), .unset, .unset, .unset, .unset, .unset]) rfl kK_) ?_
  refine own_stW (A := T167.setTop (mkF mM 97 #[.val (.int u0), .val (.int u1), .val (.int u2), .val (.int u3), .val (.int u4), .val (.int u5), .val (.int x0), .val (.int x1), .val (.int y0), .val (.int y1), .val (.int (0 : Int32)), .val (.int (1 : Int32)), .val (.ref p167), .unset, .unset, .unset, .unset, .unset] [(.int (1 : Int32))])) (fun tT_ kK_ => XS.iload X167.here hx rfl (hb hby at_95) rfl kK_) ?_
  refine own_stW (A := T167.setTop (mkF mM 99 #[.val (.int u0), .val (.int u1), .val (.int u2), .val (.int u3), .val (.int u4), .val (.int u5), .val (.int x0), .val (.int x1), .val (.int y0), .val (.int y1), .val (.int (0 : Int32)), .val (.int (1 : Int32)), .val (.ref p167), .unset, .unset, .unset, .unset, .unset] [(.int y0), (.int (1 : Int32))])) (fun tT_ kK_ => XS.iload X167.here hx rfl (hb hby at_97) rfl kK_) ?_
  refine own_stW (A := T167.setTop (mkF mM 101 #[.val (.int u0), .val (.int u1), .val (.int u2), .val (.int u3), .val (.int u4), .val (.int u5), .val (.int x0), .val (.int x1), .val (.int y0), .val (.int y1), .val (.int (0 : Int32)), .val (.int (1 : Int32)), .val (.ref p167), .unset, .unset, .unset, .unset, .unset] [(.int y1), (.int y0), (.int (1 : Int32))])) (fun tT_ kK_ => XS.iload X167.here hx rfl (hb hby at_99) rfl kK_) ?_
  obtain ⟨_, _, ⟨T168, L168, k168, n168⟩, -, X168, ⟨Lc168, hQ168, l168, y168, z168⟩, st168⟩ := Jvm.LawKit.callS X167 hx (y := (⟨"com/example/upfront_duty/upfrontduty/algebra/RoleEqualsPinLaw", "name", "(ZCC)Ljava/lang/String;"⟩ : MethodName)) hown (mvT hZ (hw _ (List.mem_of_getElem? (i := 0) rfl))) (mvT hZ (hw _ (List.mem_of_getElem? (i := 1) rfl))) (mvT hZ (hw _ (List.mem_of_getElem? (i := 2) rfl))) (mvT hZ (hw _ (List.mem_of_getElem? (i := 3) rfl))) (by decide) (backOf (W := 0) (rmN2 lL Z a0 hw [] cs y0 y1 T167.heap n0 O Zn S_cs hcs cy0 cy1) hZ (hw _ (List.mem_of_getElem? (i := 3) rfl)) (hw _ (List.mem_of_getElem? (i := 2) rfl)) (by decide) (by decide)) (g := (mkF mM 101 #[.val (.int u0), .val (.int u1), .val (.int u2), .val (.int u3), .val (.int u4), .val (.int u5), .val (.int x0), .val (.int x1), .val (.int y0), .val (.int y1), .val (.int (0 : Int32)), .val (.int (1 : Int32)), .val (.ref p167), .unset, .unset, .unset, .unset, .unset] [(.int y1), (.int y0), (.int (1 : Int32))])) rfl (by rw [hml]; rfl) (argsL := [(.int (1 : Int32)), (.int y0), (.int y1)]) (rest := []) (lenOf pd__28ZCC_29Ljava_2flang_2fString_3b rfl) rfl (by show 2 * 0 + _ ≤ _; exact Nat.le_of_eq rfl) (hb hby at_101) (fun _ _ => ⟨rfl, e167, (by decide : 3 + 3 ≤ _), (by decide : 6 + 8 ≤ _)⟩)
  dsimp only [Pt.U, Pt.locs, Pt.cells, Pt.slots] at X168 l168 y168 z168 st168 hQ168
  subst l168 y168 z168
  obtain ⟨p168, d168, k168', rfl, N168q, E168, str168, ga168, gd168⟩ := hQ168
  have N168 := Fr.app N167 N168q
  have e168 : T168.heap = T168.heap := rfl
  refine own_stW (A := T168.setTop (mkF mM 104 #[.val (.int u0), .val (.int u1), .val (.int u2), .val (.int u3), .val (.int u4), .val (.int u5), .val (.int x0), .val (.int x1), .val (.int y0), .val (.int y1), .val (.int (0 : Int32)), .val (.int (1 : Int32)), .val (.ref p167), .unset, .unset, .unset, .unset, .unset] [(.ref p168)])) (fun tT_ kK_ => st168 tT_ kK_) ?_
  have nss : p167 ≠ p168 := Nat.ne_of_lt (Nat.lt_of_lt_of_le sa.1.lt ga168)
  have sa := own_Str_ext sa E168
  have O := O.ext E168
  have hk := Nat.le_trans hk E168.1
  have Zn := Nat.le_trans Zn E168.1
  have sb := str168
  refine own_stW (A := T168.setTop (mkF mM 106 #[.val (.int u0), .val (.int u1), .val (.int u2), .val (.int u3), .val (.int u4), .val (.int u5), .val (.int x0), .val (.int x1), .val (.int y0), .val (.int y1), .val (.int (0 : Int32)), .val (.int (1 : Int32)), .val (.ref p167), .val (.ref p168), .unset, .unset, .unset, .unset] [])) (fun tT_ kK_ => XS.astore X168.here hx rfl (hb hby at_104) rfl rfl (l' := #[.val (.int u0), .val (.int u1), .val (.int u2), .val (.int u3), .val (.int u4), .val (.int u5), .val (.int x0), .val (.int x1), .val (.int y0), .val (.int y1), .val (.int (0 : Int32)), .val (.int (1 : Int32)), .val (.ref p167), .val (.ref p168), .unset, .unset, .unset, .unset]) rfl kK_) ?_
  obtain ⟨T169, h169, X169, e169, E169, A169, D169, -, st169⟩ := newO X168 hx hZ hown (hw _ (List.mem_of_getElem? (i := 34) rfl)) (hw _ (List.mem_of_getElem? (i := 35) rfl)) (hw _ (List.mem_of_getElem? (i := 36) rfl)) e168 (g := (mkF mM 106 #[.val (.int u0), .val (.int u1), .val (.int u2), .val (.int u3), .val (.int u4), .val (.int u5), .val (.int x0), .val (.int x1), .val (.int y0), .val (.int y1), .val (.int (0 : Int32)), .val (.int (1 : Int32)), .val (.ref p167), .val (.ref p168), .unset, .unset, .unset, .unset] [])) rfl (hb hby at_106) (by decide) (by decide)
  obtain ⟨b169, g169⟩ : ∃ z, z = T168.heap.size := ⟨_, rfl⟩
  rw [← g169] at A169 D169 st169
  have g_b169 : n0 ≤ b169 := Nat.le_trans Zn (Nat.le_of_eq g169.symm)
  have sa := own_Str_ext sa E169
  have sb := own_Str_ext sb E169
  have O := O.ext E169
  have hk := Nat.le_trans hk E169.1
  have Zn := Nat.le_trans Zn E169.1
  have E_b169 := A169
  have F_b169_name : Fld Z h169 b169 "com/example/upfront_duty/upfrontduty/algebra/Role" "name" "Ljava/lang/String;" .null := D169 (Or.inr (hw _ (List.mem_of_getElem? (i := 54) rfl))) (ty := (.object "java/lang/String")) (by decide)
  refine own_stW (A := T169.setTop (mkF mM 109 #[.val (.int u0), .val (.int u1), .val (.int u2), .val (.int u3), .val (.int u4), .val (.int u5), .val (.int x0), .val (.int x1), .val (.int y0), .val (.int y1), .val (.int (0 : Int32)), .val (.int (1 : Int32)), .val (.ref p167), .val (.ref p168), .unset, .unset, .unset, .unset] [(.ref b169)])) (fun tT_ kK_ => st169 tT_ kK_) ?_
  refine own_stW (A := T169.setTop (mkF mM 110 #[.val (.int u0), .val (.int u1), .val (.int u2), .val (.int u3), .val (.int u4), .val (.int u5), .val (.int x0), .val (.int x1), .val (.int y0), .val (.int y1), .val (.int (0 : Int32)), .val (.int (1 : Int32)), .val (.ref p167), .val (.ref p168), .unset, .unset, .unset, .unset] [(.ref b169), (.ref b169)])) (fun tT_ kK_ => XS.dup X169.here hx rfl (hb hby at_109) rfl rfl kK_) ?_
  refine own_stW (A := T169.setTop (mkF mM 112 #[.val (.int u0), .val (.int u1), .val (.int u2), .val (.int u3), .val (.int u4), .val (.int u5), .val (.int x0), .val (.int x1), .val (.int y0), .val (.int y1), .val (.int (0 : Int32)), .val (.int (1 : Int32)), .val (.ref p167), .val (.ref p168), .unset, .unset, .unset, .unset] [(.ref p167), (.ref b169), (.ref b169)])) (fun tT_ kK_ => XS.aload X169.here hx rfl (hb hby at_110) rfl rfl kK_) ?_
  obtain ⟨_, _, ⟨T170, L170, k170, n170⟩, -, X170, hS170, hg170, ⟨Lc170, hQ170, l170, y170, z170⟩, st170⟩ := X169.specialBackS hx (y := (⟨"com/example/upfront_duty/upfrontduty/algebra/Role", "<init>", "(Ljava/lang/String;)V"⟩ : MethodName)) rfl hown (mvT hZ (hw _ (List.mem_of_getElem? (i := 37) rfl))) (mvT hZ (hw _ (List.mem_of_getElem? (i := 38) rfl))) (mvT hZ (hw _ (List.mem_of_getElem? (i := 39) rfl))) (by decide) (backOfS (W := 1) (rmRI1 lL Z a0 hw [] b169 p167 d167 k167' x0 h169 n0 g_b169 E_b169 F_b169_name sa (Exa.ne sa.1 E_b169 (by decide)) (Exa.neArv E_b169 sa.2.2.2 (hw _ (List.mem_of_getElem? (i := 35) rfl))).symm) hZ (hw _ (List.mem_of_getElem? (i := 39) rfl)) (hw _ (List.mem_of_getElem? (i := 36) rfl)) (by decide) (by decide)) (g := (mkF mM 112 #[.val (.int u0), .val (.int u1), .val (.int u2), .val (.int u3), .val (.int u4), .val (.int u5), .val (.int x0), .val (.int x1), .val (.int y0), .val (.int y1), .val (.int (0 : Int32)), .val (.int (1 : Int32)), .val (.ref p167), .val (.ref p168), .unset, .unset, .unset, .unset] [(.ref p167), (.ref b169), (.ref b169)])) rfl (by rw [hml]; rfl) (Steps.refl _) (a := b169) (argsL := [(.ref p167)]) (rest := [(.ref b169)]) (lenOf pd__28Ljava_2flang_2fString_3b_29V rfl) rfl (by show 2 * 0 + _ ≤ _; exact Nat.le_of_eq rfl) (hb hby at_112) (fun _ _ => ⟨rfl, e169, (by decide : 7 + 2 ≤ _), (by decide : 15 + 20 ≤ _)⟩)
  dsimp only [Pt.U, Pt.locs, Pt.cells, Pt.slots] at X170 l170 y170 z170 st170 hQ170 hS170 hg170
  subst l170 y170 z170
  obtain ⟨rfl, N170q, K170, x170, y170⟩ := hQ170
  have N170 := Fr.app N168 N170q
  rw [e169] at hg170
  have hZ := own_wideZ hZ hS170
  have hown := own_wideO hown hS170
  have hS := hS.trans hS170 (Nat.le_trans hk hg170)
  have hk : T170.heap.size ≤ T170.heap.size := Nat.le_refl _
  have X170 : Stand pP lL eE room_1 (sS.setVm T170.vm) mM args below meth cC T170 _ 9 35 := X170
  have e170 : T170.heap = T170.heap := rfl
  refine own_stW (A := T170.setTop (mkF mM 115 #[.val (.int u0), .val (.int u1), .val (.int u2), .val (.int u3), .val (.int u4), .val (.int u5), .val (.int x0), .val (.int x1), .val (.int y0), .val (.int y1), .val (.int (0 : Int32)), .val (.int (1 : Int32)), .val (.ref p167), .val (.ref p168), .unset, .unset, .unset, .unset] [(.ref b169)])) (fun tT_ kK_ => st170.trans kK_) ?_
  have sa := own_Str_keep sa K170 (ninS (Exa.ne sa.1 E_b169 (by decide)) nin0) (ninS (Exa.neArv E_b169 sa.2.2.2 (hw _ (List.mem_of_getElem? (i := 35) rfl))).symm nin0)
  have sb := own_Str_keep sb K170 (ninS (Exa.ne sb.1 E_b169 (by decide)) nin0) (ninS (Exa.neArv E_b169 sb.2.2.2 (hw _ (List.mem_of_getElem? (i := 35) rfl))).symm nin0)
  have E_b169 := E_b169.keep K170
  have O := O.keep K170 (allS g_b169 all0)
  have Zn := Nat.le_trans Zn K170.1
  have ra : Rol Z _ _ _ := ⟨x170, y170⟩
  refine own_stW (A := T170.setTop (mkF mM 117 #[.val (.int u0), .val (.int u1), .val (.int u2), .val (.int u3), .val (.int u4), .val (.int u5), .val (.int x0), .val (.int x1), .val (.int y0), .val (.int y1), .val (.int (0 : Int32)), .val (.int (1 : Int32)), .val (.ref p167), .val (.ref p168), .val (.ref b169), .unset, .unset, .unset] [])) (fun tT_ kK_ => XS.astore X170.here hx rfl (hb hby at_115) rfl rfl (l' := #[.val (.int u0), .val (.int u1), .val (.int u2), .val (.int u3), .val (.int u4), .val (.int u5), .val (.int x0), .val (.int x1), .val (.int y0), .val (.int y1), .val (.int (0 : Int32)), .val (.int (1 : Int32)), .val (.ref p167), .val (.ref p168), .val (.ref b169), .unset, .unset, .unset]) rfl kK_) ?_
  refine own_stW (A := T170.setTop (mkF mM 119 #[.val (.int u0), .val (.int u1), .val (.int u2), .val (.int u3), .val (.int u4), .val (.int u5), .val (.int x0), .val (.int x1), .val (.int y0), .val (.int y1), .val (.int (0 : Int32)), .val (.int (1 : Int32)), .val (.ref p167), .val (.ref p168), .val (.ref b169), .unset, .unset, .unset] [(.int u5)])) (fun tT_ kK_ => XS.iload X170.here hx rfl (hb hby at_117) rfl kK_) ?_
  refine own_stW (A := T170.setTop (mkF mM 120 #[.val (.int u0), .val (.int u1), .val (.int u2), .val (.int u3), .val (.int u4), .val (.int u5), .val (.int x0), .val (.int x1), .val (.int y0), .val (.int y1), .val (.int (0 : Int32)), .val (.int (1 : Int32)), .val (.ref p167), .val (.ref p168), .val (.ref b169), .unset, .unset, .unset] [(.int (2 : Int32)), (.int u5)])) (fun tT_ kK_ => XS.iconst X170.here hx rfl (hb hby at_119) kK_) ?_
  refine own_stW (A := T170.setTop (mkF mM 121 #[.val (.int u0), .val (.int u1), .val (.int u2), .val (.int u3), .val (.int u4), .val (.int u5), .val (.int x0), .val (.int x1), .val (.int y0), .val (.int y1), .val (.int (0 : Int32)), .val (.int (1 : Int32)), .val (.ref p167), .val (.ref p168), .val (.ref b169), .unset, .unset, .unset] [(.int (u5 >>> ((2 : Int32) &&& 31)))])) (fun tT_ kK_ => XS.ishr X170.here hx rfl (hb hby at_120) rfl kK_) ?_
  refine own_stW (A := T170.setTop (mkF mM 122 #[.val (.int u0), .val (.int u1), .val (.int u2), .val (.int u3), .val (.int u4), .val (.int u5), .val (.int x0), .val (.int x1), .val (.int y0), .val (.int y1), .val (.int (0 : Int32)), .val (.int (1 : Int32)), .val (.ref p167), .val (.ref p168), .val (.ref b169), .unset, .unset, .unset] [(.int (3 : Int32)), (.int (u5 >>> ((2 : Int32) &&& 31)))])) (fun tT_ kK_ => XS.iconst X170.here hx rfl (hb hby at_121) kK_) ?_
  refine own_stW (A := T170.setTop (mkF mM 123 #[.val (.int u0), .val (.int u1), .val (.int u2), .val (.int u3), .val (.int u4), .val (.int u5), .val (.int x0), .val (.int x1), .val (.int y0), .val (.int y1), .val (.int (0 : Int32)), .val (.int (1 : Int32)), .val (.ref p167), .val (.ref p168), .val (.ref b169), .unset, .unset, .unset] [(.int ((u5 >>> ((2 : Int32) &&& 31)) &&& (3 : Int32)))])) (fun tT_ kK_ => XS.iand X170.here hx rfl (hb hby at_122) rfl kK_) ?_
  refine own_stW (A := T170.setTop (mkF mM 125 #[.val (.int u0), .val (.int u1), .val (.int u2), .val (.int u3), .val (.int u4), .val (.int u5), .val (.int x0), .val (.int x1), .val (.int y0), .val (.int y1), .val (.int (0 : Int32)), .val (.int (1 : Int32)), .val (.ref p167), .val (.ref p168), .val (.ref b169), .val (.int ((u5 >>> ((2 : Int32) &&& 31)) &&& (3 : Int32))), .unset, .unset] [])) (fun tT_ kK_ => XS.istore X170.here hx rfl (hb hby at_123) rfl (l' := #[.val (.int u0), .val (.int u1), .val (.int u2), .val (.int u3), .val (.int u4), .val (.int u5), .val (.int x0), .val (.int x1), .val (.int y0), .val (.int y1), .val (.int (0 : Int32)), .val (.int (1 : Int32)), .val (.ref p167), .val (.ref p168), .val (.ref b169), .val (.int ((u5 >>> ((2 : Int32) &&& 31)) &&& (3 : Int32))), .unset, .unset]) rfl kK_) ?_
  refine own_stW (A := T170.setTop (mkF mM 127 #[.val (.int u0), .val (.int u1), .val (.int u2), .val (.int u3), .val (.int u4), .val (.int u5), .val (.int x0), .val (.int x1), .val (.int y0), .val (.int y1), .val (.int (0 : Int32)), .val (.int (1 : Int32)), .val (.ref p167), .val (.ref p168), .val (.ref b169), .val (.int ((u5 >>> ((2 : Int32) &&& 31)) &&& (3 : Int32))), .unset, .unset] [(.int ((u5 >>> ((2 : Int32) &&& 31)) &&& (3 : Int32)))])) (fun tT_ kK_ => XS.iload X170.here hx rfl (hb hby at_125) rfl kK_) ?_
  by_cases hc127_171 : ((u5 >>> ((2 : Int32) &&& 31)) &&& (3 : Int32)) = (0 : Int32)
  · skip
    refine own_stW (A := T170.setTop (mkF mM 130 #[.val (.int u0), .val (.int u1), .val (.int u2), .val (.int u3), .val (.int u4), .val (.int u5), .val (.int x0), .val (.int x1), .val (.int y0), .val (.int y1), .val (.int (0 : Int32)), .val (.int (1 : Int32)), .val (.ref p167), .val (.ref p168), .val (.ref b169), .val (.int ((u5 >>> ((2 : Int32) &&& 31)) &&& (3 : Int32))), .unset, .unset] [])) (fun tT_ kK_ => XS.ifNo X170.here hx rfl (hb hby at_127) rfl ((if0 _ _).trans (teq hc127_171).2) kK_) ?_
    obtain ⟨T172, h172, X172, e172, E172, A172, D172, -, st172⟩ := newO X170 hx hZ hown (hw _ (List.mem_of_getElem? (i := 34) rfl)) (hw _ (List.mem_of_getElem? (i := 35) rfl)) (hw _ (List.mem_of_getElem? (i := 36) rfl)) e170 (g := (mkF mM 130 #[.val (.int u0), .val (.int u1), .val (.int u2), .val (.int u3), .val (.int u4), .val (.int u5), .val (.int x0), .val (.int x1), .val (.int y0), .val (.int y1), .val (.int (0 : Int32)), .val (.int (1 : Int32)), .val (.ref p167), .val (.ref p168), .val (.ref b169), .val (.int ((u5 >>> ((2 : Int32) &&& 31)) &&& (3 : Int32))), .unset, .unset] [])) rfl (hb hby at_130) (by decide) (by decide)
    obtain ⟨b172, g172⟩ : ∃ z, z = T170.heap.size := ⟨_, rfl⟩
    rw [← g172] at A172 D172 st172
    have ne_b169_b172 : b169 ≠ b172 := Nat.ne_of_lt (Nat.lt_of_lt_of_le ra.1.lt (Nat.le_of_eq g172.symm))
    have g_b172 : n0 ≤ b172 := Nat.le_trans Zn (Nat.le_of_eq g172.symm)
    have sa := own_Str_ext sa E172
    have sb := own_Str_ext sb E172
    have ra := own_Rol_ext ra E172
    have O := O.ext E172
    have hk := Nat.le_trans hk E172.1
    have Zn := Nat.le_trans Zn E172.1
    have E_b172 := A172
    have F_b172_name : Fld Z h172 b172 "com/example/upfront_duty/upfrontduty/algebra/Role" "name" "Ljava/lang/String;" .null := D172 (Or.inr (hw _ (List.mem_of_getElem? (i := 54) rfl))) (ty := (.object "java/lang/String")) (by decide)
    refine own_stW (A := T172.setTop (mkF mM 133 #[.val (.int u0), .val (.int u1), .val (.int u2), .val (.int u3), .val (.int u4), .val (.int u5), .val (.int x0), .val (.int x1), .val (.int y0), .val (.int y1), .val (.int (0 : Int32)), .val (.int (1 : Int32)), .val (.ref p167), .val (.ref p168), .val (.ref b169), .val (.int ((u5 >>> ((2 : Int32) &&& 31)) &&& (3 : Int32))), .unset, .unset] [(.ref b172)])) (fun tT_ kK_ => st172 tT_ kK_) ?_
    refine own_stW (A := T172.setTop (mkF mM 134 #[.val (.int u0), .val (.int u1), .val (.int u2), .val (.int u3), .val (.int u4), .val (.int u5), .val (.int x0), .val (.int x1), .val (.int y0), .val (.int y1), .val (.int (0 : Int32)), .val (.int (1 : Int32)), .val (.ref p167), .val (.ref p168), .val (.ref b169), .val (.int ((u5 >>> ((2 : Int32) &&& 31)) &&& (3 : Int32))), .unset, .unset] [(.ref b172), (.ref b172)])) (fun tT_ kK_ => XS.dup X172.here hx rfl (hb hby at_133) rfl rfl kK_) ?_
    refine own_stW (A := T172.setTop (mkF mM 136 #[.val (.int u0), .val (.int u1), .val (.int u2), .val (.int u3), .val (.int u4), .val (.int u5), .val (.int x0), .val (.int x1), .val (.int y0), .val (.int y1), .val (.int (0 : Int32)), .val (.int (1 : Int32)), .val (.ref p167), .val (.ref p168), .val (.ref b169), .val (.int ((u5 >>> ((2 : Int32) &&& 31)) &&& (3 : Int32))), .unset, .unset] [(.ref p168), (.ref b172), (.ref b172)])) (fun tT_ kK_ => XS.aload X172.here hx rfl (hb hby at_134) rfl rfl kK_) ?_
    obtain ⟨_, _, ⟨T173, L173, k173, n173⟩, -, X173, hS173, hg173, ⟨Lc173, hQ173, l173, y173, z173⟩, st173⟩ := X172.specialBackS hx (y := (⟨"com/example/upfront_duty/upfrontduty/algebra/Role", "<init>", "(Ljava/lang/String;)V"⟩ : MethodName)) rfl hown (mvT hZ (hw _ (List.mem_of_getElem? (i := 37) rfl))) (mvT hZ (hw _ (List.mem_of_getElem? (i := 38) rfl))) (mvT hZ (hw _ (List.mem_of_getElem? (i := 39) rfl))) (by decide) (backOfS (W := 1) (rmRI2 lL Z a0 hw [] b172 p168 d168 k168' y0 y1 h172 n0 g_b172 E_b172 F_b172_name sb (Exa.ne sb.1 E_b172 (by decide)) (Exa.neArv E_b172 sb.2.2.2 (hw _ (List.mem_of_getElem? (i := 35) rfl))).symm) hZ (hw _ (List.mem_of_getElem? (i := 39) rfl)) (hw _ (List.mem_of_getElem? (i := 36) rfl)) (by decide) (by decide)) (g := (mkF mM 136 #[.val (.int u0), .val (.int u1), .val (.int u2), .val (.int u3), .val (.int u4), .val (.int u5), .val (.int x0), .val (.int x1), .val (.int y0), .val (.int y1), .val (.int (0 : Int32)), .val (.int (1 : Int32)), .val (.ref p167), .val (.ref p168), .val (.ref b169), .val (.int ((u5 >>> ((2 : Int32) &&& 31)) &&& (3 : Int32))), .unset, .unset] [(.ref p168), (.ref b172), (.ref b172)])) rfl (by rw [hml]; rfl) (Steps.refl _) (a := b172) (argsL := [(.ref p168)]) (rest := [(.ref b172)]) (lenOf pd__28Ljava_2flang_2fString_3b_29V rfl) rfl (by show 2 * 0 + _ ≤ _; exact Nat.le_of_eq rfl) (hb hby at_136) (fun _ _ => ⟨rfl, e172, (by decide : 10 + 2 ≤ _), (by decide : 36 + 20 ≤ _)⟩)
    dsimp only [Pt.U, Pt.locs, Pt.cells, Pt.slots] at X173 l173 y173 z173 st173 hQ173 hS173 hg173
    subst l173 y173 z173
    obtain ⟨rfl, N173q, K173, x173, y173⟩ := hQ173
    have N173 := Fr.app N170 N173q
    rw [e172] at hg173
    have hZ := own_wideZ hZ hS173
    have hown := own_wideO hown hS173
    have hS := hS.trans hS173 (Nat.le_trans hk hg173)
    have hk : T173.heap.size ≤ T173.heap.size := Nat.le_refl _
    have X173 : Stand pP lL eE room_1 (sS.setVm T173.vm) mM args below meth cC T173 _ 12 56 := X173
    have e173 : T173.heap = T173.heap := rfl
    refine own_stW (A := T173.setTop (mkF mM 139 #[.val (.int u0), .val (.int u1), .val (.int u2), .val (.int u3), .val (.int u4), .val (.int u5), .val (.int x0), .val (.int x1), .val (.int y0), .val (.int y1), .val (.int (0 : Int32)), .val (.int (1 : Int32)), .val (.ref p167), .val (.ref p168), .val (.ref b169), .val (.int ((u5 >>> ((2 : Int32) &&& 31)) &&& (3 : Int32))), .unset, .unset] [(.ref b172)])) (fun tT_ kK_ => st173.trans kK_) ?_
    have sa := own_Str_keep sa K173 (ninS (Exa.ne sa.1 E_b172 (by decide)) nin0) (ninS (Exa.neArv E_b172 sa.2.2.2 (hw _ (List.mem_of_getElem? (i := 35) rfl))).symm nin0)
    have sb := own_Str_keep sb K173 (ninS (Exa.ne sb.1 E_b172 (by decide)) nin0) (ninS (Exa.neArv E_b172 sb.2.2.2 (hw _ (List.mem_of_getElem? (i := 35) rfl))).symm nin0)
    have ra := own_Rol_keep ra K173 (ninS ne_b169_b172 nin0)
    have E_b172 := E_b172.keep K173
    have O := O.keep K173 (allS g_b172 all0)
    have Zn := Nat.le_trans Zn K173.1
    have rb : Rol Z _ _ _ := ⟨x173, y173⟩
    refine own_stW (A := T173.setTop (mkF mM 141 #[.val (.int u0), .val (.int u1), .val (.int u2), .val (.int u3), .val (.int u4), .val (.int u5), .val (.int x0), .val (.int x1), .val (.int y0), .val (.int y1), .val (.int (0 : Int32)), .val (.int (1 : Int32)), .val (.ref p167), .val (.ref p168), .val (.ref b169), .val (.int ((u5 >>> ((2 : Int32) &&& 31)) &&& (3 : Int32))), .val (.ref b172), .unset] [])) (fun tT_ kK_ => XS.astore X173.here hx rfl (hb hby at_139) rfl rfl (l' := #[.val (.int u0), .val (.int u1), .val (.int u2), .val (.int u3), .val (.int u4), .val (.int u5), .val (.int x0), .val (.int x1), .val (.int y0), .val (.int y1), .val (.int (0 : Int32)), .val (.int (1 : Int32)), .val (.ref p167), .val (.ref p168), .val (.ref b169), .val (.int ((u5 >>> ((2 : Int32) &&& 31)) &&& (3 : Int32))), .val (.ref b172), .unset]) rfl kK_) ?_
    refine own_stW (A := T173.setTop (mkF mM 143 #[.val (.int u0), .val (.int u1), .val (.int u2), .val (.int u3), .val (.int u4), .val (.int u5), .val (.int x0), .val (.int x1), .val (.int y0), .val (.int y1), .val (.int (0 : Int32)), .val (.int (1 : Int32)), .val (.ref p167), .val (.ref p168), .val (.ref b169), .val (.int ((u5 >>> ((2 : Int32) &&& 31)) &&& (3 : Int32))), .val (.ref b172), .unset] [(.int (0 : Int32))])) (fun tT_ kK_ => XS.iload X173.here hx rfl (hb hby at_141) rfl kK_) ?_
    refine own_stW (A := T173.setTop (mkF mM 145 #[.val (.int u0), .val (.int u1), .val (.int u2), .val (.int u3), .val (.int u4), .val (.int u5), .val (.int x0), .val (.int x1), .val (.int y0), .val (.int y1), .val (.int (0 : Int32)), .val (.int (1 : Int32)), .val (.ref p167), .val (.ref p168), .val (.ref b169), .val (.int ((u5 >>> ((2 : Int32) &&& 31)) &&& (3 : Int32))), .val (.ref b172), .unset] [(.int (1 : Int32)), (.int (0 : Int32))])) (fun tT_ kK_ => XS.iload X173.here hx rfl (hb hby at_143) rfl kK_) ?_
    refine own_stW (A := T173.setTop (mkF mM 171 #[.val (.int u0), .val (.int u1), .val (.int u2), .val (.int u3), .val (.int u4), .val (.int u5), .val (.int x0), .val (.int x1), .val (.int y0), .val (.int y1), .val (.int (0 : Int32)), .val (.int (1 : Int32)), .val (.ref p167), .val (.ref p168), .val (.ref b169), .val (.int ((u5 >>> ((2 : Int32) &&& 31)) &&& (3 : Int32))), .val (.ref b172), .unset] [])) (fun tT_ kK_ => XS.icmpYes X173.here hx rfl (pc0 := 145) (pc' := 171) rfl (hb hby at_145) rfl (feq (by decide : ¬ ((0 : Int32) = (1 : Int32)))).2 (by decide) (by decide) kK_) ?_
    refine own_stW (A := T173.setTop (mkF mM 172 #[.val (.int u0), .val (.int u1), .val (.int u2), .val (.int u3), .val (.int u4), .val (.int u5), .val (.int x0), .val (.int x1), .val (.int y0), .val (.int y1), .val (.int (0 : Int32)), .val (.int (1 : Int32)), .val (.ref p167), .val (.ref p168), .val (.ref b169), .val (.int ((u5 >>> ((2 : Int32) &&& 31)) &&& (3 : Int32))), .val (.ref b172), .unset] [(.int (0 : Int32))])) (fun tT_ kK_ => XS.iconst X173.here hx rfl (hb hby at_171) kK_) ?_
    refine own_stW (A := T173.setTop (mkF mM 174 #[.val (.int u0), .val (.int u1), .val (.int u2), .val (.int u3), .val (.int u4), .val (.int u5), .val (.int x0), .val (.int x1), .val (.int y0), .val (.int y1), .val (.int (0 : Int32)), .val (.int (1 : Int32)), .val (.ref p167), .val (.ref p168), .val (.ref b169), .val (.int ((u5 >>> ((2 : Int32) &&& 31)) &&& (3 : Int32))), .val (.ref b172), .val (.int (0 : Int32))] [])) (fun tT_ kK_ => XS.istore X173.here hx rfl (hb hby at_172) rfl (l' := #[.val (.int u0), .val (.int u1), .val (.int u2), .val (.int u3), .val (.int u4), .val (.int u5), .val (.int x0), .val (.int x1), .val (.int y0), .val (.int y1), .val (.int (0 : Int32)), .val (.int (1 : Int32)), .val (.ref p167), .val (.ref p168), .val (.ref b169), .val (.int ((u5 >>> ((2 : Int32) &&& 31)) &&& (3 : Int32))), .val (.ref b172), .val (.int (0 : Int32))]) rfl kK_) ?_
    refine own_stW (A := T173.setTop (mkF mM 176 #[.val (.int u0), .val (.int u1), .val (.int u2), .val (.int u3), .val (.int u4), .val (.int u5), .val (.int x0), .val (.int x1), .val (.int y0), .val (.int y1), .val (.int (0 : Int32)), .val (.int (1 : Int32)), .val (.ref p167), .val (.ref p168), .val (.ref b169), .val (.int ((u5 >>> ((2 : Int32) &&& 31)) &&& (3 : Int32))), .val (.ref b172), .val (.int (0 : Int32))] [(.ref b169)])) (fun tT_ kK_ => XS.aload X173.here hx rfl (hb hby at_174) rfl rfl kK_) ?_
    refine own_stW (A := T173.setTop (mkF mM 178 #[.val (.int u0), .val (.int u1), .val (.int u2), .val (.int u3), .val (.int u4), .val (.int u5), .val (.int x0), .val (.int x1), .val (.int y0), .val (.int y1), .val (.int (0 : Int32)), .val (.int (1 : Int32)), .val (.ref p167), .val (.ref p168), .val (.ref b169), .val (.int ((u5 >>> ((2 : Int32) &&& 31)) &&& (3 : Int32))), .val (.ref b172), .val (.int (0 : Int32))] [(.ref b172), (.ref b169)])) (fun tT_ kK_ => XS.aload X173.here hx rfl (hb hby at_176) rfl rfl kK_) ?_
    obtain ⟨cq174, kq174, q174a, q174b, q174c⟩ := isOf hZ e173 ra.1
    obtain ⟨_, _, ⟨T174, L174, k174, n174⟩, -, X174, ⟨Lc174, hQ174, l174, y174, z174⟩, st174⟩ := X173.virtualBack hx (y := (⟨"com/example/upfront_duty/upfrontduty/algebra/Role", "equals", "(Ljava/lang/Object;)Z"⟩ : MethodName)) (z := (⟨"com/example/upfront_duty/upfrontduty/algebra/Role", "equals", "(Ljava/lang/Object;)Z"⟩ : MethodName)) hown (mvT hZ (hw _ (List.mem_of_getElem? (i := 55) rfl))) (mvT hZ (hw _ (List.mem_of_getElem? (i := 56) rfl))) (notFace_of_selects (args := #[]) (mvT hZ (hw _ (List.mem_of_getElem? (i := 58) rfl)))) (mvT hZ (hw _ (List.mem_of_getElem? (i := 58) rfl))) (mvT hZ (hw _ (List.mem_of_getElem? (i := 57) rfl))) (by decide) (backOf (W := 0) (rmRE12 lL Z a0 hw [] b169 b172 p167 d167 k167' p168 d168 k168' cs x0 y0 y1 0 T173.heap n0 ra rb sa sb nss (S_cs.ext O.2) hcs cx0 cy0 cy1 rfl (Or.inl rfl)) hZ (hw _ (List.mem_of_getElem? (i := 59) rfl)) (hw _ (List.mem_of_getElem? (i := 36) rfl)) (by decide) (by decide)) q174a q174c (g := (mkF mM 178 #[.val (.int u0), .val (.int u1), .val (.int u2), .val (.int u3), .val (.int u4), .val (.int u5), .val (.int x0), .val (.int x1), .val (.int y0), .val (.int y1), .val (.int (0 : Int32)), .val (.int (1 : Int32)), .val (.ref p167), .val (.ref p168), .val (.ref b169), .val (.int ((u5 >>> ((2 : Int32) &&& 31)) &&& (3 : Int32))), .val (.ref b172), .val (.int (0 : Int32))] [(.ref b172), (.ref b169)])) rfl (by rw [hml]; rfl) (Steps.refl _) (argsL := [(.ref b172)]) (rest := []) (lenOf pd__28Ljava_2flang_2fObject_3b_29Z rfl) rfl (by show 2 * 0 + _ ≤ _; exact Nat.le_of_eq rfl) (hb hby at_178) (fun _ _ => ⟨rfl, e173, (by decide : 12 + 0 ≤ _), (by decide : 56 + 0 ≤ _)⟩)
    dsimp only [Pt.U, Pt.locs, Pt.cells, Pt.slots] at X174 l174 y174 z174 st174 hQ174
    subst l174 y174 z174
    obtain ⟨rfl, N174q, e174⟩ := hQ174
    have N174 := Fr.app N173 N174q
    refine own_stW (A := T174.setTop (mkF mM 181 #[.val (.int u0), .val (.int u1), .val (.int u2), .val (.int u3), .val (.int u4), .val (.int u5), .val (.int x0), .val (.int x1), .val (.int y0), .val (.int y1), .val (.int (0 : Int32)), .val (.int (1 : Int32)), .val (.ref p167), .val (.ref p168), .val (.ref b169), .val (.int ((u5 >>> ((2 : Int32) &&& 31)) &&& (3 : Int32))), .val (.ref b172), .val (.int (0 : Int32))] [(.int (0 : Int32))])) (fun tT_ kK_ => st174.trans kK_) ?_
    refine own_stW (A := T174.setTop (mkF mM 183 #[.val (.int u0), .val (.int u1), .val (.int u2), .val (.int u3), .val (.int u4), .val (.int u5), .val (.int x0), .val (.int x1), .val (.int y0), .val (.int y1), .val (.int (0 : Int32)), .val (.int (1 : Int32)), .val (.ref p167), .val (.ref p168), .val (.ref b169), .val (.int ((u5 >>> ((2 : Int32) &&& 31)) &&& (3 : Int32))), .val (.ref b172), .val (.int (0 : Int32))] [(.int (0 : Int32)), (.int (0 : Int32))])) (fun tT_ kK_ => XS.iload X174.here hx rfl (hb hby at_181) rfl kK_) ?_
    refine own_stW (A := T174.setTop (mkF mM 186 #[.val (.int u0), .val (.int u1), .val (.int u2), .val (.int u3), .val (.int u4), .val (.int u5), .val (.int x0), .val (.int x1), .val (.int y0), .val (.int y1), .val (.int (0 : Int32)), .val (.int (1 : Int32)), .val (.ref p167), .val (.ref p168), .val (.ref b169), .val (.int ((u5 >>> ((2 : Int32) &&& 31)) &&& (3 : Int32))), .val (.ref b172), .val (.int (0 : Int32))] [])) (fun tT_ kK_ => XS.icmpNo X174.here hx rfl (hb hby at_183) rfl (teq (by decide : ((0 : Int32) = (0 : Int32)))).2 kK_) ?_
    refine own_stW (A := T174.setTop (mkF mM 188 #[.val (.int u0), .val (.int u1), .val (.int u2), .val (.int u3), .val (.int u4), .val (.int u5), .val (.int x0), .val (.int x1), .val (.int y0), .val (.int y1), .val (.int (0 : Int32)), .val (.int (1 : Int32)), .val (.ref p167), .val (.ref p168), .val (.ref b169), .val (.int ((u5 >>> ((2 : Int32) &&& 31)) &&& (3 : Int32))), .val (.ref b172), .val (.int (0 : Int32))] [(.ref b172)])) (fun tT_ kK_ => XS.aload X174.here hx rfl (hb hby at_186) rfl rfl kK_) ?_
    refine own_stW (A := T174.setTop (mkF mM 190 #[.val (.int u0), .val (.int u1), .val (.int u2), .val (.int u3), .val (.int u4), .val (.int u5), .val (.int x0), .val (.int x1), .val (.int y0), .val (.int y1), .val (.int (0 : Int32)), .val (.int (1 : Int32)), .val (.ref p167), .val (.ref p168), .val (.ref b169), .val (.int ((u5 >>> ((2 : Int32) &&& 31)) &&& (3 : Int32))), .val (.ref b172), .val (.int (0 : Int32))] [(.ref b169), (.ref b172)])) (fun tT_ kK_ => XS.aload X174.here hx rfl (hb hby at_188) rfl rfl kK_) ?_
    obtain ⟨cq175, kq175, q175a, q175b, q175c⟩ := isOf hZ e174 rb.1
    obtain ⟨_, _, ⟨T175, L175, k175, n175⟩, -, X175, ⟨Lc175, hQ175, l175, y175, z175⟩, st175⟩ := X174.virtualBack hx (y := (⟨"com/example/upfront_duty/upfrontduty/algebra/Role", "equals", "(Ljava/lang/Object;)Z"⟩ : MethodName)) (z := (⟨"com/example/upfront_duty/upfrontduty/algebra/Role", "equals", "(Ljava/lang/Object;)Z"⟩ : MethodName)) hown (mvT hZ (hw _ (List.mem_of_getElem? (i := 55) rfl))) (mvT hZ (hw _ (List.mem_of_getElem? (i := 56) rfl))) (notFace_of_selects (args := #[]) (mvT hZ (hw _ (List.mem_of_getElem? (i := 58) rfl)))) (mvT hZ (hw _ (List.mem_of_getElem? (i := 58) rfl))) (mvT hZ (hw _ (List.mem_of_getElem? (i := 57) rfl))) (by decide) (backOf (W := 0) (rmRE21 lL Z a0 hw [] b172 b169 p168 d168 k168' p167 d167 k167' cs y0 y1 x0 0 T173.heap n0 rb ra sb sa nss.symm (S_cs.ext O.2) hcs cy0 cy1 cx0 rfl (Or.inl rfl)) hZ (hw _ (List.mem_of_getElem? (i := 59) rfl)) (hw _ (List.mem_of_getElem? (i := 36) rfl)) (by decide) (by decide)) q175a q175c (g := (mkF mM 190 #[.val (.int u0), .val (.int u1), .val (.int u2), .val (.int u3), .val (.int u4), .val (.int u5), .val (.int x0), .val (.int x1), .val (.int y0), .val (.int y1), .val (.int (0 : Int32)), .val (.int (1 : Int32)), .val (.ref p167), .val (.ref p168), .val (.ref b169), .val (.int ((u5 >>> ((2 : Int32) &&& 31)) &&& (3 : Int32))), .val (.ref b172), .val (.int (0 : Int32))] [(.ref b169), (.ref b172)])) rfl (by rw [hml]; rfl) (Steps.refl _) (argsL := [(.ref b169)]) (rest := []) (lenOf pd__28Ljava_2flang_2fObject_3b_29Z rfl) rfl (by show 2 * 0 + _ ≤ _; exact Nat.le_of_eq rfl) (hb hby at_190) (fun _ _ => ⟨rfl, e174, (by decide : 12 + 0 ≤ _), (by decide : 56 + 0 ≤ _)⟩)
    dsimp only [Pt.U, Pt.locs, Pt.cells, Pt.slots] at X175 l175 y175 z175 st175 hQ175
    subst l175 y175 z175
    obtain ⟨rfl, N175q, e175⟩ := hQ175
    have N175 := Fr.app N174 N175q
    refine own_stW (A := T175.setTop (mkF mM 193 #[.val (.int u0), .val (.int u1), .val (.int u2), .val (.int u3), .val (.int u4), .val (.int u5), .val (.int x0), .val (.int x1), .val (.int y0), .val (.int y1), .val (.int (0 : Int32)), .val (.int (1 : Int32)), .val (.ref p167), .val (.ref p168), .val (.ref b169), .val (.int ((u5 >>> ((2 : Int32) &&& 31)) &&& (3 : Int32))), .val (.ref b172), .val (.int (0 : Int32))] [(.int (0 : Int32))])) (fun tT_ kK_ => st175.trans kK_) ?_
    refine own_stW (A := T175.setTop (mkF mM 195 #[.val (.int u0), .val (.int u1), .val (.int u2), .val (.int u3), .val (.int u4), .val (.int u5), .val (.int x0), .val (.int x1), .val (.int y0), .val (.int y1), .val (.int (0 : Int32)), .val (.int (1 : Int32)), .val (.ref p167), .val (.ref p168), .val (.ref b169), .val (.int ((u5 >>> ((2 : Int32) &&& 31)) &&& (3 : Int32))), .val (.ref b172), .val (.int (0 : Int32))] [(.int (0 : Int32)), (.int (0 : Int32))])) (fun tT_ kK_ => XS.iload X175.here hx rfl (hb hby at_193) rfl kK_) ?_
    refine own_stW (A := T175.setTop (mkF mM 198 #[.val (.int u0), .val (.int u1), .val (.int u2), .val (.int u3), .val (.int u4), .val (.int u5), .val (.int x0), .val (.int x1), .val (.int y0), .val (.int y1), .val (.int (0 : Int32)), .val (.int (1 : Int32)), .val (.ref p167), .val (.ref p168), .val (.ref b169), .val (.int ((u5 >>> ((2 : Int32) &&& 31)) &&& (3 : Int32))), .val (.ref b172), .val (.int (0 : Int32))] [])) (fun tT_ kK_ => XS.icmpNo X175.here hx rfl (hb hby at_195) rfl (teq (by decide : ((0 : Int32) = (0 : Int32)))).2 kK_) ?_
    refine own_stW (A := T175.setTop (mkF mM 200 #[.val (.int u0), .val (.int u1), .val (.int u2), .val (.int u3), .val (.int u4), .val (.int u5), .val (.int x0), .val (.int x1), .val (.int y0), .val (.int y1), .val (.int (0 : Int32)), .val (.int (1 : Int32)), .val (.ref p167), .val (.ref p168), .val (.ref b169), .val (.int ((u5 >>> ((2 : Int32) &&& 31)) &&& (3 : Int32))), .val (.ref b172), .val (.int (0 : Int32))] [(.ref b169)])) (fun tT_ kK_ => XS.aload X175.here hx rfl (hb hby at_198) rfl rfl kK_) ?_
    refine own_stW (A := T175.setTop (mkF mM 202 #[.val (.int u0), .val (.int u1), .val (.int u2), .val (.int u3), .val (.int u4), .val (.int u5), .val (.int x0), .val (.int x1), .val (.int y0), .val (.int y1), .val (.int (0 : Int32)), .val (.int (1 : Int32)), .val (.ref p167), .val (.ref p168), .val (.ref b169), .val (.int ((u5 >>> ((2 : Int32) &&& 31)) &&& (3 : Int32))), .val (.ref b172), .val (.int (0 : Int32))] [(.ref b169), (.ref b169)])) (fun tT_ kK_ => XS.aload X175.here hx rfl (hb hby at_200) rfl rfl kK_) ?_
    obtain ⟨cq176, kq176, q176a, q176b, q176c⟩ := isOf hZ e175 ra.1
    obtain ⟨_, _, ⟨T176, L176, k176, n176⟩, -, X176, ⟨Lc176, hQ176, l176, y176, z176⟩, st176⟩ := X175.virtualBack hx (y := (⟨"com/example/upfront_duty/upfrontduty/algebra/Role", "equals", "(Ljava/lang/Object;)Z"⟩ : MethodName)) (z := (⟨"com/example/upfront_duty/upfrontduty/algebra/Role", "equals", "(Ljava/lang/Object;)Z"⟩ : MethodName)) hown (mvT hZ (hw _ (List.mem_of_getElem? (i := 55) rfl))) (mvT hZ (hw _ (List.mem_of_getElem? (i := 56) rfl))) (notFace_of_selects (args := #[]) (mvT hZ (hw _ (List.mem_of_getElem? (i := 58) rfl)))) (mvT hZ (hw _ (List.mem_of_getElem? (i := 58) rfl))) (mvT hZ (hw _ (List.mem_of_getElem? (i := 57) rfl))) (by decide) (backOf (W := 0) (rmREs lL Z a0 hw [] b169 p167 T173.heap n0 ra sa.1) hZ (hw _ (List.mem_of_getElem? (i := 59) rfl)) (hw _ (List.mem_of_getElem? (i := 36) rfl)) (by decide) (by decide)) q176a q176c (g := (mkF mM 202 #[.val (.int u0), .val (.int u1), .val (.int u2), .val (.int u3), .val (.int u4), .val (.int u5), .val (.int x0), .val (.int x1), .val (.int y0), .val (.int y1), .val (.int (0 : Int32)), .val (.int (1 : Int32)), .val (.ref p167), .val (.ref p168), .val (.ref b169), .val (.int ((u5 >>> ((2 : Int32) &&& 31)) &&& (3 : Int32))), .val (.ref b172), .val (.int (0 : Int32))] [(.ref b169), (.ref b169)])) rfl (by rw [hml]; rfl) (Steps.refl _) (argsL := [(.ref b169)]) (rest := []) (lenOf pd__28Ljava_2flang_2fObject_3b_29Z rfl) rfl (by show 2 * 0 + _ ≤ _; exact Nat.le_of_eq rfl) (hb hby at_202) (fun _ _ => ⟨rfl, e175, (by decide : 12 + 0 ≤ _), (by decide : 56 + 0 ≤ _)⟩)
    dsimp only [Pt.U, Pt.locs, Pt.cells, Pt.slots] at X176 l176 y176 z176 st176 hQ176
    subst l176 y176 z176
    obtain ⟨rfl, N176q, e176⟩ := hQ176
    have N176 := Fr.app N175 N176q
    refine own_stW (A := T176.setTop (mkF mM 205 #[.val (.int u0), .val (.int u1), .val (.int u2), .val (.int u3), .val (.int u4), .val (.int u5), .val (.int x0), .val (.int x1), .val (.int y0), .val (.int y1), .val (.int (0 : Int32)), .val (.int (1 : Int32)), .val (.ref p167), .val (.ref p168), .val (.ref b169), .val (.int ((u5 >>> ((2 : Int32) &&& 31)) &&& (3 : Int32))), .val (.ref b172), .val (.int (0 : Int32))] [(.int (1 : Int32))])) (fun tT_ kK_ => st176.trans kK_) ?_
    refine own_stW (A := T176.setTop (mkF mM 208 #[.val (.int u0), .val (.int u1), .val (.int u2), .val (.int u3), .val (.int u4), .val (.int u5), .val (.int x0), .val (.int x1), .val (.int y0), .val (.int y1), .val (.int (0 : Int32)), .val (.int (1 : Int32)), .val (.ref p167), .val (.ref p168), .val (.ref b169), .val (.int ((u5 >>> ((2 : Int32) &&& 31)) &&& (3 : Int32))), .val (.ref b172), .val (.int (0 : Int32))] [])) (fun tT_ kK_ => XS.ifNo X176.here hx rfl (hb hby at_205) rfl ((if0 _ _).trans (feq (by decide : ¬ ((1 : Int32) = (0 : Int32)))).1) kK_) ?_
    refine own_stW (A := T176.setTop (mkF mM 209 #[.val (.int u0), .val (.int u1), .val (.int u2), .val (.int u3), .val (.int u4), .val (.int u5), .val (.int x0), .val (.int x1), .val (.int y0), .val (.int y1), .val (.int (0 : Int32)), .val (.int (1 : Int32)), .val (.ref p167), .val (.ref p168), .val (.ref b169), .val (.int ((u5 >>> ((2 : Int32) &&& 31)) &&& (3 : Int32))), .val (.ref b172), .val (.int (0 : Int32))] [(.int (1 : Int32))])) (fun tT_ kK_ => XS.iconst X176.here hx rfl (hb hby at_208) kK_) ?_
    refine own_stW (A := T176.setTop (mkF mM 213 #[.val (.int u0), .val (.int u1), .val (.int u2), .val (.int u3), .val (.int u4), .val (.int u5), .val (.int x0), .val (.int x1), .val (.int y0), .val (.int y1), .val (.int (0 : Int32)), .val (.int (1 : Int32)), .val (.ref p167), .val (.ref p168), .val (.ref b169), .val (.int ((u5 >>> ((2 : Int32) &&& 31)) &&& (3 : Int32))), .val (.ref b172), .val (.int (0 : Int32))] [(.int (1 : Int32))])) (fun tT_ kK_ => XS.goto X176.here hx rfl (pc0 := 209) (pc' := 213) rfl (hb hby at_209) (by decide) (by decide) kK_) ?_
    exact own_retWN X176 hx hlk hS (by rw [e176]; exact hk) (t := .boolean) hret (by simp) (hb hby at_213) ⟨rfl, N176⟩ (by decide) (by decide)
  · skip
    refine own_stW (A := T170.setTop (mkF mM 214 #[.val (.int u0), .val (.int u1), .val (.int u2), .val (.int u3), .val (.int u4), .val (.int u5), .val (.int x0), .val (.int x1), .val (.int y0), .val (.int y1), .val (.int (0 : Int32)), .val (.int (1 : Int32)), .val (.ref p167), .val (.ref p168), .val (.ref b169), .val (.int ((u5 >>> ((2 : Int32) &&& 31)) &&& (3 : Int32))), .unset, .unset] [])) (fun tT_ kK_ => XS.ifYes X170.here hx rfl (pc0 := 127) (pc' := 214) rfl (hb hby at_127) rfl ((if0 _ _).trans (feq hc127_171).2) (by decide) (by decide) kK_) ?_
    refine own_stW (A := T170.setTop (mkF mM 216 #[.val (.int u0), .val (.int u1), .val (.int u2), .val (.int u3), .val (.int u4), .val (.int u5), .val (.int x0), .val (.int x1), .val (.int y0), .val (.int y1), .val (.int (0 : Int32)), .val (.int (1 : Int32)), .val (.ref p167), .val (.ref p168), .val (.ref b169), .val (.int ((u5 >>> ((2 : Int32) &&& 31)) &&& (3 : Int32))), .unset, .unset] [(.int ((u5 >>> ((2 : Int32) &&& 31)) &&& (3 : Int32)))])) (fun tT_ kK_ => XS.iload X170.here hx rfl (hb hby at_214) rfl kK_) ?_
    refine own_stW (A := T170.setTop (mkF mM 217 #[.val (.int u0), .val (.int u1), .val (.int u2), .val (.int u3), .val (.int u4), .val (.int u5), .val (.int x0), .val (.int x1), .val (.int y0), .val (.int y1), .val (.int (0 : Int32)), .val (.int (1 : Int32)), .val (.ref p167), .val (.ref p168), .val (.ref b169), .val (.int ((u5 >>> ((2 : Int32) &&& 31)) &&& (3 : Int32))), .unset, .unset] [(.int (1 : Int32)), (.int ((u5 >>> ((2 : Int32) &&& 31)) &&& (3 : Int32)))])) (fun tT_ kK_ => XS.iconst X170.here hx rfl (hb hby at_216) kK_) ?_
    by_cases hc217_177 : ((u5 >>> ((2 : Int32) &&& 31)) &&& (3 : Int32)) = (1 : Int32)
    · skip
      refine own_stW (A := T170.setTop (mkF mM 220 #[.val (.int u0), .val (.int u1), .val (.int u2), .val (.int u3), .val (.int u4), .val (.int u5), .val (.int x0), .val (.int x1), .val (.int y0), .val (.int y1), .val (.int (0 : Int32)), .val (.int (1 : Int32)), .val (.ref p167), .val (.ref p168), .val (.ref b169), .val (.int ((u5 >>> ((2 : Int32) &&& 31)) &&& (3 : Int32))), .unset, .unset] [])) (fun tT_ kK_ => XS.icmpNo X170.here hx rfl (hb hby at_217) rfl (teq hc217_177).2 kK_) ?_
      refine own_stW (A := T170.setTop (mkF mM 222 #[.val (.int u0), .val (.int u1), .val (.int u2), .val (.int u3), .val (.int u4), .val (.int u5), .val (.int x0), .val (.int x1), .val (.int y0), .val (.int y1), .val (.int (0 : Int32)), .val (.int (1 : Int32)), .val (.ref p167), .val (.ref p168), .val (.ref b169), .val (.int ((u5 >>> ((2 : Int32) &&& 31)) &&& (3 : Int32))), .unset, .unset] [(.ref b169)])) (fun tT_ kK_ => XS.aload X170.here hx rfl (hb hby at_220) rfl rfl kK_) ?_
      refine own_stW (A := T170.setTop (mkF mM 223 #[.val (.int u0), .val (.int u1), .val (.int u2), .val (.int u3), .val (.int u4), .val (.int u5), .val (.int x0), .val (.int x1), .val (.int y0), .val (.int y1), .val (.int (0 : Int32)), .val (.int (1 : Int32)), .val (.ref p167), .val (.ref p168), .val (.ref b169), .val (.int ((u5 >>> ((2 : Int32) &&& 31)) &&& (3 : Int32))), .unset, .unset] [.null, (.ref b169)])) (fun tT_ kK_ => XS.aconstNull X170.here hx rfl (hb hby at_222) kK_) ?_
      obtain ⟨cq178, kq178, q178a, q178b, q178c⟩ := isOf hZ e170 ra.1
      obtain ⟨_, _, ⟨T178, L178, k178, n178⟩, -, X178, ⟨Lc178, hQ178, l178, y178, z178⟩, st178⟩ := X170.virtualBack hx (y := (⟨"com/example/upfront_duty/upfrontduty/algebra/Role", "equals", "(Ljava/lang/Object;)Z"⟩ : MethodName)) (z := (⟨"com/example/upfront_duty/upfrontduty/algebra/Role", "equals", "(Ljava/lang/Object;)Z"⟩ : MethodName)) hown (mvT hZ (hw _ (List.mem_of_getElem? (i := 55) rfl))) (mvT hZ (hw _ (List.mem_of_getElem? (i := 56) rfl))) (notFace_of_selects (args := #[]) (mvT hZ (hw _ (List.mem_of_getElem? (i := 58) rfl)))) (mvT hZ (hw _ (List.mem_of_getElem? (i := 58) rfl))) (mvT hZ (hw _ (List.mem_of_getElem? (i := 57) rfl))) (by decide) (backOf (W := 0) (rmREn lL Z a0 hw [] b169 T170.heap n0 ) hZ (hw _ (List.mem_of_getElem? (i := 59) rfl)) (hw _ (List.mem_of_getElem? (i := 36) rfl)) (by decide) (by decide)) q178a q178c (g := (mkF mM 223 #[.val (.int u0), .val (.int u1), .val (.int u2), .val (.int u3), .val (.int u4), .val (.int u5), .val (.int x0), .val (.int x1), .val (.int y0), .val (.int y1), .val (.int (0 : Int32)), .val (.int (1 : Int32)), .val (.ref p167), .val (.ref p168), .val (.ref b169), .val (.int ((u5 >>> ((2 : Int32) &&& 31)) &&& (3 : Int32))), .unset, .unset] [.null, (.ref b169)])) rfl (by rw [hml]; rfl) (Steps.refl _) (argsL := [.null]) (rest := []) (lenOf pd__28Ljava_2flang_2fObject_3b_29Z rfl) rfl (by show 2 * 0 + _ ≤ _; exact Nat.le_of_eq rfl) (hb hby at_223) (fun _ _ => ⟨rfl, e170, (by decide : 9 + 0 ≤ _), (by decide : 35 + 0 ≤ _)⟩)
      dsimp only [Pt.U, Pt.locs, Pt.cells, Pt.slots] at X178 l178 y178 z178 st178 hQ178
      subst l178 y178 z178
      obtain ⟨rfl, N178q, e178⟩ := hQ178
      have N178 := Fr.app N170 N178q
      refine own_stW (A := T178.setTop (mkF mM 226 #[.val (.int u0), .val (.int u1), .val (.int u2), .val (.int u3), .val (.int u4), .val (.int u5), .val (.int x0), .val (.int x1), .val (.int y0), .val (.int y1), .val (.int (0 : Int32)), .val (.int (1 : Int32)), .val (.ref p167), .val (.ref p168), .val (.ref b169), .val (.int ((u5 >>> ((2 : Int32) &&& 31)) &&& (3 : Int32))), .unset, .unset] [(.int (0 : Int32))])) (fun tT_ kK_ => st178.trans kK_) ?_
      refine own_stW (A := T178.setTop (mkF mM 229 #[.val (.int u0), .val (.int u1), .val (.int u2), .val (.int u3), .val (.int u4), .val (.int u5), .val (.int x0), .val (.int x1), .val (.int y0), .val (.int y1), .val (.int (0 : Int32)), .val (.int (1 : Int32)), .val (.ref p167), .val (.ref p168), .val (.ref b169), .val (.int ((u5 >>> ((2 : Int32) &&& 31)) &&& (3 : Int32))), .unset, .unset] [])) (fun tT_ kK_ => XS.ifNo X178.here hx rfl (hb hby at_226) rfl ((if0 _ _).trans (teq (by decide : ((0 : Int32) = (0 : Int32)))).2) kK_) ?_
      refine own_stW (A := T178.setTop (mkF mM 230 #[.val (.int u0), .val (.int u1), .val (.int u2), .val (.int u3), .val (.int u4), .val (.int u5), .val (.int x0), .val (.int x1), .val (.int y0), .val (.int y1), .val (.int (0 : Int32)), .val (.int (1 : Int32)), .val (.ref p167), .val (.ref p168), .val (.ref b169), .val (.int ((u5 >>> ((2 : Int32) &&& 31)) &&& (3 : Int32))), .unset, .unset] [(.int (1 : Int32))])) (fun tT_ kK_ => XS.iconst X178.here hx rfl (hb hby at_229) kK_) ?_
      refine own_stW (A := T178.setTop (mkF mM 234 #[.val (.int u0), .val (.int u1), .val (.int u2), .val (.int u3), .val (.int u4), .val (.int u5), .val (.int x0), .val (.int x1), .val (.int y0), .val (.int y1), .val (.int (0 : Int32)), .val (.int (1 : Int32)), .val (.ref p167), .val (.ref p168), .val (.ref b169), .val (.int ((u5 >>> ((2 : Int32) &&& 31)) &&& (3 : Int32))), .unset, .unset] [(.int (1 : Int32))])) (fun tT_ kK_ => XS.goto X178.here hx rfl (pc0 := 230) (pc' := 234) rfl (hb hby at_230) (by decide) (by decide) kK_) ?_
      exact own_retWN X178 hx hlk hS (by rw [e178]; exact hk) (t := .boolean) hret (by simp) (hb hby at_234) ⟨rfl, N178⟩ (by decide) (by decide)
    · skip
      refine own_stW (A := T170.setTop (mkF mM 235 #[.val (.int u0), .val (.int u1), .val (.int u2), .val (.int u3), .val (.int u4), .val (.int u5), .val (.int x0), .val (.int x1), .val (.int y0), .val (.int y1), .val (.int (0 : Int32)), .val (.int (1 : Int32)), .val (.ref p167), .val (.ref p168), .val (.ref b169), .val (.int ((u5 >>> ((2 : Int32) &&& 31)) &&& (3 : Int32))), .unset, .unset] [])) (fun tT_ kK_ => XS.icmpYes X170.here hx rfl (pc0 := 217) (pc' := 235) rfl (hb hby at_217) rfl (feq hc217_177).2 (by decide) (by decide) kK_) ?_
      refine own_stW (A := T170.setTop (mkF mM 237 #[.val (.int u0), .val (.int u1), .val (.int u2), .val (.int u3), .val (.int u4), .val (.int u5), .val (.int x0), .val (.int x1), .val (.int y0), .val (.int y1), .val (.int (0 : Int32)), .val (.int (1 : Int32)), .val (.ref p167), .val (.ref p168), .val (.ref b169), .val (.int ((u5 >>> ((2 : Int32) &&& 31)) &&& (3 : Int32))), .unset, .unset] [(.int ((u5 >>> ((2 : Int32) &&& 31)) &&& (3 : Int32)))])) (fun tT_ kK_ => XS.iload X170.here hx rfl (hb hby at_235) rfl kK_) ?_
      refine own_stW (A := T170.setTop (mkF mM 238 #[.val (.int u0), .val (.int u1), .val (.int u2), .val (.int u3), .val (.int u4), .val (.int u5), .val (.int x0), .val (.int x1), .val (.int y0), .val (.int y1), .val (.int (0 : Int32)), .val (.int (1 : Int32)), .val (.ref p167), .val (.ref p168), .val (.ref b169), .val (.int ((u5 >>> ((2 : Int32) &&& 31)) &&& (3 : Int32))), .unset, .unset] [(.int (2 : Int32)), (.int ((u5 >>> ((2 : Int32) &&& 31)) &&& (3 : Int32)))])) (fun tT_ kK_ => XS.iconst X170.here hx rfl (hb hby at_237) kK_) ?_
      by_cases hc238_179 : ((u5 >>> ((2 : Int32) &&& 31)) &&& (3 : Int32)) = (2 : Int32)
      · skip
        refine own_stW (A := T170.setTop (mkF mM 241 #[.val (.int u0), .val (.int u1), .val (.int u2), .val (.int u3), .val (.int u4), .val (.int u5), .val (.int x0), .val (.int x1), .val (.int y0), .val (.int y1), .val (.int (0 : Int32)), .val (.int (1 : Int32)), .val (.ref p167), .val (.ref p168), .val (.ref b169), .val (.int ((u5 >>> ((2 : Int32) &&& 31)) &&& (3 : Int32))), .unset, .unset] [])) (fun tT_ kK_ => XS.icmpNo X170.here hx rfl (hb hby at_238) rfl (teq hc238_179).2 kK_) ?_
        refine own_stW (A := T170.setTop (mkF mM 243 #[.val (.int u0), .val (.int u1), .val (.int u2), .val (.int u3), .val (.int u4), .val (.int u5), .val (.int x0), .val (.int x1), .val (.int y0), .val (.int y1), .val (.int (0 : Int32)), .val (.int (1 : Int32)), .val (.ref p167), .val (.ref p168), .val (.ref b169), .val (.int ((u5 >>> ((2 : Int32) &&& 31)) &&& (3 : Int32))), .unset, .unset] [(.ref b169)])) (fun tT_ kK_ => XS.aload X170.here hx rfl (hb hby at_241) rfl rfl kK_) ?_
        refine own_stW (A := T170.setTop (mkF mM 245 #[.val (.int u0), .val (.int u1), .val (.int u2), .val (.int u3), .val (.int u4), .val (.int u5), .val (.int x0), .val (.int x1), .val (.int y0), .val (.int y1), .val (.int (0 : Int32)), .val (.int (1 : Int32)), .val (.ref p167), .val (.ref p168), .val (.ref b169), .val (.int ((u5 >>> ((2 : Int32) &&& 31)) &&& (3 : Int32))), .unset, .unset] [(.ref p167), (.ref b169)])) (fun tT_ kK_ => XS.aload X170.here hx rfl (hb hby at_243) rfl rfl kK_) ?_
        obtain ⟨cq180, kq180, q180a, q180b, q180c⟩ := isOf hZ e170 ra.1
        obtain ⟨_, _, ⟨T180, L180, k180, n180⟩, -, X180, ⟨Lc180, hQ180, l180, y180, z180⟩, st180⟩ := X170.virtualBack hx (y := (⟨"com/example/upfront_duty/upfrontduty/algebra/Role", "equals", "(Ljava/lang/Object;)Z"⟩ : MethodName)) (z := (⟨"com/example/upfront_duty/upfrontduty/algebra/Role", "equals", "(Ljava/lang/Object;)Z"⟩ : MethodName)) hown (mvT hZ (hw _ (List.mem_of_getElem? (i := 55) rfl))) (mvT hZ (hw _ (List.mem_of_getElem? (i := 56) rfl))) (notFace_of_selects (args := #[]) (mvT hZ (hw _ (List.mem_of_getElem? (i := 58) rfl)))) (mvT hZ (hw _ (List.mem_of_getElem? (i := 58) rfl))) (mvT hZ (hw _ (List.mem_of_getElem? (i := 57) rfl))) (by decide) (backOf (W := 0) (rmREo0 lL Z a0 hw [] b169 p167 T170.heap n0 sa.1) hZ (hw _ (List.mem_of_getElem? (i := 59) rfl)) (hw _ (List.mem_of_getElem? (i := 36) rfl)) (by decide) (by decide)) q180a q180c (g := (mkF mM 245 #[.val (.int u0), .val (.int u1), .val (.int u2), .val (.int u3), .val (.int u4), .val (.int u5), .val (.int x0), .val (.int x1), .val (.int y0), .val (.int y1), .val (.int (0 : Int32)), .val (.int (1 : Int32)), .val (.ref p167), .val (.ref p168), .val (.ref b169), .val (.int ((u5 >>> ((2 : Int32) &&& 31)) &&& (3 : Int32))), .unset, .unset] [(.ref p167), (.ref b169)])) rfl (by rw [hml]; rfl) (Steps.refl _) (argsL := [(.ref p167)]) (rest := []) (lenOf pd__28Ljava_2flang_2fObject_3b_29Z rfl) rfl (by show 2 * 0 + _ ≤ _; exact Nat.le_of_eq rfl) (hb hby at_245) (fun _ _ => ⟨rfl, e170, (by decide : 9 + 0 ≤ _), (by decide : 35 + 0 ≤ _)⟩)
        dsimp only [Pt.U, Pt.locs, Pt.cells, Pt.slots] at X180 l180 y180 z180 st180 hQ180
        subst l180 y180 z180
        obtain ⟨rfl, N180q, e180⟩ := hQ180
        have N180 := Fr.app N170 N180q
        refine own_stW (A := T180.setTop (mkF mM 248 #[.val (.int u0), .val (.int u1), .val (.int u2), .val (.int u3), .val (.int u4), .val (.int u5), .val (.int x0), .val (.int x1), .val (.int y0), .val (.int y1), .val (.int (0 : Int32)), .val (.int (1 : Int32)), .val (.ref p167), .val (.ref p168), .val (.ref b169), .val (.int ((u5 >>> ((2 : Int32) &&& 31)) &&& (3 : Int32))), .unset, .unset] [(.int (0 : Int32))])) (fun tT_ kK_ => st180.trans kK_) ?_
        refine own_stW (A := T180.setTop (mkF mM 251 #[.val (.int u0), .val (.int u1), .val (.int u2), .val (.int u3), .val (.int u4), .val (.int u5), .val (.int x0), .val (.int x1), .val (.int y0), .val (.int y1), .val (.int (0 : Int32)), .val (.int (1 : Int32)), .val (.ref p167), .val (.ref p168), .val (.ref b169), .val (.int ((u5 >>> ((2 : Int32) &&& 31)) &&& (3 : Int32))), .unset, .unset] [])) (fun tT_ kK_ => XS.ifNo X180.here hx rfl (hb hby at_248) rfl ((if0 _ _).trans (teq (by decide : ((0 : Int32) = (0 : Int32)))).2) kK_) ?_
        refine own_stW (A := T180.setTop (mkF mM 252 #[.val (.int u0), .val (.int u1), .val (.int u2), .val (.int u3), .val (.int u4), .val (.int u5), .val (.int x0), .val (.int x1), .val (.int y0), .val (.int y1), .val (.int (0 : Int32)), .val (.int (1 : Int32)), .val (.ref p167), .val (.ref p168), .val (.ref b169), .val (.int ((u5 >>> ((2 : Int32) &&& 31)) &&& (3 : Int32))), .unset, .unset] [(.int (1 : Int32))])) (fun tT_ kK_ => XS.iconst X180.here hx rfl (hb hby at_251) kK_) ?_
        refine own_stW (A := T180.setTop (mkF mM 256 #[.val (.int u0), .val (.int u1), .val (.int u2), .val (.int u3), .val (.int u4), .val (.int u5), .val (.int x0), .val (.int x1), .val (.int y0), .val (.int y1), .val (.int (0 : Int32)), .val (.int (1 : Int32)), .val (.ref p167), .val (.ref p168), .val (.ref b169), .val (.int ((u5 >>> ((2 : Int32) &&& 31)) &&& (3 : Int32))), .unset, .unset] [(.int (1 : Int32))])) (fun tT_ kK_ => XS.goto X180.here hx rfl (pc0 := 252) (pc' := 256) rfl (hb hby at_252) (by decide) (by decide) kK_) ?_
        exact own_retWN X180 hx hlk hS (by rw [e180]; exact hk) (t := .boolean) hret (by simp) (hb hby at_256) ⟨rfl, N180⟩ (by decide) (by decide)
      · skip
        refine own_stW (A := T170.setTop (mkF mM 257 #[.val (.int u0), .val (.int u1), .val (.int u2), .val (.int u3), .val (.int u4), .val (.int u5), .val (.int x0), .val (.int x1), .val (.int y0), .val (.int y1), .val (.int (0 : Int32)), .val (.int (1 : Int32)), .val (.ref p167), .val (.ref p168), .val (.ref b169), .val (.int ((u5 >>> ((2 : Int32) &&& 31)) &&& (3 : Int32))), .unset, .unset] [])) (fun tT_ kK_ => XS.icmpYes X170.here hx rfl (pc0 := 238) (pc' := 257) rfl (hb hby at_238) rfl (feq hc238_179).2 (by decide) (by decide) kK_) ?_
        refine own_stW (A := T170.setTop (mkF mM 259 #[.val (.int u0), .val (.int u1), .val (.int u2), .val (.int u3), .val (.int u4), .val (.int u5), .val (.int x0), .val (.int x1), .val (.int y0), .val (.int y1), .val (.int (0 : Int32)), .val (.int (1 : Int32)), .val (.ref p167), .val (.ref p168), .val (.ref b169), .val (.int ((u5 >>> ((2 : Int32) &&& 31)) &&& (3 : Int32))), .unset, .unset] [(.ref b169)])) (fun tT_ kK_ => XS.aload X170.here hx rfl (hb hby at_257) rfl rfl kK_) ?_
        obtain ⟨T181, X181, e181, st181⟩ := getS2 X170 hx hZ hown (host := "") (Or.inl (hw _ (List.mem_of_getElem? (i := 72) rfl))) Via.refl e170 (S_au.ext O.2) (g := (mkF mM 259 #[.val (.int u0), .val (.int u1), .val (.int u2), .val (.int u3), .val (.int u4), .val (.int u5), .val (.int x0), .val (.int x1), .val (.int y0), .val (.int y1), .val (.int (0 : Int32)), .val (.int (1 : Int32)), .val (.ref p167), .val (.ref p168), .val (.ref b169), .val (.int ((u5 >>> ((2 : Int32) &&& 31)) &&& (3 : Int32))), .unset, .unset] [(.ref b169)])) rfl (hb hby at_259)
        refine own_stW (A := T181.setTop (mkF mM 262 #[.val (.int u0), .val (.int u1), .val (.int u2), .val (.int u3), .val (.int u4), .val (.int u5), .val (.int x0), .val (.int x1), .val (.int y0), .val (.int y1), .val (.int (0 : Int32)), .val (.int (1 : Int32)), .val (.ref p167), .val (.ref p168), .val (.ref b169), .val (.int ((u5 >>> ((2 : Int32) &&& 31)) &&& (3 : Int32))), .unset, .unset] [(.ref au), (.ref b169)])) (fun tT_ kK_ => st181 tT_ kK_) ?_
        obtain ⟨cq182, kq182, q182a, q182b, q182c⟩ := isOf hZ e181 ra.1
        obtain ⟨_, _, ⟨T182, L182, k182, n182⟩, -, X182, ⟨Lc182, hQ182, l182, y182, z182⟩, st182⟩ := X181.virtualBack hx (y := (⟨"com/example/upfront_duty/upfrontduty/algebra/Role", "equals", "(Ljava/lang/Object;)Z"⟩ : MethodName)) (z := (⟨"com/example/upfront_duty/upfrontduty/algebra/Role", "equals", "(Ljava/lang/Object;)Z"⟩ : MethodName)) hown (mvT hZ (hw _ (List.mem_of_getElem? (i := 55) rfl))) (mvT hZ (hw _ (List.mem_of_getElem? (i := 56) rfl))) (notFace_of_selects (args := #[]) (mvT hZ (hw _ (List.mem_of_getElem? (i := 58) rfl)))) (mvT hZ (hw _ (List.mem_of_getElem? (i := 58) rfl))) (mvT hZ (hw _ (List.mem_of_getElem? (i := 57) rfl))) (by decide) (backOf (W := 0) (rmREo1 lL Z a0 hw [] b169 au T170.heap n0 (E_au.ext O.2)) hZ (hw _ (List.mem_of_getElem? (i := 59) rfl)) (hw _ (List.mem_of_getElem? (i := 36) rfl)) (by decide) (by decide)) q182a q182c (g := (mkF mM 262 #[.val (.int u0), .val (.int u1), .val (.int u2), .val (.int u3), .val (.int u4), .val (.int u5), .val (.int x0), .val (.int x1), .val (.int y0), .val (.int y1), .val (.int (0 : Int32)), .val (.int (1 : Int32)), .val (.ref p167), .val (.ref p168), .val (.ref b169), .val (.int ((u5 >>> ((2 : Int32) &&& 31)) &&& (3 : Int32))), .unset, .unset] [(.ref au), (.ref b169)])) rfl (by rw [hml]; rfl) (Steps.refl _) (argsL := [(.ref au)]) (rest := []) (lenOf pd__28Ljava_2flang_2fObject_3b_29Z rfl) rfl (by show 2 * 0 + _ ≤ _; exact Nat.le_of_eq rfl) (hb hby at_262) (fun _ _ => ⟨rfl, e181, (by decide : 9 + 0 ≤ _), (by decide : 35 + 0 ≤ _)⟩)
        dsimp only [Pt.U, Pt.locs, Pt.cells, Pt.slots] at X182 l182 y182 z182 st182 hQ182
        subst l182 y182 z182
        obtain ⟨rfl, N182q, e182⟩ := hQ182
        have N182 := Fr.app N170 N182q
        refine own_stW (A := T182.setTop (mkF mM 265 #[.val (.int u0), .val (.int u1), .val (.int u2), .val (.int u3), .val (.int u4), .val (.int u5), .val (.int x0), .val (.int x1), .val (.int y0), .val (.int y1), .val (.int (0 : Int32)), .val (.int (1 : Int32)), .val (.ref p167), .val (.ref p168), .val (.ref b169), .val (.int ((u5 >>> ((2 : Int32) &&& 31)) &&& (3 : Int32))), .unset, .unset] [(.int (0 : Int32))])) (fun tT_ kK_ => st182.trans kK_) ?_
        refine own_stW (A := T182.setTop (mkF mM 268 #[.val (.int u0), .val (.int u1), .val (.int u2), .val (.int u3), .val (.int u4), .val (.int u5), .val (.int x0), .val (.int x1), .val (.int y0), .val (.int y1), .val (.int (0 : Int32)), .val (.int (1 : Int32)), .val (.ref p167), .val (.ref p168), .val (.ref b169), .val (.int ((u5 >>> ((2 : Int32) &&& 31)) &&& (3 : Int32))), .unset, .unset] [])) (fun tT_ kK_ => XS.ifNo X182.here hx rfl (hb hby at_265) rfl ((if0 _ _).trans (teq (by decide : ((0 : Int32) = (0 : Int32)))).2) kK_) ?_
        refine own_stW (A := T182.setTop (mkF mM 269 #[.val (.int u0), .val (.int u1), .val (.int u2), .val (.int u3), .val (.int u4), .val (.int u5), .val (.int x0), .val (.int x1), .val (.int y0), .val (.int y1), .val (.int (0 : Int32)), .val (.int (1 : Int32)), .val (.ref p167), .val (.ref p168), .val (.ref b169), .val (.int ((u5 >>> ((2 : Int32) &&& 31)) &&& (3 : Int32))), .unset, .unset] [(.int (1 : Int32))])) (fun tT_ kK_ => XS.iconst X182.here hx rfl (hb hby at_268) kK_) ?_
        refine own_stW (A := T182.setTop (mkF mM 273 #[.val (.int u0), .val (.int u1), .val (.int u2), .val (.int u3), .val (.int u4), .val (.int u5), .val (.int x0), .val (.int x1), .val (.int y0), .val (.int y1), .val (.int (0 : Int32)), .val (.int (1 : Int32)), .val (.ref p167), .val (.ref p168), .val (.ref b169), .val (.int ((u5 >>> ((2 : Int32) &&& 31)) &&& (3 : Int32))), .unset, .unset] [(.int (1 : Int32))])) (fun tT_ kK_ => XS.goto X182.here hx rfl (pc0 := 269) (pc' := 273) rfl (hb hby at_269) (by decide) (by decide) kK_) ?_
        exact own_retWN X182 hx hlk hS (by rw [e182]; exact hk) (t := .boolean) hret (by simp) (hb hby at_273) ⟨rfl, N182⟩ (by decide) (by decide)
set_option maxRecDepth 65536 in
set_option maxHeartbeats 40000000 in
theorem J84_10 {pP : Program} {lL : Launch} {eE : Env} {sS : State} {mM : MethodId} {args : Array Value} {below : List Frame} {meth : Method} {cC : Code} {T0 : State} {locs : List Loc} {Z : State} {a0 : Array Value} {h0 : Heap} {n0 : Nat} {vmV : Vm} (hw : ∀ d ∈ tables_1, d.before a0 Z = true) (X0 : Stand pP lL eE room_1 (sS.setVm vmV) mM args below meth cC T0 locs 0 0) (hx : pP.tables.exec = Jvm.exec) (hZ : Z.Warmed39 (sS.setVm vmV).vm) (hby : cC.code = code) (hml : cC.maxLocals = 18) (hown : (sS.setVm vmV).vm.findClass "com/example/upfront_duty/upfrontduty/algebra/RoleEqualsPinLaw" = some mM.cls) (hlk : meth.locks = false) (hret : meth.sig.returnType = ret) {kV : Nat} (hS : sS.Since vmV kV) (hk : kV ≤ h0.size) (e0 : T0.heap = h0) (N0 : Fr n0 locs) (u0 : Int32) (u1 : Int32) (u2 : Int32) (u3 : Int32) (u4 : Int32) (u5 : Int32) (x0 : Int32) (x1 : Int32) (y0 : Int32) (y1 : Int32) (cs : Int32) (au : Addr) (O : Old Z n0 h0) (Zn : n0 ≤ h0.size) (S_cs : Sta Z Z.heap "java/lang/String" "COMPACT_STRINGS" "Z" (.int cs)) (hcs : ¬ cs = (0 : Int32)) (S_au : Sta Z Z.heap "com/example/upfront_duty/upfrontduty/algebra/AllUsers" "INSTANCE" "Lcom/example/upfront_duty/upfrontduty/algebra/AllUsers;" (.ref au)) (E_au : Exa Z Z.heap au "com/example/upfront_duty/upfrontduty/algebra/AllUsers") (cx0 : Ck x0) (cx1 : Ck x1) (cy0 : Ck y0) (cy1 : Ck y1) :
    own_GoW pP eE below sS (QLaw n0) 32 1152 (T0.setTop (mkF mM 84 #[.val (.int u0), .val (.int u1), .val (.int u2), .val (.int u3), .val (.int u4), .val (.int u5), .val (.int x0), .val (.int x1), .val (.int y0), .val (.int y1), .val (.int (1 : Int32)), .val (.int (0 : Int32)), .unset, .unset, .unset, .unset, .unset, .unset] [])) := by
  refine own_stW (A := T0.setTop (mkF mM 86 #[.val (.int u0), .val (.int u1), .val (.int u2), .val (.int u3), .val (.int u4), .val (.int u5), .val (.int x0), .val (.int x1), .val (.int y0), .val (.int y1), .val (.int (1 : Int32)), .val (.int (0 : Int32)), .unset, .unset, .unset, .unset, .unset, .unset] [(.int (1 : Int32))])) (fun tT_ kK_ => XS.iload X0.here hx rfl (hb hby at_84) rfl kK_) ?_
  refine own_stW (A := T0.setTop (mkF mM 88 #[.val (.int u0), .val (.int u1), .val (.int u2), .val (.int u3), .val (.int u4), .val (.int u5), .val (.int x0), .val (.int x1), .val (.int y0), .val (.int y1), .val (.int (1 : Int32)), .val (.int (0 : Int32)), .unset, .unset, .unset, .unset, .unset, .unset] [(.int x0), (.int (1 : Int32))])) (fun tT_ kK_ => XS.iload X0.here hx rfl (hb hby at_86) rfl kK_) ?_
  refine own_stW (A := T0.setTop (mkF mM 90 #[.val (.int u0), .val (.int u1), .val (.int u2), .val (.int u3), .val (.int u4), .val (.int u5), .val (.int x0), .val (.int x1), .val (.int y0), .val (.int y1), .val (.int (1 : Int32)), .val (.int (0 : Int32)), .unset, .unset, .unset, .unset, .unset, .unset] [(.int x1), (.int x0), (.int (1 : Int32))])) (fun tT_ kK_ => XS.iload X0.here hx rfl (hb hby at_88) rfl kK_) ?_
  obtain ⟨_, _, ⟨T183, L183, k183, n183⟩, -, X183, ⟨Lc183, hQ183, l183, y183, z183⟩, st183⟩ := Jvm.LawKit.callS X0 hx (y := (⟨"com/example/upfront_duty/upfrontduty/algebra/RoleEqualsPinLaw", "name", "(ZCC)Ljava/lang/String;"⟩ : MethodName)) hown (mvT hZ (hw _ (List.mem_of_getElem? (i := 0) rfl))) (mvT hZ (hw _ (List.mem_of_getElem? (i := 1) rfl))) (mvT hZ (hw _ (List.mem_of_getElem? (i := 2) rfl))) (mvT hZ (hw _ (List.mem_of_getElem? (i := 3) rfl))) (by decide) (backOf (W := 0) (rmN2 lL Z a0 hw [] cs x0 x1 h0 n0 O Zn S_cs hcs cx0 cx1) hZ (hw _ (List.mem_of_getElem? (i := 3) rfl)) (hw _ (List.mem_of_getElem? (i := 2) rfl)) (by decide) (by decide)) (g := (mkF mM 90 #[.val (.int u0), .val (.int u1), .val (.int u2), .val (.int u3), .val (.int u4), .val (.int u5), .val (.int x0), .val (.int x1), .val (.int y0), .val (.int y1), .val (.int (1 : Int32)), .val (.int (0 : Int32)), .unset, .unset, .unset, .unset, .unset, .unset] [(.int x1), (.int x0), (.int (1 : Int32))])) rfl (by rw [hml]; rfl) (argsL := [(.int (1 : Int32)), (.int x0), (.int x1)]) (rest := []) (lenOf pd__28ZCC_29Ljava_2flang_2fString_3b rfl) rfl (by show 2 * 0 + _ ≤ _; exact Nat.le_of_eq rfl) (hb hby at_90) (fun _ _ => ⟨rfl, e0, (by decide : 0 + 3 ≤ _), (by decide : 0 + 8 ≤ _)⟩)
  dsimp only [Pt.U, Pt.locs, Pt.cells, Pt.slots] at X183 l183 y183 z183 st183 hQ183
  subst l183 y183 z183
  obtain ⟨p183, d183, k183', rfl, N183q, E183, str183, ga183, gd183⟩ := hQ183
  have N183 := Fr.app N0 N183q
  have e183 : T183.heap = T183.heap := rfl
  refine own_stW (A := T183.setTop (mkF mM 93 #[.val (.int u0), .val (.int u1), .val (.int u2), .val (.int u3), .val (.int u4), .val (.int u5), .val (.int x0), .val (.int x1), .val (.int y0), .val (.int y1), .val (.int (1 : Int32)), .val (.int (0 : Int32)), .unset, .unset, .unset, .unset, .unset, .unset] [(.ref p183)])) (fun tT_ kK_ => st183 tT_ kK_) ?_
  have O := O.ext E183
  have hk := Nat.le_trans hk E183.1
  have Zn := Nat.le_trans Zn E183.1
  have sa := str183
  refine own_stW (A := T183.setTop (mkF mM 95 #[.val (.int u0), .val (.int u1), .val (.int u2), .val (.int u3), .val (.int u4), .val (.int u5), .val (.int x0), .val (.int x1), .val (.int y0), .val (.int y1), .val (.int (1 : Int32)), .val (.int (0 : Int32)), .val (.ref p183), .unset, .unset, .unset, .unset, .unset] [])) (fun tT_ kK_ => XS.astore X183.here hx rfl (hb hby at_93) rfl rfl (l' := #[.val (.int u0), .val (.int u1), .val (.int u2), .val (.int u3), .val (.int u4), .val (.int u5), .val (.int x0), .val (.int x1), .val (.int y0), .val (.int y1), .val (.int (1 : Int32)), .val (.int (0 : Int32)), .val (.ref p183), .unset, .unset, .unset, .unset, .unset]) rfl kK_) ?_
  refine own_stW (A := T183.setTop (mkF mM 97 #[.val (.int u0), .val (.int u1), .val (.int u2), .val (.int u3), .val (.int u4), .val (.int u5), .val (.int x0), .val (.int x1), .val (.int y0), .val (.int y1), .val (.int (1 : Int32)), .val (.int (0 : Int32)), .val (.ref p183), .unset, .unset, .unset, .unset, .unset] [(.int (0 : Int32))])) (fun tT_ kK_ => XS.iload X183.here hx rfl (hb hby at_95) rfl kK_) ?_
  refine own_stW (A := T183.setTop (mkF mM 99 #[.val (.int u0), .val (.int u1), .val (.int u2), .val (.int u3), .val (.int u4), .val (.int u5), .val (.int x0), .val (.int x1), .val (.int y0), .val (.int y1), .val (.int (1 : Int32)), .val (.int (0 : Int32)), .val (.ref p183), .unset, .unset, .unset, .unset, .unset] [(.int y0), (.int (0 : Int32))])) (fun tT_ kK_ => XS.iload X183.here hx rfl (hb hby at_97) rfl kK_) ?_
  refine own_stW (A := T183.setTop (mkF mM 101 #[.val (.int u0), .val (.int u1), .val (.int u2), .val (.int u3), .val (.int u4), .val (.int u5), .val (.int x0), .val (.int x1), .val (.int y0), .val (.int y1), .val (.int (1 : Int32)), .val (.int (0 : Int32)), .val (.ref p183), .unset, .unset, .unset, .unset, .unset] [(.int y1), (.int y0), (.int (0 : Int32))])) (fun tT_ kK_ => XS.iload X183.here hx rfl (hb hby at_99) rfl kK_) ?_
  obtain ⟨_, _, ⟨T184, L184, k184, n184⟩, -, X184, ⟨Lc184, hQ184, l184, y184, z184⟩, st184⟩ := Jvm.LawKit.callS X183 hx (y := (⟨"com/example/upfront_duty/upfrontduty/algebra/RoleEqualsPinLaw", "name", "(ZCC)Ljava/lang/String;"⟩ : MethodName)) hown (mvT hZ (hw _ (List.mem_of_getElem? (i := 0) rfl))) (mvT hZ (hw _ (List.mem_of_getElem? (i := 1) rfl))) (mvT hZ (hw _ (List.mem_of_getElem? (i := 2) rfl))) (mvT hZ (hw _ (List.mem_of_getElem? (i := 3) rfl))) (by decide) (backOf (W := 0) (rmN1 lL Z a0 hw [] cs y0 y1 T183.heap n0 O Zn S_cs hcs cy0 cy1) hZ (hw _ (List.mem_of_getElem? (i := 3) rfl)) (hw _ (List.mem_of_getElem? (i := 2) rfl)) (by decide) (by decide)) (g := (mkF mM 101 #[.val (.int u0), .val (.int u1), .val (.int u2), .val (.int u3), .val (.int u4), .val (.int u5), .val (.int x0), .val (.int x1), .val (.int y0), .val (.int y1), .val (.int (1 : Int32)), .val (.int (0 : Int32)), .val (.ref p183), .unset, .unset, .unset, .unset, .unset] [(.int y1), (.int y0), (.int (0 : Int32))])) rfl (by rw [hml]; rfl) (argsL := [(.int (0 : Int32)), (.int y0), (.int y1)]) (rest := []) (lenOf pd__28ZCC_29Ljava_2flang_2fString_3b rfl) rfl (by show 2 * 0 + _ ≤ _; exact Nat.le_of_eq rfl) (hb hby at_101) (fun _ _ => ⟨rfl, e183, (by decide : 3 + 3 ≤ _), (by decide : 8 + 6 ≤ _)⟩)
  dsimp only [Pt.U, Pt.locs, Pt.cells, Pt.slots] at X184 l184 y184 z184 st184 hQ184
  subst l184 y184 z184
  obtain ⟨p184, d184, k184', rfl, N184q, E184, str184, ga184, gd184⟩ := hQ184
  have N184 := Fr.app N183 N184q
  have e184 : T184.heap = T184.heap := rfl
  refine own_stW (A := T184.setTop (mkF mM 104 #[.val (.int u0), .val (.int u1), .val (.int u2), .val (.int u3), .val (.int u4), .val (.int u5), .val (.int x0), .val (.int x1), .val (.int y0), .val (.int y1), .val (.int (1 : Int32)), .val (.int (0 : Int32)), .val (.ref p183), .unset, .unset, .unset, .unset, .unset] [(.ref p184)])) (fun tT_ kK_ => st184 tT_ kK_) ?_
  have nss : p183 ≠ p184 := Nat.ne_of_lt (Nat.lt_of_lt_of_le sa.1.lt ga184)
  have sa := own_Str_ext sa E184
  have O := O.ext E184
  have hk := Nat.le_trans hk E184.1
  have Zn := Nat.le_trans Zn E184.1
  have sb := str184
  refine own_stW (A := T184.setTop (mkF mM 106 #[.val (.int u0), .val (.int u1), .val (.int u2), .val (.int u3), .val (.int u4), .val (.int u5), .val (.int x0), .val (.int x1), .val (.int y0), .val (.int y1), .val (.int (1 : Int32)), .val (.int (0 : Int32)), .val (.ref p183), .val (.ref p184), .unset, .unset, .unset, .unset] [])) (fun tT_ kK_ => XS.astore X184.here hx rfl (hb hby at_104) rfl rfl (l' := #[.val (.int u0), .val (.int u1), .val (.int u2), .val (.int u3), .val (.int u4), .val (.int u5), .val (.int x0), .val (.int x1), .val (.int y0), .val (.int y1), .val (.int (1 : Int32)), .val (.int (0 : Int32)), .val (.ref p183), .val (.ref p184), .unset, .unset, .unset, .unset]) rfl kK_) ?_
  obtain ⟨T185, h185, X185, e185, E185, A185, D185, -, st185⟩ := newO X184 hx hZ hown (hw _ (List.mem_of_getElem? (i := 34) rfl)) (hw _ (List.mem_of_getElem? (i := 35) rfl)) (hw _ (List.mem_of_getElem? (i := 36) rfl)) e184 (g := (mkF mM 106 #[.val (.int u0), .val (.int u1), .val (.int u2), .val (.int u3), .val (.int u4), .val (.int u5), .val (.int x0), .val (.int x1), .val (.int y0), .val (.int y1), .val (.int (1 : Int32)), .val (.int (0 : Int32)), .val (.ref p183), .val (.ref p184), .unset, .unset, .unset, .unset] [])) rfl (hb hby at_106) (by decide) (by decide)
  obtain ⟨b185, g185⟩ : ∃ z, z = T184.heap.size := ⟨_, rfl⟩
  rw [← g185] at A185 D185 st185
  have g_b185 : n0 ≤ b185 := Nat.le_trans Zn (Nat.le_of_eq g185.symm)
  have sa := own_Str_ext sa E185
  have sb := own_Str_ext sb E185
  have O := O.ext E185
  have hk := Nat.le_trans hk E185.1
  have Zn := Nat.le_trans Zn E185.1
  have E_b185 := A185
  have F_b185_name : Fld Z h185 b185 "com/example/upfront_duty/upfrontduty/algebra/Role" "name" "Ljava/lang/String;" .null := D185 (Or.inr (hw _ (List.mem_of_getElem? (i := 54) rfl))) (ty := (.object "java/lang/String")) (by decide)
  refine own_stW (A := T185.setTop (mkF mM 109 #[.val (.int u0), .val (.int u1), .val (.int u2), .val (.int u3), .val (.int u4), .val (.int u5), .val (.int x0), .val (.int x1), .val (.int y0), .val (.int y1), .val (.int (1 : Int32)), .val (.int (0 : Int32)), .val (.ref p183), .val (.ref p184), .unset, .unset, .unset, .unset] [(.ref b185)])) (fun tT_ kK_ => st185 tT_ kK_) ?_
  refine own_stW (A := T185.setTop (mkF mM 110 #[.val (.int u0), .val (.int u1), .val (.int u2), .val (.int u3), .val (.int u4), .val (.int u5), .val (.int x0), .val (.int x1), .val (.int y0), .val (.int y1), .val (.int (1 : Int32)), .val (.int (0 : Int32)), .val (.ref p183), .val (.ref p184), .unset, .unset, .unset, .unset] [(.ref b185), (.ref b185)])) (fun tT_ kK_ => XS.dup X185.here hx rfl (hb hby at_109) rfl rfl kK_) ?_
  refine own_stW (A := T185.setTop (mkF mM 112 #[.val (.int u0), .val (.int u1), .val (.int u2), .val (.int u3), .val (.int u4), .val (.int u5), .val (.int x0), .val (.int x1), .val (.int y0), .val (.int y1), .val (.int (1 : Int32)), .val (.int (0 : Int32)), .val (.ref p183), .val (.ref p184), .unset, .unset, .unset, .unset] [(.ref p183), (.ref b185), (.ref b185)])) (fun tT_ kK_ => XS.aload X185.here hx rfl (hb hby at_110) rfl rfl kK_) ?_
  obtain ⟨_, _, ⟨T186, L186, k186, n186⟩, -, X186, hS186, hg186, ⟨Lc186, hQ186, l186, y186, z186⟩, st186⟩ := X185.specialBackS hx (y := (⟨"com/example/upfront_duty/upfrontduty/algebra/Role", "<init>", "(Ljava/lang/String;)V"⟩ : MethodName)) rfl hown (mvT hZ (hw _ (List.mem_of_getElem? (i := 37) rfl))) (mvT hZ (hw _ (List.mem_of_getElem? (i := 38) rfl))) (mvT hZ (hw _ (List.mem_of_getElem? (i := 39) rfl))) (by decide) (backOfS (W := 1) (rmRI2 lL Z a0 hw [] b185 p183 d183 k183' x0 x1 h185 n0 g_b185 E_b185 F_b185_name sa (Exa.ne sa.1 E_b185 (by decide)) (Exa.neArv E_b185 sa.2.2.2 (hw _ (List.mem_of_getElem? (i := 35) rfl))).symm) hZ (hw _ (List.mem_of_getElem? (i := 39) rfl)) (hw _ (List.mem_of_getElem? (i := 36) rfl)) (by decide) (by decide)) (g := (mkF mM 112 #[.val (.int u0), .val (.int u1), .val (.int u2), .val (.int u3), .val (.int u4), .val (.int u5), .val (.int x0), .val (.int x1), .val (.int y0), .val (.int y1), .val (.int (1 : Int32)), .val (.int (0 : Int32)), .val (.ref p183), .val (.ref p184), .unset, .unset, .unset, .unset] [(.ref p183), (.ref b185), (.ref b185)])) rfl (by rw [hml]; rfl) (Steps.refl _) (a := b185) (argsL := [(.ref p183)]) (rest := [(.ref b185)]) (lenOf pd__28Ljava_2flang_2fString_3b_29V rfl) rfl (by show 2 * 0 + _ ≤ _; exact Nat.le_of_eq rfl) (hb hby at_112) (fun _ _ => ⟨rfl, e185, (by decide : 7 + 2 ≤ _), (by decide : 15 + 20 ≤ _)⟩)
  dsimp only [Pt.U, Pt.locs, Pt.cells, Pt.slots] at X186 l186 y186 z186 st186 hQ186 hS186 hg186
  subst l186 y186 z186
  obtain ⟨rfl, N186q, K186, x186, y186⟩ := hQ186
  have N186 := Fr.app N184 N186q
  rw [e185] at hg186
  have hZ := own_wideZ hZ hS186
  have hown := own_wideO hown hS186
  have hS := hS.trans hS186 (Nat.le_trans hk hg186)
  have hk : T186.heap.size ≤ T186.heap.size := Nat.le_refl _
  have X186 : Stand pP lL eE room_1 (sS.setVm T186.vm) mM args below meth cC T186 _ 9 35 := X186
  have e186 : T186.heap = T186.heap := rfl
  refine own_stW (A := T186.setTop (mkF mM 115 #[.val (.int u0), .val (.int u1), .val (.int u2), .val (.int u3), .val (.int u4), .val (.int u5), .val (.int x0), .val (.int x1), .val (.int y0), .val (.int y1), .val (.int (1 : Int32)), .val (.int (0 : Int32)), .val (.ref p183), .val (.ref p184), .unset, .unset, .unset, .unset] [(.ref b185)])) (fun tT_ kK_ => st186.trans kK_) ?_
  have sa := own_Str_keep sa K186 (ninS (Exa.ne sa.1 E_b185 (by decide)) nin0) (ninS (Exa.neArv E_b185 sa.2.2.2 (hw _ (List.mem_of_getElem? (i := 35) rfl))).symm nin0)
  have sb := own_Str_keep sb K186 (ninS (Exa.ne sb.1 E_b185 (by decide)) nin0) (ninS (Exa.neArv E_b185 sb.2.2.2 (hw _ (List.mem_of_getElem? (i := 35) rfl))).symm nin0)
  have E_b185 := E_b185.keep K186
  have O := O.keep K186 (allS g_b185 all0)
  have Zn := Nat.le_trans Zn K186.1
  have ra : Rol Z _ _ _ := ⟨x186, y186⟩
  refine own_stW (A := T186.setTop (mkF mM 117 #[.val (.int u0), .val (.int u1), .val (.int u2), .val (.int u3), .val (.int u4), .val (.int u5), .val (.int x0), .val (.int x1), .val (.int y0), .val (.int y1), .val (.int (1 : Int32)), .val (.int (0 : Int32)), .val (.ref p183), .val (.ref p184), .val (.ref b185), .unset, .unset, .unset] [])) (fun tT_ kK_ => XS.astore X186.here hx rfl (hb hby at_115) rfl rfl (l' := #[.val (.int u0), .val (.int u1), .val (.int u2), .val (.int u3), .val (.int u4), .val (.int u5), .val (.int x0), .val (.int x1), .val (.int y0), .val (.int y1), .val (.int (1 : Int32)), .val (.int (0 : Int32)), .val (.ref p183), .val (.ref p184), .val (.ref b185), .unset, .unset, .unset]) rfl kK_) ?_
  refine own_stW (A := T186.setTop (mkF mM 119 #[.val (.int u0), .val (.int u1), .val (.int u2), .val (.int u3), .val (.int u4), .val (.int u5), .val (.int x0), .val (.int x1), .val (.int y0), .val (.int y1), .val (.int (1 : Int32)), .val (.int (0 : Int32)), .val (.ref p183), .val (.ref p184), .val (.ref b185), .unset, .unset, .unset] [(.int u5)])) (fun tT_ kK_ => XS.iload X186.here hx rfl (hb hby at_117) rfl kK_) ?_
  refine own_stW (A := T186.setTop (mkF mM 120 #[.val (.int u0), .val (.int u1), .val (.int u2), .val (.int u3), .val (.int u4), .val (.int u5), .val (.int x0), .val (.int x1), .val (.int y0), .val (.int y1), .val (.int (1 : Int32)), .val (.int (0 : Int32)), .val (.ref p183), .val (.ref p184), .val (.ref b185), .unset, .unset, .unset] [(.int (2 : Int32)), (.int u5)])) (fun tT_ kK_ => XS.iconst X186.here hx rfl (hb hby at_119) kK_) ?_
  refine own_stW (A := T186.setTop (mkF mM 121 #[.val (.int u0), .val (.int u1), .val (.int u2), .val (.int u3), .val (.int u4), .val (.int u5), .val (.int x0), .val (.int x1), .val (.int y0), .val (.int y1), .val (.int (1 : Int32)), .val (.int (0 : Int32)), .val (.ref p183), .val (.ref p184), .val (.ref b185), .unset, .unset, .unset] [(.int (u5 >>> ((2 : Int32) &&& 31)))])) (fun tT_ kK_ => XS.ishr X186.here hx rfl (hb hby at_120) rfl kK_) ?_
  refine own_stW (A := T186.setTop (mkF mM 122 #[.val (.int u0), .val (.int u1), .val (.int u2), .val (.int u3), .val (.int u4), .val (.int u5), .val (.int x0), .val (.int x1), .val (.int y0), .val (.int y1), .val (.int (1 : Int32)), .val (.int (0 : Int32)), .val (.ref p183), .val (.ref p184), .val (.ref b185), .unset, .unset, .unset] [(.int (3 : Int32)), (.int (u5 >>> ((2 : Int32) &&& 31)))])) (fun tT_ kK_ => XS.iconst X186.here hx rfl (hb hby at_121) kK_) ?_
  refine own_stW (A := T186.setTop (mkF mM 123 #[.val (.int u0), .val (.int u1), .val (.int u2), .val (.int u3), .val (.int u4), .val (.int u5), .val (.int x0), .val (.int x1), .val (.int y0), .val (.int y1), .val (.int (1 : Int32)), .val (.int (0 : Int32)), .val (.ref p183), .val (.ref p184), .val (.ref b185), .unset, .unset, .unset] [(.int ((u5 >>> ((2 : Int32) &&& 31)) &&& (3 : Int32)))])) (fun tT_ kK_ => XS.iand X186.here hx rfl (hb hby at_122) rfl kK_) ?_
  refine own_stW (A := T186.setTop (mkF mM 125 #[.val (.int u0), .val (.int u1), .val (.int u2), .val (.int u3), .val (.int u4), .val (.int u5), .val (.int x0), .val (.int x1), .val (.int y0), .val (.int y1), .val (.int (1 : Int32)), .val (.int (0 : Int32)), .val (.ref p183), .val (.ref p184), .val (.ref b185), .val (.int ((u5 >>> ((2 : Int32) &&& 31)) &&& (3 : Int32))), .unset, .unset] [])) (fun tT_ kK_ => XS.istore X186.here hx rfl (hb hby at_123) rfl (l' := #[.val (.int u0), .val (.int u1), .val (.int u2), .val (.int u3), .val (.int u4), .val (.int u5), .val (.int x0), .val (.int x1), .val (.int y0), .val (.int y1), .val (.int (1 : Int32)), .val (.int (0 : Int32)), .val (.ref p183), .val (.ref p184), .val (.ref b185), .val (.int ((u5 >>> ((2 : Int32) &&& 31)) &&& (3 : Int32))), .unset, .unset]) rfl kK_) ?_
  refine own_stW (A := T186.setTop (mkF mM 127 #[.val (.int u0), .val (.int u1), .val (.int u2), .val (.int u3), .val (.int u4), .val (.int u5), .val (.int x0), .val (.int x1), .val (.int y0), .val (.int y1), .val (.int (1 : Int32)), .val (.int (0 : Int32)), .val (.ref p183), .val (.ref p184), .val (.ref b185), .val (.int ((u5 >>> ((2 : Int32) &&& 31)) &&& (3 : Int32))), .unset, .unset] [(.int ((u5 >>> ((2 : Int32) &&& 31)) &&& (3 : Int32)))])) (fun tT_ kK_ => XS.iload X186.here hx rfl (hb hby at_125) rfl kK_) ?_
  by_cases hc127_187 : ((u5 >>> ((2 : Int32) &&& 31)) &&& (3 : Int32)) = (0 : Int32)
  · skip
    refine own_stW (A := T186.setTop (mkF mM 130 #[.val (.int u0), .val (.int u1), .val (.int u2), .val (.int u3), .val (.int u4), .val (.int u5), .val (.int x0), .val (.int x1), .val (.int y0), .val (.int y1), .val (.int (1 : Int32)), .val (.int (0 : Int32)), .val (.ref p183), .val (.ref p184), .val (.ref b185), .val (.int ((u5 >>> ((2 : Int32) &&& 31)) &&& (3 : Int32))), .unset, .unset] [])) (fun tT_ kK_ => XS.ifNo X186.here hx rfl (hb hby at_127) rfl ((if0 _ _).trans (teq hc127_187).2) kK_) ?_
    obtain ⟨T188, h188, X188, e188, E188, A188, D188, -, st188⟩ := newO X186 hx hZ hown (hw _ (List.mem_of_getElem? (i := 34) rfl)) (hw _ (List.mem_of_getElem? (i := 35) rfl)) (hw _ (List.mem_of_getElem? (i := 36) rfl)) e186 (g := (mkF mM 130 #[.val (.int u0), .val (.int u1), .val (.int u2), .val (.int u3), .val (.int u4), .val (.int u5), .val (.int x0), .val (.int x1), .val (.int y0), .val (.int y1), .val (.int (1 : Int32)), .val (.int (0 : Int32)), .val (.ref p183), .val (.ref p184), .val (.ref b185), .val (.int ((u5 >>> ((2 : Int32) &&& 31)) &&& (3 : Int32))), .unset, .unset] [])) rfl (hb hby at_130) (by decide) (by decide)
    obtain ⟨b188, g188⟩ : ∃ z, z = T186.heap.size := ⟨_, rfl⟩
    rw [← g188] at A188 D188 st188
    have ne_b185_b188 : b185 ≠ b188 := Nat.ne_of_lt (Nat.lt_of_lt_of_le ra.1.lt (Nat.le_of_eq g188.symm))
    have g_b188 : n0 ≤ b188 := Nat.le_trans Zn (Nat.le_of_eq g188.symm)
    have sa := own_Str_ext sa E188
    have sb := own_Str_ext sb E188
    have ra := own_Rol_ext ra E188
    have O := O.ext E188
    have hk := Nat.le_trans hk E188.1
    have Zn := Nat.le_trans Zn E188.1
    have E_b188 := A188
    have F_b188_name : Fld Z h188 b188 "com/example/upfront_duty/upfrontduty/algebra/Role" "name" "Ljava/lang/String;" .null := D188 (Or.inr (hw _ (List.mem_of_getElem? (i := 54) rfl))) (ty := (.object "java/lang/String")) (by decide)
    refine own_stW (A := T188.setTop (mkF mM 133 #[.val (.int u0), .val (.int u1), .val (.int u2), .val (.int u3), .val (.int u4), .val (.int u5), .val (.int x0), .val (.int x1), .val (.int y0), .val (.int y1), .val (.int (1 : Int32)), .val (.int (0 : Int32)), .val (.ref p183), .val (.ref p184), .val (.ref b185), .val (.int ((u5 >>> ((2 : Int32) &&& 31)) &&& (3 : Int32))), .unset, .unset] [(.ref b188)])) (fun tT_ kK_ => st188 tT_ kK_) ?_
    refine own_stW (A := T188.setTop (mkF mM 134 #[.val (.int u0), .val (.int u1), .val (.int u2), .val (.int u3), .val (.int u4), .val (.int u5), .val (.int x0), .val (.int x1), .val (.int y0), .val (.int y1), .val (.int (1 : Int32)), .val (.int (0 : Int32)), .val (.ref p183), .val (.ref p184), .val (.ref b185), .val (.int ((u5 >>> ((2 : Int32) &&& 31)) &&& (3 : Int32))), .unset, .unset] [(.ref b188), (.ref b188)])) (fun tT_ kK_ => XS.dup X188.here hx rfl (hb hby at_133) rfl rfl kK_) ?_
    refine own_stW (A := T188.setTop (mkF mM 136 #[.val (.int u0), .val (.int u1), .val (.int u2), .val (.int u3), .val (.int u4), .val (.int u5), .val (.int x0), .val (.int x1), .val (.int y0), .val (.int y1), .val (.int (1 : Int32)), .val (.int (0 : Int32)), .val (.ref p183), .val (.ref p184), .val (.ref b185), .val (.int ((u5 >>> ((2 : Int32) &&& 31)) &&& (3 : Int32))), .unset, .unset] [(.ref p184), (.ref b188), (.ref b188)])) (fun tT_ kK_ => XS.aload X188.here hx rfl (hb hby at_134) rfl rfl kK_) ?_
    obtain ⟨_, _, ⟨T189, L189, k189, n189⟩, -, X189, hS189, hg189, ⟨Lc189, hQ189, l189, y189, z189⟩, st189⟩ := X188.specialBackS hx (y := (⟨"com/example/upfront_duty/upfrontduty/algebra/Role", "<init>", "(Ljava/lang/String;)V"⟩ : MethodName)) rfl hown (mvT hZ (hw _ (List.mem_of_getElem? (i := 37) rfl))) (mvT hZ (hw _ (List.mem_of_getElem? (i := 38) rfl))) (mvT hZ (hw _ (List.mem_of_getElem? (i := 39) rfl))) (by decide) (backOfS (W := 1) (rmRI1 lL Z a0 hw [] b188 p184 d184 k184' y0 h188 n0 g_b188 E_b188 F_b188_name sb (Exa.ne sb.1 E_b188 (by decide)) (Exa.neArv E_b188 sb.2.2.2 (hw _ (List.mem_of_getElem? (i := 35) rfl))).symm) hZ (hw _ (List.mem_of_getElem? (i := 39) rfl)) (hw _ (List.mem_of_getElem? (i := 36) rfl)) (by decide) (by decide)) (g := (mkF mM 136 #[.val (.int u0), .val (.int u1), .val (.int u2), .val (.int u3), .val (.int u4), .val (.int u5), .val (.int x0), .val (.int x1), .val (.int y0), .val (.int y1), .val (.int (1 : Int32)), .val (.int (0 : Int32)), .val (.ref p183), .val (.ref p184), .val (.ref b185), .val (.int ((u5 >>> ((2 : Int32) &&& 31)) &&& (3 : Int32))), .unset, .unset] [(.ref p184), (.ref b188), (.ref b188)])) rfl (by rw [hml]; rfl) (Steps.refl _) (a := b188) (argsL := [(.ref p184)]) (rest := [(.ref b188)]) (lenOf pd__28Ljava_2flang_2fString_3b_29V rfl) rfl (by show 2 * 0 + _ ≤ _; exact Nat.le_of_eq rfl) (hb hby at_136) (fun _ _ => ⟨rfl, e188, (by decide : 10 + 2 ≤ _), (by decide : 36 + 20 ≤ _)⟩)
    dsimp only [Pt.U, Pt.locs, Pt.cells, Pt.slots] at X189 l189 y189 z189 st189 hQ189 hS189 hg189
    subst l189 y189 z189
    obtain ⟨rfl, N189q, K189, x189, y189⟩ := hQ189
    have N189 := Fr.app N186 N189q
    rw [e188] at hg189
    have hZ := own_wideZ hZ hS189
    have hown := own_wideO hown hS189
    have hS := hS.trans hS189 (Nat.le_trans hk hg189)
    have hk : T189.heap.size ≤ T189.heap.size := Nat.le_refl _
    have X189 : Stand pP lL eE room_1 (sS.setVm T189.vm) mM args below meth cC T189 _ 12 56 := X189
    have e189 : T189.heap = T189.heap := rfl
    refine own_stW (A := T189.setTop (mkF mM 139 #[.val (.int u0), .val (.int u1), .val (.int u2), .val (.int u3), .val (.int u4), .val (.int u5), .val (.int x0), .val (.int x1), .val (.int y0), .val (.int y1), .val (.int (1 : Int32)), .val (.int (0 : Int32)), .val (.ref p183), .val (.ref p184), .val (.ref b185), .val (.int ((u5 >>> ((2 : Int32) &&& 31)) &&& (3 : Int32))), .unset, .unset] [(.ref b188)])) (fun tT_ kK_ => st189.trans kK_) ?_
    have sa := own_Str_keep sa K189 (ninS (Exa.ne sa.1 E_b188 (by decide)) nin0) (ninS (Exa.neArv E_b188 sa.2.2.2 (hw _ (List.mem_of_getElem? (i := 35) rfl))).symm nin0)
    have sb := own_Str_keep sb K189 (ninS (Exa.ne sb.1 E_b188 (by decide)) nin0) (ninS (Exa.neArv E_b188 sb.2.2.2 (hw _ (List.mem_of_getElem? (i := 35) rfl))).symm nin0)
    have ra := own_Rol_keep ra K189 (ninS ne_b185_b188 nin0)
    have E_b188 := E_b188.keep K189
    have O := O.keep K189 (allS g_b188 all0)
    have Zn := Nat.le_trans Zn K189.1
    have rb : Rol Z _ _ _ := ⟨x189, y189⟩
    refine own_stW (A := T189.setTop (mkF mM 141 #[.val (.int u0), .val (.int u1), .val (.int u2), .val (.int u3), .val (.int u4), .val (.int u5), .val (.int x0), .val (.int x1), .val (.int y0), .val (.int y1), .val (.int (1 : Int32)), .val (.int (0 : Int32)), .val (.ref p183), .val (.ref p184), .val (.ref b185), .val (.int ((u5 >>> ((2 : Int32) &&& 31)) &&& (3 : Int32))), .val (.ref b188), .unset] [])) (fun tT_ kK_ => XS.astore X189.here hx rfl (hb hby at_139) rfl rfl (l' := #[.val (.int u0), .val (.int u1), .val (.int u2), .val (.int u3), .val (.int u4), .val (.int u5), .val (.int x0), .val (.int x1), .val (.int y0), .val (.int y1), .val (.int (1 : Int32)), .val (.int (0 : Int32)), .val (.ref p183), .val (.ref p184), .val (.ref b185), .val (.int ((u5 >>> ((2 : Int32) &&& 31)) &&& (3 : Int32))), .val (.ref b188), .unset]) rfl kK_) ?_
    refine own_stW (A := T189.setTop (mkF mM 143 #[.val (.int u0), .val (.int u1), .val (.int u2), .val (.int u3), .val (.int u4), .val (.int u5), .val (.int x0), .val (.int x1), .val (.int y0), .val (.int y1), .val (.int (1 : Int32)), .val (.int (0 : Int32)), .val (.ref p183), .val (.ref p184), .val (.ref b185), .val (.int ((u5 >>> ((2 : Int32) &&& 31)) &&& (3 : Int32))), .val (.ref b188), .unset] [(.int (1 : Int32))])) (fun tT_ kK_ => XS.iload X189.here hx rfl (hb hby at_141) rfl kK_) ?_
    refine own_stW (A := T189.setTop (mkF mM 145 #[.val (.int u0), .val (.int u1), .val (.int u2), .val (.int u3), .val (.int u4), .val (.int u5), .val (.int x0), .val (.int x1), .val (.int y0), .val (.int y1), .val (.int (1 : Int32)), .val (.int (0 : Int32)), .val (.ref p183), .val (.ref p184), .val (.ref b185), .val (.int ((u5 >>> ((2 : Int32) &&& 31)) &&& (3 : Int32))), .val (.ref b188), .unset] [(.int (0 : Int32)), (.int (1 : Int32))])) (fun tT_ kK_ => XS.iload X189.here hx rfl (hb hby at_143) rfl kK_) ?_
    refine own_stW (A := T189.setTop (mkF mM 171 #[.val (.int u0), .val (.int u1), .val (.int u2), .val (.int u3), .val (.int u4), .val (.int u5), .val (.int x0), .val (.int x1), .val (.int y0), .val (.int y1), .val (.int (1 : Int32)), .val (.int (0 : Int32)), .val (.ref p183), .val (.ref p184), .val (.ref b185), .val (.int ((u5 >>> ((2 : Int32) &&& 31)) &&& (3 : Int32))), .val (.ref b188), .unset] [])) (fun tT_ kK_ => XS.icmpYes X189.here hx rfl (pc0 := 145) (pc' := 171) rfl (hb hby at_145) rfl (feq (by decide : ¬ ((1 : Int32) = (0 : Int32)))).2 (by decide) (by decide) kK_) ?_
    refine own_stW (A := T189.setTop (mkF mM 172 #[.val (.int u0), .val (.int u1), .val (.int u2), .val (.int u3), .val (.int u4), .val (.int u5), .val (.int x0), .val (.int x1), .val (.int y0), .val (.int y1), .val (.int (1 : Int32)), .val (.int (0 : Int32)), .val (.ref p183), .val (.ref p184), .val (.ref b185), .val (.int ((u5 >>> ((2 : Int32) &&& 31)) &&& (3 : Int32))), .val (.ref b188), .unset] [(.int (0 : Int32))])) (fun tT_ kK_ => XS.iconst X189.here hx rfl (hb hby at_171) kK_) ?_
    refine own_stW (A := T189.setTop (mkF mM 174 #[.val (.int u0), .val (.int u1), .val (.int u2), .val (.int u3), .val (.int u4), .val (.int u5), .val (.int x0), .val (.int x1), .val (.int y0), .val (.int y1), .val (.int (1 : Int32)), .val (.int (0 : Int32)), .val (.ref p183), .val (.ref p184), .val (.ref b185), .val (.int ((u5 >>> ((2 : Int32) &&& 31)) &&& (3 : Int32))), .val (.ref b188), .val (.int (0 : Int32))] [])) (fun tT_ kK_ => XS.istore X189.here hx rfl (hb hby at_172) rfl (l' := #[.val (.int u0), .val (.int u1), .val (.int u2), .val (.int u3), .val (.int u4), .val (.int u5), .val (.int x0), .val (.int x1), .val (.int y0), .val (.int y1), .val (.int (1 : Int32)), .val (.int (0 : Int32)), .val (.ref p183), .val (.ref p184), .val (.ref b185), .val (.int ((u5 >>> ((2 : Int32) &&& 31)) &&& (3 : Int32))), .val (.ref b188), .val (.int (0 : Int32))]) rfl kK_) ?_
    refine own_stW (A := T189.setTop (mkF mM 176 #[.val (.int u0), .val (.int u1), .val (.int u2), .val (.int u3), .val (.int u4), .val (.int u5), .val (.int x0), .val (.int x1), .val (.int y0), .val (.int y1), .val (.int (1 : Int32)), .val (.int (0 : Int32)), .val (.ref p183), .val (.ref p184), .val (.ref b185), .val (.int ((u5 >>> ((2 : Int32) &&& 31)) &&& (3 : Int32))), .val (.ref b188), .val (.int (0 : Int32))] [(.ref b185)])) (fun tT_ kK_ => XS.aload X189.here hx rfl (hb hby at_174) rfl rfl kK_) ?_
    refine own_stW (A := T189.setTop (mkF mM 178 #[.val (.int u0), .val (.int u1), .val (.int u2), .val (.int u3), .val (.int u4), .val (.int u5), .val (.int x0), .val (.int x1), .val (.int y0), .val (.int y1), .val (.int (1 : Int32)), .val (.int (0 : Int32)), .val (.ref p183), .val (.ref p184), .val (.ref b185), .val (.int ((u5 >>> ((2 : Int32) &&& 31)) &&& (3 : Int32))), .val (.ref b188), .val (.int (0 : Int32))] [(.ref b188), (.ref b185)])) (fun tT_ kK_ => XS.aload X189.here hx rfl (hb hby at_176) rfl rfl kK_) ?_
    obtain ⟨cq190, kq190, q190a, q190b, q190c⟩ := isOf hZ e189 ra.1
    obtain ⟨_, _, ⟨T190, L190, k190, n190⟩, -, X190, ⟨Lc190, hQ190, l190, y190, z190⟩, st190⟩ := X189.virtualBack hx (y := (⟨"com/example/upfront_duty/upfrontduty/algebra/Role", "equals", "(Ljava/lang/Object;)Z"⟩ : MethodName)) (z := (⟨"com/example/upfront_duty/upfrontduty/algebra/Role", "equals", "(Ljava/lang/Object;)Z"⟩ : MethodName)) hown (mvT hZ (hw _ (List.mem_of_getElem? (i := 55) rfl))) (mvT hZ (hw _ (List.mem_of_getElem? (i := 56) rfl))) (notFace_of_selects (args := #[]) (mvT hZ (hw _ (List.mem_of_getElem? (i := 58) rfl)))) (mvT hZ (hw _ (List.mem_of_getElem? (i := 58) rfl))) (mvT hZ (hw _ (List.mem_of_getElem? (i := 57) rfl))) (by decide) (backOf (W := 0) (rmRE21 lL Z a0 hw [] b185 b188 p183 d183 k183' p184 d184 k184' cs x0 x1 y0 0 T189.heap n0 ra rb sa sb nss (S_cs.ext O.2) hcs cx0 cx1 cy0 rfl (Or.inl rfl)) hZ (hw _ (List.mem_of_getElem? (i := 59) rfl)) (hw _ (List.mem_of_getElem? (i := 36) rfl)) (by decide) (by decide)) q190a q190c (g := (mkF mM 178 #[.val (.int u0), .val (.int u1), .val (.int u2), .val (.int u3), .val (.int u4), .val (.int u5), .val (.int x0), .val (.int x1), .val (.int y0), .val (.int y1), .val (.int (1 : Int32)), .val (.int (0 : Int32)), .val (.ref p183), .val (.ref p184), .val (.ref b185), .val (.int ((u5 >>> ((2 : Int32) &&& 31)) &&& (3 : Int32))), .val (.ref b188), .val (.int (0 : Int32))] [(.ref b188), (.ref b185)])) rfl (by rw [hml]; rfl) (Steps.refl _) (argsL := [(.ref b188)]) (rest := []) (lenOf pd__28Ljava_2flang_2fObject_3b_29Z rfl) rfl (by show 2 * 0 + _ ≤ _; exact Nat.le_of_eq rfl) (hb hby at_178) (fun _ _ => ⟨rfl, e189, (by decide : 12 + 0 ≤ _), (by decide : 56 + 0 ≤ _)⟩)
    dsimp only [Pt.U, Pt.locs, Pt.cells, Pt.slots] at X190 l190 y190 z190 st190 hQ190
    subst l190 y190 z190
    obtain ⟨rfl, N190q, e190⟩ := hQ190
    have N190 := Fr.app N189 N190q
    refine own_stW (A := T190.setTop (mkF mM 181 #[.val (.int u0), .val (.int u1), .val (.int u2), .val (.int u3), .val (.int u4), .val (.int u5), .val (.int x0), .val (.int x1), .val (.int y0), .val (.int y1), .val (.int (1 : Int32)), .val (.int (0 : Int32)), .val (.ref p183), .val (.ref p184), .val (.ref b185), .val (.int ((u5 >>> ((2 : Int32) &&& 31)) &&& (3 : Int32))), .val (.ref b188), .val (.int (0 : Int32))] [(.int (0 : Int32))])) (fun tT_ kK_ => st190.trans kK_) ?_
    refine own_stW (A := T190.setTop (mkF mM 183 #[.val (.int u0), .val (.int u1), .val (.int u2), .val (.int u3), .val (.int u4), .val (.int u5), .val (.int x0), .val (.int x1), .val (.int y0), .val (.int y1), .val (.int (1 : Int32)), .val (.int (0 : Int32)), .val (.ref p183), .val (.ref p184), .val (.ref b185), .val (.int ((u5 >>> ((2 : Int32) &&& 31)) &&& (3 : Int32))), .val (.ref b188), .val (.int (0 : Int32))] [(.int (0 : Int32)), (.int (0 : Int32))])) (fun tT_ kK_ => XS.iload X190.here hx rfl (hb hby at_181) rfl kK_) ?_
    refine own_stW (A := T190.setTop (mkF mM 186 #[.val (.int u0), .val (.int u1), .val (.int u2), .val (.int u3), .val (.int u4), .val (.int u5), .val (.int x0), .val (.int x1), .val (.int y0), .val (.int y1), .val (.int (1 : Int32)), .val (.int (0 : Int32)), .val (.ref p183), .val (.ref p184), .val (.ref b185), .val (.int ((u5 >>> ((2 : Int32) &&& 31)) &&& (3 : Int32))), .val (.ref b188), .val (.int (0 : Int32))] [])) (fun tT_ kK_ => XS.icmpNo X190.here hx rfl (hb hby at_183) rfl (teq (by decide : ((0 : Int32) = (0 : Int32)))).2 kK_) ?_
    refine own_stW (A := T190.setTop (mkF mM 188 #[.val (.int u0), .val (.int u1), .val (.int u2), .val (.int u3), .val (.int u4), .val (.int u5), .val (.int x0), .val (.int x1), .val (.int y0), .val (.int y1), .val (.int (1 : Int32)), .val (.int (0 : Int32)), .val (.ref p183), .val (.ref p184), .val (.ref b185), .val (.int ((u5 >>> ((2 : Int32) &&& 31)) &&& (3 : Int32))), .val (.ref b188), .val (.int (0 : Int32))] [(.ref b188)])) (fun tT_ kK_ => XS.aload X190.here hx rfl (hb hby at_186) rfl rfl kK_) ?_
    refine own_stW (A := T190.setTop (mkF mM 190 #[.val (.int u0), .val (.int u1), .val (.int u2), .val (.int u3), .val (.int u4), .val (.int u5), .val (.int x0), .val (.int x1), .val (.int y0), .val (.int y1), .val (.int (1 : Int32)), .val (.int (0 : Int32)), .val (.ref p183), .val (.ref p184), .val (.ref b185), .val (.int ((u5 >>> ((2 : Int32) &&& 31)) &&& (3 : Int32))), .val (.ref b188), .val (.int (0 : Int32))] [(.ref b185), (.ref b188)])) (fun tT_ kK_ => XS.aload X190.here hx rfl (hb hby at_188) rfl rfl kK_) ?_
    obtain ⟨cq191, kq191, q191a, q191b, q191c⟩ := isOf hZ e190 rb.1
    obtain ⟨_, _, ⟨T191, L191, k191, n191⟩, -, X191, ⟨Lc191, hQ191, l191, y191, z191⟩, st191⟩ := X190.virtualBack hx (y := (⟨"com/example/upfront_duty/upfrontduty/algebra/Role", "equals", "(Ljava/lang/Object;)Z"⟩ : MethodName)) (z := (⟨"com/example/upfront_duty/upfrontduty/algebra/Role", "equals", "(Ljava/lang/Object;)Z"⟩ : MethodName)) hown (mvT hZ (hw _ (List.mem_of_getElem? (i := 55) rfl))) (mvT hZ (hw _ (List.mem_of_getElem? (i := 56) rfl))) (notFace_of_selects (args := #[]) (mvT hZ (hw _ (List.mem_of_getElem? (i := 58) rfl)))) (mvT hZ (hw _ (List.mem_of_getElem? (i := 58) rfl))) (mvT hZ (hw _ (List.mem_of_getElem? (i := 57) rfl))) (by decide) (backOf (W := 0) (rmRE12 lL Z a0 hw [] b188 b185 p184 d184 k184' p183 d183 k183' cs y0 x0 x1 0 T189.heap n0 rb ra sb sa nss.symm (S_cs.ext O.2) hcs cy0 cx0 cx1 rfl (Or.inl rfl)) hZ (hw _ (List.mem_of_getElem? (i := 59) rfl)) (hw _ (List.mem_of_getElem? (i := 36) rfl)) (by decide) (by decide)) q191a q191c (g := (mkF mM 190 #[.val (.int u0), .val (.int u1), .val (.int u2), .val (.int u3), .val (.int u4), .val (.int u5), .val (.int x0), .val (.int x1), .val (.int y0), .val (.int y1), .val (.int (1 : Int32)), .val (.int (0 : Int32)), .val (.ref p183), .val (.ref p184), .val (.ref b185), .val (.int ((u5 >>> ((2 : Int32) &&& 31)) &&& (3 : Int32))), .val (.ref b188), .val (.int (0 : Int32))] [(.ref b185), (.ref b188)])) rfl (by rw [hml]; rfl) (Steps.refl _) (argsL := [(.ref b185)]) (rest := []) (lenOf pd__28Ljava_2flang_2fObject_3b_29Z rfl) rfl (by show 2 * 0 + _ ≤ _; exact Nat.le_of_eq rfl) (hb hby at_190) (fun _ _ => ⟨rfl, e190, (by decide : 12 + 0 ≤ _), (by decide : 56 + 0 ≤ _)⟩)
    dsimp only [Pt.U, Pt.locs, Pt.cells, Pt.slots] at X191 l191 y191 z191 st191 hQ191
    subst l191 y191 z191
    obtain ⟨rfl, N191q, e191⟩ := hQ191
    have N191 := Fr.app N190 N191q
    refine own_stW (A := T191.setTop (mkF mM 193 #[.val (.int u0), .val (.int u1), .val (.int u2), .val (.int u3), .val (.int u4), .val (.int u5), .val (.int x0), .val (.int x1), .val (.int y0), .val (.int y1), .val (.int (1 : Int32)), .val (.int (0 : Int32)), .val (.ref p183), .val (.ref p184), .val (.ref b185), .val (.int ((u5 >>> ((2 : Int32) &&& 31)) &&& (3 : Int32))), .val (.ref b188), .val (.int (0 : Int32))] [(.int (0 : Int32))])) (fun tT_ kK_ => st191.trans kK_) ?_
    refine own_stW (A := T191.setTop (mkF mM 195 #[.val (.int u0), .val (.int u1), .val (.int u2), .val (.int u3), .val (.int u4), .val (.int u5), .val (.int x0), .val (.int x1), .val (.int y0), .val (.int y1), .val (.int (1 : Int32)), .val (.int (0 : Int32)), .val (.ref p183), .val (.ref p184), .val (.ref b185), .val (.int ((u5 >>> ((2 : Int32) &&& 31)) &&& (3 : Int32))), .val (.ref b188), .val (.int (0 : Int32))] [(.int (0 : Int32)), (.int (0 : Int32))])) (fun tT_ kK_ => XS.iload X191.here hx rfl (hb hby at_193) rfl kK_) ?_
    refine own_stW (A := T191.setTop (mkF mM 198 #[.val (.int u0), .val (.int u1), .val (.int u2), .val (.int u3), .val (.int u4), .val (.int u5), .val (.int x0), .val (.int x1), .val (.int y0), .val (.int y1), .val (.int (1 : Int32)), .val (.int (0 : Int32)), .val (.ref p183), .val (.ref p184), .val (.ref b185), .val (.int ((u5 >>> ((2 : Int32) &&& 31)) &&& (3 : Int32))), .val (.ref b188), .val (.int (0 : Int32))] [])) (fun tT_ kK_ => XS.icmpNo X191.here hx rfl (hb hby at_195) rfl (teq (by decide : ((0 : Int32) = (0 : Int32)))).2 kK_) ?_
    refine own_stW (A := T191.setTop (mkF mM 200 #[.val (.int u0), .val (.int u1), .val (.int u2), .val (.int u3), .val (.int u4), .val (.int u5), .val (.int x0), .val (.int x1), .val (.int y0), .val (.int y1), .val (.int (1 : Int32)), .val (.int (0 : Int32)), .val (.ref p183), .val (.ref p184), .val (.ref b185), .val (.int ((u5 >>> ((2 : Int32) &&& 31)) &&& (3 : Int32))), .val (.ref b188), .val (.int (0 : Int32))] [(.ref b185)])) (fun tT_ kK_ => XS.aload X191.here hx rfl (hb hby at_198) rfl rfl kK_) ?_
    refine own_stW (A := T191.setTop (mkF mM 202 #[.val (.int u0), .val (.int u1), .val (.int u2), .val (.int u3), .val (.int u4), .val (.int u5), .val (.int x0), .val (.int x1), .val (.int y0), .val (.int y1), .val (.int (1 : Int32)), .val (.int (0 : Int32)), .val (.ref p183), .val (.ref p184), .val (.ref b185), .val (.int ((u5 >>> ((2 : Int32) &&& 31)) &&& (3 : Int32))), .val (.ref b188), .val (.int (0 : Int32))] [(.ref b185), (.ref b185)])) (fun tT_ kK_ => XS.aload X191.here hx rfl (hb hby at_200) rfl rfl kK_) ?_
    obtain ⟨cq192, kq192, q192a, q192b, q192c⟩ := isOf hZ e191 ra.1
    obtain ⟨_, _, ⟨T192, L192, k192, n192⟩, -, X192, ⟨Lc192, hQ192, l192, y192, z192⟩, st192⟩ := X191.virtualBack hx (y := (⟨"com/example/upfront_duty/upfrontduty/algebra/Role", "equals", "(Ljava/lang/Object;)Z"⟩ : MethodName)) (z := (⟨"com/example/upfront_duty/upfrontduty/algebra/Role", "equals", "(Ljava/lang/Object;)Z"⟩ : MethodName)) hown (mvT hZ (hw _ (List.mem_of_getElem? (i := 55) rfl))) (mvT hZ (hw _ (List.mem_of_getElem? (i := 56) rfl))) (notFace_of_selects (args := #[]) (mvT hZ (hw _ (List.mem_of_getElem? (i := 58) rfl)))) (mvT hZ (hw _ (List.mem_of_getElem? (i := 58) rfl))) (mvT hZ (hw _ (List.mem_of_getElem? (i := 57) rfl))) (by decide) (backOf (W := 0) (rmREs lL Z a0 hw [] b185 p183 T189.heap n0 ra sa.1) hZ (hw _ (List.mem_of_getElem? (i := 59) rfl)) (hw _ (List.mem_of_getElem? (i := 36) rfl)) (by decide) (by decide)) q192a q192c (g := (mkF mM 202 #[.val (.int u0), .val (.int u1), .val (.int u2), .val (.int u3), .val (.int u4), .val (.int u5), .val (.int x0), .val (.int x1), .val (.int y0), .val (.int y1), .val (.int (1 : Int32)), .val (.int (0 : Int32)), .val (.ref p183), .val (.ref p184), .val (.ref b185), .val (.int ((u5 >>> ((2 : Int32) &&& 31)) &&& (3 : Int32))), .val (.ref b188), .val (.int (0 : Int32))] [(.ref b185), (.ref b185)])) rfl (by rw [hml]; rfl) (Steps.refl _) (argsL := [(.ref b185)]) (rest := []) (lenOf pd__28Ljava_2flang_2fObject_3b_29Z rfl) rfl (by show 2 * 0 + _ ≤ _; exact Nat.le_of_eq rfl) (hb hby at_202) (fun _ _ => ⟨rfl, e191, (by decide : 12 + 0 ≤ _), (by decide : 56 + 0 ≤ _)⟩)
    dsimp only [Pt.U, Pt.locs, Pt.cells, Pt.slots] at X192 l192 y192 z192 st192 hQ192
    subst l192 y192 z192
    obtain ⟨rfl, N192q, e192⟩ := hQ192
    have N192 := Fr.app N191 N192q
    refine own_stW (A := T192.setTop (mkF mM 205 #[.val (.int u0), .val (.int u1), .val (.int u2), .val (.int u3), .val (.int u4), .val (.int u5), .val (.int x0), .val (.int x1), .val (.int y0), .val (.int y1), .val (.int (1 : Int32)), .val (.int (0 : Int32)), .val (.ref p183), .val (.ref p184), .val (.ref b185), .val (.int ((u5 >>> ((2 : Int32) &&& 31)) &&& (3 : Int32))), .val (.ref b188), .val (.int (0 : Int32))] [(.int (1 : Int32))])) (fun tT_ kK_ => st192.trans kK_) ?_
    refine own_stW (A := T192.setTop (mkF mM 208 #[.val (.int u0), .val (.int u1), .val (.int u2), .val (.int u3), .val (.int u4), .val (.int u5), .val (.int x0), .val (.int x1), .val (.int y0), .val (.int y1), .val (.int (1 : Int32)), .val (.int (0 : Int32)), .val (.ref p183), .val (.ref p184), .val (.ref b185), .val (.int ((u5 >>> ((2 : Int32) &&& 31)) &&& (3 : Int32))), .val (.ref b188), .val (.int (0 : Int32))] [])) (fun tT_ kK_ => XS.ifNo X192.here hx rfl (hb hby at_205) rfl ((if0 _ _).trans (feq (by decide : ¬ ((1 : Int32) = (0 : Int32)))).1) kK_) ?_
    refine own_stW (A := T192.setTop (mkF mM 209 #[.val (.int u0), .val (.int u1), .val (.int u2), .val (.int u3), .val (.int u4), .val (.int u5), .val (.int x0), .val (.int x1), .val (.int y0), .val (.int y1), .val (.int (1 : Int32)), .val (.int (0 : Int32)), .val (.ref p183), .val (.ref p184), .val (.ref b185), .val (.int ((u5 >>> ((2 : Int32) &&& 31)) &&& (3 : Int32))), .val (.ref b188), .val (.int (0 : Int32))] [(.int (1 : Int32))])) (fun tT_ kK_ => XS.iconst X192.here hx rfl (hb hby at_208) kK_) ?_
    refine own_stW (A := T192.setTop (mkF mM 213 #[.val (.int u0), .val (.int u1), .val (.int u2), .val (.int u3), .val (.int u4), .val (.int u5), .val (.int x0), .val (.int x1), .val (.int y0), .val (.int y1), .val (.int (1 : Int32)), .val (.int (0 : Int32)), .val (.ref p183), .val (.ref p184), .val (.ref b185), .val (.int ((u5 >>> ((2 : Int32) &&& 31)) &&& (3 : Int32))), .val (.ref b188), .val (.int (0 : Int32))] [(.int (1 : Int32))])) (fun tT_ kK_ => XS.goto X192.here hx rfl (pc0 := 209) (pc' := 213) rfl (hb hby at_209) (by decide) (by decide) kK_) ?_
    exact own_retWN X192 hx hlk hS (by rw [e192]; exact hk) (t := .boolean) hret (by simp) (hb hby at_213) ⟨rfl, N192⟩ (by decide) (by decide)
  · skip
    refine own_stW (A := T186.setTop (mkF mM 214 #[.val (.int u0), .val (.int u1), .val (.int u2), .val (.int u3), .val (.int u4), .val (.int u5), .val (.int x0), .val (.int x1), .val (.int y0), .val (.int y1), .val (.int (1 : Int32)), .val (.int (0 : Int32)), .val (.ref p183), .val (.ref p184), .val (.ref b185), .val (.int ((u5 >>> ((2 : Int32) &&& 31)) &&& (3 : Int32))), .unset, .unset] [])) (fun tT_ kK_ => XS.ifYes X186.here hx rfl (pc0 := 127) (pc' := 214) rfl (hb hby at_127) rfl ((if0 _ _).trans (feq hc127_187).2) (by decide) (by decide) kK_) ?_
    refine own_stW (A := T186.setTop (mkF mM 216 #[.val (.int u0), .val (.int u1), .val (.int u2), .val (.int u3), .val (.int u4), .val (.int u5), .val (.int x0), .val (.int x1), .val (.int y0), .val (.int y1), .val (.int (1 : Int32)), .val (.int (0 : Int32)), .val (.ref p183), .val (.ref p184), .val (.ref b185), .val (.int ((u5 >>> ((2 : Int32) &&& 31)) &&& (3 : Int32))), .unset, .unset] [(.int ((u5 >>> ((2 : Int32) &&& 31)) &&& (3 : Int32)))])) (fun tT_ kK_ => XS.iload X186.here hx rfl (hb hby at_214) rfl kK_) ?_
    refine own_stW (A := T186.setTop (mkF mM 217 #[.val (.int u0), .val (.int u1), .val (.int u2), .val (.int u3), .val (.int u4), .val (.int u5), .val (.int x0), .val (.int x1), .val (.int y0), .val (.int y1), .val (.int (1 : Int32)), .val (.int (0 : Int32)), .val (.ref p183), .val (.ref p184), .val (.ref b185), .val (.int ((u5 >>> ((2 : Int32) &&& 31)) &&& (3 : Int32))), .unset, .unset] [(.int (1 : Int32)), (.int ((u5 >>> ((2 : Int32) &&& 31)) &&& (3 : Int32)))])) (fun tT_ kK_ => XS.iconst X186.here hx rfl (hb hby at_216) kK_) ?_
    by_cases hc217_193 : ((u5 >>> ((2 : Int32) &&& 31)) &&& (3 : Int32)) = (1 : Int32)
    · skip
      refine own_stW (A := T186.setTop (mkF mM 220 #[.val (.int u0), .val (.int u1), .val (.int u2), .val (.int u3), .val (.int u4), .val (.int u5), .val (.int x0), .val (.int x1), .val (.int y0), .val (.int y1), .val (.int (1 : Int32)), .val (.int (0 : Int32)), .val (.ref p183), .val (.ref p184), .val (.ref b185), .val (.int ((u5 >>> ((2 : Int32) &&& 31)) &&& (3 : Int32))), .unset, .unset] [])) (fun tT_ kK_ => XS.icmpNo X186.here hx rfl (hb hby at_217) rfl (teq hc217_193).2 kK_) ?_
      refine own_stW (A := T186.setTop (mkF mM 222 #[.val (.int u0), .val (.int u1), .val (.int u2), .val (.int u3), .val (.int u4), .val (.int u5), .val (.int x0), .val (.int x1), .val (.int y0), .val (.int y1), .val (.int (1 : Int32)), .val (.int (0 : Int32)), .val (.ref p183), .val (.ref p184), .val (.ref b185), .val (.int ((u5 >>> ((2 : Int32) &&& 31)) &&& (3 : Int32))), .unset, .unset] [(.ref b185)])) (fun tT_ kK_ => XS.aload X186.here hx rfl (hb hby at_220) rfl rfl kK_) ?_
      refine own_stW (A := T186.setTop (mkF mM 223 #[.val (.int u0), .val (.int u1), .val (.int u2), .val (.int u3), .val (.int u4), .val (.int u5), .val (.int x0), .val (.int x1), .val (.int y0), .val (.int y1), .val (.int (1 : Int32)), .val (.int (0 : Int32)), .val (.ref p183), .val (.ref p184), .val (.ref b185), .val (.int ((u5 >>> ((2 : Int32) &&& 31)) &&& (3 : Int32))), .unset, .unset] [.null, (.ref b185)])) (fun tT_ kK_ => XS.aconstNull X186.here hx rfl (hb hby at_222) kK_) ?_
      obtain ⟨cq194, kq194, q194a, q194b, q194c⟩ := isOf hZ e186 ra.1
      obtain ⟨_, _, ⟨T194, L194, k194, n194⟩, -, X194, ⟨Lc194, hQ194, l194, y194, z194⟩, st194⟩ := X186.virtualBack hx (y := (⟨"com/example/upfront_duty/upfrontduty/algebra/Role", "equals", "(Ljava/lang/Object;)Z"⟩ : MethodName)) (z := (⟨"com/example/upfront_duty/upfrontduty/algebra/Role", "equals", "(Ljava/lang/Object;)Z"⟩ : MethodName)) hown (mvT hZ (hw _ (List.mem_of_getElem? (i := 55) rfl))) (mvT hZ (hw _ (List.mem_of_getElem? (i := 56) rfl))) (notFace_of_selects (args := #[]) (mvT hZ (hw _ (List.mem_of_getElem? (i := 58) rfl)))) (mvT hZ (hw _ (List.mem_of_getElem? (i := 58) rfl))) (mvT hZ (hw _ (List.mem_of_getElem? (i := 57) rfl))) (by decide) (backOf (W := 0) (rmREn lL Z a0 hw [] b185 T186.heap n0 ) hZ (hw _ (List.mem_of_getElem? (i := 59) rfl)) (hw _ (List.mem_of_getElem? (i := 36) rfl)) (by decide) (by decide)) q194a q194c (g := (mkF mM 223 #[.val (.int u0), .val (.int u1), .val (.int u2), .val (.int u3), .val (.int u4), .val (.int u5), .val (.int x0), .val (.int x1), .val (.int y0), .val (.int y1), .val (.int (1 : Int32)), .val (.int (0 : Int32)), .val (.ref p183), .val (.ref p184), .val (.ref b185), .val (.int ((u5 >>> ((2 : Int32) &&& 31)) &&& (3 : Int32))), .unset, .unset] [.null, (.ref b185)])) rfl (by rw [hml]; rfl) (Steps.refl _) (argsL := [.null]) (rest := []) (lenOf pd__28Ljava_2flang_2fObject_3b_29Z rfl) rfl (by show 2 * 0 + _ ≤ _; exact Nat.le_of_eq rfl) (hb hby at_223) (fun _ _ => ⟨rfl, e186, (by decide : 9 + 0 ≤ _), (by decide : 35 + 0 ≤ _)⟩)
      dsimp only [Pt.U, Pt.locs, Pt.cells, Pt.slots] at X194 l194 y194 z194 st194 hQ194
      subst l194 y194 z194
      obtain ⟨rfl, N194q, e194⟩ := hQ194
      have N194 := Fr.app N186 N194q
      refine own_stW (A := T194.setTop (mkF mM 226 #[.val (.int u0), .val (.int u1), .val (.int u2), .val (.int u3), .val (.int u4), .val (.int u5), .val (.int x0), .val (.int x1), .val (.int y0), .val (.int y1), .val (.int (1 : Int32)), .val (.int (0 : Int32)), .val (.ref p183), .val (.ref p184), .val (.ref b185), .val (.int ((u5 >>> ((2 : Int32) &&& 31)) &&& (3 : Int32))), .unset, .unset] [(.int (0 : Int32))])) (fun tT_ kK_ => st194.trans kK_) ?_
      refine own_stW (A := T194.setTop (mkF mM 229 #[.val (.int u0), .val (.int u1), .val (.int u2), .val (.int u3), .val (.int u4), .val (.int u5), .val (.int x0), .val (.int x1), .val (.int y0), .val (.int y1), .val (.int (1 : Int32)), .val (.int (0 : Int32)), .val (.ref p183), .val (.ref p184), .val (.ref b185), .val (.int ((u5 >>> ((2 : Int32) &&& 31)) &&& (3 : Int32))), .unset, .unset] [])) (fun tT_ kK_ => XS.ifNo X194.here hx rfl (hb hby at_226) rfl ((if0 _ _).trans (teq (by decide : ((0 : Int32) = (0 : Int32)))).2) kK_) ?_
      refine own_stW (A := T194.setTop (mkF mM 230 #[.val (.int u0), .val (.int u1), .val (.int u2), .val (.int u3), .val (.int u4), .val (.int u5), .val (.int x0), .val (.int x1), .val (.int y0), .val (.int y1), .val (.int (1 : Int32)), .val (.int (0 : Int32)), .val (.ref p183), .val (.ref p184), .val (.ref b185), .val (.int ((u5 >>> ((2 : Int32) &&& 31)) &&& (3 : Int32))), .unset, .unset] [(.int (1 : Int32))])) (fun tT_ kK_ => XS.iconst X194.here hx rfl (hb hby at_229) kK_) ?_
      refine own_stW (A := T194.setTop (mkF mM 234 #[.val (.int u0), .val (.int u1), .val (.int u2), .val (.int u3), .val (.int u4), .val (.int u5), .val (.int x0), .val (.int x1), .val (.int y0), .val (.int y1), .val (.int (1 : Int32)), .val (.int (0 : Int32)), .val (.ref p183), .val (.ref p184), .val (.ref b185), .val (.int ((u5 >>> ((2 : Int32) &&& 31)) &&& (3 : Int32))), .unset, .unset] [(.int (1 : Int32))])) (fun tT_ kK_ => XS.goto X194.here hx rfl (pc0 := 230) (pc' := 234) rfl (hb hby at_230) (by decide) (by decide) kK_) ?_
      exact own_retWN X194 hx hlk hS (by rw [e194]; exact hk) (t := .boolean) hret (by simp) (hb hby at_234) ⟨rfl, N194⟩ (by decide) (by decide)
    · skip
      refine own_stW (A := T186.setTop (mkF mM 235 #[.val (.int u0), .val (.int u1), .val (.int u2), .val (.int u3), .val (.int u4), .val (.int u5), .val (.int x0), .val (.int x1), .val (.int y0), .val (.int y1), .val (.int (1 : Int32)), .val (.int (0 : Int32)), .val (.ref p183), .val (.ref p184), .val (.ref b185), .val (.int ((u5 >>> ((2 : Int32) &&& 31)) &&& (3 : Int32))), .unset, .unset] [])) (fun tT_ kK_ => XS.icmpYes X186.here hx rfl (pc0 := 217) (pc' := 235) rfl (hb hby at_217) rfl (feq hc217_193).2 (by decide) (by decide) kK_) ?_
      refine own_stW (A := T186.setTop (mkF mM 237 #[.val (.int u0), .val (.int u1), .val (.int u2), .val (.int u3), .val (.int u4), .val (.int u5), .val (.int x0), .val (.int x1), .val (.int y0), .val (.int y1), .val (.int (1 : Int32)), .val (.int (0 : Int32)), .val (.ref p183), .val (.ref p184), .val (.ref b185), .val (.int ((u5 >>> ((2 : Int32) &&& 31)) &&& (3 : Int32))), .unset, .unset] [(.int ((u5 >>> ((2 : Int32) &&& 31)) &&& (3 : Int32)))])) (fun tT_ kK_ => XS.iload X186.here hx rfl (hb hby at_235) rfl kK_) ?_
      refine own_stW (A := T186.setTop (mkF mM 238 #[.val (.int u0), .val (.int u1), .val (.int u2), .val (.int u3), .val (.int u4), .val (.int u5), .val (.int x0), .val (.int x1), .val (.int y0), .val (.int y1), .val (.int (1 : Int32)), .val (.int (0 : Int32)), .val (.ref p183), .val (.ref p184), .val (.ref b185), .val (.int ((u5 >>> ((2 : Int32) &&& 31)) &&& (3 : Int32))), .unset, .unset] [(.int (2 : Int32)), (.int ((u5 >>> ((2 : Int32) &&& 31)) &&& (3 : Int32)))])) (fun tT_ kK_ => XS.iconst X186.here hx rfl (hb hby at_237) kK_) ?_
      by_cases hc238_195 : ((u5 >>> ((2 : Int32) &&& 31)) &&& (3 : Int32)) = (2 : Int32)
      · skip
        refine own_stW (A := T186.setTop (mkF mM 241 #[.val (.int u0), .val (.int u1), .val (.int u2), .val (.int u3), .val (.int u4), .val (.int u5), .val (.int x0), .val (.int x1), .val (.int y0), .val (.int y1), .val (.int (1 : Int32)), .val (.int (0 : Int32)), .val (.ref p183), .val (.ref p184), .val (.ref b185), .val (.int ((u5 >>> ((2 : Int32) &&& 31)) &&& (3 : Int32))), .unset, .unset] [])) (fun tT_ kK_ => XS.icmpNo X186.here hx rfl (hb hby at_238) rfl (teq hc238_195).2 kK_) ?_
        refine own_stW (A := T186.setTop (mkF mM 243 #[.val (.int u0), .val (.int u1), .val (.int u2), .val (.int u3), .val (.int u4), .val (.int u5), .val (.int x0), .val (.int x1), .val (.int y0), .val (.int y1), .val (.int (1 : Int32)), .val (.int (0 : Int32)), .val (.ref p183), .val (.ref p184), .val (.ref b185), .val (.int ((u5 >>> ((2 : Int32) &&& 31)) &&& (3 : Int32))), .unset, .unset] [(.ref b185)])) (fun tT_ kK_ => XS.aload X186.here hx rfl (hb hby at_241) rfl rfl kK_) ?_
        refine own_stW (A := T186.setTop (mkF mM 245 #[.val (.int u0), .val (.int u1), .val (.int u2), .val (.int u3), .val (.int u4), .val (.int u5), .val (.int x0), .val (.int x1), .val (.int y0), .val (.int y1), .val (.int (1 : Int32)), .val (.int (0 : Int32)), .val (.ref p183), .val (.ref p184), .val (.ref b185), .val (.int ((u5 >>> ((2 : Int32) &&& 31)) &&& (3 : Int32))), .unset, .unset] [(.ref p183), (.ref b185)])) (fun tT_ kK_ => XS.aload X186.here hx rfl (hb hby at_243) rfl rfl kK_) ?_
        obtain ⟨cq196, kq196, q196a, q196b, q196c⟩ := isOf hZ e186 ra.1
        obtain ⟨_, _, ⟨T196, L196, k196, n196⟩, -, X196, ⟨Lc196, hQ196, l196, y196, z196⟩, st196⟩ := X186.virtualBack hx (y := (⟨"com/example/upfront_duty/upfrontduty/algebra/Role", "equals", "(Ljava/lang/Object;)Z"⟩ : MethodName)) (z := (⟨"com/example/upfront_duty/upfrontduty/algebra/Role", "equals", "(Ljava/lang/Object;)Z"⟩ : MethodName)) hown (mvT hZ (hw _ (List.mem_of_getElem? (i := 55) rfl))) (mvT hZ (hw _ (List.mem_of_getElem? (i := 56) rfl))) (notFace_of_selects (args := #[]) (mvT hZ (hw _ (List.mem_of_getElem? (i := 58) rfl)))) (mvT hZ (hw _ (List.mem_of_getElem? (i := 58) rfl))) (mvT hZ (hw _ (List.mem_of_getElem? (i := 57) rfl))) (by decide) (backOf (W := 0) (rmREo0 lL Z a0 hw [] b185 p183 T186.heap n0 sa.1) hZ (hw _ (List.mem_of_getElem? (i := 59) rfl)) (hw _ (List.mem_of_getElem? (i := 36) rfl)) (by decide) (by decide)) q196a q196c (g := (mkF mM 245 #[.val (.int u0), .val (.int u1), .val (.int u2), .val (.int u3), .val (.int u4), .val (.int u5), .val (.int x0), .val (.int x1), .val (.int y0), .val (.int y1), .val (.int (1 : Int32)), .val (.int (0 : Int32)), .val (.ref p183), .val (.ref p184), .val (.ref b185), .val (.int ((u5 >>> ((2 : Int32) &&& 31)) &&& (3 : Int32))), .unset, .unset] [(.ref p183), (.ref b185)])) rfl (by rw [hml]; rfl) (Steps.refl _) (argsL := [(.ref p183)]) (rest := []) (lenOf pd__28Ljava_2flang_2fObject_3b_29Z rfl) rfl (by show 2 * 0 + _ ≤ _; exact Nat.le_of_eq rfl) (hb hby at_245) (fun _ _ => ⟨rfl, e186, (by decide : 9 + 0 ≤ _), (by decide : 35 + 0 ≤ _)⟩)
        dsimp only [Pt.U, Pt.locs, Pt.cells, Pt.slots] at X196 l196 y196 z196 st196 hQ196
        subst l196 y196 z196
        obtain ⟨rfl, N196q, e196⟩ := hQ196
        have N196 := Fr.app N186 N196q
        refine own_stW (A := T196.setTop (mkF mM 248 #[.val (.int u0), .val (.int u1), .val (.int u2), .val (.int u3), .val (.int u4), .val (.int u5), .val (.int x0), .val (.int x1), .val (.int y0), .val (.int y1), .val (.int (1 : Int32)), .val (.int (0 : Int32)), .val (.ref p183), .val (.ref p184), .val (.ref b185), .val (.int ((u5 >>> ((2 : Int32) &&& 31)) &&& (3 : Int32))), .unset, .unset] [(.int (0 : Int32))])) (fun tT_ kK_ => st196.trans kK_) ?_
        refine own_stW (A := T196.setTop (mkF mM 251 #[.val (.int u0), .val (.int u1), .val (.int u2), .val (.int u3), .val (.int u4), .val (.int u5), .val (.int x0), .val (.int x1), .val (.int y0), .val (.int y1), .val (.int (1 : Int32)), .val (.int (0 : Int32)), .val (.ref p183), .val (.ref p184), .val (.ref b185), .val (.int ((u5 >>> ((2 : Int32) &&& 31)) &&& (3 : Int32))), .unset, .unset] [])) (fun tT_ kK_ => XS.ifNo X196.here hx rfl (hb hby at_248) rfl ((if0 _ _).trans (teq (by decide : ((0 : Int32) = (0 : Int32)))).2) kK_) ?_
        refine own_stW (A := T196.setTop (mkF mM 252 #[.val (.int u0), .val (.int u1), .val (.int u2), .val (.int u3), .val (.int u4), .val (.int u5), .val (.int x0), .val (.int x1), .val (.int y0), .val (.int y1), .val (.int (1 : Int32)), .val (.int (0 : Int32)), .val (.ref p183), .val (.ref p184), .val (.ref b185), .val (.int ((u5 >>> ((2 : Int32) &&& 31)) &&& (3 : Int32))), .unset, .unset] [(.int (1 : Int32))])) (fun tT_ kK_ => XS.iconst X196.here hx rfl (hb hby at_251) kK_) ?_
        refine own_stW (A := T196.setTop (mkF mM 256 #[.val (.int u0), .val (.int u1), .val (.int u2), .val (.int u3), .val (.int u4), .val (.int u5), .val (.int x0), .val (.int x1), .val (.int y0), .val (.int y1), .val (.int (1 : Int32)), .val (.int (0 : Int32)), .val (.ref p183), .val (.ref p184), .val (.ref b185), .val (.int ((u5 >>> ((2 : Int32) &&& 31)) &&& (3 : Int32))), .unset, .unset] [(.int (1 : Int32))])) (fun tT_ kK_ => XS.goto X196.here hx rfl (pc0 := 252) (pc' := 256) rfl (hb hby at_252) (by decide) (by decide) kK_) ?_
        exact own_retWN X196 hx hlk hS (by rw [e196]; exact hk) (t := .boolean) hret (by simp) (hb hby at_256) ⟨rfl, N196⟩ (by decide) (by decide)
      · skip
        refine own_stW (A := T186.setTop (mkF mM 257 #[.val (.int u0), .val (.int u1), .val (.int u2), .val (.int u3), .val (.int u4), .val (.int u5), .val (.int x0), .val (.int x1), .val (.int y0), .val (.int y1), .val (.int (1 : Int32)), .val (.int (0 : Int32)), .val (.ref p183), .val (.ref p184), .val (.ref b185), .val (.int ((u5 >>> ((2 : Int32) &&& 31)) &&& (3 : Int32))), .unset, .unset] [])) (fun tT_ kK_ => XS.icmpYes X186.here hx rfl (pc0 := 238) (pc' := 257) rfl (hb hby at_238) rfl (feq hc238_195).2 (by decide) (by decide) kK_) ?_
        refine own_stW (A := T186.setTop (mkF mM 259 #[.val (.int u0), .val (.int u1), .val (.int u2), .val (.int u3), .val (.int u4), .val (.int u5), .val (.int x0), .val (.int x1), .val (.int y0), .val (.int y1), .val (.int (1 : Int32)), .val (.int (0 : Int32)), .val (.ref p183), .val (.ref p184), .val (.ref b185), .val (.int ((u5 >>> ((2 : Int32) &&& 31)) &&& (3 : Int32))), .unset, .unset] [(.ref b185)])) (fun tT_ kK_ => XS.aload X186.here hx rfl (hb hby at_257) rfl rfl kK_) ?_
        obtain ⟨T197, X197, e197, st197⟩ := getS2 X186 hx hZ hown (host := "") (Or.inl (hw _ (List.mem_of_getElem? (i := 72) rfl))) Via.refl e186 (S_au.ext O.2) (g := (mkF mM 259 #[.val (.int u0), .val (.int u1), .val (.int u2), .val (.int u3), .val (.int u4), .val (.int u5), .val (.int x0), .val (.int x1), .val (.int y0), .val (.int y1), .val (.int (1 : Int32)), .val (.int (0 : Int32)), .val (.ref p183), .val (.ref p184), .val (.ref b185), .val (.int ((u5 >>> ((2 : Int32) &&& 31)) &&& (3 : Int32))), .unset, .unset] [(.ref b185)])) rfl (hb hby at_259)
        refine own_stW (A := T197.setTop (mkF mM 262 #[.val (.int u0), .val (.int u1), .val (.int u2), .val (.int u3), .val (.int u4), .val (.int u5), .val (.int x0), .val (.int x1), .val (.int y0), .val (.int y1), .val (.int (1 : Int32)), .val (.int (0 : Int32)), .val (.ref p183), .val (.ref p184), .val (.ref b185), .val (.int ((u5 >>> ((2 : Int32) &&& 31)) &&& (3 : Int32))), .unset, .unset] [(.ref au), (.ref b185)])) (fun tT_ kK_ => st197 tT_ kK_) ?_
        obtain ⟨cq198, kq198, q198a, q198b, q198c⟩ := isOf hZ e197 ra.1
        obtain ⟨_, _, ⟨T198, L198, k198, n198⟩, -, X198, ⟨Lc198, hQ198, l198, y198, z198⟩, st198⟩ := X197.virtualBack hx (y := (⟨"com/example/upfront_duty/upfrontduty/algebra/Role", "equals", "(Ljava/lang/Object;)Z"⟩ : MethodName)) (z := (⟨"com/example/upfront_duty/upfrontduty/algebra/Role", "equals", "(Ljava/lang/Object;)Z"⟩ : MethodName)) hown (mvT hZ (hw _ (List.mem_of_getElem? (i := 55) rfl))) (mvT hZ (hw _ (List.mem_of_getElem? (i := 56) rfl))) (notFace_of_selects (args := #[]) (mvT hZ (hw _ (List.mem_of_getElem? (i := 58) rfl)))) (mvT hZ (hw _ (List.mem_of_getElem? (i := 58) rfl))) (mvT hZ (hw _ (List.mem_of_getElem? (i := 57) rfl))) (by decide) (backOf (W := 0) (rmREo1 lL Z a0 hw [] b185 au T186.heap n0 (E_au.ext O.2)) hZ (hw _ (List.mem_of_getElem? (i := 59) rfl)) (hw _ (List.mem_of_getElem? (i := 36) rfl)) (by decide) (by decide)) q198a q198c (g := (mkF mM 262 #[.val (.int u0), .val (.int u1), .val (.int u2), .val (.int u3), .val (.int u4), .val (.int u5), .val (.int x0), .val (.int x1), .val (.int y0), .val (.int y1), .val (.int (1 : Int32)), .val (.int (0 : Int32)), .val (.ref p183), .val (.ref p184), .val (.ref b185), .val (.int ((u5 >>> ((2 : Int32) &&& 31)) &&& (3 : Int32))), .unset, .unset] [(.ref au), (.ref b185)])) rfl (by rw [hml]; rfl) (Steps.refl _) (argsL := [(.ref au)]) (rest := []) (lenOf pd__28Ljava_2flang_2fObject_3b_29Z rfl) rfl (by show 2 * 0 + _ ≤ _; exact Nat.le_of_eq rfl) (hb hby at_262) (fun _ _ => ⟨rfl, e197, (by decide : 9 + 0 ≤ _), (by decide : 35 + 0 ≤ _)⟩)
        dsimp only [Pt.U, Pt.locs, Pt.cells, Pt.slots] at X198 l198 y198 z198 st198 hQ198
        subst l198 y198 z198
        obtain ⟨rfl, N198q, e198⟩ := hQ198
        have N198 := Fr.app N186 N198q
        refine own_stW (A := T198.setTop (mkF mM 265 #[.val (.int u0), .val (.int u1), .val (.int u2), .val (.int u3), .val (.int u4), .val (.int u5), .val (.int x0), .val (.int x1), .val (.int y0), .val (.int y1), .val (.int (1 : Int32)), .val (.int (0 : Int32)), .val (.ref p183), .val (.ref p184), .val (.ref b185), .val (.int ((u5 >>> ((2 : Int32) &&& 31)) &&& (3 : Int32))), .unset, .unset] [(.int (0 : Int32))])) (fun tT_ kK_ => st198.trans kK_) ?_
        refine own_stW (A := T198.setTop (mkF mM 268 #[.val (.int u0), .val (.int u1), .val (.int u2), .val (.int u3), .val (.int u4), .val (.int u5), .val (.int x0), .val (.int x1), .val (.int y0), .val (.int y1), .val (.int (1 : Int32)), .val (.int (0 : Int32)), .val (.ref p183), .val (.ref p184), .val (.ref b185), .val (.int ((u5 >>> ((2 : Int32) &&& 31)) &&& (3 : Int32))), .unset, .unset] [])) (fun tT_ kK_ => XS.ifNo X198.here hx rfl (hb hby at_265) rfl ((if0 _ _).trans (teq (by decide : ((0 : Int32) = (0 : Int32)))).2) kK_) ?_
        refine own_stW (A := T198.setTop (mkF mM 269 #[.val (.int u0), .val (.int u1), .val (.int u2), .val (.int u3), .val (.int u4), .val (.int u5), .val (.int x0), .val (.int x1), .val (.int y0), .val (.int y1), .val (.int (1 : Int32)), .val (.int (0 : Int32)), .val (.ref p183), .val (.ref p184), .val (.ref b185), .val (.int ((u5 >>> ((2 : Int32) &&& 31)) &&& (3 : Int32))), .unset, .unset] [(.int (1 : Int32))])) (fun tT_ kK_ => XS.iconst X198.here hx rfl (hb hby at_268) kK_) ?_
        refine own_stW (A := T198.setTop (mkF mM 273 #[.val (.int u0), .val (.int u1), .val (.int u2), .val (.int u3), .val (.int u4), .val (.int u5), .val (.int x0), .val (.int x1), .val (.int y0), .val (.int y1), .val (.int (1 : Int32)), .val (.int (0 : Int32)), .val (.ref p183), .val (.ref p184), .val (.ref b185), .val (.int ((u5 >>> ((2 : Int32) &&& 31)) &&& (3 : Int32))), .unset, .unset] [(.int (1 : Int32))])) (fun tT_ kK_ => XS.goto X198.here hx rfl (pc0 := 269) (pc' := 273) rfl (hb hby at_269) (by decide) (by decide) kK_) ?_
        exact own_retWN X198 hx hlk hS (by rw [e198]; exact hk) (t := .boolean) hret (by simp) (hb hby at_273) ⟨rfl, N198⟩ (by decide) (by decide)
set_option maxRecDepth 65536 in
set_option maxHeartbeats 40000000 in
theorem J84_11 {pP : Program} {lL : Launch} {eE : Env} {sS : State} {mM : MethodId} {args : Array Value} {below : List Frame} {meth : Method} {cC : Code} {T0 : State} {locs : List Loc} {Z : State} {a0 : Array Value} {h0 : Heap} {n0 : Nat} {vmV : Vm} (hw : ∀ d ∈ tables_1, d.before a0 Z = true) (X0 : Stand pP lL eE room_1 (sS.setVm vmV) mM args below meth cC T0 locs 0 0) (hx : pP.tables.exec = Jvm.exec) (hZ : Z.Warmed39 (sS.setVm vmV).vm) (hby : cC.code = code) (hml : cC.maxLocals = 18) (hown : (sS.setVm vmV).vm.findClass "com/example/upfront_duty/upfrontduty/algebra/RoleEqualsPinLaw" = some mM.cls) (hlk : meth.locks = false) (hret : meth.sig.returnType = ret) {kV : Nat} (hS : sS.Since vmV kV) (hk : kV ≤ h0.size) (e0 : T0.heap = h0) (N0 : Fr n0 locs) (u0 : Int32) (u1 : Int32) (u2 : Int32) (u3 : Int32) (u4 : Int32) (u5 : Int32) (x0 : Int32) (x1 : Int32) (y0 : Int32) (y1 : Int32) (cs : Int32) (au : Addr) (O : Old Z n0 h0) (Zn : n0 ≤ h0.size) (S_cs : Sta Z Z.heap "java/lang/String" "COMPACT_STRINGS" "Z" (.int cs)) (hcs : ¬ cs = (0 : Int32)) (S_au : Sta Z Z.heap "com/example/upfront_duty/upfrontduty/algebra/AllUsers" "INSTANCE" "Lcom/example/upfront_duty/upfrontduty/algebra/AllUsers;" (.ref au)) (E_au : Exa Z Z.heap au "com/example/upfront_duty/upfrontduty/algebra/AllUsers") (cx0 : Ck x0) (cx1 : Ck x1) (cy0 : Ck y0) (cy1 : Ck y1) :
    own_GoW pP eE below sS (QLaw n0) 32 1152 (T0.setTop (mkF mM 84 #[.val (.int u0), .val (.int u1), .val (.int u2), .val (.int u3), .val (.int u4), .val (.int u5), .val (.int x0), .val (.int x1), .val (.int y0), .val (.int y1), .val (.int (1 : Int32)), .val (.int (1 : Int32)), .unset, .unset, .unset, .unset, .unset, .unset] [])) := by
  refine own_stW (A := T0.setTop (mkF mM 86 #[.val (.int u0), .val (.int u1), .val (.int u2), .val (.int u3), .val (.int u4), .val (.int u5), .val (.int x0), .val (.int x1), .val (.int y0), .val (.int y1), .val (.int (1 : Int32)), .val (.int (1 : Int32)), .unset, .unset, .unset, .unset, .unset, .unset] [(.int (1 : Int32))])) (fun tT_ kK_ => XS.iload X0.here hx rfl (hb hby at_84) rfl kK_) ?_
  refine own_stW (A := T0.setTop (mkF mM 88 #[.val (.int u0), .val (.int u1), .val (.int u2), .val (.int u3), .val (.int u4), .val (.int u5), .val (.int x0), .val (.int x1), .val (.int y0), .val (.int y1), .val (.int (1 : Int32)), .val (.int (1 : Int32)), .unset, .unset, .unset, .unset, .unset, .unset] [(.int x0), (.int (1 : Int32))])) (fun tT_ kK_ => XS.iload X0.here hx rfl (hb hby at_86) rfl kK_) ?_
  refine own_stW (A := T0.setTop (mkF mM 90 #[.val (.int u0), .val (.int u1), .val (.int u2), .val (.int u3), .val (.int u4), .val (.int u5), .val (.int x0), .val (.int x1), .val (.int y0), .val (.int y1), .val (.int (1 : Int32)), .val (.int (1 : Int32)), .unset, .unset, .unset, .unset, .unset, .unset] [(.int x1), (.int x0), (.int (1 : Int32))])) (fun tT_ kK_ => XS.iload X0.here hx rfl (hb hby at_88) rfl kK_) ?_
  obtain ⟨_, _, ⟨T199, L199, k199, n199⟩, -, X199, ⟨Lc199, hQ199, l199, y199, z199⟩, st199⟩ := Jvm.LawKit.callS X0 hx (y := (⟨"com/example/upfront_duty/upfrontduty/algebra/RoleEqualsPinLaw", "name", "(ZCC)Ljava/lang/String;"⟩ : MethodName)) hown (mvT hZ (hw _ (List.mem_of_getElem? (i := 0) rfl))) (mvT hZ (hw _ (List.mem_of_getElem? (i := 1) rfl))) (mvT hZ (hw _ (List.mem_of_getElem? (i := 2) rfl))) (mvT hZ (hw _ (List.mem_of_getElem? (i := 3) rfl))) (by decide) (backOf (W := 0) (rmN2 lL Z a0 hw [] cs x0 x1 h0 n0 O Zn S_cs hcs cx0 cx1) hZ (hw _ (List.mem_of_getElem? (i := 3) rfl)) (hw _ (List.mem_of_getElem? (i := 2) rfl)) (by decide) (by decide)) (g := (mkF mM 90 #[.val (.int u0), .val (.int u1), .val (.int u2), .val (.int u3), .val (.int u4), .val (.int u5), .val (.int x0), .val (.int x1), .val (.int y0), .val (.int y1), .val (.int (1 : Int32)), .val (.int (1 : Int32)), .unset, .unset, .unset, .unset, .unset, .unset] [(.int x1), (.int x0), (.int (1 : Int32))])) rfl (by rw [hml]; rfl) (argsL := [(.int (1 : Int32)), (.int x0), (.int x1)]) (rest := []) (lenOf pd__28ZCC_29Ljava_2flang_2fString_3b rfl) rfl (by show 2 * 0 + _ ≤ _; exact Nat.le_of_eq rfl) (hb hby at_90) (fun _ _ => ⟨rfl, e0, (by decide : 0 + 3 ≤ _), (by decide : 0 + 8 ≤ _)⟩)
  dsimp only [Pt.U, Pt.locs, Pt.cells, Pt.slots] at X199 l199 y199 z199 st199 hQ199
  subst l199 y199 z199
  obtain ⟨p199, d199, k199', rfl, N199q, E199, str199, ga199, gd199⟩ := hQ199
  have N199 := Fr.app N0 N199q
  have e199 : T199.heap = T199.heap := rfl
  refine own_stW (A := T199.setTop (mkF mM 93 #[.val (.int u0), .val (.int u1), .val (.int u2), .val (.int u3), .val (.int u4), .val (.int u5), .val (.int x0), .val (.int x1), .val (.int y0), .val (.int y1), .val (.int (1 : Int32)), .val (.int (1 : Int32)), .unset, .unset, .unset, .unset, .unset, .unset] [(.ref p199)])) (fun tT_ kK_ => st199 tT_ kK_) ?_
  have O := O.ext E199
  have hk := Nat.le_trans hk E199.1
  have Zn := Nat.le_trans Zn E199.1
  have sa := str199
  refine own_stW (A := T199.setTop (mkF mM 95 #[.val (.int u0), .val (.int u1), .val (.int u2), .val (.int u3), .val (.int u4), .val (.int u5), .val (.int x0), .val (.int x1), .val (.int y0), .val (.int y1), .val (.int (1 : Int32)), .val (.int (1 : Int32)), .val (.ref p199), .unset, .unset, .unset, .unset, .unset] [])) (fun tT_ kK_ => XS.astore X199.here hx rfl (hb hby at_93) rfl rfl (l' := #[.val (.int u0), .val (.int u1), .val (.int u2), .val (.int u3), .val (.int u4), .val (.int u5), .val (.int x0), .val (.int x1), .val (.int y0), .val (.int y1), .val (.int (1 : Int32)), .val (.int (1 : Int32)), .val (.ref p199), .unset, .unset, .unset, .unset, .unset]) rfl kK_) ?_
  refine own_stW (A := T199.setTop (mkF mM 97 #[.val (.int u0), .val (.int u1), .val (.int u2), .val (.int u3), .val (.int u4), .val (.int u5), .val (.int x0), .val (.int x1), .val (.int y0), .val (.int y1), .val (.int (1 : Int32)), .val (.int (1 : Int32)), .val (.ref p199), .unset, .unset, .unset, .unset, .unset] [(.int (1 : Int32))])) (fun tT_ kK_ => XS.iload X199.here hx rfl (hb hby at_95) rfl kK_) ?_
  refine own_stW (A := T199.setTop (mkF mM 99 #[.val (.int u0), .val (.int u1), .val (.int u2), .val (.int u3), .val (.int u4), .val (.int u5), .val (.int x0), .val (.int x1), .val (.int y0), .val (.int y1), .val (.int (1 : Int32)), .val (.int (1 : Int32)), .val (.ref p199), .unset, .unset, .unset, .unset, .unset] [(.int y0), (.int (1 : Int32))])) (fun tT_ kK_ => XS.iload X199.here hx rfl (hb hby at_97) rfl kK_) ?_
  refine own_stW (A := T199.setTop (mkF mM 101 #[.val (.int u0), .val (.int u1), .val (.int u2), .val (.int u3), .val (.int u4), .val (.int u5), .val (.int x0), .val (.int x1), .val (.int y0), .val (.int y1), .val (.int (1 : Int32)), .val (.int (1 : Int32)), .val (.ref p199), .unset, .unset, .unset, .unset, .unset] [(.int y1), (.int y0), (.int (1 : Int32))])) (fun tT_ kK_ => XS.iload X199.here hx rfl (hb hby at_99) rfl kK_) ?_
  obtain ⟨_, _, ⟨T200, L200, k200, n200⟩, -, X200, ⟨Lc200, hQ200, l200, y200, z200⟩, st200⟩ := Jvm.LawKit.callS X199 hx (y := (⟨"com/example/upfront_duty/upfrontduty/algebra/RoleEqualsPinLaw", "name", "(ZCC)Ljava/lang/String;"⟩ : MethodName)) hown (mvT hZ (hw _ (List.mem_of_getElem? (i := 0) rfl))) (mvT hZ (hw _ (List.mem_of_getElem? (i := 1) rfl))) (mvT hZ (hw _ (List.mem_of_getElem? (i := 2) rfl))) (mvT hZ (hw _ (List.mem_of_getElem? (i := 3) rfl))) (by decide) (backOf (W := 0) (rmN2 lL Z a0 hw [] cs y0 y1 T199.heap n0 O Zn S_cs hcs cy0 cy1) hZ (hw _ (List.mem_of_getElem? (i := 3) rfl)) (hw _ (List.mem_of_getElem? (i := 2) rfl)) (by decide) (by decide)) (g := (mkF mM 101 #[.val (.int u0), .val (.int u1), .val (.int u2), .val (.int u3), .val (.int u4), .val (.int u5), .val (.int x0), .val (.int x1), .val (.int y0), .val (.int y1), .val (.int (1 : Int32)), .val (.int (1 : Int32)), .val (.ref p199), .unset, .unset, .unset, .unset, .unset] [(.int y1), (.int y0), (.int (1 : Int32))])) rfl (by rw [hml]; rfl) (argsL := [(.int (1 : Int32)), (.int y0), (.int y1)]) (rest := []) (lenOf pd__28ZCC_29Ljava_2flang_2fString_3b rfl) rfl (by show 2 * 0 + _ ≤ _; exact Nat.le_of_eq rfl) (hb hby at_101) (fun _ _ => ⟨rfl, e199, (by decide : 3 + 3 ≤ _), (by decide : 8 + 8 ≤ _)⟩)
  dsimp only [Pt.U, Pt.locs, Pt.cells, Pt.slots] at X200 l200 y200 z200 st200 hQ200
  subst l200 y200 z200
  obtain ⟨p200, d200, k200', rfl, N200q, E200, str200, ga200, gd200⟩ := hQ200
  have N200 := Fr.app N199 N200q
  have e200 : T200.heap = T200.heap := rfl
  refine own_stW (A := T200.setTop (mkF mM 104 #[.val (.int u0), .val (.int u1), .val (.int u2), .val (.int u3), .val (.int u4), .val (.int u5), .val (.int x0), .val (.int x1), .val (.int y0), .val (.int y1), .val (.int (1 : Int32)), .val (.int (1 : Int32)), .val (.ref p199), .unset, .unset, .unset, .unset, .unset] [(.ref p200)])) (fun tT_ kK_ => st200 tT_ kK_) ?_
  have nss : p199 ≠ p200 := Nat.ne_of_lt (Nat.lt_of_lt_of_le sa.1.lt ga200)
  have sa := own_Str_ext sa E200
  have O := O.ext E200
  have hk := Nat.le_trans hk E200.1
  have Zn := Nat.le_trans Zn E200.1
  have sb := str200
  refine own_stW (A := T200.setTop (mkF mM 106 #[.val (.int u0), .val (.int u1), .val (.int u2), .val (.int u3), .val (.int u4), .val (.int u5), .val (.int x0), .val (.int x1), .val (.int y0), .val (.int y1), .val (.int (1 : Int32)), .val (.int (1 : Int32)), .val (.ref p199), .val (.ref p200), .unset, .unset, .unset, .unset] [])) (fun tT_ kK_ => XS.astore X200.here hx rfl (hb hby at_104) rfl rfl (l' := #[.val (.int u0), .val (.int u1), .val (.int u2), .val (.int u3), .val (.int u4), .val (.int u5), .val (.int x0), .val (.int x1), .val (.int y0), .val (.int y1), .val (.int (1 : Int32)), .val (.int (1 : Int32)), .val (.ref p199), .val (.ref p200), .unset, .unset, .unset, .unset]) rfl kK_) ?_
  obtain ⟨T201, h201, X201, e201, E201, A201, D201, -, st201⟩ := newO X200 hx hZ hown (hw _ (List.mem_of_getElem? (i := 34) rfl)) (hw _ (List.mem_of_getElem? (i := 35) rfl)) (hw _ (List.mem_of_getElem? (i := 36) rfl)) e200 (g := (mkF mM 106 #[.val (.int u0), .val (.int u1), .val (.int u2), .val (.int u3), .val (.int u4), .val (.int u5), .val (.int x0), .val (.int x1), .val (.int y0), .val (.int y1), .val (.int (1 : Int32)), .val (.int (1 : Int32)), .val (.ref p199), .val (.ref p200), .unset, .unset, .unset, .unset] [])) rfl (hb hby at_106) (by decide) (by decide)
  obtain ⟨b201, g201⟩ : ∃ z, z = T200.heap.size := ⟨_, rfl⟩
  rw [← g201] at A201 D201 st201
  have g_b201 : n0 ≤ b201 := Nat.le_trans Zn (Nat.le_of_eq g201.symm)
  have sa := own_Str_ext sa E201
  have sb := own_Str_ext sb E201
  have O := O.ext E201
  have hk := Nat.le_trans hk E201.1
  have Zn := Nat.le_trans Zn E201.1
  have E_b201 := A201
  have F_b201_name : Fld Z h201 b201 "com/example/upfront_duty/upfrontduty/algebra/Role" "name" "Ljava/lang/String;" .null := D201 (Or.inr (hw _ (List.mem_of_getElem? (i := 54) rfl))) (ty := (.object "java/lang/String")) (by decide)
  refine own_stW (A := T201.setTop (mkF mM 109 #[.val (.int u0), .val (.int u1), .val (.int u2), .val (.int u3), .val (.int u4), .val (.int u5), .val (.int x0), .val (.int x1), .val (.int y0), .val (.int y1), .val (.int (1 : Int32)), .val (.int (1 : Int32)), .val (.ref p199), .val (.ref p200), .unset, .unset, .unset, .unset] [(.ref b201)])) (fun tT_ kK_ => st201 tT_ kK_) ?_
  refine own_stW (A := T201.setTop (mkF mM 110 #[.val (.int u0), .val (.int u1), .val (.int u2), .val (.int u3), .val (.int u4), .val (.int u5), .val (.int x0), .val (.int x1), .val (.int y0), .val (.int y1), .val (.int (1 : Int32)), .val (.int (1 : Int32)), .val (.ref p199), .val (.ref p200), .unset, .unset, .unset, .unset] [(.ref b201), (.ref b201)])) (fun tT_ kK_ => XS.dup X201.here hx rfl (hb hby at_109) rfl rfl kK_) ?_
  refine own_stW (A := T201.setTop (mkF mM 112 #[.val (.int u0), .val (.int u1), .val (.int u2), .val (.int u3), .val (.int u4), .val (.int u5), .val (.int x0), .val (.int x1), .val (.int y0), .val (.int y1), .val (.int (1 : Int32)), .val (.int (1 : Int32)), .val (.ref p199), .val (.ref p200), .unset, .unset, .unset, .unset] [(.ref p199), (.ref b201), (.ref b201)])) (fun tT_ kK_ => XS.aload X201.here hx rfl (hb hby at_110) rfl rfl kK_) ?_
  obtain ⟨_, _, ⟨T202, L202, k202, n202⟩, -, X202, hS202, hg202, ⟨Lc202, hQ202, l202, y202, z202⟩, st202⟩ := X201.specialBackS hx (y := (⟨"com/example/upfront_duty/upfrontduty/algebra/Role", "<init>", "(Ljava/lang/String;)V"⟩ : MethodName)) rfl hown (mvT hZ (hw _ (List.mem_of_getElem? (i := 37) rfl))) (mvT hZ (hw _ (List.mem_of_getElem? (i := 38) rfl))) (mvT hZ (hw _ (List.mem_of_getElem? (i := 39) rfl))) (by decide) (backOfS (W := 1) (rmRI2 lL Z a0 hw [] b201 p199 d199 k199' x0 x1 h201 n0 g_b201 E_b201 F_b201_name sa (Exa.ne sa.1 E_b201 (by decide)) (Exa.neArv E_b201 sa.2.2.2 (hw _ (List.mem_of_getElem? (i := 35) rfl))).symm) hZ (hw _ (List.mem_of_getElem? (i := 39) rfl)) (hw _ (List.mem_of_getElem? (i := 36) rfl)) (by decide) (by decide)) (g := (mkF mM 112 #[.val (.int u0), .val (.int u1), .val (.int u2), .val (.int u3), .val (.int u4), .val (.int u5), .val (.int x0), .val (.int x1), .val (.int y0), .val (.int y1), .val (.int (1 : Int32)), .val (.int (1 : Int32)), .val (.ref p199), .val (.ref p200), .unset, .unset, .unset, .unset] [(.ref p199), (.ref b201), (.ref b201)])) rfl (by rw [hml]; rfl) (Steps.refl _) (a := b201) (argsL := [(.ref p199)]) (rest := [(.ref b201)]) (lenOf pd__28Ljava_2flang_2fString_3b_29V rfl) rfl (by show 2 * 0 + _ ≤ _; exact Nat.le_of_eq rfl) (hb hby at_112) (fun _ _ => ⟨rfl, e201, (by decide : 7 + 2 ≤ _), (by decide : 17 + 20 ≤ _)⟩)
  dsimp only [Pt.U, Pt.locs, Pt.cells, Pt.slots] at X202 l202 y202 z202 st202 hQ202 hS202 hg202
  subst l202 y202 z202
  obtain ⟨rfl, N202q, K202, x202, y202⟩ := hQ202
  have N202 := Fr.app N200 N202q
  rw [e201] at hg202
  have hZ := own_wideZ hZ hS202
  have hown := own_wideO hown hS202
  have hS := hS.trans hS202 (Nat.le_trans hk hg202)
  have hk : T202.heap.size ≤ T202.heap.size := Nat.le_refl _
  have X202 : Stand pP lL eE room_1 (sS.setVm T202.vm) mM args below meth cC T202 _ 9 37 := X202
  have e202 : T202.heap = T202.heap := rfl
  refine own_stW (A := T202.setTop (mkF mM 115 #[.val (.int u0), .val (.int u1), .val (.int u2), .val (.int u3), .val (.int u4), .val (.int u5), .val (.int x0), .val (.int x1), .val (.int y0), .val (.int y1), .val (.int (1 : Int32)), .val (.int (1 : Int32)), .val (.ref p199), .val (.ref p200), .unset, .unset, .unset, .unset] [(.ref b201)])) (fun tT_ kK_ => st202.trans kK_) ?_
  have sa := own_Str_keep sa K202 (ninS (Exa.ne sa.1 E_b201 (by decide)) nin0) (ninS (Exa.neArv E_b201 sa.2.2.2 (hw _ (List.mem_of_getElem? (i := 35) rfl))).symm nin0)
  have sb := own_Str_keep sb K202 (ninS (Exa.ne sb.1 E_b201 (by decide)) nin0) (ninS (Exa.neArv E_b201 sb.2.2.2 (hw _ (List.mem_of_getElem? (i := 35) rfl))).symm nin0)
  have E_b201 := E_b201.keep K202
  have O := O.keep K202 (allS g_b201 all0)
  have Zn := Nat.le_trans Zn K202.1
  have ra : Rol Z _ _ _ := ⟨x202, y202⟩
  refine own_stW (A := T202.setTop (mkF mM 117 #[.val (.int u0), .val (.int u1), .val (.int u2), .val (.int u3), .val (.int u4), .val (.int u5), .val (.int x0), .val (.int x1), .val (.int y0), .val (.int y1), .val (.int (1 : Int32)), .val (.int (1 : Int32)), .val (.ref p199), .val (.ref p200), .val (.ref b201), .unset, .unset, .unset] [])) (fun tT_ kK_ => XS.astore X202.here hx rfl (hb hby at_115) rfl rfl (l' := #[.val (.int u0), .val (.int u1), .val (.int u2), .val (.int u3), .val (.int u4), .val (.int u5), .val (.int x0), .val (.int x1), .val (.int y0), .val (.int y1), .val (.int (1 : Int32)), .val (.int (1 : Int32)), .val (.ref p199), .val (.ref p200), .val (.ref b201), .unset, .unset, .unset]) rfl kK_) ?_
  refine own_stW (A := T202.setTop (mkF mM 119 #[.val (.int u0), .val (.int u1), .val (.int u2), .val (.int u3), .val (.int u4), .val (.int u5), .val (.int x0), .val (.int x1), .val (.int y0), .val (.int y1), .val (.int (1 : Int32)), .val (.int (1 : Int32)), .val (.ref p199), .val (.ref p200), .val (.ref b201), .unset, .unset, .unset] [(.int u5)])) (fun tT_ kK_ => XS.iload X202.here hx rfl (hb hby at_117) rfl kK_) ?_
  refine own_stW (A := T202.setTop (mkF mM 120 #[.val (.int u0), .val (.int u1), .val (.int u2), .val (.int u3), .val (.int u4), .val (.int u5), .val (.int x0), .val (.int x1), .val (.int y0), .val (.int y1), .val (.int (1 : Int32)), .val (.int (1 : Int32)), .val (.ref p199), .val (.ref p200), .val (.ref b201), .unset, .unset, .unset] [(.int (2 : Int32)), (.int u5)])) (fun tT_ kK_ => XS.iconst X202.here hx rfl (hb hby at_119) kK_) ?_
  refine own_stW (A := T202.setTop (mkF mM 121 #[.val (.int u0), .val (.int u1), .val (.int u2), .val (.int u3), .val (.int u4), .val (.int u5), .val (.int x0), .val (.int x1), .val (.int y0), .val (.int y1), .val (.int (1 : Int32)), .val (.int (1 : Int32)), .val (.ref p199), .val (.ref p200), .val (.ref b201), .unset, .unset, .unset] [(.int (u5 >>> ((2 : Int32) &&& 31)))])) (fun tT_ kK_ => XS.ishr X202.here hx rfl (hb hby at_120) rfl kK_) ?_
  refine own_stW (A := T202.setTop (mkF mM 122 #[.val (.int u0), .val (.int u1), .val (.int u2), .val (.int u3), .val (.int u4), .val (.int u5), .val (.int x0), .val (.int x1), .val (.int y0), .val (.int y1), .val (.int (1 : Int32)), .val (.int (1 : Int32)), .val (.ref p199), .val (.ref p200), .val (.ref b201), .unset, .unset, .unset] [(.int (3 : Int32)), (.int (u5 >>> ((2 : Int32) &&& 31)))])) (fun tT_ kK_ => XS.iconst X202.here hx rfl (hb hby at_121) kK_) ?_
  refine own_stW (A := T202.setTop (mkF mM 123 #[.val (.int u0), .val (.int u1), .val (.int u2), .val (.int u3), .val (.int u4), .val (.int u5), .val (.int x0), .val (.int x1), .val (.int y0), .val (.int y1), .val (.int (1 : Int32)), .val (.int (1 : Int32)), .val (.ref p199), .val (.ref p200), .val (.ref b201), .unset, .unset, .unset] [(.int ((u5 >>> ((2 : Int32) &&& 31)) &&& (3 : Int32)))])) (fun tT_ kK_ => XS.iand X202.here hx rfl (hb hby at_122) rfl kK_) ?_
  refine own_stW (A := T202.setTop (mkF mM 125 #[.val (.int u0), .val (.int u1), .val (.int u2), .val (.int u3), .val (.int u4), .val (.int u5), .val (.int x0), .val (.int x1), .val (.int y0), .val (.int y1), .val (.int (1 : Int32)), .val (.int (1 : Int32)), .val (.ref p199), .val (.ref p200), .val (.ref b201), .val (.int ((u5 >>> ((2 : Int32) &&& 31)) &&& (3 : Int32))), .unset, .unset] [])) (fun tT_ kK_ => XS.istore X202.here hx rfl (hb hby at_123) rfl (l' := #[.val (.int u0), .val (.int u1), .val (.int u2), .val (.int u3), .val (.int u4), .val (.int u5), .val (.int x0), .val (.int x1), .val (.int y0), .val (.int y1), .val (.int (1 : Int32)), .val (.int (1 : Int32)), .val (.ref p199), .val (.ref p200), .val (.ref b201), .val (.int ((u5 >>> ((2 : Int32) &&& 31)) &&& (3 : Int32))), .unset, .unset]) rfl kK_) ?_
  refine own_stW (A := T202.setTop (mkF mM 127 #[.val (.int u0), .val (.int u1), .val (.int u2), .val (.int u3), .val (.int u4), .val (.int u5), .val (.int x0), .val (.int x1), .val (.int y0), .val (.int y1), .val (.int (1 : Int32)), .val (.int (1 : Int32)), .val (.ref p199), .val (.ref p200), .val (.ref b201), .val (.int ((u5 >>> ((2 : Int32) &&& 31)) &&& (3 : Int32))), .unset, .unset] [(.int ((u5 >>> ((2 : Int32) &&& 31)) &&& (3 : Int32)))])) (fun tT_ kK_ => XS.iload X202.here hx rfl (hb hby at_125) rfl kK_) ?_
  by_cases hc127_203 : ((u5 >>> ((2 : Int32) &&& 31)) &&& (3 : Int32)) = (0 : Int32)
  · skip
    refine own_stW (A := T202.setTop (mkF mM 130 #[.val (.int u0), .val (.int u1), .val (.int u2), .val (.int u3), .val (.int u4), .val (.int u5), .val (.int x0), .val (.int x1), .val (.int y0), .val (.int y1), .val (.int (1 : Int32)), .val (.int (1 : Int32)), .val (.ref p199), .val (.ref p200), .val (.ref b201), .val (.int ((u5 >>> ((2 : Int32) &&& 31)) &&& (3 : Int32))), .unset, .unset] [])) (fun tT_ kK_ => XS.ifNo X202.here hx rfl (hb hby at_127) rfl ((if0 _ _).trans (teq hc127_203).2) kK_) ?_
    obtain ⟨T204, h204, X204, e204, E204, A204, D204, -, st204⟩ := newO X202 hx hZ hown (hw _ (List.mem_of_getElem? (i := 34) rfl)) (hw _ (List.mem_of_getElem? (i := 35) rfl)) (hw _ (List.mem_of_getElem? (i := 36) rfl)) e202 (g := (mkF mM 130 #[.val (.int u0), .val (.int u1), .val (.int u2), .val (.int u3), .val (.int u4), .val (.int u5), .val (.int x0), .val (.int x1), .val (.int y0), .val (.int y1), .val (.int (1 : Int32)), .val (.int (1 : Int32)), .val (.ref p199), .val (.ref p200), .val (.ref b201), .val (.int ((u5 >>> ((2 : Int32) &&& 31)) &&& (3 : Int32))), .unset, .unset] [])) rfl (hb hby at_130) (by decide) (by decide)
    obtain ⟨b204, g204⟩ : ∃ z, z = T202.heap.size := ⟨_, rfl⟩
    rw [← g204] at A204 D204 st204
    have ne_b201_b204 : b201 ≠ b204 := Nat.ne_of_lt (Nat.lt_of_lt_of_le ra.1.lt (Nat.le_of_eq g204.symm))
    have g_b204 : n0 ≤ b204 := Nat.le_trans Zn (Nat.le_of_eq g204.symm)
    have sa := own_Str_ext sa E204
    have sb := own_Str_ext sb E204
    have ra := own_Rol_ext ra E204
    have O := O.ext E204
    have hk := Nat.le_trans hk E204.1
    have Zn := Nat.le_trans Zn E204.1
    have E_b204 := A204
    have F_b204_name : Fld Z h204 b204 "com/example/upfront_duty/upfrontduty/algebra/Role" "name" "Ljava/lang/String;" .null := D204 (Or.inr (hw _ (List.mem_of_getElem? (i := 54) rfl))) (ty := (.object "java/lang/String")) (by decide)
    refine own_stW (A := T204.setTop (mkF mM 133 #[.val (.int u0), .val (.int u1), .val (.int u2), .val (.int u3), .val (.int u4), .val (.int u5), .val (.int x0), .val (.int x1), .val (.int y0), .val (.int y1), .val (.int (1 : Int32)), .val (.int (1 : Int32)), .val (.ref p199), .val (.ref p200), .val (.ref b201), .val (.int ((u5 >>> ((2 : Int32) &&& 31)) &&& (3 : Int32))), .unset, .unset] [(.ref b204)])) (fun tT_ kK_ => st204 tT_ kK_) ?_
    refine own_stW (A := T204.setTop (mkF mM 134 #[.val (.int u0), .val (.int u1), .val (.int u2), .val (.int u3), .val (.int u4), .val (.int u5), .val (.int x0), .val (.int x1), .val (.int y0), .val (.int y1), .val (.int (1 : Int32)), .val (.int (1 : Int32)), .val (.ref p199), .val (.ref p200), .val (.ref b201), .val (.int ((u5 >>> ((2 : Int32) &&& 31)) &&& (3 : Int32))), .unset, .unset] [(.ref b204), (.ref b204)])) (fun tT_ kK_ => XS.dup X204.here hx rfl (hb hby at_133) rfl rfl kK_) ?_
    refine own_stW (A := T204.setTop (mkF mM 136 #[.val (.int u0), .val (.int u1), .val (.int u2), .val (.int u3), .val (.int u4), .val (.int u5), .val (.int x0), .val (.int x1), .val (.int y0), .val (.int y1), .val (.int (1 : Int32)), .val (.int (1 : Int32)), .val (.ref p199), .val (.ref p200), .val (.ref b201), .val (.int ((u5 >>> ((2 : Int32) &&& 31)) &&& (3 : Int32))), .unset, .unset] [(.ref p200), (.ref b204), (.ref b204)])) (fun tT_ kK_ => XS.aload X204.here hx rfl (hb hby at_134) rfl rfl kK_) ?_
    obtain ⟨_, _, ⟨T205, L205, k205, n205⟩, -, X205, hS205, hg205, ⟨Lc205, hQ205, l205, y205, z205⟩, st205⟩ := X204.specialBackS hx (y := (⟨"com/example/upfront_duty/upfrontduty/algebra/Role", "<init>", "(Ljava/lang/String;)V"⟩ : MethodName)) rfl hown (mvT hZ (hw _ (List.mem_of_getElem? (i := 37) rfl))) (mvT hZ (hw _ (List.mem_of_getElem? (i := 38) rfl))) (mvT hZ (hw _ (List.mem_of_getElem? (i := 39) rfl))) (by decide) (backOfS (W := 1) (rmRI2 lL Z a0 hw [] b204 p200 d200 k200' y0 y1 h204 n0 g_b204 E_b204 F_b204_name sb (Exa.ne sb.1 E_b204 (by decide)) (Exa.neArv E_b204 sb.2.2.2 (hw _ (List.mem_of_getElem? (i := 35) rfl))).symm) hZ (hw _ (List.mem_of_getElem? (i := 39) rfl)) (hw _ (List.mem_of_getElem? (i := 36) rfl)) (by decide) (by decide)) (g := (mkF mM 136 #[.val (.int u0), .val (.int u1), .val (.int u2), .val (.int u3), .val (.int u4), .val (.int u5), .val (.int x0), .val (.int x1), .val (.int y0), .val (.int y1), .val (.int (1 : Int32)), .val (.int (1 : Int32)), .val (.ref p199), .val (.ref p200), .val (.ref b201), .val (.int ((u5 >>> ((2 : Int32) &&& 31)) &&& (3 : Int32))), .unset, .unset] [(.ref p200), (.ref b204), (.ref b204)])) rfl (by rw [hml]; rfl) (Steps.refl _) (a := b204) (argsL := [(.ref p200)]) (rest := [(.ref b204)]) (lenOf pd__28Ljava_2flang_2fString_3b_29V rfl) rfl (by show 2 * 0 + _ ≤ _; exact Nat.le_of_eq rfl) (hb hby at_136) (fun _ _ => ⟨rfl, e204, (by decide : 10 + 2 ≤ _), (by decide : 38 + 20 ≤ _)⟩)
    dsimp only [Pt.U, Pt.locs, Pt.cells, Pt.slots] at X205 l205 y205 z205 st205 hQ205 hS205 hg205
    subst l205 y205 z205
    obtain ⟨rfl, N205q, K205, x205, y205⟩ := hQ205
    have N205 := Fr.app N202 N205q
    rw [e204] at hg205
    have hZ := own_wideZ hZ hS205
    have hown := own_wideO hown hS205
    have hS := hS.trans hS205 (Nat.le_trans hk hg205)
    have hk : T205.heap.size ≤ T205.heap.size := Nat.le_refl _
    have X205 : Stand pP lL eE room_1 (sS.setVm T205.vm) mM args below meth cC T205 _ 12 58 := X205
    have e205 : T205.heap = T205.heap := rfl
    refine own_stW (A := T205.setTop (mkF mM 139 #[.val (.int u0), .val (.int u1), .val (.int u2), .val (.int u3), .val (.int u4), .val (.int u5), .val (.int x0), .val (.int x1), .val (.int y0), .val (.int y1), .val (.int (1 : Int32)), .val (.int (1 : Int32)), .val (.ref p199), .val (.ref p200), .val (.ref b201), .val (.int ((u5 >>> ((2 : Int32) &&& 31)) &&& (3 : Int32))), .unset, .unset] [(.ref b204)])) (fun tT_ kK_ => st205.trans kK_) ?_
    have sa := own_Str_keep sa K205 (ninS (Exa.ne sa.1 E_b204 (by decide)) nin0) (ninS (Exa.neArv E_b204 sa.2.2.2 (hw _ (List.mem_of_getElem? (i := 35) rfl))).symm nin0)
    have sb := own_Str_keep sb K205 (ninS (Exa.ne sb.1 E_b204 (by decide)) nin0) (ninS (Exa.neArv E_b204 sb.2.2.2 (hw _ (List.mem_of_getElem? (i := 35) rfl))).symm nin0)
    have ra := own_Rol_keep ra K205 (ninS ne_b201_b204 nin0)
    have E_b204 := E_b204.keep K205
    have O := O.keep K205 (allS g_b204 all0)
    have Zn := Nat.le_trans Zn K205.1
    have rb : Rol Z _ _ _ := ⟨x205, y205⟩
    refine own_stW (A := T205.setTop (mkF mM 141 #[.val (.int u0), .val (.int u1), .val (.int u2), .val (.int u3), .val (.int u4), .val (.int u5), .val (.int x0), .val (.int x1), .val (.int y0), .val (.int y1), .val (.int (1 : Int32)), .val (.int (1 : Int32)), .val (.ref p199), .val (.ref p200), .val (.ref b201), .val (.int ((u5 >>> ((2 : Int32) &&& 31)) &&& (3 : Int32))), .val (.ref b204), .unset] [])) (fun tT_ kK_ => XS.astore X205.here hx rfl (hb hby at_139) rfl rfl (l' := #[.val (.int u0), .val (.int u1), .val (.int u2), .val (.int u3), .val (.int u4), .val (.int u5), .val (.int x0), .val (.int x1), .val (.int y0), .val (.int y1), .val (.int (1 : Int32)), .val (.int (1 : Int32)), .val (.ref p199), .val (.ref p200), .val (.ref b201), .val (.int ((u5 >>> ((2 : Int32) &&& 31)) &&& (3 : Int32))), .val (.ref b204), .unset]) rfl kK_) ?_
    refine own_stW (A := T205.setTop (mkF mM 143 #[.val (.int u0), .val (.int u1), .val (.int u2), .val (.int u3), .val (.int u4), .val (.int u5), .val (.int x0), .val (.int x1), .val (.int y0), .val (.int y1), .val (.int (1 : Int32)), .val (.int (1 : Int32)), .val (.ref p199), .val (.ref p200), .val (.ref b201), .val (.int ((u5 >>> ((2 : Int32) &&& 31)) &&& (3 : Int32))), .val (.ref b204), .unset] [(.int (1 : Int32))])) (fun tT_ kK_ => XS.iload X205.here hx rfl (hb hby at_141) rfl kK_) ?_
    refine own_stW (A := T205.setTop (mkF mM 145 #[.val (.int u0), .val (.int u1), .val (.int u2), .val (.int u3), .val (.int u4), .val (.int u5), .val (.int x0), .val (.int x1), .val (.int y0), .val (.int y1), .val (.int (1 : Int32)), .val (.int (1 : Int32)), .val (.ref p199), .val (.ref p200), .val (.ref b201), .val (.int ((u5 >>> ((2 : Int32) &&& 31)) &&& (3 : Int32))), .val (.ref b204), .unset] [(.int (1 : Int32)), (.int (1 : Int32))])) (fun tT_ kK_ => XS.iload X205.here hx rfl (hb hby at_143) rfl kK_) ?_
    refine own_stW (A := T205.setTop (mkF mM 148 #[.val (.int u0), .val (.int u1), .val (.int u2), .val (.int u3), .val (.int u4), .val (.int u5), .val (.int x0), .val (.int x1), .val (.int y0), .val (.int y1), .val (.int (1 : Int32)), .val (.int (1 : Int32)), .val (.ref p199), .val (.ref p200), .val (.ref b201), .val (.int ((u5 >>> ((2 : Int32) &&& 31)) &&& (3 : Int32))), .val (.ref b204), .unset] [])) (fun tT_ kK_ => XS.icmpNo X205.here hx rfl (hb hby at_145) rfl (teq (by decide : ((1 : Int32) = (1 : Int32)))).2 kK_) ?_
    refine own_stW (A := T205.setTop (mkF mM 150 #[.val (.int u0), .val (.int u1), .val (.int u2), .val (.int u3), .val (.int u4), .val (.int u5), .val (.int x0), .val (.int x1), .val (.int y0), .val (.int y1), .val (.int (1 : Int32)), .val (.int (1 : Int32)), .val (.ref p199), .val (.ref p200), .val (.ref b201), .val (.int ((u5 >>> ((2 : Int32) &&& 31)) &&& (3 : Int32))), .val (.ref b204), .unset] [(.int x0)])) (fun tT_ kK_ => XS.iload X205.here hx rfl (hb hby at_148) rfl kK_) ?_
    refine own_stW (A := T205.setTop (mkF mM 152 #[.val (.int u0), .val (.int u1), .val (.int u2), .val (.int u3), .val (.int u4), .val (.int u5), .val (.int x0), .val (.int x1), .val (.int y0), .val (.int y1), .val (.int (1 : Int32)), .val (.int (1 : Int32)), .val (.ref p199), .val (.ref p200), .val (.ref b201), .val (.int ((u5 >>> ((2 : Int32) &&& 31)) &&& (3 : Int32))), .val (.ref b204), .unset] [(.int y0), (.int x0)])) (fun tT_ kK_ => XS.iload X205.here hx rfl (hb hby at_150) rfl kK_) ?_
    by_cases hc152_206 : x0 = y0
    · skip
      refine own_stW (A := T205.setTop (mkF mM 155 #[.val (.int u0), .val (.int u1), .val (.int u2), .val (.int u3), .val (.int u4), .val (.int u5), .val (.int x0), .val (.int x1), .val (.int y0), .val (.int y1), .val (.int (1 : Int32)), .val (.int (1 : Int32)), .val (.ref p199), .val (.ref p200), .val (.ref b201), .val (.int ((u5 >>> ((2 : Int32) &&& 31)) &&& (3 : Int32))), .val (.ref b204), .unset] [])) (fun tT_ kK_ => XS.icmpNo X205.here hx rfl (hb hby at_152) rfl (teq hc152_206).2 kK_) ?_
      refine own_stW (A := T205.setTop (mkF mM 157 #[.val (.int u0), .val (.int u1), .val (.int u2), .val (.int u3), .val (.int u4), .val (.int u5), .val (.int x0), .val (.int x1), .val (.int y0), .val (.int y1), .val (.int (1 : Int32)), .val (.int (1 : Int32)), .val (.ref p199), .val (.ref p200), .val (.ref b201), .val (.int ((u5 >>> ((2 : Int32) &&& 31)) &&& (3 : Int32))), .val (.ref b204), .unset] [(.int (1 : Int32))])) (fun tT_ kK_ => XS.iload X205.here hx rfl (hb hby at_155) rfl kK_) ?_
      refine own_stW (A := T205.setTop (mkF mM 160 #[.val (.int u0), .val (.int u1), .val (.int u2), .val (.int u3), .val (.int u4), .val (.int u5), .val (.int x0), .val (.int x1), .val (.int y0), .val (.int y1), .val (.int (1 : Int32)), .val (.int (1 : Int32)), .val (.ref p199), .val (.ref p200), .val (.ref b201), .val (.int ((u5 >>> ((2 : Int32) &&& 31)) &&& (3 : Int32))), .val (.ref b204), .unset] [])) (fun tT_ kK_ => XS.ifNo X205.here hx rfl (hb hby at_157) rfl ((if0 _ _).trans (feq (by decide : ¬ ((1 : Int32) = (0 : Int32)))).1) kK_) ?_
      refine own_stW (A := T205.setTop (mkF mM 162 #[.val (.int u0), .val (.int u1), .val (.int u2), .val (.int u3), .val (.int u4), .val (.int u5), .val (.int x0), .val (.int x1), .val (.int y0), .val (.int y1), .val (.int (1 : Int32)), .val (.int (1 : Int32)), .val (.ref p199), .val (.ref p200), .val (.ref b201), .val (.int ((u5 >>> ((2 : Int32) &&& 31)) &&& (3 : Int32))), .val (.ref b204), .unset] [(.int x1)])) (fun tT_ kK_ => XS.iload X205.here hx rfl (hb hby at_160) rfl kK_) ?_
      refine own_stW (A := T205.setTop (mkF mM 164 #[.val (.int u0), .val (.int u1), .val (.int u2), .val (.int u3), .val (.int u4), .val (.int u5), .val (.int x0), .val (.int x1), .val (.int y0), .val (.int y1), .val (.int (1 : Int32)), .val (.int (1 : Int32)), .val (.ref p199), .val (.ref p200), .val (.ref b201), .val (.int ((u5 >>> ((2 : Int32) &&& 31)) &&& (3 : Int32))), .val (.ref b204), .unset] [(.int y1), (.int x1)])) (fun tT_ kK_ => XS.iload X205.here hx rfl (hb hby at_162) rfl kK_) ?_
      by_cases hc164_207 : x1 = y1
      · skip
        refine own_stW (A := T205.setTop (mkF mM 167 #[.val (.int u0), .val (.int u1), .val (.int u2), .val (.int u3), .val (.int u4), .val (.int u5), .val (.int x0), .val (.int x1), .val (.int y0), .val (.int y1), .val (.int (1 : Int32)), .val (.int (1 : Int32)), .val (.ref p199), .val (.ref p200), .val (.ref b201), .val (.int ((u5 >>> ((2 : Int32) &&& 31)) &&& (3 : Int32))), .val (.ref b204), .unset] [])) (fun tT_ kK_ => XS.icmpNo X205.here hx rfl (hb hby at_164) rfl (teq hc164_207).2 kK_) ?_
        refine own_stW (A := T205.setTop (mkF mM 168 #[.val (.int u0), .val (.int u1), .val (.int u2), .val (.int u3), .val (.int u4), .val (.int u5), .val (.int x0), .val (.int x1), .val (.int y0), .val (.int y1), .val (.int (1 : Int32)), .val (.int (1 : Int32)), .val (.ref p199), .val (.ref p200), .val (.ref b201), .val (.int ((u5 >>> ((2 : Int32) &&& 31)) &&& (3 : Int32))), .val (.ref b204), .unset] [(.int (1 : Int32))])) (fun tT_ kK_ => XS.iconst X205.here hx rfl (hb hby at_167) kK_) ?_
        refine own_stW (A := T205.setTop (mkF mM 172 #[.val (.int u0), .val (.int u1), .val (.int u2), .val (.int u3), .val (.int u4), .val (.int u5), .val (.int x0), .val (.int x1), .val (.int y0), .val (.int y1), .val (.int (1 : Int32)), .val (.int (1 : Int32)), .val (.ref p199), .val (.ref p200), .val (.ref b201), .val (.int ((u5 >>> ((2 : Int32) &&& 31)) &&& (3 : Int32))), .val (.ref b204), .unset] [(.int (1 : Int32))])) (fun tT_ kK_ => XS.goto X205.here hx rfl (pc0 := 168) (pc' := 172) rfl (hb hby at_168) (by decide) (by decide) kK_) ?_
        refine own_stW (A := T205.setTop (mkF mM 174 #[.val (.int u0), .val (.int u1), .val (.int u2), .val (.int u3), .val (.int u4), .val (.int u5), .val (.int x0), .val (.int x1), .val (.int y0), .val (.int y1), .val (.int (1 : Int32)), .val (.int (1 : Int32)), .val (.ref p199), .val (.ref p200), .val (.ref b201), .val (.int ((u5 >>> ((2 : Int32) &&& 31)) &&& (3 : Int32))), .val (.ref b204), .val (.int (1 : Int32))] [])) (fun tT_ kK_ => XS.istore X205.here hx rfl (hb hby at_172) rfl (l' := #[.val (.int u0), .val (.int u1), .val (.int u2), .val (.int u3), .val (.int u4), .val (.int u5), .val (.int x0), .val (.int x1), .val (.int y0), .val (.int y1), .val (.int (1 : Int32)), .val (.int (1 : Int32)), .val (.ref p199), .val (.ref p200), .val (.ref b201), .val (.int ((u5 >>> ((2 : Int32) &&& 31)) &&& (3 : Int32))), .val (.ref b204), .val (.int (1 : Int32))]) rfl kK_) ?_
        refine own_stW (A := T205.setTop (mkF mM 176 #[.val (.int u0), .val (.int u1), .val (.int u2), .val (.int u3), .val (.int u4), .val (.int u5), .val (.int x0), .val (.int x1), .val (.int y0), .val (.int y1), .val (.int (1 : Int32)), .val (.int (1 : Int32)), .val (.ref p199), .val (.ref p200), .val (.ref b201), .val (.int ((u5 >>> ((2 : Int32) &&& 31)) &&& (3 : Int32))), .val (.ref b204), .val (.int (1 : Int32))] [(.ref b201)])) (fun tT_ kK_ => XS.aload X205.here hx rfl (hb hby at_174) rfl rfl kK_) ?_
        refine own_stW (A := T205.setTop (mkF mM 178 #[.val (.int u0), .val (.int u1), .val (.int u2), .val (.int u3), .val (.int u4), .val (.int u5), .val (.int x0), .val (.int x1), .val (.int y0), .val (.int y1), .val (.int (1 : Int32)), .val (.int (1 : Int32)), .val (.ref p199), .val (.ref p200), .val (.ref b201), .val (.int ((u5 >>> ((2 : Int32) &&& 31)) &&& (3 : Int32))), .val (.ref b204), .val (.int (1 : Int32))] [(.ref b204), (.ref b201)])) (fun tT_ kK_ => XS.aload X205.here hx rfl (hb hby at_176) rfl rfl kK_) ?_
        obtain ⟨cq208, kq208, q208a, q208b, q208c⟩ := isOf hZ e205 ra.1
        obtain ⟨_, _, ⟨T208, L208, k208, n208⟩, -, X208, ⟨Lc208, hQ208, l208, y208, z208⟩, st208⟩ := X205.virtualBack hx (y := (⟨"com/example/upfront_duty/upfrontduty/algebra/Role", "equals", "(Ljava/lang/Object;)Z"⟩ : MethodName)) (z := (⟨"com/example/upfront_duty/upfrontduty/algebra/Role", "equals", "(Ljava/lang/Object;)Z"⟩ : MethodName)) hown (mvT hZ (hw _ (List.mem_of_getElem? (i := 55) rfl))) (mvT hZ (hw _ (List.mem_of_getElem? (i := 56) rfl))) (notFace_of_selects (args := #[]) (mvT hZ (hw _ (List.mem_of_getElem? (i := 58) rfl)))) (mvT hZ (hw _ (List.mem_of_getElem? (i := 58) rfl))) (mvT hZ (hw _ (List.mem_of_getElem? (i := 57) rfl))) (by decide) (backOf (W := 0) (rmRE22 lL Z a0 hw [] b201 b204 p199 d199 k199' p200 d200 k200' cs x0 x1 y0 y1 1 T205.heap n0 ra rb sa sb nss (S_cs.ext O.2) hcs cx0 cx1 cy0 cy1 (fun q => absurd hc152_206 q) (fun _ q => absurd hc164_207 q) (fun _ _ => rfl) (Or.inr rfl)) hZ (hw _ (List.mem_of_getElem? (i := 59) rfl)) (hw _ (List.mem_of_getElem? (i := 36) rfl)) (by decide) (by decide)) q208a q208c (g := (mkF mM 178 #[.val (.int u0), .val (.int u1), .val (.int u2), .val (.int u3), .val (.int u4), .val (.int u5), .val (.int x0), .val (.int x1), .val (.int y0), .val (.int y1), .val (.int (1 : Int32)), .val (.int (1 : Int32)), .val (.ref p199), .val (.ref p200), .val (.ref b201), .val (.int ((u5 >>> ((2 : Int32) &&& 31)) &&& (3 : Int32))), .val (.ref b204), .val (.int (1 : Int32))] [(.ref b204), (.ref b201)])) rfl (by rw [hml]; rfl) (Steps.refl _) (argsL := [(.ref b204)]) (rest := []) (lenOf pd__28Ljava_2flang_2fObject_3b_29Z rfl) rfl (by show 2 * 0 + _ ≤ _; exact Nat.le_of_eq rfl) (hb hby at_178) (fun _ _ => ⟨rfl, e205, (by decide : 12 + 0 ≤ _), (by decide : 58 + 0 ≤ _)⟩)
        dsimp only [Pt.U, Pt.locs, Pt.cells, Pt.slots] at X208 l208 y208 z208 st208 hQ208
        subst l208 y208 z208
        obtain ⟨rfl, N208q, e208⟩ := hQ208
        have N208 := Fr.app N205 N208q
        refine own_stW (A := T208.setTop (mkF mM 181 #[.val (.int u0), .val (.int u1), .val (.int u2), .val (.int u3), .val (.int u4), .val (.int u5), .val (.int x0), .val (.int x1), .val (.int y0), .val (.int y1), .val (.int (1 : Int32)), .val (.int (1 : Int32)), .val (.ref p199), .val (.ref p200), .val (.ref b201), .val (.int ((u5 >>> ((2 : Int32) &&& 31)) &&& (3 : Int32))), .val (.ref b204), .val (.int (1 : Int32))] [(.int (1 : Int32))])) (fun tT_ kK_ => st208.trans kK_) ?_
        refine own_stW (A := T208.setTop (mkF mM 183 #[.val (.int u0), .val (.int u1), .val (.int u2), .val (.int u3), .val (.int u4), .val (.int u5), .val (.int x0), .val (.int x1), .val (.int y0), .val (.int y1), .val (.int (1 : Int32)), .val (.int (1 : Int32)), .val (.ref p199), .val (.ref p200), .val (.ref b201), .val (.int ((u5 >>> ((2 : Int32) &&& 31)) &&& (3 : Int32))), .val (.ref b204), .val (.int (1 : Int32))] [(.int (1 : Int32)), (.int (1 : Int32))])) (fun tT_ kK_ => XS.iload X208.here hx rfl (hb hby at_181) rfl kK_) ?_
        refine own_stW (A := T208.setTop (mkF mM 186 #[.val (.int u0), .val (.int u1), .val (.int u2), .val (.int u3), .val (.int u4), .val (.int u5), .val (.int x0), .val (.int x1), .val (.int y0), .val (.int y1), .val (.int (1 : Int32)), .val (.int (1 : Int32)), .val (.ref p199), .val (.ref p200), .val (.ref b201), .val (.int ((u5 >>> ((2 : Int32) &&& 31)) &&& (3 : Int32))), .val (.ref b204), .val (.int (1 : Int32))] [])) (fun tT_ kK_ => XS.icmpNo X208.here hx rfl (hb hby at_183) rfl (teq (by decide : ((1 : Int32) = (1 : Int32)))).2 kK_) ?_
        refine own_stW (A := T208.setTop (mkF mM 188 #[.val (.int u0), .val (.int u1), .val (.int u2), .val (.int u3), .val (.int u4), .val (.int u5), .val (.int x0), .val (.int x1), .val (.int y0), .val (.int y1), .val (.int (1 : Int32)), .val (.int (1 : Int32)), .val (.ref p199), .val (.ref p200), .val (.ref b201), .val (.int ((u5 >>> ((2 : Int32) &&& 31)) &&& (3 : Int32))), .val (.ref b204), .val (.int (1 : Int32))] [(.ref b204)])) (fun tT_ kK_ => XS.aload X208.here hx rfl (hb hby at_186) rfl rfl kK_) ?_
        refine own_stW (A := T208.setTop (mkF mM 190 #[.val (.int u0), .val (.int u1), .val (.int u2), .val (.int u3), .val (.int u4), .val (.int u5), .val (.int x0), .val (.int x1), .val (.int y0), .val (.int y1), .val (.int (1 : Int32)), .val (.int (1 : Int32)), .val (.ref p199), .val (.ref p200), .val (.ref b201), .val (.int ((u5 >>> ((2 : Int32) &&& 31)) &&& (3 : Int32))), .val (.ref b204), .val (.int (1 : Int32))] [(.ref b201), (.ref b204)])) (fun tT_ kK_ => XS.aload X208.here hx rfl (hb hby at_188) rfl rfl kK_) ?_
        obtain ⟨cq209, kq209, q209a, q209b, q209c⟩ := isOf hZ e208 rb.1
        obtain ⟨_, _, ⟨T209, L209, k209, n209⟩, -, X209, ⟨Lc209, hQ209, l209, y209, z209⟩, st209⟩ := X208.virtualBack hx (y := (⟨"com/example/upfront_duty/upfrontduty/algebra/Role", "equals", "(Ljava/lang/Object;)Z"⟩ : MethodName)) (z := (⟨"com/example/upfront_duty/upfrontduty/algebra/Role", "equals", "(Ljava/lang/Object;)Z"⟩ : MethodName)) hown (mvT hZ (hw _ (List.mem_of_getElem? (i := 55) rfl))) (mvT hZ (hw _ (List.mem_of_getElem? (i := 56) rfl))) (notFace_of_selects (args := #[]) (mvT hZ (hw _ (List.mem_of_getElem? (i := 58) rfl)))) (mvT hZ (hw _ (List.mem_of_getElem? (i := 58) rfl))) (mvT hZ (hw _ (List.mem_of_getElem? (i := 57) rfl))) (by decide) (backOf (W := 0) (rmRE22 lL Z a0 hw [] b204 b201 p200 d200 k200' p199 d199 k199' cs y0 y1 x0 x1 1 T205.heap n0 rb ra sb sa nss.symm (S_cs.ext O.2) hcs cy0 cy1 cx0 cx1 (fun q => absurd (hc152_206).symm q) (fun _ q => absurd (hc164_207).symm q) (fun _ _ => rfl) (Or.inr rfl)) hZ (hw _ (List.mem_of_getElem? (i := 59) rfl)) (hw _ (List.mem_of_getElem? (i := 36) rfl)) (by decide) (by decide)) q209a q209c (g := (mkF mM 190 #[.val (.int u0), .val (.int u1), .val (.int u2), .val (.int u3), .val (.int u4), .val (.int u5), .val (.int x0), .val (.int x1), .val (.int y0), .val (.int y1), .val (.int (1 : Int32)), .val (.int (1 : Int32)), .val (.ref p199), .val (.ref p200), .val (.ref b201), .val (.int ((u5 >>> ((2 : Int32) &&& 31)) &&& (3 : Int32))), .val (.ref b204), .val (.int (1 : Int32))] [(.ref b201), (.ref b204)])) rfl (by rw [hml]; rfl) (Steps.refl _) (argsL := [(.ref b201)]) (rest := []) (lenOf pd__28Ljava_2flang_2fObject_3b_29Z rfl) rfl (by show 2 * 0 + _ ≤ _; exact Nat.le_of_eq rfl) (hb hby at_190) (fun _ _ => ⟨rfl, e208, (by decide : 12 + 0 ≤ _), (by decide : 58 + 0 ≤ _)⟩)
        dsimp only [Pt.U, Pt.locs, Pt.cells, Pt.slots] at X209 l209 y209 z209 st209 hQ209
        subst l209 y209 z209
        obtain ⟨rfl, N209q, e209⟩ := hQ209
        have N209 := Fr.app N208 N209q
        refine own_stW (A := T209.setTop (mkF mM 193 #[.val (.int u0), .val (.int u1), .val (.int u2), .val (.int u3), .val (.int u4), .val (.int u5), .val (.int x0), .val (.int x1), .val (.int y0), .val (.int y1), .val (.int (1 : Int32)), .val (.int (1 : Int32)), .val (.ref p199), .val (.ref p200), .val (.ref b201), .val (.int ((u5 >>> ((2 : Int32) &&& 31)) &&& (3 : Int32))), .val (.ref b204), .val (.int (1 : Int32))] [(.int (1 : Int32))])) (fun tT_ kK_ => st209.trans kK_) ?_
        refine own_stW (A := T209.setTop (mkF mM 195 #[.val (.int u0), .val (.int u1), .val (.int u2), .val (.int u3), .val (.int u4), .val (.int u5), .val (.int x0), .val (.int x1), .val (.int y0), .val (.int y1), .val (.int (1 : Int32)), .val (.int (1 : Int32)), .val (.ref p199), .val (.ref p200), .val (.ref b201), .val (.int ((u5 >>> ((2 : Int32) &&& 31)) &&& (3 : Int32))), .val (.ref b204), .val (.int (1 : Int32))] [(.int (1 : Int32)), (.int (1 : Int32))])) (fun tT_ kK_ => XS.iload X209.here hx rfl (hb hby at_193) rfl kK_) ?_
        refine own_stW (A := T209.setTop (mkF mM 198 #[.val (.int u0), .val (.int u1), .val (.int u2), .val (.int u3), .val (.int u4), .val (.int u5), .val (.int x0), .val (.int x1), .val (.int y0), .val (.int y1), .val (.int (1 : Int32)), .val (.int (1 : Int32)), .val (.ref p199), .val (.ref p200), .val (.ref b201), .val (.int ((u5 >>> ((2 : Int32) &&& 31)) &&& (3 : Int32))), .val (.ref b204), .val (.int (1 : Int32))] [])) (fun tT_ kK_ => XS.icmpNo X209.here hx rfl (hb hby at_195) rfl (teq (by decide : ((1 : Int32) = (1 : Int32)))).2 kK_) ?_
        refine own_stW (A := T209.setTop (mkF mM 200 #[.val (.int u0), .val (.int u1), .val (.int u2), .val (.int u3), .val (.int u4), .val (.int u5), .val (.int x0), .val (.int x1), .val (.int y0), .val (.int y1), .val (.int (1 : Int32)), .val (.int (1 : Int32)), .val (.ref p199), .val (.ref p200), .val (.ref b201), .val (.int ((u5 >>> ((2 : Int32) &&& 31)) &&& (3 : Int32))), .val (.ref b204), .val (.int (1 : Int32))] [(.ref b201)])) (fun tT_ kK_ => XS.aload X209.here hx rfl (hb hby at_198) rfl rfl kK_) ?_
        refine own_stW (A := T209.setTop (mkF mM 202 #[.val (.int u0), .val (.int u1), .val (.int u2), .val (.int u3), .val (.int u4), .val (.int u5), .val (.int x0), .val (.int x1), .val (.int y0), .val (.int y1), .val (.int (1 : Int32)), .val (.int (1 : Int32)), .val (.ref p199), .val (.ref p200), .val (.ref b201), .val (.int ((u5 >>> ((2 : Int32) &&& 31)) &&& (3 : Int32))), .val (.ref b204), .val (.int (1 : Int32))] [(.ref b201), (.ref b201)])) (fun tT_ kK_ => XS.aload X209.here hx rfl (hb hby at_200) rfl rfl kK_) ?_
        obtain ⟨cq210, kq210, q210a, q210b, q210c⟩ := isOf hZ e209 ra.1
        obtain ⟨_, _, ⟨T210, L210, k210, n210⟩, -, X210, ⟨Lc210, hQ210, l210, y210, z210⟩, st210⟩ := X209.virtualBack hx (y := (⟨"com/example/upfront_duty/upfrontduty/algebra/Role", "equals", "(Ljava/lang/Object;)Z"⟩ : MethodName)) (z := (⟨"com/example/upfront_duty/upfrontduty/algebra/Role", "equals", "(Ljava/lang/Object;)Z"⟩ : MethodName)) hown (mvT hZ (hw _ (List.mem_of_getElem? (i := 55) rfl))) (mvT hZ (hw _ (List.mem_of_getElem? (i := 56) rfl))) (notFace_of_selects (args := #[]) (mvT hZ (hw _ (List.mem_of_getElem? (i := 58) rfl)))) (mvT hZ (hw _ (List.mem_of_getElem? (i := 58) rfl))) (mvT hZ (hw _ (List.mem_of_getElem? (i := 57) rfl))) (by decide) (backOf (W := 0) (rmREs lL Z a0 hw [] b201 p199 T205.heap n0 ra sa.1) hZ (hw _ (List.mem_of_getElem? (i := 59) rfl)) (hw _ (List.mem_of_getElem? (i := 36) rfl)) (by decide) (by decide)) q210a q210c (g := (mkF mM 202 #[.val (.int u0), .val (.int u1), .val (.int u2), .val (.int u3), .val (.int u4), .val (.int u5), .val (.int x0), .val (.int x1), .val (.int y0), .val (.int y1), .val (.int (1 : Int32)), .val (.int (1 : Int32)), .val (.ref p199), .val (.ref p200), .val (.ref b201), .val (.int ((u5 >>> ((2 : Int32) &&& 31)) &&& (3 : Int32))), .val (.ref b204), .val (.int (1 : Int32))] [(.ref b201), (.ref b201)])) rfl (by rw [hml]; rfl) (Steps.refl _) (argsL := [(.ref b201)]) (rest := []) (lenOf pd__28Ljava_2flang_2fObject_3b_29Z rfl) rfl (by show 2 * 0 + _ ≤ _; exact Nat.le_of_eq rfl) (hb hby at_202) (fun _ _ => ⟨rfl, e209, (by decide : 12 + 0 ≤ _), (by decide : 58 + 0 ≤ _)⟩)
        dsimp only [Pt.U, Pt.locs, Pt.cells, Pt.slots] at X210 l210 y210 z210 st210 hQ210
        subst l210 y210 z210
        obtain ⟨rfl, N210q, e210⟩ := hQ210
        have N210 := Fr.app N209 N210q
        refine own_stW (A := T210.setTop (mkF mM 205 #[.val (.int u0), .val (.int u1), .val (.int u2), .val (.int u3), .val (.int u4), .val (.int u5), .val (.int x0), .val (.int x1), .val (.int y0), .val (.int y1), .val (.int (1 : Int32)), .val (.int (1 : Int32)), .val (.ref p199), .val (.ref p200), .val (.ref b201), .val (.int ((u5 >>> ((2 : Int32) &&& 31)) &&& (3 : Int32))), .val (.ref b204), .val (.int (1 : Int32))] [(.int (1 : Int32))])) (fun tT_ kK_ => st210.trans kK_) ?_
        refine own_stW (A := T210.setTop (mkF mM 208 #[.val (.int u0), .val (.int u1), .val (.int u2), .val (.int u3), .val (.int u4), .val (.int u5), .val (.int x0), .val (.int x1), .val (.int y0), .val (.int y1), .val (.int (1 : Int32)), .val (.int (1 : Int32)), .val (.ref p199), .val (.ref p200), .val (.ref b201), .val (.int ((u5 >>> ((2 : Int32) &&& 31)) &&& (3 : Int32))), .val (.ref b204), .val (.int (1 : Int32))] [])) (fun tT_ kK_ => XS.ifNo X210.here hx rfl (hb hby at_205) rfl ((if0 _ _).trans (feq (by decide : ¬ ((1 : Int32) = (0 : Int32)))).1) kK_) ?_
        refine own_stW (A := T210.setTop (mkF mM 209 #[.val (.int u0), .val (.int u1), .val (.int u2), .val (.int u3), .val (.int u4), .val (.int u5), .val (.int x0), .val (.int x1), .val (.int y0), .val (.int y1), .val (.int (1 : Int32)), .val (.int (1 : Int32)), .val (.ref p199), .val (.ref p200), .val (.ref b201), .val (.int ((u5 >>> ((2 : Int32) &&& 31)) &&& (3 : Int32))), .val (.ref b204), .val (.int (1 : Int32))] [(.int (1 : Int32))])) (fun tT_ kK_ => XS.iconst X210.here hx rfl (hb hby at_208) kK_) ?_
        refine own_stW (A := T210.setTop (mkF mM 213 #[.val (.int u0), .val (.int u1), .val (.int u2), .val (.int u3), .val (.int u4), .val (.int u5), .val (.int x0), .val (.int x1), .val (.int y0), .val (.int y1), .val (.int (1 : Int32)), .val (.int (1 : Int32)), .val (.ref p199), .val (.ref p200), .val (.ref b201), .val (.int ((u5 >>> ((2 : Int32) &&& 31)) &&& (3 : Int32))), .val (.ref b204), .val (.int (1 : Int32))] [(.int (1 : Int32))])) (fun tT_ kK_ => XS.goto X210.here hx rfl (pc0 := 209) (pc' := 213) rfl (hb hby at_209) (by decide) (by decide) kK_) ?_
        exact own_retWN X210 hx hlk hS (by rw [e210]; exact hk) (t := .boolean) hret (by simp) (hb hby at_213) ⟨rfl, N210⟩ (by decide) (by decide)
      · skip
        refine own_stW (A := T205.setTop (mkF mM 171 #[.val (.int u0), .val (.int u1), .val (.int u2), .val (.int u3), .val (.int u4), .val (.int u5), .val (.int x0), .val (.int x1), .val (.int y0), .val (.int y1), .val (.int (1 : Int32)), .val (.int (1 : Int32)), .val (.ref p199), .val (.ref p200), .val (.ref b201), .val (.int ((u5 >>> ((2 : Int32) &&& 31)) &&& (3 : Int32))), .val (.ref b204), .unset] [])) (fun tT_ kK_ => XS.icmpYes X205.here hx rfl (pc0 := 164) (pc' := 171) rfl (hb hby at_164) rfl (feq hc164_207).2 (by decide) (by decide) kK_) ?_
        refine own_stW (A := T205.setTop (mkF mM 172 #[.val (.int u0), .val (.int u1), .val (.int u2), .val (.int u3), .val (.int u4), .val (.int u5), .val (.int x0), .val (.int x1), .val (.int y0), .val (.int y1), .val (.int (1 : Int32)), .val (.int (1 : Int32)), .val (.ref p199), .val (.ref p200), .val (.ref b201), .val (.int ((u5 >>> ((2 : Int32) &&& 31)) &&& (3 : Int32))), .val (.ref b204), .unset] [(.int (0 : Int32))])) (fun tT_ kK_ => XS.iconst X205.here hx rfl (hb hby at_171) kK_) ?_
        refine own_stW (A := T205.setTop (mkF mM 174 #[.val (.int u0), .val (.int u1), .val (.int u2), .val (.int u3), .val (.int u4), .val (.int u5), .val (.int x0), .val (.int x1), .val (.int y0), .val (.int y1), .val (.int (1 : Int32)), .val (.int (1 : Int32)), .val (.ref p199), .val (.ref p200), .val (.ref b201), .val (.int ((u5 >>> ((2 : Int32) &&& 31)) &&& (3 : Int32))), .val (.ref b204), .val (.int (0 : Int32))] [])) (fun tT_ kK_ => XS.istore X205.here hx rfl (hb hby at_172) rfl (l' := #[.val (.int u0), .val (.int u1), .val (.int u2), .val (.int u3), .val (.int u4), .val (.int u5), .val (.int x0), .val (.int x1), .val (.int y0), .val (.int y1), .val (.int (1 : Int32)), .val (.int (1 : Int32)), .val (.ref p199), .val (.ref p200), .val (.ref b201), .val (.int ((u5 >>> ((2 : Int32) &&& 31)) &&& (3 : Int32))), .val (.ref b204), .val (.int (0 : Int32))]) rfl kK_) ?_
        refine own_stW (A := T205.setTop (mkF mM 176 #[.val (.int u0), .val (.int u1), .val (.int u2), .val (.int u3), .val (.int u4), .val (.int u5), .val (.int x0), .val (.int x1), .val (.int y0), .val (.int y1), .val (.int (1 : Int32)), .val (.int (1 : Int32)), .val (.ref p199), .val (.ref p200), .val (.ref b201), .val (.int ((u5 >>> ((2 : Int32) &&& 31)) &&& (3 : Int32))), .val (.ref b204), .val (.int (0 : Int32))] [(.ref b201)])) (fun tT_ kK_ => XS.aload X205.here hx rfl (hb hby at_174) rfl rfl kK_) ?_
        refine own_stW (A := T205.setTop (mkF mM 178 #[.val (.int u0), .val (.int u1), .val (.int u2), .val (.int u3), .val (.int u4), .val (.int u5), .val (.int x0), .val (.int x1), .val (.int y0), .val (.int y1), .val (.int (1 : Int32)), .val (.int (1 : Int32)), .val (.ref p199), .val (.ref p200), .val (.ref b201), .val (.int ((u5 >>> ((2 : Int32) &&& 31)) &&& (3 : Int32))), .val (.ref b204), .val (.int (0 : Int32))] [(.ref b204), (.ref b201)])) (fun tT_ kK_ => XS.aload X205.here hx rfl (hb hby at_176) rfl rfl kK_) ?_
        obtain ⟨cq211, kq211, q211a, q211b, q211c⟩ := isOf hZ e205 ra.1
        obtain ⟨_, _, ⟨T211, L211, k211, n211⟩, -, X211, ⟨Lc211, hQ211, l211, y211, z211⟩, st211⟩ := X205.virtualBack hx (y := (⟨"com/example/upfront_duty/upfrontduty/algebra/Role", "equals", "(Ljava/lang/Object;)Z"⟩ : MethodName)) (z := (⟨"com/example/upfront_duty/upfrontduty/algebra/Role", "equals", "(Ljava/lang/Object;)Z"⟩ : MethodName)) hown (mvT hZ (hw _ (List.mem_of_getElem? (i := 55) rfl))) (mvT hZ (hw _ (List.mem_of_getElem? (i := 56) rfl))) (notFace_of_selects (args := #[]) (mvT hZ (hw _ (List.mem_of_getElem? (i := 58) rfl)))) (mvT hZ (hw _ (List.mem_of_getElem? (i := 58) rfl))) (mvT hZ (hw _ (List.mem_of_getElem? (i := 57) rfl))) (by decide) (backOf (W := 0) (rmRE22 lL Z a0 hw [] b201 b204 p199 d199 k199' p200 d200 k200' cs x0 x1 y0 y1 0 T205.heap n0 ra rb sa sb nss (S_cs.ext O.2) hcs cx0 cx1 cy0 cy1 (fun q => absurd hc152_206 q) (fun _ _ => rfl) (fun _ q => absurd q hc164_207) (Or.inl rfl)) hZ (hw _ (List.mem_of_getElem? (i := 59) rfl)) (hw _ (List.mem_of_getElem? (i := 36) rfl)) (by decide) (by decide)) q211a q211c (g := (mkF mM 178 #[.val (.int u0), .val (.int u1), .val (.int u2), .val (.int u3), .val (.int u4), .val (.int u5), .val (.int x0), .val (.int x1), .val (.int y0), .val (.int y1), .val (.int (1 : Int32)), .val (.int (1 : Int32)), .val (.ref p199), .val (.ref p200), .val (.ref b201), .val (.int ((u5 >>> ((2 : Int32) &&& 31)) &&& (3 : Int32))), .val (.ref b204), .val (.int (0 : Int32))] [(.ref b204), (.ref b201)])) rfl (by rw [hml]; rfl) (Steps.refl _) (argsL := [(.ref b204)]) (rest := []) (lenOf pd__28Ljava_2flang_2fObject_3b_29Z rfl) rfl (by show 2 * 0 + _ ≤ _; exact Nat.le_of_eq rfl) (hb hby at_178) (fun _ _ => ⟨rfl, e205, (by decide : 12 + 0 ≤ _), (by decide : 58 + 0 ≤ _)⟩)
        dsimp only [Pt.U, Pt.locs, Pt.cells, Pt.slots] at X211 l211 y211 z211 st211 hQ211
        subst l211 y211 z211
        obtain ⟨rfl, N211q, e211⟩ := hQ211
        have N211 := Fr.app N205 N211q
        refine own_stW (A := T211.setTop (mkF mM 181 #[.val (.int u0), .val (.int u1), .val (.int u2), .val (.int u3), .val (.int u4), .val (.int u5), .val (.int x0), .val (.int x1), .val (.int y0), .val (.int y1), .val (.int (1 : Int32)), .val (.int (1 : Int32)), .val (.ref p199), .val (.ref p200), .val (.ref b201), .val (.int ((u5 >>> ((2 : Int32) &&& 31)) &&& (3 : Int32))), .val (.ref b204), .val (.int (0 : Int32))] [(.int (0 : Int32))])) (fun tT_ kK_ => st211.trans kK_) ?_
        refine own_stW (A := T211.setTop (mkF mM 183 #[.val (.int u0), .val (.int u1), .val (.int u2), .val (.int u3), .val (.int u4), .val (.int u5), .val (.int x0), .val (.int x1), .val (.int y0), .val (.int y1), .val (.int (1 : Int32)), .val (.int (1 : Int32)), .val (.ref p199), .val (.ref p200), .val (.ref b201), .val (.int ((u5 >>> ((2 : Int32) &&& 31)) &&& (3 : Int32))), .val (.ref b204), .val (.int (0 : Int32))] [(.int (0 : Int32)), (.int (0 : Int32))])) (fun tT_ kK_ => XS.iload X211.here hx rfl (hb hby at_181) rfl kK_) ?_
        refine own_stW (A := T211.setTop (mkF mM 186 #[.val (.int u0), .val (.int u1), .val (.int u2), .val (.int u3), .val (.int u4), .val (.int u5), .val (.int x0), .val (.int x1), .val (.int y0), .val (.int y1), .val (.int (1 : Int32)), .val (.int (1 : Int32)), .val (.ref p199), .val (.ref p200), .val (.ref b201), .val (.int ((u5 >>> ((2 : Int32) &&& 31)) &&& (3 : Int32))), .val (.ref b204), .val (.int (0 : Int32))] [])) (fun tT_ kK_ => XS.icmpNo X211.here hx rfl (hb hby at_183) rfl (teq (by decide : ((0 : Int32) = (0 : Int32)))).2 kK_) ?_
        refine own_stW (A := T211.setTop (mkF mM 188 #[.val (.int u0), .val (.int u1), .val (.int u2), .val (.int u3), .val (.int u4), .val (.int u5), .val (.int x0), .val (.int x1), .val (.int y0), .val (.int y1), .val (.int (1 : Int32)), .val (.int (1 : Int32)), .val (.ref p199), .val (.ref p200), .val (.ref b201), .val (.int ((u5 >>> ((2 : Int32) &&& 31)) &&& (3 : Int32))), .val (.ref b204), .val (.int (0 : Int32))] [(.ref b204)])) (fun tT_ kK_ => XS.aload X211.here hx rfl (hb hby at_186) rfl rfl kK_) ?_
        refine own_stW (A := T211.setTop (mkF mM 190 #[.val (.int u0), .val (.int u1), .val (.int u2), .val (.int u3), .val (.int u4), .val (.int u5), .val (.int x0), .val (.int x1), .val (.int y0), .val (.int y1), .val (.int (1 : Int32)), .val (.int (1 : Int32)), .val (.ref p199), .val (.ref p200), .val (.ref b201), .val (.int ((u5 >>> ((2 : Int32) &&& 31)) &&& (3 : Int32))), .val (.ref b204), .val (.int (0 : Int32))] [(.ref b201), (.ref b204)])) (fun tT_ kK_ => XS.aload X211.here hx rfl (hb hby at_188) rfl rfl kK_) ?_
        obtain ⟨cq212, kq212, q212a, q212b, q212c⟩ := isOf hZ e211 rb.1
        obtain ⟨_, _, ⟨T212, L212, k212, n212⟩, -, X212, ⟨Lc212, hQ212, l212, y212, z212⟩, st212⟩ := X211.virtualBack hx (y := (⟨"com/example/upfront_duty/upfrontduty/algebra/Role", "equals", "(Ljava/lang/Object;)Z"⟩ : MethodName)) (z := (⟨"com/example/upfront_duty/upfrontduty/algebra/Role", "equals", "(Ljava/lang/Object;)Z"⟩ : MethodName)) hown (mvT hZ (hw _ (List.mem_of_getElem? (i := 55) rfl))) (mvT hZ (hw _ (List.mem_of_getElem? (i := 56) rfl))) (notFace_of_selects (args := #[]) (mvT hZ (hw _ (List.mem_of_getElem? (i := 58) rfl)))) (mvT hZ (hw _ (List.mem_of_getElem? (i := 58) rfl))) (mvT hZ (hw _ (List.mem_of_getElem? (i := 57) rfl))) (by decide) (backOf (W := 0) (rmRE22 lL Z a0 hw [] b204 b201 p200 d200 k200' p199 d199 k199' cs y0 y1 x0 x1 0 T205.heap n0 rb ra sb sa nss.symm (S_cs.ext O.2) hcs cy0 cy1 cx0 cx1 (fun q => absurd (hc152_206).symm q) (fun _ _ => rfl) (fun _ q => absurd q (fun q => hc164_207 q.symm)) (Or.inl rfl)) hZ (hw _ (List.mem_of_getElem? (i := 59) rfl)) (hw _ (List.mem_of_getElem? (i := 36) rfl)) (by decide) (by decide)) q212a q212c (g := (mkF mM 190 #[.val (.int u0), .val (.int u1), .val (.int u2), .val (.int u3), .val (.int u4), .val (.int u5), .val (.int x0), .val (.int x1), .val (.int y0), .val (.int y1), .val (.int (1 : Int32)), .val (.int (1 : Int32)), .val (.ref p199), .val (.ref p200), .val (.ref b201), .val (.int ((u5 >>> ((2 : Int32) &&& 31)) &&& (3 : Int32))), .val (.ref b204), .val (.int (0 : Int32))] [(.ref b201), (.ref b204)])) rfl (by rw [hml]; rfl) (Steps.refl _) (argsL := [(.ref b201)]) (rest := []) (lenOf pd__28Ljava_2flang_2fObject_3b_29Z rfl) rfl (by show 2 * 0 + _ ≤ _; exact Nat.le_of_eq rfl) (hb hby at_190) (fun _ _ => ⟨rfl, e211, (by decide : 12 + 0 ≤ _), (by decide : 58 + 0 ≤ _)⟩)
        dsimp only [Pt.U, Pt.locs, Pt.cells, Pt.slots] at X212 l212 y212 z212 st212 hQ212
        subst l212 y212 z212
        obtain ⟨rfl, N212q, e212⟩ := hQ212
        have N212 := Fr.app N211 N212q
        refine own_stW (A := T212.setTop (mkF mM 193 #[.val (.int u0), .val (.int u1), .val (.int u2), .val (.int u3), .val (.int u4), .val (.int u5), .val (.int x0), .val (.int x1), .val (.int y0), .val (.int y1), .val (.int (1 : Int32)), .val (.int (1 : Int32)), .val (.ref p199), .val (.ref p200), .val (.ref b201), .val (.int ((u5 >>> ((2 : Int32) &&& 31)) &&& (3 : Int32))), .val (.ref b204), .val (.int (0 : Int32))] [(.int (0 : Int32))])) (fun tT_ kK_ => st212.trans kK_) ?_
        refine own_stW (A := T212.setTop (mkF mM 195 #[.val (.int u0), .val (.int u1), .val (.int u2), .val (.int u3), .val (.int u4), .val (.int u5), .val (.int x0), .val (.int x1), .val (.int y0), .val (.int y1), .val (.int (1 : Int32)), .val (.int (1 : Int32)), .val (.ref p199), .val (.ref p200), .val (.ref b201), .val (.int ((u5 >>> ((2 : Int32) &&& 31)) &&& (3 : Int32))), .val (.ref b204), .val (.int (0 : Int32))] [(.int (0 : Int32)), (.int (0 : Int32))])) (fun tT_ kK_ => XS.iload X212.here hx rfl (hb hby at_193) rfl kK_) ?_
        refine own_stW (A := T212.setTop (mkF mM 198 #[.val (.int u0), .val (.int u1), .val (.int u2), .val (.int u3), .val (.int u4), .val (.int u5), .val (.int x0), .val (.int x1), .val (.int y0), .val (.int y1), .val (.int (1 : Int32)), .val (.int (1 : Int32)), .val (.ref p199), .val (.ref p200), .val (.ref b201), .val (.int ((u5 >>> ((2 : Int32) &&& 31)) &&& (3 : Int32))), .val (.ref b204), .val (.int (0 : Int32))] [])) (fun tT_ kK_ => XS.icmpNo X212.here hx rfl (hb hby at_195) rfl (teq (by decide : ((0 : Int32) = (0 : Int32)))).2 kK_) ?_
        refine own_stW (A := T212.setTop (mkF mM 200 #[.val (.int u0), .val (.int u1), .val (.int u2), .val (.int u3), .val (.int u4), .val (.int u5), .val (.int x0), .val (.int x1), .val (.int y0), .val (.int y1), .val (.int (1 : Int32)), .val (.int (1 : Int32)), .val (.ref p199), .val (.ref p200), .val (.ref b201), .val (.int ((u5 >>> ((2 : Int32) &&& 31)) &&& (3 : Int32))), .val (.ref b204), .val (.int (0 : Int32))] [(.ref b201)])) (fun tT_ kK_ => XS.aload X212.here hx rfl (hb hby at_198) rfl rfl kK_) ?_
        refine own_stW (A := T212.setTop (mkF mM 202 #[.val (.int u0), .val (.int u1), .val (.int u2), .val (.int u3), .val (.int u4), .val (.int u5), .val (.int x0), .val (.int x1), .val (.int y0), .val (.int y1), .val (.int (1 : Int32)), .val (.int (1 : Int32)), .val (.ref p199), .val (.ref p200), .val (.ref b201), .val (.int ((u5 >>> ((2 : Int32) &&& 31)) &&& (3 : Int32))), .val (.ref b204), .val (.int (0 : Int32))] [(.ref b201), (.ref b201)])) (fun tT_ kK_ => XS.aload X212.here hx rfl (hb hby at_200) rfl rfl kK_) ?_
        obtain ⟨cq213, kq213, q213a, q213b, q213c⟩ := isOf hZ e212 ra.1
        obtain ⟨_, _, ⟨T213, L213, k213, n213⟩, -, X213, ⟨Lc213, hQ213, l213, y213, z213⟩, st213⟩ := X212.virtualBack hx (y := (⟨"com/example/upfront_duty/upfrontduty/algebra/Role", "equals", "(Ljava/lang/Object;)Z"⟩ : MethodName)) (z := (⟨"com/example/upfront_duty/upfrontduty/algebra/Role", "equals", "(Ljava/lang/Object;)Z"⟩ : MethodName)) hown (mvT hZ (hw _ (List.mem_of_getElem? (i := 55) rfl))) (mvT hZ (hw _ (List.mem_of_getElem? (i := 56) rfl))) (notFace_of_selects (args := #[]) (mvT hZ (hw _ (List.mem_of_getElem? (i := 58) rfl)))) (mvT hZ (hw _ (List.mem_of_getElem? (i := 58) rfl))) (mvT hZ (hw _ (List.mem_of_getElem? (i := 57) rfl))) (by decide) (backOf (W := 0) (rmREs lL Z a0 hw [] b201 p199 T205.heap n0 ra sa.1) hZ (hw _ (List.mem_of_getElem? (i := 59) rfl)) (hw _ (List.mem_of_getElem? (i := 36) rfl)) (by decide) (by decide)) q213a q213c (g := (mkF mM 202 #[.val (.int u0), .val (.int u1), .val (.int u2), .val (.int u3), .val (.int u4), .val (.int u5), .val (.int x0), .val (.int x1), .val (.int y0), .val (.int y1), .val (.int (1 : Int32)), .val (.int (1 : Int32)), .val (.ref p199), .val (.ref p200), .val (.ref b201), .val (.int ((u5 >>> ((2 : Int32) &&& 31)) &&& (3 : Int32))), .val (.ref b204), .val (.int (0 : Int32))] [(.ref b201), (.ref b201)])) rfl (by rw [hml]; rfl) (Steps.refl _) (argsL := [(.ref b201)]) (rest := []) (lenOf pd__28Ljava_2flang_2fObject_3b_29Z rfl) rfl (by show 2 * 0 + _ ≤ _; exact Nat.le_of_eq rfl) (hb hby at_202) (fun _ _ => ⟨rfl, e212, (by decide : 12 + 0 ≤ _), (by decide : 58 + 0 ≤ _)⟩)
        dsimp only [Pt.U, Pt.locs, Pt.cells, Pt.slots] at X213 l213 y213 z213 st213 hQ213
        subst l213 y213 z213
        obtain ⟨rfl, N213q, e213⟩ := hQ213
        have N213 := Fr.app N212 N213q
        refine own_stW (A := T213.setTop (mkF mM 205 #[.val (.int u0), .val (.int u1), .val (.int u2), .val (.int u3), .val (.int u4), .val (.int u5), .val (.int x0), .val (.int x1), .val (.int y0), .val (.int y1), .val (.int (1 : Int32)), .val (.int (1 : Int32)), .val (.ref p199), .val (.ref p200), .val (.ref b201), .val (.int ((u5 >>> ((2 : Int32) &&& 31)) &&& (3 : Int32))), .val (.ref b204), .val (.int (0 : Int32))] [(.int (1 : Int32))])) (fun tT_ kK_ => st213.trans kK_) ?_
        refine own_stW (A := T213.setTop (mkF mM 208 #[.val (.int u0), .val (.int u1), .val (.int u2), .val (.int u3), .val (.int u4), .val (.int u5), .val (.int x0), .val (.int x1), .val (.int y0), .val (.int y1), .val (.int (1 : Int32)), .val (.int (1 : Int32)), .val (.ref p199), .val (.ref p200), .val (.ref b201), .val (.int ((u5 >>> ((2 : Int32) &&& 31)) &&& (3 : Int32))), .val (.ref b204), .val (.int (0 : Int32))] [])) (fun tT_ kK_ => XS.ifNo X213.here hx rfl (hb hby at_205) rfl ((if0 _ _).trans (feq (by decide : ¬ ((1 : Int32) = (0 : Int32)))).1) kK_) ?_
        refine own_stW (A := T213.setTop (mkF mM 209 #[.val (.int u0), .val (.int u1), .val (.int u2), .val (.int u3), .val (.int u4), .val (.int u5), .val (.int x0), .val (.int x1), .val (.int y0), .val (.int y1), .val (.int (1 : Int32)), .val (.int (1 : Int32)), .val (.ref p199), .val (.ref p200), .val (.ref b201), .val (.int ((u5 >>> ((2 : Int32) &&& 31)) &&& (3 : Int32))), .val (.ref b204), .val (.int (0 : Int32))] [(.int (1 : Int32))])) (fun tT_ kK_ => XS.iconst X213.here hx rfl (hb hby at_208) kK_) ?_
        refine own_stW (A := T213.setTop (mkF mM 213 #[.val (.int u0), .val (.int u1), .val (.int u2), .val (.int u3), .val (.int u4), .val (.int u5), .val (.int x0), .val (.int x1), .val (.int y0), .val (.int y1), .val (.int (1 : Int32)), .val (.int (1 : Int32)), .val (.ref p199), .val (.ref p200), .val (.ref b201), .val (.int ((u5 >>> ((2 : Int32) &&& 31)) &&& (3 : Int32))), .val (.ref b204), .val (.int (0 : Int32))] [(.int (1 : Int32))])) (fun tT_ kK_ => XS.goto X213.here hx rfl (pc0 := 209) (pc' := 213) rfl (hb hby at_209) (by decide) (by decide) kK_) ?_
        exact own_retWN X213 hx hlk hS (by rw [e213]; exact hk) (t := .boolean) hret (by simp) (hb hby at_213) ⟨rfl, N213⟩ (by decide) (by decide)
    · skip
      refine own_stW (A := T205.setTop (mkF mM 171 #[.val (.int u0), .val (.int u1), .val (.int u2), .val (.int u3), .val (.int u4), .val (.int u5), .val (.int x0), .val (.int x1), .val (.int y0), .val (.int y1), .val (.int (1 : Int32)), .val (.int (1 : Int32)), .val (.ref p199), .val (.ref p200), .val (.ref b201), .val (.int ((u5 >>> ((2 : Int32) &&& 31)) &&& (3 : Int32))), .val (.ref b204), .unset] [])) (fun tT_ kK_ => XS.icmpYes X205.here hx rfl (pc0 := 152) (pc' := 171) rfl (hb hby at_152) rfl (feq hc152_206).2 (by decide) (by decide) kK_) ?_
      refine own_stW (A := T205.setTop (mkF mM 172 #[.val (.int u0), .val (.int u1), .val (.int u2), .val (.int u3), .val (.int u4), .val (.int u5), .val (.int x0), .val (.int x1), .val (.int y0), .val (.int y1), .val (.int (1 : Int32)), .val (.int (1 : Int32)), .val (.ref p199), .val (.ref p200), .val (.ref b201), .val (.int ((u5 >>> ((2 : Int32) &&& 31)) &&& (3 : Int32))), .val (.ref b204), .unset] [(.int (0 : Int32))])) (fun tT_ kK_ => XS.iconst X205.here hx rfl (hb hby at_171) kK_) ?_
      refine own_stW (A := T205.setTop (mkF mM 174 #[.val (.int u0), .val (.int u1), .val (.int u2), .val (.int u3), .val (.int u4), .val (.int u5), .val (.int x0), .val (.int x1), .val (.int y0), .val (.int y1), .val (.int (1 : Int32)), .val (.int (1 : Int32)), .val (.ref p199), .val (.ref p200), .val (.ref b201), .val (.int ((u5 >>> ((2 : Int32) &&& 31)) &&& (3 : Int32))), .val (.ref b204), .val (.int (0 : Int32))] [])) (fun tT_ kK_ => XS.istore X205.here hx rfl (hb hby at_172) rfl (l' := #[.val (.int u0), .val (.int u1), .val (.int u2), .val (.int u3), .val (.int u4), .val (.int u5), .val (.int x0), .val (.int x1), .val (.int y0), .val (.int y1), .val (.int (1 : Int32)), .val (.int (1 : Int32)), .val (.ref p199), .val (.ref p200), .val (.ref b201), .val (.int ((u5 >>> ((2 : Int32) &&& 31)) &&& (3 : Int32))), .val (.ref b204), .val (.int (0 : Int32))]) rfl kK_) ?_
      refine own_stW (A := T205.setTop (mkF mM 176 #[.val (.int u0), .val (.int u1), .val (.int u2), .val (.int u3), .val (.int u4), .val (.int u5), .val (.int x0), .val (.int x1), .val (.int y0), .val (.int y1), .val (.int (1 : Int32)), .val (.int (1 : Int32)), .val (.ref p199), .val (.ref p200), .val (.ref b201), .val (.int ((u5 >>> ((2 : Int32) &&& 31)) &&& (3 : Int32))), .val (.ref b204), .val (.int (0 : Int32))] [(.ref b201)])) (fun tT_ kK_ => XS.aload X205.here hx rfl (hb hby at_174) rfl rfl kK_) ?_
      refine own_stW (A := T205.setTop (mkF mM 178 #[.val (.int u0), .val (.int u1), .val (.int u2), .val (.int u3), .val (.int u4), .val (.int u5), .val (.int x0), .val (.int x1), .val (.int y0), .val (.int y1), .val (.int (1 : Int32)), .val (.int (1 : Int32)), .val (.ref p199), .val (.ref p200), .val (.ref b201), .val (.int ((u5 >>> ((2 : Int32) &&& 31)) &&& (3 : Int32))), .val (.ref b204), .val (.int (0 : Int32))] [(.ref b204), (.ref b201)])) (fun tT_ kK_ => XS.aload X205.here hx rfl (hb hby at_176) rfl rfl kK_) ?_
      obtain ⟨cq214, kq214, q214a, q214b, q214c⟩ := isOf hZ e205 ra.1
      obtain ⟨_, _, ⟨T214, L214, k214, n214⟩, -, X214, ⟨Lc214, hQ214, l214, y214, z214⟩, st214⟩ := X205.virtualBack hx (y := (⟨"com/example/upfront_duty/upfrontduty/algebra/Role", "equals", "(Ljava/lang/Object;)Z"⟩ : MethodName)) (z := (⟨"com/example/upfront_duty/upfrontduty/algebra/Role", "equals", "(Ljava/lang/Object;)Z"⟩ : MethodName)) hown (mvT hZ (hw _ (List.mem_of_getElem? (i := 55) rfl))) (mvT hZ (hw _ (List.mem_of_getElem? (i := 56) rfl))) (notFace_of_selects (args := #[]) (mvT hZ (hw _ (List.mem_of_getElem? (i := 58) rfl)))) (mvT hZ (hw _ (List.mem_of_getElem? (i := 58) rfl))) (mvT hZ (hw _ (List.mem_of_getElem? (i := 57) rfl))) (by decide) (backOf (W := 0) (rmRE22 lL Z a0 hw [] b201 b204 p199 d199 k199' p200 d200 k200' cs x0 x1 y0 y1 0 T205.heap n0 ra rb sa sb nss (S_cs.ext O.2) hcs cx0 cx1 cy0 cy1 (fun _ => rfl) (fun q _ => absurd q hc152_206) (fun q _ => absurd q hc152_206) (Or.inl rfl)) hZ (hw _ (List.mem_of_getElem? (i := 59) rfl)) (hw _ (List.mem_of_getElem? (i := 36) rfl)) (by decide) (by decide)) q214a q214c (g := (mkF mM 178 #[.val (.int u0), .val (.int u1), .val (.int u2), .val (.int u3), .val (.int u4), .val (.int u5), .val (.int x0), .val (.int x1), .val (.int y0), .val (.int y1), .val (.int (1 : Int32)), .val (.int (1 : Int32)), .val (.ref p199), .val (.ref p200), .val (.ref b201), .val (.int ((u5 >>> ((2 : Int32) &&& 31)) &&& (3 : Int32))), .val (.ref b204), .val (.int (0 : Int32))] [(.ref b204), (.ref b201)])) rfl (by rw [hml]; rfl) (Steps.refl _) (argsL := [(.ref b204)]) (rest := []) (lenOf pd__28Ljava_2flang_2fObject_3b_29Z rfl) rfl (by show 2 * 0 + _ ≤ _; exact Nat.le_of_eq rfl) (hb hby at_178) (fun _ _ => ⟨rfl, e205, (by decide : 12 + 0 ≤ _), (by decide : 58 + 0 ≤ _)⟩)
      dsimp only [Pt.U, Pt.locs, Pt.cells, Pt.slots] at X214 l214 y214 z214 st214 hQ214
      subst l214 y214 z214
      obtain ⟨rfl, N214q, e214⟩ := hQ214
      have N214 := Fr.app N205 N214q
      refine own_stW (A := T214.setTop (mkF mM 181 #[.val (.int u0), .val (.int u1), .val (.int u2), .val (.int u3), .val (.int u4), .val (.int u5), .val (.int x0), .val (.int x1), .val (.int y0), .val (.int y1), .val (.int (1 : Int32)), .val (.int (1 : Int32)), .val (.ref p199), .val (.ref p200), .val (.ref b201), .val (.int ((u5 >>> ((2 : Int32) &&& 31)) &&& (3 : Int32))), .val (.ref b204), .val (.int (0 : Int32))] [(.int (0 : Int32))])) (fun tT_ kK_ => st214.trans kK_) ?_
      refine own_stW (A := T214.setTop (mkF mM 183 #[.val (.int u0), .val (.int u1), .val (.int u2), .val (.int u3), .val (.int u4), .val (.int u5), .val (.int x0), .val (.int x1), .val (.int y0), .val (.int y1), .val (.int (1 : Int32)), .val (.int (1 : Int32)), .val (.ref p199), .val (.ref p200), .val (.ref b201), .val (.int ((u5 >>> ((2 : Int32) &&& 31)) &&& (3 : Int32))), .val (.ref b204), .val (.int (0 : Int32))] [(.int (0 : Int32)), (.int (0 : Int32))])) (fun tT_ kK_ => XS.iload X214.here hx rfl (hb hby at_181) rfl kK_) ?_
      refine own_stW (A := T214.setTop (mkF mM 186 #[.val (.int u0), .val (.int u1), .val (.int u2), .val (.int u3), .val (.int u4), .val (.int u5), .val (.int x0), .val (.int x1), .val (.int y0), .val (.int y1), .val (.int (1 : Int32)), .val (.int (1 : Int32)), .val (.ref p199), .val (.ref p200), .val (.ref b201), .val (.int ((u5 >>> ((2 : Int32) &&& 31)) &&& (3 : Int32))), .val (.ref b204), .val (.int (0 : Int32))] [])) (fun tT_ kK_ => XS.icmpNo X214.here hx rfl (hb hby at_183) rfl (teq (by decide : ((0 : Int32) = (0 : Int32)))).2 kK_) ?_
      refine own_stW (A := T214.setTop (mkF mM 188 #[.val (.int u0), .val (.int u1), .val (.int u2), .val (.int u3), .val (.int u4), .val (.int u5), .val (.int x0), .val (.int x1), .val (.int y0), .val (.int y1), .val (.int (1 : Int32)), .val (.int (1 : Int32)), .val (.ref p199), .val (.ref p200), .val (.ref b201), .val (.int ((u5 >>> ((2 : Int32) &&& 31)) &&& (3 : Int32))), .val (.ref b204), .val (.int (0 : Int32))] [(.ref b204)])) (fun tT_ kK_ => XS.aload X214.here hx rfl (hb hby at_186) rfl rfl kK_) ?_
      refine own_stW (A := T214.setTop (mkF mM 190 #[.val (.int u0), .val (.int u1), .val (.int u2), .val (.int u3), .val (.int u4), .val (.int u5), .val (.int x0), .val (.int x1), .val (.int y0), .val (.int y1), .val (.int (1 : Int32)), .val (.int (1 : Int32)), .val (.ref p199), .val (.ref p200), .val (.ref b201), .val (.int ((u5 >>> ((2 : Int32) &&& 31)) &&& (3 : Int32))), .val (.ref b204), .val (.int (0 : Int32))] [(.ref b201), (.ref b204)])) (fun tT_ kK_ => XS.aload X214.here hx rfl (hb hby at_188) rfl rfl kK_) ?_
      obtain ⟨cq215, kq215, q215a, q215b, q215c⟩ := isOf hZ e214 rb.1
      obtain ⟨_, _, ⟨T215, L215, k215, n215⟩, -, X215, ⟨Lc215, hQ215, l215, y215, z215⟩, st215⟩ := X214.virtualBack hx (y := (⟨"com/example/upfront_duty/upfrontduty/algebra/Role", "equals", "(Ljava/lang/Object;)Z"⟩ : MethodName)) (z := (⟨"com/example/upfront_duty/upfrontduty/algebra/Role", "equals", "(Ljava/lang/Object;)Z"⟩ : MethodName)) hown (mvT hZ (hw _ (List.mem_of_getElem? (i := 55) rfl))) (mvT hZ (hw _ (List.mem_of_getElem? (i := 56) rfl))) (notFace_of_selects (args := #[]) (mvT hZ (hw _ (List.mem_of_getElem? (i := 58) rfl)))) (mvT hZ (hw _ (List.mem_of_getElem? (i := 58) rfl))) (mvT hZ (hw _ (List.mem_of_getElem? (i := 57) rfl))) (by decide) (backOf (W := 0) (rmRE22 lL Z a0 hw [] b204 b201 p200 d200 k200' p199 d199 k199' cs y0 y1 x0 x1 0 T205.heap n0 rb ra sb sa nss.symm (S_cs.ext O.2) hcs cy0 cy1 cx0 cx1 (fun _ => rfl) (fun q _ => absurd q (fun q => hc152_206 q.symm)) (fun q _ => absurd q (fun q => hc152_206 q.symm)) (Or.inl rfl)) hZ (hw _ (List.mem_of_getElem? (i := 59) rfl)) (hw _ (List.mem_of_getElem? (i := 36) rfl)) (by decide) (by decide)) q215a q215c (g := (mkF mM 190 #[.val (.int u0), .val (.int u1), .val (.int u2), .val (.int u3), .val (.int u4), .val (.int u5), .val (.int x0), .val (.int x1), .val (.int y0), .val (.int y1), .val (.int (1 : Int32)), .val (.int (1 : Int32)), .val (.ref p199), .val (.ref p200), .val (.ref b201), .val (.int ((u5 >>> ((2 : Int32) &&& 31)) &&& (3 : Int32))), .val (.ref b204), .val (.int (0 : Int32))] [(.ref b201), (.ref b204)])) rfl (by rw [hml]; rfl) (Steps.refl _) (argsL := [(.ref b201)]) (rest := []) (lenOf pd__28Ljava_2flang_2fObject_3b_29Z rfl) rfl (by show 2 * 0 + _ ≤ _; exact Nat.le_of_eq rfl) (hb hby at_190) (fun _ _ => ⟨rfl, e214, (by decide : 12 + 0 ≤ _), (by decide : 58 + 0 ≤ _)⟩)
      dsimp only [Pt.U, Pt.locs, Pt.cells, Pt.slots] at X215 l215 y215 z215 st215 hQ215
      subst l215 y215 z215
      obtain ⟨rfl, N215q, e215⟩ := hQ215
      have N215 := Fr.app N214 N215q
      refine own_stW (A := T215.setTop (mkF mM 193 #[.val (.int u0), .val (.int u1), .val (.int u2), .val (.int u3), .val (.int u4), .val (.int u5), .val (.int x0), .val (.int x1), .val (.int y0), .val (.int y1), .val (.int (1 : Int32)), .val (.int (1 : Int32)), .val (.ref p199), .val (.ref p200), .val (.ref b201), .val (.int ((u5 >>> ((2 : Int32) &&& 31)) &&& (3 : Int32))), .val (.ref b204), .val (.int (0 : Int32))] [(.int (0 : Int32))])) (fun tT_ kK_ => st215.trans kK_) ?_
      refine own_stW (A := T215.setTop (mkF mM 195 #[.val (.int u0), .val (.int u1), .val (.int u2), .val (.int u3), .val (.int u4), .val (.int u5), .val (.int x0), .val (.int x1), .val (.int y0), .val (.int y1), .val (.int (1 : Int32)), .val (.int (1 : Int32)), .val (.ref p199), .val (.ref p200), .val (.ref b201), .val (.int ((u5 >>> ((2 : Int32) &&& 31)) &&& (3 : Int32))), .val (.ref b204), .val (.int (0 : Int32))] [(.int (0 : Int32)), (.int (0 : Int32))])) (fun tT_ kK_ => XS.iload X215.here hx rfl (hb hby at_193) rfl kK_) ?_
      refine own_stW (A := T215.setTop (mkF mM 198 #[.val (.int u0), .val (.int u1), .val (.int u2), .val (.int u3), .val (.int u4), .val (.int u5), .val (.int x0), .val (.int x1), .val (.int y0), .val (.int y1), .val (.int (1 : Int32)), .val (.int (1 : Int32)), .val (.ref p199), .val (.ref p200), .val (.ref b201), .val (.int ((u5 >>> ((2 : Int32) &&& 31)) &&& (3 : Int32))), .val (.ref b204), .val (.int (0 : Int32))] [])) (fun tT_ kK_ => XS.icmpNo X215.here hx rfl (hb hby at_195) rfl (teq (by decide : ((0 : Int32) = (0 : Int32)))).2 kK_) ?_
      refine own_stW (A := T215.setTop (mkF mM 200 #[.val (.int u0), .val (.int u1), .val (.int u2), .val (.int u3), .val (.int u4), .val (.int u5), .val (.int x0), .val (.int x1), .val (.int y0), .val (.int y1), .val (.int (1 : Int32)), .val (.int (1 : Int32)), .val (.ref p199), .val (.ref p200), .val (.ref b201), .val (.int ((u5 >>> ((2 : Int32) &&& 31)) &&& (3 : Int32))), .val (.ref b204), .val (.int (0 : Int32))] [(.ref b201)])) (fun tT_ kK_ => XS.aload X215.here hx rfl (hb hby at_198) rfl rfl kK_) ?_
      refine own_stW (A := T215.setTop (mkF mM 202 #[.val (.int u0), .val (.int u1), .val (.int u2), .val (.int u3), .val (.int u4), .val (.int u5), .val (.int x0), .val (.int x1), .val (.int y0), .val (.int y1), .val (.int (1 : Int32)), .val (.int (1 : Int32)), .val (.ref p199), .val (.ref p200), .val (.ref b201), .val (.int ((u5 >>> ((2 : Int32) &&& 31)) &&& (3 : Int32))), .val (.ref b204), .val (.int (0 : Int32))] [(.ref b201), (.ref b201)])) (fun tT_ kK_ => XS.aload X215.here hx rfl (hb hby at_200) rfl rfl kK_) ?_
      obtain ⟨cq216, kq216, q216a, q216b, q216c⟩ := isOf hZ e215 ra.1
      obtain ⟨_, _, ⟨T216, L216, k216, n216⟩, -, X216, ⟨Lc216, hQ216, l216, y216, z216⟩, st216⟩ := X215.virtualBack hx (y := (⟨"com/example/upfront_duty/upfrontduty/algebra/Role", "equals", "(Ljava/lang/Object;)Z"⟩ : MethodName)) (z := (⟨"com/example/upfront_duty/upfrontduty/algebra/Role", "equals", "(Ljava/lang/Object;)Z"⟩ : MethodName)) hown (mvT hZ (hw _ (List.mem_of_getElem? (i := 55) rfl))) (mvT hZ (hw _ (List.mem_of_getElem? (i := 56) rfl))) (notFace_of_selects (args := #[]) (mvT hZ (hw _ (List.mem_of_getElem? (i := 58) rfl)))) (mvT hZ (hw _ (List.mem_of_getElem? (i := 58) rfl))) (mvT hZ (hw _ (List.mem_of_getElem? (i := 57) rfl))) (by decide) (backOf (W := 0) (rmREs lL Z a0 hw [] b201 p199 T205.heap n0 ra sa.1) hZ (hw _ (List.mem_of_getElem? (i := 59) rfl)) (hw _ (List.mem_of_getElem? (i := 36) rfl)) (by decide) (by decide)) q216a q216c (g := (mkF mM 202 #[.val (.int u0), .val (.int u1), .val (.int u2), .val (.int u3), .val (.int u4), .val (.int u5), .val (.int x0), .val (.int x1), .val (.int y0), .val (.int y1), .val (.int (1 : Int32)), .val (.int (1 : Int32)), .val (.ref p199), .val (.ref p200), .val (.ref b201), .val (.int ((u5 >>> ((2 : Int32) &&& 31)) &&& (3 : Int32))), .val (.ref b204), .val (.int (0 : Int32))] [(.ref b201), (.ref b201)])) rfl (by rw [hml]; rfl) (Steps.refl _) (argsL := [(.ref b201)]) (rest := []) (lenOf pd__28Ljava_2flang_2fObject_3b_29Z rfl) rfl (by show 2 * 0 + _ ≤ _; exact Nat.le_of_eq rfl) (hb hby at_202) (fun _ _ => ⟨rfl, e215, (by decide : 12 + 0 ≤ _), (by decide : 58 + 0 ≤ _)⟩)
      dsimp only [Pt.U, Pt.locs, Pt.cells, Pt.slots] at X216 l216 y216 z216 st216 hQ216
      subst l216 y216 z216
      obtain ⟨rfl, N216q, e216⟩ := hQ216
      have N216 := Fr.app N215 N216q
      refine own_stW (A := T216.setTop (mkF mM 205 #[.val (.int u0), .val (.int u1), .val (.int u2), .val (.int u3), .val (.int u4), .val (.int u5), .val (.int x0), .val (.int x1), .val (.int y0), .val (.int y1), .val (.int (1 : Int32)), .val (.int (1 : Int32)), .val (.ref p199), .val (.ref p200), .val (.ref b201), .val (.int ((u5 >>> ((2 : Int32) &&& 31)) &&& (3 : Int32))), .val (.ref b204), .val (.int (0 : Int32))] [(.int (1 : Int32))])) (fun tT_ kK_ => st216.trans kK_) ?_
      refine own_stW (A := T216.setTop (mkF mM 208 #[.val (.int u0), .val (.int u1), .val (.int u2), .val (.int u3), .val (.int u4), .val (.int u5), .val (.int x0), .val (.int x1), .val (.int y0), .val (.int y1), .val (.int (1 : Int32)), .val (.int (1 : Int32)), .val (.ref p199), .val (.ref p200), .val (.ref b201), .val (.int ((u5 >>> ((2 : Int32) &&& 31)) &&& (3 : Int32))), .val (.ref b204), .val (.int (0 : Int32))] [])) (fun tT_ kK_ => XS.ifNo X216.here hx rfl (hb hby at_205) rfl ((if0 _ _).trans (feq (by decide : ¬ ((1 : Int32) = (0 : Int32)))).1) kK_) ?_
      refine own_stW (A := T216.setTop (mkF mM 209 #[.val (.int u0), .val (.int u1), .val (.int u2), .val (.int u3), .val (.int u4), .val (.int u5), .val (.int x0), .val (.int x1), .val (.int y0), .val (.int y1), .val (.int (1 : Int32)), .val (.int (1 : Int32)), .val (.ref p199), .val (.ref p200), .val (.ref b201), .val (.int ((u5 >>> ((2 : Int32) &&& 31)) &&& (3 : Int32))), .val (.ref b204), .val (.int (0 : Int32))] [(.int (1 : Int32))])) (fun tT_ kK_ => XS.iconst X216.here hx rfl (hb hby at_208) kK_) ?_
      refine own_stW (A := T216.setTop (mkF mM 213 #[.val (.int u0), .val (.int u1), .val (.int u2), .val (.int u3), .val (.int u4), .val (.int u5), .val (.int x0), .val (.int x1), .val (.int y0), .val (.int y1), .val (.int (1 : Int32)), .val (.int (1 : Int32)), .val (.ref p199), .val (.ref p200), .val (.ref b201), .val (.int ((u5 >>> ((2 : Int32) &&& 31)) &&& (3 : Int32))), .val (.ref b204), .val (.int (0 : Int32))] [(.int (1 : Int32))])) (fun tT_ kK_ => XS.goto X216.here hx rfl (pc0 := 209) (pc' := 213) rfl (hb hby at_209) (by decide) (by decide) kK_) ?_
      exact own_retWN X216 hx hlk hS (by rw [e216]; exact hk) (t := .boolean) hret (by simp) (hb hby at_213) ⟨rfl, N216⟩ (by decide) (by decide)
  · skip
    refine own_stW (A := T202.setTop (mkF mM 214 #[.val (.int u0), .val (.int u1), .val (.int u2), .val (.int u3), .val (.int u4), .val (.int u5), .val (.int x0), .val (.int x1), .val (.int y0), .val (.int y1), .val (.int (1 : Int32)), .val (.int (1 : Int32)), .val (.ref p199), .val (.ref p200), .val (.ref b201), .val (.int ((u5 >>> ((2 : Int32) &&& 31)) &&& (3 : Int32))), .unset, .unset] [])) (fun tT_ kK_ => XS.ifYes X202.here hx rfl (pc0 := 127) (pc' := 214) rfl (hb hby at_127) rfl ((if0 _ _).trans (feq hc127_203).2) (by decide) (by decide) kK_) ?_
    refine own_stW (A := T202.setTop (mkF mM 216 #[.val (.int u0), .val (.int u1), .val (.int u2), .val (.int u3), .val (.int u4), .val (.int u5), .val (.int x0), .val (.int x1), .val (.int y0), .val (.int y1), .val (.int (1 : Int32)), .val (.int (1 : Int32)), .val (.ref p199), .val (.ref p200), .val (.ref b201), .val (.int ((u5 >>> ((2 : Int32) &&& 31)) &&& (3 : Int32))), .unset, .unset] [(.int ((u5 >>> ((2 : Int32) &&& 31)) &&& (3 : Int32)))])) (fun tT_ kK_ => XS.iload X202.here hx rfl (hb hby at_214) rfl kK_) ?_
    refine own_stW (A := T202.setTop (mkF mM 217 #[.val (.int u0), .val (.int u1), .val (.int u2), .val (.int u3), .val (.int u4), .val (.int u5), .val (.int x0), .val (.int x1), .val (.int y0), .val (.int y1), .val (.int (1 : Int32)), .val (.int (1 : Int32)), .val (.ref p199), .val (.ref p200), .val (.ref b201), .val (.int ((u5 >>> ((2 : Int32) &&& 31)) &&& (3 : Int32))), .unset, .unset] [(.int (1 : Int32)), (.int ((u5 >>> ((2 : Int32) &&& 31)) &&& (3 : Int32)))])) (fun tT_ kK_ => XS.iconst X202.here hx rfl (hb hby at_216) kK_) ?_
    by_cases hc217_217 : ((u5 >>> ((2 : Int32) &&& 31)) &&& (3 : Int32)) = (1 : Int32)
    · skip
      refine own_stW (A := T202.setTop (mkF mM 220 #[.val (.int u0), .val (.int u1), .val (.int u2), .val (.int u3), .val (.int u4), .val (.int u5), .val (.int x0), .val (.int x1), .val (.int y0), .val (.int y1), .val (.int (1 : Int32)), .val (.int (1 : Int32)), .val (.ref p199), .val (.ref p200), .val (.ref b201), .val (.int ((u5 >>> ((2 : Int32) &&& 31)) &&& (3 : Int32))), .unset, .unset] [])) (fun tT_ kK_ => XS.icmpNo X202.here hx rfl (hb hby at_217) rfl (teq hc217_217).2 kK_) ?_
      refine own_stW (A := T202.setTop (mkF mM 222 #[.val (.int u0), .val (.int u1), .val (.int u2), .val (.int u3), .val (.int u4), .val (.int u5), .val (.int x0), .val (.int x1), .val (.int y0), .val (.int y1), .val (.int (1 : Int32)), .val (.int (1 : Int32)), .val (.ref p199), .val (.ref p200), .val (.ref b201), .val (.int ((u5 >>> ((2 : Int32) &&& 31)) &&& (3 : Int32))), .unset, .unset] [(.ref b201)])) (fun tT_ kK_ => XS.aload X202.here hx rfl (hb hby at_220) rfl rfl kK_) ?_
      refine own_stW (A := T202.setTop (mkF mM 223 #[.val (.int u0), .val (.int u1), .val (.int u2), .val (.int u3), .val (.int u4), .val (.int u5), .val (.int x0), .val (.int x1), .val (.int y0), .val (.int y1), .val (.int (1 : Int32)), .val (.int (1 : Int32)), .val (.ref p199), .val (.ref p200), .val (.ref b201), .val (.int ((u5 >>> ((2 : Int32) &&& 31)) &&& (3 : Int32))), .unset, .unset] [.null, (.ref b201)])) (fun tT_ kK_ => XS.aconstNull X202.here hx rfl (hb hby at_222) kK_) ?_
      obtain ⟨cq218, kq218, q218a, q218b, q218c⟩ := isOf hZ e202 ra.1
      obtain ⟨_, _, ⟨T218, L218, k218, n218⟩, -, X218, ⟨Lc218, hQ218, l218, y218, z218⟩, st218⟩ := X202.virtualBack hx (y := (⟨"com/example/upfront_duty/upfrontduty/algebra/Role", "equals", "(Ljava/lang/Object;)Z"⟩ : MethodName)) (z := (⟨"com/example/upfront_duty/upfrontduty/algebra/Role", "equals", "(Ljava/lang/Object;)Z"⟩ : MethodName)) hown (mvT hZ (hw _ (List.mem_of_getElem? (i := 55) rfl))) (mvT hZ (hw _ (List.mem_of_getElem? (i := 56) rfl))) (notFace_of_selects (args := #[]) (mvT hZ (hw _ (List.mem_of_getElem? (i := 58) rfl)))) (mvT hZ (hw _ (List.mem_of_getElem? (i := 58) rfl))) (mvT hZ (hw _ (List.mem_of_getElem? (i := 57) rfl))) (by decide) (backOf (W := 0) (rmREn lL Z a0 hw [] b201 T202.heap n0 ) hZ (hw _ (List.mem_of_getElem? (i := 59) rfl)) (hw _ (List.mem_of_getElem? (i := 36) rfl)) (by decide) (by decide)) q218a q218c (g := (mkF mM 223 #[.val (.int u0), .val (.int u1), .val (.int u2), .val (.int u3), .val (.int u4), .val (.int u5), .val (.int x0), .val (.int x1), .val (.int y0), .val (.int y1), .val (.int (1 : Int32)), .val (.int (1 : Int32)), .val (.ref p199), .val (.ref p200), .val (.ref b201), .val (.int ((u5 >>> ((2 : Int32) &&& 31)) &&& (3 : Int32))), .unset, .unset] [.null, (.ref b201)])) rfl (by rw [hml]; rfl) (Steps.refl _) (argsL := [.null]) (rest := []) (lenOf pd__28Ljava_2flang_2fObject_3b_29Z rfl) rfl (by show 2 * 0 + _ ≤ _; exact Nat.le_of_eq rfl) (hb hby at_223) (fun _ _ => ⟨rfl, e202, (by decide : 9 + 0 ≤ _), (by decide : 37 + 0 ≤ _)⟩)
      dsimp only [Pt.U, Pt.locs, Pt.cells, Pt.slots] at X218 l218 y218 z218 st218 hQ218
      subst l218 y218 z218
      obtain ⟨rfl, N218q, e218⟩ := hQ218
      have N218 := Fr.app N202 N218q
      refine own_stW (A := T218.setTop (mkF mM 226 #[.val (.int u0), .val (.int u1), .val (.int u2), .val (.int u3), .val (.int u4), .val (.int u5), .val (.int x0), .val (.int x1), .val (.int y0), .val (.int y1), .val (.int (1 : Int32)), .val (.int (1 : Int32)), .val (.ref p199), .val (.ref p200), .val (.ref b201), .val (.int ((u5 >>> ((2 : Int32) &&& 31)) &&& (3 : Int32))), .unset, .unset] [(.int (0 : Int32))])) (fun tT_ kK_ => st218.trans kK_) ?_
      refine own_stW (A := T218.setTop (mkF mM 229 #[.val (.int u0), .val (.int u1), .val (.int u2), .val (.int u3), .val (.int u4), .val (.int u5), .val (.int x0), .val (.int x1), .val (.int y0), .val (.int y1), .val (.int (1 : Int32)), .val (.int (1 : Int32)), .val (.ref p199), .val (.ref p200), .val (.ref b201), .val (.int ((u5 >>> ((2 : Int32) &&& 31)) &&& (3 : Int32))), .unset, .unset] [])) (fun tT_ kK_ => XS.ifNo X218.here hx rfl (hb hby at_226) rfl ((if0 _ _).trans (teq (by decide : ((0 : Int32) = (0 : Int32)))).2) kK_) ?_
      refine own_stW (A := T218.setTop (mkF mM 230 #[.val (.int u0), .val (.int u1), .val (.int u2), .val (.int u3), .val (.int u4), .val (.int u5), .val (.int x0), .val (.int x1), .val (.int y0), .val (.int y1), .val (.int (1 : Int32)), .val (.int (1 : Int32)), .val (.ref p199), .val (.ref p200), .val (.ref b201), .val (.int ((u5 >>> ((2 : Int32) &&& 31)) &&& (3 : Int32))), .unset, .unset] [(.int (1 : Int32))])) (fun tT_ kK_ => XS.iconst X218.here hx rfl (hb hby at_229) kK_) ?_
      refine own_stW (A := T218.setTop (mkF mM 234 #[.val (.int u0), .val (.int u1), .val (.int u2), .val (.int u3), .val (.int u4), .val (.int u5), .val (.int x0), .val (.int x1), .val (.int y0), .val (.int y1), .val (.int (1 : Int32)), .val (.int (1 : Int32)), .val (.ref p199), .val (.ref p200), .val (.ref b201), .val (.int ((u5 >>> ((2 : Int32) &&& 31)) &&& (3 : Int32))), .unset, .unset] [(.int (1 : Int32))])) (fun tT_ kK_ => XS.goto X218.here hx rfl (pc0 := 230) (pc' := 234) rfl (hb hby at_230) (by decide) (by decide) kK_) ?_
      exact own_retWN X218 hx hlk hS (by rw [e218]; exact hk) (t := .boolean) hret (by simp) (hb hby at_234) ⟨rfl, N218⟩ (by decide) (by decide)
    · skip
      refine own_stW (A := T202.setTop (mkF mM 235 #[.val (.int u0), .val (.int u1), .val (.int u2), .val (.int u3), .val (.int u4), .val (.int u5), .val (.int x0), .val (.int x1), .val (.int y0), .val (.int y1), .val (.int (1 : Int32)), .val (.int (1 : Int32)), .val (.ref p199), .val (.ref p200), .val (.ref b201), .val (.int ((u5 >>> ((2 : Int32) &&& 31)) &&& (3 : Int32))), .unset, .unset] [])) (fun tT_ kK_ => XS.icmpYes X202.here hx rfl (pc0 := 217) (pc' := 235) rfl (hb hby at_217) rfl (feq hc217_217).2 (by decide) (by decide) kK_) ?_
      refine own_stW (A := T202.setTop (mkF mM 237 #[.val (.int u0), .val (.int u1), .val (.int u2), .val (.int u3), .val (.int u4), .val (.int u5), .val (.int x0), .val (.int x1), .val (.int y0), .val (.int y1), .val (.int (1 : Int32)), .val (.int (1 : Int32)), .val (.ref p199), .val (.ref p200), .val (.ref b201), .val (.int ((u5 >>> ((2 : Int32) &&& 31)) &&& (3 : Int32))), .unset, .unset] [(.int ((u5 >>> ((2 : Int32) &&& 31)) &&& (3 : Int32)))])) (fun tT_ kK_ => XS.iload X202.here hx rfl (hb hby at_235) rfl kK_) ?_
      refine own_stW (A := T202.setTop (mkF mM 238 #[.val (.int u0), .val (.int u1), .val (.int u2), .val (.int u3), .val (.int u4), .val (.int u5), .val (.int x0), .val (.int x1), .val (.int y0), .val (.int y1), .val (.int (1 : Int32)), .val (.int (1 : Int32)), .val (.ref p199), .val (.ref p200), .val (.ref b201), .val (.int ((u5 >>> ((2 : Int32) &&& 31)) &&& (3 : Int32))), .unset, .unset] [(.int (2 : Int32)), (.int ((u5 >>> ((2 : Int32) &&& 31)) &&& (3 : Int32)))])) (fun tT_ kK_ => XS.iconst X202.here hx rfl (hb hby at_237) kK_) ?_
      by_cases hc238_219 : ((u5 >>> ((2 : Int32) &&& 31)) &&& (3 : Int32)) = (2 : Int32)
      · skip
        refine own_stW (A := T202.setTop (mkF mM 241 #[.val (.int u0), .val (.int u1), .val (.int u2), .val (.int u3), .val (.int u4), .val (.int u5), .val (.int x0), .val (.int x1), .val (.int y0), .val (.int y1), .val (.int (1 : Int32)), .val (.int (1 : Int32)), .val (.ref p199), .val (.ref p200), .val (.ref b201), .val (.int ((u5 >>> ((2 : Int32) &&& 31)) &&& (3 : Int32))), .unset, .unset] [])) (fun tT_ kK_ => XS.icmpNo X202.here hx rfl (hb hby at_238) rfl (teq hc238_219).2 kK_) ?_
        refine own_stW (A := T202.setTop (mkF mM 243 #[.val (.int u0), .val (.int u1), .val (.int u2), .val (.int u3), .val (.int u4), .val (.int u5), .val (.int x0), .val (.int x1), .val (.int y0), .val (.int y1), .val (.int (1 : Int32)), .val (.int (1 : Int32)), .val (.ref p199), .val (.ref p200), .val (.ref b201), .val (.int ((u5 >>> ((2 : Int32) &&& 31)) &&& (3 : Int32))), .unset, .unset] [(.ref b201)])) (fun tT_ kK_ => XS.aload X202.here hx rfl (hb hby at_241) rfl rfl kK_) ?_
        refine own_stW (A := T202.setTop (mkF mM 245 #[.val (.int u0), .val (.int u1), .val (.int u2), .val (.int u3), .val (.int u4), .val (.int u5), .val (.int x0), .val (.int x1), .val (.int y0), .val (.int y1), .val (.int (1 : Int32)), .val (.int (1 : Int32)), .val (.ref p199), .val (.ref p200), .val (.ref b201), .val (.int ((u5 >>> ((2 : Int32) &&& 31)) &&& (3 : Int32))), .unset, .unset] [(.ref p199), (.ref b201)])) (fun tT_ kK_ => XS.aload X202.here hx rfl (hb hby at_243) rfl rfl kK_) ?_
        obtain ⟨cq220, kq220, q220a, q220b, q220c⟩ := isOf hZ e202 ra.1
        obtain ⟨_, _, ⟨T220, L220, k220, n220⟩, -, X220, ⟨Lc220, hQ220, l220, y220, z220⟩, st220⟩ := X202.virtualBack hx (y := (⟨"com/example/upfront_duty/upfrontduty/algebra/Role", "equals", "(Ljava/lang/Object;)Z"⟩ : MethodName)) (z := (⟨"com/example/upfront_duty/upfrontduty/algebra/Role", "equals", "(Ljava/lang/Object;)Z"⟩ : MethodName)) hown (mvT hZ (hw _ (List.mem_of_getElem? (i := 55) rfl))) (mvT hZ (hw _ (List.mem_of_getElem? (i := 56) rfl))) (notFace_of_selects (args := #[]) (mvT hZ (hw _ (List.mem_of_getElem? (i := 58) rfl)))) (mvT hZ (hw _ (List.mem_of_getElem? (i := 58) rfl))) (mvT hZ (hw _ (List.mem_of_getElem? (i := 57) rfl))) (by decide) (backOf (W := 0) (rmREo0 lL Z a0 hw [] b201 p199 T202.heap n0 sa.1) hZ (hw _ (List.mem_of_getElem? (i := 59) rfl)) (hw _ (List.mem_of_getElem? (i := 36) rfl)) (by decide) (by decide)) q220a q220c (g := (mkF mM 245 #[.val (.int u0), .val (.int u1), .val (.int u2), .val (.int u3), .val (.int u4), .val (.int u5), .val (.int x0), .val (.int x1), .val (.int y0), .val (.int y1), .val (.int (1 : Int32)), .val (.int (1 : Int32)), .val (.ref p199), .val (.ref p200), .val (.ref b201), .val (.int ((u5 >>> ((2 : Int32) &&& 31)) &&& (3 : Int32))), .unset, .unset] [(.ref p199), (.ref b201)])) rfl (by rw [hml]; rfl) (Steps.refl _) (argsL := [(.ref p199)]) (rest := []) (lenOf pd__28Ljava_2flang_2fObject_3b_29Z rfl) rfl (by show 2 * 0 + _ ≤ _; exact Nat.le_of_eq rfl) (hb hby at_245) (fun _ _ => ⟨rfl, e202, (by decide : 9 + 0 ≤ _), (by decide : 37 + 0 ≤ _)⟩)
        dsimp only [Pt.U, Pt.locs, Pt.cells, Pt.slots] at X220 l220 y220 z220 st220 hQ220
        subst l220 y220 z220
        obtain ⟨rfl, N220q, e220⟩ := hQ220
        have N220 := Fr.app N202 N220q
        refine own_stW (A := T220.setTop (mkF mM 248 #[.val (.int u0), .val (.int u1), .val (.int u2), .val (.int u3), .val (.int u4), .val (.int u5), .val (.int x0), .val (.int x1), .val (.int y0), .val (.int y1), .val (.int (1 : Int32)), .val (.int (1 : Int32)), .val (.ref p199), .val (.ref p200), .val (.ref b201), .val (.int ((u5 >>> ((2 : Int32) &&& 31)) &&& (3 : Int32))), .unset, .unset] [(.int (0 : Int32))])) (fun tT_ kK_ => st220.trans kK_) ?_
        refine own_stW (A := T220.setTop (mkF mM 251 #[.val (.int u0), .val (.int u1), .val (.int u2), .val (.int u3), .val (.int u4), .val (.int u5), .val (.int x0), .val (.int x1), .val (.int y0), .val (.int y1), .val (.int (1 : Int32)), .val (.int (1 : Int32)), .val (.ref p199), .val (.ref p200), .val (.ref b201), .val (.int ((u5 >>> ((2 : Int32) &&& 31)) &&& (3 : Int32))), .unset, .unset] [])) (fun tT_ kK_ => XS.ifNo X220.here hx rfl (hb hby at_248) rfl ((if0 _ _).trans (teq (by decide : ((0 : Int32) = (0 : Int32)))).2) kK_) ?_
        refine own_stW (A := T220.setTop (mkF mM 252 #[.val (.int u0), .val (.int u1), .val (.int u2), .val (.int u3), .val (.int u4), .val (.int u5), .val (.int x0), .val (.int x1), .val (.int y0), .val (.int y1), .val (.int (1 : Int32)), .val (.int (1 : Int32)), .val (.ref p199), .val (.ref p200), .val (.ref b201), .val (.int ((u5 >>> ((2 : Int32) &&& 31)) &&& (3 : Int32))), .unset, .unset] [(.int (1 : Int32))])) (fun tT_ kK_ => XS.iconst X220.here hx rfl (hb hby at_251) kK_) ?_
        refine own_stW (A := T220.setTop (mkF mM 256 #[.val (.int u0), .val (.int u1), .val (.int u2), .val (.int u3), .val (.int u4), .val (.int u5), .val (.int x0), .val (.int x1), .val (.int y0), .val (.int y1), .val (.int (1 : Int32)), .val (.int (1 : Int32)), .val (.ref p199), .val (.ref p200), .val (.ref b201), .val (.int ((u5 >>> ((2 : Int32) &&& 31)) &&& (3 : Int32))), .unset, .unset] [(.int (1 : Int32))])) (fun tT_ kK_ => XS.goto X220.here hx rfl (pc0 := 252) (pc' := 256) rfl (hb hby at_252) (by decide) (by decide) kK_) ?_
        exact own_retWN X220 hx hlk hS (by rw [e220]; exact hk) (t := .boolean) hret (by simp) (hb hby at_256) ⟨rfl, N220⟩ (by decide) (by decide)
      · skip
        refine own_stW (A := T202.setTop (mkF mM 257 #[.val (.int u0), .val (.int u1), .val (.int u2), .val (.int u3), .val (.int u4), .val (.int u5), .val (.int x0), .val (.int x1), .val (.int y0), .val (.int y1), .val (.int (1 : Int32)), .val (.int (1 : Int32)), .val (.ref p199), .val (.ref p200), .val (.ref b201), .val (.int ((u5 >>> ((2 : Int32) &&& 31)) &&& (3 : Int32))), .unset, .unset] [])) (fun tT_ kK_ => XS.icmpYes X202.here hx rfl (pc0 := 238) (pc' := 257) rfl (hb hby at_238) rfl (feq hc238_219).2 (by decide) (by decide) kK_) ?_
        refine own_stW (A := T202.setTop (mkF mM 259 #[.val (.int u0), .val (.int u1), .val (.int u2), .val (.int u3), .val (.int u4), .val (.int u5), .val (.int x0), .val (.int x1), .val (.int y0), .val (.int y1), .val (.int (1 : Int32)), .val (.int (1 : Int32)), .val (.ref p199), .val (.ref p200), .val (.ref b201), .val (.int ((u5 >>> ((2 : Int32) &&& 31)) &&& (3 : Int32))), .unset, .unset] [(.ref b201)])) (fun tT_ kK_ => XS.aload X202.here hx rfl (hb hby at_257) rfl rfl kK_) ?_
        obtain ⟨T221, X221, e221, st221⟩ := getS2 X202 hx hZ hown (host := "") (Or.inl (hw _ (List.mem_of_getElem? (i := 72) rfl))) Via.refl e202 (S_au.ext O.2) (g := (mkF mM 259 #[.val (.int u0), .val (.int u1), .val (.int u2), .val (.int u3), .val (.int u4), .val (.int u5), .val (.int x0), .val (.int x1), .val (.int y0), .val (.int y1), .val (.int (1 : Int32)), .val (.int (1 : Int32)), .val (.ref p199), .val (.ref p200), .val (.ref b201), .val (.int ((u5 >>> ((2 : Int32) &&& 31)) &&& (3 : Int32))), .unset, .unset] [(.ref b201)])) rfl (hb hby at_259)
        refine own_stW (A := T221.setTop (mkF mM 262 #[.val (.int u0), .val (.int u1), .val (.int u2), .val (.int u3), .val (.int u4), .val (.int u5), .val (.int x0), .val (.int x1), .val (.int y0), .val (.int y1), .val (.int (1 : Int32)), .val (.int (1 : Int32)), .val (.ref p199), .val (.ref p200), .val (.ref b201), .val (.int ((u5 >>> ((2 : Int32) &&& 31)) &&& (3 : Int32))), .unset, .unset] [(.ref au), (.ref b201)])) (fun tT_ kK_ => st221 tT_ kK_) ?_
        obtain ⟨cq222, kq222, q222a, q222b, q222c⟩ := isOf hZ e221 ra.1
        obtain ⟨_, _, ⟨T222, L222, k222, n222⟩, -, X222, ⟨Lc222, hQ222, l222, y222, z222⟩, st222⟩ := X221.virtualBack hx (y := (⟨"com/example/upfront_duty/upfrontduty/algebra/Role", "equals", "(Ljava/lang/Object;)Z"⟩ : MethodName)) (z := (⟨"com/example/upfront_duty/upfrontduty/algebra/Role", "equals", "(Ljava/lang/Object;)Z"⟩ : MethodName)) hown (mvT hZ (hw _ (List.mem_of_getElem? (i := 55) rfl))) (mvT hZ (hw _ (List.mem_of_getElem? (i := 56) rfl))) (notFace_of_selects (args := #[]) (mvT hZ (hw _ (List.mem_of_getElem? (i := 58) rfl)))) (mvT hZ (hw _ (List.mem_of_getElem? (i := 58) rfl))) (mvT hZ (hw _ (List.mem_of_getElem? (i := 57) rfl))) (by decide) (backOf (W := 0) (rmREo1 lL Z a0 hw [] b201 au T202.heap n0 (E_au.ext O.2)) hZ (hw _ (List.mem_of_getElem? (i := 59) rfl)) (hw _ (List.mem_of_getElem? (i := 36) rfl)) (by decide) (by decide)) q222a q222c (g := (mkF mM 262 #[.val (.int u0), .val (.int u1), .val (.int u2), .val (.int u3), .val (.int u4), .val (.int u5), .val (.int x0), .val (.int x1), .val (.int y0), .val (.int y1), .val (.int (1 : Int32)), .val (.int (1 : Int32)), .val (.ref p199), .val (.ref p200), .val (.ref b201), .val (.int ((u5 >>> ((2 : Int32) &&& 31)) &&& (3 : Int32))), .unset, .unset] [(.ref au), (.ref b201)])) rfl (by rw [hml]; rfl) (Steps.refl _) (argsL := [(.ref au)]) (rest := []) (lenOf pd__28Ljava_2flang_2fObject_3b_29Z rfl) rfl (by show 2 * 0 + _ ≤ _; exact Nat.le_of_eq rfl) (hb hby at_262) (fun _ _ => ⟨rfl, e221, (by decide : 9 + 0 ≤ _), (by decide : 37 + 0 ≤ _)⟩)
        dsimp only [Pt.U, Pt.locs, Pt.cells, Pt.slots] at X222 l222 y222 z222 st222 hQ222
        subst l222 y222 z222
        obtain ⟨rfl, N222q, e222⟩ := hQ222
        have N222 := Fr.app N202 N222q
        refine own_stW (A := T222.setTop (mkF mM 265 #[.val (.int u0), .val (.int u1), .val (.int u2), .val (.int u3), .val (.int u4), .val (.int u5), .val (.int x0), .val (.int x1), .val (.int y0), .val (.int y1), .val (.int (1 : Int32)), .val (.int (1 : Int32)), .val (.ref p199), .val (.ref p200), .val (.ref b201), .val (.int ((u5 >>> ((2 : Int32) &&& 31)) &&& (3 : Int32))), .unset, .unset] [(.int (0 : Int32))])) (fun tT_ kK_ => st222.trans kK_) ?_
        refine own_stW (A := T222.setTop (mkF mM 268 #[.val (.int u0), .val (.int u1), .val (.int u2), .val (.int u3), .val (.int u4), .val (.int u5), .val (.int x0), .val (.int x1), .val (.int y0), .val (.int y1), .val (.int (1 : Int32)), .val (.int (1 : Int32)), .val (.ref p199), .val (.ref p200), .val (.ref b201), .val (.int ((u5 >>> ((2 : Int32) &&& 31)) &&& (3 : Int32))), .unset, .unset] [])) (fun tT_ kK_ => XS.ifNo X222.here hx rfl (hb hby at_265) rfl ((if0 _ _).trans (teq (by decide : ((0 : Int32) = (0 : Int32)))).2) kK_) ?_
        refine own_stW (A := T222.setTop (mkF mM 269 #[.val (.int u0), .val (.int u1), .val (.int u2), .val (.int u3), .val (.int u4), .val (.int u5), .val (.int x0), .val (.int x1), .val (.int y0), .val (.int y1), .val (.int (1 : Int32)), .val (.int (1 : Int32)), .val (.ref p199), .val (.ref p200), .val (.ref b201), .val (.int ((u5 >>> ((2 : Int32) &&& 31)) &&& (3 : Int32))), .unset, .unset] [(.int (1 : Int32))])) (fun tT_ kK_ => XS.iconst X222.here hx rfl (hb hby at_268) kK_) ?_
        refine own_stW (A := T222.setTop (mkF mM 273 #[.val (.int u0), .val (.int u1), .val (.int u2), .val (.int u3), .val (.int u4), .val (.int u5), .val (.int x0), .val (.int x1), .val (.int y0), .val (.int y1), .val (.int (1 : Int32)), .val (.int (1 : Int32)), .val (.ref p199), .val (.ref p200), .val (.ref b201), .val (.int ((u5 >>> ((2 : Int32) &&& 31)) &&& (3 : Int32))), .unset, .unset] [(.int (1 : Int32))])) (fun tT_ kK_ => XS.goto X222.here hx rfl (pc0 := 269) (pc' := 273) rfl (hb hby at_269) (by decide) (by decide) kK_) ?_
        exact own_retWN X222 hx hlk hS (by rw [e222]; exact hk) (t := .boolean) hret (by simp) (hb hby at_273) ⟨rfl, N222⟩ (by decide) (by decide)
set_option maxRecDepth 65536 in
set_option maxHeartbeats 40000000 in
theorem J56 {pP : Program} {lL : Launch} {eE : Env} {sS : State} {mM : MethodId} {args : Array Value} {below : List Frame} {meth : Method} {cC : Code} {T0 : State} {locs : List Loc} {Z : State} {a0 : Array Value} {h0 : Heap} {n0 : Nat} {vmV : Vm} (hw : ∀ d ∈ tables_1, d.before a0 Z = true) (X0 : Stand pP lL eE room_1 (sS.setVm vmV) mM args below meth cC T0 locs 0 0) (hx : pP.tables.exec = Jvm.exec) (hZ : Z.Warmed39 (sS.setVm vmV).vm) (hby : cC.code = code) (hml : cC.maxLocals = 18) (hown : (sS.setVm vmV).vm.findClass "com/example/upfront_duty/upfrontduty/algebra/RoleEqualsPinLaw" = some mM.cls) (hlk : meth.locks = false) (hret : meth.sig.returnType = ret) {kV : Nat} (hS : sS.Since vmV kV) (hk : kV ≤ h0.size) (e0 : T0.heap = h0) (N0 : Fr n0 locs) (u0 : Int32) (u1 : Int32) (u2 : Int32) (u3 : Int32) (u4 : Int32) (u5 : Int32) (x0 : Int32) (x1 : Int32) (y0 : Int32) (y1 : Int32) (cs : Int32) (au : Addr) (O : Old Z n0 h0) (Zn : n0 ≤ h0.size) (S_cs : Sta Z Z.heap "java/lang/String" "COMPACT_STRINGS" "Z" (.int cs)) (hcs : ¬ cs = (0 : Int32)) (S_au : Sta Z Z.heap "com/example/upfront_duty/upfrontduty/algebra/AllUsers" "INSTANCE" "Lcom/example/upfront_duty/upfrontduty/algebra/AllUsers;" (.ref au)) (E_au : Exa Z Z.heap au "com/example/upfront_duty/upfrontduty/algebra/AllUsers") (cx0 : Ck x0) (cx1 : Ck x1) (cy0 : Ck y0) (cy1 : Ck y1) :
    own_GoW pP eE below sS (QLaw n0) 32 1152 (T0.setTop (mkF mM 56 #[.val (.int u0), .val (.int u1), .val (.int u2), .val (.int u3), .val (.int u4), .val (.int u5), .val (.int x0), .val (.int x1), .val (.int y0), .val (.int y1), .unset, .unset, .unset, .unset, .unset, .unset, .unset, .unset] [])) := by
  refine own_stW (A := T0.setTop (mkF mM 58 #[.val (.int u0), .val (.int u1), .val (.int u2), .val (.int u3), .val (.int u4), .val (.int u5), .val (.int x0), .val (.int x1), .val (.int y0), .val (.int y1), .unset, .unset, .unset, .unset, .unset, .unset, .unset, .unset] [(.int u5)])) (fun tT_ kK_ => XS.iload X0.here hx rfl (hb hby at_56) rfl kK_) ?_
  refine own_stW (A := T0.setTop (mkF mM 59 #[.val (.int u0), .val (.int u1), .val (.int u2), .val (.int u3), .val (.int u4), .val (.int u5), .val (.int x0), .val (.int x1), .val (.int y0), .val (.int y1), .unset, .unset, .unset, .unset, .unset, .unset, .unset, .unset] [(.int (1 : Int32)), (.int u5)])) (fun tT_ kK_ => XS.iconst X0.here hx rfl (hb hby at_58) kK_) ?_
  refine own_stW (A := T0.setTop (mkF mM 60 #[.val (.int u0), .val (.int u1), .val (.int u2), .val (.int u3), .val (.int u4), .val (.int u5), .val (.int x0), .val (.int x1), .val (.int y0), .val (.int y1), .unset, .unset, .unset, .unset, .unset, .unset, .unset, .unset] [(.int (u5 &&& (1 : Int32)))])) (fun tT_ kK_ => XS.iand X0.here hx rfl (hb hby at_59) rfl kK_) ?_
  by_cases hc60_223 : (u5 &&& (1 : Int32)) = (0 : Int32)
  · skip
    refine own_stW (A := T0.setTop (mkF mM 67 #[.val (.int u0), .val (.int u1), .val (.int u2), .val (.int u3), .val (.int u4), .val (.int u5), .val (.int x0), .val (.int x1), .val (.int y0), .val (.int y1), .unset, .unset, .unset, .unset, .unset, .unset, .unset, .unset] [])) (fun tT_ kK_ => XS.ifYes X0.here hx rfl (pc0 := 60) (pc' := 67) rfl (hb hby at_60) rfl ((if0 _ _).trans (teq hc60_223).1) (by decide) (by decide) kK_) ?_
    refine own_stW (A := T0.setTop (mkF mM 68 #[.val (.int u0), .val (.int u1), .val (.int u2), .val (.int u3), .val (.int u4), .val (.int u5), .val (.int x0), .val (.int x1), .val (.int y0), .val (.int y1), .unset, .unset, .unset, .unset, .unset, .unset, .unset, .unset] [(.int (0 : Int32))])) (fun tT_ kK_ => XS.iconst X0.here hx rfl (hb hby at_67) kK_) ?_
    refine own_stW (A := T0.setTop (mkF mM 70 #[.val (.int u0), .val (.int u1), .val (.int u2), .val (.int u3), .val (.int u4), .val (.int u5), .val (.int x0), .val (.int x1), .val (.int y0), .val (.int y1), .val (.int (0 : Int32)), .unset, .unset, .unset, .unset, .unset, .unset, .unset] [])) (fun tT_ kK_ => XS.istore X0.here hx rfl (hb hby at_68) rfl (l' := #[.val (.int u0), .val (.int u1), .val (.int u2), .val (.int u3), .val (.int u4), .val (.int u5), .val (.int x0), .val (.int x1), .val (.int y0), .val (.int y1), .val (.int (0 : Int32)), .unset, .unset, .unset, .unset, .unset, .unset, .unset]) rfl kK_) ?_
    refine own_stW (A := T0.setTop (mkF mM 72 #[.val (.int u0), .val (.int u1), .val (.int u2), .val (.int u3), .val (.int u4), .val (.int u5), .val (.int x0), .val (.int x1), .val (.int y0), .val (.int y1), .val (.int (0 : Int32)), .unset, .unset, .unset, .unset, .unset, .unset, .unset] [(.int u5)])) (fun tT_ kK_ => XS.iload X0.here hx rfl (hb hby at_70) rfl kK_) ?_
    refine own_stW (A := T0.setTop (mkF mM 73 #[.val (.int u0), .val (.int u1), .val (.int u2), .val (.int u3), .val (.int u4), .val (.int u5), .val (.int x0), .val (.int x1), .val (.int y0), .val (.int y1), .val (.int (0 : Int32)), .unset, .unset, .unset, .unset, .unset, .unset, .unset] [(.int (2 : Int32)), (.int u5)])) (fun tT_ kK_ => XS.iconst X0.here hx rfl (hb hby at_72) kK_) ?_
    refine own_stW (A := T0.setTop (mkF mM 74 #[.val (.int u0), .val (.int u1), .val (.int u2), .val (.int u3), .val (.int u4), .val (.int u5), .val (.int x0), .val (.int x1), .val (.int y0), .val (.int y1), .val (.int (0 : Int32)), .unset, .unset, .unset, .unset, .unset, .unset, .unset] [(.int (u5 &&& (2 : Int32)))])) (fun tT_ kK_ => XS.iand X0.here hx rfl (hb hby at_73) rfl kK_) ?_
    by_cases hc74_224 : (u5 &&& (2 : Int32)) = (0 : Int32)
    · skip
      refine own_stW (A := T0.setTop (mkF mM 81 #[.val (.int u0), .val (.int u1), .val (.int u2), .val (.int u3), .val (.int u4), .val (.int u5), .val (.int x0), .val (.int x1), .val (.int y0), .val (.int y1), .val (.int (0 : Int32)), .unset, .unset, .unset, .unset, .unset, .unset, .unset] [])) (fun tT_ kK_ => XS.ifYes X0.here hx rfl (pc0 := 74) (pc' := 81) rfl (hb hby at_74) rfl ((if0 _ _).trans (teq hc74_224).1) (by decide) (by decide) kK_) ?_
      refine own_stW (A := T0.setTop (mkF mM 82 #[.val (.int u0), .val (.int u1), .val (.int u2), .val (.int u3), .val (.int u4), .val (.int u5), .val (.int x0), .val (.int x1), .val (.int y0), .val (.int y1), .val (.int (0 : Int32)), .unset, .unset, .unset, .unset, .unset, .unset, .unset] [(.int (0 : Int32))])) (fun tT_ kK_ => XS.iconst X0.here hx rfl (hb hby at_81) kK_) ?_
      refine own_stW (A := T0.setTop (mkF mM 84 #[.val (.int u0), .val (.int u1), .val (.int u2), .val (.int u3), .val (.int u4), .val (.int u5), .val (.int x0), .val (.int x1), .val (.int y0), .val (.int y1), .val (.int (0 : Int32)), .val (.int (0 : Int32)), .unset, .unset, .unset, .unset, .unset, .unset] [])) (fun tT_ kK_ => XS.istore X0.here hx rfl (hb hby at_82) rfl (l' := #[.val (.int u0), .val (.int u1), .val (.int u2), .val (.int u3), .val (.int u4), .val (.int u5), .val (.int x0), .val (.int x1), .val (.int y0), .val (.int y1), .val (.int (0 : Int32)), .val (.int (0 : Int32)), .unset, .unset, .unset, .unset, .unset, .unset]) rfl kK_) ?_
      exact J84_00 hw X0 hx hZ hby hml hown hlk hret hS hk e0 N0 u0 u1 u2 u3 u4 u5 x0 x1 y0 y1 cs au O Zn S_cs hcs S_au E_au cx0 cx1 cy0 cy1
    · skip
      refine own_stW (A := T0.setTop (mkF mM 77 #[.val (.int u0), .val (.int u1), .val (.int u2), .val (.int u3), .val (.int u4), .val (.int u5), .val (.int x0), .val (.int x1), .val (.int y0), .val (.int y1), .val (.int (0 : Int32)), .unset, .unset, .unset, .unset, .unset, .unset, .unset] [])) (fun tT_ kK_ => XS.ifNo X0.here hx rfl (hb hby at_74) rfl ((if0 _ _).trans (feq hc74_224).1) kK_) ?_
      refine own_stW (A := T0.setTop (mkF mM 78 #[.val (.int u0), .val (.int u1), .val (.int u2), .val (.int u3), .val (.int u4), .val (.int u5), .val (.int x0), .val (.int x1), .val (.int y0), .val (.int y1), .val (.int (0 : Int32)), .unset, .unset, .unset, .unset, .unset, .unset, .unset] [(.int (1 : Int32))])) (fun tT_ kK_ => XS.iconst X0.here hx rfl (hb hby at_77) kK_) ?_
      refine own_stW (A := T0.setTop (mkF mM 82 #[.val (.int u0), .val (.int u1), .val (.int u2), .val (.int u3), .val (.int u4), .val (.int u5), .val (.int x0), .val (.int x1), .val (.int y0), .val (.int y1), .val (.int (0 : Int32)), .unset, .unset, .unset, .unset, .unset, .unset, .unset] [(.int (1 : Int32))])) (fun tT_ kK_ => XS.goto X0.here hx rfl (pc0 := 78) (pc' := 82) rfl (hb hby at_78) (by decide) (by decide) kK_) ?_
      refine own_stW (A := T0.setTop (mkF mM 84 #[.val (.int u0), .val (.int u1), .val (.int u2), .val (.int u3), .val (.int u4), .val (.int u5), .val (.int x0), .val (.int x1), .val (.int y0), .val (.int y1), .val (.int (0 : Int32)), .val (.int (1 : Int32)), .unset, .unset, .unset, .unset, .unset, .unset] [])) (fun tT_ kK_ => XS.istore X0.here hx rfl (hb hby at_82) rfl (l' := #[.val (.int u0), .val (.int u1), .val (.int u2), .val (.int u3), .val (.int u4), .val (.int u5), .val (.int x0), .val (.int x1), .val (.int y0), .val (.int y1), .val (.int (0 : Int32)), .val (.int (1 : Int32)), .unset, .unset, .unset, .unset, .unset, .unset]) rfl kK_) ?_
      exact J84_01 hw X0 hx hZ hby hml hown hlk hret hS hk e0 N0 u0 u1 u2 u3 u4 u5 x0 x1 y0 y1 cs au O Zn S_cs hcs S_au E_au cx0 cx1 cy0 cy1
  · skip
    refine own_stW (A := T0.setTop (mkF mM 63 #[.val (.int u0), .val (.int u1), .val (.int u2), .val (.int u3), .val (.int u4), .val (.int u5), .val (.int x0), .val (.int x1), .val (.int y0), .val (.int y1), .unset, .unset, .unset, .unset, .unset, .unset, .unset, .unset] [])) (fun tT_ kK_ => XS.ifNo X0.here hx rfl (hb hby at_60) rfl ((if0 _ _).trans (feq hc60_223).1) kK_) ?_
    refine own_stW (A := T0.setTop (mkF mM 64 #[.val (.int u0), .val (.int u1), .val (.int u2), .val (.int u3), .val (.int u4), .val (.int u5), .val (.int x0), .val (.int x1), .val (.int y0), .val (.int y1), .unset, .unset, .unset, .unset, .unset, .unset, .unset, .unset] [(.int (1 : Int32))])) (fun tT_ kK_ => XS.iconst X0.here hx rfl (hb hby at_63) kK_) ?_
    refine own_stW (A := T0.setTop (mkF mM 68 #[.val (.int u0), .val (.int u1), .val (.int u2), .val (.int u3), .val (.int u4), .val (.int u5), .val (.int x0), .val (.int x1), .val (.int y0), .val (.int y1), .unset, .unset, .unset, .unset, .unset, .unset, .unset, .unset] [(.int (1 : Int32))])) (fun tT_ kK_ => XS.goto X0.here hx rfl (pc0 := 64) (pc' := 68) rfl (hb hby at_64) (by decide) (by decide) kK_) ?_
    refine own_stW (A := T0.setTop (mkF mM 70 #[.val (.int u0), .val (.int u1), .val (.int u2), .val (.int u3), .val (.int u4), .val (.int u5), .val (.int x0), .val (.int x1), .val (.int y0), .val (.int y1), .val (.int (1 : Int32)), .unset, .unset, .unset, .unset, .unset, .unset, .unset] [])) (fun tT_ kK_ => XS.istore X0.here hx rfl (hb hby at_68) rfl (l' := #[.val (.int u0), .val (.int u1), .val (.int u2), .val (.int u3), .val (.int u4), .val (.int u5), .val (.int x0), .val (.int x1), .val (.int y0), .val (.int y1), .val (.int (1 : Int32)), .unset, .unset, .unset, .unset, .unset, .unset, .unset]) rfl kK_) ?_
    refine own_stW (A := T0.setTop (mkF mM 72 #[.val (.int u0), .val (.int u1), .val (.int u2), .val (.int u3), .val (.int u4), .val (.int u5), .val (.int x0), .val (.int x1), .val (.int y0), .val (.int y1), .val (.int (1 : Int32)), .unset, .unset, .unset, .unset, .unset, .unset, .unset] [(.int u5)])) (fun tT_ kK_ => XS.iload X0.here hx rfl (hb hby at_70) rfl kK_) ?_
    refine own_stW (A := T0.setTop (mkF mM 73 #[.val (.int u0), .val (.int u1), .val (.int u2), .val (.int u3), .val (.int u4), .val (.int u5), .val (.int x0), .val (.int x1), .val (.int y0), .val (.int y1), .val (.int (1 : Int32)), .unset, .unset, .unset, .unset, .unset, .unset, .unset] [(.int (2 : Int32)), (.int u5)])) (fun tT_ kK_ => XS.iconst X0.here hx rfl (hb hby at_72) kK_) ?_
    refine own_stW (A := T0.setTop (mkF mM 74 #[.val (.int u0), .val (.int u1), .val (.int u2), .val (.int u3), .val (.int u4), .val (.int u5), .val (.int x0), .val (.int x1), .val (.int y0), .val (.int y1), .val (.int (1 : Int32)), .unset, .unset, .unset, .unset, .unset, .unset, .unset] [(.int (u5 &&& (2 : Int32)))])) (fun tT_ kK_ => XS.iand X0.here hx rfl (hb hby at_73) rfl kK_) ?_
    by_cases hc74_225 : (u5 &&& (2 : Int32)) = (0 : Int32)
    · skip
      refine own_stW (A := T0.setTop (mkF mM 81 #[.val (.int u0), .val (.int u1), .val (.int u2), .val (.int u3), .val (.int u4), .val (.int u5), .val (.int x0), .val (.int x1), .val (.int y0), .val (.int y1), .val (.int (1 : Int32)), .unset, .unset, .unset, .unset, .unset, .unset, .unset] [])) (fun tT_ kK_ => XS.ifYes X0.here hx rfl (pc0 := 74) (pc' := 81) rfl (hb hby at_74) rfl ((if0 _ _).trans (teq hc74_225).1) (by decide) (by decide) kK_) ?_
      refine own_stW (A := T0.setTop (mkF mM 82 #[.val (.int u0), .val (.int u1), .val (.int u2), .val (.int u3), .val (.int u4), .val (.int u5), .val (.int x0), .val (.int x1), .val (.int y0), .val (.int y1), .val (.int (1 : Int32)), .unset, .unset, .unset, .unset, .unset, .unset, .unset] [(.int (0 : Int32))])) (fun tT_ kK_ => XS.iconst X0.here hx rfl (hb hby at_81) kK_) ?_
      refine own_stW (A := T0.setTop (mkF mM 84 #[.val (.int u0), .val (.int u1), .val (.int u2), .val (.int u3), .val (.int u4), .val (.int u5), .val (.int x0), .val (.int x1), .val (.int y0), .val (.int y1), .val (.int (1 : Int32)), .val (.int (0 : Int32)), .unset, .unset, .unset, .unset, .unset, .unset] [])) (fun tT_ kK_ => XS.istore X0.here hx rfl (hb hby at_82) rfl (l' := #[.val (.int u0), .val (.int u1), .val (.int u2), .val (.int u3), .val (.int u4), .val (.int u5), .val (.int x0), .val (.int x1), .val (.int y0), .val (.int y1), .val (.int (1 : Int32)), .val (.int (0 : Int32)), .unset, .unset, .unset, .unset, .unset, .unset]) rfl kK_) ?_
      exact J84_10 hw X0 hx hZ hby hml hown hlk hret hS hk e0 N0 u0 u1 u2 u3 u4 u5 x0 x1 y0 y1 cs au O Zn S_cs hcs S_au E_au cx0 cx1 cy0 cy1
    · skip
      refine own_stW (A := T0.setTop (mkF mM 77 #[.val (.int u0), .val (.int u1), .val (.int u2), .val (.int u3), .val (.int u4), .val (.int u5), .val (.int x0), .val (.int x1), .val (.int y0), .val (.int y1), .val (.int (1 : Int32)), .unset, .unset, .unset, .unset, .unset, .unset, .unset] [])) (fun tT_ kK_ => XS.ifNo X0.here hx rfl (hb hby at_74) rfl ((if0 _ _).trans (feq hc74_225).1) kK_) ?_
      refine own_stW (A := T0.setTop (mkF mM 78 #[.val (.int u0), .val (.int u1), .val (.int u2), .val (.int u3), .val (.int u4), .val (.int u5), .val (.int x0), .val (.int x1), .val (.int y0), .val (.int y1), .val (.int (1 : Int32)), .unset, .unset, .unset, .unset, .unset, .unset, .unset] [(.int (1 : Int32))])) (fun tT_ kK_ => XS.iconst X0.here hx rfl (hb hby at_77) kK_) ?_
      refine own_stW (A := T0.setTop (mkF mM 82 #[.val (.int u0), .val (.int u1), .val (.int u2), .val (.int u3), .val (.int u4), .val (.int u5), .val (.int x0), .val (.int x1), .val (.int y0), .val (.int y1), .val (.int (1 : Int32)), .unset, .unset, .unset, .unset, .unset, .unset, .unset] [(.int (1 : Int32))])) (fun tT_ kK_ => XS.goto X0.here hx rfl (pc0 := 78) (pc' := 82) rfl (hb hby at_78) (by decide) (by decide) kK_) ?_
      refine own_stW (A := T0.setTop (mkF mM 84 #[.val (.int u0), .val (.int u1), .val (.int u2), .val (.int u3), .val (.int u4), .val (.int u5), .val (.int x0), .val (.int x1), .val (.int y0), .val (.int y1), .val (.int (1 : Int32)), .val (.int (1 : Int32)), .unset, .unset, .unset, .unset, .unset, .unset] [])) (fun tT_ kK_ => XS.istore X0.here hx rfl (hb hby at_82) rfl (l' := #[.val (.int u0), .val (.int u1), .val (.int u2), .val (.int u3), .val (.int u4), .val (.int u5), .val (.int x0), .val (.int x1), .val (.int y0), .val (.int y1), .val (.int (1 : Int32)), .val (.int (1 : Int32)), .unset, .unset, .unset, .unset, .unset, .unset]) rfl kK_) ?_
      exact J84_11 hw X0 hx hZ hby hml hown hlk hret hS hk e0 N0 u0 u1 u2 u3 u4 u5 x0 x1 y0 y1 cs au O Zn S_cs hcs S_au E_au cx0 cx1 cy0 cy1
set_option maxRecDepth 65536 in
set_option maxHeartbeats 40000000 in
theorem J16 {pP : Program} {lL : Launch} {eE : Env} {sS : State} {mM : MethodId} {args : Array Value} {below : List Frame} {meth : Method} {cC : Code} {T0 : State} {locs : List Loc} {Z : State} {a0 : Array Value} {h0 : Heap} {n0 : Nat} {vmV : Vm} (hw : ∀ d ∈ tables_1, d.before a0 Z = true) (X0 : Stand pP lL eE room_1 (sS.setVm vmV) mM args below meth cC T0 locs 0 0) (hx : pP.tables.exec = Jvm.exec) (hZ : Z.Warmed39 (sS.setVm vmV).vm) (hby : cC.code = code) (hml : cC.maxLocals = 18) (hown : (sS.setVm vmV).vm.findClass "com/example/upfront_duty/upfrontduty/algebra/RoleEqualsPinLaw" = some mM.cls) (hlk : meth.locks = false) (hret : meth.sig.returnType = ret) {kV : Nat} (hS : sS.Since vmV kV) (hk : kV ≤ h0.size) (e0 : T0.heap = h0) (N0 : Fr n0 locs) (u0 : Int32) (u1 : Int32) (u2 : Int32) (u3 : Int32) (u4 : Int32) (u5 : Int32) (x0 : Int32) (x1 : Int32) (cs : Int32) (au : Addr) (O : Old Z n0 h0) (Zn : n0 ≤ h0.size) (S_cs : Sta Z Z.heap "java/lang/String" "COMPACT_STRINGS" "Z" (.int cs)) (hcs : ¬ cs = (0 : Int32)) (S_au : Sta Z Z.heap "com/example/upfront_duty/upfrontduty/algebra/AllUsers" "INSTANCE" "Lcom/example/upfront_duty/upfrontduty/algebra/AllUsers;" (.ref au)) (E_au : Exa Z Z.heap au "com/example/upfront_duty/upfrontduty/algebra/AllUsers") (cx0 : Ck x0) (cx1 : Ck x1) :
    own_GoW pP eE below sS (QLaw n0) 32 1152 (T0.setTop (mkF mM 16 #[.val (.int u0), .val (.int u1), .val (.int u2), .val (.int u3), .val (.int u4), .val (.int u5), .val (.int x0), .val (.int x1), .unset, .unset, .unset, .unset, .unset, .unset, .unset, .unset, .unset, .unset] [])) := by
  refine own_stW (A := T0.setTop (mkF mM 18 #[.val (.int u0), .val (.int u1), .val (.int u2), .val (.int u3), .val (.int u4), .val (.int u5), .val (.int x0), .val (.int x1), .unset, .unset, .unset, .unset, .unset, .unset, .unset, .unset, .unset, .unset] [(.int u4)])) (fun tT_ kK_ => XS.iload X0.here hx rfl (hb hby at_16) rfl kK_) ?_
  refine own_stW (A := T0.setTop (mkF mM 19 #[.val (.int u0), .val (.int u1), .val (.int u2), .val (.int u3), .val (.int u4), .val (.int u5), .val (.int x0), .val (.int x1), .unset, .unset, .unset, .unset, .unset, .unset, .unset, .unset, .unset, .unset] [(.int (1 : Int32)), (.int u4)])) (fun tT_ kK_ => XS.iconst X0.here hx rfl (hb hby at_18) kK_) ?_
  refine own_stW (A := T0.setTop (mkF mM 20 #[.val (.int u0), .val (.int u1), .val (.int u2), .val (.int u3), .val (.int u4), .val (.int u5), .val (.int x0), .val (.int x1), .unset, .unset, .unset, .unset, .unset, .unset, .unset, .unset, .unset, .unset] [(.int (u4 &&& (1 : Int32)))])) (fun tT_ kK_ => XS.iand X0.here hx rfl (hb hby at_19) rfl kK_) ?_
  by_cases hc20_226 : (u4 &&& (1 : Int32)) = (0 : Int32)
  · skip
    refine own_stW (A := T0.setTop (mkF mM 28 #[.val (.int u0), .val (.int u1), .val (.int u2), .val (.int u3), .val (.int u4), .val (.int u5), .val (.int x0), .val (.int x1), .unset, .unset, .unset, .unset, .unset, .unset, .unset, .unset, .unset, .unset] [])) (fun tT_ kK_ => XS.ifYes X0.here hx rfl (pc0 := 20) (pc' := 28) rfl (hb hby at_20) rfl ((if0 _ _).trans (teq hc20_226).1) (by decide) (by decide) kK_) ?_
    refine own_stW (A := T0.setTop (mkF mM 29 #[.val (.int u0), .val (.int u1), .val (.int u2), .val (.int u3), .val (.int u4), .val (.int u5), .val (.int x0), .val (.int x1), .unset, .unset, .unset, .unset, .unset, .unset, .unset, .unset, .unset, .unset] [(.int u2)])) (fun tT_ kK_ => XS.iloadN X0.here hx rfl (hb hby at_28) rfl kK_) ?_
    refine own_stW (A := T0.setTop (mkF mM 32 #[.val (.int u0), .val (.int u1), .val (.int u2), .val (.int u3), .val (.int u4), .val (.int u5), .val (.int x0), .val (.int x1), .unset, .unset, .unset, .unset, .unset, .unset, .unset, .unset, .unset, .unset] [(.int (255 : Int32)), (.int u2)])) (fun tT_ kK_ => XS.sipush X0.here hx rfl (hb hby at_29) kK_) ?_
    refine own_stW (A := T0.setTop (mkF mM 33 #[.val (.int u0), .val (.int u1), .val (.int u2), .val (.int u3), .val (.int u4), .val (.int u5), .val (.int x0), .val (.int x1), .unset, .unset, .unset, .unset, .unset, .unset, .unset, .unset, .unset, .unset] [(.int (u2 &&& (255 : Int32)))])) (fun tT_ kK_ => XS.iand X0.here hx rfl (hb hby at_32) rfl kK_) ?_
    refine own_stW (A := T0.setTop (mkF mM 34 #[.val (.int u0), .val (.int u1), .val (.int u2), .val (.int u3), .val (.int u4), .val (.int u5), .val (.int x0), .val (.int x1), .unset, .unset, .unset, .unset, .unset, .unset, .unset, .unset, .unset, .unset] [(.int (((u2 &&& (255 : Int32))).toUInt32.toUInt16.toUInt32.toInt32))])) (fun tT_ kK_ => XS.i2c X0.here hx rfl (hb hby at_33) rfl kK_) ?_
    refine own_stW (A := T0.setTop (mkF mM 36 #[.val (.int u0), .val (.int u1), .val (.int u2), .val (.int u3), .val (.int u4), .val (.int u5), .val (.int x0), .val (.int x1), .val (.int (((u2 &&& (255 : Int32))).toUInt32.toUInt16.toUInt32.toInt32)), .unset, .unset, .unset, .unset, .unset, .unset, .unset, .unset, .unset] [])) (fun tT_ kK_ => XS.istore X0.here hx rfl (hb hby at_34) rfl (l' := #[.val (.int u0), .val (.int u1), .val (.int u2), .val (.int u3), .val (.int u4), .val (.int u5), .val (.int x0), .val (.int x1), .val (.int (((u2 &&& (255 : Int32))).toUInt32.toUInt16.toUInt32.toInt32)), .unset, .unset, .unset, .unset, .unset, .unset, .unset, .unset, .unset]) rfl kK_) ?_
    refine own_stW (A := T0.setTop (mkF mM 38 #[.val (.int u0), .val (.int u1), .val (.int u2), .val (.int u3), .val (.int u4), .val (.int u5), .val (.int x0), .val (.int x1), .val (.int (((u2 &&& (255 : Int32))).toUInt32.toUInt16.toUInt32.toInt32)), .unset, .unset, .unset, .unset, .unset, .unset, .unset, .unset, .unset] [(.int u4)])) (fun tT_ kK_ => XS.iload X0.here hx rfl (hb hby at_36) rfl kK_) ?_
    refine own_stW (A := T0.setTop (mkF mM 39 #[.val (.int u0), .val (.int u1), .val (.int u2), .val (.int u3), .val (.int u4), .val (.int u5), .val (.int x0), .val (.int x1), .val (.int (((u2 &&& (255 : Int32))).toUInt32.toUInt16.toUInt32.toInt32)), .unset, .unset, .unset, .unset, .unset, .unset, .unset, .unset, .unset] [(.int (2 : Int32)), (.int u4)])) (fun tT_ kK_ => XS.iconst X0.here hx rfl (hb hby at_38) kK_) ?_
    refine own_stW (A := T0.setTop (mkF mM 40 #[.val (.int u0), .val (.int u1), .val (.int u2), .val (.int u3), .val (.int u4), .val (.int u5), .val (.int x0), .val (.int x1), .val (.int (((u2 &&& (255 : Int32))).toUInt32.toUInt16.toUInt32.toInt32)), .unset, .unset, .unset, .unset, .unset, .unset, .unset, .unset, .unset] [(.int (u4 &&& (2 : Int32)))])) (fun tT_ kK_ => XS.iand X0.here hx rfl (hb hby at_39) rfl kK_) ?_
    by_cases hc40_227 : (u4 &&& (2 : Int32)) = (0 : Int32)
    · skip
      refine own_stW (A := T0.setTop (mkF mM 48 #[.val (.int u0), .val (.int u1), .val (.int u2), .val (.int u3), .val (.int u4), .val (.int u5), .val (.int x0), .val (.int x1), .val (.int (((u2 &&& (255 : Int32))).toUInt32.toUInt16.toUInt32.toInt32)), .unset, .unset, .unset, .unset, .unset, .unset, .unset, .unset, .unset] [])) (fun tT_ kK_ => XS.ifYes X0.here hx rfl (pc0 := 40) (pc' := 48) rfl (hb hby at_40) rfl ((if0 _ _).trans (teq hc40_227).1) (by decide) (by decide) kK_) ?_
      refine own_stW (A := T0.setTop (mkF mM 49 #[.val (.int u0), .val (.int u1), .val (.int u2), .val (.int u3), .val (.int u4), .val (.int u5), .val (.int x0), .val (.int x1), .val (.int (((u2 &&& (255 : Int32))).toUInt32.toUInt16.toUInt32.toInt32)), .unset, .unset, .unset, .unset, .unset, .unset, .unset, .unset, .unset] [(.int u3)])) (fun tT_ kK_ => XS.iloadN X0.here hx rfl (hb hby at_48) rfl kK_) ?_
      refine own_stW (A := T0.setTop (mkF mM 52 #[.val (.int u0), .val (.int u1), .val (.int u2), .val (.int u3), .val (.int u4), .val (.int u5), .val (.int x0), .val (.int x1), .val (.int (((u2 &&& (255 : Int32))).toUInt32.toUInt16.toUInt32.toInt32)), .unset, .unset, .unset, .unset, .unset, .unset, .unset, .unset, .unset] [(.int (255 : Int32)), (.int u3)])) (fun tT_ kK_ => XS.sipush X0.here hx rfl (hb hby at_49) kK_) ?_
      refine own_stW (A := T0.setTop (mkF mM 53 #[.val (.int u0), .val (.int u1), .val (.int u2), .val (.int u3), .val (.int u4), .val (.int u5), .val (.int x0), .val (.int x1), .val (.int (((u2 &&& (255 : Int32))).toUInt32.toUInt16.toUInt32.toInt32)), .unset, .unset, .unset, .unset, .unset, .unset, .unset, .unset, .unset] [(.int (u3 &&& (255 : Int32)))])) (fun tT_ kK_ => XS.iand X0.here hx rfl (hb hby at_52) rfl kK_) ?_
      refine own_stW (A := T0.setTop (mkF mM 54 #[.val (.int u0), .val (.int u1), .val (.int u2), .val (.int u3), .val (.int u4), .val (.int u5), .val (.int x0), .val (.int x1), .val (.int (((u2 &&& (255 : Int32))).toUInt32.toUInt16.toUInt32.toInt32)), .unset, .unset, .unset, .unset, .unset, .unset, .unset, .unset, .unset] [(.int (((u3 &&& (255 : Int32))).toUInt32.toUInt16.toUInt32.toInt32))])) (fun tT_ kK_ => XS.i2c X0.here hx rfl (hb hby at_53) rfl kK_) ?_
      refine own_stW (A := T0.setTop (mkF mM 56 #[.val (.int u0), .val (.int u1), .val (.int u2), .val (.int u3), .val (.int u4), .val (.int u5), .val (.int x0), .val (.int x1), .val (.int (((u2 &&& (255 : Int32))).toUInt32.toUInt16.toUInt32.toInt32)), .val (.int (((u3 &&& (255 : Int32))).toUInt32.toUInt16.toUInt32.toInt32)), .unset, .unset, .unset, .unset, .unset, .unset, .unset, .unset] [])) (fun tT_ kK_ => XS.istore X0.here hx rfl (hb hby at_54) rfl (l' := #[.val (.int u0), .val (.int u1), .val (.int u2), .val (.int u3), .val (.int u4), .val (.int u5), .val (.int x0), .val (.int x1), .val (.int (((u2 &&& (255 : Int32))).toUInt32.toUInt16.toUInt32.toInt32)), .val (.int (((u3 &&& (255 : Int32))).toUInt32.toUInt16.toUInt32.toInt32)), .unset, .unset, .unset, .unset, .unset, .unset, .unset, .unset]) rfl kK_) ?_
      exact J56 hw X0 hx hZ hby hml hown hlk hret hS hk e0 N0 u0 u1 u2 u3 u4 u5 x0 x1 _ _ cs au O Zn S_cs hcs S_au E_au cx0 cx1 (own_Ck u2) (own_Ck u3)
    · skip
      refine own_stW (A := T0.setTop (mkF mM 43 #[.val (.int u0), .val (.int u1), .val (.int u2), .val (.int u3), .val (.int u4), .val (.int u5), .val (.int x0), .val (.int x1), .val (.int (((u2 &&& (255 : Int32))).toUInt32.toUInt16.toUInt32.toInt32)), .unset, .unset, .unset, .unset, .unset, .unset, .unset, .unset, .unset] [])) (fun tT_ kK_ => XS.ifNo X0.here hx rfl (hb hby at_40) rfl ((if0 _ _).trans (feq hc40_227).1) kK_) ?_
      refine own_stW (A := T0.setTop (mkF mM 45 #[.val (.int u0), .val (.int u1), .val (.int u2), .val (.int u3), .val (.int u4), .val (.int u5), .val (.int x0), .val (.int x1), .val (.int (((u2 &&& (255 : Int32))).toUInt32.toUInt16.toUInt32.toInt32)), .unset, .unset, .unset, .unset, .unset, .unset, .unset, .unset, .unset] [(.int x1)])) (fun tT_ kK_ => XS.iload X0.here hx rfl (hb hby at_43) rfl kK_) ?_
      refine own_stW (A := T0.setTop (mkF mM 54 #[.val (.int u0), .val (.int u1), .val (.int u2), .val (.int u3), .val (.int u4), .val (.int u5), .val (.int x0), .val (.int x1), .val (.int (((u2 &&& (255 : Int32))).toUInt32.toUInt16.toUInt32.toInt32)), .unset, .unset, .unset, .unset, .unset, .unset, .unset, .unset, .unset] [(.int x1)])) (fun tT_ kK_ => XS.goto X0.here hx rfl (pc0 := 45) (pc' := 54) rfl (hb hby at_45) (by decide) (by decide) kK_) ?_
      refine own_stW (A := T0.setTop (mkF mM 56 #[.val (.int u0), .val (.int u1), .val (.int u2), .val (.int u3), .val (.int u4), .val (.int u5), .val (.int x0), .val (.int x1), .val (.int (((u2 &&& (255 : Int32))).toUInt32.toUInt16.toUInt32.toInt32)), .val (.int x1), .unset, .unset, .unset, .unset, .unset, .unset, .unset, .unset] [])) (fun tT_ kK_ => XS.istore X0.here hx rfl (hb hby at_54) rfl (l' := #[.val (.int u0), .val (.int u1), .val (.int u2), .val (.int u3), .val (.int u4), .val (.int u5), .val (.int x0), .val (.int x1), .val (.int (((u2 &&& (255 : Int32))).toUInt32.toUInt16.toUInt32.toInt32)), .val (.int x1), .unset, .unset, .unset, .unset, .unset, .unset, .unset, .unset]) rfl kK_) ?_
      exact J56 hw X0 hx hZ hby hml hown hlk hret hS hk e0 N0 u0 u1 u2 u3 u4 u5 x0 x1 _ _ cs au O Zn S_cs hcs S_au E_au cx0 cx1 (own_Ck u2) cx1
  · skip
    refine own_stW (A := T0.setTop (mkF mM 23 #[.val (.int u0), .val (.int u1), .val (.int u2), .val (.int u3), .val (.int u4), .val (.int u5), .val (.int x0), .val (.int x1), .unset, .unset, .unset, .unset, .unset, .unset, .unset, .unset, .unset, .unset] [])) (fun tT_ kK_ => XS.ifNo X0.here hx rfl (hb hby at_20) rfl ((if0 _ _).trans (feq hc20_226).1) kK_) ?_
    refine own_stW (A := T0.setTop (mkF mM 25 #[.val (.int u0), .val (.int u1), .val (.int u2), .val (.int u3), .val (.int u4), .val (.int u5), .val (.int x0), .val (.int x1), .unset, .unset, .unset, .unset, .unset, .unset, .unset, .unset, .unset, .unset] [(.int x0)])) (fun tT_ kK_ => XS.iload X0.here hx rfl (hb hby at_23) rfl kK_) ?_
    refine own_stW (A := T0.setTop (mkF mM 34 #[.val (.int u0), .val (.int u1), .val (.int u2), .val (.int u3), .val (.int u4), .val (.int u5), .val (.int x0), .val (.int x1), .unset, .unset, .unset, .unset, .unset, .unset, .unset, .unset, .unset, .unset] [(.int x0)])) (fun tT_ kK_ => XS.goto X0.here hx rfl (pc0 := 25) (pc' := 34) rfl (hb hby at_25) (by decide) (by decide) kK_) ?_
    refine own_stW (A := T0.setTop (mkF mM 36 #[.val (.int u0), .val (.int u1), .val (.int u2), .val (.int u3), .val (.int u4), .val (.int u5), .val (.int x0), .val (.int x1), .val (.int x0), .unset, .unset, .unset, .unset, .unset, .unset, .unset, .unset, .unset] [])) (fun tT_ kK_ => XS.istore X0.here hx rfl (hb hby at_34) rfl (l' := #[.val (.int u0), .val (.int u1), .val (.int u2), .val (.int u3), .val (.int u4), .val (.int u5), .val (.int x0), .val (.int x1), .val (.int x0), .unset, .unset, .unset, .unset, .unset, .unset, .unset, .unset, .unset]) rfl kK_) ?_
    refine own_stW (A := T0.setTop (mkF mM 38 #[.val (.int u0), .val (.int u1), .val (.int u2), .val (.int u3), .val (.int u4), .val (.int u5), .val (.int x0), .val (.int x1), .val (.int x0), .unset, .unset, .unset, .unset, .unset, .unset, .unset, .unset, .unset] [(.int u4)])) (fun tT_ kK_ => XS.iload X0.here hx rfl (hb hby at_36) rfl kK_) ?_
    refine own_stW (A := T0.setTop (mkF mM 39 #[.val (.int u0), .val (.int u1), .val (.int u2), .val (.int u3), .val (.int u4), .val (.int u5), .val (.int x0), .val (.int x1), .val (.int x0), .unset, .unset, .unset, .unset, .unset, .unset, .unset, .unset, .unset] [(.int (2 : Int32)), (.int u4)])) (fun tT_ kK_ => XS.iconst X0.here hx rfl (hb hby at_38) kK_) ?_
    refine own_stW (A := T0.setTop (mkF mM 40 #[.val (.int u0), .val (.int u1), .val (.int u2), .val (.int u3), .val (.int u4), .val (.int u5), .val (.int x0), .val (.int x1), .val (.int x0), .unset, .unset, .unset, .unset, .unset, .unset, .unset, .unset, .unset] [(.int (u4 &&& (2 : Int32)))])) (fun tT_ kK_ => XS.iand X0.here hx rfl (hb hby at_39) rfl kK_) ?_
    by_cases hc40_228 : (u4 &&& (2 : Int32)) = (0 : Int32)
    · skip
      refine own_stW (A := T0.setTop (mkF mM 48 #[.val (.int u0), .val (.int u1), .val (.int u2), .val (.int u3), .val (.int u4), .val (.int u5), .val (.int x0), .val (.int x1), .val (.int x0), .unset, .unset, .unset, .unset, .unset, .unset, .unset, .unset, .unset] [])) (fun tT_ kK_ => XS.ifYes X0.here hx rfl (pc0 := 40) (pc' := 48) rfl (hb hby at_40) rfl ((if0 _ _).trans (teq hc40_228).1) (by decide) (by decide) kK_) ?_
      refine own_stW (A := T0.setTop (mkF mM 49 #[.val (.int u0), .val (.int u1), .val (.int u2), .val (.int u3), .val (.int u4), .val (.int u5), .val (.int x0), .val (.int x1), .val (.int x0), .unset, .unset, .unset, .unset, .unset, .unset, .unset, .unset, .unset] [(.int u3)])) (fun tT_ kK_ => XS.iloadN X0.here hx rfl (hb hby at_48) rfl kK_) ?_
      refine own_stW (A := T0.setTop (mkF mM 52 #[.val (.int u0), .val (.int u1), .val (.int u2), .val (.int u3), .val (.int u4), .val (.int u5), .val (.int x0), .val (.int x1), .val (.int x0), .unset, .unset, .unset, .unset, .unset, .unset, .unset, .unset, .unset] [(.int (255 : Int32)), (.int u3)])) (fun tT_ kK_ => XS.sipush X0.here hx rfl (hb hby at_49) kK_) ?_
      refine own_stW (A := T0.setTop (mkF mM 53 #[.val (.int u0), .val (.int u1), .val (.int u2), .val (.int u3), .val (.int u4), .val (.int u5), .val (.int x0), .val (.int x1), .val (.int x0), .unset, .unset, .unset, .unset, .unset, .unset, .unset, .unset, .unset] [(.int (u3 &&& (255 : Int32)))])) (fun tT_ kK_ => XS.iand X0.here hx rfl (hb hby at_52) rfl kK_) ?_
      refine own_stW (A := T0.setTop (mkF mM 54 #[.val (.int u0), .val (.int u1), .val (.int u2), .val (.int u3), .val (.int u4), .val (.int u5), .val (.int x0), .val (.int x1), .val (.int x0), .unset, .unset, .unset, .unset, .unset, .unset, .unset, .unset, .unset] [(.int (((u3 &&& (255 : Int32))).toUInt32.toUInt16.toUInt32.toInt32))])) (fun tT_ kK_ => XS.i2c X0.here hx rfl (hb hby at_53) rfl kK_) ?_
      refine own_stW (A := T0.setTop (mkF mM 56 #[.val (.int u0), .val (.int u1), .val (.int u2), .val (.int u3), .val (.int u4), .val (.int u5), .val (.int x0), .val (.int x1), .val (.int x0), .val (.int (((u3 &&& (255 : Int32))).toUInt32.toUInt16.toUInt32.toInt32)), .unset, .unset, .unset, .unset, .unset, .unset, .unset, .unset] [])) (fun tT_ kK_ => XS.istore X0.here hx rfl (hb hby at_54) rfl (l' := #[.val (.int u0), .val (.int u1), .val (.int u2), .val (.int u3), .val (.int u4), .val (.int u5), .val (.int x0), .val (.int x1), .val (.int x0), .val (.int (((u3 &&& (255 : Int32))).toUInt32.toUInt16.toUInt32.toInt32)), .unset, .unset, .unset, .unset, .unset, .unset, .unset, .unset]) rfl kK_) ?_
      exact J56 hw X0 hx hZ hby hml hown hlk hret hS hk e0 N0 u0 u1 u2 u3 u4 u5 x0 x1 _ _ cs au O Zn S_cs hcs S_au E_au cx0 cx1 cx0 (own_Ck u3)
    · skip
      refine own_stW (A := T0.setTop (mkF mM 43 #[.val (.int u0), .val (.int u1), .val (.int u2), .val (.int u3), .val (.int u4), .val (.int u5), .val (.int x0), .val (.int x1), .val (.int x0), .unset, .unset, .unset, .unset, .unset, .unset, .unset, .unset, .unset] [])) (fun tT_ kK_ => XS.ifNo X0.here hx rfl (hb hby at_40) rfl ((if0 _ _).trans (feq hc40_228).1) kK_) ?_
      refine own_stW (A := T0.setTop (mkF mM 45 #[.val (.int u0), .val (.int u1), .val (.int u2), .val (.int u3), .val (.int u4), .val (.int u5), .val (.int x0), .val (.int x1), .val (.int x0), .unset, .unset, .unset, .unset, .unset, .unset, .unset, .unset, .unset] [(.int x1)])) (fun tT_ kK_ => XS.iload X0.here hx rfl (hb hby at_43) rfl kK_) ?_
      refine own_stW (A := T0.setTop (mkF mM 54 #[.val (.int u0), .val (.int u1), .val (.int u2), .val (.int u3), .val (.int u4), .val (.int u5), .val (.int x0), .val (.int x1), .val (.int x0), .unset, .unset, .unset, .unset, .unset, .unset, .unset, .unset, .unset] [(.int x1)])) (fun tT_ kK_ => XS.goto X0.here hx rfl (pc0 := 45) (pc' := 54) rfl (hb hby at_45) (by decide) (by decide) kK_) ?_
      refine own_stW (A := T0.setTop (mkF mM 56 #[.val (.int u0), .val (.int u1), .val (.int u2), .val (.int u3), .val (.int u4), .val (.int u5), .val (.int x0), .val (.int x1), .val (.int x0), .val (.int x1), .unset, .unset, .unset, .unset, .unset, .unset, .unset, .unset] [])) (fun tT_ kK_ => XS.istore X0.here hx rfl (hb hby at_54) rfl (l' := #[.val (.int u0), .val (.int u1), .val (.int u2), .val (.int u3), .val (.int u4), .val (.int u5), .val (.int x0), .val (.int x1), .val (.int x0), .val (.int x1), .unset, .unset, .unset, .unset, .unset, .unset, .unset, .unset]) rfl kK_) ?_
      exact J56 hw X0 hx hZ hby hml hown hlk hret hS hk e0 N0 u0 u1 u2 u3 u4 u5 x0 x1 _ _ cs au O Zn S_cs hcs S_au E_au cx0 cx1 cx0 cx1
theorem ef_rm0 (mM : MethodId) (u0 : Int32) (u1 : Int32) (u2 : Int32) (u3 : Int32) (u4 : Int32) (u5 : Int32) (cs : Int32) (au : Addr) : entryFrame mM #[(.int u0), (.int u1), (.int u2), (.int u3), (.int u4), (.int u5)] maxLocals = mkF mM 0 #[.val (.int u0), .val (.int u1), .val (.int u2), .val (.int u3), .val (.int u4), .val (.int u5), .unset, .unset, .unset, .unset, .unset, .unset, .unset, .unset, .unset, .unset, .unset, .unset] [] := by first | (simp [entryFrame, mkF, argsToLocals, Value.category, maxLocals]; done) | rfl
set_option maxRecDepth 65536 in
set_option maxHeartbeats 40000000 in
theorem rm0 (lL : Launch) (Z : State) (a0 : Array Value) (hw : ∀ d ∈ tables_1, d.before a0 Z = true) (ws : List Jvm.Cond) (u0 : Int32) (u1 : Int32) (u2 : Int32) (u3 : Int32) (u4 : Int32) (u5 : Int32) (cs : Int32) (au : Addr) (h0 : Heap) (n0 : Nat) (O : Old Z n0 h0) (Zn : n0 ≤ h0.size) (S_cs : Sta Z Z.heap "java/lang/String" "COMPACT_STRINGS" "Z" (.int cs)) (hcs : ¬ cs = (0 : Int32)) (S_au : Sta Z Z.heap "com/example/upfront_duty/upfrontduty/algebra/AllUsers" "INSTANCE" "Lcom/example/upfront_duty/upfrontduty/algebra/AllUsers;" (.ref au)) (E_au : Exa Z Z.heap au "com/example/upfront_duty/upfrontduty/algebra/AllUsers") :
    MetFree lL x (head1 (Jvm.Cond.code x code maxLocals ret :: ws) room_1) (fun as_ uU_ => as_ = #[(.int u0), (.int u1), (.int u2), (.int u3), (.int u4), (.int u5)] ∧ Z.Warmed39 uU_.vm ∧ uU_.heap = h0) (fun _ _ _ _ _ => True) (fun _ uU_ oO_ uE_ => ∃ vV_ lL_, oO_ = .returned vV_ ∧ (fun _ => QLaw) h0 n0 vV_ uE_.heap lL_ ∧ ReturnedEndW uU_ oO_ uE_ lL_ 32 1152) := by
  refine MetFree.of_bodySF (plainFor_of_name pn_com_2fexample_2fupfront_duty_2fupfrontduty_2falgebra_2fRoleEqualsPinLaw) hisR ?_
  intro pP eE sS mM args below meth cC s₁ Bd hml0 hP hK
  obtain ⟨rfl, hZ, hh⟩ := hP
  have hx := Bd.exec
  have hby := Bd.bytes
  have hml : cC.maxLocals = 18 := hml0
  have hown : sS.vm.findClass "com/example/upfront_duty/upfrontduty/algebra/RoleEqualsPinLaw" = some mM.cls := findClass_of_methodNamed Bd.named
  have hnm := (name_of_methodNamed Bd.named Bd.method).1
  have hret := Bd.returns
  have hlk := BodyLoose.notSynchronized Bd
  have X0 : Stand pP lL eE room_1 sS mM #[(.int u0), (.int u1), (.int u2), (.int u3), (.int u4), (.int u5)] below meth cC s₁ [] 0 0 := Stand.of_body Bd
  have e0 : s₁.heap = h0 := by rw [← hh, Bd.state]; rfl
  have N0 := Fr.nil n0
  have X0 : Stand pP lL eE room_1 (sS.setVm sS.vm) mM #[(.int u0), (.int u1), (.int u2), (.int u3), (.int u4), (.int u5)] below meth cC s₁ [] 0 0 := X0
  have hZ : Z.Warmed39 (sS.setVm sS.vm).vm := hZ
  have hown : (sS.setVm sS.vm).vm.findClass "com/example/upfront_duty/upfrontduty/algebra/RoleEqualsPinLaw" = some mM.cls := hown
  have hS : sS.Since sS.vm 0 := (State.WarmedH.refl sS).since 0
  have hk : 0 ≤ h0.size := Nat.zero_le _
  show own_GoW pP eE below sS ((fun _ => QLaw) h0 n0) 32 1152 (s₁.setTop (entryFrame mM #[(.int u0), (.int u1), (.int u2), (.int u3), (.int u4), (.int u5)] maxLocals))
  refine own_stW (A := s₁.setTop (mkF mM 0 #[.val (.int u0), .val (.int u1), .val (.int u2), .val (.int u3), .val (.int u4), .val (.int u5), .unset, .unset, .unset, .unset, .unset, .unset, .unset, .unset, .unset, .unset, .unset, .unset] [])) (fun tT_ kK_ => castTop (ef_rm0 mM u0 u1 u2 u3 u4 u5 cs au) kK_) ?_
  refine own_stW (A := s₁.setTop (mkF mM 1 #[.val (.int u0), .val (.int u1), .val (.int u2), .val (.int u3), .val (.int u4), .val (.int u5), .unset, .unset, .unset, .unset, .unset, .unset, .unset, .unset, .unset, .unset, .unset, .unset] [(.int u0)])) (fun tT_ kK_ => XS.iloadN X0.here hx rfl (hb hby at_0) rfl kK_) ?_
  refine own_stW (A := s₁.setTop (mkF mM 4 #[.val (.int u0), .val (.int u1), .val (.int u2), .val (.int u3), .val (.int u4), .val (.int u5), .unset, .unset, .unset, .unset, .unset, .unset, .unset, .unset, .unset, .unset, .unset, .unset] [(.int (255 : Int32)), (.int u0)])) (fun tT_ kK_ => XS.sipush X0.here hx rfl (hb hby at_1) kK_) ?_
  refine own_stW (A := s₁.setTop (mkF mM 5 #[.val (.int u0), .val (.int u1), .val (.int u2), .val (.int u3), .val (.int u4), .val (.int u5), .unset, .unset, .unset, .unset, .unset, .unset, .unset, .unset, .unset, .unset, .unset, .unset] [(.int (u0 &&& (255 : Int32)))])) (fun tT_ kK_ => XS.iand X0.here hx rfl (hb hby at_4) rfl kK_) ?_
  refine own_stW (A := s₁.setTop (mkF mM 6 #[.val (.int u0), .val (.int u1), .val (.int u2), .val (.int u3), .val (.int u4), .val (.int u5), .unset, .unset, .unset, .unset, .unset, .unset, .unset, .unset, .unset, .unset, .unset, .unset] [(.int (((u0 &&& (255 : Int32))).toUInt32.toUInt16.toUInt32.toInt32))])) (fun tT_ kK_ => XS.i2c X0.here hx rfl (hb hby at_5) rfl kK_) ?_
  refine own_stW (A := s₁.setTop (mkF mM 8 #[.val (.int u0), .val (.int u1), .val (.int u2), .val (.int u3), .val (.int u4), .val (.int u5), .val (.int (((u0 &&& (255 : Int32))).toUInt32.toUInt16.toUInt32.toInt32)), .unset, .unset, .unset, .unset, .unset, .unset, .unset, .unset, .unset, .unset, .unset] [])) (fun tT_ kK_ => XS.istore X0.here hx rfl (hb hby at_6) rfl (l' := #[.val (.int u0), .val (.int u1), .val (.int u2), .val (.int u3), .val (.int u4), .val (.int u5), .val (.int (((u0 &&& (255 : Int32))).toUInt32.toUInt16.toUInt32.toInt32)), .unset, .unset, .unset, .unset, .unset, .unset, .unset, .unset, .unset, .unset, .unset]) rfl kK_) ?_
  refine own_stW (A := s₁.setTop (mkF mM 9 #[.val (.int u0), .val (.int u1), .val (.int u2), .val (.int u3), .val (.int u4), .val (.int u5), .val (.int (((u0 &&& (255 : Int32))).toUInt32.toUInt16.toUInt32.toInt32)), .unset, .unset, .unset, .unset, .unset, .unset, .unset, .unset, .unset, .unset, .unset] [(.int u1)])) (fun tT_ kK_ => XS.iloadN X0.here hx rfl (hb hby at_8) rfl kK_) ?_
  refine own_stW (A := s₁.setTop (mkF mM 12 #[.val (.int u0), .val (.int u1), .val (.int u2), .val (.int u3), .val (.int u4), .val (.int u5), .val (.int (((u0 &&& (255 : Int32))).toUInt32.toUInt16.toUInt32.toInt32)), .unset, .unset, .unset, .unset, .unset, .unset, .unset, .unset, .unset, .unset, .unset] [(.int (255 : Int32)), (.int u1)])) (fun tT_ kK_ => XS.sipush X0.here hx rfl (hb hby at_9) kK_) ?_
  refine own_stW (A := s₁.setTop (mkF mM 13 #[.val (.int u0), .val (.int u1), .val (.int u2), .val (.int u3), .val (.int u4), .val (.int u5), .val (.int (((u0 &&& (255 : Int32))).toUInt32.toUInt16.toUInt32.toInt32)), .unset, .unset, .unset, .unset, .unset, .unset, .unset, .unset, .unset, .unset, .unset] [(.int (u1 &&& (255 : Int32)))])) (fun tT_ kK_ => XS.iand X0.here hx rfl (hb hby at_12) rfl kK_) ?_
  refine own_stW (A := s₁.setTop (mkF mM 14 #[.val (.int u0), .val (.int u1), .val (.int u2), .val (.int u3), .val (.int u4), .val (.int u5), .val (.int (((u0 &&& (255 : Int32))).toUInt32.toUInt16.toUInt32.toInt32)), .unset, .unset, .unset, .unset, .unset, .unset, .unset, .unset, .unset, .unset, .unset] [(.int (((u1 &&& (255 : Int32))).toUInt32.toUInt16.toUInt32.toInt32))])) (fun tT_ kK_ => XS.i2c X0.here hx rfl (hb hby at_13) rfl kK_) ?_
  refine own_stW (A := s₁.setTop (mkF mM 16 #[.val (.int u0), .val (.int u1), .val (.int u2), .val (.int u3), .val (.int u4), .val (.int u5), .val (.int (((u0 &&& (255 : Int32))).toUInt32.toUInt16.toUInt32.toInt32)), .val (.int (((u1 &&& (255 : Int32))).toUInt32.toUInt16.toUInt32.toInt32)), .unset, .unset, .unset, .unset, .unset, .unset, .unset, .unset, .unset, .unset] [])) (fun tT_ kK_ => XS.istore X0.here hx rfl (hb hby at_14) rfl (l' := #[.val (.int u0), .val (.int u1), .val (.int u2), .val (.int u3), .val (.int u4), .val (.int u5), .val (.int (((u0 &&& (255 : Int32))).toUInt32.toUInt16.toUInt32.toInt32)), .val (.int (((u1 &&& (255 : Int32))).toUInt32.toUInt16.toUInt32.toInt32)), .unset, .unset, .unset, .unset, .unset, .unset, .unset, .unset, .unset, .unset]) rfl kK_) ?_
  exact J16 hw X0 hx hZ hby hml hown hlk hret hS hk e0 N0 u0 u1 u2 u3 u4 u5 _ _ cs au O Zn S_cs hcs S_au E_au (own_Ck u0) (own_Ck u1)
set_option maxRecDepth 65536 in
set_option maxHeartbeats 40000000 in
theorem comes_1 {Post : Tables → Env → Array Value → State → Outcome → State → Prop} (hpost : ∀ tb e args s v u, (limb_1_1.after args s (.returned v) u = true ∧ limb_1_2.after args s (.returned v) u = true ∧ True) → ReturnedEndW s (.returned v) u (Jvm.fieldLocs frame_1_writes args s ++ Jvm.arrayLocs frame_1_arrays args s ++ Jvm.staticLocs frame_1_statics s) 32 1152 → Post tb e args s (.returned v) u) :
    ArmFor flags0 classFile x code maxLocals ret World_1 tables_1 room_1 Calls_1 rest_1 Pre_1 Post := by
  intro l hfl _ _ p e ha hc hk s m args below hf hA hF happ hP
  obtain ⟨hcalls, hrest, hpre⟩ := hP
  obtain ⟨-, -, -, hnamed, -, -, -, hat⟩ := (Spec.applies_iff hf).mp happ
  obtain ⟨hg, hn⟩ := and_e (Cond.before_iff.mp (show (Jvm.Cond.and given_1 narrow_1).before args s = true from hpre))
  obtain ⟨h1, hg1⟩ := and_e hg
  obtain ⟨w0, w1, w2, w3, w4, w5, rfl⟩ : ∃ w0 w1 w2 w3 w4 w5 : Value, args = #[w0, w1, w2, w3, w4, w5] := by
    have hs : args.size = 6 := by simpa [Cond.value, given_1] using h1
    obtain ⟨L⟩ := args
    match L, hs with
    | [w0, w1, w2, w3, w4, w5], _ => exact ⟨w0, w1, w2, w3, w4, w5, rfl⟩
  have hw := fun d (hd : d ∈ tables_1) => atoms_spec (ws := Jvm.Cond.code x code maxLocals ret :: tables_1) hat d (List.mem_cons_of_mem _ hd)
  have hfit : Fit s := fun {y c} hc i hi => by
    obtain ⟨ha, rfl⟩ := Array.getElem?_eq_some_iff.mp hc
    have q := List.all_eq_true.mp ((Array.all_eq_true_iff_forall_mem.mp hF) _ (Array.getElem_mem ha)) i (List.mem_range.mpr hi)
    simpa [Array.getElem?_eq_getElem hi] using q
  obtain ⟨g0, hg2⟩ := and_e hg1
  obtain ⟨i0, e0⟩ := is_v g0
  obtain rfl : w0 = (.int i0) := Option.some.inj e0
  obtain ⟨g1, hg3⟩ := and_e hg2
  obtain ⟨i1, e1⟩ := is_v g1
  obtain rfl : w1 = (.int i1) := Option.some.inj e1
  obtain ⟨g2, hg4⟩ := and_e hg3
  obtain ⟨i2, e2⟩ := is_v g2
  obtain rfl : w2 = (.int i2) := Option.some.inj e2
  obtain ⟨g3, hg5⟩ := and_e hg4
  obtain ⟨i3, e3⟩ := is_v g3
  obtain rfl : w3 = (.int i3) := Option.some.inj e3
  obtain ⟨g4, hg6⟩ := and_e hg5
  obtain ⟨i4, e4⟩ := is_v g4
  obtain rfl : w4 = (.int i4) := Option.some.inj e4
  have g5 := hg6
  obtain ⟨i5, e5⟩ := is_v g5
  obtain rfl : w5 = (.int i5) := Option.some.inj e5
  have hn : narrow_1.value _ s none s [] = some true := hn
  have c0 := hn
  obtain ⟨a_INSTANCE, ev_INSTANCE⟩ := exa_v c0
  have st_INSTANCE := Sta.start ev_INSTANCE (Or.inr ⟨(hw _ (List.mem_of_getElem? (i := 73) rfl)), (hw _ (List.mem_of_getElem? (i := 74) rfl))⟩)
  have ex_INSTANCE := Exa.start ev_INSTANCE c0
  obtain ⟨hsets, -⟩ := atoms_of jdkStatics_1 (show (jdkStatics_1.foldr Jvm.Cond.and restOwn_1).before _ s = true from (by have q := hrest; rw [← rest_1_c_eq]; exact q))
  obtain ⟨cs, ev_cs⟩ := is_v (Cond.before_iff.mp (hsets _ (List.mem_of_getElem? (i := 1) rfl)))
  have S_cs := Sta.start ev_cs (Or.inl (hsets _ (List.mem_of_getElem? (i := 0) rfl)))
  have hcs : ¬ cs = (0 : Int32) := gotF (Cond.eq_ints ev_cs (Term.int_eval 0)) (not_v (Cond.before_iff.mp (hsets _ (List.mem_of_getElem? (i := 2) rfl))))
  obtain ⟨n, o, h1, h2, h3, _, L, rfl, ⟨rfl, N⟩, hq⟩ := rm0 l s _ hw tables_1 i0 i1 i2 i3 i4 i5 cs a_INSTANCE s.heap s.heap.size (Old.start s) (Nat.le_refl _) S_cs hcs st_INSTANCE ex_INSTANCE p e ha hc hk s m _ below hf ((Spec.applies_iff_loose hf).mp happ).1 ⟨rfl, State.Warmed39.refl s, rfl⟩ trivial
  refine ⟨n, _, h1, h2, h3, hpost _ _ _ _ _ _ ⟨Cond.after_iff.mpr rfl, Cond.after_iff.mpr (eq_i res_at (Term.int_eval (1)) rfl), trivial⟩ ⟨hq.1, hq.2.1, hq.2.2.1, (hq.2.2.2.sift fun y hy => Or.inr (N y hy)).mono (by decide) (by decide)⟩⟩
theorem main_1_1 : Claimed_1_1 := comes_1 fun _ _ _ _ _ _ h hF => ⟨h.1, hF⟩
theorem main_1_2 : Claimed_1_2 := comes_1 fun _ _ _ _ _ _ h hF => ⟨h.2.1, hF⟩
end Jvm.Pilot.@@N@@
namespace Jvm.Pilot.@@N@@
open Jvm Jvm.ClassFile Sem Op Lib Jvm.Free Jvm.Stand Jvm.Pilot.@@N@@.Jvm.D
/-! MADE BY PROGRAM (witnessworld.py) out of the Statement's table words and the real class files: 23 classes; the members and pool entries that the words name. The judged class is class 1, her method 2. -/
namespace start1
open Jvm.ClassFile
def u (s : String) : CpInfo := .utf8 (stringToUtf16 s)
/-- a pool by its gaps: so many unusable entries, then the entry; so many at the end -/
def gap : Nat → List CpInfo → List CpInfo
  | 0, r => r
  | n + 1, r => .unusable :: gap n r
def poolList (es : List (Nat × CpInfo)) (last : Nat) : List CpInfo := es.foldr (fun e r => gap e.1 (e.2 :: r)) (gap last [])
def pool (es : List (Nat × CpInfo)) (last : Nat) : Array CpInfo := ⟨poolList es last⟩
def fileOf (pool : Array CpInfo) (this : Nat) (attrs : Array Attribute := #[]) (ms : Array MethodInfo := #[]) (fl : Nat := 33) (sup : Nat := 0) (ifs : Array Nat := #[]) (fds : Array FieldInfo := #[]) : ClassFile where
  minorVersion := 0
  majorVersion := 65
  constantPool := pool
  accessFlags := fl
  thisClass := this
  superClass := sup
  interfaces := ifs
  fields := fds
  methods := ms
  attributes := attrs
def plain (name : String) (sup : Option ClassId) : Class where
  name := name
  kind := .ordinary
  loader := none
  accessFlags := 33
  super := sup
  interfaces := #[]
  cf := none
  fields := #[]
  methods := #[]
  instanceTypes := #[]
  staticTypes := #[]
  resolved := #[]
  callSites := []
  init := .initialized
  statics := none
  mirror := none

def pool0 : Array CpInfo := pool [(5, u "<init>"), (0, u "()V"), (1, .class_ 10), (1, u "java/lang/Object")] 113

def k0c0 : Code := { maxStack := 0, maxLocals := 1, code := object_method_1_code, exceptionTable := #[], attributes := #[] }
def k0m0 : Method := { name := "<init>", desc := "()V", sig := { parameters := [], returnType := none }, accessFlags := 1, code := some k0c0 }
/-- java/lang/Object -/
def k0 : Class := { plain "java/lang/Object" none with
  accessFlags := 33
  interfaces := #[]
  cf := some (fileOf pool0 8 #[] #[{ accessFlags := 1, nameIndex := 5, descriptorIndex := 6, attributes := #[] }] 33 0 #[] #[])
  fields := #[]
  methods := #[k0m0]
  instanceTypes := #[]
  staticTypes := #[]
  resolved := Array.replicate 124 none
  statics := none }

def pool1 : Array CpInfo := pool [(2, .class_ 4), (1, u "java/lang/Object"), (0, u "<init>"), (0, u "()V"), (0, .class_ 8), (0, u "java/lang/String"), (0, .methodref 7 10), (0, .nameAndType 5 11), (0, u "([C)V"), (0, .methodref 13 14), (0, .class_ 15), (0, .nameAndType 16 17), (0, u "com/example/upfront_duty/upfrontduty/algebra/RoleEqualsPinLaw"), (0, u "name"), (0, u "(ZCC)Ljava/lang/String;"), (0, .class_ 19), (0, u "com/example/upfront_duty/upfrontduty/algebra/Role"), (0, .methodref 18 21), (0, .nameAndType 5 22), (0, u "(Ljava/lang/String;)V"), (0, .methodref 18 24), (0, .nameAndType 25 26), (0, u "equals"), (0, u "(Ljava/lang/Object;)Z"), (0, .fieldref 28 29), (0, .class_ 30), (0, .nameAndType 31 32), (0, u "com/example/upfront_duty/upfrontduty/algebra/AllUsers"), (0, u "INSTANCE"), (0, u "Lcom/example/upfront_duty/upfrontduty/algebra/AllUsers;"), (3, u "law"), (0, u "(IIIIII)Z")] 2

def k1m0 : Method := { name := "<init>", desc := "()V", sig := { parameters := [], returnType := none }, accessFlags := 1, code := none }
def k1c1 : Code := { maxStack := 6, maxLocals := 3, code := method_2_code, exceptionTable := #[], attributes := #[] }
def k1m1 : Method := { name := "name", desc := "(ZCC)Ljava/lang/String;", sig := { parameters := [.boolean, .char, .char], returnType := some (.object "java/lang/String") }, accessFlags := 10, code := some k1c1 }
def k1c2 : Code := { maxStack := 3, maxLocals := 18, code := code, exceptionTable := #[], attributes := #[] }
def k1m2 : Method := { name := "law", desc := "(IIIIII)Z", sig := { parameters := [.int, .int, .int, .int, .int, .int], returnType := some .boolean }, accessFlags := 9, code := some k1c2 }
/-- com/example/upfront_duty/upfrontduty/algebra/RoleEqualsPinLaw -/
def k1 : Class := { plain "com/example/upfront_duty/upfrontduty/algebra/RoleEqualsPinLaw" (some 0) with
  accessFlags := 49
  interfaces := #[]
  cf := some (fileOf pool1 13 #[] #[{ accessFlags := 1, nameIndex := 5, descriptorIndex := 6, attributes := #[] }, { accessFlags := 10, nameIndex := 16, descriptorIndex := 17, attributes := #[] }, { accessFlags := 9, nameIndex := 36, descriptorIndex := 37, attributes := #[] }] 49 2 #[] #[])
  fields := #[]
  methods := #[k1m0, k1m1, k1m2]
  instanceTypes := #[]
  staticTypes := #[]
  resolved := Array.replicate 40 none
  statics := none }

def pool2 : Array CpInfo := pool [(1, .class_ 2), (0, u "java/io/Serializable"), (0, .class_ 4), (0, u "java/lang/Object")] 2

/-- java/io/Serializable -/
def k2 : Class := { plain "java/io/Serializable" (some 0) with
  accessFlags := 1537
  interfaces := #[]
  cf := some (fileOf pool2 1 #[] #[] 1537 3 #[] #[])
  fields := #[]
  methods := #[]
  instanceTypes := #[]
  staticTypes := #[]
  resolved := Array.replicate 7 none
  statics := none }

def pool3 : Array CpInfo := pool [(1, .class_ 2), (0, u "java/lang/Comparable"), (0, .class_ 4), (0, u "java/lang/Object")] 7

/-- java/lang/Comparable -/
def k3 : Class := { plain "java/lang/Comparable" (some 0) with
  accessFlags := 1537
  interfaces := #[]
  cf := some (fileOf pool3 1 #[] #[] 1537 3 #[] #[])
  fields := #[]
  methods := #[]
  instanceTypes := #[]
  staticTypes := #[]
  resolved := Array.replicate 12 none
  statics := none }

def pool4 : Array CpInfo := pool [(2, .class_ 4), (1, u "java/lang/CharSequence"), (42, .class_ 48), (0, u "java/lang/CharSequence$1CodePointIterator"), (10, .class_ 60), (0, u "java/lang/CharSequence$1CharIterator"), (5, .class_ 67), (0, u "java/lang/Object")] 63

/-- java/lang/CharSequence -/
def k4 : Class := { plain "java/lang/CharSequence" (some 0) with
  accessFlags := 1537
  interfaces := #[]
  cf := some (fileOf pool4 2 #[.nestMembers #[47, 59]] #[] 1537 66 #[] #[])
  fields := #[]
  methods := #[]
  instanceTypes := #[]
  staticTypes := #[]
  resolved := Array.replicate 131 none
  statics := none }

def pool5 : Array CpInfo := pool [(1, .class_ 2), (0, u "java/lang/constant/Constable"), (0, .class_ 4), (0, u "java/lang/Object")] 6

/-- java/lang/constant/Constable -/
def k5 : Class := { plain "java/lang/constant/Constable" (some 0) with
  accessFlags := 1537
  interfaces := #[]
  cf := some (fileOf pool5 1 #[] #[] 1537 3 #[] #[])
  fields := #[]
  methods := #[]
  instanceTypes := #[]
  staticTypes := #[]
  resolved := Array.replicate 11 none
  statics := none }

def pool6 : Array CpInfo := pool [(1, .class_ 2), (0, u "java/lang/constant/ConstantDesc"), (0, .class_ 4), (0, u "java/lang/Object")] 32

/-- java/lang/constant/ConstantDesc -/
def k6 : Class := { plain "java/lang/constant/ConstantDesc" (some 0) with
  accessFlags := 1537
  interfaces := #[]
  cf := some (fileOf pool6 1 #[] #[] 1537 3 #[] #[])
  fields := #[]
  methods := #[]
  instanceTypes := #[]
  staticTypes := #[]
  resolved := Array.replicate 37 none
  statics := none }

def pool7 : Array CpInfo := pool [(1, .methodref 2 3), (0, .class_ 4), (0, .nameAndType 5 6), (0, u "java/lang/Object"), (0, u "<init>"), (0, u "()V"), (2, .fieldref 10 11), (0, .class_ 12), (0, .nameAndType 13 14), (0, u "java/lang/String"), (0, u "value"), (0, u "[B"), (0, .fieldref 10 16), (0, .nameAndType 17 18), (0, u "coder"), (0, u "B"), (2, u "hash"), (0, u "I"), (2, u "hashIsZero"), (0, u "Z"), (0, .methodref 10 28), (0, .nameAndType 5 29), (0, u "([CIILjava/lang/Void;)V"), (8, .fieldref 10 39), (0, .nameAndType 40 26), (0, u "COMPACT_STRINGS"), (1, .class_ 44), (1, u "java/lang/StringUTF16"), (0, u "compress"), (1, .methodref 42 48), (0, .nameAndType 49 50), (0, u "coderFromArrayLen"), (0, u "([BI)B"), (56, .class_ 109), (1, u "java/lang/StringLatin1"), (32, u "()Z"), (34, .methodref 42 178), (0, .nameAndType 45 179), (0, u "([CII)[B"), (361, .methodref 107 542), (0, .nameAndType 543 544), (0, u "equals"), (0, u "([B[B)Z"), (28, u "(Ljava/lang/Object;)Z"), (1, .class_ 576), (0, u "java/lang/CharSequence"), (22, u "CASE_INSENSITIVE_ORDER"), (0, u "Ljava/util/Comparator;"), (91, u "isEmpty"), (317, u "([C)V"), (90, u "serialPersistentFields"), (0, u "[Ljava/io/ObjectStreamField;"), (0, .class_ 1104), (0, u "java/lang/String$CaseInsensitiveComparator"), (1, .class_ 1107), (0, u "java/io/Serializable"), (0, .class_ 1109), (0, u "java/lang/Comparable"), (0, .class_ 1111), (0, u "java/lang/constant/Constable"), (0, .class_ 1113), (0, u "java/lang/constant/ConstantDesc"), (2, u "serialVersionUID"), (0, u "J"), (3, u "REPL"), (0, u "C"), (2, u "LATIN1"), (1, u "UTF16")] 323

def k7m0 : Method := { name := "<init>", desc := "()V", sig := { parameters := [], returnType := none }, accessFlags := 1, code := none }
def k7c1 : Code := { maxStack := 5, maxLocals := 2, code := jdk_42_method_3_code, exceptionTable := #[], attributes := #[] }
def k7m1 : Method := { name := "<init>", desc := "([C)V", sig := { parameters := [(.array .char)], returnType := none }, accessFlags := 1, code := some k7c1 }
def k7c2 : Code := { maxStack := 1, maxLocals := 1, code := jdk_42_method_55_code, exceptionTable := #[], attributes := #[] }
def k7m2 : Method := { name := "isEmpty", desc := "()Z", sig := { parameters := [], returnType := some .boolean }, accessFlags := 1, code := some k7c2 }
def k7c3 : Code := { maxStack := 2, maxLocals := 3, code := jdk_42_method_66_code, exceptionTable := #[], attributes := #[] }
def k7m3 : Method := { name := "equals", desc := "(Ljava/lang/Object;)Z", sig := { parameters := [(.object "java/lang/Object")], returnType := some .boolean }, accessFlags := 1, code := some k7c3 }
def k7c4 : Code := { maxStack := 4, maxLocals := 6, code := jdk_42_method_149_code, exceptionTable := #[], attributes := #[] }
def k7m4 : Method := { name := "<init>", desc := "([CIILjava/lang/Void;)V", sig := { parameters := [(.array .char), .int, .int, (.object "java/lang/Void")], returnType := none }, accessFlags := 2, code := some k7c4 }
/-- java/lang/String -/
def k7 : Class := { plain "java/lang/String" (some 0) with
  accessFlags := 49
  interfaces := #[2, 3, 4, 5, 6]
  cf := some (fileOf pool7 10 #[.nestMembers #[1103]] #[{ accessFlags := 1, nameIndex := 5, descriptorIndex := 6, attributes := #[] }, { accessFlags := 1, nameIndex := 5, descriptorIndex := 1010, attributes := #[] }, { accessFlags := 1, nameIndex := 692, descriptorIndex := 142, attributes := #[] }, { accessFlags := 1, nameIndex := 543, descriptorIndex := 573, attributes := #[] }, { accessFlags := 2, nameIndex := 5, descriptorIndex := 29, attributes := #[] }] 49 2 #[1106, 1108, 575, 1110, 1112] #[{ accessFlags := 18, nameIndex := 13, descriptorIndex := 14, attributes := #[] }, { accessFlags := 18, nameIndex := 17, descriptorIndex := 18, attributes := #[] }, { accessFlags := 2, nameIndex := 21, descriptorIndex := 22, attributes := #[] }, { accessFlags := 2, nameIndex := 25, descriptorIndex := 26, attributes := #[] }, { accessFlags := 26, nameIndex := 1116, descriptorIndex := 1117, attributes := #[] }, { accessFlags := 24, nameIndex := 40, descriptorIndex := 26, attributes := #[] }, { accessFlags := 26, nameIndex := 1101, descriptorIndex := 1102, attributes := #[] }, { accessFlags := 26, nameIndex := 1121, descriptorIndex := 1122, attributes := #[] }, { accessFlags := 25, nameIndex := 599, descriptorIndex := 600, attributes := #[] }, { accessFlags := 24, nameIndex := 1125, descriptorIndex := 18, attributes := #[] }, { accessFlags := 24, nameIndex := 1127, descriptorIndex := 18, attributes := #[] }])
  fields := #[{ name := "value", type := (.array .byte), accessFlags := 18, slot := 0, constantValue := 0 }, { name := "coder", type := .byte, accessFlags := 18, slot := 1, constantValue := 0 }, { name := "hash", type := .int, accessFlags := 2, slot := 2, constantValue := 0 }, { name := "hashIsZero", type := .boolean, accessFlags := 2, slot := 3, constantValue := 0 }, { name := "serialVersionUID", type := .long, accessFlags := 26, slot := 0, constantValue := 0 }, { name := "COMPACT_STRINGS", type := .boolean, accessFlags := 24, slot := 1, constantValue := 0 }, { name := "serialPersistentFields", type := (.array (.object "java/io/ObjectStreamField")), accessFlags := 26, slot := 2, constantValue := 0 }, { name := "REPL", type := .char, accessFlags := 26, slot := 3, constantValue := 0 }, { name := "CASE_INSENSITIVE_ORDER", type := (.object "java/util/Comparator"), accessFlags := 25, slot := 4, constantValue := 0 }, { name := "LATIN1", type := .byte, accessFlags := 24, slot := 5, constantValue := 0 }, { name := "UTF16", type := .byte, accessFlags := 24, slot := 6, constantValue := 0 }]
  methods := #[k7m0, k7m1, k7m2, k7m3, k7m4]
  instanceTypes := #[(.array .byte), .byte, .int, .boolean]
  staticTypes := #[.long, .boolean, (.array (.object "java/io/ObjectStreamField")), .char, (.object "java/util/Comparator"), .byte, .byte]
  resolved := Array.replicate 1451 none
  statics := some 0 }

def pool8 : Array CpInfo := pool [(6, .class_ 8), (1, u "java/lang/Object"), (0, u "<init>"), (0, u "()V"), (1, .class_ 14), (1, u "java/lang/StringUTF16"), (31, u "$assertionsDisabled"), (0, u "Z"), (13, u "HI_BYTE_SHIFT"), (0, u "I"), (2, u "LO_BYTE_SHIFT"), (49, .methodref 12 116), (0, .nameAndType 117 118), (0, u "compress"), (0, u "([CI[BII)I"), (3, u "([CII)[B"), (138, u "coderFromArrayLen"), (0, u "([BI)B"), (106, .class_ 371), (1, u "java/lang/StringUTF16$LinesSpliterator"), (58, u "MAX_LENGTH"), (196, .class_ 628), (0, u "java/lang/StringUTF16$CodePointsSpliterator"), (0, .class_ 630), (0, u "java/lang/StringUTF16$CharsSpliterator")] 4

def k8m0 : Method := { name := "<init>", desc := "()V", sig := { parameters := [], returnType := none }, accessFlags := 0, code := none }
def k8c1 : Code := { maxStack := 2, maxLocals := 2, code := jdk_52_method_15_code, exceptionTable := #[], attributes := #[] }
def k8m1 : Method := { name := "coderFromArrayLen", desc := "([BI)B", sig := { parameters := [(.array .byte), .int], returnType := some .byte }, accessFlags := 8, code := some k8c1 }
def k8c2 : Code := { maxStack := 5, maxLocals := 6, code := jdk_52_method_16_code, exceptionTable := #[], attributes := #[] }
def k8m2 : Method := { name := "compress", desc := "([CII)[B", sig := { parameters := [(.array .char), .int, .int], returnType := some (.array .byte) }, accessFlags := 9, code := some k8c2 }
def k8c3 : Code := { maxStack := 3, maxLocals := 7, code := jdk_52_method_21_code, exceptionTable := #[], attributes := #[] }
def k8m3 : Method := { name := "compress", desc := "([CI[BII)I", sig := { parameters := [(.array .char), .int, (.array .byte), .int, .int], returnType := some .int }, accessFlags := 9, code := some k8c3 }
/-- java/lang/StringUTF16 -/
def k8 : Class := { plain "java/lang/StringUTF16" (some 0) with
  accessFlags := 48
  interfaces := #[]
  cf := some (fileOf pool8 12 #[.nestMembers #[627, 629, 369]] #[{ accessFlags := 0, nameIndex := 9, descriptorIndex := 10, attributes := #[] }, { accessFlags := 8, nameIndex := 261, descriptorIndex := 262, attributes := #[] }, { accessFlags := 9, nameIndex := 117, descriptorIndex := 122, attributes := #[] }, { accessFlags := 9, nameIndex := 117, descriptorIndex := 118, attributes := #[] }] 48 6 #[] #[{ accessFlags := 26, nameIndex := 61, descriptorIndex := 62, attributes := #[] }, { accessFlags := 26, nameIndex := 65, descriptorIndex := 62, attributes := #[] }, { accessFlags := 24, nameIndex := 430, descriptorIndex := 62, attributes := #[] }, { accessFlags := 4120, nameIndex := 46, descriptorIndex := 47, attributes := #[] }])
  fields := #[{ name := "HI_BYTE_SHIFT", type := .int, accessFlags := 26, slot := 0, constantValue := 0 }, { name := "LO_BYTE_SHIFT", type := .int, accessFlags := 26, slot := 1, constantValue := 0 }, { name := "MAX_LENGTH", type := .int, accessFlags := 24, slot := 2, constantValue := 0 }, { name := "$assertionsDisabled", type := .boolean, accessFlags := 4120, slot := 3, constantValue := 0 }]
  methods := #[k8m0, k8m1, k8m2, k8m3]
  instanceTypes := #[]
  staticTypes := #[.int, .int, .int, .boolean]
  resolved := Array.replicate 635 none
  statics := none }

def pool9 : Array CpInfo := pool [(1, .class_ 2), (0, u "com/example/upfront_duty/upfrontduty/algebra/Term"), (0, .class_ 4), (0, u "java/lang/Object")] 17

/-- com/example/upfront_duty/upfrontduty/algebra/Term -/
def k9 : Class := { plain "com/example/upfront_duty/upfrontduty/algebra/Term" (some 0) with
  accessFlags := 1537
  interfaces := #[]
  cf := some (fileOf pool9 1 #[] #[] 1537 3 #[] #[])
  fields := #[]
  methods := #[]
  instanceTypes := #[]
  staticTypes := #[]
  resolved := Array.replicate 22 none
  statics := none }

def pool10 : Array CpInfo := pool [(1, .methodref 2 3), (0, .class_ 4), (0, .nameAndType 5 6), (0, u "java/lang/Object"), (0, u "<init>"), (0, u "()V"), (0, .string 8), (0, u "name"), (0, .methodref 10 11), (0, .class_ 12), (0, .nameAndType 13 14), (0, u "java/util/Objects"), (0, u "requireNonNull"), (0, u "(Ljava/lang/Object;Ljava/lang/String;)Ljava/lang/Object;"), (0, .methodref 16 17), (0, .class_ 18), (0, .nameAndType 19 20), (0, u "java/lang/String"), (0, u "isEmpty"), (0, u "()Z"), (6, u "(Ljava/lang/String;)V"), (0, .fieldref 29 30), (0, .class_ 31), (0, .nameAndType 8 32), (0, u "com/example/upfront_duty/upfrontduty/algebra/Role"), (0, u "Ljava/lang/String;"), (0, .methodref 16 34), (0, .nameAndType 35 36), (0, u "equals"), (0, u "(Ljava/lang/Object;)Z"), (4, .class_ 42), (0, u "com/example/upfront_duty/upfrontduty/algebra/Term")] 7

def k10c0 : Code := { maxStack := 3, maxLocals := 2, code := prog_20_method_1_code, exceptionTable := #[], attributes := #[] }
def k10m0 : Method := { name := "<init>", desc := "(Ljava/lang/String;)V", sig := { parameters := [(.object "java/lang/String")], returnType := none }, accessFlags := 1, code := some k10c0 }
def k10c1 : Code := { maxStack := 2, maxLocals := 3, code := prog_20_method_4_code, exceptionTable := #[], attributes := #[] }
def k10m1 : Method := { name := "equals", desc := "(Ljava/lang/Object;)Z", sig := { parameters := [(.object "java/lang/Object")], returnType := some .boolean }, accessFlags := 1, code := some k10c1 }
/-- com/example/upfront_duty/upfrontduty/algebra/Role -/
def k10 : Class := { plain "com/example/upfront_duty/upfrontduty/algebra/Role" (some 0) with
  accessFlags := 49
  interfaces := #[9]
  cf := some (fileOf pool10 29 #[] #[{ accessFlags := 1, nameIndex := 5, descriptorIndex := 27, attributes := #[] }, { accessFlags := 1, nameIndex := 35, descriptorIndex := 36, attributes := #[] }] 49 2 #[41] #[{ accessFlags := 18, nameIndex := 8, descriptorIndex := 32, attributes := #[] }])
  fields := #[{ name := "name", type := (.object "java/lang/String"), accessFlags := 18, slot := 0, constantValue := 0 }]
  methods := #[k10m0, k10m1]
  instanceTypes := #[(.object "java/lang/String")]
  staticTypes := #[]
  resolved := Array.replicate 50 none
  statics := none }

def pool11 : Array CpInfo := pool [(2, .class_ 4), (1, u "java/lang/Object"), (0, u "<init>"), (0, u "()V"), (35, .class_ 44), (1, u "java/util/Objects"), (0, u "requireNonNull"), (48, u "(Ljava/lang/Object;Ljava/lang/String;)Ljava/lang/Object;")] 89

def k11m0 : Method := { name := "<init>", desc := "()V", sig := { parameters := [], returnType := none }, accessFlags := 2, code := none }
def k11c1 : Code := { maxStack := 3, maxLocals := 2, code := jdk_31_method_11_code, exceptionTable := #[], attributes := #[] }
def k11m1 : Method := { name := "requireNonNull", desc := "(Ljava/lang/Object;Ljava/lang/String;)Ljava/lang/Object;", sig := { parameters := [(.object "java/lang/Object"), (.object "java/lang/String")], returnType := some (.object "java/lang/Object") }, accessFlags := 9, code := some k11c1 }
/-- java/util/Objects -/
def k11 : Class := { plain "java/util/Objects" (some 0) with
  accessFlags := 49
  interfaces := #[]
  cf := some (fileOf pool11 42 #[] #[{ accessFlags := 2, nameIndex := 5, descriptorIndex := 6, attributes := #[] }, { accessFlags := 9, nameIndex := 45, descriptorIndex := 94, attributes := #[] }] 49 2 #[] #[])
  fields := #[]
  methods := #[k11m0, k11m1]
  instanceTypes := #[]
  staticTypes := #[]
  resolved := Array.replicate 184 none
  statics := none }

def pool12 : Array CpInfo := pool [(4, .class_ 6), (1, u "java/lang/Object"), (0, u "<init>"), (0, u "()V"), (5, .class_ 16), (1, u "java/lang/StringLatin1"), (104, u "$assertionsDisabled"), (0, u "Z"), (98, .class_ 223), (1, u "java/lang/StringLatin1$LinesSpliterator"), (57, u "equals"), (0, u "([B[B)Z"), (107, .class_ 391), (0, u "java/lang/StringLatin1$CharsSpliterator")] 3

def k12m0 : Method := { name := "<init>", desc := "()V", sig := { parameters := [], returnType := none }, accessFlags := 0, code := none }
def k12c1 : Code := { maxStack := 3, maxLocals := 3, code := jdk_43_method_13_code, exceptionTable := #[], attributes := #[] }
def k12m1 : Method := { name := "equals", desc := "([B[B)Z", sig := { parameters := [(.array .byte), (.array .byte)], returnType := some .boolean }, accessFlags := 9, code := some k12c1 }
/-- java/lang/StringLatin1 -/
def k12 : Class := { plain "java/lang/StringLatin1" (some 0) with
  accessFlags := 48
  interfaces := #[]
  cf := some (fileOf pool12 14 #[.nestMembers #[390, 221]] #[{ accessFlags := 0, nameIndex := 7, descriptorIndex := 8, attributes := #[] }, { accessFlags := 9, nameIndex := 281, descriptorIndex := 282, attributes := #[] }] 48 4 #[] #[{ accessFlags := 4120, nameIndex := 121, descriptorIndex := 122, attributes := #[] }])
  fields := #[{ name := "$assertionsDisabled", type := .boolean, accessFlags := 4120, slot := 0, constantValue := 0 }]
  methods := #[k12m0, k12m1]
  instanceTypes := #[]
  staticTypes := #[.boolean]
  resolved := Array.replicate 395 none
  statics := none }

def pool13 : Array CpInfo := pool [(2, .class_ 4), (1, u "java/lang/Object"), (0, u "<init>"), (0, u "()V"), (0, .class_ 8), (0, u "com/example/upfront_duty/upfrontduty/algebra/AllUsers"), (3, u "INSTANCE"), (0, u "Lcom/example/upfront_duty/upfrontduty/algebra/AllUsers;"), (0, .class_ 15), (0, u "com/example/upfront_duty/upfrontduty/algebra/Term")] 11

def k13m0 : Method := { name := "<init>", desc := "()V", sig := { parameters := [], returnType := none }, accessFlags := 2, code := none }
/-- com/example/upfront_duty/upfrontduty/algebra/AllUsers -/
def k13 : Class := { plain "com/example/upfront_duty/upfrontduty/algebra/AllUsers" (some 0) with
  accessFlags := 49
  interfaces := #[9]
  cf := some (fileOf pool13 7 #[] #[{ accessFlags := 2, nameIndex := 5, descriptorIndex := 6, attributes := #[] }] 49 2 #[14] #[{ accessFlags := 25, nameIndex := 12, descriptorIndex := 13, attributes := #[] }])
  fields := #[{ name := "INSTANCE", type := (.object "com/example/upfront_duty/upfrontduty/algebra/AllUsers"), accessFlags := 25, slot := 0, constantValue := 0 }]
  methods := #[k13m0]
  instanceTypes := #[]
  staticTypes := #[(.object "com/example/upfront_duty/upfrontduty/algebra/AllUsers")]
  resolved := Array.replicate 27 none
  statics := some 1 }

def pool14 : Array CpInfo := pool [(2, .class_ 4), (1, u "java/lang/Object"), (0, u "<init>"), (0, u "()V"), (17, .class_ 26), (1, u "jdk/internal/util/Preconditions"), (28, .class_ 56), (0, u "jdk/internal/util/Preconditions$4"), (57, .class_ 115), (0, u "jdk/internal/util/Preconditions$1"), (7, u "SIOOBE_FORMATTER"), (0, u "Ljava/util/function/BiFunction;"), (0, .class_ 126), (0, u "jdk/internal/util/Preconditions$2"), (3, u "AIOOBE_FORMATTER"), (0, .class_ 132), (0, u "jdk/internal/util/Preconditions$3"), (3, u "IOOBE_FORMATTER")] 57

def k14m0 : Method := { name := "<init>", desc := "()V", sig := { parameters := [], returnType := none }, accessFlags := 1, code := none }
/-- jdk/internal/util/Preconditions -/
def k14 : Class := { plain "jdk/internal/util/Preconditions" (some 0) with
  accessFlags := 33
  interfaces := #[]
  cf := some (fileOf pool14 24 #[.nestMembers #[55, 131, 125, 114]] #[{ accessFlags := 1, nameIndex := 5, descriptorIndex := 6, attributes := #[] }] 33 2 #[] #[{ accessFlags := 25, nameIndex := 123, descriptorIndex := 124, attributes := #[] }, { accessFlags := 25, nameIndex := 130, descriptorIndex := 124, attributes := #[] }, { accessFlags := 25, nameIndex := 136, descriptorIndex := 124, attributes := #[] }])
  fields := #[{ name := "SIOOBE_FORMATTER", type := (.object "java/util/function/BiFunction"), accessFlags := 25, slot := 0, constantValue := 0 }, { name := "AIOOBE_FORMATTER", type := (.object "java/util/function/BiFunction"), accessFlags := 25, slot := 1, constantValue := 0 }, { name := "IOOBE_FORMATTER", type := (.object "java/util/function/BiFunction"), accessFlags := 25, slot := 2, constantValue := 0 }]
  methods := #[k14m0]
  instanceTypes := #[]
  staticTypes := #[(.object "java/util/function/BiFunction"), (.object "java/util/function/BiFunction"), (.object "java/util/function/BiFunction")]
  resolved := Array.replicate 194 none
  statics := some 2 }

def pool15 : Array CpInfo := pool [(9, u "<init>"), (6, .class_ 18), (1, u "java/lang/Object"), (0, u "()V"), (1, .class_ 23), (1, u "jdk/internal/util/ArraysSupport"), (0, u "LOG2_ARRAY_LONG_INDEX_SCALE"), (0, u "I"), (2, u "U"), (0, u "Ljdk/internal/misc/Unsafe;"), (8, u "BIG_ENDIAN"), (0, u "Z"), (8, u "LOG2_BYTE_BIT_SIZE"), (4, u "LOG2_ARRAY_INT_INDEX_SCALE"), (54, u "JLA"), (0, u "Ljdk/internal/access/JavaLangAccess;"), (11, u "LOG2_ARRAY_BOOLEAN_INDEX_SCALE"), (9, u "LOG2_ARRAY_BYTE_INDEX_SCALE"), (5, u "LOG2_ARRAY_CHAR_INDEX_SCALE"), (5, u "LOG2_ARRAY_SHORT_INDEX_SCALE"), (18, u "LOG2_ARRAY_FLOAT_INDEX_SCALE"), (24, u "LOG2_ARRAY_DOUBLE_INDEX_SCALE"), (89, u "T_BOOLEAN"), (2, u "T_CHAR"), (1, u "T_FLOAT"), (1, u "T_DOUBLE"), (1, u "T_BYTE"), (1, u "T_SHORT"), (1, u "T_INT"), (1, u "T_LONG"), (1, u "SOFT_MAX_ARRAY_LENGTH")] 83

def k15m0 : Method := { name := "<init>", desc := "()V", sig := { parameters := [], returnType := none }, accessFlags := 2, code := none }
/-- jdk/internal/util/ArraysSupport -/
def k15 : Class := { plain "jdk/internal/util/ArraysSupport" (some 0) with
  accessFlags := 33
  interfaces := #[]
  cf := some (fileOf pool15 21 #[] #[{ accessFlags := 2, nameIndex := 9, descriptorIndex := 19, attributes := #[] }] 33 16 #[] #[{ accessFlags := 24, nameIndex := 28, descriptorIndex := 29, attributes := #[] }, { accessFlags := 26, nameIndex := 38, descriptorIndex := 39, attributes := #[] }, { accessFlags := 25, nameIndex := 121, descriptorIndex := 25, attributes := #[] }, { accessFlags := 25, nameIndex := 131, descriptorIndex := 25, attributes := #[] }, { accessFlags := 25, nameIndex := 137, descriptorIndex := 25, attributes := #[] }, { accessFlags := 25, nameIndex := 143, descriptorIndex := 25, attributes := #[] }, { accessFlags := 25, nameIndex := 53, descriptorIndex := 25, attributes := #[] }, { accessFlags := 25, nameIndex := 24, descriptorIndex := 25, attributes := #[] }, { accessFlags := 25, nameIndex := 162, descriptorIndex := 25, attributes := #[] }, { accessFlags := 25, nameIndex := 187, descriptorIndex := 25, attributes := #[] }, { accessFlags := 26, nameIndex := 48, descriptorIndex := 25, attributes := #[] }, { accessFlags := 25, nameIndex := 277, descriptorIndex := 25, attributes := #[] }, { accessFlags := 25, nameIndex := 280, descriptorIndex := 25, attributes := #[] }, { accessFlags := 25, nameIndex := 282, descriptorIndex := 25, attributes := #[] }, { accessFlags := 25, nameIndex := 284, descriptorIndex := 25, attributes := #[] }, { accessFlags := 25, nameIndex := 286, descriptorIndex := 25, attributes := #[] }, { accessFlags := 25, nameIndex := 288, descriptorIndex := 25, attributes := #[] }, { accessFlags := 25, nameIndex := 290, descriptorIndex := 25, attributes := #[] }, { accessFlags := 25, nameIndex := 292, descriptorIndex := 25, attributes := #[] }, { accessFlags := 26, nameIndex := 108, descriptorIndex := 109, attributes := #[] }, { accessFlags := 25, nameIndex := 294, descriptorIndex := 25, attributes := #[] }])
  fields := #[{ name := "U", type := (.object "jdk/internal/misc/Unsafe"), accessFlags := 24, slot := 0, constantValue := 0 }, { name := "BIG_ENDIAN", type := .boolean, accessFlags := 26, slot := 1, constantValue := 0 }, { name := "LOG2_ARRAY_BOOLEAN_INDEX_SCALE", type := .int, accessFlags := 25, slot := 2, constantValue := 0 }, { name := "LOG2_ARRAY_BYTE_INDEX_SCALE", type := .int, accessFlags := 25, slot := 3, constantValue := 0 }, { name := "LOG2_ARRAY_CHAR_INDEX_SCALE", type := .int, accessFlags := 25, slot := 4, constantValue := 0 }, { name := "LOG2_ARRAY_SHORT_INDEX_SCALE", type := .int, accessFlags := 25, slot := 5, constantValue := 0 }, { name := "LOG2_ARRAY_INT_INDEX_SCALE", type := .int, accessFlags := 25, slot := 6, constantValue := 0 }, { name := "LOG2_ARRAY_LONG_INDEX_SCALE", type := .int, accessFlags := 25, slot := 7, constantValue := 0 }, { name := "LOG2_ARRAY_FLOAT_INDEX_SCALE", type := .int, accessFlags := 25, slot := 8, constantValue := 0 }, { name := "LOG2_ARRAY_DOUBLE_INDEX_SCALE", type := .int, accessFlags := 25, slot := 9, constantValue := 0 }, { name := "LOG2_BYTE_BIT_SIZE", type := .int, accessFlags := 26, slot := 10, constantValue := 0 }, { name := "T_BOOLEAN", type := .int, accessFlags := 25, slot := 11, constantValue := 0 }, { name := "T_CHAR", type := .int, accessFlags := 25, slot := 12, constantValue := 0 }, { name := "T_FLOAT", type := .int, accessFlags := 25, slot := 13, constantValue := 0 }, { name := "T_DOUBLE", type := .int, accessFlags := 25, slot := 14, constantValue := 0 }, { name := "T_BYTE", type := .int, accessFlags := 25, slot := 15, constantValue := 0 }, { name := "T_SHORT", type := .int, accessFlags := 25, slot := 16, constantValue := 0 }, { name := "T_INT", type := .int, accessFlags := 25, slot := 17, constantValue := 0 }, { name := "T_LONG", type := .int, accessFlags := 25, slot := 18, constantValue := 0 }, { name := "JLA", type := (.object "jdk/internal/access/JavaLangAccess"), accessFlags := 26, slot := 19, constantValue := 0 }, { name := "SOFT_MAX_ARRAY_LENGTH", type := .int, accessFlags := 25, slot := 20, constantValue := 0 }]
  methods := #[k15m0]
  instanceTypes := #[]
  staticTypes := #[(.object "jdk/internal/misc/Unsafe"), .boolean, .int, .int, .int, .int, .int, .int, .int, .int, .int, .int, .int, .int, .int, .int, .int, .int, .int, (.object "jdk/internal/access/JavaLangAccess"), .int]
  resolved := Array.replicate 378 none
  statics := none }

def pool16 : Array CpInfo := pool [(1, u "java/lang/Cloneable"), (0, .class_ 1), (0, u "java/lang/Object"), (0, .class_ 3)] 3

/-- java/lang/Cloneable -/
def k16 : Class := { plain "java/lang/Cloneable" (some 0) with
  accessFlags := 1537
  interfaces := #[]
  cf := some (fileOf pool16 2 #[] #[] 1537 4 #[] #[])
  fields := #[]
  methods := #[]
  instanceTypes := #[]
  staticTypes := #[]
  resolved := Array.replicate 8 none
  statics := none }

/-- the primitive byte -/
def k17 : Class := { plain "byte" none with kind := .primitive 'B', accessFlags := 0x411 }
/-- [B -/
def k18 : Class := { plain "[B" (some 0) with kind := .array 17 .byte, interfaces := #[16, 2], accessFlags := 1041 }

/-- the primitive char -/
def k19 : Class := { plain "char" none with kind := .primitive 'C', accessFlags := 0x411 }
/-- [C -/
def k20 : Class := { plain "[C" (some 0) with kind := .array 19 .char, interfaces := #[16, 2], accessFlags := 1041 }

/-- the primitive int -/
def k21 : Class := { plain "int" none with kind := .primitive 'I', accessFlags := 0x411 }
/-- [I -/
def k22 : Class := { plain "[I" (some 0) with kind := .array 21 .int, interfaces := #[16, 2], accessFlags := 1041 }

def heap : Heap := #[{ cls := 7, slots := #[.long 0, .int 1, .null, .int 0, .null, .int 0, .int 0], vm := .statics 7 },
  { cls := 13, slots := #[.ref 3], vm := .statics 13 },
  { cls := 14, slots := #[.null, .null, .null], vm := .statics 14 },
  { cls := 13, slots := #[], vm := .none }]
def classes : Array Class := #[k0, k1, k2, k3, k4, k5, k6, k7, k8, k9, k10, k11, k12, k13, k14, k15, k16, k17, k18, k19, k20, k21, k22]
def interned : List (Array UInt16 × Addr) := []
def slotsUsed : Nat := 11
def theMethod : MethodId := ⟨1, 2⟩
def args0 : Array Value := #[.int 5, .int 6, .int 7, .int 8, .int 9, .int 10]
def aboutOver (below : List Frame) : State where
  vm := { classes := classes, interned := interned.toArray }
  heap := heap
  slotsUsed := slotsUsed
  threads := #[{ frames := .invoking theMethod args0 :: below }]
def below0 : List Frame := [.native { method := ⟨0, 0⟩, args := #[] }]
def about1 : State := aboutOver below0
def p0 : Program := .bare "" "" ""
def e0 : Env := launch0.env 0 0 0
theorem w_frames : about1.frames = Frame.invoking theMethod args0 :: below0 := rfl
set_option maxRecDepth 65536 in
theorem w_args : argsFit about1.vm theMethod args0 = true := by decide +kernel
set_option maxRecDepth 65536 in
theorem w_heap : heapFits about1 = true := by decide +kernel
set_option maxRecDepth 65536 in
theorem w_runnable : about1.curStatus? = some .runnable := by decide +kernel
set_option maxRecDepth 65536 in
theorem w_alone : about1.alone = true := by decide +kernel
set_option maxRecDepth 65536 in
theorem w_named : about1.methodNamed? x = some theMethod := by decide +kernel
set_option maxRecDepth 65536 in
theorem w_hears : about1.hears theMethod below0 = true := by decide +kernel
set_option maxRecDepth 65536 in
theorem w_ripe : about1.ripe theMethod args0 below0 = true := by decide +kernel
theorem w_running : about1.status = .running := rfl
set_option maxRecDepth 65536 in
theorem w_room : about1.hasRoom e0.platform room_1 = true :=
  launch0.hasRoom_least _ room_1 (by decide +kernel) (by decide +kernel) (by decide +kernel) (by decide +kernel) (by decide +kernel) (by decide +kernel)
theorem allAtoms_all (ts : List Jvm.Cond) (a : Array Jvm.Value) (st : Jvm.State) : (allAtoms ts).before a st = ts.all (fun c => c.before a st) := by
  induction ts with
  | nil => rfl
  | cons c t ih =>
    show (Jvm.Cond.and c (allAtoms t)).before a st = _
    rw [Jvm.Cond.before_and, ih, List.all_cons]
def words1 : List Jvm.Cond := Jvm.Cond.code x code maxLocals ret :: tables_1
/-- a 'code' word, met by the world's own term for the bytes: nothing is compared byte by byte -/
theorem code_word {y : MethodName} {bytes : ByteArray} {mx : Nat} {rt : Option FieldType} {a : Array Value} {s : State} {m : MethodId} {meth : Method} {c : Code} (h1 : s.methodNamed? y = some m) (h2 : s.vm.method? m = some meth) (h3 : meth.code = some c) (h4 : c.code = bytes)
    (h5 : (c.maxLocals == mx && c.exceptionTable.isEmpty && decide (c.maxStack ≤ mostOperands) && decide (meth.sig.returnType = rt) && !meth.locks && decide (parseMethodDescriptor y.desc = some meth.sig)) = true) : (Jvm.Cond.code y bytes mx rt).before a s = true := by
  simp only [Bool.and_eq_true, beq_iff_eq, Bool.not_eq_true', decide_eq_true_eq] at h5
  obtain ⟨⟨⟨⟨⟨g1, g2⟩, g3⟩, g4⟩, g5⟩, g6⟩ := h5
  simp [Cond.before, Cond.holds, Cond.value, h1, h2, h3, h4, g1, g2, g3, g4, g5, g6]
def isCode : Jvm.Cond → Bool
  | .code _ _ _ _ => true
  | _ => false
theorem all_split {L : List Jvm.Cond} {P : Jvm.Cond → Bool} (h1 : L.all (fun c => isCode c || P c) = true) (h2 : ∀ c ∈ L.filter isCode, P c = true) : L.all P = true := by
  refine List.all_eq_true.mpr fun c hc => ?_
  have h := List.all_eq_true.mp h1 c hc
  rcases Bool.eq_false_or_eq_true (isCode c) with hi | hi
  · exact h2 c (List.mem_filter.mpr ⟨hc, hi⟩)
  · simpa [hi] using h
set_option maxRecDepth 65536 in
theorem w_c0 : (Jvm.Cond.code x code maxLocals ret).before args0 about1 = true := code_word (m := ⟨1, 2⟩) (meth := k1m2) (c := k1c2) (by decide +kernel) rfl rfl rfl (by decide +kernel)
set_option maxRecDepth 65536 in
theorem w_c1 : (Jvm.Cond.code ({ cls := "com/example/upfront_duty/upfrontduty/algebra/RoleEqualsPinLaw", name := "name", desc := "(ZCC)Ljava/lang/String;" } : Jvm.MethodName) method_2_code (3 : Nat) (Option.some (Jvm.ClassFile.FieldType.object "java/lang/String"))).before args0 about1 = true := code_word (m := ⟨1, 1⟩) (meth := k1m1) (c := k1c1) (by decide +kernel) rfl rfl rfl (by decide +kernel)
set_option maxRecDepth 65536 in
theorem w_c2 : (Jvm.Cond.code ({ cls := "java/lang/String", name := "<init>", desc := "([C)V" } : Jvm.MethodName) jdk_42_method_3_code (2 : Nat) (Option.none : Option Jvm.ClassFile.FieldType)).before args0 about1 = true := code_word (m := ⟨7, 1⟩) (meth := k7m1) (c := k7c1) (by decide +kernel) rfl rfl rfl (by decide +kernel)
set_option maxRecDepth 65536 in
theorem w_c3 : (Jvm.Cond.code ({ cls := "java/lang/String", name := "<init>", desc := "([CIILjava/lang/Void;)V" } : Jvm.MethodName) jdk_42_method_149_code (6 : Nat) (Option.none : Option Jvm.ClassFile.FieldType)).before args0 about1 = true := code_word (m := ⟨7, 4⟩) (meth := k7m4) (c := k7c4) (by decide +kernel) rfl rfl rfl (by decide +kernel)
set_option maxRecDepth 65536 in
theorem w_c4 : (Jvm.Cond.code ({ cls := "java/lang/Object", name := "<init>", desc := "()V" } : Jvm.MethodName) object_method_1_code (1 : Nat) (Option.none : Option Jvm.ClassFile.FieldType)).before args0 about1 = true := code_word (m := ⟨0, 0⟩) (meth := k0m0) (c := k0c0) (by decide +kernel) rfl rfl rfl (by decide +kernel)
set_option maxRecDepth 65536 in
theorem w_c5 : (Jvm.Cond.code ({ cls := "java/lang/StringUTF16", name := "compress", desc := "([CII)[B" } : Jvm.MethodName) jdk_52_method_16_code (6 : Nat) (Option.some (Jvm.ClassFile.FieldType.array Jvm.ClassFile.FieldType.byte))).before args0 about1 = true := code_word (m := ⟨8, 2⟩) (meth := k8m2) (c := k8c2) (by decide +kernel) rfl rfl rfl (by decide +kernel)
set_option maxRecDepth 65536 in
theorem w_c6 : (Jvm.Cond.code ({ cls := "java/lang/StringUTF16", name := "compress", desc := "([CI[BII)I" } : Jvm.MethodName) jdk_52_method_21_code (7 : Nat) (Option.some Jvm.ClassFile.FieldType.int)).before args0 about1 = true := code_word (m := ⟨8, 3⟩) (meth := k8m3) (c := k8c3) (by decide +kernel) rfl rfl rfl (by decide +kernel)
set_option maxRecDepth 65536 in
theorem w_c7 : (Jvm.Cond.code ({ cls := "java/lang/StringUTF16", name := "coderFromArrayLen", desc := "([BI)B" } : Jvm.MethodName) jdk_52_method_15_code (2 : Nat) (Option.some Jvm.ClassFile.FieldType.byte)).before args0 about1 = true := code_word (m := ⟨8, 1⟩) (meth := k8m1) (c := k8c1) (by decide +kernel) rfl rfl rfl (by decide +kernel)
set_option maxRecDepth 65536 in
theorem w_c8 : (Jvm.Cond.code ({ cls := "com/example/upfront_duty/upfrontduty/algebra/Role", name := "<init>", desc := "(Ljava/lang/String;)V" } : Jvm.MethodName) prog_20_method_1_code (2 : Nat) (Option.none : Option Jvm.ClassFile.FieldType)).before args0 about1 = true := code_word (m := ⟨10, 0⟩) (meth := k10m0) (c := k10c0) (by decide +kernel) rfl rfl rfl (by decide +kernel)
set_option maxRecDepth 65536 in
theorem w_c9 : (Jvm.Cond.code ({ cls := "java/util/Objects", name := "requireNonNull", desc := "(Ljava/lang/Object;Ljava/lang/String;)Ljava/lang/Object;" } : Jvm.MethodName) jdk_31_method_11_code (2 : Nat) (Option.some (Jvm.ClassFile.FieldType.object "java/lang/Object"))).before args0 about1 = true := code_word (m := ⟨11, 1⟩) (meth := k11m1) (c := k11c1) (by decide +kernel) rfl rfl rfl (by decide +kernel)
set_option maxRecDepth 65536 in
theorem w_c10 : (Jvm.Cond.code ({ cls := "java/lang/String", name := "isEmpty", desc := "()Z" } : Jvm.MethodName) jdk_42_method_55_code (1 : Nat) (Option.some Jvm.ClassFile.FieldType.boolean)).before args0 about1 = true := code_word (m := ⟨7, 2⟩) (meth := k7m2) (c := k7c2) (by decide +kernel) rfl rfl rfl (by decide +kernel)
set_option maxRecDepth 65536 in
theorem w_c11 : (Jvm.Cond.code ({ cls := "com/example/upfront_duty/upfrontduty/algebra/Role", name := "equals", desc := "(Ljava/lang/Object;)Z" } : Jvm.MethodName) prog_20_method_4_code (3 : Nat) (Option.some Jvm.ClassFile.FieldType.boolean)).before args0 about1 = true := code_word (m := ⟨10, 1⟩) (meth := k10m1) (c := k10c1) (by decide +kernel) rfl rfl rfl (by decide +kernel)
set_option maxRecDepth 65536 in
theorem w_c12 : (Jvm.Cond.code ({ cls := "java/lang/String", name := "equals", desc := "(Ljava/lang/Object;)Z" } : Jvm.MethodName) jdk_42_method_66_code (3 : Nat) (Option.some Jvm.ClassFile.FieldType.boolean)).before args0 about1 = true := code_word (m := ⟨7, 3⟩) (meth := k7m3) (c := k7c3) (by decide +kernel) rfl rfl rfl (by decide +kernel)
set_option maxRecDepth 65536 in
theorem w_c13 : (Jvm.Cond.code ({ cls := "java/lang/StringLatin1", name := "equals", desc := "([B[B)Z" } : Jvm.MethodName) jdk_43_method_13_code (3 : Nat) (Option.some Jvm.ClassFile.FieldType.boolean)).before args0 about1 = true := code_word (m := ⟨12, 1⟩) (meth := k12m1) (c := k12c1) (by decide +kernel) rfl rfl rfl (by decide +kernel)
def codes1 : List Jvm.Cond := [Jvm.Cond.code x code maxLocals ret, Jvm.Cond.code ({ cls := "com/example/upfront_duty/upfrontduty/algebra/RoleEqualsPinLaw", name := "name", desc := "(ZCC)Ljava/lang/String;" } : Jvm.MethodName) method_2_code (3 : Nat) (Option.some (Jvm.ClassFile.FieldType.object "java/lang/String")), Jvm.Cond.code ({ cls := "java/lang/String", name := "<init>", desc := "([C)V" } : Jvm.MethodName) jdk_42_method_3_code (2 : Nat) (Option.none : Option Jvm.ClassFile.FieldType), Jvm.Cond.code ({ cls := "java/lang/String", name := "<init>", desc := "([CIILjava/lang/Void;)V" } : Jvm.MethodName) jdk_42_method_149_code (6 : Nat) (Option.none : Option Jvm.ClassFile.FieldType), Jvm.Cond.code ({ cls := "java/lang/Object", name := "<init>", desc := "()V" } : Jvm.MethodName) object_method_1_code (1 : Nat) (Option.none : Option Jvm.ClassFile.FieldType), Jvm.Cond.code ({ cls := "java/lang/StringUTF16", name := "compress", desc := "([CII)[B" } : Jvm.MethodName) jdk_52_method_16_code (6 : Nat) (Option.some (Jvm.ClassFile.FieldType.array Jvm.ClassFile.FieldType.byte)), Jvm.Cond.code ({ cls := "java/lang/StringUTF16", name := "compress", desc := "([CI[BII)I" } : Jvm.MethodName) jdk_52_method_21_code (7 : Nat) (Option.some Jvm.ClassFile.FieldType.int), Jvm.Cond.code ({ cls := "java/lang/StringUTF16", name := "coderFromArrayLen", desc := "([BI)B" } : Jvm.MethodName) jdk_52_method_15_code (2 : Nat) (Option.some Jvm.ClassFile.FieldType.byte), Jvm.Cond.code ({ cls := "com/example/upfront_duty/upfrontduty/algebra/Role", name := "<init>", desc := "(Ljava/lang/String;)V" } : Jvm.MethodName) prog_20_method_1_code (2 : Nat) (Option.none : Option Jvm.ClassFile.FieldType), Jvm.Cond.code ({ cls := "java/util/Objects", name := "requireNonNull", desc := "(Ljava/lang/Object;Ljava/lang/String;)Ljava/lang/Object;" } : Jvm.MethodName) jdk_31_method_11_code (2 : Nat) (Option.some (Jvm.ClassFile.FieldType.object "java/lang/Object")), Jvm.Cond.code ({ cls := "java/lang/String", name := "isEmpty", desc := "()Z" } : Jvm.MethodName) jdk_42_method_55_code (1 : Nat) (Option.some Jvm.ClassFile.FieldType.boolean), Jvm.Cond.code ({ cls := "com/example/upfront_duty/upfrontduty/algebra/Role", name := "equals", desc := "(Ljava/lang/Object;)Z" } : Jvm.MethodName) prog_20_method_4_code (3 : Nat) (Option.some Jvm.ClassFile.FieldType.boolean), Jvm.Cond.code ({ cls := "java/lang/String", name := "equals", desc := "(Ljava/lang/Object;)Z" } : Jvm.MethodName) jdk_42_method_66_code (3 : Nat) (Option.some Jvm.ClassFile.FieldType.boolean), Jvm.Cond.code ({ cls := "java/lang/StringLatin1", name := "equals", desc := "([B[B)Z" } : Jvm.MethodName) jdk_43_method_13_code (3 : Nat) (Option.some Jvm.ClassFile.FieldType.boolean)]
set_option maxRecDepth 65536 in
theorem codes_eq : words1.filter isCode = codes1 := rfl
theorem w_codes : ∀ c ∈ words1.filter isCode, c.before args0 about1 = true := by
  rw [codes_eq]
  intro c hc
  simp only [codes1, List.mem_cons, List.not_mem_nil, or_false] at hc
  rcases hc with rfl | rfl | rfl | rfl | rfl | rfl | rfl | rfl | rfl | rfl | rfl | rfl | rfl | rfl
  · exact w_c0
  · exact w_c1
  · exact w_c2
  · exact w_c3
  · exact w_c4
  · exact w_c5
  · exact w_c6
  · exact w_c7
  · exact w_c8
  · exact w_c9
  · exact w_c10
  · exact w_c11
  · exact w_c12
  · exact w_c13
set_option maxRecDepth 65536 in
theorem w_t1 : (words1.take 24).all (fun c => isCode c || c.before args0 about1) = true := by decide +kernel
set_option maxRecDepth 65536 in
theorem w_t2 : ((words1.drop 24).take 24).all (fun c => isCode c || c.before args0 about1) = true := by decide +kernel
set_option maxRecDepth 65536 in
theorem w_t3 : (((words1.drop 24).drop 24).take 24).all (fun c => isCode c || c.before args0 about1) = true := by decide +kernel
set_option maxRecDepth 65536 in
theorem w_t4 : (((words1.drop 24).drop 24).drop 24).all (fun c => isCode c || c.before args0 about1) = true := by decide +kernel
theorem w_tables : (allAtoms (Jvm.Cond.code x code maxLocals ret :: tables_1)).before args0 about1 = true := by
  rw [allAtoms_all]
  show words1.all (fun c => c.before args0 about1) = true
  refine all_split ?_ w_codes
  rw [← List.take_append_drop 24 words1, List.all_append, w_t1, ← List.take_append_drop 24 (words1.drop 24), List.all_append, w_t2, ← List.take_append_drop 24 ((words1.drop 24).drop 24), List.all_append, w_t3, w_t4]
  rfl
set_option maxRecDepth 65536 in
theorem w_rest : rest_1_c.before args0 about1 = true := by decide +kernel
set_option maxRecDepth 65536 in
theorem w_case : (Jvm.Cond.and given_1 narrow_1).before args0 about1 = true := by decide +kernel
theorem w_applies : (headSpec (Jvm.Cond.code x code maxLocals ret :: tables_1) room_1).applies x e0.platform about1 = true :=
  (Spec.applies_iff w_frames).mpr ⟨w_running, w_runnable, w_alone, w_named, w_hears, w_ripe, w_room, w_tables⟩
theorem atStart : AtStart classFile x code maxLocals ret World_1 tables_1 room_1 Calls_1 rest_1 Pre_1 launch0 p0 e0 about1 theMethod args0 below0 :=
  ⟨lists_1, trivial, launch0.admits_env _ _ _, launch0.least_env, fairChoices_fair.cas, fairChoices_fair.clock, w_frames, w_args, w_heap, w_applies, trivial, w_rest, w_case⟩
end start1
theorem witness_1 : WitnessClaimed_1 := ⟨start1.p0, start1.e0, start1.about1, start1.theMethod, start1.args0, start1.below0, start1.atStart⟩
end Jvm.Pilot.@@N@@
