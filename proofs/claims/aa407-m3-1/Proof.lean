import JvmDerived
import JvmDerived.Pilot.@@N@@Statement
import JvmDerived.Pilot.@@N@@Code
set_option linter.unusedVariables false
set_option linter.unusedSimpArgs false
namespace Jvm.Pilot.@@N@@
open Jvm Jvm.ClassFile Sem Op Lib Jvm.Free Jvm.Stand Jvm.LawKit Jvm.RoadKit Bundle Jvm.Pilot.@@N@@.Jvm.D
section OwnGo
variable {p : Program} {l : Launch} {e : Env} {R : Room} {s : State} {m : MethodId} {args : Array Value} {below : List Frame} {meth : Method} {c : Code} {T : State} {locs : List Loc} {cells slots : Nat} {Q : Option Value → Heap → List Loc → Prop} {kc ks : Nat}
/-- from this state the body runs to its return, and Q holds of what it leaves -/
def own_Go (p : Program) (e : Env) (below : List Frame) (s : State) (Q : Option Value → Heap → List Loc → Prop) (kc ks : Nat) (S : State) : Prop :=
  ∃ s₂ o, Steps p.tables e below S s₂ ∧ s₂.status = .running ∧ Ended s₂ below o ∧ ∃ v L, o = .returned v ∧ Q v s₂.heap L ∧ FrameEnd s o s₂ L kc ks
theorem own_st {A B : State} (f : ∀ t, Steps p.tables e below A t → Steps p.tables e below B t) (h : own_Go p e below s Q kc ks A) : own_Go p e below s Q kc ks B := by
  obtain ⟨s₂, o, h1, h2⟩ := h
  exact ⟨s₂, o, f _ h1, h2⟩
theorem own_mono {S : State} {Q' : Option Value → Heap → List Loc → Prop} (h : own_Go p e below s Q kc ks S) (f : ∀ v h L, Q v h L → Q' v h L) : own_Go p e below s Q' kc ks S := by
  obtain ⟨s₂, o, h1, h2, h3, v, L, h4, h5, h6⟩ := h
  exact ⟨s₂, o, h1, h2, h3, v, L, h4, f _ _ _ h5, h6⟩
theorem own_retN (X : Stand p l e R s m args below meth c T locs cells slots) (hx : p.tables.exec = Jvm.exec) (hlk : meth.locks = false) {pc : Nat} {Ls : Array Slot} {z : Int32} {t : FieldType} {rest : List Value} (hret : meth.sig.returnType = some t) (ht : t = .boolean ∨ t = .byte ∨ t = .char ∨ t = .short)
    (hd : decode c.code pc = .ok (.ireturn, 1)) (hq : Q (some (.int (nar t z))) T.heap locs) (hc : cells ≤ kc) (hs : slots ≤ ks) : own_Go p e below s Q kc ks (T.setTop (mkF m pc Ls (.int z :: rest))) := by
  obtain ⟨fs, hr, hrun, hended, hW, hsame⟩ := X.leave (v := some (.int (nar t z))) (fun h => by rw [hret] at h; cases h) hlk
  exact ⟨_, _, retN X hx hret ht hd hr, hrun, hended, _, _, rfl, hq, ⟨_, rfl⟩, hW, hsame.mono hc hs⟩
theorem own_retI (X : Stand p l e R s m args below meth c T locs cells slots) (hx : p.tables.exec = Jvm.exec) (hlk : meth.locks = false) {pc : Nat} {Ls : Array Slot} {z : Int32} {rest : List Value} (hret : meth.sig.returnType = some .int)
    (hd : decode c.code pc = .ok (.ireturn, 1)) (hq : Q (some (.int z)) T.heap locs) (hc : cells ≤ kc) (hs : slots ≤ ks) : own_Go p e below s Q kc ks (T.setTop (mkF m pc Ls (.int z :: rest))) := by
  obtain ⟨fs, hr, hrun, hended, hW, hsame⟩ := X.leave (v := some (.int z)) (fun h => by rw [hret] at h; cases h) hlk
  exact ⟨_, _, retOut X hx hret rfl (Or.inl ⟨rfl, Or.inl rfl, z, rfl⟩) hd hr, hrun, hended, _, _, rfl, hq, ⟨_, rfl⟩, hW, hsame.mono hc hs⟩
theorem own_retJ (X : Stand p l e R s m args below meth c T locs cells slots) (hx : p.tables.exec = Jvm.exec) (hlk : meth.locks = false) {pc : Nat} {Ls : Array Slot} {z : Int64} {rest : List Value} (hret : meth.sig.returnType = some .long)
    (hd : decode c.code pc = .ok (.lreturn, 1)) (hq : Q (some (.long z)) T.heap locs) (hc : cells ≤ kc) (hs : slots ≤ ks) : own_Go p e below s Q kc ks (T.setTop (mkF m pc Ls (.long z :: rest))) := by
  obtain ⟨fs, hr, hrun, hended, hW, hsame⟩ := X.leave (v := some (.long z)) (fun h => by rw [hret] at h; cases h) hlk
  exact ⟨_, _, retOut X hx hret rfl (Or.inr (Or.inl ⟨rfl, rfl, z, rfl⟩)) hd hr, hrun, hended, _, _, rfl, hq, ⟨_, rfl⟩, hW, hsame.mono hc hs⟩
theorem own_retA (X : Stand p l e R s m args below meth c T locs cells slots) (hx : p.tables.exec = Jvm.exec) (hlk : meth.locks = false) {pc : Nat} {Ls : Array Slot} {w : Value} {t : FieldType} {rest : List Value} (hret : meth.sig.returnType = some t) (ht : t.isReference = true) (hw : w.isRef = true)
    (hd : decode c.code pc = .ok (.areturn, 1)) (hq : Q (some w) T.heap locs) (hc : cells ≤ kc) (hs : slots ≤ ks) : own_Go p e below s Q kc ks (T.setTop (mkF m pc Ls (w :: rest))) := by
  obtain ⟨fs, hr, hrun, hended, hW, hsame⟩ := X.leave (v := some w) (fun h => by rw [hret] at h; cases h) hlk
  exact ⟨_, _, retOut X hx hret (by rcases ref_cases hw with rfl | ⟨a, rfl⟩ <;> cases t <;> first | rfl | cases ht) (Or.inr (Or.inr (Or.inr (Or.inr ⟨rfl, ht, hw⟩)))) hd hr, hrun, hended, _, _, rfl, hq, ⟨_, rfl⟩, hW, hsame.mono hc hs⟩
theorem own_retV (X : Stand p l e R s m args below meth c T locs cells slots) (hx : p.tables.exec = Jvm.exec) (hlk : meth.locks = false) {pc : Nat} {Ls : Array Slot} (hret : meth.sig.returnType = none)
    (hd : decode c.code pc = .ok (.return_, 1)) (hq : Q none T.heap locs) (hc : cells ≤ kc) (hs : slots ≤ ks) : own_Go p e below s Q kc ks (T.setTop (mkF m pc Ls [])) := by
  obtain ⟨fs, hr, hrun, hended, hW, hsame⟩ := X.leave (v := none) (fun _ => rfl) hlk
  exact ⟨_, _, X.returnOut hx hret hd hr, hrun, hended, _, _, rfl, hq, ⟨_, rfl⟩, hW, hsame.mono hc hs⟩
end OwnGo
section OwnWords
variable {args : Array Value} {s : State} {t i : Term} {a b : Addr} {C n d : String} {k : Int32} {cl : Cell} {ty : FieldType}
theorem own_fldI (ev : t.eval args s none [] s = some (.ref a)) (h : (Jvm.Cond.eq (Term.field t C n d) (Term.int k)).value args s none s [] = some true) : Fld s s.heap a C n d (.int k) := by
  have e1 := fld_at (C := C) (n := n) (dd := d) ev
  have e2 := Term.int_eval (args := args) (first := s) (o := none) (idx := []) (s := s) k
  refine Fld.start ?_
  cases hv : s.fieldOf? a C n d with
  | none => rw [hv] at e1; simp [Jvm.Cond.value, e1] at h
  | some v => rw [hv] at e1; cases v <;> simp [Jvm.Cond.value, e1, e2] at h; rw [h]
theorem own_len (ev : t.eval args s none [] s = some (.ref a)) (A : Arr s s.heap a cl ty) (h : (Jvm.Cond.eq (Term.length t) (Term.int k)).value args s none s [] = some true) : cl.slots.size < 2 ^ 31 ∧ cl.slots.size.toInt32 = k := by
  have e2 := Term.int_eval (args := args) (first := s) (o := none) (idx := []) (s := s) k
  have e0 := A.fin (Vm.Alike.refl _)
  by_cases hl : cl.slots.size < 2 ^ 31
  · have e1 := len_f ev e0 hl
    simp [Jvm.Cond.value, e1, e2] at h
    exact ⟨hl, h⟩
  · have e1 : (Term.length t).eval args s none [] s = none := by simp [Term.eval, ev, e0]; omega
    simp [Jvm.Cond.value, e1] at h
theorem own_elem {v : Value} (ev : t.eval args s none [] s = some (.ref a)) (A : Arr s s.heap a cl ty) {u : Term} (eu : u.eval args s none [] s = some v) (hv : v.isRef = true) (h : (Jvm.Cond.eq (Term.elem t (Term.int k)) u).value args s none s [] = some true) : cl.slots[k.toNatClampNeg]? = some v := by
  have e2 := Term.int_eval (args := args) (first := s) (o := none) (idx := []) (s := s) k
  obtain ⟨x, y, hx, hy, -, -⟩ := cmp_v (Or.inl h)
  cases eu.symm.trans hy
  obtain ⟨-, q⟩ := elem_in hx ev e2 A.1
  have hk : x.isRef = true := by
    cases x <;> rcases ref_cases hv with rfl | ⟨z, rfl⟩ <;> simp [Jvm.Cond.value, hx, hy] at h ⊢ <;> rfl
  rw [q, gotT (eq_R hx hy hk hv) h]
theorem own_elemR (ev : t.eval args s none [] s = some (.ref a)) (A : Arr s s.heap a cl ty) {u : Term} (eu : u.eval args s none [] s = some (.ref b)) (h : (Jvm.Cond.eq (Term.elem t (Term.int k)) u).value args s none s [] = some true) : cl.slots[k.toNatClampNeg]? = some (.ref b) := own_elem ev A eu rfl h
theorem own_elemN (ev : t.eval args s none [] s = some (.ref a)) (A : Arr s s.heap a cl ty) (h : (Jvm.Cond.eq (Term.elem t (Term.int k)) .null).value args s none s [] = some true) : cl.slots[k.toNatClampNeg]? = some .null := own_elem ev A null_at rfl h
end OwnWords
section OwnMore
theorem own_privSel {s : State} {args : Array Value} {y z z' : MethodName} {C : String} (hs : (Jvm.Cond.selects C z' z).before args s = true) (e : z.cls = y.cls) (hpriv : s.PrivateAt y) (hinst : (Jvm.Cond.instanceMethod y).before args s = true) (hy : y.cls ≠ "java/lang/invoke/MethodHandle" ∧ y.cls ≠ "java/lang/invoke/VarHandle") : (Jvm.Cond.selects y.cls y y).before args s = true := by
  obtain ⟨c, r, m, -, -, h3, -, mk, h5, h6⟩ := Cond.selects_spec hs
  exact selects_self_of_private (e ▸ findClass_of_methodNamed h3) h5 h6 hpriv hinst hy
theorem own_nar_boolean {x : Int32} (h : nar .boolean x = x) : narrow .boolean (.int x) = .int x := congrArg Value.int h
theorem own_fits_boolean {x : Int32} (h : nar .boolean x = x) : fits .boolean (.int x) = true := h ▸ fits_nar_bool x
theorem own_nar_char {x : Int32} (h : nar .char x = x) : narrow .char (.int x) = .int x := congrArg Value.int h
theorem own_fits_char {x : Int32} (h : nar .char x = x) : fits .char (.int x) = true := h ▸ fits_nar_char x
theorem own_nar_ref {v : Value} {C : String} (h : v.isRef = true) : narrow (.object C) v = v := by rcases ref_cases h with rfl | ⟨a, rfl⟩ <;> rfl
theorem own_fits_ref {v : Value} {C : String} (h : v.isRef = true) : fits (.object C) v = true := by rcases ref_cases h with rfl | ⟨a, rfl⟩ <;> rfl
theorem own_c1 {v : Value} (h : v.isRef = true) : v.category = 1 := by rcases ref_cases h with rfl | ⟨a, rfl⟩ <;> rfl
theorem own_ext_of_keep {h h' : Heap} (K : Keep h h' []) : Ext h h' := ⟨K.1, fun a c q => K.2.1 a c q nin0⟩
theorem own_ext_refl (h : Heap) : Ext h h := ⟨Nat.le_refl _, fun _ _ q => q⟩
theorem own_ext_trans {h h' h'' : Heap} (E : Ext h h') (E' : Ext h' h'') : Ext h h'' := ⟨Nat.le_trans E.1 E'.1, fun a c q => E'.2 a c (E.2 a c q)⟩
end OwnMore
section OwnWide
variable {p : Program} {l : Launch} {e : Env} {R : Room} {s : State} {m : MethodId} {args : Array Value} {below : List Frame} {meth : Method} {c : Code} {T : State} {locs : List Loc} {cells slots : Nat} {Q : Option Value → Heap → List Loc → Prop} {kc ks : Nat} {vm1 : Vm} {n : Nat}
/-- own_Go, where String constants may have been interned meanwhile -/
def own_GoW (p : Program) (e : Env) (below : List Frame) (s : State) (Q : Option Value → Heap → List Loc → Prop) (kc ks : Nat) (S : State) : Prop :=
  ∃ s₂ o, Steps p.tables e below S s₂ ∧ s₂.status = .running ∧ Ended s₂ below o ∧ ∃ v L, o = .returned v ∧ Q v s₂.heap L ∧ ReturnedEndW s o s₂ L kc ks
theorem own_stW {A B : State} (f : ∀ t, Steps p.tables e below A t → Steps p.tables e below B t) (h : own_GoW p e below s Q kc ks A) : own_GoW p e below s Q kc ks B := by
  obtain ⟨s₂, o, h1, h2⟩ := h
  exact ⟨s₂, o, f _ h1, h2⟩
theorem own_retWN (X : Stand p l e R (s.setVm vm1) m args below meth c T locs cells slots) (hx : p.tables.exec = Jvm.exec) (hlk : meth.locks = false) (hS : s.Since vm1 n) (hn : n ≤ T.heap.size) {pc : Nat} {Ls : Array Slot} {z : Int32} {t : FieldType} {rest : List Value} (hret : meth.sig.returnType = some t) (ht : t = .boolean ∨ t = .byte ∨ t = .char ∨ t = .short)
    (hd : decode c.code pc = .ok (.ireturn, 1)) (hq : Q (some (.int (nar t z))) T.heap locs) (hc : cells ≤ kc) (hs : slots ≤ ks) : own_GoW p e below s Q kc ks (T.setTop (mkF m pc Ls (.int z :: rest))) := by
  obtain ⟨fs, hr, hrun, hended, h1, h2, h3, h4⟩ := X.leaveW hS hn (v := some (.int (nar t z))) (fun h => by rw [hret] at h; cases h) hlk
  exact ⟨_, _, retN X hx hret ht hd hr, hrun, hended, _, _, rfl, hq, h1, h2, h3, h4.mono hc hs⟩
theorem own_retWA (X : Stand p l e R (s.setVm vm1) m args below meth c T locs cells slots) (hx : p.tables.exec = Jvm.exec) (hlk : meth.locks = false) (hS : s.Since vm1 n) (hn : n ≤ T.heap.size) {pc : Nat} {Ls : Array Slot} {w : Value} {t : FieldType} {rest : List Value} (hret : meth.sig.returnType = some t) (ht : t.isReference = true) (hw : w.isRef = true)
    (hd : decode c.code pc = .ok (.areturn, 1)) (hq : Q (some w) T.heap locs) (hc : cells ≤ kc) (hs : slots ≤ ks) : own_GoW p e below s Q kc ks (T.setTop (mkF m pc Ls (w :: rest))) := by
  obtain ⟨fs, hr, hrun, hended, h1, h2, h3, h4⟩ := X.leaveW hS hn (v := some w) (fun h => by rw [hret] at h; cases h) hlk
  exact ⟨_, _, retOut X hx hret (by rcases ref_cases hw with rfl | ⟨a, rfl⟩ <;> cases t <;> first | rfl | cases ht) (Or.inr (Or.inr (Or.inr (Or.inr ⟨rfl, ht, hw⟩)))) hd hr, hrun, hended, _, _, rfl, hq, h1, h2, h3, h4.mono hc hs⟩
theorem own_retWV (X : Stand p l e R (s.setVm vm1) m args below meth c T locs cells slots) (hx : p.tables.exec = Jvm.exec) (hlk : meth.locks = false) (hS : s.Since vm1 n) (hn : n ≤ T.heap.size) {pc : Nat} {Ls : Array Slot} (hret : meth.sig.returnType = none)
    (hd : decode c.code pc = .ok (.return_, 1)) (hq : Q none T.heap locs) (hc : cells ≤ kc) (hs : slots ≤ ks) : own_GoW p e below s Q kc ks (T.setTop (mkF m pc Ls [])) := by
  obtain ⟨fs, hr, hrun, hended, h1, h2, h3, h4⟩ := X.leaveW hS hn (v := none) (fun _ => rfl) hlk
  exact ⟨_, _, X.returnOut hx hret hd hr, hrun, hended, _, _, rfl, hq, h1, h2, h3, h4.mono hc hs⟩
/-- what a wide call leaves, said of the true start -/
theorem own_wideZ {Z : State} {vm0 : Vm} {U : State} (hZ : Z.Warmed39 vm0) (hS : (s.setVm vm0).Since U.vm n) : Z.Warmed39 (s.setVm U.vm).vm := State.Warmed39.trans (t := s.setVm vm0) hZ hS.1
theorem own_wideO {vm0 : Vm} {U : State} {own : String} {cid : ClassId} (hown : (s.setVm vm0).vm.findClass own = some cid) (hS : (s.setVm vm0).Since U.vm n) : (s.setVm U.vm).vm.findClass own = some cid := by
  rw [show (s.setVm U.vm).vm = U.vm from rfl, hS.1.alike.findClass]; exact hown
theorem own_IB {Z : State} {vm : Vm} (hI : vm.interned = Z.vm.interned) : IB Z vm [] := ⟨#[], by rw [hI]; simp, fun q hq => by simp at hq⟩
/-- a wide callee that is called while nothing has been interned since the start -/
theorem own_backOfSI {Z : State} {a0 : Array Value} {h : Heap} {y : MethodName} {bytes : ByteArray} {maxL : Nat} {ret : Option FieldType} {rm : Room} {len W : Nat} {as' : Array Value}
    (hM : MetFree l y (head1 [Cond.code y bytes maxL ret] rm) (fun a U => a = as' ∧ Z.Warmed39 U.vm ∧ U.heap = h ∧ U.vm.interned = Z.vm.interned) (fun _ _ _ _ _ => True) (fun _ U o U' => ∃ v L, o = .returned v ∧ Q v U'.heap L ∧ ReturnedEndW U o U' L rm.cells rm.slots))
    (hZ : Z.Warmed39 s.vm) (wc : (Cond.code y bytes maxL ret).before a0 Z = true) (wz : (Cond.initialized y.cls).before a0 Z = true) (hf : rm.frames + 1 ≤ R.frames) (hl : W + (maxL + 11) + rm.locals ≤ R.locals) (hI : s.vm.interned = Z.vm.interned) :
    BackS l R p e below s args y len W (fun A a => a = as' ∧ A.U.heap = h ∧ A.cells + rm.cells ≤ R.cells ∧ A.slots + rm.slots ≤ R.slots)
      (fun A _ v B => ∃ L, Q v B.U.heap L ∧ B.locs = A.locs ++ L ∧ B.cells = A.cells + rm.cells ∧ B.slots = A.slots + rm.slots) := by
  refine BackS.of_freeW (bytes := bytes) (maxL := maxL) (ret := ret) (E := fun _ _ o t L k n => (∃ v, o = .returned v ∧ Q v t.heap L) ∧ k = rm.cells ∧ n = rm.slots) hM hf hl ?_ ?_ (fun _ _ _ _ _ _ _ _ _ => trivial) ?_ ?_
  · intro m meth c A a Y hp
    have hU : Z.Warmed39 A.U.vm := wtrans hZ Y.warmed
    refine ⟨?_, mv hU wc, mv hU wz, hp.2.2.1, hp.2.2.2⟩
    show (Cond.and _ .tt).before a A.U = true
    rw [Cond.before_and, mv hU wc]; rfl
  · intro m meth c A a g mk Y hp
    exact ⟨hp.1, wtrans hZ Y.warmed, hp.2.1, Y.warmed.interned_eq.trans hI⟩
  · rintro _ _ _ _ ⟨v, L, h1, h2, h3⟩
    exact ⟨L, _, _, h3, ⟨v, h1, h2⟩, rfl, rfl⟩
  · rintro m meth c A a g mk v t L k n Y hp _ _ ⟨⟨v', q, hq⟩, rfl, rfl⟩
    cases q
    exact ⟨L, hq, rfl, rfl, rfl⟩
end OwnWide

def QLaw (n0 : Nat) (v : Option Value) (h : Heap) (L : List Loc) : Prop := v = some (.int 1) ∧ Fr n0 L
def Ck (x : Int32) : Prop := nar .char x = x ∧ ¬ (255 : Int32) < x ∧ ¬ x < 0
def Str (Z : State) (h : Heap) (a b : Addr) (k : ClassId) (n : Int32) (vs : List Value) : Prop := Exa Z h a "java/lang/String" ∧ Fld Z h a "java/lang/String" "value" "[B" (.ref b) ∧ Fld Z h a "java/lang/String" "coder" "B" (.int 0) ∧ Arv Z h b k .byte n vs (.int 0)
theorem own_Str_ext {Z : State} {h h' : Heap} {a b : Addr} {k : ClassId} {n : Int32} {vs : List Value} (o : Str Z h a b k n vs) (E : Ext h h') : Str Z h' a b k n vs := ⟨o.1.ext E, o.2.1.ext E, o.2.2.1.ext E, o.2.2.2.ext E⟩
theorem own_Str_keep {Z : State} {h h' : Heap} {a b : Addr} {k : ClassId} {n : Int32} {vs : List Value} {ws : List Addr} (o : Str Z h a b k n vs) (K : Keep h h' ws) (n1 : a ∉ ws) (n2 : b ∉ ws) : Str Z h' a b k n vs := ⟨o.1.keep K, o.2.1.keep K n1, o.2.2.1.keep K n1, o.2.2.2.keep K n2⟩
def Q0 (h0 : Heap) (n0 : Nat) (v : Option Value) (h : Heap) (L : List Loc) : Prop := v = none ∧ Fr n0 L ∧ h = h0
def Qw (w : Value) (h0 : Heap) (n0 : Nat) (v : Option Value) (h : Heap) (L : List Loc) : Prop := v = some w ∧ Fr n0 L ∧ h = h0
def QC5 (Z : State) (d : Addr) (k : ClassId) (n : Int32) (vs : List Value) (h0 : Heap) (n0 : Nat) (v : Option Value) (h : Heap) (L : List Loc) : Prop := v = some (.int n) ∧ Fr n0 L ∧ Keep h0 h [d] ∧ Arv Z h d k .byte n vs (.int 0)
def QC3 (Z : State) (n : Int32) (vs : List Value) (h0 : Heap) (n0 : Nat) (v : Option Value) (h : Heap) (L : List Loc) : Prop := ∃ d k, v = some (.ref d) ∧ Fr n0 L ∧ Ext h0 h ∧ Arv Z h d k .byte n vs (.int 0) ∧ h0.size ≤ d
def QS (Z : State) (a : Addr) (n : Int32) (vs : List Value) (h0 : Heap) (n0 : Nat) (v : Option Value) (h : Heap) (L : List Loc) : Prop := ∃ d k, v = none ∧ Fr n0 L ∧ Keep h0 h [a] ∧ Str Z h a d k n vs ∧ h0.size ≤ d
def QN (Z : State) (n : Int32) (vs : List Value) (h0 : Heap) (n0 : Nat) (v : Option Value) (h : Heap) (L : List Loc) : Prop := ∃ a d k, v = some (.ref a) ∧ Fr n0 L ∧ Ext h0 h ∧ Str Z h a d k n vs ∧ h0.size ≤ a ∧ h0.size ≤ d
theorem own_b (x : Int32) : (((x).toInt8.toInt32)).toInt8.toInt32 = x.toInt8.toInt32 := by
  have a := c_i2b x
  have b := c_i2b x.toInt8.toInt32
  rw [← Int32.toInt_inj]
  omega
theorem own_b_inj {x y : Int32} (hx : Ck x) (hy : Ck y) (h : (((x).toInt8.toInt32)).toInt8.toInt32 = (((y).toInt8.toInt32)).toInt8.toInt32) : x = y := by
  rw [own_b, own_b] at h
  have a := c_i2b x
  have b := c_i2b y
  have r1 := rng32 x
  have r2 := rng32 y
  obtain ⟨-, x1, x2⟩ := hx
  obtain ⟨-, y1, y2⟩ := hy
  rw [Int32.lt_iff_toInt_lt] at x1 x2 y1 y2
  have e0 : (0 : Int32).toInt = 0 := by decide
  have e1 : (255 : Int32).toInt = 255 := by decide
  rw [← Int32.toInt_inj] at h ⊢
  omega
theorem own_Ck (a : Int32) : Ck ((a &&& (255 : Int32)).toUInt32.toUInt16.toUInt32.toInt32) := by
  rw [i2c_mask]
  have m := c_mask a 255 8 (by decide) (by decide)
  have r := rng32 a
  refine ⟨i2c_mask a, ?_, ?_⟩
  · rw [Int32.lt_iff_toInt_lt]; have e1 : (255 : Int32).toInt = 255 := by decide
    omega
  · rw [Int32.lt_iff_toInt_lt]; have e1 : (0 : Int32).toInt = 0 := by decide
    omega
theorem own_wS {Z : State} {a0 : Array Value} (hw : ∀ d ∈ tables_1, d.before a0 Z = true) : ∀ d ∈ Bundle.stringAtoms, d.before a0 Z = true := fun d hd => by
  simp only [Bundle.stringAtoms, List.mem_cons, List.not_mem_nil, or_false] at hd
  rcases hd with rfl | rfl | rfl | rfl | rfl | rfl | rfl
  · exact (hw _ (List.mem_of_getElem? (i := 4) rfl))
  · exact (hw _ (List.mem_of_getElem? (i := 3) rfl))
  · exact (hw _ (List.mem_of_getElem? (i := 0) rfl))
  · exact (hw _ (List.mem_of_getElem? (i := 16) rfl))
  · exact (hw _ (List.mem_of_getElem? (i := 17) rfl))
  · exact (hw _ (List.mem_of_getElem? (i := 18) rfl))
  · exact (hw _ (List.mem_of_getElem? (i := 19) rfl))
theorem d9_0 : decode jdk_52_method_21_code 0 = .ok (.iconst 0, 1) := by decide +kernel
theorem d9_1 : decode jdk_52_method_21_code 1 = .ok (.istore 5, 2) := by decide +kernel
theorem d9_3 : decode jdk_52_method_21_code 3 = .ok (.iload 5, 2) := by decide +kernel
theorem d9_5 : decode jdk_52_method_21_code 5 = .ok (.iload 4, 2) := by decide +kernel
theorem d9_7 : decode jdk_52_method_21_code 7 = .ok (.if_icmp .ge 37, 3) := by decide +kernel
theorem d9_10 : decode jdk_52_method_21_code 10 = .ok (.aload_n 0, 1) := by decide +kernel
theorem d9_11 : decode jdk_52_method_21_code 11 = .ok (.iload_n 1, 1) := by decide +kernel
theorem d9_12 : decode jdk_52_method_21_code 12 = .ok (.caload, 1) := by decide +kernel
theorem d9_13 : decode jdk_52_method_21_code 13 = .ok (.istore 6, 2) := by decide +kernel
theorem d9_15 : decode jdk_52_method_21_code 15 = .ok (.iload 6, 2) := by decide +kernel
theorem d9_17 : decode jdk_52_method_21_code 17 = .ok (.sipush 255, 3) := by decide +kernel
theorem d9_20 : decode jdk_52_method_21_code 20 = .ok (.if_icmp .le 6, 3) := by decide +kernel
theorem d9_26 : decode jdk_52_method_21_code 26 = .ok (.aload_n 2, 1) := by decide +kernel
theorem d9_27 : decode jdk_52_method_21_code 27 = .ok (.iload_n 3, 1) := by decide +kernel
theorem d9_28 : decode jdk_52_method_21_code 28 = .ok (.iload 6, 2) := by decide +kernel
theorem d9_30 : decode jdk_52_method_21_code 30 = .ok (.i2b, 1) := by decide +kernel
theorem d9_31 : decode jdk_52_method_21_code 31 = .ok (.bastore, 1) := by decide +kernel
theorem d9_32 : decode jdk_52_method_21_code 32 = .ok (.iinc 1 1, 3) := by decide +kernel
theorem d9_35 : decode jdk_52_method_21_code 35 = .ok (.iinc 3 1, 3) := by decide +kernel
theorem d9_38 : decode jdk_52_method_21_code 38 = .ok (.iinc 5 1, 3) := by decide +kernel
theorem d9_41 : decode jdk_52_method_21_code 41 = .ok (.goto (-38), 3) := by decide +kernel
theorem d9_44 : decode jdk_52_method_21_code 44 = .ok (.iload 4, 2) := by decide +kernel
theorem d9_46 : decode jdk_52_method_21_code 46 = .ok (.ireturn, 1) := by decide +kernel
theorem pn_java_2flang_2fStringUTF16 : plainName "java/lang/StringUTF16" = true := by first | (simp [plainName, overriddenIn]; done) | decide +kernel
theorem ef_rmC5_1 (mM : MethodId) (s' : Addr) (ks : ClassId) (d : Addr) (kd : ClassId) (x0 : Int32) : entryFrame mM #[(.ref s'), (.int (0 : Int32)), (.ref d), (.int (0 : Int32)), (.int (1 : Int32))] 7 = mkF mM 0 #[.val (.ref s'), .val (.int (0 : Int32)), .val (.ref d), .val (.int (0 : Int32)), .val (.int (1 : Int32)), .unset, .unset] [] := by first | (simp [entryFrame, mkF, argsToLocals, Value.category]; done) | rfl
set_option maxRecDepth 65536 in
set_option maxHeartbeats 40000000 in
theorem rmC5_1 (lL : Launch) (Z : State) (a0 : Array Value) (hw : ∀ d ∈ tables_1, d.before a0 Z = true) (ws : List Jvm.Cond) (s' : Addr) (ks : ClassId) (d : Addr) (kd : ClassId) (x0 : Int32) (h0 : Heap) (n0 : Nat) (A_s' : Arv Z h0 s' ks .char 1 [(.int x0)] (.int 0)) (A_d : Arv Z h0 d kd .byte 1 [(.int 0)] (.int 0)) (g_d : n0 ≤ d) (nsd : s' ≠ d) (cx0 : Ck x0) :
    MetFree lL (⟨"java/lang/StringUTF16", "compress", "([CI[BII)I"⟩ : MethodName) (head1 (Jvm.Cond.code (⟨"java/lang/StringUTF16", "compress", "([CI[BII)I"⟩ : MethodName) jdk_52_method_21_code 7 (some .int) :: ws) ({ frames := 0, cells := 0, slots := 0, locals := 0 } : Room)) (fun as_ uU_ => as_ = #[(.ref s'), (.int (0 : Int32)), (.ref d), (.int (0 : Int32)), (.int (1 : Int32))] ∧ Z.Warmed39 uU_.vm ∧ uU_.heap = h0) (fun _ _ _ _ _ => True) (fun _ uU_ oO_ uE_ => ∃ vV_ lL_, oO_ = .returned vV_ ∧ QC5 Z d kd 1 [(.int (((x0).toInt8.toInt32)).toInt8.toInt32)] h0 n0 vV_ uE_.heap lL_ ∧ FrameEnd uU_ oO_ uE_ lL_ ({ frames := 0, cells := 0, slots := 0, locals := 0 } : Room).cells ({ frames := 0, cells := 0, slots := 0, locals := 0 } : Room).slots) := by
  refine MetFree.of_bodySF (plainFor_of_name pn_java_2flang_2fStringUTF16) hisR ?_
  intro pP eE sS mM args below meth cC s₁ Bd hml0 hP hK
  obtain ⟨rfl, hZ, hh⟩ := hP
  have hx := Bd.exec
  have hby := Bd.bytes
  have hml : cC.maxLocals = 7 := hml0
  have hown : sS.vm.findClass "java/lang/StringUTF16" = some mM.cls := findClass_of_methodNamed Bd.named
  have hnm := (name_of_methodNamed Bd.named Bd.method).1
  have hret := Bd.returns
  have hlk := BodyLoose.notSynchronized Bd
  have X0 : Stand pP lL eE ({ frames := 0, cells := 0, slots := 0, locals := 0 } : Room) sS mM #[(.ref s'), (.int (0 : Int32)), (.ref d), (.int (0 : Int32)), (.int (1 : Int32))] below meth cC s₁ [] 0 0 := Stand.of_body Bd
  have e0 : s₁.heap = h0 := by rw [← hh, Bd.state]; rfl
  have N0 := Fr.nil n0
  show own_Go pP eE below sS (QC5 Z d kd 1 [(.int (((x0).toInt8.toInt32)).toInt8.toInt32)] h0 n0) 0 0 (s₁.setTop (entryFrame mM #[(.ref s'), (.int (0 : Int32)), (.ref d), (.int (0 : Int32)), (.int (1 : Int32))] 7))
  refine own_st (A := s₁.setTop (mkF mM 0 #[.val (.ref s'), .val (.int (0 : Int32)), .val (.ref d), .val (.int (0 : Int32)), .val (.int (1 : Int32)), .unset, .unset] [])) (fun tT_ kK_ => castTop (ef_rmC5_1 mM s' ks d kd x0) kK_) ?_
  have Kp := Keep.refl h0 [d]
  refine own_st (A := s₁.setTop (mkF mM 1 #[.val (.ref s'), .val (.int (0 : Int32)), .val (.ref d), .val (.int (0 : Int32)), .val (.int (1 : Int32)), .unset, .unset] [(.int (0 : Int32))])) (fun tT_ kK_ => XS.iconst X0.here hx rfl (hb hby d9_0) kK_) ?_
  refine own_st (A := s₁.setTop (mkF mM 3 #[.val (.ref s'), .val (.int (0 : Int32)), .val (.ref d), .val (.int (0 : Int32)), .val (.int (1 : Int32)), .val (.int (0 : Int32)), .unset] [])) (fun tT_ kK_ => XS.istore X0.here hx rfl (hb hby d9_1) rfl (l' := #[.val (.ref s'), .val (.int (0 : Int32)), .val (.ref d), .val (.int (0 : Int32)), .val (.int (1 : Int32)), .val (.int (0 : Int32)), .unset]) rfl kK_) ?_
  refine own_st (A := s₁.setTop (mkF mM 5 #[.val (.ref s'), .val (.int (0 : Int32)), .val (.ref d), .val (.int (0 : Int32)), .val (.int (1 : Int32)), .val (.int (0 : Int32)), .unset] [(.int (0 : Int32))])) (fun tT_ kK_ => XS.iload X0.here hx rfl (hb hby d9_3) rfl kK_) ?_
  refine own_st (A := s₁.setTop (mkF mM 7 #[.val (.ref s'), .val (.int (0 : Int32)), .val (.ref d), .val (.int (0 : Int32)), .val (.int (1 : Int32)), .val (.int (0 : Int32)), .unset] [(.int (1 : Int32)), (.int (0 : Int32))])) (fun tT_ kK_ => XS.iload X0.here hx rfl (hb hby d9_5) rfl kK_) ?_
  refine own_st (A := s₁.setTop (mkF mM 10 #[.val (.ref s'), .val (.int (0 : Int32)), .val (.ref d), .val (.int (0 : Int32)), .val (.int (1 : Int32)), .val (.int (0 : Int32)), .unset] [])) (fun tT_ kK_ => XS.icmpNo X0.here hx rfl (hb hby d9_7) rfl (tlt (by decide : ((0 : Int32) < (1 : Int32)))).2.1 kK_) ?_
  refine own_st (A := s₁.setTop (mkF mM 11 #[.val (.ref s'), .val (.int (0 : Int32)), .val (.ref d), .val (.int (0 : Int32)), .val (.int (1 : Int32)), .val (.int (0 : Int32)), .unset] [(.ref s')])) (fun tT_ kK_ => XS.aloadN X0.here hx rfl (hb hby d9_10) rfl rfl kK_) ?_
  refine own_st (A := s₁.setTop (mkF mM 12 #[.val (.ref s'), .val (.int (0 : Int32)), .val (.ref d), .val (.int (0 : Int32)), .val (.int (1 : Int32)), .val (.int (0 : Int32)), .unset] [(.int (0 : Int32)), (.ref s')])) (fun tT_ kK_ => XS.iloadN X0.here hx rfl (hb hby d9_11) rfl kK_) ?_
  obtain ⟨cl1, Ar1, q1, S1, Nn1, H1, G1⟩ := id A_s'
  have hin1 : ¬ ((0 : Int32) < 0 ∨ cl1.slots.size ≤ ((0 : Int32)).toNatClampNeg) := inb_of S1 ⟨by decide, by decide⟩
  refine own_st (A := s₁.setTop (mkF mM 13 #[.val (.ref s'), .val (.int (0 : Int32)), .val (.ref d), .val (.int (0 : Int32)), .val (.int (1 : Int32)), .val (.int (0 : Int32)), .unset] [(.int x0)])) (fun tT_ kK_ => X0.caload hx (j := (0 : Int32)) (v := (.int x0)) (by rw [e0]; exact Ar1.1) (State.isArrayOf_alike hZ.alike Ar1.2.1) Ar1.2.2 hin1 (H1.at hin1 rfl) (g := (mkF mM 12 #[.val (.ref s'), .val (.int (0 : Int32)), .val (.ref d), .val (.int (0 : Int32)), .val (.int (1 : Int32)), .val (.int (0 : Int32)), .unset] [(.int (0 : Int32)), (.ref s')])) rfl rfl (hb hby d9_12) tT_ kK_) ?_
  refine own_st (A := s₁.setTop (mkF mM 15 #[.val (.ref s'), .val (.int (0 : Int32)), .val (.ref d), .val (.int (0 : Int32)), .val (.int (1 : Int32)), .val (.int (0 : Int32)), .val (.int x0)] [])) (fun tT_ kK_ => XS.istore X0.here hx rfl (hb hby d9_13) rfl (l' := #[.val (.ref s'), .val (.int (0 : Int32)), .val (.ref d), .val (.int (0 : Int32)), .val (.int (1 : Int32)), .val (.int (0 : Int32)), .val (.int x0)]) rfl kK_) ?_
  refine own_st (A := s₁.setTop (mkF mM 17 #[.val (.ref s'), .val (.int (0 : Int32)), .val (.ref d), .val (.int (0 : Int32)), .val (.int (1 : Int32)), .val (.int (0 : Int32)), .val (.int x0)] [(.int x0)])) (fun tT_ kK_ => XS.iload X0.here hx rfl (hb hby d9_15) rfl kK_) ?_
  refine own_st (A := s₁.setTop (mkF mM 20 #[.val (.ref s'), .val (.int (0 : Int32)), .val (.ref d), .val (.int (0 : Int32)), .val (.int (1 : Int32)), .val (.int (0 : Int32)), .val (.int x0)] [(.int (255 : Int32)), (.int x0)])) (fun tT_ kK_ => XS.sipush X0.here hx rfl (hb hby d9_17) kK_) ?_
  refine own_st (A := s₁.setTop (mkF mM 26 #[.val (.ref s'), .val (.int (0 : Int32)), .val (.ref d), .val (.int (0 : Int32)), .val (.int (1 : Int32)), .val (.int (0 : Int32)), .val (.int x0)] [])) (fun tT_ kK_ => XS.icmpYes X0.here hx rfl (pc0 := 20) (pc' := 26) rfl (hb hby d9_20) rfl (flt cx0.2.1).2.2.2 (by decide) (by decide) kK_) ?_
  refine own_st (A := s₁.setTop (mkF mM 27 #[.val (.ref s'), .val (.int (0 : Int32)), .val (.ref d), .val (.int (0 : Int32)), .val (.int (1 : Int32)), .val (.int (0 : Int32)), .val (.int x0)] [(.ref d)])) (fun tT_ kK_ => XS.aloadN X0.here hx rfl (hb hby d9_26) rfl rfl kK_) ?_
  refine own_st (A := s₁.setTop (mkF mM 28 #[.val (.ref s'), .val (.int (0 : Int32)), .val (.ref d), .val (.int (0 : Int32)), .val (.int (1 : Int32)), .val (.int (0 : Int32)), .val (.int x0)] [(.int (0 : Int32)), (.ref d)])) (fun tT_ kK_ => XS.iloadN X0.here hx rfl (hb hby d9_27) rfl kK_) ?_
  refine own_st (A := s₁.setTop (mkF mM 30 #[.val (.ref s'), .val (.int (0 : Int32)), .val (.ref d), .val (.int (0 : Int32)), .val (.int (1 : Int32)), .val (.int (0 : Int32)), .val (.int x0)] [(.int x0), (.int (0 : Int32)), (.ref d)])) (fun tT_ kK_ => XS.iload X0.here hx rfl (hb hby d9_28) rfl kK_) ?_
  refine own_st (A := s₁.setTop (mkF mM 31 #[.val (.ref s'), .val (.int (0 : Int32)), .val (.ref d), .val (.int (0 : Int32)), .val (.int (1 : Int32)), .val (.int (0 : Int32)), .val (.int x0)] [(.int ((x0).toInt8.toInt32)), (.int (0 : Int32)), (.ref d)])) (fun tT_ kK_ => XS.i2b X0.here hx rfl (hb hby d9_30) rfl kK_) ?_
  obtain ⟨cl2, Ar2, q2, S2, Nn2, H2, G2⟩ := id A_d
  obtain ⟨T3, h3, X3, e3, W3, st3⟩ := stB X0 hx hZ e0 Ar2 (j := (0 : Int32)) (inb_of S2 ⟨by decide, by decide⟩) (g := (mkF mM 31 #[.val (.ref s'), .val (.int (0 : Int32)), .val (.ref d), .val (.int (0 : Int32)), .val (.int (1 : Int32)), .val (.int (0 : Int32)), .val (.int x0)] [(.int ((x0).toInt8.toInt32)), (.int (0 : Int32)), (.ref d)])) rfl rfl (hb hby d9_31)
  have N3 := Fr.snoc X3 N0 g_d
  have A_s' := A_s'.other W3 nsd
  have Kp := Kp.wr W3 (Or.inl (List.mem_of_getElem? (i := 0) rfl))
  have A_d : Arv Z h3 d kd .byte 1 [(.int (((x0).toInt8.toInt32)).toInt8.toInt32)] (.int (0 : Int32)) := Arv.set Ar2 q2 S2 Nn2 H2 G2 (fits_nar_byte _) W3 0 rfl (Nat.le_of_ble_eq_true rfl)
  refine own_st (A := T3.setTop (mkF mM 32 #[.val (.ref s'), .val (.int (0 : Int32)), .val (.ref d), .val (.int (0 : Int32)), .val (.int (1 : Int32)), .val (.int (0 : Int32)), .val (.int x0)] [])) (fun tT_ kK_ => st3 tT_ kK_) ?_
  refine own_st (A := T3.setTop (mkF mM 35 #[.val (.ref s'), .val (.int (1 : Int32)), .val (.ref d), .val (.int (0 : Int32)), .val (.int (1 : Int32)), .val (.int (0 : Int32)), .val (.int x0)] [])) (fun tT_ kK_ => XS.iinc X3.here hx rfl (hb hby d9_32) rfl (l' := #[.val (.ref s'), .val (.int (1 : Int32)), .val (.ref d), .val (.int (0 : Int32)), .val (.int (1 : Int32)), .val (.int (0 : Int32)), .val (.int x0)]) rfl kK_) ?_
  refine own_st (A := T3.setTop (mkF mM 38 #[.val (.ref s'), .val (.int (1 : Int32)), .val (.ref d), .val (.int (1 : Int32)), .val (.int (1 : Int32)), .val (.int (0 : Int32)), .val (.int x0)] [])) (fun tT_ kK_ => XS.iinc X3.here hx rfl (hb hby d9_35) rfl (l' := #[.val (.ref s'), .val (.int (1 : Int32)), .val (.ref d), .val (.int (1 : Int32)), .val (.int (1 : Int32)), .val (.int (0 : Int32)), .val (.int x0)]) rfl kK_) ?_
  refine own_st (A := T3.setTop (mkF mM 41 #[.val (.ref s'), .val (.int (1 : Int32)), .val (.ref d), .val (.int (1 : Int32)), .val (.int (1 : Int32)), .val (.int (1 : Int32)), .val (.int x0)] [])) (fun tT_ kK_ => XS.iinc X3.here hx rfl (hb hby d9_38) rfl (l' := #[.val (.ref s'), .val (.int (1 : Int32)), .val (.ref d), .val (.int (1 : Int32)), .val (.int (1 : Int32)), .val (.int (1 : Int32)), .val (.int x0)]) rfl kK_) ?_
  refine own_st (A := T3.setTop (mkF mM 3 #[.val (.ref s'), .val (.int (1 : Int32)), .val (.ref d), .val (.int (1 : Int32)), .val (.int (1 : Int32)), .val (.int (1 : Int32)), .val (.int x0)] [])) (fun tT_ kK_ => XS.goto X3.here hx rfl (pc0 := 41) (pc' := 3) rfl (hb hby d9_41) (by decide) (by decide) kK_) ?_
  refine own_st (A := T3.setTop (mkF mM 5 #[.val (.ref s'), .val (.int (1 : Int32)), .val (.ref d), .val (.int (1 : Int32)), .val (.int (1 : Int32)), .val (.int (1 : Int32)), .val (.int x0)] [(.int (1 : Int32))])) (fun tT_ kK_ => XS.iload X3.here hx rfl (hb hby d9_3) rfl kK_) ?_
  refine own_st (A := T3.setTop (mkF mM 7 #[.val (.ref s'), .val (.int (1 : Int32)), .val (.ref d), .val (.int (1 : Int32)), .val (.int (1 : Int32)), .val (.int (1 : Int32)), .val (.int x0)] [(.int (1 : Int32)), (.int (1 : Int32))])) (fun tT_ kK_ => XS.iload X3.here hx rfl (hb hby d9_5) rfl kK_) ?_
  refine own_st (A := T3.setTop (mkF mM 44 #[.val (.ref s'), .val (.int (1 : Int32)), .val (.ref d), .val (.int (1 : Int32)), .val (.int (1 : Int32)), .val (.int (1 : Int32)), .val (.int x0)] [])) (fun tT_ kK_ => XS.icmpYes X3.here hx rfl (pc0 := 7) (pc' := 44) rfl (hb hby d9_7) rfl (flt (by decide : ¬ ((1 : Int32) < (1 : Int32)))).2.1 (by decide) (by decide) kK_) ?_
  refine own_st (A := T3.setTop (mkF mM 46 #[.val (.ref s'), .val (.int (1 : Int32)), .val (.ref d), .val (.int (1 : Int32)), .val (.int (1 : Int32)), .val (.int (1 : Int32)), .val (.int x0)] [(.int (1 : Int32))])) (fun tT_ kK_ => XS.iload X3.here hx rfl (hb hby d9_44) rfl kK_) ?_
  exact own_retI X3 hx hlk hret (hb hby d9_46) (by rw [e3]; exact ⟨rfl, N3, Kp, A_d⟩) (by decide) (by decide)
theorem d8_0 : decode jdk_52_method_16_code 0 = .ok (.iload_n 2, 1) := by decide +kernel
theorem d8_1 : decode jdk_52_method_16_code 1 = .ok (.newarray .byte, 2) := by decide +kernel
theorem d8_3 : decode jdk_52_method_16_code 3 = .ok (.astore_n 3, 1) := by decide +kernel
theorem d8_4 : decode jdk_52_method_16_code 4 = .ok (.aload_n 0, 1) := by decide +kernel
theorem d8_5 : decode jdk_52_method_16_code 5 = .ok (.iload_n 1, 1) := by decide +kernel
theorem d8_6 : decode jdk_52_method_16_code 6 = .ok (.aload_n 3, 1) := by decide +kernel
theorem d8_7 : decode jdk_52_method_16_code 7 = .ok (.iconst 0, 1) := by decide +kernel
theorem d8_8 : decode jdk_52_method_16_code 8 = .ok (.iload_n 2, 1) := by decide +kernel
theorem d8_9 : decode jdk_52_method_16_code 9 = .ok (.invokestatic 115, 3) := by decide +kernel
theorem pd__28_5bCI_5bBII_29I : parseMethodDescriptor "([CI[BII)I" = some ⟨[(.array .char), .int, (.array .byte), .int, .int], some .int⟩ := by decide +kernel
theorem d8_12 : decode jdk_52_method_16_code 12 = .ok (.istore 4, 2) := by decide +kernel
theorem d8_14 : decode jdk_52_method_16_code 14 = .ok (.iload 4, 2) := by decide +kernel
theorem d8_16 : decode jdk_52_method_16_code 16 = .ok (.iload_n 2, 1) := by decide +kernel
theorem d8_17 : decode jdk_52_method_16_code 17 = .ok (.if_icmp .eq 40, 3) := by decide +kernel
theorem d8_57 : decode jdk_52_method_16_code 57 = .ok (.aload_n 3, 1) := by decide +kernel
theorem d8_58 : decode jdk_52_method_16_code 58 = .ok (.areturn, 1) := by decide +kernel
theorem ef_rmC3_1 (mM : MethodId) (s' : Addr) (ks : ClassId) (x0 : Int32) : entryFrame mM #[(.ref s'), (.int (0 : Int32)), (.int (1 : Int32))] 6 = mkF mM 0 #[.val (.ref s'), .val (.int (0 : Int32)), .val (.int (1 : Int32)), .unset, .unset, .unset] [] := by first | (simp [entryFrame, mkF, argsToLocals, Value.category]; done) | rfl
set_option maxRecDepth 65536 in
set_option maxHeartbeats 40000000 in
theorem rmC3_1 (lL : Launch) (Z : State) (a0 : Array Value) (hw : ∀ d ∈ tables_1, d.before a0 Z = true) (ws : List Jvm.Cond) (s' : Addr) (ks : ClassId) (x0 : Int32) (h0 : Heap) (n0 : Nat) (Zn : n0 ≤ h0.size) (A_s' : Arv Z h0 s' ks .char 1 [(.int x0)] (.int 0)) (cx0 : Ck x0) :
    MetFree lL (⟨"java/lang/StringUTF16", "compress", "([CII)[B"⟩ : MethodName) (head1 (Jvm.Cond.code (⟨"java/lang/StringUTF16", "compress", "([CII)[B"⟩ : MethodName) jdk_52_method_16_code 6 (some (.array .byte)) :: ws) ({ frames := 1, cells := 1, slots := 1, locals := 18 } : Room)) (fun as_ uU_ => as_ = #[(.ref s'), (.int (0 : Int32)), (.int (1 : Int32))] ∧ Z.Warmed39 uU_.vm ∧ uU_.heap = h0) (fun _ _ _ _ _ => True) (fun _ uU_ oO_ uE_ => ∃ vV_ lL_, oO_ = .returned vV_ ∧ QC3 Z 1 [(.int (((x0).toInt8.toInt32)).toInt8.toInt32)] h0 n0 vV_ uE_.heap lL_ ∧ FrameEnd uU_ oO_ uE_ lL_ ({ frames := 1, cells := 1, slots := 1, locals := 18 } : Room).cells ({ frames := 1, cells := 1, slots := 1, locals := 18 } : Room).slots) := by
  refine MetFree.of_bodySF (plainFor_of_name pn_java_2flang_2fStringUTF16) hisR ?_
  intro pP eE sS mM args below meth cC s₁ Bd hml0 hP hK
  obtain ⟨rfl, hZ, hh⟩ := hP
  have hx := Bd.exec
  have hby := Bd.bytes
  have hml : cC.maxLocals = 6 := hml0
  have hown : sS.vm.findClass "java/lang/StringUTF16" = some mM.cls := findClass_of_methodNamed Bd.named
  have hnm := (name_of_methodNamed Bd.named Bd.method).1
  have hret := Bd.returns
  have hlk := BodyLoose.notSynchronized Bd
  have X0 : Stand pP lL eE ({ frames := 1, cells := 1, slots := 1, locals := 18 } : Room) sS mM #[(.ref s'), (.int (0 : Int32)), (.int (1 : Int32))] below meth cC s₁ [] 0 0 := Stand.of_body Bd
  have e0 : s₁.heap = h0 := by rw [← hh, Bd.state]; rfl
  have N0 := Fr.nil n0
  show own_Go pP eE below sS (QC3 Z 1 [(.int (((x0).toInt8.toInt32)).toInt8.toInt32)] h0 n0) 1 1 (s₁.setTop (entryFrame mM #[(.ref s'), (.int (0 : Int32)), (.int (1 : Int32))] 6))
  refine own_st (A := s₁.setTop (mkF mM 0 #[.val (.ref s'), .val (.int (0 : Int32)), .val (.int (1 : Int32)), .unset, .unset, .unset] [])) (fun tT_ kK_ => castTop (ef_rmC3_1 mM s' ks x0) kK_) ?_
  have Kp := Keep.refl h0 []
  refine own_st (A := s₁.setTop (mkF mM 1 #[.val (.ref s'), .val (.int (0 : Int32)), .val (.int (1 : Int32)), .unset, .unset, .unset] [(.int (1 : Int32))])) (fun tT_ kK_ => XS.iloadN X0.here hx rfl (hb hby d8_0) rfl kK_) ?_
  obtain ⟨T4, h4, k4, X4, e4, E4, A4, st4⟩ := newP X0 hx hZ (hw _ (List.mem_of_getElem? (i := 0) rfl)) e0 (g := (mkF mM 1 #[.val (.ref s'), .val (.int (0 : Int32)), .val (.int (1 : Int32)), .unset, .unset, .unset] [(.int (1 : Int32))])) rfl (hb hby d8_1) rfl (by decide) (cap := 1) (by decide) (by decide) (by decide) (by decide)
  obtain ⟨b4, g4⟩ : ∃ z, z = h0.size := ⟨_, rfl⟩
  rw [← g4] at A4 st4
  have ne_s'_b4 : s' ≠ b4 := Nat.ne_of_lt (Nat.lt_of_lt_of_le A_s'.lt (Nat.le_of_eq g4.symm))
  have g_b4 : n0 ≤ b4 := Nat.le_trans Zn (Nat.le_of_eq g4.symm)
  have b_b4 : h0.size ≤ b4 := Nat.le_trans Kp.1 (Nat.le_of_eq g4.symm)
  have A_s' := A_s'.ext E4
  have Zn := Nat.le_trans Zn E4.1
  have Kp := Kp.ext E4
  have A_b4 : Arv Z h4 b4 k4 .byte 1 [(.int (0 : Int32))] (.int (0 : Int32)) := (Arv.new A4 (by decide)).pad (pad_rep [] (.int (0 : Int32)) 1)
  refine own_st (A := T4.setTop (mkF mM 3 #[.val (.ref s'), .val (.int (0 : Int32)), .val (.int (1 : Int32)), .unset, .unset, .unset] [(.ref b4)])) (fun tT_ kK_ => st4 tT_ kK_) ?_
  refine own_st (A := T4.setTop (mkF mM 4 #[.val (.ref s'), .val (.int (0 : Int32)), .val (.int (1 : Int32)), .val (.ref b4), .unset, .unset] [])) (fun tT_ kK_ => XS.astoreN X4.here hx rfl (hb hby d8_3) rfl rfl (l' := #[.val (.ref s'), .val (.int (0 : Int32)), .val (.int (1 : Int32)), .val (.ref b4), .unset, .unset]) rfl kK_) ?_
  refine own_st (A := T4.setTop (mkF mM 5 #[.val (.ref s'), .val (.int (0 : Int32)), .val (.int (1 : Int32)), .val (.ref b4), .unset, .unset] [(.ref s')])) (fun tT_ kK_ => XS.aloadN X4.here hx rfl (hb hby d8_4) rfl rfl kK_) ?_
  refine own_st (A := T4.setTop (mkF mM 6 #[.val (.ref s'), .val (.int (0 : Int32)), .val (.int (1 : Int32)), .val (.ref b4), .unset, .unset] [(.int (0 : Int32)), (.ref s')])) (fun tT_ kK_ => XS.iloadN X4.here hx rfl (hb hby d8_5) rfl kK_) ?_
  refine own_st (A := T4.setTop (mkF mM 7 #[.val (.ref s'), .val (.int (0 : Int32)), .val (.int (1 : Int32)), .val (.ref b4), .unset, .unset] [(.ref b4), (.int (0 : Int32)), (.ref s')])) (fun tT_ kK_ => XS.aloadN X4.here hx rfl (hb hby d8_6) rfl rfl kK_) ?_
  refine own_st (A := T4.setTop (mkF mM 8 #[.val (.ref s'), .val (.int (0 : Int32)), .val (.int (1 : Int32)), .val (.ref b4), .unset, .unset] [(.int (0 : Int32)), (.ref b4), (.int (0 : Int32)), (.ref s')])) (fun tT_ kK_ => XS.iconst X4.here hx rfl (hb hby d8_7) kK_) ?_
  refine own_st (A := T4.setTop (mkF mM 9 #[.val (.ref s'), .val (.int (0 : Int32)), .val (.int (1 : Int32)), .val (.ref b4), .unset, .unset] [(.int (1 : Int32)), (.int (0 : Int32)), (.ref b4), (.int (0 : Int32)), (.ref s')])) (fun tT_ kK_ => XS.iloadN X4.here hx rfl (hb hby d8_8) rfl kK_) ?_
  obtain ⟨_, _, ⟨T5, L5, k5, n5⟩, -, X5, ⟨Lc5, hQ5, l5, y5, z5⟩, st5⟩ := Jvm.LawKit.callS X4 hx (y := (⟨"java/lang/StringUTF16", "compress", "([CI[BII)I"⟩ : MethodName)) hown (mvT hZ (hw _ (List.mem_of_getElem? (i := 56) rfl))) (mvT hZ (hw _ (List.mem_of_getElem? (i := 57) rfl))) (mvT hZ (hw _ (List.mem_of_getElem? (i := 54) rfl))) (mvT hZ (hw _ (List.mem_of_getElem? (i := 58) rfl))) (by decide) (backOf (W := 0) (rmC5_1 lL Z a0 hw [] s' ks b4 k4 x0 h4 n0 A_s' A_b4 g_b4 ne_s'_b4 cx0) hZ (hw _ (List.mem_of_getElem? (i := 58) rfl)) (hw _ (List.mem_of_getElem? (i := 54) rfl)) (by decide) (by decide)) (g := (mkF mM 9 #[.val (.ref s'), .val (.int (0 : Int32)), .val (.int (1 : Int32)), .val (.ref b4), .unset, .unset] [(.int (1 : Int32)), (.int (0 : Int32)), (.ref b4), (.int (0 : Int32)), (.ref s')])) rfl (by rw [hml]; rfl) (argsL := [(.ref s'), (.int (0 : Int32)), (.ref b4), (.int (0 : Int32)), (.int (1 : Int32))]) (rest := []) (lenOf pd__28_5bCI_5bBII_29I rfl) rfl (by show 2 * 0 + _ ≤ _; exact Nat.le_of_eq rfl) (hb hby d8_9) (fun _ _ => ⟨rfl, e4, (by decide : 1 + 0 ≤ _), (by decide : 1 + 0 ≤ _)⟩)
  dsimp only [Pt.U, Pt.locs, Pt.cells, Pt.slots] at X5 l5 y5 z5 st5 hQ5
  subst l5 y5 z5
  obtain ⟨rfl, N5q, K5, V5⟩ := hQ5
  have N5 := Fr.app N0 N5q
  have e5 : T5.heap = T5.heap := rfl
  refine own_st (A := T5.setTop (mkF mM 12 #[.val (.ref s'), .val (.int (0 : Int32)), .val (.int (1 : Int32)), .val (.ref b4), .unset, .unset] [(.int (1 : Int32))])) (fun tT_ kK_ => st5 tT_ kK_) ?_
  have A_s' := A_s'.keep K5 (ninS ne_s'_b4 nin0)
  have Zn := Nat.le_trans Zn K5.1
  have Kp := Kp.trans K5 (allS (Or.inr b_b4) all0)
  have A_b4 := V5
  refine own_st (A := T5.setTop (mkF mM 14 #[.val (.ref s'), .val (.int (0 : Int32)), .val (.int (1 : Int32)), .val (.ref b4), .val (.int (1 : Int32)), .unset] [])) (fun tT_ kK_ => XS.istore X5.here hx rfl (hb hby d8_12) rfl (l' := #[.val (.ref s'), .val (.int (0 : Int32)), .val (.int (1 : Int32)), .val (.ref b4), .val (.int (1 : Int32)), .unset]) rfl kK_) ?_
  refine own_st (A := T5.setTop (mkF mM 16 #[.val (.ref s'), .val (.int (0 : Int32)), .val (.int (1 : Int32)), .val (.ref b4), .val (.int (1 : Int32)), .unset] [(.int (1 : Int32))])) (fun tT_ kK_ => XS.iload X5.here hx rfl (hb hby d8_14) rfl kK_) ?_
  refine own_st (A := T5.setTop (mkF mM 17 #[.val (.ref s'), .val (.int (0 : Int32)), .val (.int (1 : Int32)), .val (.ref b4), .val (.int (1 : Int32)), .unset] [(.int (1 : Int32)), (.int (1 : Int32))])) (fun tT_ kK_ => XS.iloadN X5.here hx rfl (hb hby d8_16) rfl kK_) ?_
  refine own_st (A := T5.setTop (mkF mM 57 #[.val (.ref s'), .val (.int (0 : Int32)), .val (.int (1 : Int32)), .val (.ref b4), .val (.int (1 : Int32)), .unset] [])) (fun tT_ kK_ => XS.icmpYes X5.here hx rfl (pc0 := 17) (pc' := 57) rfl (hb hby d8_17) rfl (teq (by decide : ((1 : Int32) = (1 : Int32)))).1 (by decide) (by decide) kK_) ?_
  refine own_st (A := T5.setTop (mkF mM 58 #[.val (.ref s'), .val (.int (0 : Int32)), .val (.int (1 : Int32)), .val (.ref b4), .val (.int (1 : Int32)), .unset] [(.ref b4)])) (fun tT_ kK_ => XS.aloadN X5.here hx rfl (hb hby d8_57) rfl rfl kK_) ?_
  exact own_retA X5 hx hlk hret rfl rfl (hb hby d8_58) (by rw [e5]; exact ⟨_, _, rfl, N5, own_ext_of_keep Kp, A_b4, b_b4⟩) (by decide) (by decide)
theorem d10_0 : decode jdk_52_method_15_code 0 = .ok (.iload_n 1, 1) := by decide +kernel
theorem d10_1 : decode jdk_52_method_15_code 1 = .ok (.aload_n 0, 1) := by decide +kernel
theorem d10_2 : decode jdk_52_method_15_code 2 = .ok (.arraylength, 1) := by decide +kernel
theorem d10_3 : decode jdk_52_method_15_code 3 = .ok (.isub, 1) := by decide +kernel
theorem d10_4 : decode jdk_52_method_15_code 4 = .ok (.bipush 31, 2) := by decide +kernel
theorem d10_6 : decode jdk_52_method_15_code 6 = .ok (.iushr, 1) := by decide +kernel
theorem d10_7 : decode jdk_52_method_15_code 7 = .ok (.i2b, 1) := by decide +kernel
theorem d10_8 : decode jdk_52_method_15_code 8 = .ok (.ireturn, 1) := by decide +kernel
theorem ef_rmCo_1 (mM : MethodId) (d : Addr) (kd : ClassId) (x0 : Int32) : entryFrame mM #[(.ref d), (.int (1 : Int32))] 2 = mkF mM 0 #[.val (.ref d), .val (.int (1 : Int32))] [] := by first | (simp [entryFrame, mkF, argsToLocals, Value.category]; done) | rfl
set_option maxRecDepth 65536 in
set_option maxHeartbeats 40000000 in
theorem rmCo_1 (lL : Launch) (Z : State) (a0 : Array Value) (hw : ∀ d ∈ tables_1, d.before a0 Z = true) (ws : List Jvm.Cond) (d : Addr) (kd : ClassId) (x0 : Int32) (h0 : Heap) (n0 : Nat) (A_d : Arv Z h0 d kd .byte 1 [(.int (((x0).toInt8.toInt32)).toInt8.toInt32)] (.int 0)) :
    MetFree lL (⟨"java/lang/StringUTF16", "coderFromArrayLen", "([BI)B"⟩ : MethodName) (head1 (Jvm.Cond.code (⟨"java/lang/StringUTF16", "coderFromArrayLen", "([BI)B"⟩ : MethodName) jdk_52_method_15_code 2 (some .byte) :: ws) ({ frames := 0, cells := 0, slots := 0, locals := 0 } : Room)) (fun as_ uU_ => as_ = #[(.ref d), (.int (1 : Int32))] ∧ Z.Warmed39 uU_.vm ∧ uU_.heap = h0) (fun _ _ _ _ _ => True) (fun _ uU_ oO_ uE_ => ∃ vV_ lL_, oO_ = .returned vV_ ∧ Qw (.int 0) h0 n0 vV_ uE_.heap lL_ ∧ FrameEnd uU_ oO_ uE_ lL_ ({ frames := 0, cells := 0, slots := 0, locals := 0 } : Room).cells ({ frames := 0, cells := 0, slots := 0, locals := 0 } : Room).slots) := by
  refine MetFree.of_bodySF (plainFor_of_name pn_java_2flang_2fStringUTF16) hisR ?_
  intro pP eE sS mM args below meth cC s₁ Bd hml0 hP hK
  obtain ⟨rfl, hZ, hh⟩ := hP
  have hx := Bd.exec
  have hby := Bd.bytes
  have hml : cC.maxLocals = 2 := hml0
  have hown : sS.vm.findClass "java/lang/StringUTF16" = some mM.cls := findClass_of_methodNamed Bd.named
  have hnm := (name_of_methodNamed Bd.named Bd.method).1
  have hret := Bd.returns
  have hlk := BodyLoose.notSynchronized Bd
  have X0 : Stand pP lL eE ({ frames := 0, cells := 0, slots := 0, locals := 0 } : Room) sS mM #[(.ref d), (.int (1 : Int32))] below meth cC s₁ [] 0 0 := Stand.of_body Bd
  have e0 : s₁.heap = h0 := by rw [← hh, Bd.state]; rfl
  have N0 := Fr.nil n0
  show own_Go pP eE below sS (Qw (.int 0) h0 n0) 0 0 (s₁.setTop (entryFrame mM #[(.ref d), (.int (1 : Int32))] 2))
  refine own_st (A := s₁.setTop (mkF mM 0 #[.val (.ref d), .val (.int (1 : Int32))] [])) (fun tT_ kK_ => castTop (ef_rmCo_1 mM d kd x0) kK_) ?_
  refine own_st (A := s₁.setTop (mkF mM 1 #[.val (.ref d), .val (.int (1 : Int32))] [(.int (1 : Int32))])) (fun tT_ kK_ => XS.iloadN X0.here hx rfl (hb hby d10_0) rfl kK_) ?_
  refine own_st (A := s₁.setTop (mkF mM 2 #[.val (.ref d), .val (.int (1 : Int32))] [(.ref d), (.int (1 : Int32))])) (fun tT_ kK_ => XS.aloadN X0.here hx rfl (hb hby d10_1) rfl rfl kK_) ?_
  obtain ⟨cl6, Ar6, q6, S6, Nn6, H6, G6⟩ := id A_d
  refine own_st (A := s₁.setTop (mkF mM 3 #[.val (.ref d), .val (.int (1 : Int32))] [(.int (1 : Int32)), (.int (1 : Int32))])) (fun tT_ kK_ => X0.arraylength hx (by rw [e0]; exact Ar6.1) (State.isArrayOf_alike hZ.alike Ar6.2.1) (g := (mkF mM 2 #[.val (.ref d), .val (.int (1 : Int32))] [(.ref d), (.int (1 : Int32))])) rfl rfl (hb hby d10_2) tT_ (by rw [len_of S6 Nn6]; exact kK_)) ?_
  refine own_st (A := s₁.setTop (mkF mM 4 #[.val (.ref d), .val (.int (1 : Int32))] [(.int (0 : Int32))])) (fun tT_ kK_ => XS.isub X0.here hx rfl (hb hby d10_3) rfl kK_) ?_
  refine own_st (A := s₁.setTop (mkF mM 6 #[.val (.ref d), .val (.int (1 : Int32))] [(.int (31 : Int32)), (.int (0 : Int32))])) (fun tT_ kK_ => XS.bipush X0.here hx rfl (hb hby d10_4) kK_) ?_
  refine own_st (A := s₁.setTop (mkF mM 7 #[.val (.ref d), .val (.int (1 : Int32))] [(.int (((0 : Int32).toUInt32 >>> ((31 : Int32) &&& 31).toUInt32).toInt32))])) (fun tT_ kK_ => XS.iushr X0.here hx rfl (hb hby d10_6) rfl kK_) ?_
  refine own_st (A := s₁.setTop (mkF mM 8 #[.val (.ref d), .val (.int (1 : Int32))] [(.int (((((0 : Int32).toUInt32 >>> ((31 : Int32) &&& 31).toUInt32).toInt32)).toInt8.toInt32))])) (fun tT_ kK_ => XS.i2b X0.here hx rfl (hb hby d10_7) rfl kK_) ?_
  exact own_retN X0 hx hlk (t := .byte) hret (by simp) (hb hby d10_8) (show Qw _ _ _ (some (.int (0 : Int32))) _ _ from ⟨rfl, N0, e0⟩) (by decide) (by decide)
theorem d2_0 : decode jdk_42_method_149_code 0 = .ok (.aload_n 0, 1) := by decide +kernel
theorem d2_1 : decode jdk_42_method_149_code 1 = .ok (.invokespecial 1, 3) := by decide +kernel
theorem d2_4 : decode jdk_42_method_149_code 4 = .ok (.iload_n 3, 1) := by decide +kernel
theorem d2_5 : decode jdk_42_method_149_code 5 = .ok (.ifCond .ne 22, 3) := by decide +kernel
theorem d2_27 : decode jdk_42_method_149_code 27 = .ok (.getstatic 38, 3) := by decide +kernel
theorem d2_30 : decode jdk_42_method_149_code 30 = .ok (.ifCond .eq 28, 3) := by decide +kernel
theorem d2_33 : decode jdk_42_method_149_code 33 = .ok (.aload_n 1, 1) := by decide +kernel
theorem d2_34 : decode jdk_42_method_149_code 34 = .ok (.iload_n 2, 1) := by decide +kernel
theorem d2_35 : decode jdk_42_method_149_code 35 = .ok (.iload_n 3, 1) := by decide +kernel
theorem d2_36 : decode jdk_42_method_149_code 36 = .ok (.invokestatic 177, 3) := by decide +kernel
theorem pd__28_5bCII_29_5bB : parseMethodDescriptor "([CII)[B" = some ⟨[(.array .char), .int, .int], some (.array .byte)⟩ := by decide +kernel
theorem d2_39 : decode jdk_42_method_149_code 39 = .ok (.astore 5, 2) := by decide +kernel
theorem d2_41 : decode jdk_42_method_149_code 41 = .ok (.aload_n 0, 1) := by decide +kernel
theorem d2_42 : decode jdk_42_method_149_code 42 = .ok (.aload 5, 2) := by decide +kernel
theorem d2_44 : decode jdk_42_method_149_code 44 = .ok (.iload_n 3, 1) := by decide +kernel
theorem d2_45 : decode jdk_42_method_149_code 45 = .ok (.invokestatic 47, 3) := by decide +kernel
theorem pd__28_5bBI_29B : parseMethodDescriptor "([BI)B" = some ⟨[(.array .byte), .int], some .byte⟩ := by decide +kernel
theorem d2_48 : decode jdk_42_method_149_code 48 = .ok (.putfield 15, 3) := by decide +kernel
theorem d2_51 : decode jdk_42_method_149_code 51 = .ok (.aload_n 0, 1) := by decide +kernel
theorem d2_52 : decode jdk_42_method_149_code 52 = .ok (.aload 5, 2) := by decide +kernel
theorem d2_54 : decode jdk_42_method_149_code 54 = .ok (.putfield 9, 3) := by decide +kernel
theorem d2_57 : decode jdk_42_method_149_code 57 = .ok (.return_, 1) := by decide +kernel
theorem pn_java_2flang_2fString : plainName "java/lang/String" = true := by first | (simp [plainName, overriddenIn]; done) | decide +kernel
theorem ef_rmS4_1 (mM : MethodId) (a : Addr) (s' : Addr) (ks : ClassId) (cs : Int32) (x0 : Int32) : entryFrame mM #[(.ref a), (.ref s'), (.int (0 : Int32)), (.int (1 : Int32)), .null] 6 = mkF mM 0 #[.val (.ref a), .val (.ref s'), .val (.int (0 : Int32)), .val (.int (1 : Int32)), .val .null, .unset] [] := by first | (simp [entryFrame, mkF, argsToLocals, Value.category]; done) | rfl
set_option maxRecDepth 65536 in
set_option maxHeartbeats 40000000 in
theorem rmS4_1 (lL : Launch) (Z : State) (a0 : Array Value) (hw : ∀ d ∈ tables_1, d.before a0 Z = true) (ws : List Jvm.Cond) (a : Addr) (s' : Addr) (ks : ClassId) (cs : Int32) (x0 : Int32) (h0 : Heap) (n0 : Nat) (g_a : n0 ≤ a) (E_a : Exa Z h0 a "java/lang/String") (F_a_value : Fld Z h0 a "java/lang/String" "value" "[B" .null) (F_a_coder : Fld Z h0 a "java/lang/String" "coder" "B" (.int (0 : Int32))) (A_s' : Arv Z h0 s' ks .char 1 [(.int x0)] (.int 0)) (nsa : s' ≠ a) (O : Old Z n0 h0) (Zn : n0 ≤ h0.size) (S_cs : Sta Z Z.heap "java/lang/String" "COMPACT_STRINGS" "Z" (.int cs)) (hcs : ¬ cs = (0 : Int32)) (cx0 : Ck x0) :
    MetFree lL (⟨"java/lang/String", "<init>", "([CIILjava/lang/Void;)V"⟩ : MethodName) (head1 (Jvm.Cond.code (⟨"java/lang/String", "<init>", "([CIILjava/lang/Void;)V"⟩ : MethodName) jdk_42_method_149_code 6 none :: ws) ({ frames := 2, cells := 1, slots := 1, locals := 35 } : Room)) (fun as_ uU_ => as_ = #[(.ref a), (.ref s'), (.int (0 : Int32)), (.int (1 : Int32)), .null] ∧ Z.Warmed39 uU_.vm ∧ uU_.heap = h0) (fun _ _ _ _ _ => True) (fun _ uU_ oO_ uE_ => ∃ vV_ lL_, oO_ = .returned vV_ ∧ QS Z a 1 [(.int (((x0).toInt8.toInt32)).toInt8.toInt32)] h0 n0 vV_ uE_.heap lL_ ∧ FrameEnd uU_ oO_ uE_ lL_ ({ frames := 2, cells := 1, slots := 1, locals := 35 } : Room).cells ({ frames := 2, cells := 1, slots := 1, locals := 35 } : Room).slots) := by
  refine MetFree.of_bodySF (plainFor_of_name pn_java_2flang_2fString) hisR ?_
  intro pP eE sS mM args below meth cC s₁ Bd hml0 hP hK
  obtain ⟨rfl, hZ, hh⟩ := hP
  have hx := Bd.exec
  have hby := Bd.bytes
  have hml : cC.maxLocals = 6 := hml0
  have hown : sS.vm.findClass "java/lang/String" = some mM.cls := findClass_of_methodNamed Bd.named
  have hnm := (name_of_methodNamed Bd.named Bd.method).1
  have hret := Bd.returns
  have hlk := BodyLoose.notSynchronized Bd
  have X0 : Stand pP lL eE ({ frames := 2, cells := 1, slots := 1, locals := 35 } : Room) sS mM #[(.ref a), (.ref s'), (.int (0 : Int32)), (.int (1 : Int32)), .null] below meth cC s₁ [] 0 0 := Stand.of_body Bd
  have e0 : s₁.heap = h0 := by rw [← hh, Bd.state]; rfl
  have N0 := Fr.nil n0
  show own_Go pP eE below sS (QS Z a 1 [(.int (((x0).toInt8.toInt32)).toInt8.toInt32)] h0 n0) 1 1 (s₁.setTop (entryFrame mM #[(.ref a), (.ref s'), (.int (0 : Int32)), (.int (1 : Int32)), .null] 6))
  refine own_st (A := s₁.setTop (mkF mM 0 #[.val (.ref a), .val (.ref s'), .val (.int (0 : Int32)), .val (.int (1 : Int32)), .val .null, .unset] [])) (fun tT_ kK_ => castTop (ef_rmS4_1 mM a s' ks cs x0) kK_) ?_
  have Kp := Keep.refl h0 [a]
  refine own_st (A := s₁.setTop (mkF mM 1 #[.val (.ref a), .val (.ref s'), .val (.int (0 : Int32)), .val (.int (1 : Int32)), .val .null, .unset] [(.ref a)])) (fun tT_ kK_ => XS.aloadN X0.here hx rfl (hb hby d2_0) rfl rfl kK_) ?_
  obtain ⟨T7, X7, e7, st7⟩ := initO X0 hx hZ hown (hw _ (List.mem_of_getElem? (i := 12) rfl)) (hw _ (List.mem_of_getElem? (i := 13) rfl)) (hw _ (List.mem_of_getElem? (i := 14) rfl)) e0 (g := (mkF mM 1 #[.val (.ref a), .val (.ref s'), .val (.int (0 : Int32)), .val (.int (1 : Int32)), .val .null, .unset] [(.ref a)])) rfl (by rw [hml]; rfl) rfl (hb hby d2_1) (by decide) (W := 0) (by show 2 * 0 + _ ≤ _; exact Nat.le_of_eq rfl) (by decide)
  refine own_st (A := T7.setTop (mkF mM 4 #[.val (.ref a), .val (.ref s'), .val (.int (0 : Int32)), .val (.int (1 : Int32)), .val .null, .unset] [])) (fun tT_ kK_ => st7 tT_ kK_) ?_
  refine own_st (A := T7.setTop (mkF mM 5 #[.val (.ref a), .val (.ref s'), .val (.int (0 : Int32)), .val (.int (1 : Int32)), .val .null, .unset] [(.int (1 : Int32))])) (fun tT_ kK_ => XS.iloadN X7.here hx rfl (hb hby d2_4) rfl kK_) ?_
  refine own_st (A := T7.setTop (mkF mM 27 #[.val (.ref a), .val (.ref s'), .val (.int (0 : Int32)), .val (.int (1 : Int32)), .val .null, .unset] [])) (fun tT_ kK_ => XS.ifYes X7.here hx rfl (pc0 := 5) (pc' := 27) rfl (hb hby d2_5) rfl ((if0 _ _).trans (feq (by decide : ¬ ((1 : Int32) = (0 : Int32)))).2) (by decide) (by decide) kK_) ?_
  obtain ⟨T8, X8, e8, st8⟩ := getS2 X7 hx hZ hown (host := "") (Or.inl (hw _ (List.mem_of_getElem? (i := 51) rfl))) Via.refl e7 (S_cs.ext O.2) (g := (mkF mM 27 #[.val (.ref a), .val (.ref s'), .val (.int (0 : Int32)), .val (.int (1 : Int32)), .val .null, .unset] [])) rfl (hb hby d2_27)
  refine own_st (A := T8.setTop (mkF mM 30 #[.val (.ref a), .val (.ref s'), .val (.int (0 : Int32)), .val (.int (1 : Int32)), .val .null, .unset] [(.int cs)])) (fun tT_ kK_ => st8 tT_ kK_) ?_
  refine own_st (A := T8.setTop (mkF mM 33 #[.val (.ref a), .val (.ref s'), .val (.int (0 : Int32)), .val (.int (1 : Int32)), .val .null, .unset] [])) (fun tT_ kK_ => XS.ifNo X8.here hx rfl (hb hby d2_30) rfl ((if0 _ _).trans (feq hcs).1) kK_) ?_
  refine own_st (A := T8.setTop (mkF mM 34 #[.val (.ref a), .val (.ref s'), .val (.int (0 : Int32)), .val (.int (1 : Int32)), .val .null, .unset] [(.ref s')])) (fun tT_ kK_ => XS.aloadN X8.here hx rfl (hb hby d2_33) rfl rfl kK_) ?_
  refine own_st (A := T8.setTop (mkF mM 35 #[.val (.ref a), .val (.ref s'), .val (.int (0 : Int32)), .val (.int (1 : Int32)), .val .null, .unset] [(.int (0 : Int32)), (.ref s')])) (fun tT_ kK_ => XS.iloadN X8.here hx rfl (hb hby d2_34) rfl kK_) ?_
  refine own_st (A := T8.setTop (mkF mM 36 #[.val (.ref a), .val (.ref s'), .val (.int (0 : Int32)), .val (.int (1 : Int32)), .val .null, .unset] [(.int (1 : Int32)), (.int (0 : Int32)), (.ref s')])) (fun tT_ kK_ => XS.iloadN X8.here hx rfl (hb hby d2_35) rfl kK_) ?_
  obtain ⟨_, _, ⟨T9, L9, k9, n9⟩, -, X9, ⟨Lc9, hQ9, l9, y9, z9⟩, st9⟩ := Jvm.LawKit.callS X8 hx (y := (⟨"java/lang/StringUTF16", "compress", "([CII)[B"⟩ : MethodName)) hown (mvT hZ (hw _ (List.mem_of_getElem? (i := 52) rfl))) (mvT hZ (hw _ (List.mem_of_getElem? (i := 53) rfl))) (mvT hZ (hw _ (List.mem_of_getElem? (i := 54) rfl))) (mvT hZ (hw _ (List.mem_of_getElem? (i := 55) rfl))) (by decide) (backOf (W := 0) (rmC3_1 lL Z a0 hw [] s' ks x0 h0 n0 Zn A_s' cx0) hZ (hw _ (List.mem_of_getElem? (i := 55) rfl)) (hw _ (List.mem_of_getElem? (i := 54) rfl)) (by decide) (by decide)) (g := (mkF mM 36 #[.val (.ref a), .val (.ref s'), .val (.int (0 : Int32)), .val (.int (1 : Int32)), .val .null, .unset] [(.int (1 : Int32)), (.int (0 : Int32)), (.ref s')])) rfl (by rw [hml]; rfl) (argsL := [(.ref s'), (.int (0 : Int32)), (.int (1 : Int32))]) (rest := []) (lenOf pd__28_5bCII_29_5bB rfl) rfl (by show 2 * 0 + _ ≤ _; exact Nat.le_of_eq rfl) (hb hby d2_36) (fun _ _ => ⟨rfl, e8, (by decide : 0 + 1 ≤ _), (by decide : 0 + 1 ≤ _)⟩)
  dsimp only [Pt.U, Pt.locs, Pt.cells, Pt.slots] at X9 l9 y9 z9 st9 hQ9
  subst l9 y9 z9
  obtain ⟨b9, k9', rfl, N9q, E9, V9, ge9⟩ := hQ9
  have N9 := Fr.app N0 N9q
  have e9 : T9.heap = T9.heap := rfl
  refine own_st (A := T9.setTop (mkF mM 39 #[.val (.ref a), .val (.ref s'), .val (.int (0 : Int32)), .val (.int (1 : Int32)), .val .null, .unset] [(.ref b9)])) (fun tT_ kK_ => st9 tT_ kK_) ?_
  have ne_a_b9 : a ≠ b9 := Nat.ne_of_lt (Nat.lt_of_lt_of_le E_a.lt ge9)
  have b_b9 : h0.size ≤ b9 := Nat.le_trans Kp.1 ge9
  have F_a_value := F_a_value.ext E9
  have F_a_coder := F_a_coder.ext E9
  have E_a := E_a.ext E9
  have O := O.ext E9
  have A_s' := A_s'.ext E9
  have Zn := Nat.le_trans Zn E9.1
  have Kp := Kp.ext E9
  have A_b9 := V9
  refine own_st (A := T9.setTop (mkF mM 41 #[.val (.ref a), .val (.ref s'), .val (.int (0 : Int32)), .val (.int (1 : Int32)), .val .null, .val (.ref b9)] [])) (fun tT_ kK_ => XS.astore X9.here hx rfl (hb hby d2_39) rfl rfl (l' := #[.val (.ref a), .val (.ref s'), .val (.int (0 : Int32)), .val (.int (1 : Int32)), .val .null, .val (.ref b9)]) rfl kK_) ?_
  refine own_st (A := T9.setTop (mkF mM 42 #[.val (.ref a), .val (.ref s'), .val (.int (0 : Int32)), .val (.int (1 : Int32)), .val .null, .val (.ref b9)] [(.ref a)])) (fun tT_ kK_ => XS.aloadN X9.here hx rfl (hb hby d2_41) rfl rfl kK_) ?_
  refine own_st (A := T9.setTop (mkF mM 44 #[.val (.ref a), .val (.ref s'), .val (.int (0 : Int32)), .val (.int (1 : Int32)), .val .null, .val (.ref b9)] [(.ref b9), (.ref a)])) (fun tT_ kK_ => XS.aload X9.here hx rfl (hb hby d2_42) rfl rfl kK_) ?_
  refine own_st (A := T9.setTop (mkF mM 45 #[.val (.ref a), .val (.ref s'), .val (.int (0 : Int32)), .val (.int (1 : Int32)), .val .null, .val (.ref b9)] [(.int (1 : Int32)), (.ref b9), (.ref a)])) (fun tT_ kK_ => XS.iloadN X9.here hx rfl (hb hby d2_44) rfl kK_) ?_
  obtain ⟨_, _, ⟨T10, L10, k10, n10⟩, -, X10, ⟨Lc10, hQ10, l10, y10, z10⟩, st10⟩ := Jvm.LawKit.callS X9 hx (y := (⟨"java/lang/StringUTF16", "coderFromArrayLen", "([BI)B"⟩ : MethodName)) hown (mvT hZ (hw _ (List.mem_of_getElem? (i := 59) rfl))) (mvT hZ (hw _ (List.mem_of_getElem? (i := 60) rfl))) (mvT hZ (hw _ (List.mem_of_getElem? (i := 54) rfl))) (mvT hZ (hw _ (List.mem_of_getElem? (i := 61) rfl))) (by decide) (backOf (W := 1) (rmCo_1 lL Z a0 hw [] b9 k9' x0 T9.heap n0 A_b9) hZ (hw _ (List.mem_of_getElem? (i := 61) rfl)) (hw _ (List.mem_of_getElem? (i := 54) rfl)) (by decide) (by decide)) (g := (mkF mM 45 #[.val (.ref a), .val (.ref s'), .val (.int (0 : Int32)), .val (.int (1 : Int32)), .val .null, .val (.ref b9)] [(.int (1 : Int32)), (.ref b9), (.ref a)])) rfl (by rw [hml]; rfl) (argsL := [(.ref b9), (.int (1 : Int32))]) (rest := [(.ref a)]) (lenOf pd__28_5bBI_29B rfl) rfl (by show 2 * 0 + _ ≤ _; exact Nat.le_of_eq rfl) (hb hby d2_45) (fun _ _ => ⟨rfl, e9, (by decide : 1 + 0 ≤ _), (by decide : 1 + 0 ≤ _)⟩)
  dsimp only [Pt.U, Pt.locs, Pt.cells, Pt.slots] at X10 l10 y10 z10 st10 hQ10
  subst l10 y10 z10
  obtain ⟨rfl, N10q, e10⟩ := hQ10
  have N10 := Fr.app N9 N10q
  refine own_st (A := T10.setTop (mkF mM 48 #[.val (.ref a), .val (.ref s'), .val (.int (0 : Int32)), .val (.int (1 : Int32)), .val .null, .val (.ref b9)] [(.int (0 : Int32)), (.ref a)])) (fun tT_ kK_ => st10 tT_ kK_) ?_
  obtain ⟨T11, h11, X11, e11, W11, st11⟩ := putFN X10 hx hZ hown (hw _ (List.mem_of_getElem? (i := 21) rfl)) Via.refl e10 F_a_coder E_a (Or.inr ⟨(hw _ (List.mem_of_getElem? (i := 17) rfl)), rfl, hnm⟩) (hw _ (List.mem_of_getElem? (i := 3) rfl)) (ty := .byte) (v' := (.int (0 : Int32))) (by decide) rfl (by decide) (g := (mkF mM 48 #[.val (.ref a), .val (.ref s'), .val (.int (0 : Int32)), .val (.int (1 : Int32)), .val .null, .val (.ref b9)] [(.int (0 : Int32)), (.ref a)])) rfl rfl (hb hby d2_48)
  have N11 := Fr.snoc X11 N10 g_a
  have F_a_value := F_a_value.other W11 (Or.inr (slot_ne (Or.inr (hw _ (List.mem_of_getElem? (i := 16) rfl))) (Or.inr (hw _ (List.mem_of_getElem? (i := 17) rfl))) (by decide) (t := (.array .byte)) (t' := .byte) (by decide) (by decide)))
  have F_a_coder := F_a_coder.same W11
  have E_a := E_a.wr W11
  have A_s' := A_s'.other W11 nsa
  have A_b9 := A_b9.other W11 (Ne.symm ne_a_b9)
  have O := O.wr W11 g_a
  have Zn := Nat.le_trans Zn (Keep.of_wr W11).1
  have Kp := Kp.wr W11 (Or.inl (List.mem_of_getElem? (i := 0) rfl))
  refine own_st (A := T11.setTop (mkF mM 51 #[.val (.ref a), .val (.ref s'), .val (.int (0 : Int32)), .val (.int (1 : Int32)), .val .null, .val (.ref b9)] [])) (fun tT_ kK_ => st11 tT_ kK_) ?_
  refine own_st (A := T11.setTop (mkF mM 52 #[.val (.ref a), .val (.ref s'), .val (.int (0 : Int32)), .val (.int (1 : Int32)), .val .null, .val (.ref b9)] [(.ref a)])) (fun tT_ kK_ => XS.aloadN X11.here hx rfl (hb hby d2_51) rfl rfl kK_) ?_
  refine own_st (A := T11.setTop (mkF mM 54 #[.val (.ref a), .val (.ref s'), .val (.int (0 : Int32)), .val (.int (1 : Int32)), .val .null, .val (.ref b9)] [(.ref b9), (.ref a)])) (fun tT_ kK_ => XS.aload X11.here hx rfl (hb hby d2_52) rfl rfl kK_) ?_
  obtain ⟨T12, h12, X12, e12, W12, st12⟩ := putF X11 hx hZ hown (host := "") (Or.inl (hw _ (List.mem_of_getElem? (i := 20) rfl))) Via.refl e11 F_a_value E_a (Or.inr ⟨(hw _ (List.mem_of_getElem? (i := 16) rfl)), rfl, hnm⟩) (hw _ (List.mem_of_getElem? (i := 3) rfl)) (ty := (.array .byte)) (by decide) rfl rfl (g := (mkF mM 54 #[.val (.ref a), .val (.ref s'), .val (.int (0 : Int32)), .val (.int (1 : Int32)), .val .null, .val (.ref b9)] [(.ref b9), (.ref a)])) rfl rfl (hb hby d2_54)
  have N12 := Fr.snoc X12 N11 g_a
  have F_a_value := F_a_value.same W12
  have F_a_coder := F_a_coder.other W12 (Or.inr (slot_ne (Or.inr (hw _ (List.mem_of_getElem? (i := 17) rfl))) (Or.inr (hw _ (List.mem_of_getElem? (i := 16) rfl))) (by decide) (t := .byte) (t' := (.array .byte)) (by decide) (by decide)))
  have E_a := E_a.wr W12
  have A_s' := A_s'.other W12 nsa
  have A_b9 := A_b9.other W12 (Ne.symm ne_a_b9)
  have O := O.wr W12 g_a
  have Zn := Nat.le_trans Zn (Keep.of_wr W12).1
  have Kp := Kp.wr W12 (Or.inl (List.mem_of_getElem? (i := 0) rfl))
  refine own_st (A := T12.setTop (mkF mM 57 #[.val (.ref a), .val (.ref s'), .val (.int (0 : Int32)), .val (.int (1 : Int32)), .val .null, .val (.ref b9)] [])) (fun tT_ kK_ => st12 tT_ kK_) ?_
  exact own_retV X12 hx hlk hret (hb hby d2_57) (by rw [e12]; exact ⟨_, _, rfl, N12, Kp, ⟨E_a, F_a_value, F_a_coder, A_b9⟩, b_b9⟩) (by decide) (by decide)
theorem d1_0 : decode jdk_42_method_3_code 0 = .ok (.aload_n 0, 1) := by decide +kernel
theorem d1_1 : decode jdk_42_method_3_code 1 = .ok (.aload_n 1, 1) := by decide +kernel
theorem d1_2 : decode jdk_42_method_3_code 2 = .ok (.iconst 0, 1) := by decide +kernel
theorem d1_3 : decode jdk_42_method_3_code 3 = .ok (.aload_n 1, 1) := by decide +kernel
theorem d1_4 : decode jdk_42_method_3_code 4 = .ok (.arraylength, 1) := by decide +kernel
theorem d1_5 : decode jdk_42_method_3_code 5 = .ok (.aconst_null, 1) := by decide +kernel
theorem d1_6 : decode jdk_42_method_3_code 6 = .ok (.invokespecial 27, 3) := by decide +kernel
theorem pd__28_5bCIILjava_2flang_2fVoid_3b_29V : parseMethodDescriptor "([CIILjava/lang/Void;)V" = some ⟨[(.array .char), .int, .int, (.object "java/lang/Void")], none⟩ := by decide +kernel
theorem d1_9 : decode jdk_42_method_3_code 9 = .ok (.return_, 1) := by decide +kernel
theorem ef_rmS1_1 (mM : MethodId) (a : Addr) (s' : Addr) (ks : ClassId) (cs : Int32) (x0 : Int32) : entryFrame mM #[(.ref a), (.ref s')] 2 = mkF mM 0 #[.val (.ref a), .val (.ref s')] [] := by first | (simp [entryFrame, mkF, argsToLocals, Value.category]; done) | rfl
set_option maxRecDepth 65536 in
set_option maxHeartbeats 40000000 in
theorem rmS1_1 (lL : Launch) (Z : State) (a0 : Array Value) (hw : ∀ d ∈ tables_1, d.before a0 Z = true) (ws : List Jvm.Cond) (a : Addr) (s' : Addr) (ks : ClassId) (cs : Int32) (x0 : Int32) (h0 : Heap) (n0 : Nat) (g_a : n0 ≤ a) (E_a : Exa Z h0 a "java/lang/String") (F_a_value : Fld Z h0 a "java/lang/String" "value" "[B" .null) (F_a_coder : Fld Z h0 a "java/lang/String" "coder" "B" (.int (0 : Int32))) (A_s' : Arv Z h0 s' ks .char 1 [(.int x0)] (.int 0)) (nsa : s' ≠ a) (O : Old Z n0 h0) (Zn : n0 ≤ h0.size) (S_cs : Sta Z Z.heap "java/lang/String" "COMPACT_STRINGS" "Z" (.int cs)) (hcs : ¬ cs = (0 : Int32)) (cx0 : Ck x0) :
    MetFree lL (⟨"java/lang/String", "<init>", "([C)V"⟩ : MethodName) (head1 (Jvm.Cond.code (⟨"java/lang/String", "<init>", "([C)V"⟩ : MethodName) jdk_42_method_3_code 2 none :: ws) ({ frames := 3, cells := 1, slots := 1, locals := 52 } : Room)) (fun as_ uU_ => as_ = #[(.ref a), (.ref s')] ∧ Z.Warmed39 uU_.vm ∧ uU_.heap = h0) (fun _ _ _ _ _ => True) (fun _ uU_ oO_ uE_ => ∃ vV_ lL_, oO_ = .returned vV_ ∧ QS Z a 1 [(.int (((x0).toInt8.toInt32)).toInt8.toInt32)] h0 n0 vV_ uE_.heap lL_ ∧ FrameEnd uU_ oO_ uE_ lL_ ({ frames := 3, cells := 1, slots := 1, locals := 52 } : Room).cells ({ frames := 3, cells := 1, slots := 1, locals := 52 } : Room).slots) := by
  refine MetFree.of_bodySF (plainFor_of_name pn_java_2flang_2fString) hisR ?_
  intro pP eE sS mM args below meth cC s₁ Bd hml0 hP hK
  obtain ⟨rfl, hZ, hh⟩ := hP
  have hx := Bd.exec
  have hby := Bd.bytes
  have hml : cC.maxLocals = 2 := hml0
  have hown : sS.vm.findClass "java/lang/String" = some mM.cls := findClass_of_methodNamed Bd.named
  have hnm := (name_of_methodNamed Bd.named Bd.method).1
  have hret := Bd.returns
  have hlk := BodyLoose.notSynchronized Bd
  have X0 : Stand pP lL eE ({ frames := 3, cells := 1, slots := 1, locals := 52 } : Room) sS mM #[(.ref a), (.ref s')] below meth cC s₁ [] 0 0 := Stand.of_body Bd
  have e0 : s₁.heap = h0 := by rw [← hh, Bd.state]; rfl
  have N0 := Fr.nil n0
  show own_Go pP eE below sS (QS Z a 1 [(.int (((x0).toInt8.toInt32)).toInt8.toInt32)] h0 n0) 1 1 (s₁.setTop (entryFrame mM #[(.ref a), (.ref s')] 2))
  refine own_st (A := s₁.setTop (mkF mM 0 #[.val (.ref a), .val (.ref s')] [])) (fun tT_ kK_ => castTop (ef_rmS1_1 mM a s' ks cs x0) kK_) ?_
  refine own_st (A := s₁.setTop (mkF mM 1 #[.val (.ref a), .val (.ref s')] [(.ref a)])) (fun tT_ kK_ => XS.aloadN X0.here hx rfl (hb hby d1_0) rfl rfl kK_) ?_
  refine own_st (A := s₁.setTop (mkF mM 2 #[.val (.ref a), .val (.ref s')] [(.ref s'), (.ref a)])) (fun tT_ kK_ => XS.aloadN X0.here hx rfl (hb hby d1_1) rfl rfl kK_) ?_
  refine own_st (A := s₁.setTop (mkF mM 3 #[.val (.ref a), .val (.ref s')] [(.int (0 : Int32)), (.ref s'), (.ref a)])) (fun tT_ kK_ => XS.iconst X0.here hx rfl (hb hby d1_2) kK_) ?_
  refine own_st (A := s₁.setTop (mkF mM 4 #[.val (.ref a), .val (.ref s')] [(.ref s'), (.int (0 : Int32)), (.ref s'), (.ref a)])) (fun tT_ kK_ => XS.aloadN X0.here hx rfl (hb hby d1_3) rfl rfl kK_) ?_
  obtain ⟨cl13, Ar13, q13, S13, Nn13, H13, G13⟩ := id A_s'
  refine own_st (A := s₁.setTop (mkF mM 5 #[.val (.ref a), .val (.ref s')] [(.int (1 : Int32)), (.int (0 : Int32)), (.ref s'), (.ref a)])) (fun tT_ kK_ => X0.arraylength hx (by rw [e0]; exact Ar13.1) (State.isArrayOf_alike hZ.alike Ar13.2.1) (g := (mkF mM 4 #[.val (.ref a), .val (.ref s')] [(.ref s'), (.int (0 : Int32)), (.ref s'), (.ref a)])) rfl rfl (hb hby d1_4) tT_ (by rw [len_of S13 Nn13]; exact kK_)) ?_
  refine own_st (A := s₁.setTop (mkF mM 6 #[.val (.ref a), .val (.ref s')] [.null, (.int (1 : Int32)), (.int (0 : Int32)), (.ref s'), (.ref a)])) (fun tT_ kK_ => XS.aconstNull X0.here hx rfl (hb hby d1_5) kK_) ?_
  obtain ⟨_, _, ⟨T14, L14, k14, n14⟩, -, X14, ⟨Lc14, hQ14, l14, y14, z14⟩, st14⟩ := X0.specialBack hx (y := (⟨"java/lang/String", "<init>", "([CIILjava/lang/Void;)V"⟩ : MethodName)) rfl hown (mvT hZ (hw _ (List.mem_of_getElem? (i := 8) rfl))) (mvT hZ (hw _ (List.mem_of_getElem? (i := 9) rfl))) (mvT hZ (hw _ (List.mem_of_getElem? (i := 11) rfl))) (by decide) (backOf (W := 0) (rmS4_1 lL Z a0 hw [] a s' ks cs x0 h0 n0 g_a E_a F_a_value F_a_coder A_s' nsa O Zn S_cs hcs cx0) hZ (hw _ (List.mem_of_getElem? (i := 11) rfl)) (hw _ (List.mem_of_getElem? (i := 4) rfl)) (by decide) (by decide)) (g := (mkF mM 6 #[.val (.ref a), .val (.ref s')] [.null, (.int (1 : Int32)), (.int (0 : Int32)), (.ref s'), (.ref a)])) rfl (by rw [hml]; rfl) (Steps.refl _) (a := a) (argsL := [(.ref s'), (.int (0 : Int32)), (.int (1 : Int32)), .null]) (rest := []) (lenOf pd__28_5bCIILjava_2flang_2fVoid_3b_29V rfl) rfl (by show 2 * 0 + _ ≤ _; exact Nat.le_of_eq rfl) (hb hby d1_6) (fun _ _ => ⟨rfl, e0, (by decide : 0 + 1 ≤ _), (by decide : 0 + 1 ≤ _)⟩)
  dsimp only [Pt.U, Pt.locs, Pt.cells, Pt.slots] at X14 l14 y14 z14 st14 hQ14
  subst l14 y14 z14
  obtain ⟨d14, k14', rfl, N14q, R14⟩ := hQ14
  have N14 := Fr.app N0 N14q
  have e14 : T14.heap = T14.heap := rfl
  refine own_st (A := T14.setTop (mkF mM 9 #[.val (.ref a), .val (.ref s')] [])) (fun tT_ kK_ => st14.trans kK_) ?_
  exact own_retV X14 hx hlk hret (hb hby d1_9) ⟨_, _, rfl, N14, R14⟩ (by decide) (by decide)
theorem ef_rmC5_2 (mM : MethodId) (s' : Addr) (ks : ClassId) (d : Addr) (kd : ClassId) (x0 : Int32) (x1 : Int32) : entryFrame mM #[(.ref s'), (.int (0 : Int32)), (.ref d), (.int (0 : Int32)), (.int (2 : Int32))] 7 = mkF mM 0 #[.val (.ref s'), .val (.int (0 : Int32)), .val (.ref d), .val (.int (0 : Int32)), .val (.int (2 : Int32)), .unset, .unset] [] := by first | (simp [entryFrame, mkF, argsToLocals, Value.category]; done) | rfl
set_option maxRecDepth 65536 in
set_option maxHeartbeats 40000000 in
theorem rmC5_2 (lL : Launch) (Z : State) (a0 : Array Value) (hw : ∀ d ∈ tables_1, d.before a0 Z = true) (ws : List Jvm.Cond) (s' : Addr) (ks : ClassId) (d : Addr) (kd : ClassId) (x0 : Int32) (x1 : Int32) (h0 : Heap) (n0 : Nat) (A_s' : Arv Z h0 s' ks .char 2 [(.int x0), (.int x1)] (.int 0)) (A_d : Arv Z h0 d kd .byte 2 [(.int 0), (.int 0)] (.int 0)) (g_d : n0 ≤ d) (nsd : s' ≠ d) (cx0 : Ck x0) (cx1 : Ck x1) :
    MetFree lL (⟨"java/lang/StringUTF16", "compress", "([CI[BII)I"⟩ : MethodName) (head1 (Jvm.Cond.code (⟨"java/lang/StringUTF16", "compress", "([CI[BII)I"⟩ : MethodName) jdk_52_method_21_code 7 (some .int) :: ws) ({ frames := 0, cells := 0, slots := 0, locals := 0 } : Room)) (fun as_ uU_ => as_ = #[(.ref s'), (.int (0 : Int32)), (.ref d), (.int (0 : Int32)), (.int (2 : Int32))] ∧ Z.Warmed39 uU_.vm ∧ uU_.heap = h0) (fun _ _ _ _ _ => True) (fun _ uU_ oO_ uE_ => ∃ vV_ lL_, oO_ = .returned vV_ ∧ QC5 Z d kd 2 [(.int (((x0).toInt8.toInt32)).toInt8.toInt32), (.int (((x1).toInt8.toInt32)).toInt8.toInt32)] h0 n0 vV_ uE_.heap lL_ ∧ FrameEnd uU_ oO_ uE_ lL_ ({ frames := 0, cells := 0, slots := 0, locals := 0 } : Room).cells ({ frames := 0, cells := 0, slots := 0, locals := 0 } : Room).slots) := by
  refine MetFree.of_bodySF (plainFor_of_name pn_java_2flang_2fStringUTF16) hisR ?_
  intro pP eE sS mM args below meth cC s₁ Bd hml0 hP hK
  obtain ⟨rfl, hZ, hh⟩ := hP
  have hx := Bd.exec
  have hby := Bd.bytes
  have hml : cC.maxLocals = 7 := hml0
  have hown : sS.vm.findClass "java/lang/StringUTF16" = some mM.cls := findClass_of_methodNamed Bd.named
  have hnm := (name_of_methodNamed Bd.named Bd.method).1
  have hret := Bd.returns
  have hlk := BodyLoose.notSynchronized Bd
  have X0 : Stand pP lL eE ({ frames := 0, cells := 0, slots := 0, locals := 0 } : Room) sS mM #[(.ref s'), (.int (0 : Int32)), (.ref d), (.int (0 : Int32)), (.int (2 : Int32))] below meth cC s₁ [] 0 0 := Stand.of_body Bd
  have e0 : s₁.heap = h0 := by rw [← hh, Bd.state]; rfl
  have N0 := Fr.nil n0
  show own_Go pP eE below sS (QC5 Z d kd 2 [(.int (((x0).toInt8.toInt32)).toInt8.toInt32), (.int (((x1).toInt8.toInt32)).toInt8.toInt32)] h0 n0) 0 0 (s₁.setTop (entryFrame mM #[(.ref s'), (.int (0 : Int32)), (.ref d), (.int (0 : Int32)), (.int (2 : Int32))] 7))
  refine own_st (A := s₁.setTop (mkF mM 0 #[.val (.ref s'), .val (.int (0 : Int32)), .val (.ref d), .val (.int (0 : Int32)), .val (.int (2 : Int32)), .unset, .unset] [])) (fun tT_ kK_ => castTop (ef_rmC5_2 mM s' ks d kd x0 x1) kK_) ?_
  have Kp := Keep.refl h0 [d]
  refine own_st (A := s₁.setTop (mkF mM 1 #[.val (.ref s'), .val (.int (0 : Int32)), .val (.ref d), .val (.int (0 : Int32)), .val (.int (2 : Int32)), .unset, .unset] [(.int (0 : Int32))])) (fun tT_ kK_ => XS.iconst X0.here hx rfl (hb hby d9_0) kK_) ?_
  refine own_st (A := s₁.setTop (mkF mM 3 #[.val (.ref s'), .val (.int (0 : Int32)), .val (.ref d), .val (.int (0 : Int32)), .val (.int (2 : Int32)), .val (.int (0 : Int32)), .unset] [])) (fun tT_ kK_ => XS.istore X0.here hx rfl (hb hby d9_1) rfl (l' := #[.val (.ref s'), .val (.int (0 : Int32)), .val (.ref d), .val (.int (0 : Int32)), .val (.int (2 : Int32)), .val (.int (0 : Int32)), .unset]) rfl kK_) ?_
  refine own_st (A := s₁.setTop (mkF mM 5 #[.val (.ref s'), .val (.int (0 : Int32)), .val (.ref d), .val (.int (0 : Int32)), .val (.int (2 : Int32)), .val (.int (0 : Int32)), .unset] [(.int (0 : Int32))])) (fun tT_ kK_ => XS.iload X0.here hx rfl (hb hby d9_3) rfl kK_) ?_
  refine own_st (A := s₁.setTop (mkF mM 7 #[.val (.ref s'), .val (.int (0 : Int32)), .val (.ref d), .val (.int (0 : Int32)), .val (.int (2 : Int32)), .val (.int (0 : Int32)), .unset] [(.int (2 : Int32)), (.int (0 : Int32))])) (fun tT_ kK_ => XS.iload X0.here hx rfl (hb hby d9_5) rfl kK_) ?_
  refine own_st (A := s₁.setTop (mkF mM 10 #[.val (.ref s'), .val (.int (0 : Int32)), .val (.ref d), .val (.int (0 : Int32)), .val (.int (2 : Int32)), .val (.int (0 : Int32)), .unset] [])) (fun tT_ kK_ => XS.icmpNo X0.here hx rfl (hb hby d9_7) rfl (tlt (by decide : ((0 : Int32) < (2 : Int32)))).2.1 kK_) ?_
  refine own_st (A := s₁.setTop (mkF mM 11 #[.val (.ref s'), .val (.int (0 : Int32)), .val (.ref d), .val (.int (0 : Int32)), .val (.int (2 : Int32)), .val (.int (0 : Int32)), .unset] [(.ref s')])) (fun tT_ kK_ => XS.aloadN X0.here hx rfl (hb hby d9_10) rfl rfl kK_) ?_
  refine own_st (A := s₁.setTop (mkF mM 12 #[.val (.ref s'), .val (.int (0 : Int32)), .val (.ref d), .val (.int (0 : Int32)), .val (.int (2 : Int32)), .val (.int (0 : Int32)), .unset] [(.int (0 : Int32)), (.ref s')])) (fun tT_ kK_ => XS.iloadN X0.here hx rfl (hb hby d9_11) rfl kK_) ?_
  obtain ⟨cl15, Ar15, q15, S15, Nn15, H15, G15⟩ := id A_s'
  have hin15 : ¬ ((0 : Int32) < 0 ∨ cl15.slots.size ≤ ((0 : Int32)).toNatClampNeg) := inb_of S15 ⟨by decide, by decide⟩
  refine own_st (A := s₁.setTop (mkF mM 13 #[.val (.ref s'), .val (.int (0 : Int32)), .val (.ref d), .val (.int (0 : Int32)), .val (.int (2 : Int32)), .val (.int (0 : Int32)), .unset] [(.int x0)])) (fun tT_ kK_ => X0.caload hx (j := (0 : Int32)) (v := (.int x0)) (by rw [e0]; exact Ar15.1) (State.isArrayOf_alike hZ.alike Ar15.2.1) Ar15.2.2 hin15 (H15.at hin15 rfl) (g := (mkF mM 12 #[.val (.ref s'), .val (.int (0 : Int32)), .val (.ref d), .val (.int (0 : Int32)), .val (.int (2 : Int32)), .val (.int (0 : Int32)), .unset] [(.int (0 : Int32)), (.ref s')])) rfl rfl (hb hby d9_12) tT_ kK_) ?_
  refine own_st (A := s₁.setTop (mkF mM 15 #[.val (.ref s'), .val (.int (0 : Int32)), .val (.ref d), .val (.int (0 : Int32)), .val (.int (2 : Int32)), .val (.int (0 : Int32)), .val (.int x0)] [])) (fun tT_ kK_ => XS.istore X0.here hx rfl (hb hby d9_13) rfl (l' := #[.val (.ref s'), .val (.int (0 : Int32)), .val (.ref d), .val (.int (0 : Int32)), .val (.int (2 : Int32)), .val (.int (0 : Int32)), .val (.int x0)]) rfl kK_) ?_
  refine own_st (A := s₁.setTop (mkF mM 17 #[.val (.ref s'), .val (.int (0 : Int32)), .val (.ref d), .val (.int (0 : Int32)), .val (.int (2 : Int32)), .val (.int (0 : Int32)), .val (.int x0)] [(.int x0)])) (fun tT_ kK_ => XS.iload X0.here hx rfl (hb hby d9_15) rfl kK_) ?_
  refine own_st (A := s₁.setTop (mkF mM 20 #[.val (.ref s'), .val (.int (0 : Int32)), .val (.ref d), .val (.int (0 : Int32)), .val (.int (2 : Int32)), .val (.int (0 : Int32)), .val (.int x0)] [(.int (255 : Int32)), (.int x0)])) (fun tT_ kK_ => XS.sipush X0.here hx rfl (hb hby d9_17) kK_) ?_
  refine own_st (A := s₁.setTop (mkF mM 26 #[.val (.ref s'), .val (.int (0 : Int32)), .val (.ref d), .val (.int (0 : Int32)), .val (.int (2 : Int32)), .val (.int (0 : Int32)), .val (.int x0)] [])) (fun tT_ kK_ => XS.icmpYes X0.here hx rfl (pc0 := 20) (pc' := 26) rfl (hb hby d9_20) rfl (flt cx0.2.1).2.2.2 (by decide) (by decide) kK_) ?_
  refine own_st (A := s₁.setTop (mkF mM 27 #[.val (.ref s'), .val (.int (0 : Int32)), .val (.ref d), .val (.int (0 : Int32)), .val (.int (2 : Int32)), .val (.int (0 : Int32)), .val (.int x0)] [(.ref d)])) (fun tT_ kK_ => XS.aloadN X0.here hx rfl (hb hby d9_26) rfl rfl kK_) ?_
  refine own_st (A := s₁.setTop (mkF mM 28 #[.val (.ref s'), .val (.int (0 : Int32)), .val (.ref d), .val (.int (0 : Int32)), .val (.int (2 : Int32)), .val (.int (0 : Int32)), .val (.int x0)] [(.int (0 : Int32)), (.ref d)])) (fun tT_ kK_ => XS.iloadN X0.here hx rfl (hb hby d9_27) rfl kK_) ?_
  refine own_st (A := s₁.setTop (mkF mM 30 #[.val (.ref s'), .val (.int (0 : Int32)), .val (.ref d), .val (.int (0 : Int32)), .val (.int (2 : Int32)), .val (.int (0 : Int32)), .val (.int x0)] [(.int x0), (.int (0 : Int32)), (.ref d)])) (fun tT_ kK_ => XS.iload X0.here hx rfl (hb hby d9_28) rfl kK_) ?_
  refine own_st (A := s₁.setTop (mkF mM 31 #[.val (.ref s'), .val (.int (0 : Int32)), .val (.ref d), .val (.int (0 : Int32)), .val (.int (2 : Int32)), .val (.int (0 : Int32)), .val (.int x0)] [(.int ((x0).toInt8.toInt32)), (.int (0 : Int32)), (.ref d)])) (fun tT_ kK_ => XS.i2b X0.here hx rfl (hb hby d9_30) rfl kK_) ?_
  obtain ⟨cl16, Ar16, q16, S16, Nn16, H16, G16⟩ := id A_d
  obtain ⟨T17, h17, X17, e17, W17, st17⟩ := stB X0 hx hZ e0 Ar16 (j := (0 : Int32)) (inb_of S16 ⟨by decide, by decide⟩) (g := (mkF mM 31 #[.val (.ref s'), .val (.int (0 : Int32)), .val (.ref d), .val (.int (0 : Int32)), .val (.int (2 : Int32)), .val (.int (0 : Int32)), .val (.int x0)] [(.int ((x0).toInt8.toInt32)), (.int (0 : Int32)), (.ref d)])) rfl rfl (hb hby d9_31)
  have N17 := Fr.snoc X17 N0 g_d
  have A_s' := A_s'.other W17 nsd
  have Kp := Kp.wr W17 (Or.inl (List.mem_of_getElem? (i := 0) rfl))
  have A_d : Arv Z h17 d kd .byte 2 [(.int (((x0).toInt8.toInt32)).toInt8.toInt32), (.int (0 : Int32))] (.int (0 : Int32)) := Arv.set Ar16 q16 S16 Nn16 H16 G16 (fits_nar_byte _) W17 0 rfl (Nat.le_of_ble_eq_true rfl)
  refine own_st (A := T17.setTop (mkF mM 32 #[.val (.ref s'), .val (.int (0 : Int32)), .val (.ref d), .val (.int (0 : Int32)), .val (.int (2 : Int32)), .val (.int (0 : Int32)), .val (.int x0)] [])) (fun tT_ kK_ => st17 tT_ kK_) ?_
  refine own_st (A := T17.setTop (mkF mM 35 #[.val (.ref s'), .val (.int (1 : Int32)), .val (.ref d), .val (.int (0 : Int32)), .val (.int (2 : Int32)), .val (.int (0 : Int32)), .val (.int x0)] [])) (fun tT_ kK_ => XS.iinc X17.here hx rfl (hb hby d9_32) rfl (l' := #[.val (.ref s'), .val (.int (1 : Int32)), .val (.ref d), .val (.int (0 : Int32)), .val (.int (2 : Int32)), .val (.int (0 : Int32)), .val (.int x0)]) rfl kK_) ?_
  refine own_st (A := T17.setTop (mkF mM 38 #[.val (.ref s'), .val (.int (1 : Int32)), .val (.ref d), .val (.int (1 : Int32)), .val (.int (2 : Int32)), .val (.int (0 : Int32)), .val (.int x0)] [])) (fun tT_ kK_ => XS.iinc X17.here hx rfl (hb hby d9_35) rfl (l' := #[.val (.ref s'), .val (.int (1 : Int32)), .val (.ref d), .val (.int (1 : Int32)), .val (.int (2 : Int32)), .val (.int (0 : Int32)), .val (.int x0)]) rfl kK_) ?_
  refine own_st (A := T17.setTop (mkF mM 41 #[.val (.ref s'), .val (.int (1 : Int32)), .val (.ref d), .val (.int (1 : Int32)), .val (.int (2 : Int32)), .val (.int (1 : Int32)), .val (.int x0)] [])) (fun tT_ kK_ => XS.iinc X17.here hx rfl (hb hby d9_38) rfl (l' := #[.val (.ref s'), .val (.int (1 : Int32)), .val (.ref d), .val (.int (1 : Int32)), .val (.int (2 : Int32)), .val (.int (1 : Int32)), .val (.int x0)]) rfl kK_) ?_
  refine own_st (A := T17.setTop (mkF mM 3 #[.val (.ref s'), .val (.int (1 : Int32)), .val (.ref d), .val (.int (1 : Int32)), .val (.int (2 : Int32)), .val (.int (1 : Int32)), .val (.int x0)] [])) (fun tT_ kK_ => XS.goto X17.here hx rfl (pc0 := 41) (pc' := 3) rfl (hb hby d9_41) (by decide) (by decide) kK_) ?_
  refine own_st (A := T17.setTop (mkF mM 5 #[.val (.ref s'), .val (.int (1 : Int32)), .val (.ref d), .val (.int (1 : Int32)), .val (.int (2 : Int32)), .val (.int (1 : Int32)), .val (.int x0)] [(.int (1 : Int32))])) (fun tT_ kK_ => XS.iload X17.here hx rfl (hb hby d9_3) rfl kK_) ?_
  refine own_st (A := T17.setTop (mkF mM 7 #[.val (.ref s'), .val (.int (1 : Int32)), .val (.ref d), .val (.int (1 : Int32)), .val (.int (2 : Int32)), .val (.int (1 : Int32)), .val (.int x0)] [(.int (2 : Int32)), (.int (1 : Int32))])) (fun tT_ kK_ => XS.iload X17.here hx rfl (hb hby d9_5) rfl kK_) ?_
  refine own_st (A := T17.setTop (mkF mM 10 #[.val (.ref s'), .val (.int (1 : Int32)), .val (.ref d), .val (.int (1 : Int32)), .val (.int (2 : Int32)), .val (.int (1 : Int32)), .val (.int x0)] [])) (fun tT_ kK_ => XS.icmpNo X17.here hx rfl (hb hby d9_7) rfl (tlt (by decide : ((1 : Int32) < (2 : Int32)))).2.1 kK_) ?_
  refine own_st (A := T17.setTop (mkF mM 11 #[.val (.ref s'), .val (.int (1 : Int32)), .val (.ref d), .val (.int (1 : Int32)), .val (.int (2 : Int32)), .val (.int (1 : Int32)), .val (.int x0)] [(.ref s')])) (fun tT_ kK_ => XS.aloadN X17.here hx rfl (hb hby d9_10) rfl rfl kK_) ?_
  refine own_st (A := T17.setTop (mkF mM 12 #[.val (.ref s'), .val (.int (1 : Int32)), .val (.ref d), .val (.int (1 : Int32)), .val (.int (2 : Int32)), .val (.int (1 : Int32)), .val (.int x0)] [(.int (1 : Int32)), (.ref s')])) (fun tT_ kK_ => XS.iloadN X17.here hx rfl (hb hby d9_11) rfl kK_) ?_
  obtain ⟨cl18, Ar18, q18, S18, Nn18, H18, G18⟩ := id A_s'
  have hin18 : ¬ ((1 : Int32) < 0 ∨ cl18.slots.size ≤ ((1 : Int32)).toNatClampNeg) := inb_of S18 ⟨by decide, by decide⟩
  refine own_st (A := T17.setTop (mkF mM 13 #[.val (.ref s'), .val (.int (1 : Int32)), .val (.ref d), .val (.int (1 : Int32)), .val (.int (2 : Int32)), .val (.int (1 : Int32)), .val (.int x0)] [(.int x1)])) (fun tT_ kK_ => X17.caload hx (j := (1 : Int32)) (v := (.int x1)) (by rw [e17]; exact Ar18.1) (State.isArrayOf_alike hZ.alike Ar18.2.1) Ar18.2.2 hin18 (H18.at hin18 rfl) (g := (mkF mM 12 #[.val (.ref s'), .val (.int (1 : Int32)), .val (.ref d), .val (.int (1 : Int32)), .val (.int (2 : Int32)), .val (.int (1 : Int32)), .val (.int x0)] [(.int (1 : Int32)), (.ref s')])) rfl rfl (hb hby d9_12) tT_ kK_) ?_
  refine own_st (A := T17.setTop (mkF mM 15 #[.val (.ref s'), .val (.int (1 : Int32)), .val (.ref d), .val (.int (1 : Int32)), .val (.int (2 : Int32)), .val (.int (1 : Int32)), .val (.int x1)] [])) (fun tT_ kK_ => XS.istore X17.here hx rfl (hb hby d9_13) rfl (l' := #[.val (.ref s'), .val (.int (1 : Int32)), .val (.ref d), .val (.int (1 : Int32)), .val (.int (2 : Int32)), .val (.int (1 : Int32)), .val (.int x1)]) rfl kK_) ?_
  refine own_st (A := T17.setTop (mkF mM 17 #[.val (.ref s'), .val (.int (1 : Int32)), .val (.ref d), .val (.int (1 : Int32)), .val (.int (2 : Int32)), .val (.int (1 : Int32)), .val (.int x1)] [(.int x1)])) (fun tT_ kK_ => XS.iload X17.here hx rfl (hb hby d9_15) rfl kK_) ?_
  refine own_st (A := T17.setTop (mkF mM 20 #[.val (.ref s'), .val (.int (1 : Int32)), .val (.ref d), .val (.int (1 : Int32)), .val (.int (2 : Int32)), .val (.int (1 : Int32)), .val (.int x1)] [(.int (255 : Int32)), (.int x1)])) (fun tT_ kK_ => XS.sipush X17.here hx rfl (hb hby d9_17) kK_) ?_
  refine own_st (A := T17.setTop (mkF mM 26 #[.val (.ref s'), .val (.int (1 : Int32)), .val (.ref d), .val (.int (1 : Int32)), .val (.int (2 : Int32)), .val (.int (1 : Int32)), .val (.int x1)] [])) (fun tT_ kK_ => XS.icmpYes X17.here hx rfl (pc0 := 20) (pc' := 26) rfl (hb hby d9_20) rfl (flt cx1.2.1).2.2.2 (by decide) (by decide) kK_) ?_
  refine own_st (A := T17.setTop (mkF mM 27 #[.val (.ref s'), .val (.int (1 : Int32)), .val (.ref d), .val (.int (1 : Int32)), .val (.int (2 : Int32)), .val (.int (1 : Int32)), .val (.int x1)] [(.ref d)])) (fun tT_ kK_ => XS.aloadN X17.here hx rfl (hb hby d9_26) rfl rfl kK_) ?_
  refine own_st (A := T17.setTop (mkF mM 28 #[.val (.ref s'), .val (.int (1 : Int32)), .val (.ref d), .val (.int (1 : Int32)), .val (.int (2 : Int32)), .val (.int (1 : Int32)), .val (.int x1)] [(.int (1 : Int32)), (.ref d)])) (fun tT_ kK_ => XS.iloadN X17.here hx rfl (hb hby d9_27) rfl kK_) ?_
  refine own_st (A := T17.setTop (mkF mM 30 #[.val (.ref s'), .val (.int (1 : Int32)), .val (.ref d), .val (.int (1 : Int32)), .val (.int (2 : Int32)), .val (.int (1 : Int32)), .val (.int x1)] [(.int x1), (.int (1 : Int32)), (.ref d)])) (fun tT_ kK_ => XS.iload X17.here hx rfl (hb hby d9_28) rfl kK_) ?_
  refine own_st (A := T17.setTop (mkF mM 31 #[.val (.ref s'), .val (.int (1 : Int32)), .val (.ref d), .val (.int (1 : Int32)), .val (.int (2 : Int32)), .val (.int (1 : Int32)), .val (.int x1)] [(.int ((x1).toInt8.toInt32)), (.int (1 : Int32)), (.ref d)])) (fun tT_ kK_ => XS.i2b X17.here hx rfl (hb hby d9_30) rfl kK_) ?_
  obtain ⟨cl19, Ar19, q19, S19, Nn19, H19, G19⟩ := id A_d
  obtain ⟨T20, h20, X20, e20, W20, st20⟩ := stB X17 hx hZ e17 Ar19 (j := (1 : Int32)) (inb_of S19 ⟨by decide, by decide⟩) (g := (mkF mM 31 #[.val (.ref s'), .val (.int (1 : Int32)), .val (.ref d), .val (.int (1 : Int32)), .val (.int (2 : Int32)), .val (.int (1 : Int32)), .val (.int x1)] [(.int ((x1).toInt8.toInt32)), (.int (1 : Int32)), (.ref d)])) rfl rfl (hb hby d9_31)
  have N20 := Fr.snoc X20 N17 g_d
  have A_s' := A_s'.other W20 nsd
  have Kp := Kp.wr W20 (Or.inl (List.mem_of_getElem? (i := 0) rfl))
  have A_d : Arv Z h20 d kd .byte 2 [(.int (((x0).toInt8.toInt32)).toInt8.toInt32), (.int (((x1).toInt8.toInt32)).toInt8.toInt32)] (.int (0 : Int32)) := Arv.set Ar19 q19 S19 Nn19 H19 G19 (fits_nar_byte _) W20 1 rfl (Nat.le_of_ble_eq_true rfl)
  refine own_st (A := T20.setTop (mkF mM 32 #[.val (.ref s'), .val (.int (1 : Int32)), .val (.ref d), .val (.int (1 : Int32)), .val (.int (2 : Int32)), .val (.int (1 : Int32)), .val (.int x1)] [])) (fun tT_ kK_ => st20 tT_ kK_) ?_
  refine own_st (A := T20.setTop (mkF mM 35 #[.val (.ref s'), .val (.int (2 : Int32)), .val (.ref d), .val (.int (1 : Int32)), .val (.int (2 : Int32)), .val (.int (1 : Int32)), .val (.int x1)] [])) (fun tT_ kK_ => XS.iinc X20.here hx rfl (hb hby d9_32) rfl (l' := #[.val (.ref s'), .val (.int (2 : Int32)), .val (.ref d), .val (.int (1 : Int32)), .val (.int (2 : Int32)), .val (.int (1 : Int32)), .val (.int x1)]) rfl kK_) ?_
  refine own_st (A := T20.setTop (mkF mM 38 #[.val (.ref s'), .val (.int (2 : Int32)), .val (.ref d), .val (.int (2 : Int32)), .val (.int (2 : Int32)), .val (.int (1 : Int32)), .val (.int x1)] [])) (fun tT_ kK_ => XS.iinc X20.here hx rfl (hb hby d9_35) rfl (l' := #[.val (.ref s'), .val (.int (2 : Int32)), .val (.ref d), .val (.int (2 : Int32)), .val (.int (2 : Int32)), .val (.int (1 : Int32)), .val (.int x1)]) rfl kK_) ?_
  refine own_st (A := T20.setTop (mkF mM 41 #[.val (.ref s'), .val (.int (2 : Int32)), .val (.ref d), .val (.int (2 : Int32)), .val (.int (2 : Int32)), .val (.int (2 : Int32)), .val (.int x1)] [])) (fun tT_ kK_ => XS.iinc X20.here hx rfl (hb hby d9_38) rfl (l' := #[.val (.ref s'), .val (.int (2 : Int32)), .val (.ref d), .val (.int (2 : Int32)), .val (.int (2 : Int32)), .val (.int (2 : Int32)), .val (.int x1)]) rfl kK_) ?_
  refine own_st (A := T20.setTop (mkF mM 3 #[.val (.ref s'), .val (.int (2 : Int32)), .val (.ref d), .val (.int (2 : Int32)), .val (.int (2 : Int32)), .val (.int (2 : Int32)), .val (.int x1)] [])) (fun tT_ kK_ => XS.goto X20.here hx rfl (pc0 := 41) (pc' := 3) rfl (hb hby d9_41) (by decide) (by decide) kK_) ?_
  refine own_st (A := T20.setTop (mkF mM 5 #[.val (.ref s'), .val (.int (2 : Int32)), .val (.ref d), .val (.int (2 : Int32)), .val (.int (2 : Int32)), .val (.int (2 : Int32)), .val (.int x1)] [(.int (2 : Int32))])) (fun tT_ kK_ => XS.iload X20.here hx rfl (hb hby d9_3) rfl kK_) ?_
  refine own_st (A := T20.setTop (mkF mM 7 #[.val (.ref s'), .val (.int (2 : Int32)), .val (.ref d), .val (.int (2 : Int32)), .val (.int (2 : Int32)), .val (.int (2 : Int32)), .val (.int x1)] [(.int (2 : Int32)), (.int (2 : Int32))])) (fun tT_ kK_ => XS.iload X20.here hx rfl (hb hby d9_5) rfl kK_) ?_
  refine own_st (A := T20.setTop (mkF mM 44 #[.val (.ref s'), .val (.int (2 : Int32)), .val (.ref d), .val (.int (2 : Int32)), .val (.int (2 : Int32)), .val (.int (2 : Int32)), .val (.int x1)] [])) (fun tT_ kK_ => XS.icmpYes X20.here hx rfl (pc0 := 7) (pc' := 44) rfl (hb hby d9_7) rfl (flt (by decide : ¬ ((2 : Int32) < (2 : Int32)))).2.1 (by decide) (by decide) kK_) ?_
  refine own_st (A := T20.setTop (mkF mM 46 #[.val (.ref s'), .val (.int (2 : Int32)), .val (.ref d), .val (.int (2 : Int32)), .val (.int (2 : Int32)), .val (.int (2 : Int32)), .val (.int x1)] [(.int (2 : Int32))])) (fun tT_ kK_ => XS.iload X20.here hx rfl (hb hby d9_44) rfl kK_) ?_
  exact own_retI X20 hx hlk hret (hb hby d9_46) (by rw [e20]; exact ⟨rfl, N20, Kp, A_d⟩) (by decide) (by decide)
theorem ef_rmC3_2 (mM : MethodId) (s' : Addr) (ks : ClassId) (x0 : Int32) (x1 : Int32) : entryFrame mM #[(.ref s'), (.int (0 : Int32)), (.int (2 : Int32))] 6 = mkF mM 0 #[.val (.ref s'), .val (.int (0 : Int32)), .val (.int (2 : Int32)), .unset, .unset, .unset] [] := by first | (simp [entryFrame, mkF, argsToLocals, Value.category]; done) | rfl
set_option maxRecDepth 65536 in
set_option maxHeartbeats 40000000 in
theorem rmC3_2 (lL : Launch) (Z : State) (a0 : Array Value) (hw : ∀ d ∈ tables_1, d.before a0 Z = true) (ws : List Jvm.Cond) (s' : Addr) (ks : ClassId) (x0 : Int32) (x1 : Int32) (h0 : Heap) (n0 : Nat) (Zn : n0 ≤ h0.size) (A_s' : Arv Z h0 s' ks .char 2 [(.int x0), (.int x1)] (.int 0)) (cx0 : Ck x0) (cx1 : Ck x1) :
    MetFree lL (⟨"java/lang/StringUTF16", "compress", "([CII)[B"⟩ : MethodName) (head1 (Jvm.Cond.code (⟨"java/lang/StringUTF16", "compress", "([CII)[B"⟩ : MethodName) jdk_52_method_16_code 6 (some (.array .byte)) :: ws) ({ frames := 1, cells := 1, slots := 2, locals := 18 } : Room)) (fun as_ uU_ => as_ = #[(.ref s'), (.int (0 : Int32)), (.int (2 : Int32))] ∧ Z.Warmed39 uU_.vm ∧ uU_.heap = h0) (fun _ _ _ _ _ => True) (fun _ uU_ oO_ uE_ => ∃ vV_ lL_, oO_ = .returned vV_ ∧ QC3 Z 2 [(.int (((x0).toInt8.toInt32)).toInt8.toInt32), (.int (((x1).toInt8.toInt32)).toInt8.toInt32)] h0 n0 vV_ uE_.heap lL_ ∧ FrameEnd uU_ oO_ uE_ lL_ ({ frames := 1, cells := 1, slots := 2, locals := 18 } : Room).cells ({ frames := 1, cells := 1, slots := 2, locals := 18 } : Room).slots) := by
  refine MetFree.of_bodySF (plainFor_of_name pn_java_2flang_2fStringUTF16) hisR ?_
  intro pP eE sS mM args below meth cC s₁ Bd hml0 hP hK
  obtain ⟨rfl, hZ, hh⟩ := hP
  have hx := Bd.exec
  have hby := Bd.bytes
  have hml : cC.maxLocals = 6 := hml0
  have hown : sS.vm.findClass "java/lang/StringUTF16" = some mM.cls := findClass_of_methodNamed Bd.named
  have hnm := (name_of_methodNamed Bd.named Bd.method).1
  have hret := Bd.returns
  have hlk := BodyLoose.notSynchronized Bd
  have X0 : Stand pP lL eE ({ frames := 1, cells := 1, slots := 2, locals := 18 } : Room) sS mM #[(.ref s'), (.int (0 : Int32)), (.int (2 : Int32))] below meth cC s₁ [] 0 0 := Stand.of_body Bd
  have e0 : s₁.heap = h0 := by rw [← hh, Bd.state]; rfl
  have N0 := Fr.nil n0
  show own_Go pP eE below sS (QC3 Z 2 [(.int (((x0).toInt8.toInt32)).toInt8.toInt32), (.int (((x1).toInt8.toInt32)).toInt8.toInt32)] h0 n0) 1 2 (s₁.setTop (entryFrame mM #[(.ref s'), (.int (0 : Int32)), (.int (2 : Int32))] 6))
  refine own_st (A := s₁.setTop (mkF mM 0 #[.val (.ref s'), .val (.int (0 : Int32)), .val (.int (2 : Int32)), .unset, .unset, .unset] [])) (fun tT_ kK_ => castTop (ef_rmC3_2 mM s' ks x0 x1) kK_) ?_
  have Kp := Keep.refl h0 []
  refine own_st (A := s₁.setTop (mkF mM 1 #[.val (.ref s'), .val (.int (0 : Int32)), .val (.int (2 : Int32)), .unset, .unset, .unset] [(.int (2 : Int32))])) (fun tT_ kK_ => XS.iloadN X0.here hx rfl (hb hby d8_0) rfl kK_) ?_
  obtain ⟨T21, h21, k21, X21, e21, E21, A21, st21⟩ := newP X0 hx hZ (hw _ (List.mem_of_getElem? (i := 0) rfl)) e0 (g := (mkF mM 1 #[.val (.ref s'), .val (.int (0 : Int32)), .val (.int (2 : Int32)), .unset, .unset, .unset] [(.int (2 : Int32))])) rfl (hb hby d8_1) rfl (by decide) (cap := 2) (by decide) (by decide) (by decide) (by decide)
  obtain ⟨b21, g21⟩ : ∃ z, z = h0.size := ⟨_, rfl⟩
  rw [← g21] at A21 st21
  have ne_s'_b21 : s' ≠ b21 := Nat.ne_of_lt (Nat.lt_of_lt_of_le A_s'.lt (Nat.le_of_eq g21.symm))
  have g_b21 : n0 ≤ b21 := Nat.le_trans Zn (Nat.le_of_eq g21.symm)
  have b_b21 : h0.size ≤ b21 := Nat.le_trans Kp.1 (Nat.le_of_eq g21.symm)
  have A_s' := A_s'.ext E21
  have Zn := Nat.le_trans Zn E21.1
  have Kp := Kp.ext E21
  have A_b21 : Arv Z h21 b21 k21 .byte 2 [(.int (0 : Int32)), (.int (0 : Int32))] (.int (0 : Int32)) := (Arv.new A21 (by decide)).pad (pad_rep [] (.int (0 : Int32)) 2)
  refine own_st (A := T21.setTop (mkF mM 3 #[.val (.ref s'), .val (.int (0 : Int32)), .val (.int (2 : Int32)), .unset, .unset, .unset] [(.ref b21)])) (fun tT_ kK_ => st21 tT_ kK_) ?_
  refine own_st (A := T21.setTop (mkF mM 4 #[.val (.ref s'), .val (.int (0 : Int32)), .val (.int (2 : Int32)), .val (.ref b21), .unset, .unset] [])) (fun tT_ kK_ => XS.astoreN X21.here hx rfl (hb hby d8_3) rfl rfl (l' := #[.val (.ref s'), .val (.int (0 : Int32)), .val (.int (2 : Int32)), .val (.ref b21), .unset, .unset]) rfl kK_) ?_
  refine own_st (A := T21.setTop (mkF mM 5 #[.val (.ref s'), .val (.int (0 : Int32)), .val (.int (2 : Int32)), .val (.ref b21), .unset, .unset] [(.ref s')])) (fun tT_ kK_ => XS.aloadN X21.here hx rfl (hb hby d8_4) rfl rfl kK_) ?_
  refine own_st (A := T21.setTop (mkF mM 6 #[.val (.ref s'), .val (.int (0 : Int32)), .val (.int (2 : Int32)), .val (.ref b21), .unset, .unset] [(.int (0 : Int32)), (.ref s')])) (fun tT_ kK_ => XS.iloadN X21.here hx rfl (hb hby d8_5) rfl kK_) ?_
  refine own_st (A := T21.setTop (mkF mM 7 #[.val (.ref s'), .val (.int (0 : Int32)), .val (.int (2 : Int32)), .val (.ref b21), .unset, .unset] [(.ref b21), (.int (0 : Int32)), (.ref s')])) (fun tT_ kK_ => XS.aloadN X21.here hx rfl (hb hby d8_6) rfl rfl kK_) ?_
  refine own_st (A := T21.setTop (mkF mM 8 #[.val (.ref s'), .val (.int (0 : Int32)), .val (.int (2 : Int32)), .val (.ref b21), .unset, .unset] [(.int (0 : Int32)), (.ref b21), (.int (0 : Int32)), (.ref s')])) (fun tT_ kK_ => XS.iconst X21.here hx rfl (hb hby d8_7) kK_) ?_
  refine own_st (A := T21.setTop (mkF mM 9 #[.val (.ref s'), .val (.int (0 : Int32)), .val (.int (2 : Int32)), .val (.ref b21), .unset, .unset] [(.int (2 : Int32)), (.int (0 : Int32)), (.ref b21), (.int (0 : Int32)), (.ref s')])) (fun tT_ kK_ => XS.iloadN X21.here hx rfl (hb hby d8_8) rfl kK_) ?_
  obtain ⟨_, _, ⟨T22, L22, k22, n22⟩, -, X22, ⟨Lc22, hQ22, l22, y22, z22⟩, st22⟩ := Jvm.LawKit.callS X21 hx (y := (⟨"java/lang/StringUTF16", "compress", "([CI[BII)I"⟩ : MethodName)) hown (mvT hZ (hw _ (List.mem_of_getElem? (i := 56) rfl))) (mvT hZ (hw _ (List.mem_of_getElem? (i := 57) rfl))) (mvT hZ (hw _ (List.mem_of_getElem? (i := 54) rfl))) (mvT hZ (hw _ (List.mem_of_getElem? (i := 58) rfl))) (by decide) (backOf (W := 0) (rmC5_2 lL Z a0 hw [] s' ks b21 k21 x0 x1 h21 n0 A_s' A_b21 g_b21 ne_s'_b21 cx0 cx1) hZ (hw _ (List.mem_of_getElem? (i := 58) rfl)) (hw _ (List.mem_of_getElem? (i := 54) rfl)) (by decide) (by decide)) (g := (mkF mM 9 #[.val (.ref s'), .val (.int (0 : Int32)), .val (.int (2 : Int32)), .val (.ref b21), .unset, .unset] [(.int (2 : Int32)), (.int (0 : Int32)), (.ref b21), (.int (0 : Int32)), (.ref s')])) rfl (by rw [hml]; rfl) (argsL := [(.ref s'), (.int (0 : Int32)), (.ref b21), (.int (0 : Int32)), (.int (2 : Int32))]) (rest := []) (lenOf pd__28_5bCI_5bBII_29I rfl) rfl (by show 2 * 0 + _ ≤ _; exact Nat.le_of_eq rfl) (hb hby d8_9) (fun _ _ => ⟨rfl, e21, (by decide : 1 + 0 ≤ _), (by decide : 2 + 0 ≤ _)⟩)
  dsimp only [Pt.U, Pt.locs, Pt.cells, Pt.slots] at X22 l22 y22 z22 st22 hQ22
  subst l22 y22 z22
  obtain ⟨rfl, N22q, K22, V22⟩ := hQ22
  have N22 := Fr.app N0 N22q
  have e22 : T22.heap = T22.heap := rfl
  refine own_st (A := T22.setTop (mkF mM 12 #[.val (.ref s'), .val (.int (0 : Int32)), .val (.int (2 : Int32)), .val (.ref b21), .unset, .unset] [(.int (2 : Int32))])) (fun tT_ kK_ => st22 tT_ kK_) ?_
  have A_s' := A_s'.keep K22 (ninS ne_s'_b21 nin0)
  have Zn := Nat.le_trans Zn K22.1
  have Kp := Kp.trans K22 (allS (Or.inr b_b21) all0)
  have A_b21 := V22
  refine own_st (A := T22.setTop (mkF mM 14 #[.val (.ref s'), .val (.int (0 : Int32)), .val (.int (2 : Int32)), .val (.ref b21), .val (.int (2 : Int32)), .unset] [])) (fun tT_ kK_ => XS.istore X22.here hx rfl (hb hby d8_12) rfl (l' := #[.val (.ref s'), .val (.int (0 : Int32)), .val (.int (2 : Int32)), .val (.ref b21), .val (.int (2 : Int32)), .unset]) rfl kK_) ?_
  refine own_st (A := T22.setTop (mkF mM 16 #[.val (.ref s'), .val (.int (0 : Int32)), .val (.int (2 : Int32)), .val (.ref b21), .val (.int (2 : Int32)), .unset] [(.int (2 : Int32))])) (fun tT_ kK_ => XS.iload X22.here hx rfl (hb hby d8_14) rfl kK_) ?_
  refine own_st (A := T22.setTop (mkF mM 17 #[.val (.ref s'), .val (.int (0 : Int32)), .val (.int (2 : Int32)), .val (.ref b21), .val (.int (2 : Int32)), .unset] [(.int (2 : Int32)), (.int (2 : Int32))])) (fun tT_ kK_ => XS.iloadN X22.here hx rfl (hb hby d8_16) rfl kK_) ?_
  refine own_st (A := T22.setTop (mkF mM 57 #[.val (.ref s'), .val (.int (0 : Int32)), .val (.int (2 : Int32)), .val (.ref b21), .val (.int (2 : Int32)), .unset] [])) (fun tT_ kK_ => XS.icmpYes X22.here hx rfl (pc0 := 17) (pc' := 57) rfl (hb hby d8_17) rfl (teq (by decide : ((2 : Int32) = (2 : Int32)))).1 (by decide) (by decide) kK_) ?_
  refine own_st (A := T22.setTop (mkF mM 58 #[.val (.ref s'), .val (.int (0 : Int32)), .val (.int (2 : Int32)), .val (.ref b21), .val (.int (2 : Int32)), .unset] [(.ref b21)])) (fun tT_ kK_ => XS.aloadN X22.here hx rfl (hb hby d8_57) rfl rfl kK_) ?_
  exact own_retA X22 hx hlk hret rfl rfl (hb hby d8_58) (by rw [e22]; exact ⟨_, _, rfl, N22, own_ext_of_keep Kp, A_b21, b_b21⟩) (by decide) (by decide)
theorem ef_rmCo_2 (mM : MethodId) (d : Addr) (kd : ClassId) (x0 : Int32) (x1 : Int32) : entryFrame mM #[(.ref d), (.int (2 : Int32))] 2 = mkF mM 0 #[.val (.ref d), .val (.int (2 : Int32))] [] := by first | (simp [entryFrame, mkF, argsToLocals, Value.category]; done) | rfl
set_option maxRecDepth 65536 in
set_option maxHeartbeats 40000000 in
theorem rmCo_2 (lL : Launch) (Z : State) (a0 : Array Value) (hw : ∀ d ∈ tables_1, d.before a0 Z = true) (ws : List Jvm.Cond) (d : Addr) (kd : ClassId) (x0 : Int32) (x1 : Int32) (h0 : Heap) (n0 : Nat) (A_d : Arv Z h0 d kd .byte 2 [(.int (((x0).toInt8.toInt32)).toInt8.toInt32), (.int (((x1).toInt8.toInt32)).toInt8.toInt32)] (.int 0)) :
    MetFree lL (⟨"java/lang/StringUTF16", "coderFromArrayLen", "([BI)B"⟩ : MethodName) (head1 (Jvm.Cond.code (⟨"java/lang/StringUTF16", "coderFromArrayLen", "([BI)B"⟩ : MethodName) jdk_52_method_15_code 2 (some .byte) :: ws) ({ frames := 0, cells := 0, slots := 0, locals := 0 } : Room)) (fun as_ uU_ => as_ = #[(.ref d), (.int (2 : Int32))] ∧ Z.Warmed39 uU_.vm ∧ uU_.heap = h0) (fun _ _ _ _ _ => True) (fun _ uU_ oO_ uE_ => ∃ vV_ lL_, oO_ = .returned vV_ ∧ Qw (.int 0) h0 n0 vV_ uE_.heap lL_ ∧ FrameEnd uU_ oO_ uE_ lL_ ({ frames := 0, cells := 0, slots := 0, locals := 0 } : Room).cells ({ frames := 0, cells := 0, slots := 0, locals := 0 } : Room).slots) := by
  refine MetFree.of_bodySF (plainFor_of_name pn_java_2flang_2fStringUTF16) hisR ?_
  intro pP eE sS mM args below meth cC s₁ Bd hml0 hP hK
  obtain ⟨rfl, hZ, hh⟩ := hP
  have hx := Bd.exec
  have hby := Bd.bytes
  have hml : cC.maxLocals = 2 := hml0
  have hown : sS.vm.findClass "java/lang/StringUTF16" = some mM.cls := findClass_of_methodNamed Bd.named
  have hnm := (name_of_methodNamed Bd.named Bd.method).1
  have hret := Bd.returns
  have hlk := BodyLoose.notSynchronized Bd
  have X0 : Stand pP lL eE ({ frames := 0, cells := 0, slots := 0, locals := 0 } : Room) sS mM #[(.ref d), (.int (2 : Int32))] below meth cC s₁ [] 0 0 := Stand.of_body Bd
  have e0 : s₁.heap = h0 := by rw [← hh, Bd.state]; rfl
  have N0 := Fr.nil n0
  show own_Go pP eE below sS (Qw (.int 0) h0 n0) 0 0 (s₁.setTop (entryFrame mM #[(.ref d), (.int (2 : Int32))] 2))
  refine own_st (A := s₁.setTop (mkF mM 0 #[.val (.ref d), .val (.int (2 : Int32))] [])) (fun tT_ kK_ => castTop (ef_rmCo_2 mM d kd x0 x1) kK_) ?_
  refine own_st (A := s₁.setTop (mkF mM 1 #[.val (.ref d), .val (.int (2 : Int32))] [(.int (2 : Int32))])) (fun tT_ kK_ => XS.iloadN X0.here hx rfl (hb hby d10_0) rfl kK_) ?_
  refine own_st (A := s₁.setTop (mkF mM 2 #[.val (.ref d), .val (.int (2 : Int32))] [(.ref d), (.int (2 : Int32))])) (fun tT_ kK_ => XS.aloadN X0.here hx rfl (hb hby d10_1) rfl rfl kK_) ?_
  obtain ⟨cl23, Ar23, q23, S23, Nn23, H23, G23⟩ := id A_d
  refine own_st (A := s₁.setTop (mkF mM 3 #[.val (.ref d), .val (.int (2 : Int32))] [(.int (2 : Int32)), (.int (2 : Int32))])) (fun tT_ kK_ => X0.arraylength hx (by rw [e0]; exact Ar23.1) (State.isArrayOf_alike hZ.alike Ar23.2.1) (g := (mkF mM 2 #[.val (.ref d), .val (.int (2 : Int32))] [(.ref d), (.int (2 : Int32))])) rfl rfl (hb hby d10_2) tT_ (by rw [len_of S23 Nn23]; exact kK_)) ?_
  refine own_st (A := s₁.setTop (mkF mM 4 #[.val (.ref d), .val (.int (2 : Int32))] [(.int (0 : Int32))])) (fun tT_ kK_ => XS.isub X0.here hx rfl (hb hby d10_3) rfl kK_) ?_
  refine own_st (A := s₁.setTop (mkF mM 6 #[.val (.ref d), .val (.int (2 : Int32))] [(.int (31 : Int32)), (.int (0 : Int32))])) (fun tT_ kK_ => XS.bipush X0.here hx rfl (hb hby d10_4) kK_) ?_
  refine own_st (A := s₁.setTop (mkF mM 7 #[.val (.ref d), .val (.int (2 : Int32))] [(.int (((0 : Int32).toUInt32 >>> ((31 : Int32) &&& 31).toUInt32).toInt32))])) (fun tT_ kK_ => XS.iushr X0.here hx rfl (hb hby d10_6) rfl kK_) ?_
  refine own_st (A := s₁.setTop (mkF mM 8 #[.val (.ref d), .val (.int (2 : Int32))] [(.int (((((0 : Int32).toUInt32 >>> ((31 : Int32) &&& 31).toUInt32).toInt32)).toInt8.toInt32))])) (fun tT_ kK_ => XS.i2b X0.here hx rfl (hb hby d10_7) rfl kK_) ?_
  exact own_retN X0 hx hlk (t := .byte) hret (by simp) (hb hby d10_8) (show Qw _ _ _ (some (.int (0 : Int32))) _ _ from ⟨rfl, N0, e0⟩) (by decide) (by decide)
theorem ef_rmS4_2 (mM : MethodId) (a : Addr) (s' : Addr) (ks : ClassId) (cs : Int32) (x0 : Int32) (x1 : Int32) : entryFrame mM #[(.ref a), (.ref s'), (.int (0 : Int32)), (.int (2 : Int32)), .null] 6 = mkF mM 0 #[.val (.ref a), .val (.ref s'), .val (.int (0 : Int32)), .val (.int (2 : Int32)), .val .null, .unset] [] := by first | (simp [entryFrame, mkF, argsToLocals, Value.category]; done) | rfl
set_option maxRecDepth 65536 in
set_option maxHeartbeats 40000000 in
theorem rmS4_2 (lL : Launch) (Z : State) (a0 : Array Value) (hw : ∀ d ∈ tables_1, d.before a0 Z = true) (ws : List Jvm.Cond) (a : Addr) (s' : Addr) (ks : ClassId) (cs : Int32) (x0 : Int32) (x1 : Int32) (h0 : Heap) (n0 : Nat) (g_a : n0 ≤ a) (E_a : Exa Z h0 a "java/lang/String") (F_a_value : Fld Z h0 a "java/lang/String" "value" "[B" .null) (F_a_coder : Fld Z h0 a "java/lang/String" "coder" "B" (.int (0 : Int32))) (A_s' : Arv Z h0 s' ks .char 2 [(.int x0), (.int x1)] (.int 0)) (nsa : s' ≠ a) (O : Old Z n0 h0) (Zn : n0 ≤ h0.size) (S_cs : Sta Z Z.heap "java/lang/String" "COMPACT_STRINGS" "Z" (.int cs)) (hcs : ¬ cs = (0 : Int32)) (cx0 : Ck x0) (cx1 : Ck x1) :
    MetFree lL (⟨"java/lang/String", "<init>", "([CIILjava/lang/Void;)V"⟩ : MethodName) (head1 (Jvm.Cond.code (⟨"java/lang/String", "<init>", "([CIILjava/lang/Void;)V"⟩ : MethodName) jdk_42_method_149_code 6 none :: ws) ({ frames := 2, cells := 1, slots := 2, locals := 35 } : Room)) (fun as_ uU_ => as_ = #[(.ref a), (.ref s'), (.int (0 : Int32)), (.int (2 : Int32)), .null] ∧ Z.Warmed39 uU_.vm ∧ uU_.heap = h0) (fun _ _ _ _ _ => True) (fun _ uU_ oO_ uE_ => ∃ vV_ lL_, oO_ = .returned vV_ ∧ QS Z a 2 [(.int (((x0).toInt8.toInt32)).toInt8.toInt32), (.int (((x1).toInt8.toInt32)).toInt8.toInt32)] h0 n0 vV_ uE_.heap lL_ ∧ FrameEnd uU_ oO_ uE_ lL_ ({ frames := 2, cells := 1, slots := 2, locals := 35 } : Room).cells ({ frames := 2, cells := 1, slots := 2, locals := 35 } : Room).slots) := by
  refine MetFree.of_bodySF (plainFor_of_name pn_java_2flang_2fString) hisR ?_
  intro pP eE sS mM args below meth cC s₁ Bd hml0 hP hK
  obtain ⟨rfl, hZ, hh⟩ := hP
  have hx := Bd.exec
  have hby := Bd.bytes
  have hml : cC.maxLocals = 6 := hml0
  have hown : sS.vm.findClass "java/lang/String" = some mM.cls := findClass_of_methodNamed Bd.named
  have hnm := (name_of_methodNamed Bd.named Bd.method).1
  have hret := Bd.returns
  have hlk := BodyLoose.notSynchronized Bd
  have X0 : Stand pP lL eE ({ frames := 2, cells := 1, slots := 2, locals := 35 } : Room) sS mM #[(.ref a), (.ref s'), (.int (0 : Int32)), (.int (2 : Int32)), .null] below meth cC s₁ [] 0 0 := Stand.of_body Bd
  have e0 : s₁.heap = h0 := by rw [← hh, Bd.state]; rfl
  have N0 := Fr.nil n0
  show own_Go pP eE below sS (QS Z a 2 [(.int (((x0).toInt8.toInt32)).toInt8.toInt32), (.int (((x1).toInt8.toInt32)).toInt8.toInt32)] h0 n0) 1 2 (s₁.setTop (entryFrame mM #[(.ref a), (.ref s'), (.int (0 : Int32)), (.int (2 : Int32)), .null] 6))
  refine own_st (A := s₁.setTop (mkF mM 0 #[.val (.ref a), .val (.ref s'), .val (.int (0 : Int32)), .val (.int (2 : Int32)), .val .null, .unset] [])) (fun tT_ kK_ => castTop (ef_rmS4_2 mM a s' ks cs x0 x1) kK_) ?_
  have Kp := Keep.refl h0 [a]
  refine own_st (A := s₁.setTop (mkF mM 1 #[.val (.ref a), .val (.ref s'), .val (.int (0 : Int32)), .val (.int (2 : Int32)), .val .null, .unset] [(.ref a)])) (fun tT_ kK_ => XS.aloadN X0.here hx rfl (hb hby d2_0) rfl rfl kK_) ?_
  obtain ⟨T24, X24, e24, st24⟩ := initO X0 hx hZ hown (hw _ (List.mem_of_getElem? (i := 12) rfl)) (hw _ (List.mem_of_getElem? (i := 13) rfl)) (hw _ (List.mem_of_getElem? (i := 14) rfl)) e0 (g := (mkF mM 1 #[.val (.ref a), .val (.ref s'), .val (.int (0 : Int32)), .val (.int (2 : Int32)), .val .null, .unset] [(.ref a)])) rfl (by rw [hml]; rfl) rfl (hb hby d2_1) (by decide) (W := 0) (by show 2 * 0 + _ ≤ _; exact Nat.le_of_eq rfl) (by decide)
  refine own_st (A := T24.setTop (mkF mM 4 #[.val (.ref a), .val (.ref s'), .val (.int (0 : Int32)), .val (.int (2 : Int32)), .val .null, .unset] [])) (fun tT_ kK_ => st24 tT_ kK_) ?_
  refine own_st (A := T24.setTop (mkF mM 5 #[.val (.ref a), .val (.ref s'), .val (.int (0 : Int32)), .val (.int (2 : Int32)), .val .null, .unset] [(.int (2 : Int32))])) (fun tT_ kK_ => XS.iloadN X24.here hx rfl (hb hby d2_4) rfl kK_) ?_
  refine own_st (A := T24.setTop (mkF mM 27 #[.val (.ref a), .val (.ref s'), .val (.int (0 : Int32)), .val (.int (2 : Int32)), .val .null, .unset] [])) (fun tT_ kK_ => XS.ifYes X24.here hx rfl (pc0 := 5) (pc' := 27) rfl (hb hby d2_5) rfl ((if0 _ _).trans (feq (by decide : ¬ ((2 : Int32) = (0 : Int32)))).2) (by decide) (by decide) kK_) ?_
  obtain ⟨T25, X25, e25, st25⟩ := getS2 X24 hx hZ hown (host := "") (Or.inl (hw _ (List.mem_of_getElem? (i := 51) rfl))) Via.refl e24 (S_cs.ext O.2) (g := (mkF mM 27 #[.val (.ref a), .val (.ref s'), .val (.int (0 : Int32)), .val (.int (2 : Int32)), .val .null, .unset] [])) rfl (hb hby d2_27)
  refine own_st (A := T25.setTop (mkF mM 30 #[.val (.ref a), .val (.ref s'), .val (.int (0 : Int32)), .val (.int (2 : Int32)), .val .null, .unset] [(.int cs)])) (fun tT_ kK_ => st25 tT_ kK_) ?_
  refine own_st (A := T25.setTop (mkF mM 33 #[.val (.ref a), .val (.ref s'), .val (.int (0 : Int32)), .val (.int (2 : Int32)), .val .null, .unset] [])) (fun tT_ kK_ => XS.ifNo X25.here hx rfl (hb hby d2_30) rfl ((if0 _ _).trans (feq hcs).1) kK_) ?_
  refine own_st (A := T25.setTop (mkF mM 34 #[.val (.ref a), .val (.ref s'), .val (.int (0 : Int32)), .val (.int (2 : Int32)), .val .null, .unset] [(.ref s')])) (fun tT_ kK_ => XS.aloadN X25.here hx rfl (hb hby d2_33) rfl rfl kK_) ?_
  refine own_st (A := T25.setTop (mkF mM 35 #[.val (.ref a), .val (.ref s'), .val (.int (0 : Int32)), .val (.int (2 : Int32)), .val .null, .unset] [(.int (0 : Int32)), (.ref s')])) (fun tT_ kK_ => XS.iloadN X25.here hx rfl (hb hby d2_34) rfl kK_) ?_
  refine own_st (A := T25.setTop (mkF mM 36 #[.val (.ref a), .val (.ref s'), .val (.int (0 : Int32)), .val (.int (2 : Int32)), .val .null, .unset] [(.int (2 : Int32)), (.int (0 : Int32)), (.ref s')])) (fun tT_ kK_ => XS.iloadN X25.here hx rfl (hb hby d2_35) rfl kK_) ?_
  obtain ⟨_, _, ⟨T26, L26, k26, n26⟩, -, X26, ⟨Lc26, hQ26, l26, y26, z26⟩, st26⟩ := Jvm.LawKit.callS X25 hx (y := (⟨"java/lang/StringUTF16", "compress", "([CII)[B"⟩ : MethodName)) hown (mvT hZ (hw _ (List.mem_of_getElem? (i := 52) rfl))) (mvT hZ (hw _ (List.mem_of_getElem? (i := 53) rfl))) (mvT hZ (hw _ (List.mem_of_getElem? (i := 54) rfl))) (mvT hZ (hw _ (List.mem_of_getElem? (i := 55) rfl))) (by decide) (backOf (W := 0) (rmC3_2 lL Z a0 hw [] s' ks x0 x1 h0 n0 Zn A_s' cx0 cx1) hZ (hw _ (List.mem_of_getElem? (i := 55) rfl)) (hw _ (List.mem_of_getElem? (i := 54) rfl)) (by decide) (by decide)) (g := (mkF mM 36 #[.val (.ref a), .val (.ref s'), .val (.int (0 : Int32)), .val (.int (2 : Int32)), .val .null, .unset] [(.int (2 : Int32)), (.int (0 : Int32)), (.ref s')])) rfl (by rw [hml]; rfl) (argsL := [(.ref s'), (.int (0 : Int32)), (.int (2 : Int32))]) (rest := []) (lenOf pd__28_5bCII_29_5bB rfl) rfl (by show 2 * 0 + _ ≤ _; exact Nat.le_of_eq rfl) (hb hby d2_36) (fun _ _ => ⟨rfl, e25, (by decide : 0 + 1 ≤ _), (by decide : 0 + 2 ≤ _)⟩)
  dsimp only [Pt.U, Pt.locs, Pt.cells, Pt.slots] at X26 l26 y26 z26 st26 hQ26
  subst l26 y26 z26
  obtain ⟨b26, k26', rfl, N26q, E26, V26, ge26⟩ := hQ26
  have N26 := Fr.app N0 N26q
  have e26 : T26.heap = T26.heap := rfl
  refine own_st (A := T26.setTop (mkF mM 39 #[.val (.ref a), .val (.ref s'), .val (.int (0 : Int32)), .val (.int (2 : Int32)), .val .null, .unset] [(.ref b26)])) (fun tT_ kK_ => st26 tT_ kK_) ?_
  have ne_a_b26 : a ≠ b26 := Nat.ne_of_lt (Nat.lt_of_lt_of_le E_a.lt ge26)
  have b_b26 : h0.size ≤ b26 := Nat.le_trans Kp.1 ge26
  have F_a_value := F_a_value.ext E26
  have F_a_coder := F_a_coder.ext E26
  have E_a := E_a.ext E26
  have O := O.ext E26
  have A_s' := A_s'.ext E26
  have Zn := Nat.le_trans Zn E26.1
  have Kp := Kp.ext E26
  have A_b26 := V26
  refine own_st (A := T26.setTop (mkF mM 41 #[.val (.ref a), .val (.ref s'), .val (.int (0 : Int32)), .val (.int (2 : Int32)), .val .null, .val (.ref b26)] [])) (fun tT_ kK_ => XS.astore X26.here hx rfl (hb hby d2_39) rfl rfl (l' := #[.val (.ref a), .val (.ref s'), .val (.int (0 : Int32)), .val (.int (2 : Int32)), .val .null, .val (.ref b26)]) rfl kK_) ?_
  refine own_st (A := T26.setTop (mkF mM 42 #[.val (.ref a), .val (.ref s'), .val (.int (0 : Int32)), .val (.int (2 : Int32)), .val .null, .val (.ref b26)] [(.ref a)])) (fun tT_ kK_ => XS.aloadN X26.here hx rfl (hb hby d2_41) rfl rfl kK_) ?_
  refine own_st (A := T26.setTop (mkF mM 44 #[.val (.ref a), .val (.ref s'), .val (.int (0 : Int32)), .val (.int (2 : Int32)), .val .null, .val (.ref b26)] [(.ref b26), (.ref a)])) (fun tT_ kK_ => XS.aload X26.here hx rfl (hb hby d2_42) rfl rfl kK_) ?_
  refine own_st (A := T26.setTop (mkF mM 45 #[.val (.ref a), .val (.ref s'), .val (.int (0 : Int32)), .val (.int (2 : Int32)), .val .null, .val (.ref b26)] [(.int (2 : Int32)), (.ref b26), (.ref a)])) (fun tT_ kK_ => XS.iloadN X26.here hx rfl (hb hby d2_44) rfl kK_) ?_
  obtain ⟨_, _, ⟨T27, L27, k27, n27⟩, -, X27, ⟨Lc27, hQ27, l27, y27, z27⟩, st27⟩ := Jvm.LawKit.callS X26 hx (y := (⟨"java/lang/StringUTF16", "coderFromArrayLen", "([BI)B"⟩ : MethodName)) hown (mvT hZ (hw _ (List.mem_of_getElem? (i := 59) rfl))) (mvT hZ (hw _ (List.mem_of_getElem? (i := 60) rfl))) (mvT hZ (hw _ (List.mem_of_getElem? (i := 54) rfl))) (mvT hZ (hw _ (List.mem_of_getElem? (i := 61) rfl))) (by decide) (backOf (W := 1) (rmCo_2 lL Z a0 hw [] b26 k26' x0 x1 T26.heap n0 A_b26) hZ (hw _ (List.mem_of_getElem? (i := 61) rfl)) (hw _ (List.mem_of_getElem? (i := 54) rfl)) (by decide) (by decide)) (g := (mkF mM 45 #[.val (.ref a), .val (.ref s'), .val (.int (0 : Int32)), .val (.int (2 : Int32)), .val .null, .val (.ref b26)] [(.int (2 : Int32)), (.ref b26), (.ref a)])) rfl (by rw [hml]; rfl) (argsL := [(.ref b26), (.int (2 : Int32))]) (rest := [(.ref a)]) (lenOf pd__28_5bBI_29B rfl) rfl (by show 2 * 0 + _ ≤ _; exact Nat.le_of_eq rfl) (hb hby d2_45) (fun _ _ => ⟨rfl, e26, (by decide : 1 + 0 ≤ _), (by decide : 2 + 0 ≤ _)⟩)
  dsimp only [Pt.U, Pt.locs, Pt.cells, Pt.slots] at X27 l27 y27 z27 st27 hQ27
  subst l27 y27 z27
  obtain ⟨rfl, N27q, e27⟩ := hQ27
  have N27 := Fr.app N26 N27q
  refine own_st (A := T27.setTop (mkF mM 48 #[.val (.ref a), .val (.ref s'), .val (.int (0 : Int32)), .val (.int (2 : Int32)), .val .null, .val (.ref b26)] [(.int (0 : Int32)), (.ref a)])) (fun tT_ kK_ => st27 tT_ kK_) ?_
  obtain ⟨T28, h28, X28, e28, W28, st28⟩ := putFN X27 hx hZ hown (hw _ (List.mem_of_getElem? (i := 21) rfl)) Via.refl e27 F_a_coder E_a (Or.inr ⟨(hw _ (List.mem_of_getElem? (i := 17) rfl)), rfl, hnm⟩) (hw _ (List.mem_of_getElem? (i := 3) rfl)) (ty := .byte) (v' := (.int (0 : Int32))) (by decide) rfl (by decide) (g := (mkF mM 48 #[.val (.ref a), .val (.ref s'), .val (.int (0 : Int32)), .val (.int (2 : Int32)), .val .null, .val (.ref b26)] [(.int (0 : Int32)), (.ref a)])) rfl rfl (hb hby d2_48)
  have N28 := Fr.snoc X28 N27 g_a
  have F_a_value := F_a_value.other W28 (Or.inr (slot_ne (Or.inr (hw _ (List.mem_of_getElem? (i := 16) rfl))) (Or.inr (hw _ (List.mem_of_getElem? (i := 17) rfl))) (by decide) (t := (.array .byte)) (t' := .byte) (by decide) (by decide)))
  have F_a_coder := F_a_coder.same W28
  have E_a := E_a.wr W28
  have A_s' := A_s'.other W28 nsa
  have A_b26 := A_b26.other W28 (Ne.symm ne_a_b26)
  have O := O.wr W28 g_a
  have Zn := Nat.le_trans Zn (Keep.of_wr W28).1
  have Kp := Kp.wr W28 (Or.inl (List.mem_of_getElem? (i := 0) rfl))
  refine own_st (A := T28.setTop (mkF mM 51 #[.val (.ref a), .val (.ref s'), .val (.int (0 : Int32)), .val (.int (2 : Int32)), .val .null, .val (.ref b26)] [])) (fun tT_ kK_ => st28 tT_ kK_) ?_
  refine own_st (A := T28.setTop (mkF mM 52 #[.val (.ref a), .val (.ref s'), .val (.int (0 : Int32)), .val (.int (2 : Int32)), .val .null, .val (.ref b26)] [(.ref a)])) (fun tT_ kK_ => XS.aloadN X28.here hx rfl (hb hby d2_51) rfl rfl kK_) ?_
  refine own_st (A := T28.setTop (mkF mM 54 #[.val (.ref a), .val (.ref s'), .val (.int (0 : Int32)), .val (.int (2 : Int32)), .val .null, .val (.ref b26)] [(.ref b26), (.ref a)])) (fun tT_ kK_ => XS.aload X28.here hx rfl (hb hby d2_52) rfl rfl kK_) ?_
  obtain ⟨T29, h29, X29, e29, W29, st29⟩ := putF X28 hx hZ hown (host := "") (Or.inl (hw _ (List.mem_of_getElem? (i := 20) rfl))) Via.refl e28 F_a_value E_a (Or.inr ⟨(hw _ (List.mem_of_getElem? (i := 16) rfl)), rfl, hnm⟩) (hw _ (List.mem_of_getElem? (i := 3) rfl)) (ty := (.array .byte)) (by decide) rfl rfl (g := (mkF mM 54 #[.val (.ref a), .val (.ref s'), .val (.int (0 : Int32)), .val (.int (2 : Int32)), .val .null, .val (.ref b26)] [(.ref b26), (.ref a)])) rfl rfl (hb hby d2_54)
  have N29 := Fr.snoc X29 N28 g_a
  have F_a_value := F_a_value.same W29
  have F_a_coder := F_a_coder.other W29 (Or.inr (slot_ne (Or.inr (hw _ (List.mem_of_getElem? (i := 17) rfl))) (Or.inr (hw _ (List.mem_of_getElem? (i := 16) rfl))) (by decide) (t := .byte) (t' := (.array .byte)) (by decide) (by decide)))
  have E_a := E_a.wr W29
  have A_s' := A_s'.other W29 nsa
  have A_b26 := A_b26.other W29 (Ne.symm ne_a_b26)
  have O := O.wr W29 g_a
  have Zn := Nat.le_trans Zn (Keep.of_wr W29).1
  have Kp := Kp.wr W29 (Or.inl (List.mem_of_getElem? (i := 0) rfl))
  refine own_st (A := T29.setTop (mkF mM 57 #[.val (.ref a), .val (.ref s'), .val (.int (0 : Int32)), .val (.int (2 : Int32)), .val .null, .val (.ref b26)] [])) (fun tT_ kK_ => st29 tT_ kK_) ?_
  exact own_retV X29 hx hlk hret (hb hby d2_57) (by rw [e29]; exact ⟨_, _, rfl, N29, Kp, ⟨E_a, F_a_value, F_a_coder, A_b26⟩, b_b26⟩) (by decide) (by decide)
theorem ef_rmS1_2 (mM : MethodId) (a : Addr) (s' : Addr) (ks : ClassId) (cs : Int32) (x0 : Int32) (x1 : Int32) : entryFrame mM #[(.ref a), (.ref s')] 2 = mkF mM 0 #[.val (.ref a), .val (.ref s')] [] := by first | (simp [entryFrame, mkF, argsToLocals, Value.category]; done) | rfl
set_option maxRecDepth 65536 in
set_option maxHeartbeats 40000000 in
theorem rmS1_2 (lL : Launch) (Z : State) (a0 : Array Value) (hw : ∀ d ∈ tables_1, d.before a0 Z = true) (ws : List Jvm.Cond) (a : Addr) (s' : Addr) (ks : ClassId) (cs : Int32) (x0 : Int32) (x1 : Int32) (h0 : Heap) (n0 : Nat) (g_a : n0 ≤ a) (E_a : Exa Z h0 a "java/lang/String") (F_a_value : Fld Z h0 a "java/lang/String" "value" "[B" .null) (F_a_coder : Fld Z h0 a "java/lang/String" "coder" "B" (.int (0 : Int32))) (A_s' : Arv Z h0 s' ks .char 2 [(.int x0), (.int x1)] (.int 0)) (nsa : s' ≠ a) (O : Old Z n0 h0) (Zn : n0 ≤ h0.size) (S_cs : Sta Z Z.heap "java/lang/String" "COMPACT_STRINGS" "Z" (.int cs)) (hcs : ¬ cs = (0 : Int32)) (cx0 : Ck x0) (cx1 : Ck x1) :
    MetFree lL (⟨"java/lang/String", "<init>", "([C)V"⟩ : MethodName) (head1 (Jvm.Cond.code (⟨"java/lang/String", "<init>", "([C)V"⟩ : MethodName) jdk_42_method_3_code 2 none :: ws) ({ frames := 3, cells := 1, slots := 2, locals := 52 } : Room)) (fun as_ uU_ => as_ = #[(.ref a), (.ref s')] ∧ Z.Warmed39 uU_.vm ∧ uU_.heap = h0) (fun _ _ _ _ _ => True) (fun _ uU_ oO_ uE_ => ∃ vV_ lL_, oO_ = .returned vV_ ∧ QS Z a 2 [(.int (((x0).toInt8.toInt32)).toInt8.toInt32), (.int (((x1).toInt8.toInt32)).toInt8.toInt32)] h0 n0 vV_ uE_.heap lL_ ∧ FrameEnd uU_ oO_ uE_ lL_ ({ frames := 3, cells := 1, slots := 2, locals := 52 } : Room).cells ({ frames := 3, cells := 1, slots := 2, locals := 52 } : Room).slots) := by
  refine MetFree.of_bodySF (plainFor_of_name pn_java_2flang_2fString) hisR ?_
  intro pP eE sS mM args below meth cC s₁ Bd hml0 hP hK
  obtain ⟨rfl, hZ, hh⟩ := hP
  have hx := Bd.exec
  have hby := Bd.bytes
  have hml : cC.maxLocals = 2 := hml0
  have hown : sS.vm.findClass "java/lang/String" = some mM.cls := findClass_of_methodNamed Bd.named
  have hnm := (name_of_methodNamed Bd.named Bd.method).1
  have hret := Bd.returns
  have hlk := BodyLoose.notSynchronized Bd
  have X0 : Stand pP lL eE ({ frames := 3, cells := 1, slots := 2, locals := 52 } : Room) sS mM #[(.ref a), (.ref s')] below meth cC s₁ [] 0 0 := Stand.of_body Bd
  have e0 : s₁.heap = h0 := by rw [← hh, Bd.state]; rfl
  have N0 := Fr.nil n0
  show own_Go pP eE below sS (QS Z a 2 [(.int (((x0).toInt8.toInt32)).toInt8.toInt32), (.int (((x1).toInt8.toInt32)).toInt8.toInt32)] h0 n0) 1 2 (s₁.setTop (entryFrame mM #[(.ref a), (.ref s')] 2))
  refine own_st (A := s₁.setTop (mkF mM 0 #[.val (.ref a), .val (.ref s')] [])) (fun tT_ kK_ => castTop (ef_rmS1_2 mM a s' ks cs x0 x1) kK_) ?_
  refine own_st (A := s₁.setTop (mkF mM 1 #[.val (.ref a), .val (.ref s')] [(.ref a)])) (fun tT_ kK_ => XS.aloadN X0.here hx rfl (hb hby d1_0) rfl rfl kK_) ?_
  refine own_st (A := s₁.setTop (mkF mM 2 #[.val (.ref a), .val (.ref s')] [(.ref s'), (.ref a)])) (fun tT_ kK_ => XS.aloadN X0.here hx rfl (hb hby d1_1) rfl rfl kK_) ?_
  refine own_st (A := s₁.setTop (mkF mM 3 #[.val (.ref a), .val (.ref s')] [(.int (0 : Int32)), (.ref s'), (.ref a)])) (fun tT_ kK_ => XS.iconst X0.here hx rfl (hb hby d1_2) kK_) ?_
  refine own_st (A := s₁.setTop (mkF mM 4 #[.val (.ref a), .val (.ref s')] [(.ref s'), (.int (0 : Int32)), (.ref s'), (.ref a)])) (fun tT_ kK_ => XS.aloadN X0.here hx rfl (hb hby d1_3) rfl rfl kK_) ?_
  obtain ⟨cl30, Ar30, q30, S30, Nn30, H30, G30⟩ := id A_s'
  refine own_st (A := s₁.setTop (mkF mM 5 #[.val (.ref a), .val (.ref s')] [(.int (2 : Int32)), (.int (0 : Int32)), (.ref s'), (.ref a)])) (fun tT_ kK_ => X0.arraylength hx (by rw [e0]; exact Ar30.1) (State.isArrayOf_alike hZ.alike Ar30.2.1) (g := (mkF mM 4 #[.val (.ref a), .val (.ref s')] [(.ref s'), (.int (0 : Int32)), (.ref s'), (.ref a)])) rfl rfl (hb hby d1_4) tT_ (by rw [len_of S30 Nn30]; exact kK_)) ?_
  refine own_st (A := s₁.setTop (mkF mM 6 #[.val (.ref a), .val (.ref s')] [.null, (.int (2 : Int32)), (.int (0 : Int32)), (.ref s'), (.ref a)])) (fun tT_ kK_ => XS.aconstNull X0.here hx rfl (hb hby d1_5) kK_) ?_
  obtain ⟨_, _, ⟨T31, L31, k31, n31⟩, -, X31, ⟨Lc31, hQ31, l31, y31, z31⟩, st31⟩ := X0.specialBack hx (y := (⟨"java/lang/String", "<init>", "([CIILjava/lang/Void;)V"⟩ : MethodName)) rfl hown (mvT hZ (hw _ (List.mem_of_getElem? (i := 8) rfl))) (mvT hZ (hw _ (List.mem_of_getElem? (i := 9) rfl))) (mvT hZ (hw _ (List.mem_of_getElem? (i := 11) rfl))) (by decide) (backOf (W := 0) (rmS4_2 lL Z a0 hw [] a s' ks cs x0 x1 h0 n0 g_a E_a F_a_value F_a_coder A_s' nsa O Zn S_cs hcs cx0 cx1) hZ (hw _ (List.mem_of_getElem? (i := 11) rfl)) (hw _ (List.mem_of_getElem? (i := 4) rfl)) (by decide) (by decide)) (g := (mkF mM 6 #[.val (.ref a), .val (.ref s')] [.null, (.int (2 : Int32)), (.int (0 : Int32)), (.ref s'), (.ref a)])) rfl (by rw [hml]; rfl) (Steps.refl _) (a := a) (argsL := [(.ref s'), (.int (0 : Int32)), (.int (2 : Int32)), .null]) (rest := []) (lenOf pd__28_5bCIILjava_2flang_2fVoid_3b_29V rfl) rfl (by show 2 * 0 + _ ≤ _; exact Nat.le_of_eq rfl) (hb hby d1_6) (fun _ _ => ⟨rfl, e0, (by decide : 0 + 1 ≤ _), (by decide : 0 + 2 ≤ _)⟩)
  dsimp only [Pt.U, Pt.locs, Pt.cells, Pt.slots] at X31 l31 y31 z31 st31 hQ31
  subst l31 y31 z31
  obtain ⟨d31, k31', rfl, N31q, R31⟩ := hQ31
  have N31 := Fr.app N0 N31q
  have e31 : T31.heap = T31.heap := rfl
  refine own_st (A := T31.setTop (mkF mM 9 #[.val (.ref a), .val (.ref s')] [])) (fun tT_ kK_ => st31.trans kK_) ?_
  exact own_retV X31 hx hlk hret (hb hby d1_9) ⟨_, _, rfl, N31, R31⟩ (by decide) (by decide)
theorem ef_rmC5_3 (mM : MethodId) (s' : Addr) (ks : ClassId) (d : Addr) (kd : ClassId) (x0 : Int32) (x1 : Int32) (x2 : Int32) : entryFrame mM #[(.ref s'), (.int (0 : Int32)), (.ref d), (.int (0 : Int32)), (.int (3 : Int32))] 7 = mkF mM 0 #[.val (.ref s'), .val (.int (0 : Int32)), .val (.ref d), .val (.int (0 : Int32)), .val (.int (3 : Int32)), .unset, .unset] [] := by first | (simp [entryFrame, mkF, argsToLocals, Value.category]; done) | rfl
set_option maxRecDepth 65536 in
set_option maxHeartbeats 40000000 in
theorem rmC5_3 (lL : Launch) (Z : State) (a0 : Array Value) (hw : ∀ d ∈ tables_1, d.before a0 Z = true) (ws : List Jvm.Cond) (s' : Addr) (ks : ClassId) (d : Addr) (kd : ClassId) (x0 : Int32) (x1 : Int32) (x2 : Int32) (h0 : Heap) (n0 : Nat) (A_s' : Arv Z h0 s' ks .char 3 [(.int x0), (.int x1), (.int x2)] (.int 0)) (A_d : Arv Z h0 d kd .byte 3 [(.int 0), (.int 0), (.int 0)] (.int 0)) (g_d : n0 ≤ d) (nsd : s' ≠ d) (cx0 : Ck x0) (cx1 : Ck x1) (cx2 : Ck x2) :
    MetFree lL (⟨"java/lang/StringUTF16", "compress", "([CI[BII)I"⟩ : MethodName) (head1 (Jvm.Cond.code (⟨"java/lang/StringUTF16", "compress", "([CI[BII)I"⟩ : MethodName) jdk_52_method_21_code 7 (some .int) :: ws) ({ frames := 0, cells := 0, slots := 0, locals := 0 } : Room)) (fun as_ uU_ => as_ = #[(.ref s'), (.int (0 : Int32)), (.ref d), (.int (0 : Int32)), (.int (3 : Int32))] ∧ Z.Warmed39 uU_.vm ∧ uU_.heap = h0) (fun _ _ _ _ _ => True) (fun _ uU_ oO_ uE_ => ∃ vV_ lL_, oO_ = .returned vV_ ∧ QC5 Z d kd 3 [(.int (((x0).toInt8.toInt32)).toInt8.toInt32), (.int (((x1).toInt8.toInt32)).toInt8.toInt32), (.int (((x2).toInt8.toInt32)).toInt8.toInt32)] h0 n0 vV_ uE_.heap lL_ ∧ FrameEnd uU_ oO_ uE_ lL_ ({ frames := 0, cells := 0, slots := 0, locals := 0 } : Room).cells ({ frames := 0, cells := 0, slots := 0, locals := 0 } : Room).slots) := by
  refine MetFree.of_bodySF (plainFor_of_name pn_java_2flang_2fStringUTF16) hisR ?_
  intro pP eE sS mM args below meth cC s₁ Bd hml0 hP hK
  obtain ⟨rfl, hZ, hh⟩ := hP
  have hx := Bd.exec
  have hby := Bd.bytes
  have hml : cC.maxLocals = 7 := hml0
  have hown : sS.vm.findClass "java/lang/StringUTF16" = some mM.cls := findClass_of_methodNamed Bd.named
  have hnm := (name_of_methodNamed Bd.named Bd.method).1
  have hret := Bd.returns
  have hlk := BodyLoose.notSynchronized Bd
  have X0 : Stand pP lL eE ({ frames := 0, cells := 0, slots := 0, locals := 0 } : Room) sS mM #[(.ref s'), (.int (0 : Int32)), (.ref d), (.int (0 : Int32)), (.int (3 : Int32))] below meth cC s₁ [] 0 0 := Stand.of_body Bd
  have e0 : s₁.heap = h0 := by rw [← hh, Bd.state]; rfl
  have N0 := Fr.nil n0
  show own_Go pP eE below sS (QC5 Z d kd 3 [(.int (((x0).toInt8.toInt32)).toInt8.toInt32), (.int (((x1).toInt8.toInt32)).toInt8.toInt32), (.int (((x2).toInt8.toInt32)).toInt8.toInt32)] h0 n0) 0 0 (s₁.setTop (entryFrame mM #[(.ref s'), (.int (0 : Int32)), (.ref d), (.int (0 : Int32)), (.int (3 : Int32))] 7))
  refine own_st (A := s₁.setTop (mkF mM 0 #[.val (.ref s'), .val (.int (0 : Int32)), .val (.ref d), .val (.int (0 : Int32)), .val (.int (3 : Int32)), .unset, .unset] [])) (fun tT_ kK_ => castTop (ef_rmC5_3 mM s' ks d kd x0 x1 x2) kK_) ?_
  have Kp := Keep.refl h0 [d]
  refine own_st (A := s₁.setTop (mkF mM 1 #[.val (.ref s'), .val (.int (0 : Int32)), .val (.ref d), .val (.int (0 : Int32)), .val (.int (3 : Int32)), .unset, .unset] [(.int (0 : Int32))])) (fun tT_ kK_ => XS.iconst X0.here hx rfl (hb hby d9_0) kK_) ?_
  refine own_st (A := s₁.setTop (mkF mM 3 #[.val (.ref s'), .val (.int (0 : Int32)), .val (.ref d), .val (.int (0 : Int32)), .val (.int (3 : Int32)), .val (.int (0 : Int32)), .unset] [])) (fun tT_ kK_ => XS.istore X0.here hx rfl (hb hby d9_1) rfl (l' := #[.val (.ref s'), .val (.int (0 : Int32)), .val (.ref d), .val (.int (0 : Int32)), .val (.int (3 : Int32)), .val (.int (0 : Int32)), .unset]) rfl kK_) ?_
  refine own_st (A := s₁.setTop (mkF mM 5 #[.val (.ref s'), .val (.int (0 : Int32)), .val (.ref d), .val (.int (0 : Int32)), .val (.int (3 : Int32)), .val (.int (0 : Int32)), .unset] [(.int (0 : Int32))])) (fun tT_ kK_ => XS.iload X0.here hx rfl (hb hby d9_3) rfl kK_) ?_
  refine own_st (A := s₁.setTop (mkF mM 7 #[.val (.ref s'), .val (.int (0 : Int32)), .val (.ref d), .val (.int (0 : Int32)), .val (.int (3 : Int32)), .val (.int (0 : Int32)), .unset] [(.int (3 : Int32)), (.int (0 : Int32))])) (fun tT_ kK_ => XS.iload X0.here hx rfl (hb hby d9_5) rfl kK_) ?_
  refine own_st (A := s₁.setTop (mkF mM 10 #[.val (.ref s'), .val (.int (0 : Int32)), .val (.ref d), .val (.int (0 : Int32)), .val (.int (3 : Int32)), .val (.int (0 : Int32)), .unset] [])) (fun tT_ kK_ => XS.icmpNo X0.here hx rfl (hb hby d9_7) rfl (tlt (by decide : ((0 : Int32) < (3 : Int32)))).2.1 kK_) ?_
  refine own_st (A := s₁.setTop (mkF mM 11 #[.val (.ref s'), .val (.int (0 : Int32)), .val (.ref d), .val (.int (0 : Int32)), .val (.int (3 : Int32)), .val (.int (0 : Int32)), .unset] [(.ref s')])) (fun tT_ kK_ => XS.aloadN X0.here hx rfl (hb hby d9_10) rfl rfl kK_) ?_
  refine own_st (A := s₁.setTop (mkF mM 12 #[.val (.ref s'), .val (.int (0 : Int32)), .val (.ref d), .val (.int (0 : Int32)), .val (.int (3 : Int32)), .val (.int (0 : Int32)), .unset] [(.int (0 : Int32)), (.ref s')])) (fun tT_ kK_ => XS.iloadN X0.here hx rfl (hb hby d9_11) rfl kK_) ?_
  obtain ⟨cl32, Ar32, q32, S32, Nn32, H32, G32⟩ := id A_s'
  have hin32 : ¬ ((0 : Int32) < 0 ∨ cl32.slots.size ≤ ((0 : Int32)).toNatClampNeg) := inb_of S32 ⟨by decide, by decide⟩
  refine own_st (A := s₁.setTop (mkF mM 13 #[.val (.ref s'), .val (.int (0 : Int32)), .val (.ref d), .val (.int (0 : Int32)), .val (.int (3 : Int32)), .val (.int (0 : Int32)), .unset] [(.int x0)])) (fun tT_ kK_ => X0.caload hx (j := (0 : Int32)) (v := (.int x0)) (by rw [e0]; exact Ar32.1) (State.isArrayOf_alike hZ.alike Ar32.2.1) Ar32.2.2 hin32 (H32.at hin32 rfl) (g := (mkF mM 12 #[.val (.ref s'), .val (.int (0 : Int32)), .val (.ref d), .val (.int (0 : Int32)), .val (.int (3 : Int32)), .val (.int (0 : Int32)), .unset] [(.int (0 : Int32)), (.ref s')])) rfl rfl (hb hby d9_12) tT_ kK_) ?_
  refine own_st (A := s₁.setTop (mkF mM 15 #[.val (.ref s'), .val (.int (0 : Int32)), .val (.ref d), .val (.int (0 : Int32)), .val (.int (3 : Int32)), .val (.int (0 : Int32)), .val (.int x0)] [])) (fun tT_ kK_ => XS.istore X0.here hx rfl (hb hby d9_13) rfl (l' := #[.val (.ref s'), .val (.int (0 : Int32)), .val (.ref d), .val (.int (0 : Int32)), .val (.int (3 : Int32)), .val (.int (0 : Int32)), .val (.int x0)]) rfl kK_) ?_
  refine own_st (A := s₁.setTop (mkF mM 17 #[.val (.ref s'), .val (.int (0 : Int32)), .val (.ref d), .val (.int (0 : Int32)), .val (.int (3 : Int32)), .val (.int (0 : Int32)), .val (.int x0)] [(.int x0)])) (fun tT_ kK_ => XS.iload X0.here hx rfl (hb hby d9_15) rfl kK_) ?_
  refine own_st (A := s₁.setTop (mkF mM 20 #[.val (.ref s'), .val (.int (0 : Int32)), .val (.ref d), .val (.int (0 : Int32)), .val (.int (3 : Int32)), .val (.int (0 : Int32)), .val (.int x0)] [(.int (255 : Int32)), (.int x0)])) (fun tT_ kK_ => XS.sipush X0.here hx rfl (hb hby d9_17) kK_) ?_
  refine own_st (A := s₁.setTop (mkF mM 26 #[.val (.ref s'), .val (.int (0 : Int32)), .val (.ref d), .val (.int (0 : Int32)), .val (.int (3 : Int32)), .val (.int (0 : Int32)), .val (.int x0)] [])) (fun tT_ kK_ => XS.icmpYes X0.here hx rfl (pc0 := 20) (pc' := 26) rfl (hb hby d9_20) rfl (flt cx0.2.1).2.2.2 (by decide) (by decide) kK_) ?_
  refine own_st (A := s₁.setTop (mkF mM 27 #[.val (.ref s'), .val (.int (0 : Int32)), .val (.ref d), .val (.int (0 : Int32)), .val (.int (3 : Int32)), .val (.int (0 : Int32)), .val (.int x0)] [(.ref d)])) (fun tT_ kK_ => XS.aloadN X0.here hx rfl (hb hby d9_26) rfl rfl kK_) ?_
  refine own_st (A := s₁.setTop (mkF mM 28 #[.val (.ref s'), .val (.int (0 : Int32)), .val (.ref d), .val (.int (0 : Int32)), .val (.int (3 : Int32)), .val (.int (0 : Int32)), .val (.int x0)] [(.int (0 : Int32)), (.ref d)])) (fun tT_ kK_ => XS.iloadN X0.here hx rfl (hb hby d9_27) rfl kK_) ?_
  refine own_st (A := s₁.setTop (mkF mM 30 #[.val (.ref s'), .val (.int (0 : Int32)), .val (.ref d), .val (.int (0 : Int32)), .val (.int (3 : Int32)), .val (.int (0 : Int32)), .val (.int x0)] [(.int x0), (.int (0 : Int32)), (.ref d)])) (fun tT_ kK_ => XS.iload X0.here hx rfl (hb hby d9_28) rfl kK_) ?_
  refine own_st (A := s₁.setTop (mkF mM 31 #[.val (.ref s'), .val (.int (0 : Int32)), .val (.ref d), .val (.int (0 : Int32)), .val (.int (3 : Int32)), .val (.int (0 : Int32)), .val (.int x0)] [(.int ((x0).toInt8.toInt32)), (.int (0 : Int32)), (.ref d)])) (fun tT_ kK_ => XS.i2b X0.here hx rfl (hb hby d9_30) rfl kK_) ?_
  obtain ⟨cl33, Ar33, q33, S33, Nn33, H33, G33⟩ := id A_d
  obtain ⟨T34, h34, X34, e34, W34, st34⟩ := stB X0 hx hZ e0 Ar33 (j := (0 : Int32)) (inb_of S33 ⟨by decide, by decide⟩) (g := (mkF mM 31 #[.val (.ref s'), .val (.int (0 : Int32)), .val (.ref d), .val (.int (0 : Int32)), .val (.int (3 : Int32)), .val (.int (0 : Int32)), .val (.int x0)] [(.int ((x0).toInt8.toInt32)), (.int (0 : Int32)), (.ref d)])) rfl rfl (hb hby d9_31)
  have N34 := Fr.snoc X34 N0 g_d
  have A_s' := A_s'.other W34 nsd
  have Kp := Kp.wr W34 (Or.inl (List.mem_of_getElem? (i := 0) rfl))
  have A_d : Arv Z h34 d kd .byte 3 [(.int (((x0).toInt8.toInt32)).toInt8.toInt32), (.int (0 : Int32)), (.int (0 : Int32))] (.int (0 : Int32)) := Arv.set Ar33 q33 S33 Nn33 H33 G33 (fits_nar_byte _) W34 0 rfl (Nat.le_of_ble_eq_true rfl)
  refine own_st (A := T34.setTop (mkF mM 32 #[.val (.ref s'), .val (.int (0 : Int32)), .val (.ref d), .val (.int (0 : Int32)), .val (.int (3 : Int32)), .val (.int (0 : Int32)), .val (.int x0)] [])) (fun tT_ kK_ => st34 tT_ kK_) ?_
  refine own_st (A := T34.setTop (mkF mM 35 #[.val (.ref s'), .val (.int (1 : Int32)), .val (.ref d), .val (.int (0 : Int32)), .val (.int (3 : Int32)), .val (.int (0 : Int32)), .val (.int x0)] [])) (fun tT_ kK_ => XS.iinc X34.here hx rfl (hb hby d9_32) rfl (l' := #[.val (.ref s'), .val (.int (1 : Int32)), .val (.ref d), .val (.int (0 : Int32)), .val (.int (3 : Int32)), .val (.int (0 : Int32)), .val (.int x0)]) rfl kK_) ?_
  refine own_st (A := T34.setTop (mkF mM 38 #[.val (.ref s'), .val (.int (1 : Int32)), .val (.ref d), .val (.int (1 : Int32)), .val (.int (3 : Int32)), .val (.int (0 : Int32)), .val (.int x0)] [])) (fun tT_ kK_ => XS.iinc X34.here hx rfl (hb hby d9_35) rfl (l' := #[.val (.ref s'), .val (.int (1 : Int32)), .val (.ref d), .val (.int (1 : Int32)), .val (.int (3 : Int32)), .val (.int (0 : Int32)), .val (.int x0)]) rfl kK_) ?_
  refine own_st (A := T34.setTop (mkF mM 41 #[.val (.ref s'), .val (.int (1 : Int32)), .val (.ref d), .val (.int (1 : Int32)), .val (.int (3 : Int32)), .val (.int (1 : Int32)), .val (.int x0)] [])) (fun tT_ kK_ => XS.iinc X34.here hx rfl (hb hby d9_38) rfl (l' := #[.val (.ref s'), .val (.int (1 : Int32)), .val (.ref d), .val (.int (1 : Int32)), .val (.int (3 : Int32)), .val (.int (1 : Int32)), .val (.int x0)]) rfl kK_) ?_
  refine own_st (A := T34.setTop (mkF mM 3 #[.val (.ref s'), .val (.int (1 : Int32)), .val (.ref d), .val (.int (1 : Int32)), .val (.int (3 : Int32)), .val (.int (1 : Int32)), .val (.int x0)] [])) (fun tT_ kK_ => XS.goto X34.here hx rfl (pc0 := 41) (pc' := 3) rfl (hb hby d9_41) (by decide) (by decide) kK_) ?_
  refine own_st (A := T34.setTop (mkF mM 5 #[.val (.ref s'), .val (.int (1 : Int32)), .val (.ref d), .val (.int (1 : Int32)), .val (.int (3 : Int32)), .val (.int (1 : Int32)), .val (.int x0)] [(.int (1 : Int32))])) (fun tT_ kK_ => XS.iload X34.here hx rfl (hb hby d9_3) rfl kK_) ?_
  refine own_st (A := T34.setTop (mkF mM 7 #[.val (.ref s'), .val (.int (1 : Int32)), .val (.ref d), .val (.int (1 : Int32)), .val (.int (3 : Int32)), .val (.int (1 : Int32)), .val (.int x0)] [(.int (3 : Int32)), (.int (1 : Int32))])) (fun tT_ kK_ => XS.iload X34.here hx rfl (hb hby d9_5) rfl kK_) ?_
  refine own_st (A := T34.setTop (mkF mM 10 #[.val (.ref s'), .val (.int (1 : Int32)), .val (.ref d), .val (.int (1 : Int32)), .val (.int (3 : Int32)), .val (.int (1 : Int32)), .val (.int x0)] [])) (fun tT_ kK_ => XS.icmpNo X34.here hx rfl (hb hby d9_7) rfl (tlt (by decide : ((1 : Int32) < (3 : Int32)))).2.1 kK_) ?_
  refine own_st (A := T34.setTop (mkF mM 11 #[.val (.ref s'), .val (.int (1 : Int32)), .val (.ref d), .val (.int (1 : Int32)), .val (.int (3 : Int32)), .val (.int (1 : Int32)), .val (.int x0)] [(.ref s')])) (fun tT_ kK_ => XS.aloadN X34.here hx rfl (hb hby d9_10) rfl rfl kK_) ?_
  refine own_st (A := T34.setTop (mkF mM 12 #[.val (.ref s'), .val (.int (1 : Int32)), .val (.ref d), .val (.int (1 : Int32)), .val (.int (3 : Int32)), .val (.int (1 : Int32)), .val (.int x0)] [(.int (1 : Int32)), (.ref s')])) (fun tT_ kK_ => XS.iloadN X34.here hx rfl (hb hby d9_11) rfl kK_) ?_
  obtain ⟨cl35, Ar35, q35, S35, Nn35, H35, G35⟩ := id A_s'
  have hin35 : ¬ ((1 : Int32) < 0 ∨ cl35.slots.size ≤ ((1 : Int32)).toNatClampNeg) := inb_of S35 ⟨by decide, by decide⟩
  refine own_st (A := T34.setTop (mkF mM 13 #[.val (.ref s'), .val (.int (1 : Int32)), .val (.ref d), .val (.int (1 : Int32)), .val (.int (3 : Int32)), .val (.int (1 : Int32)), .val (.int x0)] [(.int x1)])) (fun tT_ kK_ => X34.caload hx (j := (1 : Int32)) (v := (.int x1)) (by rw [e34]; exact Ar35.1) (State.isArrayOf_alike hZ.alike Ar35.2.1) Ar35.2.2 hin35 (H35.at hin35 rfl) (g := (mkF mM 12 #[.val (.ref s'), .val (.int (1 : Int32)), .val (.ref d), .val (.int (1 : Int32)), .val (.int (3 : Int32)), .val (.int (1 : Int32)), .val (.int x0)] [(.int (1 : Int32)), (.ref s')])) rfl rfl (hb hby d9_12) tT_ kK_) ?_
  refine own_st (A := T34.setTop (mkF mM 15 #[.val (.ref s'), .val (.int (1 : Int32)), .val (.ref d), .val (.int (1 : Int32)), .val (.int (3 : Int32)), .val (.int (1 : Int32)), .val (.int x1)] [])) (fun tT_ kK_ => XS.istore X34.here hx rfl (hb hby d9_13) rfl (l' := #[.val (.ref s'), .val (.int (1 : Int32)), .val (.ref d), .val (.int (1 : Int32)), .val (.int (3 : Int32)), .val (.int (1 : Int32)), .val (.int x1)]) rfl kK_) ?_
  refine own_st (A := T34.setTop (mkF mM 17 #[.val (.ref s'), .val (.int (1 : Int32)), .val (.ref d), .val (.int (1 : Int32)), .val (.int (3 : Int32)), .val (.int (1 : Int32)), .val (.int x1)] [(.int x1)])) (fun tT_ kK_ => XS.iload X34.here hx rfl (hb hby d9_15) rfl kK_) ?_
  refine own_st (A := T34.setTop (mkF mM 20 #[.val (.ref s'), .val (.int (1 : Int32)), .val (.ref d), .val (.int (1 : Int32)), .val (.int (3 : Int32)), .val (.int (1 : Int32)), .val (.int x1)] [(.int (255 : Int32)), (.int x1)])) (fun tT_ kK_ => XS.sipush X34.here hx rfl (hb hby d9_17) kK_) ?_
  refine own_st (A := T34.setTop (mkF mM 26 #[.val (.ref s'), .val (.int (1 : Int32)), .val (.ref d), .val (.int (1 : Int32)), .val (.int (3 : Int32)), .val (.int (1 : Int32)), .val (.int x1)] [])) (fun tT_ kK_ => XS.icmpYes X34.here hx rfl (pc0 := 20) (pc' := 26) rfl (hb hby d9_20) rfl (flt cx1.2.1).2.2.2 (by decide) (by decide) kK_) ?_
  refine own_st (A := T34.setTop (mkF mM 27 #[.val (.ref s'), .val (.int (1 : Int32)), .val (.ref d), .val (.int (1 : Int32)), .val (.int (3 : Int32)), .val (.int (1 : Int32)), .val (.int x1)] [(.ref d)])) (fun tT_ kK_ => XS.aloadN X34.here hx rfl (hb hby d9_26) rfl rfl kK_) ?_
  refine own_st (A := T34.setTop (mkF mM 28 #[.val (.ref s'), .val (.int (1 : Int32)), .val (.ref d), .val (.int (1 : Int32)), .val (.int (3 : Int32)), .val (.int (1 : Int32)), .val (.int x1)] [(.int (1 : Int32)), (.ref d)])) (fun tT_ kK_ => XS.iloadN X34.here hx rfl (hb hby d9_27) rfl kK_) ?_
  refine own_st (A := T34.setTop (mkF mM 30 #[.val (.ref s'), .val (.int (1 : Int32)), .val (.ref d), .val (.int (1 : Int32)), .val (.int (3 : Int32)), .val (.int (1 : Int32)), .val (.int x1)] [(.int x1), (.int (1 : Int32)), (.ref d)])) (fun tT_ kK_ => XS.iload X34.here hx rfl (hb hby d9_28) rfl kK_) ?_
  refine own_st (A := T34.setTop (mkF mM 31 #[.val (.ref s'), .val (.int (1 : Int32)), .val (.ref d), .val (.int (1 : Int32)), .val (.int (3 : Int32)), .val (.int (1 : Int32)), .val (.int x1)] [(.int ((x1).toInt8.toInt32)), (.int (1 : Int32)), (.ref d)])) (fun tT_ kK_ => XS.i2b X34.here hx rfl (hb hby d9_30) rfl kK_) ?_
  obtain ⟨cl36, Ar36, q36, S36, Nn36, H36, G36⟩ := id A_d
  obtain ⟨T37, h37, X37, e37, W37, st37⟩ := stB X34 hx hZ e34 Ar36 (j := (1 : Int32)) (inb_of S36 ⟨by decide, by decide⟩) (g := (mkF mM 31 #[.val (.ref s'), .val (.int (1 : Int32)), .val (.ref d), .val (.int (1 : Int32)), .val (.int (3 : Int32)), .val (.int (1 : Int32)), .val (.int x1)] [(.int ((x1).toInt8.toInt32)), (.int (1 : Int32)), (.ref d)])) rfl rfl (hb hby d9_31)
  have N37 := Fr.snoc X37 N34 g_d
  have A_s' := A_s'.other W37 nsd
  have Kp := Kp.wr W37 (Or.inl (List.mem_of_getElem? (i := 0) rfl))
  have A_d : Arv Z h37 d kd .byte 3 [(.int (((x0).toInt8.toInt32)).toInt8.toInt32), (.int (((x1).toInt8.toInt32)).toInt8.toInt32), (.int (0 : Int32))] (.int (0 : Int32)) := Arv.set Ar36 q36 S36 Nn36 H36 G36 (fits_nar_byte _) W37 1 rfl (Nat.le_of_ble_eq_true rfl)
  refine own_st (A := T37.setTop (mkF mM 32 #[.val (.ref s'), .val (.int (1 : Int32)), .val (.ref d), .val (.int (1 : Int32)), .val (.int (3 : Int32)), .val (.int (1 : Int32)), .val (.int x1)] [])) (fun tT_ kK_ => st37 tT_ kK_) ?_
  refine own_st (A := T37.setTop (mkF mM 35 #[.val (.ref s'), .val (.int (2 : Int32)), .val (.ref d), .val (.int (1 : Int32)), .val (.int (3 : Int32)), .val (.int (1 : Int32)), .val (.int x1)] [])) (fun tT_ kK_ => XS.iinc X37.here hx rfl (hb hby d9_32) rfl (l' := #[.val (.ref s'), .val (.int (2 : Int32)), .val (.ref d), .val (.int (1 : Int32)), .val (.int (3 : Int32)), .val (.int (1 : Int32)), .val (.int x1)]) rfl kK_) ?_
  refine own_st (A := T37.setTop (mkF mM 38 #[.val (.ref s'), .val (.int (2 : Int32)), .val (.ref d), .val (.int (2 : Int32)), .val (.int (3 : Int32)), .val (.int (1 : Int32)), .val (.int x1)] [])) (fun tT_ kK_ => XS.iinc X37.here hx rfl (hb hby d9_35) rfl (l' := #[.val (.ref s'), .val (.int (2 : Int32)), .val (.ref d), .val (.int (2 : Int32)), .val (.int (3 : Int32)), .val (.int (1 : Int32)), .val (.int x1)]) rfl kK_) ?_
  refine own_st (A := T37.setTop (mkF mM 41 #[.val (.ref s'), .val (.int (2 : Int32)), .val (.ref d), .val (.int (2 : Int32)), .val (.int (3 : Int32)), .val (.int (2 : Int32)), .val (.int x1)] [])) (fun tT_ kK_ => XS.iinc X37.here hx rfl (hb hby d9_38) rfl (l' := #[.val (.ref s'), .val (.int (2 : Int32)), .val (.ref d), .val (.int (2 : Int32)), .val (.int (3 : Int32)), .val (.int (2 : Int32)), .val (.int x1)]) rfl kK_) ?_
  refine own_st (A := T37.setTop (mkF mM 3 #[.val (.ref s'), .val (.int (2 : Int32)), .val (.ref d), .val (.int (2 : Int32)), .val (.int (3 : Int32)), .val (.int (2 : Int32)), .val (.int x1)] [])) (fun tT_ kK_ => XS.goto X37.here hx rfl (pc0 := 41) (pc' := 3) rfl (hb hby d9_41) (by decide) (by decide) kK_) ?_
  refine own_st (A := T37.setTop (mkF mM 5 #[.val (.ref s'), .val (.int (2 : Int32)), .val (.ref d), .val (.int (2 : Int32)), .val (.int (3 : Int32)), .val (.int (2 : Int32)), .val (.int x1)] [(.int (2 : Int32))])) (fun tT_ kK_ => XS.iload X37.here hx rfl (hb hby d9_3) rfl kK_) ?_
  refine own_st (A := T37.setTop (mkF mM 7 #[.val (.ref s'), .val (.int (2 : Int32)), .val (.ref d), .val (.int (2 : Int32)), .val (.int (3 : Int32)), .val (.int (2 : Int32)), .val (.int x1)] [(.int (3 : Int32)), (.int (2 : Int32))])) (fun tT_ kK_ => XS.iload X37.here hx rfl (hb hby d9_5) rfl kK_) ?_
  refine own_st (A := T37.setTop (mkF mM 10 #[.val (.ref s'), .val (.int (2 : Int32)), .val (.ref d), .val (.int (2 : Int32)), .val (.int (3 : Int32)), .val (.int (2 : Int32)), .val (.int x1)] [])) (fun tT_ kK_ => XS.icmpNo X37.here hx rfl (hb hby d9_7) rfl (tlt (by decide : ((2 : Int32) < (3 : Int32)))).2.1 kK_) ?_
  refine own_st (A := T37.setTop (mkF mM 11 #[.val (.ref s'), .val (.int (2 : Int32)), .val (.ref d), .val (.int (2 : Int32)), .val (.int (3 : Int32)), .val (.int (2 : Int32)), .val (.int x1)] [(.ref s')])) (fun tT_ kK_ => XS.aloadN X37.here hx rfl (hb hby d9_10) rfl rfl kK_) ?_
  refine own_st (A := T37.setTop (mkF mM 12 #[.val (.ref s'), .val (.int (2 : Int32)), .val (.ref d), .val (.int (2 : Int32)), .val (.int (3 : Int32)), .val (.int (2 : Int32)), .val (.int x1)] [(.int (2 : Int32)), (.ref s')])) (fun tT_ kK_ => XS.iloadN X37.here hx rfl (hb hby d9_11) rfl kK_) ?_
  obtain ⟨cl38, Ar38, q38, S38, Nn38, H38, G38⟩ := id A_s'
  have hin38 : ¬ ((2 : Int32) < 0 ∨ cl38.slots.size ≤ ((2 : Int32)).toNatClampNeg) := inb_of S38 ⟨by decide, by decide⟩
  refine own_st (A := T37.setTop (mkF mM 13 #[.val (.ref s'), .val (.int (2 : Int32)), .val (.ref d), .val (.int (2 : Int32)), .val (.int (3 : Int32)), .val (.int (2 : Int32)), .val (.int x1)] [(.int x2)])) (fun tT_ kK_ => X37.caload hx (j := (2 : Int32)) (v := (.int x2)) (by rw [e37]; exact Ar38.1) (State.isArrayOf_alike hZ.alike Ar38.2.1) Ar38.2.2 hin38 (H38.at hin38 rfl) (g := (mkF mM 12 #[.val (.ref s'), .val (.int (2 : Int32)), .val (.ref d), .val (.int (2 : Int32)), .val (.int (3 : Int32)), .val (.int (2 : Int32)), .val (.int x1)] [(.int (2 : Int32)), (.ref s')])) rfl rfl (hb hby d9_12) tT_ kK_) ?_
  refine own_st (A := T37.setTop (mkF mM 15 #[.val (.ref s'), .val (.int (2 : Int32)), .val (.ref d), .val (.int (2 : Int32)), .val (.int (3 : Int32)), .val (.int (2 : Int32)), .val (.int x2)] [])) (fun tT_ kK_ => XS.istore X37.here hx rfl (hb hby d9_13) rfl (l' := #[.val (.ref s'), .val (.int (2 : Int32)), .val (.ref d), .val (.int (2 : Int32)), .val (.int (3 : Int32)), .val (.int (2 : Int32)), .val (.int x2)]) rfl kK_) ?_
  refine own_st (A := T37.setTop (mkF mM 17 #[.val (.ref s'), .val (.int (2 : Int32)), .val (.ref d), .val (.int (2 : Int32)), .val (.int (3 : Int32)), .val (.int (2 : Int32)), .val (.int x2)] [(.int x2)])) (fun tT_ kK_ => XS.iload X37.here hx rfl (hb hby d9_15) rfl kK_) ?_
  refine own_st (A := T37.setTop (mkF mM 20 #[.val (.ref s'), .val (.int (2 : Int32)), .val (.ref d), .val (.int (2 : Int32)), .val (.int (3 : Int32)), .val (.int (2 : Int32)), .val (.int x2)] [(.int (255 : Int32)), (.int x2)])) (fun tT_ kK_ => XS.sipush X37.here hx rfl (hb hby d9_17) kK_) ?_
  refine own_st (A := T37.setTop (mkF mM 26 #[.val (.ref s'), .val (.int (2 : Int32)), .val (.ref d), .val (.int (2 : Int32)), .val (.int (3 : Int32)), .val (.int (2 : Int32)), .val (.int x2)] [])) (fun tT_ kK_ => XS.icmpYes X37.here hx rfl (pc0 := 20) (pc' := 26) rfl (hb hby d9_20) rfl (flt cx2.2.1).2.2.2 (by decide) (by decide) kK_) ?_
  refine own_st (A := T37.setTop (mkF mM 27 #[.val (.ref s'), .val (.int (2 : Int32)), .val (.ref d), .val (.int (2 : Int32)), .val (.int (3 : Int32)), .val (.int (2 : Int32)), .val (.int x2)] [(.ref d)])) (fun tT_ kK_ => XS.aloadN X37.here hx rfl (hb hby d9_26) rfl rfl kK_) ?_
  refine own_st (A := T37.setTop (mkF mM 28 #[.val (.ref s'), .val (.int (2 : Int32)), .val (.ref d), .val (.int (2 : Int32)), .val (.int (3 : Int32)), .val (.int (2 : Int32)), .val (.int x2)] [(.int (2 : Int32)), (.ref d)])) (fun tT_ kK_ => XS.iloadN X37.here hx rfl (hb hby d9_27) rfl kK_) ?_
  refine own_st (A := T37.setTop (mkF mM 30 #[.val (.ref s'), .val (.int (2 : Int32)), .val (.ref d), .val (.int (2 : Int32)), .val (.int (3 : Int32)), .val (.int (2 : Int32)), .val (.int x2)] [(.int x2), (.int (2 : Int32)), (.ref d)])) (fun tT_ kK_ => XS.iload X37.here hx rfl (hb hby d9_28) rfl kK_) ?_
  refine own_st (A := T37.setTop (mkF mM 31 #[.val (.ref s'), .val (.int (2 : Int32)), .val (.ref d), .val (.int (2 : Int32)), .val (.int (3 : Int32)), .val (.int (2 : Int32)), .val (.int x2)] [(.int ((x2).toInt8.toInt32)), (.int (2 : Int32)), (.ref d)])) (fun tT_ kK_ => XS.i2b X37.here hx rfl (hb hby d9_30) rfl kK_) ?_
  obtain ⟨cl39, Ar39, q39, S39, Nn39, H39, G39⟩ := id A_d
  obtain ⟨T40, h40, X40, e40, W40, st40⟩ := stB X37 hx hZ e37 Ar39 (j := (2 : Int32)) (inb_of S39 ⟨by decide, by decide⟩) (g := (mkF mM 31 #[.val (.ref s'), .val (.int (2 : Int32)), .val (.ref d), .val (.int (2 : Int32)), .val (.int (3 : Int32)), .val (.int (2 : Int32)), .val (.int x2)] [(.int ((x2).toInt8.toInt32)), (.int (2 : Int32)), (.ref d)])) rfl rfl (hb hby d9_31)
  have N40 := Fr.snoc X40 N37 g_d
  have A_s' := A_s'.other W40 nsd
  have Kp := Kp.wr W40 (Or.inl (List.mem_of_getElem? (i := 0) rfl))
  have A_d : Arv Z h40 d kd .byte 3 [(.int (((x0).toInt8.toInt32)).toInt8.toInt32), (.int (((x1).toInt8.toInt32)).toInt8.toInt32), (.int (((x2).toInt8.toInt32)).toInt8.toInt32)] (.int (0 : Int32)) := Arv.set Ar39 q39 S39 Nn39 H39 G39 (fits_nar_byte _) W40 2 rfl (Nat.le_of_ble_eq_true rfl)
  refine own_st (A := T40.setTop (mkF mM 32 #[.val (.ref s'), .val (.int (2 : Int32)), .val (.ref d), .val (.int (2 : Int32)), .val (.int (3 : Int32)), .val (.int (2 : Int32)), .val (.int x2)] [])) (fun tT_ kK_ => st40 tT_ kK_) ?_
  refine own_st (A := T40.setTop (mkF mM 35 #[.val (.ref s'), .val (.int (3 : Int32)), .val (.ref d), .val (.int (2 : Int32)), .val (.int (3 : Int32)), .val (.int (2 : Int32)), .val (.int x2)] [])) (fun tT_ kK_ => XS.iinc X40.here hx rfl (hb hby d9_32) rfl (l' := #[.val (.ref s'), .val (.int (3 : Int32)), .val (.ref d), .val (.int (2 : Int32)), .val (.int (3 : Int32)), .val (.int (2 : Int32)), .val (.int x2)]) rfl kK_) ?_
  refine own_st (A := T40.setTop (mkF mM 38 #[.val (.ref s'), .val (.int (3 : Int32)), .val (.ref d), .val (.int (3 : Int32)), .val (.int (3 : Int32)), .val (.int (2 : Int32)), .val (.int x2)] [])) (fun tT_ kK_ => XS.iinc X40.here hx rfl (hb hby d9_35) rfl (l' := #[.val (.ref s'), .val (.int (3 : Int32)), .val (.ref d), .val (.int (3 : Int32)), .val (.int (3 : Int32)), .val (.int (2 : Int32)), .val (.int x2)]) rfl kK_) ?_
  refine own_st (A := T40.setTop (mkF mM 41 #[.val (.ref s'), .val (.int (3 : Int32)), .val (.ref d), .val (.int (3 : Int32)), .val (.int (3 : Int32)), .val (.int (3 : Int32)), .val (.int x2)] [])) (fun tT_ kK_ => XS.iinc X40.here hx rfl (hb hby d9_38) rfl (l' := #[.val (.ref s'), .val (.int (3 : Int32)), .val (.ref d), .val (.int (3 : Int32)), .val (.int (3 : Int32)), .val (.int (3 : Int32)), .val (.int x2)]) rfl kK_) ?_
  refine own_st (A := T40.setTop (mkF mM 3 #[.val (.ref s'), .val (.int (3 : Int32)), .val (.ref d), .val (.int (3 : Int32)), .val (.int (3 : Int32)), .val (.int (3 : Int32)), .val (.int x2)] [])) (fun tT_ kK_ => XS.goto X40.here hx rfl (pc0 := 41) (pc' := 3) rfl (hb hby d9_41) (by decide) (by decide) kK_) ?_
  refine own_st (A := T40.setTop (mkF mM 5 #[.val (.ref s'), .val (.int (3 : Int32)), .val (.ref d), .val (.int (3 : Int32)), .val (.int (3 : Int32)), .val (.int (3 : Int32)), .val (.int x2)] [(.int (3 : Int32))])) (fun tT_ kK_ => XS.iload X40.here hx rfl (hb hby d9_3) rfl kK_) ?_
  refine own_st (A := T40.setTop (mkF mM 7 #[.val (.ref s'), .val (.int (3 : Int32)), .val (.ref d), .val (.int (3 : Int32)), .val (.int (3 : Int32)), .val (.int (3 : Int32)), .val (.int x2)] [(.int (3 : Int32)), (.int (3 : Int32))])) (fun tT_ kK_ => XS.iload X40.here hx rfl (hb hby d9_5) rfl kK_) ?_
  refine own_st (A := T40.setTop (mkF mM 44 #[.val (.ref s'), .val (.int (3 : Int32)), .val (.ref d), .val (.int (3 : Int32)), .val (.int (3 : Int32)), .val (.int (3 : Int32)), .val (.int x2)] [])) (fun tT_ kK_ => XS.icmpYes X40.here hx rfl (pc0 := 7) (pc' := 44) rfl (hb hby d9_7) rfl (flt (by decide : ¬ ((3 : Int32) < (3 : Int32)))).2.1 (by decide) (by decide) kK_) ?_
  refine own_st (A := T40.setTop (mkF mM 46 #[.val (.ref s'), .val (.int (3 : Int32)), .val (.ref d), .val (.int (3 : Int32)), .val (.int (3 : Int32)), .val (.int (3 : Int32)), .val (.int x2)] [(.int (3 : Int32))])) (fun tT_ kK_ => XS.iload X40.here hx rfl (hb hby d9_44) rfl kK_) ?_
  exact own_retI X40 hx hlk hret (hb hby d9_46) (by rw [e40]; exact ⟨rfl, N40, Kp, A_d⟩) (by decide) (by decide)
theorem ef_rmC3_3 (mM : MethodId) (s' : Addr) (ks : ClassId) (x0 : Int32) (x1 : Int32) (x2 : Int32) : entryFrame mM #[(.ref s'), (.int (0 : Int32)), (.int (3 : Int32))] 6 = mkF mM 0 #[.val (.ref s'), .val (.int (0 : Int32)), .val (.int (3 : Int32)), .unset, .unset, .unset] [] := by first | (simp [entryFrame, mkF, argsToLocals, Value.category]; done) | rfl
set_option maxRecDepth 65536 in
set_option maxHeartbeats 40000000 in
theorem rmC3_3 (lL : Launch) (Z : State) (a0 : Array Value) (hw : ∀ d ∈ tables_1, d.before a0 Z = true) (ws : List Jvm.Cond) (s' : Addr) (ks : ClassId) (x0 : Int32) (x1 : Int32) (x2 : Int32) (h0 : Heap) (n0 : Nat) (Zn : n0 ≤ h0.size) (A_s' : Arv Z h0 s' ks .char 3 [(.int x0), (.int x1), (.int x2)] (.int 0)) (cx0 : Ck x0) (cx1 : Ck x1) (cx2 : Ck x2) :
    MetFree lL (⟨"java/lang/StringUTF16", "compress", "([CII)[B"⟩ : MethodName) (head1 (Jvm.Cond.code (⟨"java/lang/StringUTF16", "compress", "([CII)[B"⟩ : MethodName) jdk_52_method_16_code 6 (some (.array .byte)) :: ws) ({ frames := 1, cells := 1, slots := 3, locals := 18 } : Room)) (fun as_ uU_ => as_ = #[(.ref s'), (.int (0 : Int32)), (.int (3 : Int32))] ∧ Z.Warmed39 uU_.vm ∧ uU_.heap = h0) (fun _ _ _ _ _ => True) (fun _ uU_ oO_ uE_ => ∃ vV_ lL_, oO_ = .returned vV_ ∧ QC3 Z 3 [(.int (((x0).toInt8.toInt32)).toInt8.toInt32), (.int (((x1).toInt8.toInt32)).toInt8.toInt32), (.int (((x2).toInt8.toInt32)).toInt8.toInt32)] h0 n0 vV_ uE_.heap lL_ ∧ FrameEnd uU_ oO_ uE_ lL_ ({ frames := 1, cells := 1, slots := 3, locals := 18 } : Room).cells ({ frames := 1, cells := 1, slots := 3, locals := 18 } : Room).slots) := by
  refine MetFree.of_bodySF (plainFor_of_name pn_java_2flang_2fStringUTF16) hisR ?_
  intro pP eE sS mM args below meth cC s₁ Bd hml0 hP hK
  obtain ⟨rfl, hZ, hh⟩ := hP
  have hx := Bd.exec
  have hby := Bd.bytes
  have hml : cC.maxLocals = 6 := hml0
  have hown : sS.vm.findClass "java/lang/StringUTF16" = some mM.cls := findClass_of_methodNamed Bd.named
  have hnm := (name_of_methodNamed Bd.named Bd.method).1
  have hret := Bd.returns
  have hlk := BodyLoose.notSynchronized Bd
  have X0 : Stand pP lL eE ({ frames := 1, cells := 1, slots := 3, locals := 18 } : Room) sS mM #[(.ref s'), (.int (0 : Int32)), (.int (3 : Int32))] below meth cC s₁ [] 0 0 := Stand.of_body Bd
  have e0 : s₁.heap = h0 := by rw [← hh, Bd.state]; rfl
  have N0 := Fr.nil n0
  show own_Go pP eE below sS (QC3 Z 3 [(.int (((x0).toInt8.toInt32)).toInt8.toInt32), (.int (((x1).toInt8.toInt32)).toInt8.toInt32), (.int (((x2).toInt8.toInt32)).toInt8.toInt32)] h0 n0) 1 3 (s₁.setTop (entryFrame mM #[(.ref s'), (.int (0 : Int32)), (.int (3 : Int32))] 6))
  refine own_st (A := s₁.setTop (mkF mM 0 #[.val (.ref s'), .val (.int (0 : Int32)), .val (.int (3 : Int32)), .unset, .unset, .unset] [])) (fun tT_ kK_ => castTop (ef_rmC3_3 mM s' ks x0 x1 x2) kK_) ?_
  have Kp := Keep.refl h0 []
  refine own_st (A := s₁.setTop (mkF mM 1 #[.val (.ref s'), .val (.int (0 : Int32)), .val (.int (3 : Int32)), .unset, .unset, .unset] [(.int (3 : Int32))])) (fun tT_ kK_ => XS.iloadN X0.here hx rfl (hb hby d8_0) rfl kK_) ?_
  obtain ⟨T41, h41, k41, X41, e41, E41, A41, st41⟩ := newP X0 hx hZ (hw _ (List.mem_of_getElem? (i := 0) rfl)) e0 (g := (mkF mM 1 #[.val (.ref s'), .val (.int (0 : Int32)), .val (.int (3 : Int32)), .unset, .unset, .unset] [(.int (3 : Int32))])) rfl (hb hby d8_1) rfl (by decide) (cap := 3) (by decide) (by decide) (by decide) (by decide)
  obtain ⟨b41, g41⟩ : ∃ z, z = h0.size := ⟨_, rfl⟩
  rw [← g41] at A41 st41
  have ne_s'_b41 : s' ≠ b41 := Nat.ne_of_lt (Nat.lt_of_lt_of_le A_s'.lt (Nat.le_of_eq g41.symm))
  have g_b41 : n0 ≤ b41 := Nat.le_trans Zn (Nat.le_of_eq g41.symm)
  have b_b41 : h0.size ≤ b41 := Nat.le_trans Kp.1 (Nat.le_of_eq g41.symm)
  have A_s' := A_s'.ext E41
  have Zn := Nat.le_trans Zn E41.1
  have Kp := Kp.ext E41
  have A_b41 : Arv Z h41 b41 k41 .byte 3 [(.int (0 : Int32)), (.int (0 : Int32)), (.int (0 : Int32))] (.int (0 : Int32)) := (Arv.new A41 (by decide)).pad (pad_rep [] (.int (0 : Int32)) 3)
  refine own_st (A := T41.setTop (mkF mM 3 #[.val (.ref s'), .val (.int (0 : Int32)), .val (.int (3 : Int32)), .unset, .unset, .unset] [(.ref b41)])) (fun tT_ kK_ => st41 tT_ kK_) ?_
  refine own_st (A := T41.setTop (mkF mM 4 #[.val (.ref s'), .val (.int (0 : Int32)), .val (.int (3 : Int32)), .val (.ref b41), .unset, .unset] [])) (fun tT_ kK_ => XS.astoreN X41.here hx rfl (hb hby d8_3) rfl rfl (l' := #[.val (.ref s'), .val (.int (0 : Int32)), .val (.int (3 : Int32)), .val (.ref b41), .unset, .unset]) rfl kK_) ?_
  refine own_st (A := T41.setTop (mkF mM 5 #[.val (.ref s'), .val (.int (0 : Int32)), .val (.int (3 : Int32)), .val (.ref b41), .unset, .unset] [(.ref s')])) (fun tT_ kK_ => XS.aloadN X41.here hx rfl (hb hby d8_4) rfl rfl kK_) ?_
  refine own_st (A := T41.setTop (mkF mM 6 #[.val (.ref s'), .val (.int (0 : Int32)), .val (.int (3 : Int32)), .val (.ref b41), .unset, .unset] [(.int (0 : Int32)), (.ref s')])) (fun tT_ kK_ => XS.iloadN X41.here hx rfl (hb hby d8_5) rfl kK_) ?_
  refine own_st (A := T41.setTop (mkF mM 7 #[.val (.ref s'), .val (.int (0 : Int32)), .val (.int (3 : Int32)), .val (.ref b41), .unset, .unset] [(.ref b41), (.int (0 : Int32)), (.ref s')])) (fun tT_ kK_ => XS.aloadN X41.here hx rfl (hb hby d8_6) rfl rfl kK_) ?_
  refine own_st (A := T41.setTop (mkF mM 8 #[.val (.ref s'), .val (.int (0 : Int32)), .val (.int (3 : Int32)), .val (.ref b41), .unset, .unset] [(.int (0 : Int32)), (.ref b41), (.int (0 : Int32)), (.ref s')])) (fun tT_ kK_ => XS.iconst X41.here hx rfl (hb hby d8_7) kK_) ?_
  refine own_st (A := T41.setTop (mkF mM 9 #[.val (.ref s'), .val (.int (0 : Int32)), .val (.int (3 : Int32)), .val (.ref b41), .unset, .unset] [(.int (3 : Int32)), (.int (0 : Int32)), (.ref b41), (.int (0 : Int32)), (.ref s')])) (fun tT_ kK_ => XS.iloadN X41.here hx rfl (hb hby d8_8) rfl kK_) ?_
  obtain ⟨_, _, ⟨T42, L42, k42, n42⟩, -, X42, ⟨Lc42, hQ42, l42, y42, z42⟩, st42⟩ := Jvm.LawKit.callS X41 hx (y := (⟨"java/lang/StringUTF16", "compress", "([CI[BII)I"⟩ : MethodName)) hown (mvT hZ (hw _ (List.mem_of_getElem? (i := 56) rfl))) (mvT hZ (hw _ (List.mem_of_getElem? (i := 57) rfl))) (mvT hZ (hw _ (List.mem_of_getElem? (i := 54) rfl))) (mvT hZ (hw _ (List.mem_of_getElem? (i := 58) rfl))) (by decide) (backOf (W := 0) (rmC5_3 lL Z a0 hw [] s' ks b41 k41 x0 x1 x2 h41 n0 A_s' A_b41 g_b41 ne_s'_b41 cx0 cx1 cx2) hZ (hw _ (List.mem_of_getElem? (i := 58) rfl)) (hw _ (List.mem_of_getElem? (i := 54) rfl)) (by decide) (by decide)) (g := (mkF mM 9 #[.val (.ref s'), .val (.int (0 : Int32)), .val (.int (3 : Int32)), .val (.ref b41), .unset, .unset] [(.int (3 : Int32)), (.int (0 : Int32)), (.ref b41), (.int (0 : Int32)), (.ref s')])) rfl (by rw [hml]; rfl) (argsL := [(.ref s'), (.int (0 : Int32)), (.ref b41), (.int (0 : Int32)), (.int (3 : Int32))]) (rest := []) (lenOf pd__28_5bCI_5bBII_29I rfl) rfl (by show 2 * 0 + _ ≤ _; exact Nat.le_of_eq rfl) (hb hby d8_9) (fun _ _ => ⟨rfl, e41, (by decide : 1 + 0 ≤ _), (by decide : 3 + 0 ≤ _)⟩)
  dsimp only [Pt.U, Pt.locs, Pt.cells, Pt.slots] at X42 l42 y42 z42 st42 hQ42
  subst l42 y42 z42
  obtain ⟨rfl, N42q, K42, V42⟩ := hQ42
  have N42 := Fr.app N0 N42q
  have e42 : T42.heap = T42.heap := rfl
  refine own_st (A := T42.setTop (mkF mM 12 #[.val (.ref s'), .val (.int (0 : Int32)), .val (.int (3 : Int32)), .val (.ref b41), .unset, .unset] [(.int (3 : Int32))])) (fun tT_ kK_ => st42 tT_ kK_) ?_
  have A_s' := A_s'.keep K42 (ninS ne_s'_b41 nin0)
  have Zn := Nat.le_trans Zn K42.1
  have Kp := Kp.trans K42 (allS (Or.inr b_b41) all0)
  have A_b41 := V42
  refine own_st (A := T42.setTop (mkF mM 14 #[.val (.ref s'), .val (.int (0 : Int32)), .val (.int (3 : Int32)), .val (.ref b41), .val (.int (3 : Int32)), .unset] [])) (fun tT_ kK_ => XS.istore X42.here hx rfl (hb hby d8_12) rfl (l' := #[.val (.ref s'), .val (.int (0 : Int32)), .val (.int (3 : Int32)), .val (.ref b41), .val (.int (3 : Int32)), .unset]) rfl kK_) ?_
  refine own_st (A := T42.setTop (mkF mM 16 #[.val (.ref s'), .val (.int (0 : Int32)), .val (.int (3 : Int32)), .val (.ref b41), .val (.int (3 : Int32)), .unset] [(.int (3 : Int32))])) (fun tT_ kK_ => XS.iload X42.here hx rfl (hb hby d8_14) rfl kK_) ?_
  refine own_st (A := T42.setTop (mkF mM 17 #[.val (.ref s'), .val (.int (0 : Int32)), .val (.int (3 : Int32)), .val (.ref b41), .val (.int (3 : Int32)), .unset] [(.int (3 : Int32)), (.int (3 : Int32))])) (fun tT_ kK_ => XS.iloadN X42.here hx rfl (hb hby d8_16) rfl kK_) ?_
  refine own_st (A := T42.setTop (mkF mM 57 #[.val (.ref s'), .val (.int (0 : Int32)), .val (.int (3 : Int32)), .val (.ref b41), .val (.int (3 : Int32)), .unset] [])) (fun tT_ kK_ => XS.icmpYes X42.here hx rfl (pc0 := 17) (pc' := 57) rfl (hb hby d8_17) rfl (teq (by decide : ((3 : Int32) = (3 : Int32)))).1 (by decide) (by decide) kK_) ?_
  refine own_st (A := T42.setTop (mkF mM 58 #[.val (.ref s'), .val (.int (0 : Int32)), .val (.int (3 : Int32)), .val (.ref b41), .val (.int (3 : Int32)), .unset] [(.ref b41)])) (fun tT_ kK_ => XS.aloadN X42.here hx rfl (hb hby d8_57) rfl rfl kK_) ?_
  exact own_retA X42 hx hlk hret rfl rfl (hb hby d8_58) (by rw [e42]; exact ⟨_, _, rfl, N42, own_ext_of_keep Kp, A_b41, b_b41⟩) (by decide) (by decide)
theorem ef_rmCo_3 (mM : MethodId) (d : Addr) (kd : ClassId) (x0 : Int32) (x1 : Int32) (x2 : Int32) : entryFrame mM #[(.ref d), (.int (3 : Int32))] 2 = mkF mM 0 #[.val (.ref d), .val (.int (3 : Int32))] [] := by first | (simp [entryFrame, mkF, argsToLocals, Value.category]; done) | rfl
set_option maxRecDepth 65536 in
set_option maxHeartbeats 40000000 in
theorem rmCo_3 (lL : Launch) (Z : State) (a0 : Array Value) (hw : ∀ d ∈ tables_1, d.before a0 Z = true) (ws : List Jvm.Cond) (d : Addr) (kd : ClassId) (x0 : Int32) (x1 : Int32) (x2 : Int32) (h0 : Heap) (n0 : Nat) (A_d : Arv Z h0 d kd .byte 3 [(.int (((x0).toInt8.toInt32)).toInt8.toInt32), (.int (((x1).toInt8.toInt32)).toInt8.toInt32), (.int (((x2).toInt8.toInt32)).toInt8.toInt32)] (.int 0)) :
    MetFree lL (⟨"java/lang/StringUTF16", "coderFromArrayLen", "([BI)B"⟩ : MethodName) (head1 (Jvm.Cond.code (⟨"java/lang/StringUTF16", "coderFromArrayLen", "([BI)B"⟩ : MethodName) jdk_52_method_15_code 2 (some .byte) :: ws) ({ frames := 0, cells := 0, slots := 0, locals := 0 } : Room)) (fun as_ uU_ => as_ = #[(.ref d), (.int (3 : Int32))] ∧ Z.Warmed39 uU_.vm ∧ uU_.heap = h0) (fun _ _ _ _ _ => True) (fun _ uU_ oO_ uE_ => ∃ vV_ lL_, oO_ = .returned vV_ ∧ Qw (.int 0) h0 n0 vV_ uE_.heap lL_ ∧ FrameEnd uU_ oO_ uE_ lL_ ({ frames := 0, cells := 0, slots := 0, locals := 0 } : Room).cells ({ frames := 0, cells := 0, slots := 0, locals := 0 } : Room).slots) := by
  refine MetFree.of_bodySF (plainFor_of_name pn_java_2flang_2fStringUTF16) hisR ?_
  intro pP eE sS mM args below meth cC s₁ Bd hml0 hP hK
  obtain ⟨rfl, hZ, hh⟩ := hP
  have hx := Bd.exec
  have hby := Bd.bytes
  have hml : cC.maxLocals = 2 := hml0
  have hown : sS.vm.findClass "java/lang/StringUTF16" = some mM.cls := findClass_of_methodNamed Bd.named
  have hnm := (name_of_methodNamed Bd.named Bd.method).1
  have hret := Bd.returns
  have hlk := BodyLoose.notSynchronized Bd
  have X0 : Stand pP lL eE ({ frames := 0, cells := 0, slots := 0, locals := 0 } : Room) sS mM #[(.ref d), (.int (3 : Int32))] below meth cC s₁ [] 0 0 := Stand.of_body Bd
  have e0 : s₁.heap = h0 := by rw [← hh, Bd.state]; rfl
  have N0 := Fr.nil n0
  show own_Go pP eE below sS (Qw (.int 0) h0 n0) 0 0 (s₁.setTop (entryFrame mM #[(.ref d), (.int (3 : Int32))] 2))
  refine own_st (A := s₁.setTop (mkF mM 0 #[.val (.ref d), .val (.int (3 : Int32))] [])) (fun tT_ kK_ => castTop (ef_rmCo_3 mM d kd x0 x1 x2) kK_) ?_
  refine own_st (A := s₁.setTop (mkF mM 1 #[.val (.ref d), .val (.int (3 : Int32))] [(.int (3 : Int32))])) (fun tT_ kK_ => XS.iloadN X0.here hx rfl (hb hby d10_0) rfl kK_) ?_
  refine own_st (A := s₁.setTop (mkF mM 2 #[.val (.ref d), .val (.int (3 : Int32))] [(.ref d), (.int (3 : Int32))])) (fun tT_ kK_ => XS.aloadN X0.here hx rfl (hb hby d10_1) rfl rfl kK_) ?_
  obtain ⟨cl43, Ar43, q43, S43, Nn43, H43, G43⟩ := id A_d
  refine own_st (A := s₁.setTop (mkF mM 3 #[.val (.ref d), .val (.int (3 : Int32))] [(.int (3 : Int32)), (.int (3 : Int32))])) (fun tT_ kK_ => X0.arraylength hx (by rw [e0]; exact Ar43.1) (State.isArrayOf_alike hZ.alike Ar43.2.1) (g := (mkF mM 2 #[.val (.ref d), .val (.int (3 : Int32))] [(.ref d), (.int (3 : Int32))])) rfl rfl (hb hby d10_2) tT_ (by rw [len_of S43 Nn43]; exact kK_)) ?_
  refine own_st (A := s₁.setTop (mkF mM 4 #[.val (.ref d), .val (.int (3 : Int32))] [(.int (0 : Int32))])) (fun tT_ kK_ => XS.isub X0.here hx rfl (hb hby d10_3) rfl kK_) ?_
  refine own_st (A := s₁.setTop (mkF mM 6 #[.val (.ref d), .val (.int (3 : Int32))] [(.int (31 : Int32)), (.int (0 : Int32))])) (fun tT_ kK_ => XS.bipush X0.here hx rfl (hb hby d10_4) kK_) ?_
  refine own_st (A := s₁.setTop (mkF mM 7 #[.val (.ref d), .val (.int (3 : Int32))] [(.int (((0 : Int32).toUInt32 >>> ((31 : Int32) &&& 31).toUInt32).toInt32))])) (fun tT_ kK_ => XS.iushr X0.here hx rfl (hb hby d10_6) rfl kK_) ?_
  refine own_st (A := s₁.setTop (mkF mM 8 #[.val (.ref d), .val (.int (3 : Int32))] [(.int (((((0 : Int32).toUInt32 >>> ((31 : Int32) &&& 31).toUInt32).toInt32)).toInt8.toInt32))])) (fun tT_ kK_ => XS.i2b X0.here hx rfl (hb hby d10_7) rfl kK_) ?_
  exact own_retN X0 hx hlk (t := .byte) hret (by simp) (hb hby d10_8) (show Qw _ _ _ (some (.int (0 : Int32))) _ _ from ⟨rfl, N0, e0⟩) (by decide) (by decide)
theorem ef_rmS4_3 (mM : MethodId) (a : Addr) (s' : Addr) (ks : ClassId) (cs : Int32) (x0 : Int32) (x1 : Int32) (x2 : Int32) : entryFrame mM #[(.ref a), (.ref s'), (.int (0 : Int32)), (.int (3 : Int32)), .null] 6 = mkF mM 0 #[.val (.ref a), .val (.ref s'), .val (.int (0 : Int32)), .val (.int (3 : Int32)), .val .null, .unset] [] := by first | (simp [entryFrame, mkF, argsToLocals, Value.category]; done) | rfl
set_option maxRecDepth 65536 in
set_option maxHeartbeats 40000000 in
theorem rmS4_3 (lL : Launch) (Z : State) (a0 : Array Value) (hw : ∀ d ∈ tables_1, d.before a0 Z = true) (ws : List Jvm.Cond) (a : Addr) (s' : Addr) (ks : ClassId) (cs : Int32) (x0 : Int32) (x1 : Int32) (x2 : Int32) (h0 : Heap) (n0 : Nat) (g_a : n0 ≤ a) (E_a : Exa Z h0 a "java/lang/String") (F_a_value : Fld Z h0 a "java/lang/String" "value" "[B" .null) (F_a_coder : Fld Z h0 a "java/lang/String" "coder" "B" (.int (0 : Int32))) (A_s' : Arv Z h0 s' ks .char 3 [(.int x0), (.int x1), (.int x2)] (.int 0)) (nsa : s' ≠ a) (O : Old Z n0 h0) (Zn : n0 ≤ h0.size) (S_cs : Sta Z Z.heap "java/lang/String" "COMPACT_STRINGS" "Z" (.int cs)) (hcs : ¬ cs = (0 : Int32)) (cx0 : Ck x0) (cx1 : Ck x1) (cx2 : Ck x2) :
    MetFree lL (⟨"java/lang/String", "<init>", "([CIILjava/lang/Void;)V"⟩ : MethodName) (head1 (Jvm.Cond.code (⟨"java/lang/String", "<init>", "([CIILjava/lang/Void;)V"⟩ : MethodName) jdk_42_method_149_code 6 none :: ws) ({ frames := 2, cells := 1, slots := 3, locals := 35 } : Room)) (fun as_ uU_ => as_ = #[(.ref a), (.ref s'), (.int (0 : Int32)), (.int (3 : Int32)), .null] ∧ Z.Warmed39 uU_.vm ∧ uU_.heap = h0) (fun _ _ _ _ _ => True) (fun _ uU_ oO_ uE_ => ∃ vV_ lL_, oO_ = .returned vV_ ∧ QS Z a 3 [(.int (((x0).toInt8.toInt32)).toInt8.toInt32), (.int (((x1).toInt8.toInt32)).toInt8.toInt32), (.int (((x2).toInt8.toInt32)).toInt8.toInt32)] h0 n0 vV_ uE_.heap lL_ ∧ FrameEnd uU_ oO_ uE_ lL_ ({ frames := 2, cells := 1, slots := 3, locals := 35 } : Room).cells ({ frames := 2, cells := 1, slots := 3, locals := 35 } : Room).slots) := by
  refine MetFree.of_bodySF (plainFor_of_name pn_java_2flang_2fString) hisR ?_
  intro pP eE sS mM args below meth cC s₁ Bd hml0 hP hK
  obtain ⟨rfl, hZ, hh⟩ := hP
  have hx := Bd.exec
  have hby := Bd.bytes
  have hml : cC.maxLocals = 6 := hml0
  have hown : sS.vm.findClass "java/lang/String" = some mM.cls := findClass_of_methodNamed Bd.named
  have hnm := (name_of_methodNamed Bd.named Bd.method).1
  have hret := Bd.returns
  have hlk := BodyLoose.notSynchronized Bd
  have X0 : Stand pP lL eE ({ frames := 2, cells := 1, slots := 3, locals := 35 } : Room) sS mM #[(.ref a), (.ref s'), (.int (0 : Int32)), (.int (3 : Int32)), .null] below meth cC s₁ [] 0 0 := Stand.of_body Bd
  have e0 : s₁.heap = h0 := by rw [← hh, Bd.state]; rfl
  have N0 := Fr.nil n0
  show own_Go pP eE below sS (QS Z a 3 [(.int (((x0).toInt8.toInt32)).toInt8.toInt32), (.int (((x1).toInt8.toInt32)).toInt8.toInt32), (.int (((x2).toInt8.toInt32)).toInt8.toInt32)] h0 n0) 1 3 (s₁.setTop (entryFrame mM #[(.ref a), (.ref s'), (.int (0 : Int32)), (.int (3 : Int32)), .null] 6))
  refine own_st (A := s₁.setTop (mkF mM 0 #[.val (.ref a), .val (.ref s'), .val (.int (0 : Int32)), .val (.int (3 : Int32)), .val .null, .unset] [])) (fun tT_ kK_ => castTop (ef_rmS4_3 mM a s' ks cs x0 x1 x2) kK_) ?_
  have Kp := Keep.refl h0 [a]
  refine own_st (A := s₁.setTop (mkF mM 1 #[.val (.ref a), .val (.ref s'), .val (.int (0 : Int32)), .val (.int (3 : Int32)), .val .null, .unset] [(.ref a)])) (fun tT_ kK_ => XS.aloadN X0.here hx rfl (hb hby d2_0) rfl rfl kK_) ?_
  obtain ⟨T44, X44, e44, st44⟩ := initO X0 hx hZ hown (hw _ (List.mem_of_getElem? (i := 12) rfl)) (hw _ (List.mem_of_getElem? (i := 13) rfl)) (hw _ (List.mem_of_getElem? (i := 14) rfl)) e0 (g := (mkF mM 1 #[.val (.ref a), .val (.ref s'), .val (.int (0 : Int32)), .val (.int (3 : Int32)), .val .null, .unset] [(.ref a)])) rfl (by rw [hml]; rfl) rfl (hb hby d2_1) (by decide) (W := 0) (by show 2 * 0 + _ ≤ _; exact Nat.le_of_eq rfl) (by decide)
  refine own_st (A := T44.setTop (mkF mM 4 #[.val (.ref a), .val (.ref s'), .val (.int (0 : Int32)), .val (.int (3 : Int32)), .val .null, .unset] [])) (fun tT_ kK_ => st44 tT_ kK_) ?_
  refine own_st (A := T44.setTop (mkF mM 5 #[.val (.ref a), .val (.ref s'), .val (.int (0 : Int32)), .val (.int (3 : Int32)), .val .null, .unset] [(.int (3 : Int32))])) (fun tT_ kK_ => XS.iloadN X44.here hx rfl (hb hby d2_4) rfl kK_) ?_
  refine own_st (A := T44.setTop (mkF mM 27 #[.val (.ref a), .val (.ref s'), .val (.int (0 : Int32)), .val (.int (3 : Int32)), .val .null, .unset] [])) (fun tT_ kK_ => XS.ifYes X44.here hx rfl (pc0 := 5) (pc' := 27) rfl (hb hby d2_5) rfl ((if0 _ _).trans (feq (by decide : ¬ ((3 : Int32) = (0 : Int32)))).2) (by decide) (by decide) kK_) ?_
  obtain ⟨T45, X45, e45, st45⟩ := getS2 X44 hx hZ hown (host := "") (Or.inl (hw _ (List.mem_of_getElem? (i := 51) rfl))) Via.refl e44 (S_cs.ext O.2) (g := (mkF mM 27 #[.val (.ref a), .val (.ref s'), .val (.int (0 : Int32)), .val (.int (3 : Int32)), .val .null, .unset] [])) rfl (hb hby d2_27)
  refine own_st (A := T45.setTop (mkF mM 30 #[.val (.ref a), .val (.ref s'), .val (.int (0 : Int32)), .val (.int (3 : Int32)), .val .null, .unset] [(.int cs)])) (fun tT_ kK_ => st45 tT_ kK_) ?_
  refine own_st (A := T45.setTop (mkF mM 33 #[.val (.ref a), .val (.ref s'), .val (.int (0 : Int32)), .val (.int (3 : Int32)), .val .null, .unset] [])) (fun tT_ kK_ => XS.ifNo X45.here hx rfl (hb hby d2_30) rfl ((if0 _ _).trans (feq hcs).1) kK_) ?_
  refine own_st (A := T45.setTop (mkF mM 34 #[.val (.ref a), .val (.ref s'), .val (.int (0 : Int32)), .val (.int (3 : Int32)), .val .null, .unset] [(.ref s')])) (fun tT_ kK_ => XS.aloadN X45.here hx rfl (hb hby d2_33) rfl rfl kK_) ?_
  refine own_st (A := T45.setTop (mkF mM 35 #[.val (.ref a), .val (.ref s'), .val (.int (0 : Int32)), .val (.int (3 : Int32)), .val .null, .unset] [(.int (0 : Int32)), (.ref s')])) (fun tT_ kK_ => XS.iloadN X45.here hx rfl (hb hby d2_34) rfl kK_) ?_
  refine own_st (A := T45.setTop (mkF mM 36 #[.val (.ref a), .val (.ref s'), .val (.int (0 : Int32)), .val (.int (3 : Int32)), .val .null, .unset] [(.int (3 : Int32)), (.int (0 : Int32)), (.ref s')])) (fun tT_ kK_ => XS.iloadN X45.here hx rfl (hb hby d2_35) rfl kK_) ?_
  obtain ⟨_, _, ⟨T46, L46, k46, n46⟩, -, X46, ⟨Lc46, hQ46, l46, y46, z46⟩, st46⟩ := Jvm.LawKit.callS X45 hx (y := (⟨"java/lang/StringUTF16", "compress", "([CII)[B"⟩ : MethodName)) hown (mvT hZ (hw _ (List.mem_of_getElem? (i := 52) rfl))) (mvT hZ (hw _ (List.mem_of_getElem? (i := 53) rfl))) (mvT hZ (hw _ (List.mem_of_getElem? (i := 54) rfl))) (mvT hZ (hw _ (List.mem_of_getElem? (i := 55) rfl))) (by decide) (backOf (W := 0) (rmC3_3 lL Z a0 hw [] s' ks x0 x1 x2 h0 n0 Zn A_s' cx0 cx1 cx2) hZ (hw _ (List.mem_of_getElem? (i := 55) rfl)) (hw _ (List.mem_of_getElem? (i := 54) rfl)) (by decide) (by decide)) (g := (mkF mM 36 #[.val (.ref a), .val (.ref s'), .val (.int (0 : Int32)), .val (.int (3 : Int32)), .val .null, .unset] [(.int (3 : Int32)), (.int (0 : Int32)), (.ref s')])) rfl (by rw [hml]; rfl) (argsL := [(.ref s'), (.int (0 : Int32)), (.int (3 : Int32))]) (rest := []) (lenOf pd__28_5bCII_29_5bB rfl) rfl (by show 2 * 0 + _ ≤ _; exact Nat.le_of_eq rfl) (hb hby d2_36) (fun _ _ => ⟨rfl, e45, (by decide : 0 + 1 ≤ _), (by decide : 0 + 3 ≤ _)⟩)
  dsimp only [Pt.U, Pt.locs, Pt.cells, Pt.slots] at X46 l46 y46 z46 st46 hQ46
  subst l46 y46 z46
  obtain ⟨b46, k46', rfl, N46q, E46, V46, ge46⟩ := hQ46
  have N46 := Fr.app N0 N46q
  have e46 : T46.heap = T46.heap := rfl
  refine own_st (A := T46.setTop (mkF mM 39 #[.val (.ref a), .val (.ref s'), .val (.int (0 : Int32)), .val (.int (3 : Int32)), .val .null, .unset] [(.ref b46)])) (fun tT_ kK_ => st46 tT_ kK_) ?_
  have ne_a_b46 : a ≠ b46 := Nat.ne_of_lt (Nat.lt_of_lt_of_le E_a.lt ge46)
  have b_b46 : h0.size ≤ b46 := Nat.le_trans Kp.1 ge46
  have F_a_value := F_a_value.ext E46
  have F_a_coder := F_a_coder.ext E46
  have E_a := E_a.ext E46
  have O := O.ext E46
  have A_s' := A_s'.ext E46
  have Zn := Nat.le_trans Zn E46.1
  have Kp := Kp.ext E46
  have A_b46 := V46
  refine own_st (A := T46.setTop (mkF mM 41 #[.val (.ref a), .val (.ref s'), .val (.int (0 : Int32)), .val (.int (3 : Int32)), .val .null, .val (.ref b46)] [])) (fun tT_ kK_ => XS.astore X46.here hx rfl (hb hby d2_39) rfl rfl (l' := #[.val (.ref a), .val (.ref s'), .val (.int (0 : Int32)), .val (.int (3 : Int32)), .val .null, .val (.ref b46)]) rfl kK_) ?_
  refine own_st (A := T46.setTop (mkF mM 42 #[.val (.ref a), .val (.ref s'), .val (.int (0 : Int32)), .val (.int (3 : Int32)), .val .null, .val (.ref b46)] [(.ref a)])) (fun tT_ kK_ => XS.aloadN X46.here hx rfl (hb hby d2_41) rfl rfl kK_) ?_
  refine own_st (A := T46.setTop (mkF mM 44 #[.val (.ref a), .val (.ref s'), .val (.int (0 : Int32)), .val (.int (3 : Int32)), .val .null, .val (.ref b46)] [(.ref b46), (.ref a)])) (fun tT_ kK_ => XS.aload X46.here hx rfl (hb hby d2_42) rfl rfl kK_) ?_
  refine own_st (A := T46.setTop (mkF mM 45 #[.val (.ref a), .val (.ref s'), .val (.int (0 : Int32)), .val (.int (3 : Int32)), .val .null, .val (.ref b46)] [(.int (3 : Int32)), (.ref b46), (.ref a)])) (fun tT_ kK_ => XS.iloadN X46.here hx rfl (hb hby d2_44) rfl kK_) ?_
  obtain ⟨_, _, ⟨T47, L47, k47, n47⟩, -, X47, ⟨Lc47, hQ47, l47, y47, z47⟩, st47⟩ := Jvm.LawKit.callS X46 hx (y := (⟨"java/lang/StringUTF16", "coderFromArrayLen", "([BI)B"⟩ : MethodName)) hown (mvT hZ (hw _ (List.mem_of_getElem? (i := 59) rfl))) (mvT hZ (hw _ (List.mem_of_getElem? (i := 60) rfl))) (mvT hZ (hw _ (List.mem_of_getElem? (i := 54) rfl))) (mvT hZ (hw _ (List.mem_of_getElem? (i := 61) rfl))) (by decide) (backOf (W := 1) (rmCo_3 lL Z a0 hw [] b46 k46' x0 x1 x2 T46.heap n0 A_b46) hZ (hw _ (List.mem_of_getElem? (i := 61) rfl)) (hw _ (List.mem_of_getElem? (i := 54) rfl)) (by decide) (by decide)) (g := (mkF mM 45 #[.val (.ref a), .val (.ref s'), .val (.int (0 : Int32)), .val (.int (3 : Int32)), .val .null, .val (.ref b46)] [(.int (3 : Int32)), (.ref b46), (.ref a)])) rfl (by rw [hml]; rfl) (argsL := [(.ref b46), (.int (3 : Int32))]) (rest := [(.ref a)]) (lenOf pd__28_5bBI_29B rfl) rfl (by show 2 * 0 + _ ≤ _; exact Nat.le_of_eq rfl) (hb hby d2_45) (fun _ _ => ⟨rfl, e46, (by decide : 1 + 0 ≤ _), (by decide : 3 + 0 ≤ _)⟩)
  dsimp only [Pt.U, Pt.locs, Pt.cells, Pt.slots] at X47 l47 y47 z47 st47 hQ47
  subst l47 y47 z47
  obtain ⟨rfl, N47q, e47⟩ := hQ47
  have N47 := Fr.app N46 N47q
  refine own_st (A := T47.setTop (mkF mM 48 #[.val (.ref a), .val (.ref s'), .val (.int (0 : Int32)), .val (.int (3 : Int32)), .val .null, .val (.ref b46)] [(.int (0 : Int32)), (.ref a)])) (fun tT_ kK_ => st47 tT_ kK_) ?_
  obtain ⟨T48, h48, X48, e48, W48, st48⟩ := putFN X47 hx hZ hown (hw _ (List.mem_of_getElem? (i := 21) rfl)) Via.refl e47 F_a_coder E_a (Or.inr ⟨(hw _ (List.mem_of_getElem? (i := 17) rfl)), rfl, hnm⟩) (hw _ (List.mem_of_getElem? (i := 3) rfl)) (ty := .byte) (v' := (.int (0 : Int32))) (by decide) rfl (by decide) (g := (mkF mM 48 #[.val (.ref a), .val (.ref s'), .val (.int (0 : Int32)), .val (.int (3 : Int32)), .val .null, .val (.ref b46)] [(.int (0 : Int32)), (.ref a)])) rfl rfl (hb hby d2_48)
  have N48 := Fr.snoc X48 N47 g_a
  have F_a_value := F_a_value.other W48 (Or.inr (slot_ne (Or.inr (hw _ (List.mem_of_getElem? (i := 16) rfl))) (Or.inr (hw _ (List.mem_of_getElem? (i := 17) rfl))) (by decide) (t := (.array .byte)) (t' := .byte) (by decide) (by decide)))
  have F_a_coder := F_a_coder.same W48
  have E_a := E_a.wr W48
  have A_s' := A_s'.other W48 nsa
  have A_b46 := A_b46.other W48 (Ne.symm ne_a_b46)
  have O := O.wr W48 g_a
  have Zn := Nat.le_trans Zn (Keep.of_wr W48).1
  have Kp := Kp.wr W48 (Or.inl (List.mem_of_getElem? (i := 0) rfl))
  refine own_st (A := T48.setTop (mkF mM 51 #[.val (.ref a), .val (.ref s'), .val (.int (0 : Int32)), .val (.int (3 : Int32)), .val .null, .val (.ref b46)] [])) (fun tT_ kK_ => st48 tT_ kK_) ?_
  refine own_st (A := T48.setTop (mkF mM 52 #[.val (.ref a), .val (.ref s'), .val (.int (0 : Int32)), .val (.int (3 : Int32)), .val .null, .val (.ref b46)] [(.ref a)])) (fun tT_ kK_ => XS.aloadN X48.here hx rfl (hb hby d2_51) rfl rfl kK_) ?_
  refine own_st (A := T48.setTop (mkF mM 54 #[.val (.ref a), .val (.ref s'), .val (.int (0 : Int32)), .val (.int (3 : Int32)), .val .null, .val (.ref b46)] [(.ref b46), (.ref a)])) (fun tT_ kK_ => XS.aload X48.here hx rfl (hb hby d2_52) rfl rfl kK_) ?_
  obtain ⟨T49, h49, X49, e49, W49, st49⟩ := putF X48 hx hZ hown (host := "") (Or.inl (hw _ (List.mem_of_getElem? (i := 20) rfl))) Via.refl e48 F_a_value E_a (Or.inr ⟨(hw _ (List.mem_of_getElem? (i := 16) rfl)), rfl, hnm⟩) (hw _ (List.mem_of_getElem? (i := 3) rfl)) (ty := (.array .byte)) (by decide) rfl rfl (g := (mkF mM 54 #[.val (.ref a), .val (.ref s'), .val (.int (0 : Int32)), .val (.int (3 : Int32)), .val .null, .val (.ref b46)] [(.ref b46), (.ref a)])) rfl rfl (hb hby d2_54)
  have N49 := Fr.snoc X49 N48 g_a
  have F_a_value := F_a_value.same W49
  have F_a_coder := F_a_coder.other W49 (Or.inr (slot_ne (Or.inr (hw _ (List.mem_of_getElem? (i := 17) rfl))) (Or.inr (hw _ (List.mem_of_getElem? (i := 16) rfl))) (by decide) (t := .byte) (t' := (.array .byte)) (by decide) (by decide)))
  have E_a := E_a.wr W49
  have A_s' := A_s'.other W49 nsa
  have A_b46 := A_b46.other W49 (Ne.symm ne_a_b46)
  have O := O.wr W49 g_a
  have Zn := Nat.le_trans Zn (Keep.of_wr W49).1
  have Kp := Kp.wr W49 (Or.inl (List.mem_of_getElem? (i := 0) rfl))
  refine own_st (A := T49.setTop (mkF mM 57 #[.val (.ref a), .val (.ref s'), .val (.int (0 : Int32)), .val (.int (3 : Int32)), .val .null, .val (.ref b46)] [])) (fun tT_ kK_ => st49 tT_ kK_) ?_
  exact own_retV X49 hx hlk hret (hb hby d2_57) (by rw [e49]; exact ⟨_, _, rfl, N49, Kp, ⟨E_a, F_a_value, F_a_coder, A_b46⟩, b_b46⟩) (by decide) (by decide)
theorem ef_rmS1_3 (mM : MethodId) (a : Addr) (s' : Addr) (ks : ClassId) (cs : Int32) (x0 : Int32) (x1 : Int32) (x2 : Int32) : entryFrame mM #[(.ref a), (.ref s')] 2 = mkF mM 0 #[.val (.ref a), .val (.ref s')] [] := by first | (simp [entryFrame, mkF, argsToLocals, Value.category]; done) | rfl
set_option maxRecDepth 65536 in
set_option maxHeartbeats 40000000 in
theorem rmS1_3 (lL : Launch) (Z : State) (a0 : Array Value) (hw : ∀ d ∈ tables_1, d.before a0 Z = true) (ws : List Jvm.Cond) (a : Addr) (s' : Addr) (ks : ClassId) (cs : Int32) (x0 : Int32) (x1 : Int32) (x2 : Int32) (h0 : Heap) (n0 : Nat) (g_a : n0 ≤ a) (E_a : Exa Z h0 a "java/lang/String") (F_a_value : Fld Z h0 a "java/lang/String" "value" "[B" .null) (F_a_coder : Fld Z h0 a "java/lang/String" "coder" "B" (.int (0 : Int32))) (A_s' : Arv Z h0 s' ks .char 3 [(.int x0), (.int x1), (.int x2)] (.int 0)) (nsa : s' ≠ a) (O : Old Z n0 h0) (Zn : n0 ≤ h0.size) (S_cs : Sta Z Z.heap "java/lang/String" "COMPACT_STRINGS" "Z" (.int cs)) (hcs : ¬ cs = (0 : Int32)) (cx0 : Ck x0) (cx1 : Ck x1) (cx2 : Ck x2) :
    MetFree lL (⟨"java/lang/String", "<init>", "([C)V"⟩ : MethodName) (head1 (Jvm.Cond.code (⟨"java/lang/String", "<init>", "([C)V"⟩ : MethodName) jdk_42_method_3_code 2 none :: ws) ({ frames := 3, cells := 1, slots := 3, locals := 52 } : Room)) (fun as_ uU_ => as_ = #[(.ref a), (.ref s')] ∧ Z.Warmed39 uU_.vm ∧ uU_.heap = h0) (fun _ _ _ _ _ => True) (fun _ uU_ oO_ uE_ => ∃ vV_ lL_, oO_ = .returned vV_ ∧ QS Z a 3 [(.int (((x0).toInt8.toInt32)).toInt8.toInt32), (.int (((x1).toInt8.toInt32)).toInt8.toInt32), (.int (((x2).toInt8.toInt32)).toInt8.toInt32)] h0 n0 vV_ uE_.heap lL_ ∧ FrameEnd uU_ oO_ uE_ lL_ ({ frames := 3, cells := 1, slots := 3, locals := 52 } : Room).cells ({ frames := 3, cells := 1, slots := 3, locals := 52 } : Room).slots) := by
  refine MetFree.of_bodySF (plainFor_of_name pn_java_2flang_2fString) hisR ?_
  intro pP eE sS mM args below meth cC s₁ Bd hml0 hP hK
  obtain ⟨rfl, hZ, hh⟩ := hP
  have hx := Bd.exec
  have hby := Bd.bytes
  have hml : cC.maxLocals = 2 := hml0
  have hown : sS.vm.findClass "java/lang/String" = some mM.cls := findClass_of_methodNamed Bd.named
  have hnm := (name_of_methodNamed Bd.named Bd.method).1
  have hret := Bd.returns
  have hlk := BodyLoose.notSynchronized Bd
  have X0 : Stand pP lL eE ({ frames := 3, cells := 1, slots := 3, locals := 52 } : Room) sS mM #[(.ref a), (.ref s')] below meth cC s₁ [] 0 0 := Stand.of_body Bd
  have e0 : s₁.heap = h0 := by rw [← hh, Bd.state]; rfl
  have N0 := Fr.nil n0
  show own_Go pP eE below sS (QS Z a 3 [(.int (((x0).toInt8.toInt32)).toInt8.toInt32), (.int (((x1).toInt8.toInt32)).toInt8.toInt32), (.int (((x2).toInt8.toInt32)).toInt8.toInt32)] h0 n0) 1 3 (s₁.setTop (entryFrame mM #[(.ref a), (.ref s')] 2))
  refine own_st (A := s₁.setTop (mkF mM 0 #[.val (.ref a), .val (.ref s')] [])) (fun tT_ kK_ => castTop (ef_rmS1_3 mM a s' ks cs x0 x1 x2) kK_) ?_
  refine own_st (A := s₁.setTop (mkF mM 1 #[.val (.ref a), .val (.ref s')] [(.ref a)])) (fun tT_ kK_ => XS.aloadN X0.here hx rfl (hb hby d1_0) rfl rfl kK_) ?_
  refine own_st (A := s₁.setTop (mkF mM 2 #[.val (.ref a), .val (.ref s')] [(.ref s'), (.ref a)])) (fun tT_ kK_ => XS.aloadN X0.here hx rfl (hb hby d1_1) rfl rfl kK_) ?_
  refine own_st (A := s₁.setTop (mkF mM 3 #[.val (.ref a), .val (.ref s')] [(.int (0 : Int32)), (.ref s'), (.ref a)])) (fun tT_ kK_ => XS.iconst X0.here hx rfl (hb hby d1_2) kK_) ?_
  refine own_st (A := s₁.setTop (mkF mM 4 #[.val (.ref a), .val (.ref s')] [(.ref s'), (.int (0 : Int32)), (.ref s'), (.ref a)])) (fun tT_ kK_ => XS.aloadN X0.here hx rfl (hb hby d1_3) rfl rfl kK_) ?_
  obtain ⟨cl50, Ar50, q50, S50, Nn50, H50, G50⟩ := id A_s'
  refine own_st (A := s₁.setTop (mkF mM 5 #[.val (.ref a), .val (.ref s')] [(.int (3 : Int32)), (.int (0 : Int32)), (.ref s'), (.ref a)])) (fun tT_ kK_ => X0.arraylength hx (by rw [e0]; exact Ar50.1) (State.isArrayOf_alike hZ.alike Ar50.2.1) (g := (mkF mM 4 #[.val (.ref a), .val (.ref s')] [(.ref s'), (.int (0 : Int32)), (.ref s'), (.ref a)])) rfl rfl (hb hby d1_4) tT_ (by rw [len_of S50 Nn50]; exact kK_)) ?_
  refine own_st (A := s₁.setTop (mkF mM 6 #[.val (.ref a), .val (.ref s')] [.null, (.int (3 : Int32)), (.int (0 : Int32)), (.ref s'), (.ref a)])) (fun tT_ kK_ => XS.aconstNull X0.here hx rfl (hb hby d1_5) kK_) ?_
  obtain ⟨_, _, ⟨T51, L51, k51, n51⟩, -, X51, ⟨Lc51, hQ51, l51, y51, z51⟩, st51⟩ := X0.specialBack hx (y := (⟨"java/lang/String", "<init>", "([CIILjava/lang/Void;)V"⟩ : MethodName)) rfl hown (mvT hZ (hw _ (List.mem_of_getElem? (i := 8) rfl))) (mvT hZ (hw _ (List.mem_of_getElem? (i := 9) rfl))) (mvT hZ (hw _ (List.mem_of_getElem? (i := 11) rfl))) (by decide) (backOf (W := 0) (rmS4_3 lL Z a0 hw [] a s' ks cs x0 x1 x2 h0 n0 g_a E_a F_a_value F_a_coder A_s' nsa O Zn S_cs hcs cx0 cx1 cx2) hZ (hw _ (List.mem_of_getElem? (i := 11) rfl)) (hw _ (List.mem_of_getElem? (i := 4) rfl)) (by decide) (by decide)) (g := (mkF mM 6 #[.val (.ref a), .val (.ref s')] [.null, (.int (3 : Int32)), (.int (0 : Int32)), (.ref s'), (.ref a)])) rfl (by rw [hml]; rfl) (Steps.refl _) (a := a) (argsL := [(.ref s'), (.int (0 : Int32)), (.int (3 : Int32)), .null]) (rest := []) (lenOf pd__28_5bCIILjava_2flang_2fVoid_3b_29V rfl) rfl (by show 2 * 0 + _ ≤ _; exact Nat.le_of_eq rfl) (hb hby d1_6) (fun _ _ => ⟨rfl, e0, (by decide : 0 + 1 ≤ _), (by decide : 0 + 3 ≤ _)⟩)
  dsimp only [Pt.U, Pt.locs, Pt.cells, Pt.slots] at X51 l51 y51 z51 st51 hQ51
  subst l51 y51 z51
  obtain ⟨d51, k51', rfl, N51q, R51⟩ := hQ51
  have N51 := Fr.app N0 N51q
  have e51 : T51.heap = T51.heap := rfl
  refine own_st (A := T51.setTop (mkF mM 9 #[.val (.ref a), .val (.ref s')] [])) (fun tT_ kK_ => st51.trans kK_) ?_
  exact own_retV X51 hx hlk hret (hb hby d1_9) ⟨_, _, rfl, N51, R51⟩ (by decide) (by decide)
def KeyF (Z : State) (h : Heap) (k f : Addr) : Prop := Fld Z h k "com/example/libttl/libttl/Key" "text" "Ljava/lang/String;" (.ref f) ∨ (Fld Z h k "com/example/libttl/libttl/Key" "text" "Ljava/lang/String;" .null ∧ Fld Z h k "com/example/libttl/libttl/Key" "bytes" "[B" (.ref f))
def Tf (Z : State) (h : Heap) (f : Addr) : Prop := Ins Z h f "java/lang/String" true ∨ (Exa Z h f "[B" ∧ ∃ c t, Z.vm.findClass "[B" = some c ∧ Z.vm.findClass "java/lang/String" = some t ∧ Z.vm.assignable c t = false)
theorem own_Tf {Z : State} {h : Heap} {f : Addr} {a0 : Array Value} {n : Nat} (E : Exa Z h f "[B") (w : (Jvm.Cond.instantiable "java/lang/String" n).before a0 Z = true) : Tf Z h f := by
  obtain ⟨t, kt, g1, -⟩ := Cond.instantiable_spec w
  obtain ⟨cell, k, e1, e2, e3, e4, -⟩ := id E
  by_cases q : Z.vm.assignable cell.cls t = true
  · exact Or.inl ⟨cell, t, e1, g1, by rw [e4, q]; rfl⟩
  · exact Or.inr ⟨E, cell.cls, t, e2, g1, by simpa using q⟩
theorem own_Fld_inj {Z : State} {h : Heap} {a : Addr} {C n d : String} {v w : Value} (F : Fld Z h a C n d v) (G : Fld Z h a C n d w) : v = w := by
  obtain ⟨cell, cf, k, i, f, h1, h2, -, -, -, -, h7⟩ := F
  obtain ⟨cell', cf', k', i', f', g1, g2, -, -, -, -, g7⟩ := G
  cases h1.symm.trans g1
  cases h2.symm.trans g2
  exact Option.some.inj (h7.symm.trans g7)
theorem own_and3 (x : Int32) : (x &&& (3 : Int32)) = 0 ∨ (x &&& (3 : Int32)) = 1 ∨ (x &&& (3 : Int32)) = 2 ∨ (x &&& (3 : Int32)) = 3 := by
  have m := c_mask x 3 2 (by decide) (by decide)
  have r := rng32 x
  have e0 : (0 : Int32).toInt = 0 := by decide
  have e1 : (1 : Int32).toInt = 1 := by decide
  have e2 : (2 : Int32).toInt = 2 := by decide
  have e3 : (3 : Int32).toInt = 3 := by decide
  simp only [← Int32.toInt_inj]
  omega
section OwnNewB
variable {p : Program} {l : Launch} {e : Env} {R : Room} {s : State} {m : MethodId} {args : Array Value} {below : List Frame} {meth : Method} {c : Code} {T : State} {locs : List Loc} {cells slots : Nat} {Z : State} {a0 : Array Value} {h : Heap}
/-- newP of bytes, and which class the array has -/
theorem own_newB (X : Stand p l e R s m args below meth c T locs cells slots) (hx : p.tables.exec = Jvm.exec) (hZ : Z.Warmed39 s.vm) (w : (Jvm.Cond.arrayClass .byte).before a0 Z = true) (eT : T.heap = h) {g : JFrame} (hg : g.method = m) (hd : decode c.code g.pc = .ok (.newarray .byte, 2)) {n : Int32} {rest : List Value} (hs : g.stack = .int n :: rest)
    (hn : ¬ n < 0) {cap : Nat} (hcap : n.toNatClampNeg ≤ cap) (hb : cap ≤ 4096) (hc : cells + 1 ≤ R.cells) (hl : slots + cap ≤ R.slots) :
    ∃ T' h' cA, Stand p l e R s m args below meth c T' locs (cells + 1) (slots + cap) ∧ T'.heap = h' ∧ Ext h h' ∧ Arr Z h' h.size (newA cA .byte n) .byte ∧ Exa Z h' h.size "[B" ∧
      ∀ target, Steps p.tables e below (T'.setTop { g with pc := g.pc + 2, stack := .ref h.size :: rest }) target → Steps p.tables e below (T.setTop g) target := by
  have h8 : componentBytes (newarray.typeOf .byte) ≤ 8 := by decide
  obtain ⟨cA, kA, comp, h1, h2, h3, X', st⟩ := X.newarrayPrim hx (atype := .byte) (mvA hZ w) hg hd hs hn (by have := Nat.mul_le_mul hcap h8; omega) hc (by omega)
  have h1 : Z.vm.findClass "[B" = some cA := by rw [hZ.alike.findClass] at h1; exact h1
  obtain ⟨k1, q1, -⟩ := Vm.findClass_spec h1
  obtain ⟨k2, q2, q3⟩ := hZ.alike.2.2 _ _ q1
  have hk : k1.kind = .array comp .byte := by
    have q : kA = k2 := Option.some.inj (h2.symm.trans q2)
    rw [q, q3] at h3; exact h3
  subst eT
  have hat : (T.heap.push (newA cA .byte n))[T.heap.size]? = some (newA cA .byte n) := by simp
  refine ⟨_, T.heap.push (newA cA .byte n), cA, X'.more (Nat.le_refl _) (by omega), rfl, ⟨by simp, fun a cl q => ?_⟩, ⟨hat, ⟨by simp [newA], k1, q1, comp, hk⟩, by simp [newA]⟩, ⟨_, k1, hat, h1, q1, rfl, fun q => by rw [hk] at q; cases q⟩, st⟩
  have lt := (Array.getElem?_eq_some_iff.mp q).1
  rw [Array.getElem?_push_lt lt]
  exact (Array.getElem?_eq_getElem lt).symm.trans q
end OwnNewB
def QKI (Z : State) (a f : Addr) (h0 : Heap) (n0 : Nat) (v : Option Value) (h : Heap) (L : List Loc) : Prop := v = none ∧ Fr n0 L ∧ Keep h0 h [a] ∧ KeyF Z h a f
def QK (Z : State) (f : Addr) (h0 : Heap) (n0 : Nat) (v : Option Value) (h : Heap) (L : List Loc) : Prop := ∃ k, v = some (.ref k) ∧ Fr n0 L ∧ Ext h0 h ∧ Exa Z h k "com/example/libttl/libttl/Key" ∧ KeyF Z h k f
def QSE (a : Addr) (h0 : Heap) (n0 : Nat) (v : Option Value) (h : Heap) (L : List Loc) : Prop := v = none ∧ Fr n0 L ∧ Keep h0 h [a]
theorem d4_0 : decode prog_15_method_2_code 0 = .ok (.aload_n 0, 1) := by decide +kernel
theorem d4_1 : decode prog_15_method_2_code 1 = .ok (.invokespecial 13, 3) := by decide +kernel
theorem d4_4 : decode prog_15_method_2_code 4 = .ok (.aload_n 0, 1) := by decide +kernel
theorem d4_5 : decode prog_15_method_2_code 5 = .ok (.aload_n 1, 1) := by decide +kernel
theorem d4_6 : decode prog_15_method_2_code 6 = .ok (.putfield 18, 3) := by decide +kernel
theorem d4_9 : decode prog_15_method_2_code 9 = .ok (.aload_n 0, 1) := by decide +kernel
theorem d4_10 : decode prog_15_method_2_code 10 = .ok (.aconst_null, 1) := by decide +kernel
theorem d4_11 : decode prog_15_method_2_code 11 = .ok (.putfield 22, 3) := by decide +kernel
theorem d4_14 : decode prog_15_method_2_code 14 = .ok (.aload_n 0, 1) := by decide +kernel
theorem d4_15 : decode prog_15_method_2_code 15 = .ok (.iload_n 2, 1) := by decide +kernel
theorem d4_16 : decode prog_15_method_2_code 16 = .ok (.putfield 26, 3) := by decide +kernel
theorem d4_19 : decode prog_15_method_2_code 19 = .ok (.return_, 1) := by decide +kernel
theorem pn_com_2fexample_2flibttl_2flibttl_2fKey : plainName "com/example/libttl/libttl/Key" = true := by first | (simp [plainName, overriddenIn]; done) | decide +kernel
theorem ef_rmKB (mM : MethodId) (a : Addr) (f : Addr) (y : Int32) : entryFrame mM #[(.ref a), (.ref f), (.int y)] 3 = mkF mM 0 #[.val (.ref a), .val (.ref f), .val (.int y)] [] := by first | (simp [entryFrame, mkF, argsToLocals, Value.category]; done) | rfl
set_option maxRecDepth 65536 in
set_option maxHeartbeats 40000000 in
theorem rmKB (lL : Launch) (Z : State) (a0 : Array Value) (hw : ∀ d ∈ tables_1, d.before a0 Z = true) (ws : List Jvm.Cond) (a : Addr) (f : Addr) (y : Int32) (h0 : Heap) (n0 : Nat) (g_a : n0 ≤ a) (E_a : Exa Z h0 a "com/example/libttl/libttl/Key") (F_a_bytes : Fld Z h0 a "com/example/libttl/libttl/Key" "bytes" "[B" .null) (F_a_text : Fld Z h0 a "com/example/libttl/libttl/Key" "text" "Ljava/lang/String;" .null) (F_a_hash : Fld Z h0 a "com/example/libttl/libttl/Key" "hash" "I" (.int (0 : Int32))) :
    MetFree lL (⟨"com/example/libttl/libttl/Key", "<init>", "([BI)V"⟩ : MethodName) (head1 (Jvm.Cond.code (⟨"com/example/libttl/libttl/Key", "<init>", "([BI)V"⟩ : MethodName) prog_15_method_2_code 3 none :: ws) ({ frames := 1, cells := 0, slots := 0, locals := 12 } : Room)) (fun as_ uU_ => as_ = #[(.ref a), (.ref f), (.int y)] ∧ Z.Warmed39 uU_.vm ∧ uU_.heap = h0) (fun _ _ _ _ _ => True) (fun _ uU_ oO_ uE_ => ∃ vV_ lL_, oO_ = .returned vV_ ∧ QKI Z a f h0 n0 vV_ uE_.heap lL_ ∧ FrameEnd uU_ oO_ uE_ lL_ ({ frames := 1, cells := 0, slots := 0, locals := 12 } : Room).cells ({ frames := 1, cells := 0, slots := 0, locals := 12 } : Room).slots) := by
  refine MetFree.of_bodySF (plainFor_of_name pn_com_2fexample_2flibttl_2flibttl_2fKey) hisR ?_
  intro pP eE sS mM args below meth cC s₁ Bd hml0 hP hK
  obtain ⟨rfl, hZ, hh⟩ := hP
  have hx := Bd.exec
  have hby := Bd.bytes
  have hml : cC.maxLocals = 3 := hml0
  have hown : sS.vm.findClass "com/example/libttl/libttl/Key" = some mM.cls := findClass_of_methodNamed Bd.named
  have hnm := (name_of_methodNamed Bd.named Bd.method).1
  have hret := Bd.returns
  have hlk := BodyLoose.notSynchronized Bd
  have X0 : Stand pP lL eE ({ frames := 1, cells := 0, slots := 0, locals := 12 } : Room) sS mM #[(.ref a), (.ref f), (.int y)] below meth cC s₁ [] 0 0 := Stand.of_body Bd
  have e0 : s₁.heap = h0 := by rw [← hh, Bd.state]; rfl
  have N0 := Fr.nil n0
  show own_Go pP eE below sS (QKI Z a f h0 n0) 0 0 (s₁.setTop (entryFrame mM #[(.ref a), (.ref f), (.int y)] 3))
  refine own_st (A := s₁.setTop (mkF mM 0 #[.val (.ref a), .val (.ref f), .val (.int y)] [])) (fun tT_ kK_ => castTop (ef_rmKB mM a f y) kK_) ?_
  have Kp := Keep.refl h0 [a]
  refine own_st (A := s₁.setTop (mkF mM 1 #[.val (.ref a), .val (.ref f), .val (.int y)] [(.ref a)])) (fun tT_ kK_ => XS.aloadN X0.here hx rfl (hb hby d4_0) rfl rfl kK_) ?_
  obtain ⟨T52, X52, e52, st52⟩ := initO X0 hx hZ hown (hw _ (List.mem_of_getElem? (i := 28) rfl)) (hw _ (List.mem_of_getElem? (i := 13) rfl)) (hw _ (List.mem_of_getElem? (i := 14) rfl)) e0 (g := (mkF mM 1 #[.val (.ref a), .val (.ref f), .val (.int y)] [(.ref a)])) rfl (by rw [hml]; rfl) rfl (hb hby d4_1) (by decide) (W := 0) (by show 2 * 0 + _ ≤ _; exact Nat.le_of_eq rfl) (by decide)
  refine own_st (A := T52.setTop (mkF mM 4 #[.val (.ref a), .val (.ref f), .val (.int y)] [])) (fun tT_ kK_ => st52 tT_ kK_) ?_
  refine own_st (A := T52.setTop (mkF mM 5 #[.val (.ref a), .val (.ref f), .val (.int y)] [(.ref a)])) (fun tT_ kK_ => XS.aloadN X52.here hx rfl (hb hby d4_4) rfl rfl kK_) ?_
  refine own_st (A := T52.setTop (mkF mM 6 #[.val (.ref a), .val (.ref f), .val (.int y)] [(.ref f), (.ref a)])) (fun tT_ kK_ => XS.aloadN X52.here hx rfl (hb hby d4_5) rfl rfl kK_) ?_
  obtain ⟨T53, h53, X53, e53, W53, st53⟩ := putF X52 hx hZ hown (host := "") (Or.inl (hw _ (List.mem_of_getElem? (i := 29) rfl))) Via.refl e52 F_a_bytes E_a (Or.inr ⟨(hw _ (List.mem_of_getElem? (i := 30) rfl)), rfl, hnm⟩) (hw _ (List.mem_of_getElem? (i := 23) rfl)) (ty := (.array .byte)) (by decide) rfl rfl (g := (mkF mM 6 #[.val (.ref a), .val (.ref f), .val (.int y)] [(.ref f), (.ref a)])) rfl rfl (hb hby d4_6)
  have N53 := Fr.snoc X53 N0 g_a
  have F_a_bytes := F_a_bytes.same W53
  have F_a_text := F_a_text.other W53 (Or.inr (slot_ne (Or.inr (hw _ (List.mem_of_getElem? (i := 32) rfl))) (Or.inr (hw _ (List.mem_of_getElem? (i := 30) rfl))) (by decide) (t := (.object "java/lang/String")) (t' := (.array .byte)) (by decide) (by decide)))
  have F_a_hash := F_a_hash.other W53 (Or.inr (slot_ne (Or.inr (hw _ (List.mem_of_getElem? (i := 34) rfl))) (Or.inr (hw _ (List.mem_of_getElem? (i := 30) rfl))) (by decide) (t := .int) (t' := (.array .byte)) (by decide) (by decide)))
  have E_a := E_a.wr W53
  have Kp := Kp.wr W53 (Or.inl (List.mem_of_getElem? (i := 0) rfl))
  refine own_st (A := T53.setTop (mkF mM 9 #[.val (.ref a), .val (.ref f), .val (.int y)] [])) (fun tT_ kK_ => st53 tT_ kK_) ?_
  refine own_st (A := T53.setTop (mkF mM 10 #[.val (.ref a), .val (.ref f), .val (.int y)] [(.ref a)])) (fun tT_ kK_ => XS.aloadN X53.here hx rfl (hb hby d4_9) rfl rfl kK_) ?_
  refine own_st (A := T53.setTop (mkF mM 11 #[.val (.ref a), .val (.ref f), .val (.int y)] [.null, (.ref a)])) (fun tT_ kK_ => XS.aconstNull X53.here hx rfl (hb hby d4_10) kK_) ?_
  obtain ⟨T54, h54, X54, e54, W54, st54⟩ := putF X53 hx hZ hown (host := "") (Or.inl (hw _ (List.mem_of_getElem? (i := 31) rfl))) Via.refl e53 F_a_text E_a (Or.inr ⟨(hw _ (List.mem_of_getElem? (i := 32) rfl)), rfl, hnm⟩) (hw _ (List.mem_of_getElem? (i := 23) rfl)) (ty := (.object "java/lang/String")) (by decide) rfl rfl (g := (mkF mM 11 #[.val (.ref a), .val (.ref f), .val (.int y)] [.null, (.ref a)])) rfl rfl (hb hby d4_11)
  have N54 := Fr.snoc X54 N53 g_a
  have F_a_bytes := F_a_bytes.other W54 (Or.inr (slot_ne (Or.inr (hw _ (List.mem_of_getElem? (i := 30) rfl))) (Or.inr (hw _ (List.mem_of_getElem? (i := 32) rfl))) (by decide) (t := (.array .byte)) (t' := (.object "java/lang/String")) (by decide) (by decide)))
  have F_a_text := F_a_text.same W54
  have F_a_hash := F_a_hash.other W54 (Or.inr (slot_ne (Or.inr (hw _ (List.mem_of_getElem? (i := 34) rfl))) (Or.inr (hw _ (List.mem_of_getElem? (i := 32) rfl))) (by decide) (t := .int) (t' := (.object "java/lang/String")) (by decide) (by decide)))
  have E_a := E_a.wr W54
  have Kp := Kp.wr W54 (Or.inl (List.mem_of_getElem? (i := 0) rfl))
  refine own_st (A := T54.setTop (mkF mM 14 #[.val (.ref a), .val (.ref f), .val (.int y)] [])) (fun tT_ kK_ => st54 tT_ kK_) ?_
  refine own_st (A := T54.setTop (mkF mM 15 #[.val (.ref a), .val (.ref f), .val (.int y)] [(.ref a)])) (fun tT_ kK_ => XS.aloadN X54.here hx rfl (hb hby d4_14) rfl rfl kK_) ?_
  refine own_st (A := T54.setTop (mkF mM 16 #[.val (.ref a), .val (.ref f), .val (.int y)] [(.int y), (.ref a)])) (fun tT_ kK_ => XS.iloadN X54.here hx rfl (hb hby d4_15) rfl kK_) ?_
  obtain ⟨T55, h55, X55, e55, W55, st55⟩ := putF X54 hx hZ hown (host := "") (Or.inl (hw _ (List.mem_of_getElem? (i := 33) rfl))) Via.refl e54 F_a_hash E_a (Or.inr ⟨(hw _ (List.mem_of_getElem? (i := 34) rfl)), rfl, hnm⟩) (hw _ (List.mem_of_getElem? (i := 23) rfl)) (ty := .int) (by decide) rfl rfl (g := (mkF mM 16 #[.val (.ref a), .val (.ref f), .val (.int y)] [(.int y), (.ref a)])) rfl rfl (hb hby d4_16)
  have N55 := Fr.snoc X55 N54 g_a
  have F_a_bytes := F_a_bytes.other W55 (Or.inr (slot_ne (Or.inr (hw _ (List.mem_of_getElem? (i := 30) rfl))) (Or.inr (hw _ (List.mem_of_getElem? (i := 34) rfl))) (by decide) (t := (.array .byte)) (t' := .int) (by decide) (by decide)))
  have F_a_text := F_a_text.other W55 (Or.inr (slot_ne (Or.inr (hw _ (List.mem_of_getElem? (i := 32) rfl))) (Or.inr (hw _ (List.mem_of_getElem? (i := 34) rfl))) (by decide) (t := (.object "java/lang/String")) (t' := .int) (by decide) (by decide)))
  have F_a_hash := F_a_hash.same W55
  have E_a := E_a.wr W55
  have Kp := Kp.wr W55 (Or.inl (List.mem_of_getElem? (i := 0) rfl))
  refine own_st (A := T55.setTop (mkF mM 19 #[.val (.ref a), .val (.ref f), .val (.int y)] [])) (fun tT_ kK_ => st55 tT_ kK_) ?_
  exact own_retV X55 hx hlk hret (hb hby d4_19) (by rw [e55]; exact ⟨rfl, N55, Kp, Or.inr ⟨F_a_text, F_a_bytes⟩⟩) (by decide) (by decide)
theorem d7_0 : decode prog_15_method_3_code 0 = .ok (.aload_n 0, 1) := by decide +kernel
theorem d7_1 : decode prog_15_method_3_code 1 = .ok (.invokespecial 13, 3) := by decide +kernel
theorem d7_4 : decode prog_15_method_3_code 4 = .ok (.aload_n 0, 1) := by decide +kernel
theorem d7_5 : decode prog_15_method_3_code 5 = .ok (.aconst_null, 1) := by decide +kernel
theorem d7_6 : decode prog_15_method_3_code 6 = .ok (.putfield 18, 3) := by decide +kernel
theorem d7_9 : decode prog_15_method_3_code 9 = .ok (.aload_n 0, 1) := by decide +kernel
theorem d7_10 : decode prog_15_method_3_code 10 = .ok (.aload_n 1, 1) := by decide +kernel
theorem d7_11 : decode prog_15_method_3_code 11 = .ok (.putfield 22, 3) := by decide +kernel
theorem d7_14 : decode prog_15_method_3_code 14 = .ok (.aload_n 0, 1) := by decide +kernel
theorem d7_15 : decode prog_15_method_3_code 15 = .ok (.iload_n 2, 1) := by decide +kernel
theorem d7_16 : decode prog_15_method_3_code 16 = .ok (.putfield 26, 3) := by decide +kernel
theorem d7_19 : decode prog_15_method_3_code 19 = .ok (.return_, 1) := by decide +kernel
theorem ef_rmKS (mM : MethodId) (a : Addr) (f : Addr) (y : Int32) : entryFrame mM #[(.ref a), (.ref f), (.int y)] 3 = mkF mM 0 #[.val (.ref a), .val (.ref f), .val (.int y)] [] := by first | (simp [entryFrame, mkF, argsToLocals, Value.category]; done) | rfl
set_option maxRecDepth 65536 in
set_option maxHeartbeats 40000000 in
theorem rmKS (lL : Launch) (Z : State) (a0 : Array Value) (hw : ∀ d ∈ tables_1, d.before a0 Z = true) (ws : List Jvm.Cond) (a : Addr) (f : Addr) (y : Int32) (h0 : Heap) (n0 : Nat) (g_a : n0 ≤ a) (E_a : Exa Z h0 a "com/example/libttl/libttl/Key") (F_a_bytes : Fld Z h0 a "com/example/libttl/libttl/Key" "bytes" "[B" .null) (F_a_text : Fld Z h0 a "com/example/libttl/libttl/Key" "text" "Ljava/lang/String;" .null) (F_a_hash : Fld Z h0 a "com/example/libttl/libttl/Key" "hash" "I" (.int (0 : Int32))) :
    MetFree lL (⟨"com/example/libttl/libttl/Key", "<init>", "(Ljava/lang/String;I)V"⟩ : MethodName) (head1 (Jvm.Cond.code (⟨"com/example/libttl/libttl/Key", "<init>", "(Ljava/lang/String;I)V"⟩ : MethodName) prog_15_method_3_code 3 none :: ws) ({ frames := 1, cells := 0, slots := 0, locals := 12 } : Room)) (fun as_ uU_ => as_ = #[(.ref a), (.ref f), (.int y)] ∧ Z.Warmed39 uU_.vm ∧ uU_.heap = h0) (fun _ _ _ _ _ => True) (fun _ uU_ oO_ uE_ => ∃ vV_ lL_, oO_ = .returned vV_ ∧ QKI Z a f h0 n0 vV_ uE_.heap lL_ ∧ FrameEnd uU_ oO_ uE_ lL_ ({ frames := 1, cells := 0, slots := 0, locals := 12 } : Room).cells ({ frames := 1, cells := 0, slots := 0, locals := 12 } : Room).slots) := by
  refine MetFree.of_bodySF (plainFor_of_name pn_com_2fexample_2flibttl_2flibttl_2fKey) hisR ?_
  intro pP eE sS mM args below meth cC s₁ Bd hml0 hP hK
  obtain ⟨rfl, hZ, hh⟩ := hP
  have hx := Bd.exec
  have hby := Bd.bytes
  have hml : cC.maxLocals = 3 := hml0
  have hown : sS.vm.findClass "com/example/libttl/libttl/Key" = some mM.cls := findClass_of_methodNamed Bd.named
  have hnm := (name_of_methodNamed Bd.named Bd.method).1
  have hret := Bd.returns
  have hlk := BodyLoose.notSynchronized Bd
  have X0 : Stand pP lL eE ({ frames := 1, cells := 0, slots := 0, locals := 12 } : Room) sS mM #[(.ref a), (.ref f), (.int y)] below meth cC s₁ [] 0 0 := Stand.of_body Bd
  have e0 : s₁.heap = h0 := by rw [← hh, Bd.state]; rfl
  have N0 := Fr.nil n0
  show own_Go pP eE below sS (QKI Z a f h0 n0) 0 0 (s₁.setTop (entryFrame mM #[(.ref a), (.ref f), (.int y)] 3))
  refine own_st (A := s₁.setTop (mkF mM 0 #[.val (.ref a), .val (.ref f), .val (.int y)] [])) (fun tT_ kK_ => castTop (ef_rmKS mM a f y) kK_) ?_
  have Kp := Keep.refl h0 [a]
  refine own_st (A := s₁.setTop (mkF mM 1 #[.val (.ref a), .val (.ref f), .val (.int y)] [(.ref a)])) (fun tT_ kK_ => XS.aloadN X0.here hx rfl (hb hby d7_0) rfl rfl kK_) ?_
  obtain ⟨T56, X56, e56, st56⟩ := initO X0 hx hZ hown (hw _ (List.mem_of_getElem? (i := 28) rfl)) (hw _ (List.mem_of_getElem? (i := 13) rfl)) (hw _ (List.mem_of_getElem? (i := 14) rfl)) e0 (g := (mkF mM 1 #[.val (.ref a), .val (.ref f), .val (.int y)] [(.ref a)])) rfl (by rw [hml]; rfl) rfl (hb hby d7_1) (by decide) (W := 0) (by show 2 * 0 + _ ≤ _; exact Nat.le_of_eq rfl) (by decide)
  refine own_st (A := T56.setTop (mkF mM 4 #[.val (.ref a), .val (.ref f), .val (.int y)] [])) (fun tT_ kK_ => st56 tT_ kK_) ?_
  refine own_st (A := T56.setTop (mkF mM 5 #[.val (.ref a), .val (.ref f), .val (.int y)] [(.ref a)])) (fun tT_ kK_ => XS.aloadN X56.here hx rfl (hb hby d7_4) rfl rfl kK_) ?_
  refine own_st (A := T56.setTop (mkF mM 6 #[.val (.ref a), .val (.ref f), .val (.int y)] [.null, (.ref a)])) (fun tT_ kK_ => XS.aconstNull X56.here hx rfl (hb hby d7_5) kK_) ?_
  obtain ⟨T57, h57, X57, e57, W57, st57⟩ := putF X56 hx hZ hown (host := "") (Or.inl (hw _ (List.mem_of_getElem? (i := 29) rfl))) Via.refl e56 F_a_bytes E_a (Or.inr ⟨(hw _ (List.mem_of_getElem? (i := 30) rfl)), rfl, hnm⟩) (hw _ (List.mem_of_getElem? (i := 23) rfl)) (ty := (.array .byte)) (by decide) rfl rfl (g := (mkF mM 6 #[.val (.ref a), .val (.ref f), .val (.int y)] [.null, (.ref a)])) rfl rfl (hb hby d7_6)
  have N57 := Fr.snoc X57 N0 g_a
  have F_a_bytes := F_a_bytes.same W57
  have F_a_text := F_a_text.other W57 (Or.inr (slot_ne (Or.inr (hw _ (List.mem_of_getElem? (i := 32) rfl))) (Or.inr (hw _ (List.mem_of_getElem? (i := 30) rfl))) (by decide) (t := (.object "java/lang/String")) (t' := (.array .byte)) (by decide) (by decide)))
  have F_a_hash := F_a_hash.other W57 (Or.inr (slot_ne (Or.inr (hw _ (List.mem_of_getElem? (i := 34) rfl))) (Or.inr (hw _ (List.mem_of_getElem? (i := 30) rfl))) (by decide) (t := .int) (t' := (.array .byte)) (by decide) (by decide)))
  have E_a := E_a.wr W57
  have Kp := Kp.wr W57 (Or.inl (List.mem_of_getElem? (i := 0) rfl))
  refine own_st (A := T57.setTop (mkF mM 9 #[.val (.ref a), .val (.ref f), .val (.int y)] [])) (fun tT_ kK_ => st57 tT_ kK_) ?_
  refine own_st (A := T57.setTop (mkF mM 10 #[.val (.ref a), .val (.ref f), .val (.int y)] [(.ref a)])) (fun tT_ kK_ => XS.aloadN X57.here hx rfl (hb hby d7_9) rfl rfl kK_) ?_
  refine own_st (A := T57.setTop (mkF mM 11 #[.val (.ref a), .val (.ref f), .val (.int y)] [(.ref f), (.ref a)])) (fun tT_ kK_ => XS.aloadN X57.here hx rfl (hb hby d7_10) rfl rfl kK_) ?_
  obtain ⟨T58, h58, X58, e58, W58, st58⟩ := putF X57 hx hZ hown (host := "") (Or.inl (hw _ (List.mem_of_getElem? (i := 31) rfl))) Via.refl e57 F_a_text E_a (Or.inr ⟨(hw _ (List.mem_of_getElem? (i := 32) rfl)), rfl, hnm⟩) (hw _ (List.mem_of_getElem? (i := 23) rfl)) (ty := (.object "java/lang/String")) (by decide) rfl rfl (g := (mkF mM 11 #[.val (.ref a), .val (.ref f), .val (.int y)] [(.ref f), (.ref a)])) rfl rfl (hb hby d7_11)
  have N58 := Fr.snoc X58 N57 g_a
  have F_a_bytes := F_a_bytes.other W58 (Or.inr (slot_ne (Or.inr (hw _ (List.mem_of_getElem? (i := 30) rfl))) (Or.inr (hw _ (List.mem_of_getElem? (i := 32) rfl))) (by decide) (t := (.array .byte)) (t' := (.object "java/lang/String")) (by decide) (by decide)))
  have F_a_text := F_a_text.same W58
  have F_a_hash := F_a_hash.other W58 (Or.inr (slot_ne (Or.inr (hw _ (List.mem_of_getElem? (i := 34) rfl))) (Or.inr (hw _ (List.mem_of_getElem? (i := 32) rfl))) (by decide) (t := .int) (t' := (.object "java/lang/String")) (by decide) (by decide)))
  have E_a := E_a.wr W58
  have Kp := Kp.wr W58 (Or.inl (List.mem_of_getElem? (i := 0) rfl))
  refine own_st (A := T58.setTop (mkF mM 14 #[.val (.ref a), .val (.ref f), .val (.int y)] [])) (fun tT_ kK_ => st58 tT_ kK_) ?_
  refine own_st (A := T58.setTop (mkF mM 15 #[.val (.ref a), .val (.ref f), .val (.int y)] [(.ref a)])) (fun tT_ kK_ => XS.aloadN X58.here hx rfl (hb hby d7_14) rfl rfl kK_) ?_
  refine own_st (A := T58.setTop (mkF mM 16 #[.val (.ref a), .val (.ref f), .val (.int y)] [(.int y), (.ref a)])) (fun tT_ kK_ => XS.iloadN X58.here hx rfl (hb hby d7_15) rfl kK_) ?_
  obtain ⟨T59, h59, X59, e59, W59, st59⟩ := putF X58 hx hZ hown (host := "") (Or.inl (hw _ (List.mem_of_getElem? (i := 33) rfl))) Via.refl e58 F_a_hash E_a (Or.inr ⟨(hw _ (List.mem_of_getElem? (i := 34) rfl)), rfl, hnm⟩) (hw _ (List.mem_of_getElem? (i := 23) rfl)) (ty := .int) (by decide) rfl rfl (g := (mkF mM 16 #[.val (.ref a), .val (.ref f), .val (.int y)] [(.int y), (.ref a)])) rfl rfl (hb hby d7_16)
  have N59 := Fr.snoc X59 N58 g_a
  have F_a_bytes := F_a_bytes.other W59 (Or.inr (slot_ne (Or.inr (hw _ (List.mem_of_getElem? (i := 30) rfl))) (Or.inr (hw _ (List.mem_of_getElem? (i := 34) rfl))) (by decide) (t := (.array .byte)) (t' := .int) (by decide) (by decide)))
  have F_a_text := F_a_text.other W59 (Or.inr (slot_ne (Or.inr (hw _ (List.mem_of_getElem? (i := 32) rfl))) (Or.inr (hw _ (List.mem_of_getElem? (i := 34) rfl))) (by decide) (t := (.object "java/lang/String")) (t' := .int) (by decide) (by decide)))
  have F_a_hash := F_a_hash.same W59
  have E_a := E_a.wr W59
  have Kp := Kp.wr W59 (Or.inl (List.mem_of_getElem? (i := 0) rfl))
  refine own_st (A := T59.setTop (mkF mM 19 #[.val (.ref a), .val (.ref f), .val (.int y)] [])) (fun tT_ kK_ => st59 tT_ kK_) ?_
  exact own_retV X59 hx hlk hret (hb hby d7_19) (by rw [e59]; exact ⟨rfl, N59, Kp, Or.inl F_a_text⟩) (by decide) (by decide)
theorem d5_0 : decode prog_15_method_6_code 0 = .ok (.aload_n 0, 1) := by decide +kernel
theorem d5_1 : decode prog_15_method_6_code 1 = .ok (.getfield 22, 3) := by decide +kernel
theorem d5_4 : decode prog_15_method_6_code 4 = .ok (.ifnull 10, 3) := by decide +kernel
theorem d5_7 : decode prog_15_method_6_code 7 = .ok (.aload_n 0, 1) := by decide +kernel
theorem d5_8 : decode prog_15_method_6_code 8 = .ok (.getfield 22, 3) := by decide +kernel
theorem d5_11 : decode prog_15_method_6_code 11 = .ok (.goto 7, 3) := by decide +kernel
theorem d5_18 : decode prog_15_method_6_code 18 = .ok (.areturn, 1) := by decide +kernel
theorem ef_rmFT (mM : MethodId) (a : Addr) (f : Addr) : entryFrame mM #[(.ref a)] 1 = mkF mM 0 #[.val (.ref a)] [] := by first | (simp [entryFrame, mkF, argsToLocals, Value.category]; done) | rfl
set_option maxRecDepth 65536 in
set_option maxHeartbeats 40000000 in
theorem rmFT (lL : Launch) (Z : State) (a0 : Array Value) (hw : ∀ d ∈ tables_1, d.before a0 Z = true) (ws : List Jvm.Cond) (a : Addr) (f : Addr) (h0 : Heap) (n0 : Nat) (ft : Fld Z h0 a "com/example/libttl/libttl/Key" "text" "Ljava/lang/String;" (.ref f)) :
    MetFree lL (⟨"com/example/libttl/libttl/Key", "form", "()Ljava/lang/Object;"⟩ : MethodName) (head1 (Jvm.Cond.code (⟨"com/example/libttl/libttl/Key", "form", "()Ljava/lang/Object;"⟩ : MethodName) prog_15_method_6_code 1 (some (.object "java/lang/Object")) :: ws) ({ frames := 0, cells := 0, slots := 0, locals := 0 } : Room)) (fun as_ uU_ => as_ = #[(.ref a)] ∧ Z.Warmed39 uU_.vm ∧ uU_.heap = h0) (fun _ _ _ _ _ => True) (fun _ uU_ oO_ uE_ => ∃ vV_ lL_, oO_ = .returned vV_ ∧ Qw (.ref f) h0 n0 vV_ uE_.heap lL_ ∧ FrameEnd uU_ oO_ uE_ lL_ ({ frames := 0, cells := 0, slots := 0, locals := 0 } : Room).cells ({ frames := 0, cells := 0, slots := 0, locals := 0 } : Room).slots) := by
  refine MetFree.of_bodySF (plainFor_of_name pn_com_2fexample_2flibttl_2flibttl_2fKey) hisR ?_
  intro pP eE sS mM args below meth cC s₁ Bd hml0 hP hK
  obtain ⟨rfl, hZ, hh⟩ := hP
  have hx := Bd.exec
  have hby := Bd.bytes
  have hml : cC.maxLocals = 1 := hml0
  have hown : sS.vm.findClass "com/example/libttl/libttl/Key" = some mM.cls := findClass_of_methodNamed Bd.named
  have hnm := (name_of_methodNamed Bd.named Bd.method).1
  have hret := Bd.returns
  have hlk := BodyLoose.notSynchronized Bd
  have X0 : Stand pP lL eE ({ frames := 0, cells := 0, slots := 0, locals := 0 } : Room) sS mM #[(.ref a)] below meth cC s₁ [] 0 0 := Stand.of_body Bd
  have e0 : s₁.heap = h0 := by rw [← hh, Bd.state]; rfl
  have N0 := Fr.nil n0
  show own_Go pP eE below sS (Qw (.ref f) h0 n0) 0 0 (s₁.setTop (entryFrame mM #[(.ref a)] 1))
  refine own_st (A := s₁.setTop (mkF mM 0 #[.val (.ref a)] [])) (fun tT_ kK_ => castTop (ef_rmFT mM a f) kK_) ?_
  refine own_st (A := s₁.setTop (mkF mM 1 #[.val (.ref a)] [(.ref a)])) (fun tT_ kK_ => XS.aloadN X0.here hx rfl (hb hby d5_0) rfl rfl kK_) ?_
  obtain ⟨T60, X60, e60, st60⟩ := getF X0 hx hZ hown (host := "") (Or.inl (hw _ (List.mem_of_getElem? (i := 31) rfl))) Via.refl e0 ft (g := (mkF mM 1 #[.val (.ref a)] [(.ref a)])) rfl rfl (hb hby d5_1)
  refine own_st (A := T60.setTop (mkF mM 4 #[.val (.ref a)] [(.ref f)])) (fun tT_ kK_ => st60 tT_ kK_) ?_
  refine own_st (A := T60.setTop (mkF mM 7 #[.val (.ref a)] [])) (fun tT_ kK_ => XS.ifnullNo X60.here hx rfl (hb hby d5_4) rfl kK_) ?_
  refine own_st (A := T60.setTop (mkF mM 8 #[.val (.ref a)] [(.ref a)])) (fun tT_ kK_ => XS.aloadN X60.here hx rfl (hb hby d5_7) rfl rfl kK_) ?_
  obtain ⟨T61, X61, e61, st61⟩ := getF X60 hx hZ hown (host := "") (Or.inl (hw _ (List.mem_of_getElem? (i := 31) rfl))) Via.refl e60 ft (g := (mkF mM 8 #[.val (.ref a)] [(.ref a)])) rfl rfl (hb hby d5_8)
  refine own_st (A := T61.setTop (mkF mM 11 #[.val (.ref a)] [(.ref f)])) (fun tT_ kK_ => st61 tT_ kK_) ?_
  refine own_st (A := T61.setTop (mkF mM 18 #[.val (.ref a)] [(.ref f)])) (fun tT_ kK_ => XS.goto X61.here hx rfl (pc0 := 11) (pc' := 18) rfl (hb hby d5_11) (by decide) (by decide) kK_) ?_
  exact own_retA X61 hx hlk hret rfl rfl (hb hby d5_18) ⟨rfl, N0, e61⟩ (by decide) (by decide)
theorem d5_14 : decode prog_15_method_6_code 14 = .ok (.aload_n 0, 1) := by decide +kernel
theorem d5_15 : decode prog_15_method_6_code 15 = .ok (.getfield 18, 3) := by decide +kernel
theorem ef_rmFB (mM : MethodId) (a : Addr) (f : Addr) : entryFrame mM #[(.ref a)] 1 = mkF mM 0 #[.val (.ref a)] [] := by first | (simp [entryFrame, mkF, argsToLocals, Value.category]; done) | rfl
set_option maxRecDepth 65536 in
set_option maxHeartbeats 40000000 in
theorem rmFB (lL : Launch) (Z : State) (a0 : Array Value) (hw : ∀ d ∈ tables_1, d.before a0 Z = true) (ws : List Jvm.Cond) (a : Addr) (f : Addr) (h0 : Heap) (n0 : Nat) (ft : Fld Z h0 a "com/example/libttl/libttl/Key" "text" "Ljava/lang/String;" .null) (fb : Fld Z h0 a "com/example/libttl/libttl/Key" "bytes" "[B" (.ref f)) :
    MetFree lL (⟨"com/example/libttl/libttl/Key", "form", "()Ljava/lang/Object;"⟩ : MethodName) (head1 (Jvm.Cond.code (⟨"com/example/libttl/libttl/Key", "form", "()Ljava/lang/Object;"⟩ : MethodName) prog_15_method_6_code 1 (some (.object "java/lang/Object")) :: ws) ({ frames := 0, cells := 0, slots := 0, locals := 0 } : Room)) (fun as_ uU_ => as_ = #[(.ref a)] ∧ Z.Warmed39 uU_.vm ∧ uU_.heap = h0) (fun _ _ _ _ _ => True) (fun _ uU_ oO_ uE_ => ∃ vV_ lL_, oO_ = .returned vV_ ∧ Qw (.ref f) h0 n0 vV_ uE_.heap lL_ ∧ FrameEnd uU_ oO_ uE_ lL_ ({ frames := 0, cells := 0, slots := 0, locals := 0 } : Room).cells ({ frames := 0, cells := 0, slots := 0, locals := 0 } : Room).slots) := by
  refine MetFree.of_bodySF (plainFor_of_name pn_com_2fexample_2flibttl_2flibttl_2fKey) hisR ?_
  intro pP eE sS mM args below meth cC s₁ Bd hml0 hP hK
  obtain ⟨rfl, hZ, hh⟩ := hP
  have hx := Bd.exec
  have hby := Bd.bytes
  have hml : cC.maxLocals = 1 := hml0
  have hown : sS.vm.findClass "com/example/libttl/libttl/Key" = some mM.cls := findClass_of_methodNamed Bd.named
  have hnm := (name_of_methodNamed Bd.named Bd.method).1
  have hret := Bd.returns
  have hlk := BodyLoose.notSynchronized Bd
  have X0 : Stand pP lL eE ({ frames := 0, cells := 0, slots := 0, locals := 0 } : Room) sS mM #[(.ref a)] below meth cC s₁ [] 0 0 := Stand.of_body Bd
  have e0 : s₁.heap = h0 := by rw [← hh, Bd.state]; rfl
  have N0 := Fr.nil n0
  show own_Go pP eE below sS (Qw (.ref f) h0 n0) 0 0 (s₁.setTop (entryFrame mM #[(.ref a)] 1))
  refine own_st (A := s₁.setTop (mkF mM 0 #[.val (.ref a)] [])) (fun tT_ kK_ => castTop (ef_rmFB mM a f) kK_) ?_
  refine own_st (A := s₁.setTop (mkF mM 1 #[.val (.ref a)] [(.ref a)])) (fun tT_ kK_ => XS.aloadN X0.here hx rfl (hb hby d5_0) rfl rfl kK_) ?_
  obtain ⟨T62, X62, e62, st62⟩ := getF X0 hx hZ hown (host := "") (Or.inl (hw _ (List.mem_of_getElem? (i := 31) rfl))) Via.refl e0 ft (g := (mkF mM 1 #[.val (.ref a)] [(.ref a)])) rfl rfl (hb hby d5_1)
  refine own_st (A := T62.setTop (mkF mM 4 #[.val (.ref a)] [.null])) (fun tT_ kK_ => st62 tT_ kK_) ?_
  refine own_st (A := T62.setTop (mkF mM 14 #[.val (.ref a)] [])) (fun tT_ kK_ => XS.ifnullYes X62.here hx rfl (pc0 := 4) (pc' := 14) rfl (hb hby d5_4) rfl (by decide) (by decide) kK_) ?_
  refine own_st (A := T62.setTop (mkF mM 15 #[.val (.ref a)] [(.ref a)])) (fun tT_ kK_ => XS.aloadN X62.here hx rfl (hb hby d5_14) rfl rfl kK_) ?_
  obtain ⟨T63, X63, e63, st63⟩ := getF X62 hx hZ hown (host := "") (Or.inl (hw _ (List.mem_of_getElem? (i := 29) rfl))) Via.refl e62 fb (g := (mkF mM 15 #[.val (.ref a)] [(.ref a)])) rfl rfl (hb hby d5_15)
  refine own_st (A := T63.setTop (mkF mM 18 #[.val (.ref a)] [(.ref f)])) (fun tT_ kK_ => st63 tT_ kK_) ?_
  exact own_retA X63 hx hlk hret rfl rfl (hb hby d5_18) ⟨rfl, N0, e63⟩ (by decide) (by decide)
set_option maxRecDepth 65536 in
set_option maxHeartbeats 40000000 in
theorem rmF (lL : Launch) (Z : State) (a0 : Array Value) (hw : ∀ d ∈ tables_1, d.before a0 Z = true) (ws : List Jvm.Cond) (a : Addr) (f : Addr) (h0 : Heap) (n0 : Nat) (kf : KeyF Z h0 a f) :
    MetFree lL (⟨"com/example/libttl/libttl/Key", "form", "()Ljava/lang/Object;"⟩ : MethodName) (head1 (Jvm.Cond.code (⟨"com/example/libttl/libttl/Key", "form", "()Ljava/lang/Object;"⟩ : MethodName) prog_15_method_6_code 1 (some (.object "java/lang/Object")) :: ws) ({ frames := 0, cells := 0, slots := 0, locals := 0 } : Room)) (fun as_ uU_ => as_ = #[(.ref a)] ∧ Z.Warmed39 uU_.vm ∧ uU_.heap = h0) (fun _ _ _ _ _ => True) (fun _ uU_ oO_ uE_ => ∃ vV_ lL_, oO_ = .returned vV_ ∧ Qw (.ref f) h0 n0 vV_ uE_.heap lL_ ∧ FrameEnd uU_ oO_ uE_ lL_ ({ frames := 0, cells := 0, slots := 0, locals := 0 } : Room).cells ({ frames := 0, cells := 0, slots := 0, locals := 0 } : Room).slots) := by
  rcases kf with q | ⟨q, r⟩
  · exact rmFT lL Z a0 hw ws a f h0 n0 q
  · exact rmFB lL Z a0 hw ws a f h0 n0 q r
theorem d6_0 : decode prog_15_method_5_code 0 = .ok (.aload_n 0, 1) := by decide +kernel
theorem d6_1 : decode prog_15_method_5_code 1 = .ok (.instanceof 33, 3) := by decide +kernel
theorem d6_4 : decode prog_15_method_5_code 4 = .ok (.ifCond .eq 20, 3) := by decide +kernel
theorem d6_7 : decode prog_15_method_5_code 7 = .ok (.aload_n 0, 1) := by decide +kernel
theorem d6_8 : decode prog_15_method_5_code 8 = .ok (.checkcast 33, 3) := by decide +kernel
theorem d6_11 : decode prog_15_method_5_code 11 = .ok (.astore_n 2, 1) := by decide +kernel
theorem d6_12 : decode prog_15_method_5_code 12 = .ok (.new 8, 3) := by decide +kernel
theorem d6_15 : decode prog_15_method_5_code 15 = .ok (.dup, 1) := by decide +kernel
theorem d6_16 : decode prog_15_method_5_code 16 = .ok (.aload_n 2, 1) := by decide +kernel
theorem d6_17 : decode prog_15_method_5_code 17 = .ok (.iload_n 1, 1) := by decide +kernel
theorem d6_18 : decode prog_15_method_5_code 18 = .ok (.invokespecial 39, 3) := by decide +kernel
theorem pd__28Ljava_2flang_2fString_3bI_29V : parseMethodDescriptor "(Ljava/lang/String;I)V" = some ⟨[(.object "java/lang/String"), .int], none⟩ := by decide +kernel
theorem d6_21 : decode prog_15_method_5_code 21 = .ok (.goto 15, 3) := by decide +kernel
theorem d6_36 : decode prog_15_method_5_code 36 = .ok (.areturn, 1) := by decide +kernel
theorem ef_rmOY (mM : MethodId) (f : Addr) (y : Int32) : entryFrame mM #[(.ref f), (.int y)] 3 = mkF mM 0 #[.val (.ref f), .val (.int y), .unset] [] := by first | (simp [entryFrame, mkF, argsToLocals, Value.category]; done) | rfl
set_option maxRecDepth 65536 in
set_option maxHeartbeats 40000000 in
theorem rmOY (lL : Launch) (Z : State) (a0 : Array Value) (hw : ∀ d ∈ tables_1, d.before a0 Z = true) (ws : List Jvm.Cond) (f : Addr) (y : Int32) (h0 : Heap) (n0 : Nat) (Zn : n0 ≤ h0.size) (ins : Ins Z h0 f "java/lang/String" true) :
    MetFree lL (⟨"com/example/libttl/libttl/Key", "ofForm", "(Ljava/lang/Object;I)Lcom/example/libttl/libttl/Key;"⟩ : MethodName) (head1 (Jvm.Cond.code (⟨"com/example/libttl/libttl/Key", "ofForm", "(Ljava/lang/Object;I)Lcom/example/libttl/libttl/Key;"⟩ : MethodName) prog_15_method_5_code 3 (some (.object "com/example/libttl/libttl/Key")) :: ws) ({ frames := 2, cells := 1, slots := 3, locals := 27 } : Room)) (fun as_ uU_ => as_ = #[(.ref f), (.int y)] ∧ Z.Warmed39 uU_.vm ∧ uU_.heap = h0) (fun _ _ _ _ _ => True) (fun _ uU_ oO_ uE_ => ∃ vV_ lL_, oO_ = .returned vV_ ∧ QK Z f h0 n0 vV_ uE_.heap lL_ ∧ FrameEnd uU_ oO_ uE_ lL_ ({ frames := 2, cells := 1, slots := 3, locals := 27 } : Room).cells ({ frames := 2, cells := 1, slots := 3, locals := 27 } : Room).slots) := by
  refine MetFree.of_bodySF (plainFor_of_name pn_com_2fexample_2flibttl_2flibttl_2fKey) hisR ?_
  intro pP eE sS mM args below meth cC s₁ Bd hml0 hP hK
  obtain ⟨rfl, hZ, hh⟩ := hP
  have hx := Bd.exec
  have hby := Bd.bytes
  have hml : cC.maxLocals = 3 := hml0
  have hown : sS.vm.findClass "com/example/libttl/libttl/Key" = some mM.cls := findClass_of_methodNamed Bd.named
  have hnm := (name_of_methodNamed Bd.named Bd.method).1
  have hret := Bd.returns
  have hlk := BodyLoose.notSynchronized Bd
  have X0 : Stand pP lL eE ({ frames := 2, cells := 1, slots := 3, locals := 27 } : Room) sS mM #[(.ref f), (.int y)] below meth cC s₁ [] 0 0 := Stand.of_body Bd
  have e0 : s₁.heap = h0 := by rw [← hh, Bd.state]; rfl
  have N0 := Fr.nil n0
  show own_Go pP eE below sS (QK Z f h0 n0) 1 3 (s₁.setTop (entryFrame mM #[(.ref f), (.int y)] 3))
  refine own_st (A := s₁.setTop (mkF mM 0 #[.val (.ref f), .val (.int y), .unset] [])) (fun tT_ kK_ => castTop (ef_rmOY mM f y) kK_) ?_
  have Kp := Keep.refl h0 []
  refine own_st (A := s₁.setTop (mkF mM 1 #[.val (.ref f), .val (.int y), .unset] [(.ref f)])) (fun tT_ kK_ => XS.aloadN X0.here hx rfl (hb hby d6_0) rfl rfl kK_) ?_
  obtain ⟨T64, X64, e64, st64⟩ := instY X0 hx hZ hown (hw _ (List.mem_of_getElem? (i := 43) rfl)) e0 ins (g := (mkF mM 1 #[.val (.ref f), .val (.int y), .unset] [(.ref f)])) rfl rfl (hb hby d6_1)
  refine own_st (A := T64.setTop (mkF mM 4 #[.val (.ref f), .val (.int y), .unset] [(.int (1 : Int32))])) (fun tT_ kK_ => st64 tT_ kK_) ?_
  refine own_st (A := T64.setTop (mkF mM 7 #[.val (.ref f), .val (.int y), .unset] [])) (fun tT_ kK_ => XS.ifNo X64.here hx rfl (hb hby d6_4) rfl ((if0 _ _).trans (feq (by decide : ¬ ((1 : Int32) = (0 : Int32)))).1) kK_) ?_
  refine own_st (A := T64.setTop (mkF mM 8 #[.val (.ref f), .val (.int y), .unset] [(.ref f)])) (fun tT_ kK_ => XS.aloadN X64.here hx rfl (hb hby d6_7) rfl rfl kK_) ?_
  obtain ⟨T65, X65, e65, st65⟩ := castY X64 hx hZ hown (hw _ (List.mem_of_getElem? (i := 43) rfl)) e64 ins (g := (mkF mM 8 #[.val (.ref f), .val (.int y), .unset] [(.ref f)])) rfl rfl (hb hby d6_8)
  refine own_st (A := T65.setTop (mkF mM 11 #[.val (.ref f), .val (.int y), .unset] [(.ref f)])) (fun tT_ kK_ => st65 tT_ kK_) ?_
  refine own_st (A := T65.setTop (mkF mM 12 #[.val (.ref f), .val (.int y), .val (.ref f)] [])) (fun tT_ kK_ => XS.astoreN X65.here hx rfl (hb hby d6_11) rfl rfl (l' := #[.val (.ref f), .val (.int y), .val (.ref f)]) rfl kK_) ?_
  obtain ⟨T66, h66, X66, e66, E66, A66, D66, -, st66⟩ := newO X65 hx hZ hown (hw _ (List.mem_of_getElem? (i := 44) rfl)) (hw _ (List.mem_of_getElem? (i := 23) rfl)) (hw _ (List.mem_of_getElem? (i := 24) rfl)) e65 (g := (mkF mM 12 #[.val (.ref f), .val (.int y), .val (.ref f)] [])) rfl (hb hby d6_12) (by decide) (by decide)
  obtain ⟨b66, g66⟩ : ∃ z, z = h0.size := ⟨_, rfl⟩
  rw [← g66] at A66 D66 st66
  have g_b66 : n0 ≤ b66 := Nat.le_trans Zn (Nat.le_of_eq g66.symm)
  have b_b66 : h0.size ≤ b66 := Nat.le_trans Kp.1 (Nat.le_of_eq g66.symm)
  have Zn := Nat.le_trans Zn E66.1
  have Kp := Kp.ext E66
  have E_b66 := A66
  have F_b66_bytes : Fld Z h66 b66 "com/example/libttl/libttl/Key" "bytes" "[B" .null := D66 (Or.inr (hw _ (List.mem_of_getElem? (i := 30) rfl))) (ty := (.array .byte)) (by decide)
  have F_b66_text : Fld Z h66 b66 "com/example/libttl/libttl/Key" "text" "Ljava/lang/String;" .null := D66 (Or.inr (hw _ (List.mem_of_getElem? (i := 32) rfl))) (ty := (.object "java/lang/String")) (by decide)
  have F_b66_hash : Fld Z h66 b66 "com/example/libttl/libttl/Key" "hash" "I" (.int (0 : Int32)) := D66 (Or.inr (hw _ (List.mem_of_getElem? (i := 34) rfl))) (ty := .int) (by decide)
  refine own_st (A := T66.setTop (mkF mM 15 #[.val (.ref f), .val (.int y), .val (.ref f)] [(.ref b66)])) (fun tT_ kK_ => st66 tT_ kK_) ?_
  refine own_st (A := T66.setTop (mkF mM 16 #[.val (.ref f), .val (.int y), .val (.ref f)] [(.ref b66), (.ref b66)])) (fun tT_ kK_ => XS.dup X66.here hx rfl (hb hby d6_15) rfl rfl kK_) ?_
  refine own_st (A := T66.setTop (mkF mM 17 #[.val (.ref f), .val (.int y), .val (.ref f)] [(.ref f), (.ref b66), (.ref b66)])) (fun tT_ kK_ => XS.aloadN X66.here hx rfl (hb hby d6_16) rfl rfl kK_) ?_
  refine own_st (A := T66.setTop (mkF mM 18 #[.val (.ref f), .val (.int y), .val (.ref f)] [(.int y), (.ref f), (.ref b66), (.ref b66)])) (fun tT_ kK_ => XS.iloadN X66.here hx rfl (hb hby d6_17) rfl kK_) ?_
  obtain ⟨_, _, ⟨T67, L67, k67, n67⟩, -, X67, ⟨Lc67, hQ67, l67, y67, z67⟩, st67⟩ := X66.specialBack hx (y := (⟨"com/example/libttl/libttl/Key", "<init>", "(Ljava/lang/String;I)V"⟩ : MethodName)) rfl hown (mvT hZ (hw _ (List.mem_of_getElem? (i := 45) rfl))) (mvT hZ (hw _ (List.mem_of_getElem? (i := 46) rfl))) (mvT hZ (hw _ (List.mem_of_getElem? (i := 47) rfl))) (by decide) (backOf (W := 1) (rmKS lL Z a0 hw [] b66 f y h66 n0 g_b66 E_b66 F_b66_bytes F_b66_text F_b66_hash) hZ (hw _ (List.mem_of_getElem? (i := 47) rfl)) (hw _ (List.mem_of_getElem? (i := 24) rfl)) (by decide) (by decide)) (g := (mkF mM 18 #[.val (.ref f), .val (.int y), .val (.ref f)] [(.int y), (.ref f), (.ref b66), (.ref b66)])) rfl (by rw [hml]; rfl) (Steps.refl _) (a := b66) (argsL := [(.ref f), (.int y)]) (rest := [(.ref b66)]) (lenOf pd__28Ljava_2flang_2fString_3bI_29V rfl) rfl (by show 2 * 0 + _ ≤ _; exact Nat.le_of_eq rfl) (hb hby d6_18) (fun _ _ => ⟨rfl, e66, (by decide : 1 + 0 ≤ _), (by decide : 3 + 0 ≤ _)⟩)
  dsimp only [Pt.U, Pt.locs, Pt.cells, Pt.slots] at X67 l67 y67 z67 st67 hQ67
  subst l67 y67 z67
  obtain ⟨rfl, N67q, K67, kf67⟩ := hQ67
  have N67 := Fr.app N0 N67q
  have e67 : T67.heap = T67.heap := rfl
  refine own_st (A := T67.setTop (mkF mM 21 #[.val (.ref f), .val (.int y), .val (.ref f)] [(.ref b66)])) (fun tT_ kK_ => st67.trans kK_) ?_
  have E_b66 := E_b66.keep K67
  have Zn := Nat.le_trans Zn K67.1
  have Kp := Kp.trans K67 (allS (Or.inr b_b66) all0)
  refine own_st (A := T67.setTop (mkF mM 36 #[.val (.ref f), .val (.int y), .val (.ref f)] [(.ref b66)])) (fun tT_ kK_ => XS.goto X67.here hx rfl (pc0 := 21) (pc' := 36) rfl (hb hby d6_21) (by decide) (by decide) kK_) ?_
  exact own_retA X67 hx hlk hret rfl rfl (hb hby d6_36) (by rw [e67]; exact ⟨_, rfl, N67, own_ext_of_keep Kp, E_b66, kf67⟩) (by decide) (by decide)
theorem d6_24 : decode prog_15_method_5_code 24 = .ok (.new 8, 3) := by decide +kernel
theorem d6_27 : decode prog_15_method_5_code 27 = .ok (.dup, 1) := by decide +kernel
theorem d6_28 : decode prog_15_method_5_code 28 = .ok (.aload_n 0, 1) := by decide +kernel
theorem d6_29 : decode prog_15_method_5_code 29 = .ok (.checkcast 42, 3) := by decide +kernel
theorem d6_32 : decode prog_15_method_5_code 32 = .ok (.iload_n 1, 1) := by decide +kernel
theorem d6_33 : decode prog_15_method_5_code 33 = .ok (.invokespecial 7, 3) := by decide +kernel
theorem pd__28_5bBI_29V : parseMethodDescriptor "([BI)V" = some ⟨[(.array .byte), .int], none⟩ := by decide +kernel
theorem ef_rmON (mM : MethodId) (f : Addr) (y : Int32) : entryFrame mM #[(.ref f), (.int y)] 3 = mkF mM 0 #[.val (.ref f), .val (.int y), .unset] [] := by first | (simp [entryFrame, mkF, argsToLocals, Value.category]; done) | rfl
set_option maxRecDepth 65536 in
set_option maxHeartbeats 40000000 in
theorem rmON (lL : Launch) (Z : State) (a0 : Array Value) (hw : ∀ d ∈ tables_1, d.before a0 Z = true) (ws : List Jvm.Cond) (f : Addr) (y : Int32) (h0 : Heap) (n0 : Nat) (Zn : n0 ≤ h0.size) (E_f : Exa Z h0 f "[B") (no : ∃ c t, Z.vm.findClass "[B" = some c ∧ Z.vm.findClass "java/lang/String" = some t ∧ Z.vm.assignable c t = false) :
    MetFree lL (⟨"com/example/libttl/libttl/Key", "ofForm", "(Ljava/lang/Object;I)Lcom/example/libttl/libttl/Key;"⟩ : MethodName) (head1 (Jvm.Cond.code (⟨"com/example/libttl/libttl/Key", "ofForm", "(Ljava/lang/Object;I)Lcom/example/libttl/libttl/Key;"⟩ : MethodName) prog_15_method_5_code 3 (some (.object "com/example/libttl/libttl/Key")) :: ws) ({ frames := 2, cells := 1, slots := 3, locals := 27 } : Room)) (fun as_ uU_ => as_ = #[(.ref f), (.int y)] ∧ Z.Warmed39 uU_.vm ∧ uU_.heap = h0) (fun _ _ _ _ _ => True) (fun _ uU_ oO_ uE_ => ∃ vV_ lL_, oO_ = .returned vV_ ∧ QK Z f h0 n0 vV_ uE_.heap lL_ ∧ FrameEnd uU_ oO_ uE_ lL_ ({ frames := 2, cells := 1, slots := 3, locals := 27 } : Room).cells ({ frames := 2, cells := 1, slots := 3, locals := 27 } : Room).slots) := by
  refine MetFree.of_bodySF (plainFor_of_name pn_com_2fexample_2flibttl_2flibttl_2fKey) hisR ?_
  intro pP eE sS mM args below meth cC s₁ Bd hml0 hP hK
  obtain ⟨rfl, hZ, hh⟩ := hP
  have hx := Bd.exec
  have hby := Bd.bytes
  have hml : cC.maxLocals = 3 := hml0
  have hown : sS.vm.findClass "com/example/libttl/libttl/Key" = some mM.cls := findClass_of_methodNamed Bd.named
  have hnm := (name_of_methodNamed Bd.named Bd.method).1
  have hret := Bd.returns
  have hlk := BodyLoose.notSynchronized Bd
  have X0 : Stand pP lL eE ({ frames := 2, cells := 1, slots := 3, locals := 27 } : Room) sS mM #[(.ref f), (.int y)] below meth cC s₁ [] 0 0 := Stand.of_body Bd
  have e0 : s₁.heap = h0 := by rw [← hh, Bd.state]; rfl
  have N0 := Fr.nil n0
  show own_Go pP eE below sS (QK Z f h0 n0) 1 3 (s₁.setTop (entryFrame mM #[(.ref f), (.int y)] 3))
  refine own_st (A := s₁.setTop (mkF mM 0 #[.val (.ref f), .val (.int y), .unset] [])) (fun tT_ kK_ => castTop (ef_rmON mM f y) kK_) ?_
  have Kp := Keep.refl h0 []
  refine own_st (A := s₁.setTop (mkF mM 1 #[.val (.ref f), .val (.int y), .unset] [(.ref f)])) (fun tT_ kK_ => XS.aloadN X0.here hx rfl (hb hby d6_0) rfl rfl kK_) ?_
  obtain ⟨T68, X68, e68, st68⟩ := instNo X0 hx hZ hown (hw _ (List.mem_of_getElem? (i := 43) rfl)) e0 E_f no (g := (mkF mM 1 #[.val (.ref f), .val (.int y), .unset] [(.ref f)])) rfl rfl (hb hby d6_1)
  refine own_st (A := T68.setTop (mkF mM 4 #[.val (.ref f), .val (.int y), .unset] [(.int (0 : Int32))])) (fun tT_ kK_ => st68 tT_ kK_) ?_
  refine own_st (A := T68.setTop (mkF mM 24 #[.val (.ref f), .val (.int y), .unset] [])) (fun tT_ kK_ => XS.ifYes X68.here hx rfl (pc0 := 4) (pc' := 24) rfl (hb hby d6_4) rfl ((if0 _ _).trans (teq (by decide : ((0 : Int32) = (0 : Int32)))).1) (by decide) (by decide) kK_) ?_
  obtain ⟨T69, h69, X69, e69, E69, A69, D69, -, st69⟩ := newO X68 hx hZ hown (hw _ (List.mem_of_getElem? (i := 44) rfl)) (hw _ (List.mem_of_getElem? (i := 23) rfl)) (hw _ (List.mem_of_getElem? (i := 24) rfl)) e68 (g := (mkF mM 24 #[.val (.ref f), .val (.int y), .unset] [])) rfl (hb hby d6_24) (by decide) (by decide)
  obtain ⟨b69, g69⟩ : ∃ z, z = h0.size := ⟨_, rfl⟩
  rw [← g69] at A69 D69 st69
  have ne_f_b69 : f ≠ b69 := Nat.ne_of_lt (Nat.lt_of_lt_of_le E_f.lt (Nat.le_of_eq g69.symm))
  have g_b69 : n0 ≤ b69 := Nat.le_trans Zn (Nat.le_of_eq g69.symm)
  have b_b69 : h0.size ≤ b69 := Nat.le_trans Kp.1 (Nat.le_of_eq g69.symm)
  have E_f := E_f.ext E69
  have Zn := Nat.le_trans Zn E69.1
  have Kp := Kp.ext E69
  have E_b69 := A69
  have F_b69_bytes : Fld Z h69 b69 "com/example/libttl/libttl/Key" "bytes" "[B" .null := D69 (Or.inr (hw _ (List.mem_of_getElem? (i := 30) rfl))) (ty := (.array .byte)) (by decide)
  have F_b69_text : Fld Z h69 b69 "com/example/libttl/libttl/Key" "text" "Ljava/lang/String;" .null := D69 (Or.inr (hw _ (List.mem_of_getElem? (i := 32) rfl))) (ty := (.object "java/lang/String")) (by decide)
  have F_b69_hash : Fld Z h69 b69 "com/example/libttl/libttl/Key" "hash" "I" (.int (0 : Int32)) := D69 (Or.inr (hw _ (List.mem_of_getElem? (i := 34) rfl))) (ty := .int) (by decide)
  refine own_st (A := T69.setTop (mkF mM 27 #[.val (.ref f), .val (.int y), .unset] [(.ref b69)])) (fun tT_ kK_ => st69 tT_ kK_) ?_
  refine own_st (A := T69.setTop (mkF mM 28 #[.val (.ref f), .val (.int y), .unset] [(.ref b69), (.ref b69)])) (fun tT_ kK_ => XS.dup X69.here hx rfl (hb hby d6_27) rfl rfl kK_) ?_
  refine own_st (A := T69.setTop (mkF mM 29 #[.val (.ref f), .val (.int y), .unset] [(.ref f), (.ref b69), (.ref b69)])) (fun tT_ kK_ => XS.aloadN X69.here hx rfl (hb hby d6_28) rfl rfl kK_) ?_
  obtain ⟨T70, X70, e70, st70⟩ := castY X69 hx hZ hown (hw _ (List.mem_of_getElem? (i := 48) rfl)) e69 (Ins.self E_f) (g := (mkF mM 29 #[.val (.ref f), .val (.int y), .unset] [(.ref f), (.ref b69), (.ref b69)])) rfl rfl (hb hby d6_29)
  refine own_st (A := T70.setTop (mkF mM 32 #[.val (.ref f), .val (.int y), .unset] [(.ref f), (.ref b69), (.ref b69)])) (fun tT_ kK_ => st70 tT_ kK_) ?_
  refine own_st (A := T70.setTop (mkF mM 33 #[.val (.ref f), .val (.int y), .unset] [(.int y), (.ref f), (.ref b69), (.ref b69)])) (fun tT_ kK_ => XS.iloadN X70.here hx rfl (hb hby d6_32) rfl kK_) ?_
  obtain ⟨_, _, ⟨T71, L71, k71, n71⟩, -, X71, ⟨Lc71, hQ71, l71, y71, z71⟩, st71⟩ := X70.specialBack hx (y := (⟨"com/example/libttl/libttl/Key", "<init>", "([BI)V"⟩ : MethodName)) rfl hown (mvT hZ (hw _ (List.mem_of_getElem? (i := 50) rfl))) (mvT hZ (hw _ (List.mem_of_getElem? (i := 26) rfl))) (mvT hZ (hw _ (List.mem_of_getElem? (i := 27) rfl))) (by decide) (backOf (W := 1) (rmKB lL Z a0 hw [] b69 f y h69 n0 g_b69 E_b69 F_b69_bytes F_b69_text F_b69_hash) hZ (hw _ (List.mem_of_getElem? (i := 27) rfl)) (hw _ (List.mem_of_getElem? (i := 24) rfl)) (by decide) (by decide)) (g := (mkF mM 33 #[.val (.ref f), .val (.int y), .unset] [(.int y), (.ref f), (.ref b69), (.ref b69)])) rfl (by rw [hml]; rfl) (Steps.refl _) (a := b69) (argsL := [(.ref f), (.int y)]) (rest := [(.ref b69)]) (lenOf pd__28_5bBI_29V rfl) rfl (by show 2 * 0 + _ ≤ _; exact Nat.le_of_eq rfl) (hb hby d6_33) (fun _ _ => ⟨rfl, e70, (by decide : 1 + 0 ≤ _), (by decide : 3 + 0 ≤ _)⟩)
  dsimp only [Pt.U, Pt.locs, Pt.cells, Pt.slots] at X71 l71 y71 z71 st71 hQ71
  subst l71 y71 z71
  obtain ⟨rfl, N71q, K71, kf71⟩ := hQ71
  have N71 := Fr.app N0 N71q
  have e71 : T71.heap = T71.heap := rfl
  refine own_st (A := T71.setTop (mkF mM 36 #[.val (.ref f), .val (.int y), .unset] [(.ref b69)])) (fun tT_ kK_ => st71.trans kK_) ?_
  have E_f := E_f.keep K71
  have E_b69 := E_b69.keep K71
  have Zn := Nat.le_trans Zn K71.1
  have Kp := Kp.trans K71 (allS (Or.inr b_b69) all0)
  exact own_retA X71 hx hlk hret rfl rfl (hb hby d6_36) (by rw [e71]; exact ⟨_, rfl, N71, own_ext_of_keep Kp, E_b69, kf71⟩) (by decide) (by decide)
set_option maxRecDepth 65536 in
set_option maxHeartbeats 40000000 in
theorem rmO (lL : Launch) (Z : State) (a0 : Array Value) (hw : ∀ d ∈ tables_1, d.before a0 Z = true) (ws : List Jvm.Cond) (f : Addr) (y : Int32) (h0 : Heap) (n0 : Nat) (Zn : n0 ≤ h0.size) (tf : Tf Z h0 f) :
    MetFree lL (⟨"com/example/libttl/libttl/Key", "ofForm", "(Ljava/lang/Object;I)Lcom/example/libttl/libttl/Key;"⟩ : MethodName) (head1 (Jvm.Cond.code (⟨"com/example/libttl/libttl/Key", "ofForm", "(Ljava/lang/Object;I)Lcom/example/libttl/libttl/Key;"⟩ : MethodName) prog_15_method_5_code 3 (some (.object "com/example/libttl/libttl/Key")) :: ws) ({ frames := 2, cells := 1, slots := 3, locals := 27 } : Room)) (fun as_ uU_ => as_ = #[(.ref f), (.int y)] ∧ Z.Warmed39 uU_.vm ∧ uU_.heap = h0) (fun _ _ _ _ _ => True) (fun _ uU_ oO_ uE_ => ∃ vV_ lL_, oO_ = .returned vV_ ∧ QK Z f h0 n0 vV_ uE_.heap lL_ ∧ FrameEnd uU_ oO_ uE_ lL_ ({ frames := 2, cells := 1, slots := 3, locals := 27 } : Room).cells ({ frames := 2, cells := 1, slots := 3, locals := 27 } : Room).slots) := by
  rcases tf with q | ⟨q, r⟩
  · exact rmOY lL Z a0 hw ws f y h0 n0 Zn q
  · exact rmON lL Z a0 hw ws f y h0 n0 Zn q r
theorem d2_8 : decode jdk_42_method_149_code 8 = .ok (.aload_n 0, 1) := by decide +kernel
theorem d2_9 : decode jdk_42_method_149_code 9 = .ok (.ldc 7, 2) := by decide +kernel
theorem d2_11 : decode jdk_42_method_149_code 11 = .ok (.getfield 9, 3) := by decide +kernel
theorem d2_14 : decode jdk_42_method_149_code 14 = .ok (.putfield 9, 3) := by decide +kernel
theorem d2_17 : decode jdk_42_method_149_code 17 = .ok (.aload_n 0, 1) := by decide +kernel
theorem d2_18 : decode jdk_42_method_149_code 18 = .ok (.ldc 7, 2) := by decide +kernel
theorem d2_20 : decode jdk_42_method_149_code 20 = .ok (.getfield 15, 3) := by decide +kernel
theorem d2_23 : decode jdk_42_method_149_code 23 = .ok (.putfield 15, 3) := by decide +kernel
theorem d2_26 : decode jdk_42_method_149_code 26 = .ok (.return_, 1) := by decide +kernel
theorem ef_rmS4_0 (mM : MethodId) (a : Addr) (s' : Addr) : entryFrame mM #[(.ref a), (.ref s'), (.int (0 : Int32)), (.int (0 : Int32)), .null] 6 = mkF mM 0 #[.val (.ref a), .val (.ref s'), .val (.int (0 : Int32)), .val (.int (0 : Int32)), .val .null, .unset] [] := by first | (simp [entryFrame, mkF, argsToLocals, Value.category]; done) | rfl
set_option maxRecDepth 65536 in
set_option maxHeartbeats 40000000 in
theorem rmS4_0 (lL : Launch) (Z : State) (a0 : Array Value) (hw : ∀ d ∈ tables_1, d.before a0 Z = true) (ws : List Jvm.Cond) (a : Addr) (s' : Addr) (h0 : Heap) (n0 : Nat) (g_a : n0 ≤ a) (E_a : Exa Z h0 a "java/lang/String") (F_a_value : Fld Z h0 a "java/lang/String" "value" "[B" .null) (F_a_coder : Fld Z h0 a "java/lang/String" "coder" "B" (.int (0 : Int32))) (O : Old Z n0 h0) (Zn : n0 ≤ h0.size) (hcw : Jvm.Lit.compactW.before a0 Z = true) (hheld : Jvm.Lit.constHeld Z "java/lang/String" 7) :
    MetFree lL (⟨"java/lang/String", "<init>", "([CIILjava/lang/Void;)V"⟩ : MethodName) (head1 (Jvm.Cond.code (⟨"java/lang/String", "<init>", "([CIILjava/lang/Void;)V"⟩ : MethodName) jdk_42_method_149_code 6 none :: ws) ({ frames := 1, cells := 2, slots := 4, locals := 12 } : Room)) (fun as_ uU_ => as_ = #[(.ref a), (.ref s'), (.int (0 : Int32)), (.int (0 : Int32)), .null] ∧ Z.Warmed39 uU_.vm ∧ uU_.heap = h0 ∧ uU_.vm.interned = Z.vm.interned) (fun _ _ _ _ _ => True) (fun _ uU_ oO_ uE_ => ∃ vV_ lL_, oO_ = .returned vV_ ∧ QSE a h0 n0 vV_ uE_.heap lL_ ∧ ReturnedEndW uU_ oO_ uE_ lL_ ({ frames := 1, cells := 2, slots := 4, locals := 12 } : Room).cells ({ frames := 1, cells := 2, slots := 4, locals := 12 } : Room).slots) := by
  refine MetFree.of_bodySF (plainFor_of_name pn_java_2flang_2fString) hisR ?_
  intro pP eE sS mM args below meth cC s₁ Bd hml0 hP hK
  obtain ⟨rfl, hZ, hh, hI⟩ := hP
  have hx := Bd.exec
  have hby := Bd.bytes
  have hml : cC.maxLocals = 6 := hml0
  have hown : sS.vm.findClass "java/lang/String" = some mM.cls := findClass_of_methodNamed Bd.named
  have hnm := (name_of_methodNamed Bd.named Bd.method).1
  have hret := Bd.returns
  have hlk := BodyLoose.notSynchronized Bd
  have X0 : Stand pP lL eE ({ frames := 1, cells := 2, slots := 4, locals := 12 } : Room) sS mM #[(.ref a), (.ref s'), (.int (0 : Int32)), (.int (0 : Int32)), .null] below meth cC s₁ [] 0 0 := Stand.of_body Bd
  have e0 : s₁.heap = h0 := by rw [← hh, Bd.state]; rfl
  have N0 := Fr.nil n0
  have X0 : Stand pP lL eE ({ frames := 1, cells := 2, slots := 4, locals := 12 } : Room) (sS.setVm sS.vm) mM #[(.ref a), (.ref s'), (.int (0 : Int32)), (.int (0 : Int32)), .null] below meth cC s₁ [] 0 0 := X0
  have hZ : Z.Warmed39 (sS.setVm sS.vm).vm := hZ
  have hown : (sS.setVm sS.vm).vm.findClass "java/lang/String" = some mM.cls := hown
  have hS : sS.Since sS.vm 0 := (State.WarmedH.refl sS).since 0
  have hk : 0 ≤ h0.size := Nat.zero_le _
  show own_GoW pP eE below sS (QSE a h0 n0) 2 4 (s₁.setTop (entryFrame mM #[(.ref a), (.ref s'), (.int (0 : Int32)), (.int (0 : Int32)), .null] 6))
  refine own_stW (A := s₁.setTop (mkF mM 0 #[.val (.ref a), .val (.ref s'), .val (.int (0 : Int32)), .val (.int (0 : Int32)), .val .null, .unset] [])) (fun tT_ kK_ => castTop (ef_rmS4_0 mM a s') kK_) ?_
  have Kp := Keep.refl h0 [a]
  refine own_stW (A := s₁.setTop (mkF mM 1 #[.val (.ref a), .val (.ref s'), .val (.int (0 : Int32)), .val (.int (0 : Int32)), .val .null, .unset] [(.ref a)])) (fun tT_ kK_ => XS.aloadN X0.here hx rfl (hb hby d2_0) rfl rfl kK_) ?_
  obtain ⟨T72, X72, e72, st72⟩ := initO X0 hx hZ hown (hw _ (List.mem_of_getElem? (i := 12) rfl)) (hw _ (List.mem_of_getElem? (i := 13) rfl)) (hw _ (List.mem_of_getElem? (i := 14) rfl)) e0 (g := (mkF mM 1 #[.val (.ref a), .val (.ref s'), .val (.int (0 : Int32)), .val (.int (0 : Int32)), .val .null, .unset] [(.ref a)])) rfl (by rw [hml]; rfl) rfl (hb hby d2_1) (by decide) (W := 0) (by show 2 * 0 + _ ≤ _; exact Nat.le_of_eq rfl) (by decide)
  refine own_stW (A := T72.setTop (mkF mM 4 #[.val (.ref a), .val (.ref s'), .val (.int (0 : Int32)), .val (.int (0 : Int32)), .val .null, .unset] [])) (fun tT_ kK_ => st72 tT_ kK_) ?_
  refine own_stW (A := T72.setTop (mkF mM 5 #[.val (.ref a), .val (.ref s'), .val (.int (0 : Int32)), .val (.int (0 : Int32)), .val .null, .unset] [(.int (0 : Int32))])) (fun tT_ kK_ => XS.iloadN X72.here hx rfl (hb hby d2_4) rfl kK_) ?_
  refine own_stW (A := T72.setTop (mkF mM 8 #[.val (.ref a), .val (.ref s'), .val (.int (0 : Int32)), .val (.int (0 : Int32)), .val .null, .unset] [])) (fun tT_ kK_ => XS.ifNo X72.here hx rfl (hb hby d2_5) rfl ((if0 _ _).trans (teq (by decide : ((0 : Int32) = (0 : Int32)))).2) kK_) ?_
  refine own_stW (A := T72.setTop (mkF mM 9 #[.val (.ref a), .val (.ref s'), .val (.int (0 : Int32)), .val (.int (0 : Int32)), .val .null, .unset] [(.ref a)])) (fun tT_ kK_ => XS.aloadN X72.here hx rfl (hb hby d2_8) rfl rfl kK_) ?_
  obtain ⟨lz, T73, h73, k73, lzv, kz73, X73, e73, E73, hS, hk73, hZ73, hown73, EX73, FC73, FV73, AZ73, -, -, IB73, Li_lz, st73⟩ := ldcSVL X72 hx hZ hown (hw _ (List.mem_of_getElem? (i := 15) rfl)) (own_wS hw) e72 hS hk (Fr.nil _) (fun b cl q => by rw [hh]; exact O.2.2 b cl q) (own_IB hI) (by decide) hheld hcw (vs := []) (z := 0) ⟨by decide, by rfl⟩ (by decide) (by decide) (g := (mkF mM 9 #[.val (.ref a), .val (.ref s'), .val (.int (0 : Int32)), .val (.int (0 : Int32)), .val .null, .unset] [(.ref a)])) rfl (hb hby d2_9) (n := 0) (by decide) (by decide) (by decide) (by decide)
  have F_a_value := F_a_value.ext E73
  have F_a_coder := F_a_coder.ext E73
  have E_a := E_a.ext E73
  have O := O.ext E73
  have hk := Nat.le_trans hk E73.1
  have Zn := Nat.le_trans Zn E73.1
  have Kp := Kp.ext E73
  have hk := hk73
  have hZ := hZ73
  have hown := hown73
  have E_lz := EX73
  have F_lz_value := FV73
  have F_lz_coder := FC73
  refine own_stW (A := T73.setTop (mkF mM 11 #[.val (.ref a), .val (.ref s'), .val (.int (0 : Int32)), .val (.int (0 : Int32)), .val .null, .unset] [(.ref lz), (.ref a)])) (fun tT_ kK_ => st73 tT_ kK_) ?_
  have ne_lz_a : lz ≠ a := by
    intro q; rw [q] at F_lz_value; cases own_Fld_inj F_a_value F_lz_value
  obtain ⟨T74, X74, e74, st74⟩ := getF X73 hx hZ hown (host := "") (Or.inl (hw _ (List.mem_of_getElem? (i := 20) rfl))) Via.refl e73 F_lz_value (g := (mkF mM 11 #[.val (.ref a), .val (.ref s'), .val (.int (0 : Int32)), .val (.int (0 : Int32)), .val .null, .unset] [(.ref lz), (.ref a)])) rfl rfl (hb hby d2_11)
  refine own_stW (A := T74.setTop (mkF mM 14 #[.val (.ref a), .val (.ref s'), .val (.int (0 : Int32)), .val (.int (0 : Int32)), .val .null, .unset] [(.ref lzv), (.ref a)])) (fun tT_ kK_ => st74 tT_ kK_) ?_
  obtain ⟨T75, h75, X75, e75, W75, st75⟩ := putF X74 hx hZ hown (host := "") (Or.inl (hw _ (List.mem_of_getElem? (i := 20) rfl))) Via.refl e74 F_a_value E_a (Or.inr ⟨(hw _ (List.mem_of_getElem? (i := 16) rfl)), rfl, hnm⟩) (hw _ (List.mem_of_getElem? (i := 3) rfl)) (ty := (.array .byte)) (by decide) rfl rfl (g := (mkF mM 14 #[.val (.ref a), .val (.ref s'), .val (.int (0 : Int32)), .val (.int (0 : Int32)), .val .null, .unset] [(.ref lzv), (.ref a)])) rfl rfl (hb hby d2_14)
  have N75 := Fr.snoc X75 N0 g_a
  have F_a_value := F_a_value.same W75
  have F_a_coder := F_a_coder.other W75 (Or.inr (slot_ne (Or.inr (hw _ (List.mem_of_getElem? (i := 17) rfl))) (Or.inr (hw _ (List.mem_of_getElem? (i := 16) rfl))) (by decide) (t := .byte) (t' := (.array .byte)) (by decide) (by decide)))
  have F_lz_value := F_lz_value.other W75 (Or.inl ne_lz_a)
  have F_lz_coder := F_lz_coder.other W75 (Or.inl ne_lz_a)
  have E_a := E_a.wr W75
  have E_lz := E_lz.wr W75
  have hk := Nat.le_trans hk (Keep.of_wr W75).1
  have O := O.wr W75 g_a
  have Zn := Nat.le_trans Zn (Keep.of_wr W75).1
  have Kp := Kp.wr W75 (Or.inl (List.mem_of_getElem? (i := 0) rfl))
  refine own_stW (A := T75.setTop (mkF mM 17 #[.val (.ref a), .val (.ref s'), .val (.int (0 : Int32)), .val (.int (0 : Int32)), .val .null, .unset] [])) (fun tT_ kK_ => st75 tT_ kK_) ?_
  refine own_stW (A := T75.setTop (mkF mM 18 #[.val (.ref a), .val (.ref s'), .val (.int (0 : Int32)), .val (.int (0 : Int32)), .val .null, .unset] [(.ref a)])) (fun tT_ kK_ => XS.aloadN X75.here hx rfl (hb hby d2_17) rfl rfl kK_) ?_
  refine own_stW (A := T75.setTop (mkF mM 20 #[.val (.ref a), .val (.ref s'), .val (.int (0 : Int32)), .val (.int (0 : Int32)), .val .null, .unset] [(.ref lz), (.ref a)])) (fun tT_ kK_ => ldcAgain X75 hx hZ hown (hw _ (List.mem_of_getElem? (i := 15) rfl)) Li_lz (g := (mkF mM 18 #[.val (.ref a), .val (.ref s'), .val (.int (0 : Int32)), .val (.int (0 : Int32)), .val .null, .unset] [(.ref a)])) rfl (hb hby d2_18) tT_ kK_) ?_
  obtain ⟨T76, X76, e76, st76⟩ := getF X75 hx hZ hown (host := "") (Or.inl (hw _ (List.mem_of_getElem? (i := 21) rfl))) Via.refl e75 F_lz_coder (g := (mkF mM 20 #[.val (.ref a), .val (.ref s'), .val (.int (0 : Int32)), .val (.int (0 : Int32)), .val .null, .unset] [(.ref lz), (.ref a)])) rfl rfl (hb hby d2_20)
  refine own_stW (A := T76.setTop (mkF mM 23 #[.val (.ref a), .val (.ref s'), .val (.int (0 : Int32)), .val (.int (0 : Int32)), .val .null, .unset] [(.int (0 : Int32)), (.ref a)])) (fun tT_ kK_ => st76 tT_ kK_) ?_
  obtain ⟨T77, h77, X77, e77, W77, st77⟩ := putFN X76 hx hZ hown (hw _ (List.mem_of_getElem? (i := 21) rfl)) Via.refl e76 F_a_coder E_a (Or.inr ⟨(hw _ (List.mem_of_getElem? (i := 17) rfl)), rfl, hnm⟩) (hw _ (List.mem_of_getElem? (i := 3) rfl)) (ty := .byte) (v' := (.int (0 : Int32))) (by decide) rfl (by decide) (g := (mkF mM 23 #[.val (.ref a), .val (.ref s'), .val (.int (0 : Int32)), .val (.int (0 : Int32)), .val .null, .unset] [(.int (0 : Int32)), (.ref a)])) rfl rfl (hb hby d2_23)
  have N77 := Fr.snoc X77 N75 g_a
  have F_a_value := F_a_value.other W77 (Or.inr (slot_ne (Or.inr (hw _ (List.mem_of_getElem? (i := 16) rfl))) (Or.inr (hw _ (List.mem_of_getElem? (i := 17) rfl))) (by decide) (t := (.array .byte)) (t' := .byte) (by decide) (by decide)))
  have F_a_coder := F_a_coder.same W77
  have F_lz_value := F_lz_value.other W77 (Or.inl ne_lz_a)
  have F_lz_coder := F_lz_coder.other W77 (Or.inl ne_lz_a)
  have E_a := E_a.wr W77
  have E_lz := E_lz.wr W77
  have hk := Nat.le_trans hk (Keep.of_wr W77).1
  have O := O.wr W77 g_a
  have Zn := Nat.le_trans Zn (Keep.of_wr W77).1
  have Kp := Kp.wr W77 (Or.inl (List.mem_of_getElem? (i := 0) rfl))
  refine own_stW (A := T77.setTop (mkF mM 26 #[.val (.ref a), .val (.ref s'), .val (.int (0 : Int32)), .val (.int (0 : Int32)), .val .null, .unset] [])) (fun tT_ kK_ => st77 tT_ kK_) ?_
  exact own_retWV X77 hx hlk hS (by rw [e77]; exact hk) hret (hb hby d2_26) (by rw [e77]; exact ⟨rfl, N77, Kp⟩) (by decide) (by decide)
theorem ef_rmS1_0 (mM : MethodId) (a : Addr) (s' : Addr) (ks : ClassId) : entryFrame mM #[(.ref a), (.ref s')] 2 = mkF mM 0 #[.val (.ref a), .val (.ref s')] [] := by first | (simp [entryFrame, mkF, argsToLocals, Value.category]; done) | rfl
set_option maxRecDepth 65536 in
set_option maxHeartbeats 40000000 in
theorem rmS1_0 (lL : Launch) (Z : State) (a0 : Array Value) (hw : ∀ d ∈ tables_1, d.before a0 Z = true) (ws : List Jvm.Cond) (a : Addr) (s' : Addr) (ks : ClassId) (h0 : Heap) (n0 : Nat) (g_a : n0 ≤ a) (E_a : Exa Z h0 a "java/lang/String") (F_a_value : Fld Z h0 a "java/lang/String" "value" "[B" .null) (F_a_coder : Fld Z h0 a "java/lang/String" "coder" "B" (.int (0 : Int32))) (A_s' : Arv Z h0 s' ks .char 0 [] (.int 0)) (O : Old Z n0 h0) (Zn : n0 ≤ h0.size) (hcw : Jvm.Lit.compactW.before a0 Z = true) (hheld : Jvm.Lit.constHeld Z "java/lang/String" 7) :
    MetFree lL (⟨"java/lang/String", "<init>", "([C)V"⟩ : MethodName) (head1 (Jvm.Cond.code (⟨"java/lang/String", "<init>", "([C)V"⟩ : MethodName) jdk_42_method_3_code 2 none :: ws) ({ frames := 2, cells := 2, slots := 4, locals := 29 } : Room)) (fun as_ uU_ => as_ = #[(.ref a), (.ref s')] ∧ Z.Warmed39 uU_.vm ∧ uU_.heap = h0 ∧ uU_.vm.interned = Z.vm.interned) (fun _ _ _ _ _ => True) (fun _ uU_ oO_ uE_ => ∃ vV_ lL_, oO_ = .returned vV_ ∧ QSE a h0 n0 vV_ uE_.heap lL_ ∧ ReturnedEndW uU_ oO_ uE_ lL_ ({ frames := 2, cells := 2, slots := 4, locals := 29 } : Room).cells ({ frames := 2, cells := 2, slots := 4, locals := 29 } : Room).slots) := by
  refine MetFree.of_bodySF (plainFor_of_name pn_java_2flang_2fString) hisR ?_
  intro pP eE sS mM args below meth cC s₁ Bd hml0 hP hK
  obtain ⟨rfl, hZ, hh, hI⟩ := hP
  have hx := Bd.exec
  have hby := Bd.bytes
  have hml : cC.maxLocals = 2 := hml0
  have hown : sS.vm.findClass "java/lang/String" = some mM.cls := findClass_of_methodNamed Bd.named
  have hnm := (name_of_methodNamed Bd.named Bd.method).1
  have hret := Bd.returns
  have hlk := BodyLoose.notSynchronized Bd
  have X0 : Stand pP lL eE ({ frames := 2, cells := 2, slots := 4, locals := 29 } : Room) sS mM #[(.ref a), (.ref s')] below meth cC s₁ [] 0 0 := Stand.of_body Bd
  have e0 : s₁.heap = h0 := by rw [← hh, Bd.state]; rfl
  have N0 := Fr.nil n0
  have X0 : Stand pP lL eE ({ frames := 2, cells := 2, slots := 4, locals := 29 } : Room) (sS.setVm sS.vm) mM #[(.ref a), (.ref s')] below meth cC s₁ [] 0 0 := X0
  have hZ : Z.Warmed39 (sS.setVm sS.vm).vm := hZ
  have hown : (sS.setVm sS.vm).vm.findClass "java/lang/String" = some mM.cls := hown
  have hS : sS.Since sS.vm 0 := (State.WarmedH.refl sS).since 0
  have hk : 0 ≤ h0.size := Nat.zero_le _
  show own_GoW pP eE below sS (QSE a h0 n0) 2 4 (s₁.setTop (entryFrame mM #[(.ref a), (.ref s')] 2))
  refine own_stW (A := s₁.setTop (mkF mM 0 #[.val (.ref a), .val (.ref s')] [])) (fun tT_ kK_ => castTop (ef_rmS1_0 mM a s' ks) kK_) ?_
  refine own_stW (A := s₁.setTop (mkF mM 1 #[.val (.ref a), .val (.ref s')] [(.ref a)])) (fun tT_ kK_ => XS.aloadN X0.here hx rfl (hb hby d1_0) rfl rfl kK_) ?_
  refine own_stW (A := s₁.setTop (mkF mM 2 #[.val (.ref a), .val (.ref s')] [(.ref s'), (.ref a)])) (fun tT_ kK_ => XS.aloadN X0.here hx rfl (hb hby d1_1) rfl rfl kK_) ?_
  refine own_stW (A := s₁.setTop (mkF mM 3 #[.val (.ref a), .val (.ref s')] [(.int (0 : Int32)), (.ref s'), (.ref a)])) (fun tT_ kK_ => XS.iconst X0.here hx rfl (hb hby d1_2) kK_) ?_
  refine own_stW (A := s₁.setTop (mkF mM 4 #[.val (.ref a), .val (.ref s')] [(.ref s'), (.int (0 : Int32)), (.ref s'), (.ref a)])) (fun tT_ kK_ => XS.aloadN X0.here hx rfl (hb hby d1_3) rfl rfl kK_) ?_
  obtain ⟨cl78, Ar78, q78, S78, Nn78, H78, G78⟩ := id A_s'
  refine own_stW (A := s₁.setTop (mkF mM 5 #[.val (.ref a), .val (.ref s')] [(.int (0 : Int32)), (.int (0 : Int32)), (.ref s'), (.ref a)])) (fun tT_ kK_ => X0.arraylength hx (by rw [e0]; exact Ar78.1) (State.isArrayOf_alike hZ.alike Ar78.2.1) (g := (mkF mM 4 #[.val (.ref a), .val (.ref s')] [(.ref s'), (.int (0 : Int32)), (.ref s'), (.ref a)])) rfl rfl (hb hby d1_4) tT_ (by rw [len_of S78 Nn78]; exact kK_)) ?_
  refine own_stW (A := s₁.setTop (mkF mM 6 #[.val (.ref a), .val (.ref s')] [.null, (.int (0 : Int32)), (.int (0 : Int32)), (.ref s'), (.ref a)])) (fun tT_ kK_ => XS.aconstNull X0.here hx rfl (hb hby d1_5) kK_) ?_
  obtain ⟨_, _, ⟨T79, L79, k79, n79⟩, -, X79, hS79, hg79, ⟨Lc79, hQ79, l79, y79, z79⟩, st79⟩ := X0.specialBackS hx (y := (⟨"java/lang/String", "<init>", "([CIILjava/lang/Void;)V"⟩ : MethodName)) rfl hown (mvT hZ (hw _ (List.mem_of_getElem? (i := 8) rfl))) (mvT hZ (hw _ (List.mem_of_getElem? (i := 9) rfl))) (mvT hZ (hw _ (List.mem_of_getElem? (i := 11) rfl))) (by decide) (own_backOfSI (W := 0) (rmS4_0 lL Z a0 hw [] a s' h0 n0 g_a E_a F_a_value F_a_coder O Zn hcw hheld) hZ (hw _ (List.mem_of_getElem? (i := 11) rfl)) (hw _ (List.mem_of_getElem? (i := 4) rfl)) (by decide) (by decide) hI) (g := (mkF mM 6 #[.val (.ref a), .val (.ref s')] [.null, (.int (0 : Int32)), (.int (0 : Int32)), (.ref s'), (.ref a)])) rfl (by rw [hml]; rfl) (Steps.refl _) (a := a) (argsL := [(.ref s'), (.int (0 : Int32)), (.int (0 : Int32)), .null]) (rest := []) (lenOf pd__28_5bCIILjava_2flang_2fVoid_3b_29V rfl) rfl (by show 2 * 0 + _ ≤ _; exact Nat.le_of_eq rfl) (hb hby d1_6) (fun _ _ => ⟨rfl, e0, (by decide : 0 + 2 ≤ _), (by decide : 0 + 4 ≤ _)⟩)
  dsimp only [Pt.U, Pt.locs, Pt.cells, Pt.slots] at X79 l79 y79 z79 st79 hQ79 hS79 hg79
  subst l79 y79 z79
  obtain ⟨rfl, N79q, R79⟩ := hQ79
  have N79 := Fr.app N0 N79q
  rw [e0] at hg79
  have hZ := own_wideZ hZ hS79
  have hown := own_wideO hown hS79
  have hS := hS.trans hS79 (Nat.le_trans hk hg79)
  have hk : T79.heap.size ≤ T79.heap.size := Nat.le_refl _
  have X79 : Stand pP lL eE ({ frames := 2, cells := 2, slots := 4, locals := 29 } : Room) (sS.setVm T79.vm) mM #[(.ref a), (.ref s')] below meth cC T79 _ 2 4 := X79
  have e79 : T79.heap = T79.heap := rfl
  refine own_stW (A := T79.setTop (mkF mM 9 #[.val (.ref a), .val (.ref s')] [])) (fun tT_ kK_ => st79.trans kK_) ?_
  exact own_retWV X79 hx hlk hS (by rw [e79]; exact hk) hret (hb hby d1_9) ⟨rfl, N79, R79⟩ (by decide) (by decide)
theorem pd__28_29Ljava_2flang_2fObject_3b : parseMethodDescriptor "()Ljava/lang/Object;" = some ⟨[], some (.object "java/lang/Object")⟩ := by decide +kernel
theorem pd__28Ljava_2flang_2fObject_3bI_29Lcom_2fexample_2flibttl_2flibttl_2fKey_3b : parseMethodDescriptor "(Ljava/lang/Object;I)Lcom/example/libttl/libttl/Key;" = some ⟨[(.object "java/lang/Object"), .int], some (.object "com/example/libttl/libttl/Key")⟩ := by decide +kernel
set_option maxRecDepth 65536 in
set_option maxHeartbeats 40000000 in
theorem J122 {pP : Program} {lL : Launch} {eE : Env} {sS : State} {mM : MethodId} {args : Array Value} {below : List Frame} {meth : Method} {cC : Code} {T0 : State} {locs : List Loc} {Z : State} {a0 : Array Value} {h0 : Heap} {n0 : Nat} {vmV : Vm} (hw : ∀ d ∈ tables_1, d.before a0 Z = true) (X0 : Stand pP lL eE room_1 (sS.setVm vmV) mM args below meth cC T0 locs 8 64) (hx : pP.tables.exec = Jvm.exec) (hZ : Z.Warmed39 (sS.setVm vmV).vm) (hby : cC.code = code) (hml : cC.maxLocals = 21) (hown : (sS.setVm vmV).vm.findClass "com/example/libttl/libttl/KeyFormPinLaw" = some mM.cls) (hlk : meth.locks = false) (hret : meth.sig.returnType = ret) {kV : Nat} (hS : sS.Since vmV kV) (hk : kV ≤ h0.size) (e0 : T0.heap = h0) (N0 : Fr n0 locs) (u0 : Int32) (u1 : Int32) (u2 : Int32) (u3 : Int32) (u4 : Int32) (u5 : Int32) (aa : Addr) (cc : Addr) (ss : Addr) (Zn : n0 ≤ h0.size) (E_aa : Exa Z h0 aa "[B") (E_ss : Exa Z h0 ss "java/lang/String") :
    own_GoW pP eE below sS (QLaw n0) 32 1152 (T0.setTop (mkF mM 122 #[.val (.int u0), .val (.int u1), .val (.int u2), .val (.int u3), .val (.int u4), .val (.int u5), .val (.ref aa), .val (.ref cc), .unset, .unset, .unset, .unset, .unset, .unset, .unset, .unset, .unset, .unset, .unset, .unset, .unset] [(.ref ss)])) := by
  refine own_stW (A := T0.setTop (mkF mM 124 #[.val (.int u0), .val (.int u1), .val (.int u2), .val (.int u3), .val (.int u4), .val (.int u5), .val (.ref aa), .val (.ref cc), .val (.ref ss), .unset, .unset, .unset, .unset, .unset, .unset, .unset, .unset, .unset, .unset, .unset, .unset] [])) (fun tT_ kK_ => XS.astore X0.here hx rfl (hb hby at_122) rfl rfl (l' := #[.val (.int u0), .val (.int u1), .val (.int u2), .val (.int u3), .val (.int u4), .val (.int u5), .val (.ref aa), .val (.ref cc), .val (.ref ss), .unset, .unset, .unset, .unset, .unset, .unset, .unset, .unset, .unset, .unset, .unset, .unset]) rfl kK_) ?_
  obtain ⟨T80, h80, X80, e80, E80, A80, D80, -, st80⟩ := newO X0 hx hZ hown (hw _ (List.mem_of_getElem? (i := 22) rfl)) (hw _ (List.mem_of_getElem? (i := 23) rfl)) (hw _ (List.mem_of_getElem? (i := 24) rfl)) e0 (g := (mkF mM 124 #[.val (.int u0), .val (.int u1), .val (.int u2), .val (.int u3), .val (.int u4), .val (.int u5), .val (.ref aa), .val (.ref cc), .val (.ref ss), .unset, .unset, .unset, .unset, .unset, .unset, .unset, .unset, .unset, .unset, .unset, .unset] [])) rfl (hb hby at_124) (by decide) (by decide)
  obtain ⟨b80, g80⟩ : ∃ z, z = h0.size := ⟨_, rfl⟩
  rw [← g80] at A80 D80 st80
  have ne_aa_b80 : aa ≠ b80 := Nat.ne_of_lt (Nat.lt_of_lt_of_le E_aa.lt (Nat.le_of_eq g80.symm))
  have ne_ss_b80 : ss ≠ b80 := Nat.ne_of_lt (Nat.lt_of_lt_of_le E_ss.lt (Nat.le_of_eq g80.symm))
  have g_b80 : n0 ≤ b80 := Nat.le_trans Zn (Nat.le_of_eq g80.symm)
  have E_aa := E_aa.ext E80
  have E_ss := E_ss.ext E80
  have hk := Nat.le_trans hk E80.1
  have Zn := Nat.le_trans Zn E80.1
  have E_b80 := A80
  have F_b80_bytes : Fld Z h80 b80 "com/example/libttl/libttl/Key" "bytes" "[B" .null := D80 (Or.inr (hw _ (List.mem_of_getElem? (i := 30) rfl))) (ty := (.array .byte)) (by decide)
  have F_b80_text : Fld Z h80 b80 "com/example/libttl/libttl/Key" "text" "Ljava/lang/String;" .null := D80 (Or.inr (hw _ (List.mem_of_getElem? (i := 32) rfl))) (ty := (.object "java/lang/String")) (by decide)
  have F_b80_hash : Fld Z h80 b80 "com/example/libttl/libttl/Key" "hash" "I" (.int (0 : Int32)) := D80 (Or.inr (hw _ (List.mem_of_getElem? (i := 34) rfl))) (ty := .int) (by decide)
  refine own_stW (A := T80.setTop (mkF mM 127 #[.val (.int u0), .val (.int u1), .val (.int u2), .val (.int u3), .val (.int u4), .val (.int u5), .val (.ref aa), .val (.ref cc), .val (.ref ss), .unset, .unset, .unset, .unset, .unset, .unset, .unset, .unset, .unset, .unset, .unset, .unset] [(.ref b80)])) (fun tT_ kK_ => st80 tT_ kK_) ?_
  refine own_stW (A := T80.setTop (mkF mM 128 #[.val (.int u0), .val (.int u1), .val (.int u2), .val (.int u3), .val (.int u4), .val (.int u5), .val (.ref aa), .val (.ref cc), .val (.ref ss), .unset, .unset, .unset, .unset, .unset, .unset, .unset, .unset, .unset, .unset, .unset, .unset] [(.ref b80), (.ref b80)])) (fun tT_ kK_ => XS.dup X80.here hx rfl (hb hby at_127) rfl rfl kK_) ?_
  refine own_stW (A := T80.setTop (mkF mM 130 #[.val (.int u0), .val (.int u1), .val (.int u2), .val (.int u3), .val (.int u4), .val (.int u5), .val (.ref aa), .val (.ref cc), .val (.ref ss), .unset, .unset, .unset, .unset, .unset, .unset, .unset, .unset, .unset, .unset, .unset, .unset] [(.ref aa), (.ref b80), (.ref b80)])) (fun tT_ kK_ => XS.aload X80.here hx rfl (hb hby at_128) rfl rfl kK_) ?_
  refine own_stW (A := T80.setTop (mkF mM 132 #[.val (.int u0), .val (.int u1), .val (.int u2), .val (.int u3), .val (.int u4), .val (.int u5), .val (.ref aa), .val (.ref cc), .val (.ref ss), .unset, .unset, .unset, .unset, .unset, .unset, .unset, .unset, .unset, .unset, .unset, .unset] [(.int u4), (.ref aa), (.ref b80), (.ref b80)])) (fun tT_ kK_ => XS.iload X80.here hx rfl (hb hby at_130) rfl kK_) ?_
  obtain ⟨_, _, ⟨T81, L81, k81, n81⟩, -, X81, ⟨Lc81, hQ81, l81, y81, z81⟩, st81⟩ := X80.specialBack hx (y := (⟨"com/example/libttl/libttl/Key", "<init>", "([BI)V"⟩ : MethodName)) rfl hown (mvT hZ (hw _ (List.mem_of_getElem? (i := 25) rfl))) (mvT hZ (hw _ (List.mem_of_getElem? (i := 26) rfl))) (mvT hZ (hw _ (List.mem_of_getElem? (i := 27) rfl))) (by decide) (backOf (W := 1) (rmKB lL Z a0 hw [] b80 aa u4 h80 n0 g_b80 E_b80 F_b80_bytes F_b80_text F_b80_hash) hZ (hw _ (List.mem_of_getElem? (i := 27) rfl)) (hw _ (List.mem_of_getElem? (i := 24) rfl)) (by decide) (by decide)) (g := (mkF mM 132 #[.val (.int u0), .val (.int u1), .val (.int u2), .val (.int u3), .val (.int u4), .val (.int u5), .val (.ref aa), .val (.ref cc), .val (.ref ss), .unset, .unset, .unset, .unset, .unset, .unset, .unset, .unset, .unset, .unset, .unset, .unset] [(.int u4), (.ref aa), (.ref b80), (.ref b80)])) rfl (by rw [hml]; rfl) (Steps.refl _) (a := b80) (argsL := [(.ref aa), (.int u4)]) (rest := [(.ref b80)]) (lenOf pd__28_5bBI_29V rfl) rfl (by show 2 * 0 + _ ≤ _; exact Nat.le_of_eq rfl) (hb hby at_132) (fun _ _ => ⟨rfl, e80, (by decide : 9 + 0 ≤ _), (by decide : 67 + 0 ≤ _)⟩)
  dsimp only [Pt.U, Pt.locs, Pt.cells, Pt.slots] at X81 l81 y81 z81 st81 hQ81
  subst l81 y81 z81
  obtain ⟨rfl, N81q, K81, kf81⟩ := hQ81
  have N81 := Fr.app N0 N81q
  have e81 : T81.heap = T81.heap := rfl
  refine own_stW (A := T81.setTop (mkF mM 135 #[.val (.int u0), .val (.int u1), .val (.int u2), .val (.int u3), .val (.int u4), .val (.int u5), .val (.ref aa), .val (.ref cc), .val (.ref ss), .unset, .unset, .unset, .unset, .unset, .unset, .unset, .unset, .unset, .unset, .unset, .unset] [(.ref b80)])) (fun tT_ kK_ => st81.trans kK_) ?_
  have E_aa := E_aa.keep K81
  have E_ss := E_ss.keep K81
  have E_b80 := E_b80.keep K81
  have hk := Nat.le_trans hk K81.1
  have Zn := Nat.le_trans Zn K81.1
  refine own_stW (A := T81.setTop (mkF mM 137 #[.val (.int u0), .val (.int u1), .val (.int u2), .val (.int u3), .val (.int u4), .val (.int u5), .val (.ref aa), .val (.ref cc), .val (.ref ss), .val (.ref b80), .unset, .unset, .unset, .unset, .unset, .unset, .unset, .unset, .unset, .unset, .unset] [])) (fun tT_ kK_ => XS.astore X81.here hx rfl (hb hby at_135) rfl rfl (l' := #[.val (.int u0), .val (.int u1), .val (.int u2), .val (.int u3), .val (.int u4), .val (.int u5), .val (.ref aa), .val (.ref cc), .val (.ref ss), .val (.ref b80), .unset, .unset, .unset, .unset, .unset, .unset, .unset, .unset, .unset, .unset, .unset]) rfl kK_) ?_
  refine own_stW (A := T81.setTop (mkF mM 139 #[.val (.int u0), .val (.int u1), .val (.int u2), .val (.int u3), .val (.int u4), .val (.int u5), .val (.ref aa), .val (.ref cc), .val (.ref ss), .val (.ref b80), .unset, .unset, .unset, .unset, .unset, .unset, .unset, .unset, .unset, .unset, .unset] [(.ref b80)])) (fun tT_ kK_ => XS.aload X81.here hx rfl (hb hby at_137) rfl rfl kK_) ?_
  obtain ⟨cq82, kq82, q82a, q82b, q82c⟩ := isOf hZ e81 E_b80
  obtain ⟨_, _, ⟨T82, L82, k82, n82⟩, -, X82, ⟨Lc82, hQ82, l82, y82, z82⟩, st82⟩ := X81.virtualBack hx (y := (⟨"com/example/libttl/libttl/Key", "form", "()Ljava/lang/Object;"⟩ : MethodName)) (z := (⟨"com/example/libttl/libttl/Key", "form", "()Ljava/lang/Object;"⟩ : MethodName)) hown (mvT hZ (hw _ (List.mem_of_getElem? (i := 35) rfl))) (mvT hZ (hw _ (List.mem_of_getElem? (i := 36) rfl))) (notFace_of_selects (args := #[]) (mvT hZ (hw _ (List.mem_of_getElem? (i := 38) rfl)))) (mvT hZ (hw _ (List.mem_of_getElem? (i := 38) rfl))) (mvT hZ (hw _ (List.mem_of_getElem? (i := 37) rfl))) (by decide) (backOf (W := 0) (rmF lL Z a0 hw [] b80 aa T81.heap n0 kf81) hZ (hw _ (List.mem_of_getElem? (i := 39) rfl)) (hw _ (List.mem_of_getElem? (i := 24) rfl)) (by decide) (by decide)) q82a q82c (g := (mkF mM 139 #[.val (.int u0), .val (.int u1), .val (.int u2), .val (.int u3), .val (.int u4), .val (.int u5), .val (.ref aa), .val (.ref cc), .val (.ref ss), .val (.ref b80), .unset, .unset, .unset, .unset, .unset, .unset, .unset, .unset, .unset, .unset, .unset] [(.ref b80)])) rfl (by rw [hml]; rfl) (Steps.refl _) (argsL := []) (rest := []) (lenOf pd__28_29Ljava_2flang_2fObject_3b rfl) rfl (by show 2 * 0 + _ ≤ _; exact Nat.le_of_eq rfl) (hb hby at_139) (fun _ _ => ⟨rfl, e81, (by decide : 9 + 0 ≤ _), (by decide : 67 + 0 ≤ _)⟩)
  dsimp only [Pt.U, Pt.locs, Pt.cells, Pt.slots] at X82 l82 y82 z82 st82 hQ82
  subst l82 y82 z82
  obtain ⟨rfl, N82q, e82⟩ := hQ82
  have N82 := Fr.app N81 N82q
  refine own_stW (A := T82.setTop (mkF mM 142 #[.val (.int u0), .val (.int u1), .val (.int u2), .val (.int u3), .val (.int u4), .val (.int u5), .val (.ref aa), .val (.ref cc), .val (.ref ss), .val (.ref b80), .unset, .unset, .unset, .unset, .unset, .unset, .unset, .unset, .unset, .unset, .unset] [(.ref aa)])) (fun tT_ kK_ => st82.trans kK_) ?_
  refine own_stW (A := T82.setTop (mkF mM 144 #[.val (.int u0), .val (.int u1), .val (.int u2), .val (.int u3), .val (.int u4), .val (.int u5), .val (.ref aa), .val (.ref cc), .val (.ref ss), .val (.ref b80), .val (.ref aa), .unset, .unset, .unset, .unset, .unset, .unset, .unset, .unset, .unset, .unset] [])) (fun tT_ kK_ => XS.astore X82.here hx rfl (hb hby at_142) rfl rfl (l' := #[.val (.int u0), .val (.int u1), .val (.int u2), .val (.int u3), .val (.int u4), .val (.int u5), .val (.ref aa), .val (.ref cc), .val (.ref ss), .val (.ref b80), .val (.ref aa), .unset, .unset, .unset, .unset, .unset, .unset, .unset, .unset, .unset, .unset]) rfl kK_) ?_
  refine own_stW (A := T82.setTop (mkF mM 146 #[.val (.int u0), .val (.int u1), .val (.int u2), .val (.int u3), .val (.int u4), .val (.int u5), .val (.ref aa), .val (.ref cc), .val (.ref ss), .val (.ref b80), .val (.ref aa), .unset, .unset, .unset, .unset, .unset, .unset, .unset, .unset, .unset, .unset] [(.ref aa)])) (fun tT_ kK_ => XS.aload X82.here hx rfl (hb hby at_144) rfl rfl kK_) ?_
  refine own_stW (A := T82.setTop (mkF mM 148 #[.val (.int u0), .val (.int u1), .val (.int u2), .val (.int u3), .val (.int u4), .val (.int u5), .val (.ref aa), .val (.ref cc), .val (.ref ss), .val (.ref b80), .val (.ref aa), .unset, .unset, .unset, .unset, .unset, .unset, .unset, .unset, .unset, .unset] [(.ref aa), (.ref aa)])) (fun tT_ kK_ => XS.aload X82.here hx rfl (hb hby at_146) rfl rfl kK_) ?_
  refine own_stW (A := T82.setTop (mkF mM 151 #[.val (.int u0), .val (.int u1), .val (.int u2), .val (.int u3), .val (.int u4), .val (.int u5), .val (.ref aa), .val (.ref cc), .val (.ref ss), .val (.ref b80), .val (.ref aa), .unset, .unset, .unset, .unset, .unset, .unset, .unset, .unset, .unset, .unset] [])) (fun tT_ kK_ => Jvm.RoadKit.acmp X82 hx rfl (x := (.ref aa)) (y := (.ref aa)) rfl rfl (pc0 := 148) (pc' := 151) (same := true) rfl (hb hby at_148) rfl (decide_eq_true rfl) (by decide) (by decide) kK_) ?_
  refine own_stW (A := T82.setTop (mkF mM 152 #[.val (.int u0), .val (.int u1), .val (.int u2), .val (.int u3), .val (.int u4), .val (.int u5), .val (.ref aa), .val (.ref cc), .val (.ref ss), .val (.ref b80), .val (.ref aa), .unset, .unset, .unset, .unset, .unset, .unset, .unset, .unset, .unset, .unset] [(.int (1 : Int32))])) (fun tT_ kK_ => XS.iconst X82.here hx rfl (hb hby at_151) kK_) ?_
  refine own_stW (A := T82.setTop (mkF mM 156 #[.val (.int u0), .val (.int u1), .val (.int u2), .val (.int u3), .val (.int u4), .val (.int u5), .val (.ref aa), .val (.ref cc), .val (.ref ss), .val (.ref b80), .val (.ref aa), .unset, .unset, .unset, .unset, .unset, .unset, .unset, .unset, .unset, .unset] [(.int (1 : Int32))])) (fun tT_ kK_ => XS.goto X82.here hx rfl (pc0 := 152) (pc' := 156) rfl (hb hby at_152) (by decide) (by decide) kK_) ?_
  refine own_stW (A := T82.setTop (mkF mM 158 #[.val (.int u0), .val (.int u1), .val (.int u2), .val (.int u3), .val (.int u4), .val (.int u5), .val (.ref aa), .val (.ref cc), .val (.ref ss), .val (.ref b80), .val (.ref aa), .val (.int (1 : Int32)), .unset, .unset, .unset, .unset, .unset, .unset, .unset, .unset, .unset] [])) (fun tT_ kK_ => XS.istore X82.here hx rfl (hb hby at_156) rfl (l' := #[.val (.int u0), .val (.int u1), .val (.int u2), .val (.int u3), .val (.int u4), .val (.int u5), .val (.ref aa), .val (.ref cc), .val (.ref ss), .val (.ref b80), .val (.ref aa), .val (.int (1 : Int32)), .unset, .unset, .unset, .unset, .unset, .unset, .unset, .unset, .unset]) rfl kK_) ?_
  refine own_stW (A := T82.setTop (mkF mM 160 #[.val (.int u0), .val (.int u1), .val (.int u2), .val (.int u3), .val (.int u4), .val (.int u5), .val (.ref aa), .val (.ref cc), .val (.ref ss), .val (.ref b80), .val (.ref aa), .val (.int (1 : Int32)), .unset, .unset, .unset, .unset, .unset, .unset, .unset, .unset, .unset] [(.ref ss)])) (fun tT_ kK_ => XS.aload X82.here hx rfl (hb hby at_158) rfl rfl kK_) ?_
  refine own_stW (A := T82.setTop (mkF mM 162 #[.val (.int u0), .val (.int u1), .val (.int u2), .val (.int u3), .val (.int u4), .val (.int u5), .val (.ref aa), .val (.ref cc), .val (.ref ss), .val (.ref b80), .val (.ref aa), .val (.int (1 : Int32)), .unset, .unset, .unset, .unset, .unset, .unset, .unset, .unset, .unset] [(.int u5), (.ref ss)])) (fun tT_ kK_ => XS.iload X82.here hx rfl (hb hby at_160) rfl kK_) ?_
  obtain ⟨_, _, ⟨T83, L83, k83, n83⟩, -, X83, ⟨Lc83, hQ83, l83, y83, z83⟩, st83⟩ := Jvm.LawKit.callS X82 hx (y := (⟨"com/example/libttl/libttl/Key", "ofForm", "(Ljava/lang/Object;I)Lcom/example/libttl/libttl/Key;"⟩ : MethodName)) hown (mvT hZ (hw _ (List.mem_of_getElem? (i := 40) rfl))) (mvT hZ (hw _ (List.mem_of_getElem? (i := 41) rfl))) (mvT hZ (hw _ (List.mem_of_getElem? (i := 24) rfl))) (mvT hZ (hw _ (List.mem_of_getElem? (i := 42) rfl))) (by decide) (backOf (W := 0) (rmO lL Z a0 hw [] ss u5 T81.heap n0 Zn (Or.inl (Ins.self E_ss))) hZ (hw _ (List.mem_of_getElem? (i := 42) rfl)) (hw _ (List.mem_of_getElem? (i := 24) rfl)) (by decide) (by decide)) (g := (mkF mM 162 #[.val (.int u0), .val (.int u1), .val (.int u2), .val (.int u3), .val (.int u4), .val (.int u5), .val (.ref aa), .val (.ref cc), .val (.ref ss), .val (.ref b80), .val (.ref aa), .val (.int (1 : Int32)), .unset, .unset, .unset, .unset, .unset, .unset, .unset, .unset, .unset] [(.int u5), (.ref ss)])) rfl (by rw [hml]; rfl) (argsL := [(.ref ss), (.int u5)]) (rest := []) (lenOf pd__28Ljava_2flang_2fObject_3bI_29Lcom_2fexample_2flibttl_2flibttl_2fKey_3b rfl) rfl (by show 2 * 0 + _ ≤ _; exact Nat.le_of_eq rfl) (hb hby at_162) (fun _ _ => ⟨rfl, e82, (by decide : 9 + 1 ≤ _), (by decide : 67 + 3 ≤ _)⟩)
  dsimp only [Pt.U, Pt.locs, Pt.cells, Pt.slots] at X83 l83 y83 z83 st83 hQ83
  subst l83 y83 z83
  obtain ⟨p83, rfl, N83q, E83, x83, kf83⟩ := hQ83
  have N83 := Fr.app N82 N83q
  have e83 : T83.heap = T83.heap := rfl
  refine own_stW (A := T83.setTop (mkF mM 165 #[.val (.int u0), .val (.int u1), .val (.int u2), .val (.int u3), .val (.int u4), .val (.int u5), .val (.ref aa), .val (.ref cc), .val (.ref ss), .val (.ref b80), .val (.ref aa), .val (.int (1 : Int32)), .unset, .unset, .unset, .unset, .unset, .unset, .unset, .unset, .unset] [(.ref p83)])) (fun tT_ kK_ => st83 tT_ kK_) ?_
  have E_aa := E_aa.ext E83
  have E_ss := E_ss.ext E83
  have E_b80 := E_b80.ext E83
  have hk := Nat.le_trans hk E83.1
  have Zn := Nat.le_trans Zn E83.1
  have E_p83 := x83
  refine own_stW (A := T83.setTop (mkF mM 167 #[.val (.int u0), .val (.int u1), .val (.int u2), .val (.int u3), .val (.int u4), .val (.int u5), .val (.ref aa), .val (.ref cc), .val (.ref ss), .val (.ref b80), .val (.ref aa), .val (.int (1 : Int32)), .val (.ref p83), .unset, .unset, .unset, .unset, .unset, .unset, .unset, .unset] [])) (fun tT_ kK_ => XS.astore X83.here hx rfl (hb hby at_165) rfl rfl (l' := #[.val (.int u0), .val (.int u1), .val (.int u2), .val (.int u3), .val (.int u4), .val (.int u5), .val (.ref aa), .val (.ref cc), .val (.ref ss), .val (.ref b80), .val (.ref aa), .val (.int (1 : Int32)), .val (.ref p83), .unset, .unset, .unset, .unset, .unset, .unset, .unset, .unset]) rfl kK_) ?_
  refine own_stW (A := T83.setTop (mkF mM 169 #[.val (.int u0), .val (.int u1), .val (.int u2), .val (.int u3), .val (.int u4), .val (.int u5), .val (.ref aa), .val (.ref cc), .val (.ref ss), .val (.ref b80), .val (.ref aa), .val (.int (1 : Int32)), .val (.ref p83), .unset, .unset, .unset, .unset, .unset, .unset, .unset, .unset] [(.ref p83)])) (fun tT_ kK_ => XS.aload X83.here hx rfl (hb hby at_167) rfl rfl kK_) ?_
  obtain ⟨cq84, kq84, q84a, q84b, q84c⟩ := isOf hZ e83 E_p83
  obtain ⟨_, _, ⟨T84, L84, k84, n84⟩, -, X84, ⟨Lc84, hQ84, l84, y84, z84⟩, st84⟩ := X83.virtualBack hx (y := (⟨"com/example/libttl/libttl/Key", "form", "()Ljava/lang/Object;"⟩ : MethodName)) (z := (⟨"com/example/libttl/libttl/Key", "form", "()Ljava/lang/Object;"⟩ : MethodName)) hown (mvT hZ (hw _ (List.mem_of_getElem? (i := 35) rfl))) (mvT hZ (hw _ (List.mem_of_getElem? (i := 36) rfl))) (notFace_of_selects (args := #[]) (mvT hZ (hw _ (List.mem_of_getElem? (i := 38) rfl)))) (mvT hZ (hw _ (List.mem_of_getElem? (i := 38) rfl))) (mvT hZ (hw _ (List.mem_of_getElem? (i := 37) rfl))) (by decide) (backOf (W := 0) (rmF lL Z a0 hw [] p83 ss T83.heap n0 kf83) hZ (hw _ (List.mem_of_getElem? (i := 39) rfl)) (hw _ (List.mem_of_getElem? (i := 24) rfl)) (by decide) (by decide)) q84a q84c (g := (mkF mM 169 #[.val (.int u0), .val (.int u1), .val (.int u2), .val (.int u3), .val (.int u4), .val (.int u5), .val (.ref aa), .val (.ref cc), .val (.ref ss), .val (.ref b80), .val (.ref aa), .val (.int (1 : Int32)), .val (.ref p83), .unset, .unset, .unset, .unset, .unset, .unset, .unset, .unset] [(.ref p83)])) rfl (by rw [hml]; rfl) (Steps.refl _) (argsL := []) (rest := []) (lenOf pd__28_29Ljava_2flang_2fObject_3b rfl) rfl (by show 2 * 0 + _ ≤ _; exact Nat.le_of_eq rfl) (hb hby at_169) (fun _ _ => ⟨rfl, e83, (by decide : 10 + 0 ≤ _), (by decide : 70 + 0 ≤ _)⟩)
  dsimp only [Pt.U, Pt.locs, Pt.cells, Pt.slots] at X84 l84 y84 z84 st84 hQ84
  subst l84 y84 z84
  obtain ⟨rfl, N84q, e84⟩ := hQ84
  have N84 := Fr.app N83 N84q
  refine own_stW (A := T84.setTop (mkF mM 172 #[.val (.int u0), .val (.int u1), .val (.int u2), .val (.int u3), .val (.int u4), .val (.int u5), .val (.ref aa), .val (.ref cc), .val (.ref ss), .val (.ref b80), .val (.ref aa), .val (.int (1 : Int32)), .val (.ref p83), .unset, .unset, .unset, .unset, .unset, .unset, .unset, .unset] [(.ref ss)])) (fun tT_ kK_ => st84.trans kK_) ?_
  refine own_stW (A := T84.setTop (mkF mM 174 #[.val (.int u0), .val (.int u1), .val (.int u2), .val (.int u3), .val (.int u4), .val (.int u5), .val (.ref aa), .val (.ref cc), .val (.ref ss), .val (.ref b80), .val (.ref aa), .val (.int (1 : Int32)), .val (.ref p83), .val (.ref ss), .unset, .unset, .unset, .unset, .unset, .unset, .unset] [])) (fun tT_ kK_ => XS.astore X84.here hx rfl (hb hby at_172) rfl rfl (l' := #[.val (.int u0), .val (.int u1), .val (.int u2), .val (.int u3), .val (.int u4), .val (.int u5), .val (.ref aa), .val (.ref cc), .val (.ref ss), .val (.ref b80), .val (.ref aa), .val (.int (1 : Int32)), .val (.ref p83), .val (.ref ss), .unset, .unset, .unset, .unset, .unset, .unset, .unset]) rfl kK_) ?_
  refine own_stW (A := T84.setTop (mkF mM 176 #[.val (.int u0), .val (.int u1), .val (.int u2), .val (.int u3), .val (.int u4), .val (.int u5), .val (.ref aa), .val (.ref cc), .val (.ref ss), .val (.ref b80), .val (.ref aa), .val (.int (1 : Int32)), .val (.ref p83), .val (.ref ss), .unset, .unset, .unset, .unset, .unset, .unset, .unset] [(.ref ss)])) (fun tT_ kK_ => XS.aload X84.here hx rfl (hb hby at_174) rfl rfl kK_) ?_
  refine own_stW (A := T84.setTop (mkF mM 178 #[.val (.int u0), .val (.int u1), .val (.int u2), .val (.int u3), .val (.int u4), .val (.int u5), .val (.ref aa), .val (.ref cc), .val (.ref ss), .val (.ref b80), .val (.ref aa), .val (.int (1 : Int32)), .val (.ref p83), .val (.ref ss), .unset, .unset, .unset, .unset, .unset, .unset, .unset] [(.ref ss), (.ref ss)])) (fun tT_ kK_ => XS.aload X84.here hx rfl (hb hby at_176) rfl rfl kK_) ?_
  refine own_stW (A := T84.setTop (mkF mM 181 #[.val (.int u0), .val (.int u1), .val (.int u2), .val (.int u3), .val (.int u4), .val (.int u5), .val (.ref aa), .val (.ref cc), .val (.ref ss), .val (.ref b80), .val (.ref aa), .val (.int (1 : Int32)), .val (.ref p83), .val (.ref ss), .unset, .unset, .unset, .unset, .unset, .unset, .unset] [])) (fun tT_ kK_ => Jvm.RoadKit.acmp X84 hx rfl (x := (.ref ss)) (y := (.ref ss)) rfl rfl (pc0 := 178) (pc' := 181) (same := true) rfl (hb hby at_178) rfl (decide_eq_true rfl) (by decide) (by decide) kK_) ?_
  refine own_stW (A := T84.setTop (mkF mM 182 #[.val (.int u0), .val (.int u1), .val (.int u2), .val (.int u3), .val (.int u4), .val (.int u5), .val (.ref aa), .val (.ref cc), .val (.ref ss), .val (.ref b80), .val (.ref aa), .val (.int (1 : Int32)), .val (.ref p83), .val (.ref ss), .unset, .unset, .unset, .unset, .unset, .unset, .unset] [(.int (1 : Int32))])) (fun tT_ kK_ => XS.iconst X84.here hx rfl (hb hby at_181) kK_) ?_
  refine own_stW (A := T84.setTop (mkF mM 186 #[.val (.int u0), .val (.int u1), .val (.int u2), .val (.int u3), .val (.int u4), .val (.int u5), .val (.ref aa), .val (.ref cc), .val (.ref ss), .val (.ref b80), .val (.ref aa), .val (.int (1 : Int32)), .val (.ref p83), .val (.ref ss), .unset, .unset, .unset, .unset, .unset, .unset, .unset] [(.int (1 : Int32))])) (fun tT_ kK_ => XS.goto X84.here hx rfl (pc0 := 182) (pc' := 186) rfl (hb hby at_182) (by decide) (by decide) kK_) ?_
  refine own_stW (A := T84.setTop (mkF mM 188 #[.val (.int u0), .val (.int u1), .val (.int u2), .val (.int u3), .val (.int u4), .val (.int u5), .val (.ref aa), .val (.ref cc), .val (.ref ss), .val (.ref b80), .val (.ref aa), .val (.int (1 : Int32)), .val (.ref p83), .val (.ref ss), .val (.int (1 : Int32)), .unset, .unset, .unset, .unset, .unset, .unset] [])) (fun tT_ kK_ => XS.istore X84.here hx rfl (hb hby at_186) rfl (l' := #[.val (.int u0), .val (.int u1), .val (.int u2), .val (.int u3), .val (.int u4), .val (.int u5), .val (.ref aa), .val (.ref cc), .val (.ref ss), .val (.ref b80), .val (.ref aa), .val (.int (1 : Int32)), .val (.ref p83), .val (.ref ss), .val (.int (1 : Int32)), .unset, .unset, .unset, .unset, .unset, .unset]) rfl kK_) ?_
  refine own_stW (A := T84.setTop (mkF mM 190 #[.val (.int u0), .val (.int u1), .val (.int u2), .val (.int u3), .val (.int u4), .val (.int u5), .val (.ref aa), .val (.ref cc), .val (.ref ss), .val (.ref b80), .val (.ref aa), .val (.int (1 : Int32)), .val (.ref p83), .val (.ref ss), .val (.int (1 : Int32)), .unset, .unset, .unset, .unset, .unset, .unset] [(.ref aa)])) (fun tT_ kK_ => XS.aload X84.here hx rfl (hb hby at_188) rfl rfl kK_) ?_
  refine own_stW (A := T84.setTop (mkF mM 192 #[.val (.int u0), .val (.int u1), .val (.int u2), .val (.int u3), .val (.int u4), .val (.int u5), .val (.ref aa), .val (.ref cc), .val (.ref ss), .val (.ref b80), .val (.ref aa), .val (.int (1 : Int32)), .val (.ref p83), .val (.ref ss), .val (.int (1 : Int32)), .unset, .unset, .unset, .unset, .unset, .unset] [(.int u4), (.ref aa)])) (fun tT_ kK_ => XS.iload X84.here hx rfl (hb hby at_190) rfl kK_) ?_
  obtain ⟨_, _, ⟨T85, L85, k85, n85⟩, -, X85, ⟨Lc85, hQ85, l85, y85, z85⟩, st85⟩ := Jvm.LawKit.callS X84 hx (y := (⟨"com/example/libttl/libttl/Key", "ofForm", "(Ljava/lang/Object;I)Lcom/example/libttl/libttl/Key;"⟩ : MethodName)) hown (mvT hZ (hw _ (List.mem_of_getElem? (i := 40) rfl))) (mvT hZ (hw _ (List.mem_of_getElem? (i := 41) rfl))) (mvT hZ (hw _ (List.mem_of_getElem? (i := 24) rfl))) (mvT hZ (hw _ (List.mem_of_getElem? (i := 42) rfl))) (by decide) (backOf (W := 0) (rmO lL Z a0 hw [] aa u4 T83.heap n0 Zn (own_Tf E_aa (hw _ (List.mem_of_getElem? (i := 3) rfl)))) hZ (hw _ (List.mem_of_getElem? (i := 42) rfl)) (hw _ (List.mem_of_getElem? (i := 24) rfl)) (by decide) (by decide)) (g := (mkF mM 192 #[.val (.int u0), .val (.int u1), .val (.int u2), .val (.int u3), .val (.int u4), .val (.int u5), .val (.ref aa), .val (.ref cc), .val (.ref ss), .val (.ref b80), .val (.ref aa), .val (.int (1 : Int32)), .val (.ref p83), .val (.ref ss), .val (.int (1 : Int32)), .unset, .unset, .unset, .unset, .unset, .unset] [(.int u4), (.ref aa)])) rfl (by rw [hml]; rfl) (argsL := [(.ref aa), (.int u4)]) (rest := []) (lenOf pd__28Ljava_2flang_2fObject_3bI_29Lcom_2fexample_2flibttl_2flibttl_2fKey_3b rfl) rfl (by show 2 * 0 + _ ≤ _; exact Nat.le_of_eq rfl) (hb hby at_192) (fun _ _ => ⟨rfl, e84, (by decide : 10 + 1 ≤ _), (by decide : 70 + 3 ≤ _)⟩)
  dsimp only [Pt.U, Pt.locs, Pt.cells, Pt.slots] at X85 l85 y85 z85 st85 hQ85
  subst l85 y85 z85
  obtain ⟨p85, rfl, N85q, E85, x85, kf85⟩ := hQ85
  have N85 := Fr.app N84 N85q
  have e85 : T85.heap = T85.heap := rfl
  refine own_stW (A := T85.setTop (mkF mM 195 #[.val (.int u0), .val (.int u1), .val (.int u2), .val (.int u3), .val (.int u4), .val (.int u5), .val (.ref aa), .val (.ref cc), .val (.ref ss), .val (.ref b80), .val (.ref aa), .val (.int (1 : Int32)), .val (.ref p83), .val (.ref ss), .val (.int (1 : Int32)), .unset, .unset, .unset, .unset, .unset, .unset] [(.ref p85)])) (fun tT_ kK_ => st85 tT_ kK_) ?_
  have E_aa := E_aa.ext E85
  have E_ss := E_ss.ext E85
  have E_b80 := E_b80.ext E85
  have E_p83 := E_p83.ext E85
  have hk := Nat.le_trans hk E85.1
  have Zn := Nat.le_trans Zn E85.1
  have E_p85 := x85
  refine own_stW (A := T85.setTop (mkF mM 197 #[.val (.int u0), .val (.int u1), .val (.int u2), .val (.int u3), .val (.int u4), .val (.int u5), .val (.ref aa), .val (.ref cc), .val (.ref ss), .val (.ref b80), .val (.ref aa), .val (.int (1 : Int32)), .val (.ref p83), .val (.ref ss), .val (.int (1 : Int32)), .val (.ref p85), .unset, .unset, .unset, .unset, .unset] [])) (fun tT_ kK_ => XS.astore X85.here hx rfl (hb hby at_195) rfl rfl (l' := #[.val (.int u0), .val (.int u1), .val (.int u2), .val (.int u3), .val (.int u4), .val (.int u5), .val (.ref aa), .val (.ref cc), .val (.ref ss), .val (.ref b80), .val (.ref aa), .val (.int (1 : Int32)), .val (.ref p83), .val (.ref ss), .val (.int (1 : Int32)), .val (.ref p85), .unset, .unset, .unset, .unset, .unset]) rfl kK_) ?_
  refine own_stW (A := T85.setTop (mkF mM 199 #[.val (.int u0), .val (.int u1), .val (.int u2), .val (.int u3), .val (.int u4), .val (.int u5), .val (.ref aa), .val (.ref cc), .val (.ref ss), .val (.ref b80), .val (.ref aa), .val (.int (1 : Int32)), .val (.ref p83), .val (.ref ss), .val (.int (1 : Int32)), .val (.ref p85), .unset, .unset, .unset, .unset, .unset] [(.ref p85)])) (fun tT_ kK_ => XS.aload X85.here hx rfl (hb hby at_197) rfl rfl kK_) ?_
  obtain ⟨cq86, kq86, q86a, q86b, q86c⟩ := isOf hZ e85 E_p85
  obtain ⟨_, _, ⟨T86, L86, k86, n86⟩, -, X86, ⟨Lc86, hQ86, l86, y86, z86⟩, st86⟩ := X85.virtualBack hx (y := (⟨"com/example/libttl/libttl/Key", "form", "()Ljava/lang/Object;"⟩ : MethodName)) (z := (⟨"com/example/libttl/libttl/Key", "form", "()Ljava/lang/Object;"⟩ : MethodName)) hown (mvT hZ (hw _ (List.mem_of_getElem? (i := 35) rfl))) (mvT hZ (hw _ (List.mem_of_getElem? (i := 36) rfl))) (notFace_of_selects (args := #[]) (mvT hZ (hw _ (List.mem_of_getElem? (i := 38) rfl)))) (mvT hZ (hw _ (List.mem_of_getElem? (i := 38) rfl))) (mvT hZ (hw _ (List.mem_of_getElem? (i := 37) rfl))) (by decide) (backOf (W := 0) (rmF lL Z a0 hw [] p85 aa T85.heap n0 kf85) hZ (hw _ (List.mem_of_getElem? (i := 39) rfl)) (hw _ (List.mem_of_getElem? (i := 24) rfl)) (by decide) (by decide)) q86a q86c (g := (mkF mM 199 #[.val (.int u0), .val (.int u1), .val (.int u2), .val (.int u3), .val (.int u4), .val (.int u5), .val (.ref aa), .val (.ref cc), .val (.ref ss), .val (.ref b80), .val (.ref aa), .val (.int (1 : Int32)), .val (.ref p83), .val (.ref ss), .val (.int (1 : Int32)), .val (.ref p85), .unset, .unset, .unset, .unset, .unset] [(.ref p85)])) rfl (by rw [hml]; rfl) (Steps.refl _) (argsL := []) (rest := []) (lenOf pd__28_29Ljava_2flang_2fObject_3b rfl) rfl (by show 2 * 0 + _ ≤ _; exact Nat.le_of_eq rfl) (hb hby at_199) (fun _ _ => ⟨rfl, e85, (by decide : 11 + 0 ≤ _), (by decide : 73 + 0 ≤ _)⟩)
  dsimp only [Pt.U, Pt.locs, Pt.cells, Pt.slots] at X86 l86 y86 z86 st86 hQ86
  subst l86 y86 z86
  obtain ⟨rfl, N86q, e86⟩ := hQ86
  have N86 := Fr.app N85 N86q
  refine own_stW (A := T86.setTop (mkF mM 202 #[.val (.int u0), .val (.int u1), .val (.int u2), .val (.int u3), .val (.int u4), .val (.int u5), .val (.ref aa), .val (.ref cc), .val (.ref ss), .val (.ref b80), .val (.ref aa), .val (.int (1 : Int32)), .val (.ref p83), .val (.ref ss), .val (.int (1 : Int32)), .val (.ref p85), .unset, .unset, .unset, .unset, .unset] [(.ref aa)])) (fun tT_ kK_ => st86.trans kK_) ?_
  refine own_stW (A := T86.setTop (mkF mM 204 #[.val (.int u0), .val (.int u1), .val (.int u2), .val (.int u3), .val (.int u4), .val (.int u5), .val (.ref aa), .val (.ref cc), .val (.ref ss), .val (.ref b80), .val (.ref aa), .val (.int (1 : Int32)), .val (.ref p83), .val (.ref ss), .val (.int (1 : Int32)), .val (.ref p85), .val (.ref aa), .unset, .unset, .unset, .unset] [])) (fun tT_ kK_ => XS.astore X86.here hx rfl (hb hby at_202) rfl rfl (l' := #[.val (.int u0), .val (.int u1), .val (.int u2), .val (.int u3), .val (.int u4), .val (.int u5), .val (.ref aa), .val (.ref cc), .val (.ref ss), .val (.ref b80), .val (.ref aa), .val (.int (1 : Int32)), .val (.ref p83), .val (.ref ss), .val (.int (1 : Int32)), .val (.ref p85), .val (.ref aa), .unset, .unset, .unset, .unset]) rfl kK_) ?_
  refine own_stW (A := T86.setTop (mkF mM 206 #[.val (.int u0), .val (.int u1), .val (.int u2), .val (.int u3), .val (.int u4), .val (.int u5), .val (.ref aa), .val (.ref cc), .val (.ref ss), .val (.ref b80), .val (.ref aa), .val (.int (1 : Int32)), .val (.ref p83), .val (.ref ss), .val (.int (1 : Int32)), .val (.ref p85), .val (.ref aa), .unset, .unset, .unset, .unset] [(.ref aa)])) (fun tT_ kK_ => XS.aload X86.here hx rfl (hb hby at_204) rfl rfl kK_) ?_
  refine own_stW (A := T86.setTop (mkF mM 208 #[.val (.int u0), .val (.int u1), .val (.int u2), .val (.int u3), .val (.int u4), .val (.int u5), .val (.ref aa), .val (.ref cc), .val (.ref ss), .val (.ref b80), .val (.ref aa), .val (.int (1 : Int32)), .val (.ref p83), .val (.ref ss), .val (.int (1 : Int32)), .val (.ref p85), .val (.ref aa), .unset, .unset, .unset, .unset] [(.ref aa), (.ref aa)])) (fun tT_ kK_ => XS.aload X86.here hx rfl (hb hby at_206) rfl rfl kK_) ?_
  refine own_stW (A := T86.setTop (mkF mM 211 #[.val (.int u0), .val (.int u1), .val (.int u2), .val (.int u3), .val (.int u4), .val (.int u5), .val (.ref aa), .val (.ref cc), .val (.ref ss), .val (.ref b80), .val (.ref aa), .val (.int (1 : Int32)), .val (.ref p83), .val (.ref ss), .val (.int (1 : Int32)), .val (.ref p85), .val (.ref aa), .unset, .unset, .unset, .unset] [])) (fun tT_ kK_ => Jvm.RoadKit.acmp X86 hx rfl (x := (.ref aa)) (y := (.ref aa)) rfl rfl (pc0 := 208) (pc' := 211) (same := true) rfl (hb hby at_208) rfl (decide_eq_true rfl) (by decide) (by decide) kK_) ?_
  refine own_stW (A := T86.setTop (mkF mM 212 #[.val (.int u0), .val (.int u1), .val (.int u2), .val (.int u3), .val (.int u4), .val (.int u5), .val (.ref aa), .val (.ref cc), .val (.ref ss), .val (.ref b80), .val (.ref aa), .val (.int (1 : Int32)), .val (.ref p83), .val (.ref ss), .val (.int (1 : Int32)), .val (.ref p85), .val (.ref aa), .unset, .unset, .unset, .unset] [(.int (1 : Int32))])) (fun tT_ kK_ => XS.iconst X86.here hx rfl (hb hby at_211) kK_) ?_
  refine own_stW (A := T86.setTop (mkF mM 216 #[.val (.int u0), .val (.int u1), .val (.int u2), .val (.int u3), .val (.int u4), .val (.int u5), .val (.ref aa), .val (.ref cc), .val (.ref ss), .val (.ref b80), .val (.ref aa), .val (.int (1 : Int32)), .val (.ref p83), .val (.ref ss), .val (.int (1 : Int32)), .val (.ref p85), .val (.ref aa), .unset, .unset, .unset, .unset] [(.int (1 : Int32))])) (fun tT_ kK_ => XS.goto X86.here hx rfl (pc0 := 212) (pc' := 216) rfl (hb hby at_212) (by decide) (by decide) kK_) ?_
  refine own_stW (A := T86.setTop (mkF mM 218 #[.val (.int u0), .val (.int u1), .val (.int u2), .val (.int u3), .val (.int u4), .val (.int u5), .val (.ref aa), .val (.ref cc), .val (.ref ss), .val (.ref b80), .val (.ref aa), .val (.int (1 : Int32)), .val (.ref p83), .val (.ref ss), .val (.int (1 : Int32)), .val (.ref p85), .val (.ref aa), .val (.int (1 : Int32)), .unset, .unset, .unset] [])) (fun tT_ kK_ => XS.istore X86.here hx rfl (hb hby at_216) rfl (l' := #[.val (.int u0), .val (.int u1), .val (.int u2), .val (.int u3), .val (.int u4), .val (.int u5), .val (.ref aa), .val (.ref cc), .val (.ref ss), .val (.ref b80), .val (.ref aa), .val (.int (1 : Int32)), .val (.ref p83), .val (.ref ss), .val (.int (1 : Int32)), .val (.ref p85), .val (.ref aa), .val (.int (1 : Int32)), .unset, .unset, .unset]) rfl kK_) ?_
  refine own_stW (A := T86.setTop (mkF mM 220 #[.val (.int u0), .val (.int u1), .val (.int u2), .val (.int u3), .val (.int u4), .val (.int u5), .val (.ref aa), .val (.ref cc), .val (.ref ss), .val (.ref b80), .val (.ref aa), .val (.int (1 : Int32)), .val (.ref p83), .val (.ref ss), .val (.int (1 : Int32)), .val (.ref p85), .val (.ref aa), .val (.int (1 : Int32)), .unset, .unset, .unset] [(.ref ss)])) (fun tT_ kK_ => XS.aload X86.here hx rfl (hb hby at_218) rfl rfl kK_) ?_
  refine own_stW (A := T86.setTop (mkF mM 222 #[.val (.int u0), .val (.int u1), .val (.int u2), .val (.int u3), .val (.int u4), .val (.int u5), .val (.ref aa), .val (.ref cc), .val (.ref ss), .val (.ref b80), .val (.ref aa), .val (.int (1 : Int32)), .val (.ref p83), .val (.ref ss), .val (.int (1 : Int32)), .val (.ref p85), .val (.ref aa), .val (.int (1 : Int32)), .unset, .unset, .unset] [(.int u5), (.ref ss)])) (fun tT_ kK_ => XS.iload X86.here hx rfl (hb hby at_220) rfl kK_) ?_
  obtain ⟨_, _, ⟨T87, L87, k87, n87⟩, -, X87, ⟨Lc87, hQ87, l87, y87, z87⟩, st87⟩ := Jvm.LawKit.callS X86 hx (y := (⟨"com/example/libttl/libttl/Key", "ofForm", "(Ljava/lang/Object;I)Lcom/example/libttl/libttl/Key;"⟩ : MethodName)) hown (mvT hZ (hw _ (List.mem_of_getElem? (i := 40) rfl))) (mvT hZ (hw _ (List.mem_of_getElem? (i := 41) rfl))) (mvT hZ (hw _ (List.mem_of_getElem? (i := 24) rfl))) (mvT hZ (hw _ (List.mem_of_getElem? (i := 42) rfl))) (by decide) (backOf (W := 0) (rmO lL Z a0 hw [] ss u5 T85.heap n0 Zn (Or.inl (Ins.self E_ss))) hZ (hw _ (List.mem_of_getElem? (i := 42) rfl)) (hw _ (List.mem_of_getElem? (i := 24) rfl)) (by decide) (by decide)) (g := (mkF mM 222 #[.val (.int u0), .val (.int u1), .val (.int u2), .val (.int u3), .val (.int u4), .val (.int u5), .val (.ref aa), .val (.ref cc), .val (.ref ss), .val (.ref b80), .val (.ref aa), .val (.int (1 : Int32)), .val (.ref p83), .val (.ref ss), .val (.int (1 : Int32)), .val (.ref p85), .val (.ref aa), .val (.int (1 : Int32)), .unset, .unset, .unset] [(.int u5), (.ref ss)])) rfl (by rw [hml]; rfl) (argsL := [(.ref ss), (.int u5)]) (rest := []) (lenOf pd__28Ljava_2flang_2fObject_3bI_29Lcom_2fexample_2flibttl_2flibttl_2fKey_3b rfl) rfl (by show 2 * 0 + _ ≤ _; exact Nat.le_of_eq rfl) (hb hby at_222) (fun _ _ => ⟨rfl, e86, (by decide : 11 + 1 ≤ _), (by decide : 73 + 3 ≤ _)⟩)
  dsimp only [Pt.U, Pt.locs, Pt.cells, Pt.slots] at X87 l87 y87 z87 st87 hQ87
  subst l87 y87 z87
  obtain ⟨p87, rfl, N87q, E87, x87, kf87⟩ := hQ87
  have N87 := Fr.app N86 N87q
  have e87 : T87.heap = T87.heap := rfl
  refine own_stW (A := T87.setTop (mkF mM 225 #[.val (.int u0), .val (.int u1), .val (.int u2), .val (.int u3), .val (.int u4), .val (.int u5), .val (.ref aa), .val (.ref cc), .val (.ref ss), .val (.ref b80), .val (.ref aa), .val (.int (1 : Int32)), .val (.ref p83), .val (.ref ss), .val (.int (1 : Int32)), .val (.ref p85), .val (.ref aa), .val (.int (1 : Int32)), .unset, .unset, .unset] [(.ref p87)])) (fun tT_ kK_ => st87 tT_ kK_) ?_
  have E_aa := E_aa.ext E87
  have E_ss := E_ss.ext E87
  have E_b80 := E_b80.ext E87
  have E_p83 := E_p83.ext E87
  have E_p85 := E_p85.ext E87
  have hk := Nat.le_trans hk E87.1
  have Zn := Nat.le_trans Zn E87.1
  have E_p87 := x87
  refine own_stW (A := T87.setTop (mkF mM 227 #[.val (.int u0), .val (.int u1), .val (.int u2), .val (.int u3), .val (.int u4), .val (.int u5), .val (.ref aa), .val (.ref cc), .val (.ref ss), .val (.ref b80), .val (.ref aa), .val (.int (1 : Int32)), .val (.ref p83), .val (.ref ss), .val (.int (1 : Int32)), .val (.ref p85), .val (.ref aa), .val (.int (1 : Int32)), .val (.ref p87), .unset, .unset] [])) (fun tT_ kK_ => XS.astore X87.here hx rfl (hb hby at_225) rfl rfl (l' := #[.val (.int u0), .val (.int u1), .val (.int u2), .val (.int u3), .val (.int u4), .val (.int u5), .val (.ref aa), .val (.ref cc), .val (.ref ss), .val (.ref b80), .val (.ref aa), .val (.int (1 : Int32)), .val (.ref p83), .val (.ref ss), .val (.int (1 : Int32)), .val (.ref p85), .val (.ref aa), .val (.int (1 : Int32)), .val (.ref p87), .unset, .unset]) rfl kK_) ?_
  refine own_stW (A := T87.setTop (mkF mM 229 #[.val (.int u0), .val (.int u1), .val (.int u2), .val (.int u3), .val (.int u4), .val (.int u5), .val (.ref aa), .val (.ref cc), .val (.ref ss), .val (.ref b80), .val (.ref aa), .val (.int (1 : Int32)), .val (.ref p83), .val (.ref ss), .val (.int (1 : Int32)), .val (.ref p85), .val (.ref aa), .val (.int (1 : Int32)), .val (.ref p87), .unset, .unset] [(.ref p87)])) (fun tT_ kK_ => XS.aload X87.here hx rfl (hb hby at_227) rfl rfl kK_) ?_
  obtain ⟨cq88, kq88, q88a, q88b, q88c⟩ := isOf hZ e87 E_p87
  obtain ⟨_, _, ⟨T88, L88, k88, n88⟩, -, X88, ⟨Lc88, hQ88, l88, y88, z88⟩, st88⟩ := X87.virtualBack hx (y := (⟨"com/example/libttl/libttl/Key", "form", "()Ljava/lang/Object;"⟩ : MethodName)) (z := (⟨"com/example/libttl/libttl/Key", "form", "()Ljava/lang/Object;"⟩ : MethodName)) hown (mvT hZ (hw _ (List.mem_of_getElem? (i := 35) rfl))) (mvT hZ (hw _ (List.mem_of_getElem? (i := 36) rfl))) (notFace_of_selects (args := #[]) (mvT hZ (hw _ (List.mem_of_getElem? (i := 38) rfl)))) (mvT hZ (hw _ (List.mem_of_getElem? (i := 38) rfl))) (mvT hZ (hw _ (List.mem_of_getElem? (i := 37) rfl))) (by decide) (backOf (W := 0) (rmF lL Z a0 hw [] p87 ss T87.heap n0 kf87) hZ (hw _ (List.mem_of_getElem? (i := 39) rfl)) (hw _ (List.mem_of_getElem? (i := 24) rfl)) (by decide) (by decide)) q88a q88c (g := (mkF mM 229 #[.val (.int u0), .val (.int u1), .val (.int u2), .val (.int u3), .val (.int u4), .val (.int u5), .val (.ref aa), .val (.ref cc), .val (.ref ss), .val (.ref b80), .val (.ref aa), .val (.int (1 : Int32)), .val (.ref p83), .val (.ref ss), .val (.int (1 : Int32)), .val (.ref p85), .val (.ref aa), .val (.int (1 : Int32)), .val (.ref p87), .unset, .unset] [(.ref p87)])) rfl (by rw [hml]; rfl) (Steps.refl _) (argsL := []) (rest := []) (lenOf pd__28_29Ljava_2flang_2fObject_3b rfl) rfl (by show 2 * 0 + _ ≤ _; exact Nat.le_of_eq rfl) (hb hby at_229) (fun _ _ => ⟨rfl, e87, (by decide : 12 + 0 ≤ _), (by decide : 76 + 0 ≤ _)⟩)
  dsimp only [Pt.U, Pt.locs, Pt.cells, Pt.slots] at X88 l88 y88 z88 st88 hQ88
  subst l88 y88 z88
  obtain ⟨rfl, N88q, e88⟩ := hQ88
  have N88 := Fr.app N87 N88q
  refine own_stW (A := T88.setTop (mkF mM 232 #[.val (.int u0), .val (.int u1), .val (.int u2), .val (.int u3), .val (.int u4), .val (.int u5), .val (.ref aa), .val (.ref cc), .val (.ref ss), .val (.ref b80), .val (.ref aa), .val (.int (1 : Int32)), .val (.ref p83), .val (.ref ss), .val (.int (1 : Int32)), .val (.ref p85), .val (.ref aa), .val (.int (1 : Int32)), .val (.ref p87), .unset, .unset] [(.ref ss)])) (fun tT_ kK_ => st88.trans kK_) ?_
  refine own_stW (A := T88.setTop (mkF mM 234 #[.val (.int u0), .val (.int u1), .val (.int u2), .val (.int u3), .val (.int u4), .val (.int u5), .val (.ref aa), .val (.ref cc), .val (.ref ss), .val (.ref b80), .val (.ref aa), .val (.int (1 : Int32)), .val (.ref p83), .val (.ref ss), .val (.int (1 : Int32)), .val (.ref p85), .val (.ref aa), .val (.int (1 : Int32)), .val (.ref p87), .val (.ref ss), .unset] [])) (fun tT_ kK_ => XS.astore X88.here hx rfl (hb hby at_232) rfl rfl (l' := #[.val (.int u0), .val (.int u1), .val (.int u2), .val (.int u3), .val (.int u4), .val (.int u5), .val (.ref aa), .val (.ref cc), .val (.ref ss), .val (.ref b80), .val (.ref aa), .val (.int (1 : Int32)), .val (.ref p83), .val (.ref ss), .val (.int (1 : Int32)), .val (.ref p85), .val (.ref aa), .val (.int (1 : Int32)), .val (.ref p87), .val (.ref ss), .unset]) rfl kK_) ?_
  refine own_stW (A := T88.setTop (mkF mM 236 #[.val (.int u0), .val (.int u1), .val (.int u2), .val (.int u3), .val (.int u4), .val (.int u5), .val (.ref aa), .val (.ref cc), .val (.ref ss), .val (.ref b80), .val (.ref aa), .val (.int (1 : Int32)), .val (.ref p83), .val (.ref ss), .val (.int (1 : Int32)), .val (.ref p85), .val (.ref aa), .val (.int (1 : Int32)), .val (.ref p87), .val (.ref ss), .unset] [(.ref ss)])) (fun tT_ kK_ => XS.aload X88.here hx rfl (hb hby at_234) rfl rfl kK_) ?_
  refine own_stW (A := T88.setTop (mkF mM 238 #[.val (.int u0), .val (.int u1), .val (.int u2), .val (.int u3), .val (.int u4), .val (.int u5), .val (.ref aa), .val (.ref cc), .val (.ref ss), .val (.ref b80), .val (.ref aa), .val (.int (1 : Int32)), .val (.ref p83), .val (.ref ss), .val (.int (1 : Int32)), .val (.ref p85), .val (.ref aa), .val (.int (1 : Int32)), .val (.ref p87), .val (.ref ss), .unset] [(.ref ss), (.ref ss)])) (fun tT_ kK_ => XS.aload X88.here hx rfl (hb hby at_236) rfl rfl kK_) ?_
  refine own_stW (A := T88.setTop (mkF mM 241 #[.val (.int u0), .val (.int u1), .val (.int u2), .val (.int u3), .val (.int u4), .val (.int u5), .val (.ref aa), .val (.ref cc), .val (.ref ss), .val (.ref b80), .val (.ref aa), .val (.int (1 : Int32)), .val (.ref p83), .val (.ref ss), .val (.int (1 : Int32)), .val (.ref p85), .val (.ref aa), .val (.int (1 : Int32)), .val (.ref p87), .val (.ref ss), .unset] [])) (fun tT_ kK_ => Jvm.RoadKit.acmp X88 hx rfl (x := (.ref ss)) (y := (.ref ss)) rfl rfl (pc0 := 238) (pc' := 241) (same := true) rfl (hb hby at_238) rfl (decide_eq_true rfl) (by decide) (by decide) kK_) ?_
  refine own_stW (A := T88.setTop (mkF mM 242 #[.val (.int u0), .val (.int u1), .val (.int u2), .val (.int u3), .val (.int u4), .val (.int u5), .val (.ref aa), .val (.ref cc), .val (.ref ss), .val (.ref b80), .val (.ref aa), .val (.int (1 : Int32)), .val (.ref p83), .val (.ref ss), .val (.int (1 : Int32)), .val (.ref p85), .val (.ref aa), .val (.int (1 : Int32)), .val (.ref p87), .val (.ref ss), .unset] [(.int (1 : Int32))])) (fun tT_ kK_ => XS.iconst X88.here hx rfl (hb hby at_241) kK_) ?_
  refine own_stW (A := T88.setTop (mkF mM 246 #[.val (.int u0), .val (.int u1), .val (.int u2), .val (.int u3), .val (.int u4), .val (.int u5), .val (.ref aa), .val (.ref cc), .val (.ref ss), .val (.ref b80), .val (.ref aa), .val (.int (1 : Int32)), .val (.ref p83), .val (.ref ss), .val (.int (1 : Int32)), .val (.ref p85), .val (.ref aa), .val (.int (1 : Int32)), .val (.ref p87), .val (.ref ss), .unset] [(.int (1 : Int32))])) (fun tT_ kK_ => XS.goto X88.here hx rfl (pc0 := 242) (pc' := 246) rfl (hb hby at_242) (by decide) (by decide) kK_) ?_
  refine own_stW (A := T88.setTop (mkF mM 248 #[.val (.int u0), .val (.int u1), .val (.int u2), .val (.int u3), .val (.int u4), .val (.int u5), .val (.ref aa), .val (.ref cc), .val (.ref ss), .val (.ref b80), .val (.ref aa), .val (.int (1 : Int32)), .val (.ref p83), .val (.ref ss), .val (.int (1 : Int32)), .val (.ref p85), .val (.ref aa), .val (.int (1 : Int32)), .val (.ref p87), .val (.ref ss), .val (.int (1 : Int32))] [])) (fun tT_ kK_ => XS.istore X88.here hx rfl (hb hby at_246) rfl (l' := #[.val (.int u0), .val (.int u1), .val (.int u2), .val (.int u3), .val (.int u4), .val (.int u5), .val (.ref aa), .val (.ref cc), .val (.ref ss), .val (.ref b80), .val (.ref aa), .val (.int (1 : Int32)), .val (.ref p83), .val (.ref ss), .val (.int (1 : Int32)), .val (.ref p85), .val (.ref aa), .val (.int (1 : Int32)), .val (.ref p87), .val (.ref ss), .val (.int (1 : Int32))]) rfl kK_) ?_
  refine own_stW (A := T88.setTop (mkF mM 250 #[.val (.int u0), .val (.int u1), .val (.int u2), .val (.int u3), .val (.int u4), .val (.int u5), .val (.ref aa), .val (.ref cc), .val (.ref ss), .val (.ref b80), .val (.ref aa), .val (.int (1 : Int32)), .val (.ref p83), .val (.ref ss), .val (.int (1 : Int32)), .val (.ref p85), .val (.ref aa), .val (.int (1 : Int32)), .val (.ref p87), .val (.ref ss), .val (.int (1 : Int32))] [(.int (1 : Int32))])) (fun tT_ kK_ => XS.iload X88.here hx rfl (hb hby at_248) rfl kK_) ?_
  refine own_stW (A := T88.setTop (mkF mM 253 #[.val (.int u0), .val (.int u1), .val (.int u2), .val (.int u3), .val (.int u4), .val (.int u5), .val (.ref aa), .val (.ref cc), .val (.ref ss), .val (.ref b80), .val (.ref aa), .val (.int (1 : Int32)), .val (.ref p83), .val (.ref ss), .val (.int (1 : Int32)), .val (.ref p85), .val (.ref aa), .val (.int (1 : Int32)), .val (.ref p87), .val (.ref ss), .val (.int (1 : Int32))] [])) (fun tT_ kK_ => XS.ifNo X88.here hx rfl (hb hby at_250) rfl ((if0 _ _).trans (feq (by decide : ¬ ((1 : Int32) = (0 : Int32)))).1) kK_) ?_
  refine own_stW (A := T88.setTop (mkF mM 255 #[.val (.int u0), .val (.int u1), .val (.int u2), .val (.int u3), .val (.int u4), .val (.int u5), .val (.ref aa), .val (.ref cc), .val (.ref ss), .val (.ref b80), .val (.ref aa), .val (.int (1 : Int32)), .val (.ref p83), .val (.ref ss), .val (.int (1 : Int32)), .val (.ref p85), .val (.ref aa), .val (.int (1 : Int32)), .val (.ref p87), .val (.ref ss), .val (.int (1 : Int32))] [(.int (1 : Int32))])) (fun tT_ kK_ => XS.iload X88.here hx rfl (hb hby at_253) rfl kK_) ?_
  refine own_stW (A := T88.setTop (mkF mM 258 #[.val (.int u0), .val (.int u1), .val (.int u2), .val (.int u3), .val (.int u4), .val (.int u5), .val (.ref aa), .val (.ref cc), .val (.ref ss), .val (.ref b80), .val (.ref aa), .val (.int (1 : Int32)), .val (.ref p83), .val (.ref ss), .val (.int (1 : Int32)), .val (.ref p85), .val (.ref aa), .val (.int (1 : Int32)), .val (.ref p87), .val (.ref ss), .val (.int (1 : Int32))] [])) (fun tT_ kK_ => XS.ifNo X88.here hx rfl (hb hby at_255) rfl ((if0 _ _).trans (feq (by decide : ¬ ((1 : Int32) = (0 : Int32)))).1) kK_) ?_
  refine own_stW (A := T88.setTop (mkF mM 260 #[.val (.int u0), .val (.int u1), .val (.int u2), .val (.int u3), .val (.int u4), .val (.int u5), .val (.ref aa), .val (.ref cc), .val (.ref ss), .val (.ref b80), .val (.ref aa), .val (.int (1 : Int32)), .val (.ref p83), .val (.ref ss), .val (.int (1 : Int32)), .val (.ref p85), .val (.ref aa), .val (.int (1 : Int32)), .val (.ref p87), .val (.ref ss), .val (.int (1 : Int32))] [(.int (1 : Int32))])) (fun tT_ kK_ => XS.iload X88.here hx rfl (hb hby at_258) rfl kK_) ?_
  refine own_stW (A := T88.setTop (mkF mM 263 #[.val (.int u0), .val (.int u1), .val (.int u2), .val (.int u3), .val (.int u4), .val (.int u5), .val (.ref aa), .val (.ref cc), .val (.ref ss), .val (.ref b80), .val (.ref aa), .val (.int (1 : Int32)), .val (.ref p83), .val (.ref ss), .val (.int (1 : Int32)), .val (.ref p85), .val (.ref aa), .val (.int (1 : Int32)), .val (.ref p87), .val (.ref ss), .val (.int (1 : Int32))] [])) (fun tT_ kK_ => XS.ifNo X88.here hx rfl (hb hby at_260) rfl ((if0 _ _).trans (feq (by decide : ¬ ((1 : Int32) = (0 : Int32)))).1) kK_) ?_
  refine own_stW (A := T88.setTop (mkF mM 265 #[.val (.int u0), .val (.int u1), .val (.int u2), .val (.int u3), .val (.int u4), .val (.int u5), .val (.ref aa), .val (.ref cc), .val (.ref ss), .val (.ref b80), .val (.ref aa), .val (.int (1 : Int32)), .val (.ref p83), .val (.ref ss), .val (.int (1 : Int32)), .val (.ref p85), .val (.ref aa), .val (.int (1 : Int32)), .val (.ref p87), .val (.ref ss), .val (.int (1 : Int32))] [(.int (1 : Int32))])) (fun tT_ kK_ => XS.iload X88.here hx rfl (hb hby at_263) rfl kK_) ?_
  refine own_stW (A := T88.setTop (mkF mM 268 #[.val (.int u0), .val (.int u1), .val (.int u2), .val (.int u3), .val (.int u4), .val (.int u5), .val (.ref aa), .val (.ref cc), .val (.ref ss), .val (.ref b80), .val (.ref aa), .val (.int (1 : Int32)), .val (.ref p83), .val (.ref ss), .val (.int (1 : Int32)), .val (.ref p85), .val (.ref aa), .val (.int (1 : Int32)), .val (.ref p87), .val (.ref ss), .val (.int (1 : Int32))] [])) (fun tT_ kK_ => XS.ifNo X88.here hx rfl (hb hby at_265) rfl ((if0 _ _).trans (feq (by decide : ¬ ((1 : Int32) = (0 : Int32)))).1) kK_) ?_
  refine own_stW (A := T88.setTop (mkF mM 269 #[.val (.int u0), .val (.int u1), .val (.int u2), .val (.int u3), .val (.int u4), .val (.int u5), .val (.ref aa), .val (.ref cc), .val (.ref ss), .val (.ref b80), .val (.ref aa), .val (.int (1 : Int32)), .val (.ref p83), .val (.ref ss), .val (.int (1 : Int32)), .val (.ref p85), .val (.ref aa), .val (.int (1 : Int32)), .val (.ref p87), .val (.ref ss), .val (.int (1 : Int32))] [(.int (1 : Int32))])) (fun tT_ kK_ => XS.iconst X88.here hx rfl (hb hby at_268) kK_) ?_
  refine own_stW (A := T88.setTop (mkF mM 273 #[.val (.int u0), .val (.int u1), .val (.int u2), .val (.int u3), .val (.int u4), .val (.int u5), .val (.ref aa), .val (.ref cc), .val (.ref ss), .val (.ref b80), .val (.ref aa), .val (.int (1 : Int32)), .val (.ref p83), .val (.ref ss), .val (.int (1 : Int32)), .val (.ref p85), .val (.ref aa), .val (.int (1 : Int32)), .val (.ref p87), .val (.ref ss), .val (.int (1 : Int32))] [(.int (1 : Int32))])) (fun tT_ kK_ => XS.goto X88.here hx rfl (pc0 := 269) (pc' := 273) rfl (hb hby at_269) (by decide) (by decide) kK_) ?_
  exact own_retWN X88 hx hlk hS (by rw [e88]; exact hk) (t := .boolean) hret (by simp) (hb hby at_273) ⟨rfl, N88⟩ (by decide) (by decide)
theorem pd__28_5bC_29V : parseMethodDescriptor "([C)V" = some ⟨[(.array .char)], none⟩ := by decide +kernel
set_option maxRecDepth 65536 in
set_option maxHeartbeats 40000000 in
theorem J53_0 {pP : Program} {lL : Launch} {eE : Env} {sS : State} {mM : MethodId} {args : Array Value} {below : List Frame} {meth : Method} {cC : Code} {T0 : State} {locs : List Loc} {Z : State} {a0 : Array Value} {h0 : Heap} {n0 : Nat} {vmV : Vm} (hw : ∀ d ∈ tables_1, d.before a0 Z = true) (X0 : Stand pP lL eE room_1 (sS.setVm vmV) mM args below meth cC T0 locs 1 3) (hx : pP.tables.exec = Jvm.exec) (hZ : Z.Warmed39 (sS.setVm vmV).vm) (hby : cC.code = code) (hml : cC.maxLocals = 21) (hown : (sS.setVm vmV).vm.findClass "com/example/libttl/libttl/KeyFormPinLaw" = some mM.cls) (hlk : meth.locks = false) (hret : meth.sig.returnType = ret) {kV : Nat} (hS : sS.Since vmV kV) (hk : kV ≤ h0.size) (e0 : T0.heap = h0) (N0 : Fr n0 locs) (u0 : Int32) (u1 : Int32) (u2 : Int32) (u3 : Int32) (u4 : Int32) (u5 : Int32) (aa : Addr) (cs : Int32) (E_aa : Exa Z h0 aa "[B") (O : Old Z n0 h0) (Zn : n0 ≤ h0.size) (S_cs : Sta Z Z.heap "java/lang/String" "COMPACT_STRINGS" "Z" (.int cs)) (hcs : ¬ cs = (0 : Int32)) (hcw : Jvm.Lit.compactW.before a0 Z = true) (hheld : Jvm.Lit.constHeld Z "java/lang/String" 7) (hI : vmV.interned = Z.vm.interned) :
    own_GoW pP eE below sS (QLaw n0) 32 1152 (T0.setTop (mkF mM 53 #[.val (.int u0), .val (.int u1), .val (.int u2), .val (.int u3), .val (.int u4), .val (.int u5), .val (.ref aa), .unset, .unset, .unset, .unset, .unset, .unset, .unset, .unset, .unset, .unset, .unset, .unset, .unset, .unset] [(.int (0 : Int32))])) := by
  obtain ⟨T89, h89, k89, X89, e89, E89, A89, st89⟩ := newP X0 hx hZ (hw _ (List.mem_of_getElem? (i := 1) rfl)) e0 (g := (mkF mM 53 #[.val (.int u0), .val (.int u1), .val (.int u2), .val (.int u3), .val (.int u4), .val (.int u5), .val (.ref aa), .unset, .unset, .unset, .unset, .unset, .unset, .unset, .unset, .unset, .unset, .unset, .unset, .unset, .unset] [(.int (0 : Int32))])) rfl (hb hby at_53) rfl (by decide) (cap := 0) (by decide) (by decide) (by decide) (by decide)
  obtain ⟨b89, g89⟩ : ∃ z, z = h0.size := ⟨_, rfl⟩
  rw [← g89] at A89 st89
  have ne_aa_b89 : aa ≠ b89 := Nat.ne_of_lt (Nat.lt_of_lt_of_le E_aa.lt (Nat.le_of_eq g89.symm))
  have g_b89 : n0 ≤ b89 := Nat.le_trans Zn (Nat.le_of_eq g89.symm)
  have E_aa := E_aa.ext E89
  have O := O.ext E89
  have hk := Nat.le_trans hk E89.1
  have Zn := Nat.le_trans Zn E89.1
  have A_b89 : Arv Z h89 b89 k89 .char 0 [] (.int (0 : Int32)) := (Arv.new A89 (by decide)).pad (pad_rep [] (.int (0 : Int32)) 0)
  refine own_stW (A := T89.setTop (mkF mM 55 #[.val (.int u0), .val (.int u1), .val (.int u2), .val (.int u3), .val (.int u4), .val (.int u5), .val (.ref aa), .unset, .unset, .unset, .unset, .unset, .unset, .unset, .unset, .unset, .unset, .unset, .unset, .unset, .unset] [(.ref b89)])) (fun tT_ kK_ => st89 tT_ kK_) ?_
  refine own_stW (A := T89.setTop (mkF mM 57 #[.val (.int u0), .val (.int u1), .val (.int u2), .val (.int u3), .val (.int u4), .val (.int u5), .val (.ref aa), .val (.ref b89), .unset, .unset, .unset, .unset, .unset, .unset, .unset, .unset, .unset, .unset, .unset, .unset, .unset] [])) (fun tT_ kK_ => XS.astore X89.here hx rfl (hb hby at_55) rfl rfl (l' := #[.val (.int u0), .val (.int u1), .val (.int u2), .val (.int u3), .val (.int u4), .val (.int u5), .val (.ref aa), .val (.ref b89), .unset, .unset, .unset, .unset, .unset, .unset, .unset, .unset, .unset, .unset, .unset, .unset, .unset]) rfl kK_) ?_
  refine own_stW (A := T89.setTop (mkF mM 59 #[.val (.int u0), .val (.int u1), .val (.int u2), .val (.int u3), .val (.int u4), .val (.int u5), .val (.ref aa), .val (.ref b89), .unset, .unset, .unset, .unset, .unset, .unset, .unset, .unset, .unset, .unset, .unset, .unset, .unset] [(.ref b89)])) (fun tT_ kK_ => XS.aload X89.here hx rfl (hb hby at_57) rfl rfl kK_) ?_
  obtain ⟨cl90, Ar90, q90, S90, Nn90, H90, G90⟩ := id A_b89
  refine own_stW (A := T89.setTop (mkF mM 60 #[.val (.int u0), .val (.int u1), .val (.int u2), .val (.int u3), .val (.int u4), .val (.int u5), .val (.ref aa), .val (.ref b89), .unset, .unset, .unset, .unset, .unset, .unset, .unset, .unset, .unset, .unset, .unset, .unset, .unset] [(.int (0 : Int32))])) (fun tT_ kK_ => X89.arraylength hx (by rw [e89]; exact Ar90.1) (State.isArrayOf_alike hZ.alike Ar90.2.1) (g := (mkF mM 59 #[.val (.int u0), .val (.int u1), .val (.int u2), .val (.int u3), .val (.int u4), .val (.int u5), .val (.ref aa), .val (.ref b89), .unset, .unset, .unset, .unset, .unset, .unset, .unset, .unset, .unset, .unset, .unset, .unset, .unset] [(.ref b89)])) rfl rfl (hb hby at_59) tT_ (by rw [len_of S90 Nn90]; exact kK_)) ?_
  refine own_stW (A := T89.setTop (mkF mM 73 #[.val (.int u0), .val (.int u1), .val (.int u2), .val (.int u3), .val (.int u4), .val (.int u5), .val (.ref aa), .val (.ref b89), .unset, .unset, .unset, .unset, .unset, .unset, .unset, .unset, .unset, .unset, .unset, .unset, .unset] [])) (fun tT_ kK_ => XS.ifYes X89.here hx rfl (pc0 := 60) (pc' := 73) rfl (hb hby at_60) rfl ((if0 _ _).trans (flt (by decide : ¬ ((0 : Int32) < (0 : Int32)))).2.2.2) (by decide) (by decide) kK_) ?_
  refine own_stW (A := T89.setTop (mkF mM 75 #[.val (.int u0), .val (.int u1), .val (.int u2), .val (.int u3), .val (.int u4), .val (.int u5), .val (.ref aa), .val (.ref b89), .unset, .unset, .unset, .unset, .unset, .unset, .unset, .unset, .unset, .unset, .unset, .unset, .unset] [(.ref b89)])) (fun tT_ kK_ => XS.aload X89.here hx rfl (hb hby at_73) rfl rfl kK_) ?_
  obtain ⟨cl91, Ar91, q91, S91, Nn91, H91, G91⟩ := id A_b89
  refine own_stW (A := T89.setTop (mkF mM 76 #[.val (.int u0), .val (.int u1), .val (.int u2), .val (.int u3), .val (.int u4), .val (.int u5), .val (.ref aa), .val (.ref b89), .unset, .unset, .unset, .unset, .unset, .unset, .unset, .unset, .unset, .unset, .unset, .unset, .unset] [(.int (0 : Int32))])) (fun tT_ kK_ => X89.arraylength hx (by rw [e89]; exact Ar91.1) (State.isArrayOf_alike hZ.alike Ar91.2.1) (g := (mkF mM 75 #[.val (.int u0), .val (.int u1), .val (.int u2), .val (.int u3), .val (.int u4), .val (.int u5), .val (.ref aa), .val (.ref b89), .unset, .unset, .unset, .unset, .unset, .unset, .unset, .unset, .unset, .unset, .unset, .unset, .unset] [(.ref b89)])) rfl rfl (hb hby at_75) tT_ (by rw [len_of S91 Nn91]; exact kK_)) ?_
  refine own_stW (A := T89.setTop (mkF mM 77 #[.val (.int u0), .val (.int u1), .val (.int u2), .val (.int u3), .val (.int u4), .val (.int u5), .val (.ref aa), .val (.ref b89), .unset, .unset, .unset, .unset, .unset, .unset, .unset, .unset, .unset, .unset, .unset, .unset, .unset] [(.int (1 : Int32)), (.int (0 : Int32))])) (fun tT_ kK_ => XS.iconst X89.here hx rfl (hb hby at_76) kK_) ?_
  refine own_stW (A := T89.setTop (mkF mM 93 #[.val (.int u0), .val (.int u1), .val (.int u2), .val (.int u3), .val (.int u4), .val (.int u5), .val (.ref aa), .val (.ref b89), .unset, .unset, .unset, .unset, .unset, .unset, .unset, .unset, .unset, .unset, .unset, .unset, .unset] [])) (fun tT_ kK_ => XS.icmpYes X89.here hx rfl (pc0 := 77) (pc' := 93) rfl (hb hby at_77) rfl (flt (by decide : ¬ ((1 : Int32) < (0 : Int32)))).2.2.2 (by decide) (by decide) kK_) ?_
  refine own_stW (A := T89.setTop (mkF mM 95 #[.val (.int u0), .val (.int u1), .val (.int u2), .val (.int u3), .val (.int u4), .val (.int u5), .val (.ref aa), .val (.ref b89), .unset, .unset, .unset, .unset, .unset, .unset, .unset, .unset, .unset, .unset, .unset, .unset, .unset] [(.ref b89)])) (fun tT_ kK_ => XS.aload X89.here hx rfl (hb hby at_93) rfl rfl kK_) ?_
  obtain ⟨cl92, Ar92, q92, S92, Nn92, H92, G92⟩ := id A_b89
  refine own_stW (A := T89.setTop (mkF mM 96 #[.val (.int u0), .val (.int u1), .val (.int u2), .val (.int u3), .val (.int u4), .val (.int u5), .val (.ref aa), .val (.ref b89), .unset, .unset, .unset, .unset, .unset, .unset, .unset, .unset, .unset, .unset, .unset, .unset, .unset] [(.int (0 : Int32))])) (fun tT_ kK_ => X89.arraylength hx (by rw [e89]; exact Ar92.1) (State.isArrayOf_alike hZ.alike Ar92.2.1) (g := (mkF mM 95 #[.val (.int u0), .val (.int u1), .val (.int u2), .val (.int u3), .val (.int u4), .val (.int u5), .val (.ref aa), .val (.ref b89), .unset, .unset, .unset, .unset, .unset, .unset, .unset, .unset, .unset, .unset, .unset, .unset, .unset] [(.ref b89)])) rfl rfl (hb hby at_95) tT_ (by rw [len_of S92 Nn92]; exact kK_)) ?_
  refine own_stW (A := T89.setTop (mkF mM 97 #[.val (.int u0), .val (.int u1), .val (.int u2), .val (.int u3), .val (.int u4), .val (.int u5), .val (.ref aa), .val (.ref b89), .unset, .unset, .unset, .unset, .unset, .unset, .unset, .unset, .unset, .unset, .unset, .unset, .unset] [(.int (2 : Int32)), (.int (0 : Int32))])) (fun tT_ kK_ => XS.iconst X89.here hx rfl (hb hby at_96) kK_) ?_
  refine own_stW (A := T89.setTop (mkF mM 113 #[.val (.int u0), .val (.int u1), .val (.int u2), .val (.int u3), .val (.int u4), .val (.int u5), .val (.ref aa), .val (.ref b89), .unset, .unset, .unset, .unset, .unset, .unset, .unset, .unset, .unset, .unset, .unset, .unset, .unset] [])) (fun tT_ kK_ => XS.icmpYes X89.here hx rfl (pc0 := 97) (pc' := 113) rfl (hb hby at_97) rfl (flt (by decide : ¬ ((2 : Int32) < (0 : Int32)))).2.2.2 (by decide) (by decide) kK_) ?_
  obtain ⟨T93, h93, X93, e93, E93, A93, D93, -, st93⟩ := newO X89 hx hZ hown (hw _ (List.mem_of_getElem? (i := 2) rfl)) (hw _ (List.mem_of_getElem? (i := 3) rfl)) (hw _ (List.mem_of_getElem? (i := 4) rfl)) e89 (g := (mkF mM 113 #[.val (.int u0), .val (.int u1), .val (.int u2), .val (.int u3), .val (.int u4), .val (.int u5), .val (.ref aa), .val (.ref b89), .unset, .unset, .unset, .unset, .unset, .unset, .unset, .unset, .unset, .unset, .unset, .unset, .unset] [])) rfl (hb hby at_113) (by decide) (by decide)
  obtain ⟨b93, g93⟩ : ∃ z, z = h89.size := ⟨_, rfl⟩
  rw [← g93] at A93 D93 st93
  have ne_aa_b93 : aa ≠ b93 := Nat.ne_of_lt (Nat.lt_of_lt_of_le E_aa.lt (Nat.le_of_eq g93.symm))
  have ne_b89_b93 : b89 ≠ b93 := Nat.ne_of_lt (Nat.lt_of_lt_of_le A_b89.lt (Nat.le_of_eq g93.symm))
  have g_b93 : n0 ≤ b93 := Nat.le_trans Zn (Nat.le_of_eq g93.symm)
  have E_aa := E_aa.ext E93
  have O := O.ext E93
  have A_b89 := A_b89.ext E93
  have hk := Nat.le_trans hk E93.1
  have Zn := Nat.le_trans Zn E93.1
  have E_b93 := A93
  have F_b93_value : Fld Z h93 b93 "java/lang/String" "value" "[B" .null := D93 (Or.inr (hw _ (List.mem_of_getElem? (i := 16) rfl))) (ty := (.array .byte)) (by decide)
  have F_b93_coder : Fld Z h93 b93 "java/lang/String" "coder" "B" (.int (0 : Int32)) := D93 (Or.inr (hw _ (List.mem_of_getElem? (i := 17) rfl))) (ty := .byte) (by decide)
  refine own_stW (A := T93.setTop (mkF mM 116 #[.val (.int u0), .val (.int u1), .val (.int u2), .val (.int u3), .val (.int u4), .val (.int u5), .val (.ref aa), .val (.ref b89), .unset, .unset, .unset, .unset, .unset, .unset, .unset, .unset, .unset, .unset, .unset, .unset, .unset] [(.ref b93)])) (fun tT_ kK_ => st93 tT_ kK_) ?_
  refine own_stW (A := T93.setTop (mkF mM 117 #[.val (.int u0), .val (.int u1), .val (.int u2), .val (.int u3), .val (.int u4), .val (.int u5), .val (.ref aa), .val (.ref b89), .unset, .unset, .unset, .unset, .unset, .unset, .unset, .unset, .unset, .unset, .unset, .unset, .unset] [(.ref b93), (.ref b93)])) (fun tT_ kK_ => XS.dup X93.here hx rfl (hb hby at_116) rfl rfl kK_) ?_
  refine own_stW (A := T93.setTop (mkF mM 119 #[.val (.int u0), .val (.int u1), .val (.int u2), .val (.int u3), .val (.int u4), .val (.int u5), .val (.ref aa), .val (.ref b89), .unset, .unset, .unset, .unset, .unset, .unset, .unset, .unset, .unset, .unset, .unset, .unset, .unset] [(.ref b89), (.ref b93), (.ref b93)])) (fun tT_ kK_ => XS.aload X93.here hx rfl (hb hby at_117) rfl rfl kK_) ?_
  obtain ⟨_, _, ⟨T94, L94, k94, n94⟩, -, X94, hS94, hg94, ⟨Lc94, hQ94, l94, y94, z94⟩, st94⟩ := X93.specialBackS hx (y := (⟨"java/lang/String", "<init>", "([C)V"⟩ : MethodName)) rfl hown (mvT hZ (hw _ (List.mem_of_getElem? (i := 5) rfl))) (mvT hZ (hw _ (List.mem_of_getElem? (i := 6) rfl))) (mvT hZ (hw _ (List.mem_of_getElem? (i := 7) rfl))) (by decide) (own_backOfSI (W := 1) (rmS1_0 lL Z a0 hw [] b93 b89 k89 h93 n0 g_b93 E_b93 F_b93_value F_b93_coder A_b89 O Zn hcw hheld) hZ (hw _ (List.mem_of_getElem? (i := 7) rfl)) (hw _ (List.mem_of_getElem? (i := 4) rfl)) (by decide) (by decide) hI) (g := (mkF mM 119 #[.val (.int u0), .val (.int u1), .val (.int u2), .val (.int u3), .val (.int u4), .val (.int u5), .val (.ref aa), .val (.ref b89), .unset, .unset, .unset, .unset, .unset, .unset, .unset, .unset, .unset, .unset, .unset, .unset, .unset] [(.ref b89), (.ref b93), (.ref b93)])) rfl (by rw [hml]; rfl) (Steps.refl _) (a := b93) (argsL := [(.ref b89)]) (rest := [(.ref b93)]) (lenOf pd__28_5bC_29V rfl) rfl (by show 2 * 0 + _ ≤ _; exact Nat.le_of_eq rfl) (hb hby at_119) (fun _ _ => ⟨rfl, e93, (by decide : 3 + 2 ≤ _), (by decide : 7 + 4 ≤ _)⟩)
  dsimp only [Pt.U, Pt.locs, Pt.cells, Pt.slots] at X94 l94 y94 z94 st94 hQ94 hS94 hg94
  subst l94 y94 z94
  obtain ⟨rfl, N94q, K94⟩ := hQ94
  have N94 := Fr.app N0 N94q
  rw [e93] at hg94
  have hZ := own_wideZ hZ hS94
  have hown := own_wideO hown hS94
  have hS := hS.trans hS94 (Nat.le_trans hk hg94)
  have hk : T94.heap.size ≤ T94.heap.size := Nat.le_refl _
  have X94 : Stand pP lL eE room_1 (sS.setVm T94.vm) mM args below meth cC T94 _ 5 11 := X94
  have e94 : T94.heap = T94.heap := rfl
  refine own_stW (A := T94.setTop (mkF mM 122 #[.val (.int u0), .val (.int u1), .val (.int u2), .val (.int u3), .val (.int u4), .val (.int u5), .val (.ref aa), .val (.ref b89), .unset, .unset, .unset, .unset, .unset, .unset, .unset, .unset, .unset, .unset, .unset, .unset, .unset] [(.ref b93)])) (fun tT_ kK_ => st94.trans kK_) ?_
  have E_aa := E_aa.keep K94
  have E_b93 := E_b93.keep K94
  have A_b89 := A_b89.keep K94 (ninS ne_b89_b93 nin0)
  have O := O.keep K94 (allS g_b93 all0)
  have Zn := Nat.le_trans Zn K94.1
  exact J122 hw (X94.more (by decide) (by decide)) hx hZ hby hml hown hlk hret hS hk e94 N94 u0 u1 u2 u3 u4 u5 aa b89 b93 Zn E_aa E_b93
set_option maxRecDepth 65536 in
set_option maxHeartbeats 40000000 in
theorem J53_1 {pP : Program} {lL : Launch} {eE : Env} {sS : State} {mM : MethodId} {args : Array Value} {below : List Frame} {meth : Method} {cC : Code} {T0 : State} {locs : List Loc} {Z : State} {a0 : Array Value} {h0 : Heap} {n0 : Nat} {vmV : Vm} (hw : ∀ d ∈ tables_1, d.before a0 Z = true) (X0 : Stand pP lL eE room_1 (sS.setVm vmV) mM args below meth cC T0 locs 1 3) (hx : pP.tables.exec = Jvm.exec) (hZ : Z.Warmed39 (sS.setVm vmV).vm) (hby : cC.code = code) (hml : cC.maxLocals = 21) (hown : (sS.setVm vmV).vm.findClass "com/example/libttl/libttl/KeyFormPinLaw" = some mM.cls) (hlk : meth.locks = false) (hret : meth.sig.returnType = ret) {kV : Nat} (hS : sS.Since vmV kV) (hk : kV ≤ h0.size) (e0 : T0.heap = h0) (N0 : Fr n0 locs) (u0 : Int32) (u1 : Int32) (u2 : Int32) (u3 : Int32) (u4 : Int32) (u5 : Int32) (aa : Addr) (cs : Int32) (E_aa : Exa Z h0 aa "[B") (O : Old Z n0 h0) (Zn : n0 ≤ h0.size) (S_cs : Sta Z Z.heap "java/lang/String" "COMPACT_STRINGS" "Z" (.int cs)) (hcs : ¬ cs = (0 : Int32)) (hcw : Jvm.Lit.compactW.before a0 Z = true) (hheld : Jvm.Lit.constHeld Z "java/lang/String" 7) (hI : vmV.interned = Z.vm.interned) :
    own_GoW pP eE below sS (QLaw n0) 32 1152 (T0.setTop (mkF mM 53 #[.val (.int u0), .val (.int u1), .val (.int u2), .val (.int u3), .val (.int u4), .val (.int u5), .val (.ref aa), .unset, .unset, .unset, .unset, .unset, .unset, .unset, .unset, .unset, .unset, .unset, .unset, .unset, .unset] [(.int (1 : Int32))])) := by
  obtain ⟨T95, h95, k95, X95, e95, E95, A95, st95⟩ := newP X0 hx hZ (hw _ (List.mem_of_getElem? (i := 1) rfl)) e0 (g := (mkF mM 53 #[.val (.int u0), .val (.int u1), .val (.int u2), .val (.int u3), .val (.int u4), .val (.int u5), .val (.ref aa), .unset, .unset, .unset, .unset, .unset, .unset, .unset, .unset, .unset, .unset, .unset, .unset, .unset, .unset] [(.int (1 : Int32))])) rfl (hb hby at_53) rfl (by decide) (cap := 1) (by decide) (by decide) (by decide) (by decide)
  obtain ⟨b95, g95⟩ : ∃ z, z = h0.size := ⟨_, rfl⟩
  rw [← g95] at A95 st95
  have ne_aa_b95 : aa ≠ b95 := Nat.ne_of_lt (Nat.lt_of_lt_of_le E_aa.lt (Nat.le_of_eq g95.symm))
  have g_b95 : n0 ≤ b95 := Nat.le_trans Zn (Nat.le_of_eq g95.symm)
  have E_aa := E_aa.ext E95
  have O := O.ext E95
  have hk := Nat.le_trans hk E95.1
  have Zn := Nat.le_trans Zn E95.1
  have A_b95 : Arv Z h95 b95 k95 .char 1 [(.int (0 : Int32))] (.int (0 : Int32)) := (Arv.new A95 (by decide)).pad (pad_rep [] (.int (0 : Int32)) 1)
  refine own_stW (A := T95.setTop (mkF mM 55 #[.val (.int u0), .val (.int u1), .val (.int u2), .val (.int u3), .val (.int u4), .val (.int u5), .val (.ref aa), .unset, .unset, .unset, .unset, .unset, .unset, .unset, .unset, .unset, .unset, .unset, .unset, .unset, .unset] [(.ref b95)])) (fun tT_ kK_ => st95 tT_ kK_) ?_
  refine own_stW (A := T95.setTop (mkF mM 57 #[.val (.int u0), .val (.int u1), .val (.int u2), .val (.int u3), .val (.int u4), .val (.int u5), .val (.ref aa), .val (.ref b95), .unset, .unset, .unset, .unset, .unset, .unset, .unset, .unset, .unset, .unset, .unset, .unset, .unset] [])) (fun tT_ kK_ => XS.astore X95.here hx rfl (hb hby at_55) rfl rfl (l' := #[.val (.int u0), .val (.int u1), .val (.int u2), .val (.int u3), .val (.int u4), .val (.int u5), .val (.ref aa), .val (.ref b95), .unset, .unset, .unset, .unset, .unset, .unset, .unset, .unset, .unset, .unset, .unset, .unset, .unset]) rfl kK_) ?_
  refine own_stW (A := T95.setTop (mkF mM 59 #[.val (.int u0), .val (.int u1), .val (.int u2), .val (.int u3), .val (.int u4), .val (.int u5), .val (.ref aa), .val (.ref b95), .unset, .unset, .unset, .unset, .unset, .unset, .unset, .unset, .unset, .unset, .unset, .unset, .unset] [(.ref b95)])) (fun tT_ kK_ => XS.aload X95.here hx rfl (hb hby at_57) rfl rfl kK_) ?_
  obtain ⟨cl96, Ar96, q96, S96, Nn96, H96, G96⟩ := id A_b95
  refine own_stW (A := T95.setTop (mkF mM 60 #[.val (.int u0), .val (.int u1), .val (.int u2), .val (.int u3), .val (.int u4), .val (.int u5), .val (.ref aa), .val (.ref b95), .unset, .unset, .unset, .unset, .unset, .unset, .unset, .unset, .unset, .unset, .unset, .unset, .unset] [(.int (1 : Int32))])) (fun tT_ kK_ => X95.arraylength hx (by rw [e95]; exact Ar96.1) (State.isArrayOf_alike hZ.alike Ar96.2.1) (g := (mkF mM 59 #[.val (.int u0), .val (.int u1), .val (.int u2), .val (.int u3), .val (.int u4), .val (.int u5), .val (.ref aa), .val (.ref b95), .unset, .unset, .unset, .unset, .unset, .unset, .unset, .unset, .unset, .unset, .unset, .unset, .unset] [(.ref b95)])) rfl rfl (hb hby at_59) tT_ (by rw [len_of S96 Nn96]; exact kK_)) ?_
  refine own_stW (A := T95.setTop (mkF mM 63 #[.val (.int u0), .val (.int u1), .val (.int u2), .val (.int u3), .val (.int u4), .val (.int u5), .val (.ref aa), .val (.ref b95), .unset, .unset, .unset, .unset, .unset, .unset, .unset, .unset, .unset, .unset, .unset, .unset, .unset] [])) (fun tT_ kK_ => XS.ifNo X95.here hx rfl (hb hby at_60) rfl ((if0 _ _).trans (tlt (by decide : ((0 : Int32) < (1 : Int32)))).2.2.2) kK_) ?_
  refine own_stW (A := T95.setTop (mkF mM 65 #[.val (.int u0), .val (.int u1), .val (.int u2), .val (.int u3), .val (.int u4), .val (.int u5), .val (.ref aa), .val (.ref b95), .unset, .unset, .unset, .unset, .unset, .unset, .unset, .unset, .unset, .unset, .unset, .unset, .unset] [(.ref b95)])) (fun tT_ kK_ => XS.aload X95.here hx rfl (hb hby at_63) rfl rfl kK_) ?_
  refine own_stW (A := T95.setTop (mkF mM 66 #[.val (.int u0), .val (.int u1), .val (.int u2), .val (.int u3), .val (.int u4), .val (.int u5), .val (.ref aa), .val (.ref b95), .unset, .unset, .unset, .unset, .unset, .unset, .unset, .unset, .unset, .unset, .unset, .unset, .unset] [(.int (0 : Int32)), (.ref b95)])) (fun tT_ kK_ => XS.iconst X95.here hx rfl (hb hby at_65) kK_) ?_
  refine own_stW (A := T95.setTop (mkF mM 67 #[.val (.int u0), .val (.int u1), .val (.int u2), .val (.int u3), .val (.int u4), .val (.int u5), .val (.ref aa), .val (.ref b95), .unset, .unset, .unset, .unset, .unset, .unset, .unset, .unset, .unset, .unset, .unset, .unset, .unset] [(.int u3), (.int (0 : Int32)), (.ref b95)])) (fun tT_ kK_ => XS.iloadN X95.here hx rfl (hb hby at_66) rfl kK_) ?_
  refine own_stW (A := T95.setTop (mkF mM 70 #[.val (.int u0), .val (.int u1), .val (.int u2), .val (.int u3), .val (.int u4), .val (.int u5), .val (.ref aa), .val (.ref b95), .unset, .unset, .unset, .unset, .unset, .unset, .unset, .unset, .unset, .unset, .unset, .unset, .unset] [(.int (255 : Int32)), (.int u3), (.int (0 : Int32)), (.ref b95)])) (fun tT_ kK_ => XS.sipush X95.here hx rfl (hb hby at_67) kK_) ?_
  refine own_stW (A := T95.setTop (mkF mM 71 #[.val (.int u0), .val (.int u1), .val (.int u2), .val (.int u3), .val (.int u4), .val (.int u5), .val (.ref aa), .val (.ref b95), .unset, .unset, .unset, .unset, .unset, .unset, .unset, .unset, .unset, .unset, .unset, .unset, .unset] [(.int (u3 &&& (255 : Int32))), (.int (0 : Int32)), (.ref b95)])) (fun tT_ kK_ => XS.iand X95.here hx rfl (hb hby at_70) rfl kK_) ?_
  refine own_stW (A := T95.setTop (mkF mM 72 #[.val (.int u0), .val (.int u1), .val (.int u2), .val (.int u3), .val (.int u4), .val (.int u5), .val (.ref aa), .val (.ref b95), .unset, .unset, .unset, .unset, .unset, .unset, .unset, .unset, .unset, .unset, .unset, .unset, .unset] [(.int (((u3 &&& (255 : Int32))).toUInt32.toUInt16.toUInt32.toInt32)), (.int (0 : Int32)), (.ref b95)])) (fun tT_ kK_ => XS.i2c X95.here hx rfl (hb hby at_71) rfl kK_) ?_
  obtain ⟨cl97, Ar97, q97, S97, Nn97, H97, G97⟩ := id A_b95
  obtain ⟨T98, h98, X98, e98, W98, st98⟩ := stC X95 hx hZ e95 Ar97 (j := (0 : Int32)) (inb_of S97 ⟨by decide, by decide⟩) (g := (mkF mM 72 #[.val (.int u0), .val (.int u1), .val (.int u2), .val (.int u3), .val (.int u4), .val (.int u5), .val (.ref aa), .val (.ref b95), .unset, .unset, .unset, .unset, .unset, .unset, .unset, .unset, .unset, .unset, .unset, .unset, .unset] [(.int (((u3 &&& (255 : Int32))).toUInt32.toUInt16.toUInt32.toInt32)), (.int (0 : Int32)), (.ref b95)])) rfl rfl (hb hby at_72)
  have N98 := Fr.snoc X98 N0 g_b95
  have E_aa := E_aa.wr W98
  have hk := Nat.le_trans hk (Keep.of_wr W98).1
  have O := O.wr W98 g_b95
  have Zn := Nat.le_trans Zn (Keep.of_wr W98).1
  have A_b95 : Arv Z h98 b95 k95 .char 1 [(.int (nar .char (((u3 &&& (255 : Int32))).toUInt32.toUInt16.toUInt32.toInt32)))] (.int (0 : Int32)) := Arv.set Ar97 q97 S97 Nn97 H97 G97 (fits_nar_char _) W98 0 rfl (Nat.le_of_ble_eq_true rfl)
  refine own_stW (A := T98.setTop (mkF mM 73 #[.val (.int u0), .val (.int u1), .val (.int u2), .val (.int u3), .val (.int u4), .val (.int u5), .val (.ref aa), .val (.ref b95), .unset, .unset, .unset, .unset, .unset, .unset, .unset, .unset, .unset, .unset, .unset, .unset, .unset] [])) (fun tT_ kK_ => st98 tT_ kK_) ?_
  rw [(own_Ck _ : Ck (((u3 &&& (255 : Int32))).toUInt32.toUInt16.toUInt32.toInt32)).1] at A_b95
  refine own_stW (A := T98.setTop (mkF mM 75 #[.val (.int u0), .val (.int u1), .val (.int u2), .val (.int u3), .val (.int u4), .val (.int u5), .val (.ref aa), .val (.ref b95), .unset, .unset, .unset, .unset, .unset, .unset, .unset, .unset, .unset, .unset, .unset, .unset, .unset] [(.ref b95)])) (fun tT_ kK_ => XS.aload X98.here hx rfl (hb hby at_73) rfl rfl kK_) ?_
  obtain ⟨cl99, Ar99, q99, S99, Nn99, H99, G99⟩ := id A_b95
  refine own_stW (A := T98.setTop (mkF mM 76 #[.val (.int u0), .val (.int u1), .val (.int u2), .val (.int u3), .val (.int u4), .val (.int u5), .val (.ref aa), .val (.ref b95), .unset, .unset, .unset, .unset, .unset, .unset, .unset, .unset, .unset, .unset, .unset, .unset, .unset] [(.int (1 : Int32))])) (fun tT_ kK_ => X98.arraylength hx (by rw [e98]; exact Ar99.1) (State.isArrayOf_alike hZ.alike Ar99.2.1) (g := (mkF mM 75 #[.val (.int u0), .val (.int u1), .val (.int u2), .val (.int u3), .val (.int u4), .val (.int u5), .val (.ref aa), .val (.ref b95), .unset, .unset, .unset, .unset, .unset, .unset, .unset, .unset, .unset, .unset, .unset, .unset, .unset] [(.ref b95)])) rfl rfl (hb hby at_75) tT_ (by rw [len_of S99 Nn99]; exact kK_)) ?_
  refine own_stW (A := T98.setTop (mkF mM 77 #[.val (.int u0), .val (.int u1), .val (.int u2), .val (.int u3), .val (.int u4), .val (.int u5), .val (.ref aa), .val (.ref b95), .unset, .unset, .unset, .unset, .unset, .unset, .unset, .unset, .unset, .unset, .unset, .unset, .unset] [(.int (1 : Int32)), (.int (1 : Int32))])) (fun tT_ kK_ => XS.iconst X98.here hx rfl (hb hby at_76) kK_) ?_
  refine own_stW (A := T98.setTop (mkF mM 93 #[.val (.int u0), .val (.int u1), .val (.int u2), .val (.int u3), .val (.int u4), .val (.int u5), .val (.ref aa), .val (.ref b95), .unset, .unset, .unset, .unset, .unset, .unset, .unset, .unset, .unset, .unset, .unset, .unset, .unset] [])) (fun tT_ kK_ => XS.icmpYes X98.here hx rfl (pc0 := 77) (pc' := 93) rfl (hb hby at_77) rfl (flt (by decide : ¬ ((1 : Int32) < (1 : Int32)))).2.2.2 (by decide) (by decide) kK_) ?_
  refine own_stW (A := T98.setTop (mkF mM 95 #[.val (.int u0), .val (.int u1), .val (.int u2), .val (.int u3), .val (.int u4), .val (.int u5), .val (.ref aa), .val (.ref b95), .unset, .unset, .unset, .unset, .unset, .unset, .unset, .unset, .unset, .unset, .unset, .unset, .unset] [(.ref b95)])) (fun tT_ kK_ => XS.aload X98.here hx rfl (hb hby at_93) rfl rfl kK_) ?_
  obtain ⟨cl100, Ar100, q100, S100, Nn100, H100, G100⟩ := id A_b95
  refine own_stW (A := T98.setTop (mkF mM 96 #[.val (.int u0), .val (.int u1), .val (.int u2), .val (.int u3), .val (.int u4), .val (.int u5), .val (.ref aa), .val (.ref b95), .unset, .unset, .unset, .unset, .unset, .unset, .unset, .unset, .unset, .unset, .unset, .unset, .unset] [(.int (1 : Int32))])) (fun tT_ kK_ => X98.arraylength hx (by rw [e98]; exact Ar100.1) (State.isArrayOf_alike hZ.alike Ar100.2.1) (g := (mkF mM 95 #[.val (.int u0), .val (.int u1), .val (.int u2), .val (.int u3), .val (.int u4), .val (.int u5), .val (.ref aa), .val (.ref b95), .unset, .unset, .unset, .unset, .unset, .unset, .unset, .unset, .unset, .unset, .unset, .unset, .unset] [(.ref b95)])) rfl rfl (hb hby at_95) tT_ (by rw [len_of S100 Nn100]; exact kK_)) ?_
  refine own_stW (A := T98.setTop (mkF mM 97 #[.val (.int u0), .val (.int u1), .val (.int u2), .val (.int u3), .val (.int u4), .val (.int u5), .val (.ref aa), .val (.ref b95), .unset, .unset, .unset, .unset, .unset, .unset, .unset, .unset, .unset, .unset, .unset, .unset, .unset] [(.int (2 : Int32)), (.int (1 : Int32))])) (fun tT_ kK_ => XS.iconst X98.here hx rfl (hb hby at_96) kK_) ?_
  refine own_stW (A := T98.setTop (mkF mM 113 #[.val (.int u0), .val (.int u1), .val (.int u2), .val (.int u3), .val (.int u4), .val (.int u5), .val (.ref aa), .val (.ref b95), .unset, .unset, .unset, .unset, .unset, .unset, .unset, .unset, .unset, .unset, .unset, .unset, .unset] [])) (fun tT_ kK_ => XS.icmpYes X98.here hx rfl (pc0 := 97) (pc' := 113) rfl (hb hby at_97) rfl (flt (by decide : ¬ ((2 : Int32) < (1 : Int32)))).2.2.2 (by decide) (by decide) kK_) ?_
  obtain ⟨T101, h101, X101, e101, E101, A101, D101, -, st101⟩ := newO X98 hx hZ hown (hw _ (List.mem_of_getElem? (i := 2) rfl)) (hw _ (List.mem_of_getElem? (i := 3) rfl)) (hw _ (List.mem_of_getElem? (i := 4) rfl)) e98 (g := (mkF mM 113 #[.val (.int u0), .val (.int u1), .val (.int u2), .val (.int u3), .val (.int u4), .val (.int u5), .val (.ref aa), .val (.ref b95), .unset, .unset, .unset, .unset, .unset, .unset, .unset, .unset, .unset, .unset, .unset, .unset, .unset] [])) rfl (hb hby at_113) (by decide) (by decide)
  obtain ⟨b101, g101⟩ : ∃ z, z = h98.size := ⟨_, rfl⟩
  rw [← g101] at A101 D101 st101
  have ne_aa_b101 : aa ≠ b101 := Nat.ne_of_lt (Nat.lt_of_lt_of_le E_aa.lt (Nat.le_of_eq g101.symm))
  have ne_b95_b101 : b95 ≠ b101 := Nat.ne_of_lt (Nat.lt_of_lt_of_le A_b95.lt (Nat.le_of_eq g101.symm))
  have g_b101 : n0 ≤ b101 := Nat.le_trans Zn (Nat.le_of_eq g101.symm)
  have E_aa := E_aa.ext E101
  have O := O.ext E101
  have A_b95 := A_b95.ext E101
  have hk := Nat.le_trans hk E101.1
  have Zn := Nat.le_trans Zn E101.1
  have E_b101 := A101
  have F_b101_value : Fld Z h101 b101 "java/lang/String" "value" "[B" .null := D101 (Or.inr (hw _ (List.mem_of_getElem? (i := 16) rfl))) (ty := (.array .byte)) (by decide)
  have F_b101_coder : Fld Z h101 b101 "java/lang/String" "coder" "B" (.int (0 : Int32)) := D101 (Or.inr (hw _ (List.mem_of_getElem? (i := 17) rfl))) (ty := .byte) (by decide)
  refine own_stW (A := T101.setTop (mkF mM 116 #[.val (.int u0), .val (.int u1), .val (.int u2), .val (.int u3), .val (.int u4), .val (.int u5), .val (.ref aa), .val (.ref b95), .unset, .unset, .unset, .unset, .unset, .unset, .unset, .unset, .unset, .unset, .unset, .unset, .unset] [(.ref b101)])) (fun tT_ kK_ => st101 tT_ kK_) ?_
  refine own_stW (A := T101.setTop (mkF mM 117 #[.val (.int u0), .val (.int u1), .val (.int u2), .val (.int u3), .val (.int u4), .val (.int u5), .val (.ref aa), .val (.ref b95), .unset, .unset, .unset, .unset, .unset, .unset, .unset, .unset, .unset, .unset, .unset, .unset, .unset] [(.ref b101), (.ref b101)])) (fun tT_ kK_ => XS.dup X101.here hx rfl (hb hby at_116) rfl rfl kK_) ?_
  refine own_stW (A := T101.setTop (mkF mM 119 #[.val (.int u0), .val (.int u1), .val (.int u2), .val (.int u3), .val (.int u4), .val (.int u5), .val (.ref aa), .val (.ref b95), .unset, .unset, .unset, .unset, .unset, .unset, .unset, .unset, .unset, .unset, .unset, .unset, .unset] [(.ref b95), (.ref b101), (.ref b101)])) (fun tT_ kK_ => XS.aload X101.here hx rfl (hb hby at_117) rfl rfl kK_) ?_
  obtain ⟨_, _, ⟨T102, L102, k102, n102⟩, -, X102, ⟨Lc102, hQ102, l102, y102, z102⟩, st102⟩ := X101.specialBack hx (y := (⟨"java/lang/String", "<init>", "([C)V"⟩ : MethodName)) rfl hown (mvT hZ (hw _ (List.mem_of_getElem? (i := 5) rfl))) (mvT hZ (hw _ (List.mem_of_getElem? (i := 6) rfl))) (mvT hZ (hw _ (List.mem_of_getElem? (i := 7) rfl))) (by decide) (backOf (W := 1) (rmS1_1 lL Z a0 hw [] b101 b95 k95 cs ((((u3 &&& (255 : Int32))).toUInt32.toUInt16.toUInt32.toInt32)) h101 n0 g_b101 E_b101 F_b101_value F_b101_coder A_b95 ne_b95_b101 O Zn S_cs hcs (own_Ck _)) hZ (hw _ (List.mem_of_getElem? (i := 7) rfl)) (hw _ (List.mem_of_getElem? (i := 4) rfl)) (by decide) (by decide)) (g := (mkF mM 119 #[.val (.int u0), .val (.int u1), .val (.int u2), .val (.int u3), .val (.int u4), .val (.int u5), .val (.ref aa), .val (.ref b95), .unset, .unset, .unset, .unset, .unset, .unset, .unset, .unset, .unset, .unset, .unset, .unset, .unset] [(.ref b95), (.ref b101), (.ref b101)])) rfl (by rw [hml]; rfl) (Steps.refl _) (a := b101) (argsL := [(.ref b95)]) (rest := [(.ref b101)]) (lenOf pd__28_5bC_29V rfl) rfl (by show 2 * 0 + _ ≤ _; exact Nat.le_of_eq rfl) (hb hby at_119) (fun _ _ => ⟨rfl, e101, (by decide : 3 + 1 ≤ _), (by decide : 8 + 1 ≤ _)⟩)
  dsimp only [Pt.U, Pt.locs, Pt.cells, Pt.slots] at X102 l102 y102 z102 st102 hQ102
  subst l102 y102 z102
  obtain ⟨d102, k102', rfl, N102q, K102, str102, ge102⟩ := hQ102
  have N102 := Fr.app N98 N102q
  have e102 : T102.heap = T102.heap := rfl
  refine own_stW (A := T102.setTop (mkF mM 122 #[.val (.int u0), .val (.int u1), .val (.int u2), .val (.int u3), .val (.int u4), .val (.int u5), .val (.ref aa), .val (.ref b95), .unset, .unset, .unset, .unset, .unset, .unset, .unset, .unset, .unset, .unset, .unset, .unset, .unset] [(.ref b101)])) (fun tT_ kK_ => st102.trans kK_) ?_
  have E_aa := E_aa.keep K102
  have E_b101 := E_b101.keep K102
  have A_b95 := A_b95.keep K102 (ninS ne_b95_b101 nin0)
  have hk := Nat.le_trans hk K102.1
  have O := O.keep K102 (allS g_b101 all0)
  have Zn := Nat.le_trans Zn K102.1
  exact J122 hw (X102.more (by decide) (by decide)) hx hZ hby hml hown hlk hret hS hk e102 N102 u0 u1 u2 u3 u4 u5 aa b95 b101 Zn E_aa E_b101
set_option maxRecDepth 65536 in
set_option maxHeartbeats 40000000 in
theorem J53_2 {pP : Program} {lL : Launch} {eE : Env} {sS : State} {mM : MethodId} {args : Array Value} {below : List Frame} {meth : Method} {cC : Code} {T0 : State} {locs : List Loc} {Z : State} {a0 : Array Value} {h0 : Heap} {n0 : Nat} {vmV : Vm} (hw : ∀ d ∈ tables_1, d.before a0 Z = true) (X0 : Stand pP lL eE room_1 (sS.setVm vmV) mM args below meth cC T0 locs 1 3) (hx : pP.tables.exec = Jvm.exec) (hZ : Z.Warmed39 (sS.setVm vmV).vm) (hby : cC.code = code) (hml : cC.maxLocals = 21) (hown : (sS.setVm vmV).vm.findClass "com/example/libttl/libttl/KeyFormPinLaw" = some mM.cls) (hlk : meth.locks = false) (hret : meth.sig.returnType = ret) {kV : Nat} (hS : sS.Since vmV kV) (hk : kV ≤ h0.size) (e0 : T0.heap = h0) (N0 : Fr n0 locs) (u0 : Int32) (u1 : Int32) (u2 : Int32) (u3 : Int32) (u4 : Int32) (u5 : Int32) (aa : Addr) (cs : Int32) (E_aa : Exa Z h0 aa "[B") (O : Old Z n0 h0) (Zn : n0 ≤ h0.size) (S_cs : Sta Z Z.heap "java/lang/String" "COMPACT_STRINGS" "Z" (.int cs)) (hcs : ¬ cs = (0 : Int32)) (hcw : Jvm.Lit.compactW.before a0 Z = true) (hheld : Jvm.Lit.constHeld Z "java/lang/String" 7) (hI : vmV.interned = Z.vm.interned) :
    own_GoW pP eE below sS (QLaw n0) 32 1152 (T0.setTop (mkF mM 53 #[.val (.int u0), .val (.int u1), .val (.int u2), .val (.int u3), .val (.int u4), .val (.int u5), .val (.ref aa), .unset, .unset, .unset, .unset, .unset, .unset, .unset, .unset, .unset, .unset, .unset, .unset, .unset, .unset] [(.int (2 : Int32))])) := by
  obtain ⟨T103, h103, k103, X103, e103, E103, A103, st103⟩ := newP X0 hx hZ (hw _ (List.mem_of_getElem? (i := 1) rfl)) e0 (g := (mkF mM 53 #[.val (.int u0), .val (.int u1), .val (.int u2), .val (.int u3), .val (.int u4), .val (.int u5), .val (.ref aa), .unset, .unset, .unset, .unset, .unset, .unset, .unset, .unset, .unset, .unset, .unset, .unset, .unset, .unset] [(.int (2 : Int32))])) rfl (hb hby at_53) rfl (by decide) (cap := 2) (by decide) (by decide) (by decide) (by decide)
  obtain ⟨b103, g103⟩ : ∃ z, z = h0.size := ⟨_, rfl⟩
  rw [← g103] at A103 st103
  have ne_aa_b103 : aa ≠ b103 := Nat.ne_of_lt (Nat.lt_of_lt_of_le E_aa.lt (Nat.le_of_eq g103.symm))
  have g_b103 : n0 ≤ b103 := Nat.le_trans Zn (Nat.le_of_eq g103.symm)
  have E_aa := E_aa.ext E103
  have O := O.ext E103
  have hk := Nat.le_trans hk E103.1
  have Zn := Nat.le_trans Zn E103.1
  have A_b103 : Arv Z h103 b103 k103 .char 2 [(.int (0 : Int32)), (.int (0 : Int32))] (.int (0 : Int32)) := (Arv.new A103 (by decide)).pad (pad_rep [] (.int (0 : Int32)) 2)
  refine own_stW (A := T103.setTop (mkF mM 55 #[.val (.int u0), .val (.int u1), .val (.int u2), .val (.int u3), .val (.int u4), .val (.int u5), .val (.ref aa), .unset, .unset, .unset, .unset, .unset, .unset, .unset, .unset, .unset, .unset, .unset, .unset, .unset, .unset] [(.ref b103)])) (fun tT_ kK_ => st103 tT_ kK_) ?_
  refine own_stW (A := T103.setTop (mkF mM 57 #[.val (.int u0), .val (.int u1), .val (.int u2), .val (.int u3), .val (.int u4), .val (.int u5), .val (.ref aa), .val (.ref b103), .unset, .unset, .unset, .unset, .unset, .unset, .unset, .unset, .unset, .unset, .unset, .unset, .unset] [])) (fun tT_ kK_ => XS.astore X103.here hx rfl (hb hby at_55) rfl rfl (l' := #[.val (.int u0), .val (.int u1), .val (.int u2), .val (.int u3), .val (.int u4), .val (.int u5), .val (.ref aa), .val (.ref b103), .unset, .unset, .unset, .unset, .unset, .unset, .unset, .unset, .unset, .unset, .unset, .unset, .unset]) rfl kK_) ?_
  refine own_stW (A := T103.setTop (mkF mM 59 #[.val (.int u0), .val (.int u1), .val (.int u2), .val (.int u3), .val (.int u4), .val (.int u5), .val (.ref aa), .val (.ref b103), .unset, .unset, .unset, .unset, .unset, .unset, .unset, .unset, .unset, .unset, .unset, .unset, .unset] [(.ref b103)])) (fun tT_ kK_ => XS.aload X103.here hx rfl (hb hby at_57) rfl rfl kK_) ?_
  obtain ⟨cl104, Ar104, q104, S104, Nn104, H104, G104⟩ := id A_b103
  refine own_stW (A := T103.setTop (mkF mM 60 #[.val (.int u0), .val (.int u1), .val (.int u2), .val (.int u3), .val (.int u4), .val (.int u5), .val (.ref aa), .val (.ref b103), .unset, .unset, .unset, .unset, .unset, .unset, .unset, .unset, .unset, .unset, .unset, .unset, .unset] [(.int (2 : Int32))])) (fun tT_ kK_ => X103.arraylength hx (by rw [e103]; exact Ar104.1) (State.isArrayOf_alike hZ.alike Ar104.2.1) (g := (mkF mM 59 #[.val (.int u0), .val (.int u1), .val (.int u2), .val (.int u3), .val (.int u4), .val (.int u5), .val (.ref aa), .val (.ref b103), .unset, .unset, .unset, .unset, .unset, .unset, .unset, .unset, .unset, .unset, .unset, .unset, .unset] [(.ref b103)])) rfl rfl (hb hby at_59) tT_ (by rw [len_of S104 Nn104]; exact kK_)) ?_
  refine own_stW (A := T103.setTop (mkF mM 63 #[.val (.int u0), .val (.int u1), .val (.int u2), .val (.int u3), .val (.int u4), .val (.int u5), .val (.ref aa), .val (.ref b103), .unset, .unset, .unset, .unset, .unset, .unset, .unset, .unset, .unset, .unset, .unset, .unset, .unset] [])) (fun tT_ kK_ => XS.ifNo X103.here hx rfl (hb hby at_60) rfl ((if0 _ _).trans (tlt (by decide : ((0 : Int32) < (2 : Int32)))).2.2.2) kK_) ?_
  refine own_stW (A := T103.setTop (mkF mM 65 #[.val (.int u0), .val (.int u1), .val (.int u2), .val (.int u3), .val (.int u4), .val (.int u5), .val (.ref aa), .val (.ref b103), .unset, .unset, .unset, .unset, .unset, .unset, .unset, .unset, .unset, .unset, .unset, .unset, .unset] [(.ref b103)])) (fun tT_ kK_ => XS.aload X103.here hx rfl (hb hby at_63) rfl rfl kK_) ?_
  refine own_stW (A := T103.setTop (mkF mM 66 #[.val (.int u0), .val (.int u1), .val (.int u2), .val (.int u3), .val (.int u4), .val (.int u5), .val (.ref aa), .val (.ref b103), .unset, .unset, .unset, .unset, .unset, .unset, .unset, .unset, .unset, .unset, .unset, .unset, .unset] [(.int (0 : Int32)), (.ref b103)])) (fun tT_ kK_ => XS.iconst X103.here hx rfl (hb hby at_65) kK_) ?_
  refine own_stW (A := T103.setTop (mkF mM 67 #[.val (.int u0), .val (.int u1), .val (.int u2), .val (.int u3), .val (.int u4), .val (.int u5), .val (.ref aa), .val (.ref b103), .unset, .unset, .unset, .unset, .unset, .unset, .unset, .unset, .unset, .unset, .unset, .unset, .unset] [(.int u3), (.int (0 : Int32)), (.ref b103)])) (fun tT_ kK_ => XS.iloadN X103.here hx rfl (hb hby at_66) rfl kK_) ?_
  refine own_stW (A := T103.setTop (mkF mM 70 #[.val (.int u0), .val (.int u1), .val (.int u2), .val (.int u3), .val (.int u4), .val (.int u5), .val (.ref aa), .val (.ref b103), .unset, .unset, .unset, .unset, .unset, .unset, .unset, .unset, .unset, .unset, .unset, .unset, .unset] [(.int (255 : Int32)), (.int u3), (.int (0 : Int32)), (.ref b103)])) (fun tT_ kK_ => XS.sipush X103.here hx rfl (hb hby at_67) kK_) ?_
  refine own_stW (A := T103.setTop (mkF mM 71 #[.val (.int u0), .val (.int u1), .val (.int u2), .val (.int u3), .val (.int u4), .val (.int u5), .val (.ref aa), .val (.ref b103), .unset, .unset, .unset, .unset, .unset, .unset, .unset, .unset, .unset, .unset, .unset, .unset, .unset] [(.int (u3 &&& (255 : Int32))), (.int (0 : Int32)), (.ref b103)])) (fun tT_ kK_ => XS.iand X103.here hx rfl (hb hby at_70) rfl kK_) ?_
  refine own_stW (A := T103.setTop (mkF mM 72 #[.val (.int u0), .val (.int u1), .val (.int u2), .val (.int u3), .val (.int u4), .val (.int u5), .val (.ref aa), .val (.ref b103), .unset, .unset, .unset, .unset, .unset, .unset, .unset, .unset, .unset, .unset, .unset, .unset, .unset] [(.int (((u3 &&& (255 : Int32))).toUInt32.toUInt16.toUInt32.toInt32)), (.int (0 : Int32)), (.ref b103)])) (fun tT_ kK_ => XS.i2c X103.here hx rfl (hb hby at_71) rfl kK_) ?_
  obtain ⟨cl105, Ar105, q105, S105, Nn105, H105, G105⟩ := id A_b103
  obtain ⟨T106, h106, X106, e106, W106, st106⟩ := stC X103 hx hZ e103 Ar105 (j := (0 : Int32)) (inb_of S105 ⟨by decide, by decide⟩) (g := (mkF mM 72 #[.val (.int u0), .val (.int u1), .val (.int u2), .val (.int u3), .val (.int u4), .val (.int u5), .val (.ref aa), .val (.ref b103), .unset, .unset, .unset, .unset, .unset, .unset, .unset, .unset, .unset, .unset, .unset, .unset, .unset] [(.int (((u3 &&& (255 : Int32))).toUInt32.toUInt16.toUInt32.toInt32)), (.int (0 : Int32)), (.ref b103)])) rfl rfl (hb hby at_72)
  have N106 := Fr.snoc X106 N0 g_b103
  have E_aa := E_aa.wr W106
  have hk := Nat.le_trans hk (Keep.of_wr W106).1
  have O := O.wr W106 g_b103
  have Zn := Nat.le_trans Zn (Keep.of_wr W106).1
  have A_b103 : Arv Z h106 b103 k103 .char 2 [(.int (nar .char (((u3 &&& (255 : Int32))).toUInt32.toUInt16.toUInt32.toInt32))), (.int (0 : Int32))] (.int (0 : Int32)) := Arv.set Ar105 q105 S105 Nn105 H105 G105 (fits_nar_char _) W106 0 rfl (Nat.le_of_ble_eq_true rfl)
  refine own_stW (A := T106.setTop (mkF mM 73 #[.val (.int u0), .val (.int u1), .val (.int u2), .val (.int u3), .val (.int u4), .val (.int u5), .val (.ref aa), .val (.ref b103), .unset, .unset, .unset, .unset, .unset, .unset, .unset, .unset, .unset, .unset, .unset, .unset, .unset] [])) (fun tT_ kK_ => st106 tT_ kK_) ?_
  rw [(own_Ck _ : Ck (((u3 &&& (255 : Int32))).toUInt32.toUInt16.toUInt32.toInt32)).1] at A_b103
  refine own_stW (A := T106.setTop (mkF mM 75 #[.val (.int u0), .val (.int u1), .val (.int u2), .val (.int u3), .val (.int u4), .val (.int u5), .val (.ref aa), .val (.ref b103), .unset, .unset, .unset, .unset, .unset, .unset, .unset, .unset, .unset, .unset, .unset, .unset, .unset] [(.ref b103)])) (fun tT_ kK_ => XS.aload X106.here hx rfl (hb hby at_73) rfl rfl kK_) ?_
  obtain ⟨cl107, Ar107, q107, S107, Nn107, H107, G107⟩ := id A_b103
  refine own_stW (A := T106.setTop (mkF mM 76 #[.val (.int u0), .val (.int u1), .val (.int u2), .val (.int u3), .val (.int u4), .val (.int u5), .val (.ref aa), .val (.ref b103), .unset, .unset, .unset, .unset, .unset, .unset, .unset, .unset, .unset, .unset, .unset, .unset, .unset] [(.int (2 : Int32))])) (fun tT_ kK_ => X106.arraylength hx (by rw [e106]; exact Ar107.1) (State.isArrayOf_alike hZ.alike Ar107.2.1) (g := (mkF mM 75 #[.val (.int u0), .val (.int u1), .val (.int u2), .val (.int u3), .val (.int u4), .val (.int u5), .val (.ref aa), .val (.ref b103), .unset, .unset, .unset, .unset, .unset, .unset, .unset, .unset, .unset, .unset, .unset, .unset, .unset] [(.ref b103)])) rfl rfl (hb hby at_75) tT_ (by rw [len_of S107 Nn107]; exact kK_)) ?_
  refine own_stW (A := T106.setTop (mkF mM 77 #[.val (.int u0), .val (.int u1), .val (.int u2), .val (.int u3), .val (.int u4), .val (.int u5), .val (.ref aa), .val (.ref b103), .unset, .unset, .unset, .unset, .unset, .unset, .unset, .unset, .unset, .unset, .unset, .unset, .unset] [(.int (1 : Int32)), (.int (2 : Int32))])) (fun tT_ kK_ => XS.iconst X106.here hx rfl (hb hby at_76) kK_) ?_
  refine own_stW (A := T106.setTop (mkF mM 80 #[.val (.int u0), .val (.int u1), .val (.int u2), .val (.int u3), .val (.int u4), .val (.int u5), .val (.ref aa), .val (.ref b103), .unset, .unset, .unset, .unset, .unset, .unset, .unset, .unset, .unset, .unset, .unset, .unset, .unset] [])) (fun tT_ kK_ => XS.icmpNo X106.here hx rfl (hb hby at_77) rfl (tlt (by decide : ((1 : Int32) < (2 : Int32)))).2.2.2 kK_) ?_
  refine own_stW (A := T106.setTop (mkF mM 82 #[.val (.int u0), .val (.int u1), .val (.int u2), .val (.int u3), .val (.int u4), .val (.int u5), .val (.ref aa), .val (.ref b103), .unset, .unset, .unset, .unset, .unset, .unset, .unset, .unset, .unset, .unset, .unset, .unset, .unset] [(.ref b103)])) (fun tT_ kK_ => XS.aload X106.here hx rfl (hb hby at_80) rfl rfl kK_) ?_
  refine own_stW (A := T106.setTop (mkF mM 83 #[.val (.int u0), .val (.int u1), .val (.int u2), .val (.int u3), .val (.int u4), .val (.int u5), .val (.ref aa), .val (.ref b103), .unset, .unset, .unset, .unset, .unset, .unset, .unset, .unset, .unset, .unset, .unset, .unset, .unset] [(.int (1 : Int32)), (.ref b103)])) (fun tT_ kK_ => XS.iconst X106.here hx rfl (hb hby at_82) kK_) ?_
  refine own_stW (A := T106.setTop (mkF mM 84 #[.val (.int u0), .val (.int u1), .val (.int u2), .val (.int u3), .val (.int u4), .val (.int u5), .val (.ref aa), .val (.ref b103), .unset, .unset, .unset, .unset, .unset, .unset, .unset, .unset, .unset, .unset, .unset, .unset, .unset] [(.int u3), (.int (1 : Int32)), (.ref b103)])) (fun tT_ kK_ => XS.iloadN X106.here hx rfl (hb hby at_83) rfl kK_) ?_
  refine own_stW (A := T106.setTop (mkF mM 86 #[.val (.int u0), .val (.int u1), .val (.int u2), .val (.int u3), .val (.int u4), .val (.int u5), .val (.ref aa), .val (.ref b103), .unset, .unset, .unset, .unset, .unset, .unset, .unset, .unset, .unset, .unset, .unset, .unset, .unset] [(.int (8 : Int32)), (.int u3), (.int (1 : Int32)), (.ref b103)])) (fun tT_ kK_ => XS.bipush X106.here hx rfl (hb hby at_84) kK_) ?_
  refine own_stW (A := T106.setTop (mkF mM 87 #[.val (.int u0), .val (.int u1), .val (.int u2), .val (.int u3), .val (.int u4), .val (.int u5), .val (.ref aa), .val (.ref b103), .unset, .unset, .unset, .unset, .unset, .unset, .unset, .unset, .unset, .unset, .unset, .unset, .unset] [(.int ((u3.toUInt32 >>> ((8 : Int32) &&& 31).toUInt32).toInt32)), (.int (1 : Int32)), (.ref b103)])) (fun tT_ kK_ => XS.iushr X106.here hx rfl (hb hby at_86) rfl kK_) ?_
  refine own_stW (A := T106.setTop (mkF mM 90 #[.val (.int u0), .val (.int u1), .val (.int u2), .val (.int u3), .val (.int u4), .val (.int u5), .val (.ref aa), .val (.ref b103), .unset, .unset, .unset, .unset, .unset, .unset, .unset, .unset, .unset, .unset, .unset, .unset, .unset] [(.int (255 : Int32)), (.int ((u3.toUInt32 >>> ((8 : Int32) &&& 31).toUInt32).toInt32)), (.int (1 : Int32)), (.ref b103)])) (fun tT_ kK_ => XS.sipush X106.here hx rfl (hb hby at_87) kK_) ?_
  refine own_stW (A := T106.setTop (mkF mM 91 #[.val (.int u0), .val (.int u1), .val (.int u2), .val (.int u3), .val (.int u4), .val (.int u5), .val (.ref aa), .val (.ref b103), .unset, .unset, .unset, .unset, .unset, .unset, .unset, .unset, .unset, .unset, .unset, .unset, .unset] [(.int (((u3.toUInt32 >>> ((8 : Int32) &&& 31).toUInt32).toInt32) &&& (255 : Int32))), (.int (1 : Int32)), (.ref b103)])) (fun tT_ kK_ => XS.iand X106.here hx rfl (hb hby at_90) rfl kK_) ?_
  refine own_stW (A := T106.setTop (mkF mM 92 #[.val (.int u0), .val (.int u1), .val (.int u2), .val (.int u3), .val (.int u4), .val (.int u5), .val (.ref aa), .val (.ref b103), .unset, .unset, .unset, .unset, .unset, .unset, .unset, .unset, .unset, .unset, .unset, .unset, .unset] [(.int (((((u3.toUInt32 >>> ((8 : Int32) &&& 31).toUInt32).toInt32) &&& (255 : Int32))).toUInt32.toUInt16.toUInt32.toInt32)), (.int (1 : Int32)), (.ref b103)])) (fun tT_ kK_ => XS.i2c X106.here hx rfl (hb hby at_91) rfl kK_) ?_
  obtain ⟨cl108, Ar108, q108, S108, Nn108, H108, G108⟩ := id A_b103
  obtain ⟨T109, h109, X109, e109, W109, st109⟩ := stC X106 hx hZ e106 Ar108 (j := (1 : Int32)) (inb_of S108 ⟨by decide, by decide⟩) (g := (mkF mM 92 #[.val (.int u0), .val (.int u1), .val (.int u2), .val (.int u3), .val (.int u4), .val (.int u5), .val (.ref aa), .val (.ref b103), .unset, .unset, .unset, .unset, .unset, .unset, .unset, .unset, .unset, .unset, .unset, .unset, .unset] [(.int (((((u3.toUInt32 >>> ((8 : Int32) &&& 31).toUInt32).toInt32) &&& (255 : Int32))).toUInt32.toUInt16.toUInt32.toInt32)), (.int (1 : Int32)), (.ref b103)])) rfl rfl (hb hby at_92)
  have N109 := Fr.snoc X109 N106 g_b103
  have E_aa := E_aa.wr W109
  have hk := Nat.le_trans hk (Keep.of_wr W109).1
  have O := O.wr W109 g_b103
  have Zn := Nat.le_trans Zn (Keep.of_wr W109).1
  have A_b103 : Arv Z h109 b103 k103 .char 2 [(.int (((u3 &&& (255 : Int32))).toUInt32.toUInt16.toUInt32.toInt32)), (.int (nar .char (((((u3.toUInt32 >>> ((8 : Int32) &&& 31).toUInt32).toInt32) &&& (255 : Int32))).toUInt32.toUInt16.toUInt32.toInt32)))] (.int (0 : Int32)) := Arv.set Ar108 q108 S108 Nn108 H108 G108 (fits_nar_char _) W109 1 rfl (Nat.le_of_ble_eq_true rfl)
  refine own_stW (A := T109.setTop (mkF mM 93 #[.val (.int u0), .val (.int u1), .val (.int u2), .val (.int u3), .val (.int u4), .val (.int u5), .val (.ref aa), .val (.ref b103), .unset, .unset, .unset, .unset, .unset, .unset, .unset, .unset, .unset, .unset, .unset, .unset, .unset] [])) (fun tT_ kK_ => st109 tT_ kK_) ?_
  rw [(own_Ck _ : Ck (((((u3.toUInt32 >>> ((8 : Int32) &&& 31).toUInt32).toInt32) &&& (255 : Int32))).toUInt32.toUInt16.toUInt32.toInt32)).1] at A_b103
  refine own_stW (A := T109.setTop (mkF mM 95 #[.val (.int u0), .val (.int u1), .val (.int u2), .val (.int u3), .val (.int u4), .val (.int u5), .val (.ref aa), .val (.ref b103), .unset, .unset, .unset, .unset, .unset, .unset, .unset, .unset, .unset, .unset, .unset, .unset, .unset] [(.ref b103)])) (fun tT_ kK_ => XS.aload X109.here hx rfl (hb hby at_93) rfl rfl kK_) ?_
  obtain ⟨cl110, Ar110, q110, S110, Nn110, H110, G110⟩ := id A_b103
  refine own_stW (A := T109.setTop (mkF mM 96 #[.val (.int u0), .val (.int u1), .val (.int u2), .val (.int u3), .val (.int u4), .val (.int u5), .val (.ref aa), .val (.ref b103), .unset, .unset, .unset, .unset, .unset, .unset, .unset, .unset, .unset, .unset, .unset, .unset, .unset] [(.int (2 : Int32))])) (fun tT_ kK_ => X109.arraylength hx (by rw [e109]; exact Ar110.1) (State.isArrayOf_alike hZ.alike Ar110.2.1) (g := (mkF mM 95 #[.val (.int u0), .val (.int u1), .val (.int u2), .val (.int u3), .val (.int u4), .val (.int u5), .val (.ref aa), .val (.ref b103), .unset, .unset, .unset, .unset, .unset, .unset, .unset, .unset, .unset, .unset, .unset, .unset, .unset] [(.ref b103)])) rfl rfl (hb hby at_95) tT_ (by rw [len_of S110 Nn110]; exact kK_)) ?_
  refine own_stW (A := T109.setTop (mkF mM 97 #[.val (.int u0), .val (.int u1), .val (.int u2), .val (.int u3), .val (.int u4), .val (.int u5), .val (.ref aa), .val (.ref b103), .unset, .unset, .unset, .unset, .unset, .unset, .unset, .unset, .unset, .unset, .unset, .unset, .unset] [(.int (2 : Int32)), (.int (2 : Int32))])) (fun tT_ kK_ => XS.iconst X109.here hx rfl (hb hby at_96) kK_) ?_
  refine own_stW (A := T109.setTop (mkF mM 113 #[.val (.int u0), .val (.int u1), .val (.int u2), .val (.int u3), .val (.int u4), .val (.int u5), .val (.ref aa), .val (.ref b103), .unset, .unset, .unset, .unset, .unset, .unset, .unset, .unset, .unset, .unset, .unset, .unset, .unset] [])) (fun tT_ kK_ => XS.icmpYes X109.here hx rfl (pc0 := 97) (pc' := 113) rfl (hb hby at_97) rfl (flt (by decide : ¬ ((2 : Int32) < (2 : Int32)))).2.2.2 (by decide) (by decide) kK_) ?_
  obtain ⟨T111, h111, X111, e111, E111, A111, D111, -, st111⟩ := newO X109 hx hZ hown (hw _ (List.mem_of_getElem? (i := 2) rfl)) (hw _ (List.mem_of_getElem? (i := 3) rfl)) (hw _ (List.mem_of_getElem? (i := 4) rfl)) e109 (g := (mkF mM 113 #[.val (.int u0), .val (.int u1), .val (.int u2), .val (.int u3), .val (.int u4), .val (.int u5), .val (.ref aa), .val (.ref b103), .unset, .unset, .unset, .unset, .unset, .unset, .unset, .unset, .unset, .unset, .unset, .unset, .unset] [])) rfl (hb hby at_113) (by decide) (by decide)
  obtain ⟨b111, g111⟩ : ∃ z, z = h109.size := ⟨_, rfl⟩
  rw [← g111] at A111 D111 st111
  have ne_aa_b111 : aa ≠ b111 := Nat.ne_of_lt (Nat.lt_of_lt_of_le E_aa.lt (Nat.le_of_eq g111.symm))
  have ne_b103_b111 : b103 ≠ b111 := Nat.ne_of_lt (Nat.lt_of_lt_of_le A_b103.lt (Nat.le_of_eq g111.symm))
  have g_b111 : n0 ≤ b111 := Nat.le_trans Zn (Nat.le_of_eq g111.symm)
  have E_aa := E_aa.ext E111
  have O := O.ext E111
  have A_b103 := A_b103.ext E111
  have hk := Nat.le_trans hk E111.1
  have Zn := Nat.le_trans Zn E111.1
  have E_b111 := A111
  have F_b111_value : Fld Z h111 b111 "java/lang/String" "value" "[B" .null := D111 (Or.inr (hw _ (List.mem_of_getElem? (i := 16) rfl))) (ty := (.array .byte)) (by decide)
  have F_b111_coder : Fld Z h111 b111 "java/lang/String" "coder" "B" (.int (0 : Int32)) := D111 (Or.inr (hw _ (List.mem_of_getElem? (i := 17) rfl))) (ty := .byte) (by decide)
  refine own_stW (A := T111.setTop (mkF mM 116 #[.val (.int u0), .val (.int u1), .val (.int u2), .val (.int u3), .val (.int u4), .val (.int u5), .val (.ref aa), .val (.ref b103), .unset, .unset, .unset, .unset, .unset, .unset, .unset, .unset, .unset, .unset, .unset, .unset, .unset] [(.ref b111)])) (fun tT_ kK_ => st111 tT_ kK_) ?_
  refine own_stW (A := T111.setTop (mkF mM 117 #[.val (.int u0), .val (.int u1), .val (.int u2), .val (.int u3), .val (.int u4), .val (.int u5), .val (.ref aa), .val (.ref b103), .unset, .unset, .unset, .unset, .unset, .unset, .unset, .unset, .unset, .unset, .unset, .unset, .unset] [(.ref b111), (.ref b111)])) (fun tT_ kK_ => XS.dup X111.here hx rfl (hb hby at_116) rfl rfl kK_) ?_
  refine own_stW (A := T111.setTop (mkF mM 119 #[.val (.int u0), .val (.int u1), .val (.int u2), .val (.int u3), .val (.int u4), .val (.int u5), .val (.ref aa), .val (.ref b103), .unset, .unset, .unset, .unset, .unset, .unset, .unset, .unset, .unset, .unset, .unset, .unset, .unset] [(.ref b103), (.ref b111), (.ref b111)])) (fun tT_ kK_ => XS.aload X111.here hx rfl (hb hby at_117) rfl rfl kK_) ?_
  obtain ⟨_, _, ⟨T112, L112, k112, n112⟩, -, X112, ⟨Lc112, hQ112, l112, y112, z112⟩, st112⟩ := X111.specialBack hx (y := (⟨"java/lang/String", "<init>", "([C)V"⟩ : MethodName)) rfl hown (mvT hZ (hw _ (List.mem_of_getElem? (i := 5) rfl))) (mvT hZ (hw _ (List.mem_of_getElem? (i := 6) rfl))) (mvT hZ (hw _ (List.mem_of_getElem? (i := 7) rfl))) (by decide) (backOf (W := 1) (rmS1_2 lL Z a0 hw [] b111 b103 k103 cs ((((u3 &&& (255 : Int32))).toUInt32.toUInt16.toUInt32.toInt32)) ((((((u3.toUInt32 >>> ((8 : Int32) &&& 31).toUInt32).toInt32) &&& (255 : Int32))).toUInt32.toUInt16.toUInt32.toInt32)) h111 n0 g_b111 E_b111 F_b111_value F_b111_coder A_b103 ne_b103_b111 O Zn S_cs hcs (own_Ck _) (own_Ck _)) hZ (hw _ (List.mem_of_getElem? (i := 7) rfl)) (hw _ (List.mem_of_getElem? (i := 4) rfl)) (by decide) (by decide)) (g := (mkF mM 119 #[.val (.int u0), .val (.int u1), .val (.int u2), .val (.int u3), .val (.int u4), .val (.int u5), .val (.ref aa), .val (.ref b103), .unset, .unset, .unset, .unset, .unset, .unset, .unset, .unset, .unset, .unset, .unset, .unset, .unset] [(.ref b103), (.ref b111), (.ref b111)])) rfl (by rw [hml]; rfl) (Steps.refl _) (a := b111) (argsL := [(.ref b103)]) (rest := [(.ref b111)]) (lenOf pd__28_5bC_29V rfl) rfl (by show 2 * 0 + _ ≤ _; exact Nat.le_of_eq rfl) (hb hby at_119) (fun _ _ => ⟨rfl, e111, (by decide : 3 + 1 ≤ _), (by decide : 9 + 2 ≤ _)⟩)
  dsimp only [Pt.U, Pt.locs, Pt.cells, Pt.slots] at X112 l112 y112 z112 st112 hQ112
  subst l112 y112 z112
  obtain ⟨d112, k112', rfl, N112q, K112, str112, ge112⟩ := hQ112
  have N112 := Fr.app N109 N112q
  have e112 : T112.heap = T112.heap := rfl
  refine own_stW (A := T112.setTop (mkF mM 122 #[.val (.int u0), .val (.int u1), .val (.int u2), .val (.int u3), .val (.int u4), .val (.int u5), .val (.ref aa), .val (.ref b103), .unset, .unset, .unset, .unset, .unset, .unset, .unset, .unset, .unset, .unset, .unset, .unset, .unset] [(.ref b111)])) (fun tT_ kK_ => st112.trans kK_) ?_
  have E_aa := E_aa.keep K112
  have E_b111 := E_b111.keep K112
  have A_b103 := A_b103.keep K112 (ninS ne_b103_b111 nin0)
  have hk := Nat.le_trans hk K112.1
  have O := O.keep K112 (allS g_b111 all0)
  have Zn := Nat.le_trans Zn K112.1
  exact J122 hw (X112.more (by decide) (by decide)) hx hZ hby hml hown hlk hret hS hk e112 N112 u0 u1 u2 u3 u4 u5 aa b103 b111 Zn E_aa E_b111
set_option maxRecDepth 65536 in
set_option maxHeartbeats 40000000 in
theorem J53_3 {pP : Program} {lL : Launch} {eE : Env} {sS : State} {mM : MethodId} {args : Array Value} {below : List Frame} {meth : Method} {cC : Code} {T0 : State} {locs : List Loc} {Z : State} {a0 : Array Value} {h0 : Heap} {n0 : Nat} {vmV : Vm} (hw : ∀ d ∈ tables_1, d.before a0 Z = true) (X0 : Stand pP lL eE room_1 (sS.setVm vmV) mM args below meth cC T0 locs 1 3) (hx : pP.tables.exec = Jvm.exec) (hZ : Z.Warmed39 (sS.setVm vmV).vm) (hby : cC.code = code) (hml : cC.maxLocals = 21) (hown : (sS.setVm vmV).vm.findClass "com/example/libttl/libttl/KeyFormPinLaw" = some mM.cls) (hlk : meth.locks = false) (hret : meth.sig.returnType = ret) {kV : Nat} (hS : sS.Since vmV kV) (hk : kV ≤ h0.size) (e0 : T0.heap = h0) (N0 : Fr n0 locs) (u0 : Int32) (u1 : Int32) (u2 : Int32) (u3 : Int32) (u4 : Int32) (u5 : Int32) (aa : Addr) (cs : Int32) (E_aa : Exa Z h0 aa "[B") (O : Old Z n0 h0) (Zn : n0 ≤ h0.size) (S_cs : Sta Z Z.heap "java/lang/String" "COMPACT_STRINGS" "Z" (.int cs)) (hcs : ¬ cs = (0 : Int32)) (hcw : Jvm.Lit.compactW.before a0 Z = true) (hheld : Jvm.Lit.constHeld Z "java/lang/String" 7) (hI : vmV.interned = Z.vm.interned) :
    own_GoW pP eE below sS (QLaw n0) 32 1152 (T0.setTop (mkF mM 53 #[.val (.int u0), .val (.int u1), .val (.int u2), .val (.int u3), .val (.int u4), .val (.int u5), .val (.ref aa), .unset, .unset, .unset, .unset, .unset, .unset, .unset, .unset, .unset, .unset, .unset, .unset, .unset, .unset] [(.int (3 : Int32))])) := by
  obtain ⟨T113, h113, k113, X113, e113, E113, A113, st113⟩ := newP X0 hx hZ (hw _ (List.mem_of_getElem? (i := 1) rfl)) e0 (g := (mkF mM 53 #[.val (.int u0), .val (.int u1), .val (.int u2), .val (.int u3), .val (.int u4), .val (.int u5), .val (.ref aa), .unset, .unset, .unset, .unset, .unset, .unset, .unset, .unset, .unset, .unset, .unset, .unset, .unset, .unset] [(.int (3 : Int32))])) rfl (hb hby at_53) rfl (by decide) (cap := 3) (by decide) (by decide) (by decide) (by decide)
  obtain ⟨b113, g113⟩ : ∃ z, z = h0.size := ⟨_, rfl⟩
  rw [← g113] at A113 st113
  have ne_aa_b113 : aa ≠ b113 := Nat.ne_of_lt (Nat.lt_of_lt_of_le E_aa.lt (Nat.le_of_eq g113.symm))
  have g_b113 : n0 ≤ b113 := Nat.le_trans Zn (Nat.le_of_eq g113.symm)
  have E_aa := E_aa.ext E113
  have O := O.ext E113
  have hk := Nat.le_trans hk E113.1
  have Zn := Nat.le_trans Zn E113.1
  have A_b113 : Arv Z h113 b113 k113 .char 3 [(.int (0 : Int32)), (.int (0 : Int32)), (.int (0 : Int32))] (.int (0 : Int32)) := (Arv.new A113 (by decide)).pad (pad_rep [] (.int (0 : Int32)) 3)
  refine own_stW (A := T113.setTop (mkF mM 55 #[.val (.int u0), .val (.int u1), .val (.int u2), .val (.int u3), .val (.int u4), .val (.int u5), .val (.ref aa), .unset, .unset, .unset, .unset, .unset, .unset, .unset, .unset, .unset, .unset, .unset, .unset, .unset, .unset] [(.ref b113)])) (fun tT_ kK_ => st113 tT_ kK_) ?_
  refine own_stW (A := T113.setTop (mkF mM 57 #[.val (.int u0), .val (.int u1), .val (.int u2), .val (.int u3), .val (.int u4), .val (.int u5), .val (.ref aa), .val (.ref b113), .unset, .unset, .unset, .unset, .unset, .unset, .unset, .unset, .unset, .unset, .unset, .unset, .unset] [])) (fun tT_ kK_ => XS.astore X113.here hx rfl (hb hby at_55) rfl rfl (l' := #[.val (.int u0), .val (.int u1), .val (.int u2), .val (.int u3), .val (.int u4), .val (.int u5), .val (.ref aa), .val (.ref b113), .unset, .unset, .unset, .unset, .unset, .unset, .unset, .unset, .unset, .unset, .unset, .unset, .unset]) rfl kK_) ?_
  refine own_stW (A := T113.setTop (mkF mM 59 #[.val (.int u0), .val (.int u1), .val (.int u2), .val (.int u3), .val (.int u4), .val (.int u5), .val (.ref aa), .val (.ref b113), .unset, .unset, .unset, .unset, .unset, .unset, .unset, .unset, .unset, .unset, .unset, .unset, .unset] [(.ref b113)])) (fun tT_ kK_ => XS.aload X113.here hx rfl (hb hby at_57) rfl rfl kK_) ?_
  obtain ⟨cl114, Ar114, q114, S114, Nn114, H114, G114⟩ := id A_b113
  refine own_stW (A := T113.setTop (mkF mM 60 #[.val (.int u0), .val (.int u1), .val (.int u2), .val (.int u3), .val (.int u4), .val (.int u5), .val (.ref aa), .val (.ref b113), .unset, .unset, .unset, .unset, .unset, .unset, .unset, .unset, .unset, .unset, .unset, .unset, .unset] [(.int (3 : Int32))])) (fun tT_ kK_ => X113.arraylength hx (by rw [e113]; exact Ar114.1) (State.isArrayOf_alike hZ.alike Ar114.2.1) (g := (mkF mM 59 #[.val (.int u0), .val (.int u1), .val (.int u2), .val (.int u3), .val (.int u4), .val (.int u5), .val (.ref aa), .val (.ref b113), .unset, .unset, .unset, .unset, .unset, .unset, .unset, .unset, .unset, .unset, .unset, .unset, .unset] [(.ref b113)])) rfl rfl (hb hby at_59) tT_ (by rw [len_of S114 Nn114]; exact kK_)) ?_
  refine own_stW (A := T113.setTop (mkF mM 63 #[.val (.int u0), .val (.int u1), .val (.int u2), .val (.int u3), .val (.int u4), .val (.int u5), .val (.ref aa), .val (.ref b113), .unset, .unset, .unset, .unset, .unset, .unset, .unset, .unset, .unset, .unset, .unset, .unset, .unset] [])) (fun tT_ kK_ => XS.ifNo X113.here hx rfl (hb hby at_60) rfl ((if0 _ _).trans (tlt (by decide : ((0 : Int32) < (3 : Int32)))).2.2.2) kK_) ?_
  refine own_stW (A := T113.setTop (mkF mM 65 #[.val (.int u0), .val (.int u1), .val (.int u2), .val (.int u3), .val (.int u4), .val (.int u5), .val (.ref aa), .val (.ref b113), .unset, .unset, .unset, .unset, .unset, .unset, .unset, .unset, .unset, .unset, .unset, .unset, .unset] [(.ref b113)])) (fun tT_ kK_ => XS.aload X113.here hx rfl (hb hby at_63) rfl rfl kK_) ?_
  refine own_stW (A := T113.setTop (mkF mM 66 #[.val (.int u0), .val (.int u1), .val (.int u2), .val (.int u3), .val (.int u4), .val (.int u5), .val (.ref aa), .val (.ref b113), .unset, .unset, .unset, .unset, .unset, .unset, .unset, .unset, .unset, .unset, .unset, .unset, .unset] [(.int (0 : Int32)), (.ref b113)])) (fun tT_ kK_ => XS.iconst X113.here hx rfl (hb hby at_65) kK_) ?_
  refine own_stW (A := T113.setTop (mkF mM 67 #[.val (.int u0), .val (.int u1), .val (.int u2), .val (.int u3), .val (.int u4), .val (.int u5), .val (.ref aa), .val (.ref b113), .unset, .unset, .unset, .unset, .unset, .unset, .unset, .unset, .unset, .unset, .unset, .unset, .unset] [(.int u3), (.int (0 : Int32)), (.ref b113)])) (fun tT_ kK_ => XS.iloadN X113.here hx rfl (hb hby at_66) rfl kK_) ?_
  refine own_stW (A := T113.setTop (mkF mM 70 #[.val (.int u0), .val (.int u1), .val (.int u2), .val (.int u3), .val (.int u4), .val (.int u5), .val (.ref aa), .val (.ref b113), .unset, .unset, .unset, .unset, .unset, .unset, .unset, .unset, .unset, .unset, .unset, .unset, .unset] [(.int (255 : Int32)), (.int u3), (.int (0 : Int32)), (.ref b113)])) (fun tT_ kK_ => XS.sipush X113.here hx rfl (hb hby at_67) kK_) ?_
  refine own_stW (A := T113.setTop (mkF mM 71 #[.val (.int u0), .val (.int u1), .val (.int u2), .val (.int u3), .val (.int u4), .val (.int u5), .val (.ref aa), .val (.ref b113), .unset, .unset, .unset, .unset, .unset, .unset, .unset, .unset, .unset, .unset, .unset, .unset, .unset] [(.int (u3 &&& (255 : Int32))), (.int (0 : Int32)), (.ref b113)])) (fun tT_ kK_ => XS.iand X113.here hx rfl (hb hby at_70) rfl kK_) ?_
  refine own_stW (A := T113.setTop (mkF mM 72 #[.val (.int u0), .val (.int u1), .val (.int u2), .val (.int u3), .val (.int u4), .val (.int u5), .val (.ref aa), .val (.ref b113), .unset, .unset, .unset, .unset, .unset, .unset, .unset, .unset, .unset, .unset, .unset, .unset, .unset] [(.int (((u3 &&& (255 : Int32))).toUInt32.toUInt16.toUInt32.toInt32)), (.int (0 : Int32)), (.ref b113)])) (fun tT_ kK_ => XS.i2c X113.here hx rfl (hb hby at_71) rfl kK_) ?_
  obtain ⟨cl115, Ar115, q115, S115, Nn115, H115, G115⟩ := id A_b113
  obtain ⟨T116, h116, X116, e116, W116, st116⟩ := stC X113 hx hZ e113 Ar115 (j := (0 : Int32)) (inb_of S115 ⟨by decide, by decide⟩) (g := (mkF mM 72 #[.val (.int u0), .val (.int u1), .val (.int u2), .val (.int u3), .val (.int u4), .val (.int u5), .val (.ref aa), .val (.ref b113), .unset, .unset, .unset, .unset, .unset, .unset, .unset, .unset, .unset, .unset, .unset, .unset, .unset] [(.int (((u3 &&& (255 : Int32))).toUInt32.toUInt16.toUInt32.toInt32)), (.int (0 : Int32)), (.ref b113)])) rfl rfl (hb hby at_72)
  have N116 := Fr.snoc X116 N0 g_b113
  have E_aa := E_aa.wr W116
  have hk := Nat.le_trans hk (Keep.of_wr W116).1
  have O := O.wr W116 g_b113
  have Zn := Nat.le_trans Zn (Keep.of_wr W116).1
  have A_b113 : Arv Z h116 b113 k113 .char 3 [(.int (nar .char (((u3 &&& (255 : Int32))).toUInt32.toUInt16.toUInt32.toInt32))), (.int (0 : Int32)), (.int (0 : Int32))] (.int (0 : Int32)) := Arv.set Ar115 q115 S115 Nn115 H115 G115 (fits_nar_char _) W116 0 rfl (Nat.le_of_ble_eq_true rfl)
  refine own_stW (A := T116.setTop (mkF mM 73 #[.val (.int u0), .val (.int u1), .val (.int u2), .val (.int u3), .val (.int u4), .val (.int u5), .val (.ref aa), .val (.ref b113), .unset, .unset, .unset, .unset, .unset, .unset, .unset, .unset, .unset, .unset, .unset, .unset, .unset] [])) (fun tT_ kK_ => st116 tT_ kK_) ?_
  rw [(own_Ck _ : Ck (((u3 &&& (255 : Int32))).toUInt32.toUInt16.toUInt32.toInt32)).1] at A_b113
  refine own_stW (A := T116.setTop (mkF mM 75 #[.val (.int u0), .val (.int u1), .val (.int u2), .val (.int u3), .val (.int u4), .val (.int u5), .val (.ref aa), .val (.ref b113), .unset, .unset, .unset, .unset, .unset, .unset, .unset, .unset, .unset, .unset, .unset, .unset, .unset] [(.ref b113)])) (fun tT_ kK_ => XS.aload X116.here hx rfl (hb hby at_73) rfl rfl kK_) ?_
  obtain ⟨cl117, Ar117, q117, S117, Nn117, H117, G117⟩ := id A_b113
  refine own_stW (A := T116.setTop (mkF mM 76 #[.val (.int u0), .val (.int u1), .val (.int u2), .val (.int u3), .val (.int u4), .val (.int u5), .val (.ref aa), .val (.ref b113), .unset, .unset, .unset, .unset, .unset, .unset, .unset, .unset, .unset, .unset, .unset, .unset, .unset] [(.int (3 : Int32))])) (fun tT_ kK_ => X116.arraylength hx (by rw [e116]; exact Ar117.1) (State.isArrayOf_alike hZ.alike Ar117.2.1) (g := (mkF mM 75 #[.val (.int u0), .val (.int u1), .val (.int u2), .val (.int u3), .val (.int u4), .val (.int u5), .val (.ref aa), .val (.ref b113), .unset, .unset, .unset, .unset, .unset, .unset, .unset, .unset, .unset, .unset, .unset, .unset, .unset] [(.ref b113)])) rfl rfl (hb hby at_75) tT_ (by rw [len_of S117 Nn117]; exact kK_)) ?_
  refine own_stW (A := T116.setTop (mkF mM 77 #[.val (.int u0), .val (.int u1), .val (.int u2), .val (.int u3), .val (.int u4), .val (.int u5), .val (.ref aa), .val (.ref b113), .unset, .unset, .unset, .unset, .unset, .unset, .unset, .unset, .unset, .unset, .unset, .unset, .unset] [(.int (1 : Int32)), (.int (3 : Int32))])) (fun tT_ kK_ => XS.iconst X116.here hx rfl (hb hby at_76) kK_) ?_
  refine own_stW (A := T116.setTop (mkF mM 80 #[.val (.int u0), .val (.int u1), .val (.int u2), .val (.int u3), .val (.int u4), .val (.int u5), .val (.ref aa), .val (.ref b113), .unset, .unset, .unset, .unset, .unset, .unset, .unset, .unset, .unset, .unset, .unset, .unset, .unset] [])) (fun tT_ kK_ => XS.icmpNo X116.here hx rfl (hb hby at_77) rfl (tlt (by decide : ((1 : Int32) < (3 : Int32)))).2.2.2 kK_) ?_
  refine own_stW (A := T116.setTop (mkF mM 82 #[.val (.int u0), .val (.int u1), .val (.int u2), .val (.int u3), .val (.int u4), .val (.int u5), .val (.ref aa), .val (.ref b113), .unset, .unset, .unset, .unset, .unset, .unset, .unset, .unset, .unset, .unset, .unset, .unset, .unset] [(.ref b113)])) (fun tT_ kK_ => XS.aload X116.here hx rfl (hb hby at_80) rfl rfl kK_) ?_
  refine own_stW (A := T116.setTop (mkF mM 83 #[.val (.int u0), .val (.int u1), .val (.int u2), .val (.int u3), .val (.int u4), .val (.int u5), .val (.ref aa), .val (.ref b113), .unset, .unset, .unset, .unset, .unset, .unset, .unset, .unset, .unset, .unset, .unset, .unset, .unset] [(.int (1 : Int32)), (.ref b113)])) (fun tT_ kK_ => XS.iconst X116.here hx rfl (hb hby at_82) kK_) ?_
  refine own_stW (A := T116.setTop (mkF mM 84 #[.val (.int u0), .val (.int u1), .val (.int u2), .val (.int u3), .val (.int u4), .val (.int u5), .val (.ref aa), .val (.ref b113), .unset, .unset, .unset, .unset, .unset, .unset, .unset, .unset, .unset, .unset, .unset, .unset, .unset] [(.int u3), (.int (1 : Int32)), (.ref b113)])) (fun tT_ kK_ => XS.iloadN X116.here hx rfl (hb hby at_83) rfl kK_) ?_
  refine own_stW (A := T116.setTop (mkF mM 86 #[.val (.int u0), .val (.int u1), .val (.int u2), .val (.int u3), .val (.int u4), .val (.int u5), .val (.ref aa), .val (.ref b113), .unset, .unset, .unset, .unset, .unset, .unset, .unset, .unset, .unset, .unset, .unset, .unset, .unset] [(.int (8 : Int32)), (.int u3), (.int (1 : Int32)), (.ref b113)])) (fun tT_ kK_ => XS.bipush X116.here hx rfl (hb hby at_84) kK_) ?_
  refine own_stW (A := T116.setTop (mkF mM 87 #[.val (.int u0), .val (.int u1), .val (.int u2), .val (.int u3), .val (.int u4), .val (.int u5), .val (.ref aa), .val (.ref b113), .unset, .unset, .unset, .unset, .unset, .unset, .unset, .unset, .unset, .unset, .unset, .unset, .unset] [(.int ((u3.toUInt32 >>> ((8 : Int32) &&& 31).toUInt32).toInt32)), (.int (1 : Int32)), (.ref b113)])) (fun tT_ kK_ => XS.iushr X116.here hx rfl (hb hby at_86) rfl kK_) ?_
  refine own_stW (A := T116.setTop (mkF mM 90 #[.val (.int u0), .val (.int u1), .val (.int u2), .val (.int u3), .val (.int u4), .val (.int u5), .val (.ref aa), .val (.ref b113), .unset, .unset, .unset, .unset, .unset, .unset, .unset, .unset, .unset, .unset, .unset, .unset, .unset] [(.int (255 : Int32)), (.int ((u3.toUInt32 >>> ((8 : Int32) &&& 31).toUInt32).toInt32)), (.int (1 : Int32)), (.ref b113)])) (fun tT_ kK_ => XS.sipush X116.here hx rfl (hb hby at_87) kK_) ?_
  refine own_stW (A := T116.setTop (mkF mM 91 #[.val (.int u0), .val (.int u1), .val (.int u2), .val (.int u3), .val (.int u4), .val (.int u5), .val (.ref aa), .val (.ref b113), .unset, .unset, .unset, .unset, .unset, .unset, .unset, .unset, .unset, .unset, .unset, .unset, .unset] [(.int (((u3.toUInt32 >>> ((8 : Int32) &&& 31).toUInt32).toInt32) &&& (255 : Int32))), (.int (1 : Int32)), (.ref b113)])) (fun tT_ kK_ => XS.iand X116.here hx rfl (hb hby at_90) rfl kK_) ?_
  refine own_stW (A := T116.setTop (mkF mM 92 #[.val (.int u0), .val (.int u1), .val (.int u2), .val (.int u3), .val (.int u4), .val (.int u5), .val (.ref aa), .val (.ref b113), .unset, .unset, .unset, .unset, .unset, .unset, .unset, .unset, .unset, .unset, .unset, .unset, .unset] [(.int (((((u3.toUInt32 >>> ((8 : Int32) &&& 31).toUInt32).toInt32) &&& (255 : Int32))).toUInt32.toUInt16.toUInt32.toInt32)), (.int (1 : Int32)), (.ref b113)])) (fun tT_ kK_ => XS.i2c X116.here hx rfl (hb hby at_91) rfl kK_) ?_
  obtain ⟨cl118, Ar118, q118, S118, Nn118, H118, G118⟩ := id A_b113
  obtain ⟨T119, h119, X119, e119, W119, st119⟩ := stC X116 hx hZ e116 Ar118 (j := (1 : Int32)) (inb_of S118 ⟨by decide, by decide⟩) (g := (mkF mM 92 #[.val (.int u0), .val (.int u1), .val (.int u2), .val (.int u3), .val (.int u4), .val (.int u5), .val (.ref aa), .val (.ref b113), .unset, .unset, .unset, .unset, .unset, .unset, .unset, .unset, .unset, .unset, .unset, .unset, .unset] [(.int (((((u3.toUInt32 >>> ((8 : Int32) &&& 31).toUInt32).toInt32) &&& (255 : Int32))).toUInt32.toUInt16.toUInt32.toInt32)), (.int (1 : Int32)), (.ref b113)])) rfl rfl (hb hby at_92)
  have N119 := Fr.snoc X119 N116 g_b113
  have E_aa := E_aa.wr W119
  have hk := Nat.le_trans hk (Keep.of_wr W119).1
  have O := O.wr W119 g_b113
  have Zn := Nat.le_trans Zn (Keep.of_wr W119).1
  have A_b113 : Arv Z h119 b113 k113 .char 3 [(.int (((u3 &&& (255 : Int32))).toUInt32.toUInt16.toUInt32.toInt32)), (.int (nar .char (((((u3.toUInt32 >>> ((8 : Int32) &&& 31).toUInt32).toInt32) &&& (255 : Int32))).toUInt32.toUInt16.toUInt32.toInt32))), (.int (0 : Int32))] (.int (0 : Int32)) := Arv.set Ar118 q118 S118 Nn118 H118 G118 (fits_nar_char _) W119 1 rfl (Nat.le_of_ble_eq_true rfl)
  refine own_stW (A := T119.setTop (mkF mM 93 #[.val (.int u0), .val (.int u1), .val (.int u2), .val (.int u3), .val (.int u4), .val (.int u5), .val (.ref aa), .val (.ref b113), .unset, .unset, .unset, .unset, .unset, .unset, .unset, .unset, .unset, .unset, .unset, .unset, .unset] [])) (fun tT_ kK_ => st119 tT_ kK_) ?_
  rw [(own_Ck _ : Ck (((((u3.toUInt32 >>> ((8 : Int32) &&& 31).toUInt32).toInt32) &&& (255 : Int32))).toUInt32.toUInt16.toUInt32.toInt32)).1] at A_b113
  refine own_stW (A := T119.setTop (mkF mM 95 #[.val (.int u0), .val (.int u1), .val (.int u2), .val (.int u3), .val (.int u4), .val (.int u5), .val (.ref aa), .val (.ref b113), .unset, .unset, .unset, .unset, .unset, .unset, .unset, .unset, .unset, .unset, .unset, .unset, .unset] [(.ref b113)])) (fun tT_ kK_ => XS.aload X119.here hx rfl (hb hby at_93) rfl rfl kK_) ?_
  obtain ⟨cl120, Ar120, q120, S120, Nn120, H120, G120⟩ := id A_b113
  refine own_stW (A := T119.setTop (mkF mM 96 #[.val (.int u0), .val (.int u1), .val (.int u2), .val (.int u3), .val (.int u4), .val (.int u5), .val (.ref aa), .val (.ref b113), .unset, .unset, .unset, .unset, .unset, .unset, .unset, .unset, .unset, .unset, .unset, .unset, .unset] [(.int (3 : Int32))])) (fun tT_ kK_ => X119.arraylength hx (by rw [e119]; exact Ar120.1) (State.isArrayOf_alike hZ.alike Ar120.2.1) (g := (mkF mM 95 #[.val (.int u0), .val (.int u1), .val (.int u2), .val (.int u3), .val (.int u4), .val (.int u5), .val (.ref aa), .val (.ref b113), .unset, .unset, .unset, .unset, .unset, .unset, .unset, .unset, .unset, .unset, .unset, .unset, .unset] [(.ref b113)])) rfl rfl (hb hby at_95) tT_ (by rw [len_of S120 Nn120]; exact kK_)) ?_
  refine own_stW (A := T119.setTop (mkF mM 97 #[.val (.int u0), .val (.int u1), .val (.int u2), .val (.int u3), .val (.int u4), .val (.int u5), .val (.ref aa), .val (.ref b113), .unset, .unset, .unset, .unset, .unset, .unset, .unset, .unset, .unset, .unset, .unset, .unset, .unset] [(.int (2 : Int32)), (.int (3 : Int32))])) (fun tT_ kK_ => XS.iconst X119.here hx rfl (hb hby at_96) kK_) ?_
  refine own_stW (A := T119.setTop (mkF mM 100 #[.val (.int u0), .val (.int u1), .val (.int u2), .val (.int u3), .val (.int u4), .val (.int u5), .val (.ref aa), .val (.ref b113), .unset, .unset, .unset, .unset, .unset, .unset, .unset, .unset, .unset, .unset, .unset, .unset, .unset] [])) (fun tT_ kK_ => XS.icmpNo X119.here hx rfl (hb hby at_97) rfl (tlt (by decide : ((2 : Int32) < (3 : Int32)))).2.2.2 kK_) ?_
  refine own_stW (A := T119.setTop (mkF mM 102 #[.val (.int u0), .val (.int u1), .val (.int u2), .val (.int u3), .val (.int u4), .val (.int u5), .val (.ref aa), .val (.ref b113), .unset, .unset, .unset, .unset, .unset, .unset, .unset, .unset, .unset, .unset, .unset, .unset, .unset] [(.ref b113)])) (fun tT_ kK_ => XS.aload X119.here hx rfl (hb hby at_100) rfl rfl kK_) ?_
  refine own_stW (A := T119.setTop (mkF mM 103 #[.val (.int u0), .val (.int u1), .val (.int u2), .val (.int u3), .val (.int u4), .val (.int u5), .val (.ref aa), .val (.ref b113), .unset, .unset, .unset, .unset, .unset, .unset, .unset, .unset, .unset, .unset, .unset, .unset, .unset] [(.int (2 : Int32)), (.ref b113)])) (fun tT_ kK_ => XS.iconst X119.here hx rfl (hb hby at_102) kK_) ?_
  refine own_stW (A := T119.setTop (mkF mM 104 #[.val (.int u0), .val (.int u1), .val (.int u2), .val (.int u3), .val (.int u4), .val (.int u5), .val (.ref aa), .val (.ref b113), .unset, .unset, .unset, .unset, .unset, .unset, .unset, .unset, .unset, .unset, .unset, .unset, .unset] [(.int u3), (.int (2 : Int32)), (.ref b113)])) (fun tT_ kK_ => XS.iloadN X119.here hx rfl (hb hby at_103) rfl kK_) ?_
  refine own_stW (A := T119.setTop (mkF mM 106 #[.val (.int u0), .val (.int u1), .val (.int u2), .val (.int u3), .val (.int u4), .val (.int u5), .val (.ref aa), .val (.ref b113), .unset, .unset, .unset, .unset, .unset, .unset, .unset, .unset, .unset, .unset, .unset, .unset, .unset] [(.int (16 : Int32)), (.int u3), (.int (2 : Int32)), (.ref b113)])) (fun tT_ kK_ => XS.bipush X119.here hx rfl (hb hby at_104) kK_) ?_
  refine own_stW (A := T119.setTop (mkF mM 107 #[.val (.int u0), .val (.int u1), .val (.int u2), .val (.int u3), .val (.int u4), .val (.int u5), .val (.ref aa), .val (.ref b113), .unset, .unset, .unset, .unset, .unset, .unset, .unset, .unset, .unset, .unset, .unset, .unset, .unset] [(.int ((u3.toUInt32 >>> ((16 : Int32) &&& 31).toUInt32).toInt32)), (.int (2 : Int32)), (.ref b113)])) (fun tT_ kK_ => XS.iushr X119.here hx rfl (hb hby at_106) rfl kK_) ?_
  refine own_stW (A := T119.setTop (mkF mM 110 #[.val (.int u0), .val (.int u1), .val (.int u2), .val (.int u3), .val (.int u4), .val (.int u5), .val (.ref aa), .val (.ref b113), .unset, .unset, .unset, .unset, .unset, .unset, .unset, .unset, .unset, .unset, .unset, .unset, .unset] [(.int (255 : Int32)), (.int ((u3.toUInt32 >>> ((16 : Int32) &&& 31).toUInt32).toInt32)), (.int (2 : Int32)), (.ref b113)])) (fun tT_ kK_ => XS.sipush X119.here hx rfl (hb hby at_107) kK_) ?_
  refine own_stW (A := T119.setTop (mkF mM 111 #[.val (.int u0), .val (.int u1), .val (.int u2), .val (.int u3), .val (.int u4), .val (.int u5), .val (.ref aa), .val (.ref b113), .unset, .unset, .unset, .unset, .unset, .unset, .unset, .unset, .unset, .unset, .unset, .unset, .unset] [(.int (((u3.toUInt32 >>> ((16 : Int32) &&& 31).toUInt32).toInt32) &&& (255 : Int32))), (.int (2 : Int32)), (.ref b113)])) (fun tT_ kK_ => XS.iand X119.here hx rfl (hb hby at_110) rfl kK_) ?_
  refine own_stW (A := T119.setTop (mkF mM 112 #[.val (.int u0), .val (.int u1), .val (.int u2), .val (.int u3), .val (.int u4), .val (.int u5), .val (.ref aa), .val (.ref b113), .unset, .unset, .unset, .unset, .unset, .unset, .unset, .unset, .unset, .unset, .unset, .unset, .unset] [(.int (((((u3.toUInt32 >>> ((16 : Int32) &&& 31).toUInt32).toInt32) &&& (255 : Int32))).toUInt32.toUInt16.toUInt32.toInt32)), (.int (2 : Int32)), (.ref b113)])) (fun tT_ kK_ => XS.i2c X119.here hx rfl (hb hby at_111) rfl kK_) ?_
  obtain ⟨cl121, Ar121, q121, S121, Nn121, H121, G121⟩ := id A_b113
  obtain ⟨T122, h122, X122, e122, W122, st122⟩ := stC X119 hx hZ e119 Ar121 (j := (2 : Int32)) (inb_of S121 ⟨by decide, by decide⟩) (g := (mkF mM 112 #[.val (.int u0), .val (.int u1), .val (.int u2), .val (.int u3), .val (.int u4), .val (.int u5), .val (.ref aa), .val (.ref b113), .unset, .unset, .unset, .unset, .unset, .unset, .unset, .unset, .unset, .unset, .unset, .unset, .unset] [(.int (((((u3.toUInt32 >>> ((16 : Int32) &&& 31).toUInt32).toInt32) &&& (255 : Int32))).toUInt32.toUInt16.toUInt32.toInt32)), (.int (2 : Int32)), (.ref b113)])) rfl rfl (hb hby at_112)
  have N122 := Fr.snoc X122 N119 g_b113
  have E_aa := E_aa.wr W122
  have hk := Nat.le_trans hk (Keep.of_wr W122).1
  have O := O.wr W122 g_b113
  have Zn := Nat.le_trans Zn (Keep.of_wr W122).1
  have A_b113 : Arv Z h122 b113 k113 .char 3 [(.int (((u3 &&& (255 : Int32))).toUInt32.toUInt16.toUInt32.toInt32)), (.int (((((u3.toUInt32 >>> ((8 : Int32) &&& 31).toUInt32).toInt32) &&& (255 : Int32))).toUInt32.toUInt16.toUInt32.toInt32)), (.int (nar .char (((((u3.toUInt32 >>> ((16 : Int32) &&& 31).toUInt32).toInt32) &&& (255 : Int32))).toUInt32.toUInt16.toUInt32.toInt32)))] (.int (0 : Int32)) := Arv.set Ar121 q121 S121 Nn121 H121 G121 (fits_nar_char _) W122 2 rfl (Nat.le_of_ble_eq_true rfl)
  refine own_stW (A := T122.setTop (mkF mM 113 #[.val (.int u0), .val (.int u1), .val (.int u2), .val (.int u3), .val (.int u4), .val (.int u5), .val (.ref aa), .val (.ref b113), .unset, .unset, .unset, .unset, .unset, .unset, .unset, .unset, .unset, .unset, .unset, .unset, .unset] [])) (fun tT_ kK_ => st122 tT_ kK_) ?_
  rw [(own_Ck _ : Ck (((((u3.toUInt32 >>> ((16 : Int32) &&& 31).toUInt32).toInt32) &&& (255 : Int32))).toUInt32.toUInt16.toUInt32.toInt32)).1] at A_b113
  obtain ⟨T123, h123, X123, e123, E123, A123, D123, -, st123⟩ := newO X122 hx hZ hown (hw _ (List.mem_of_getElem? (i := 2) rfl)) (hw _ (List.mem_of_getElem? (i := 3) rfl)) (hw _ (List.mem_of_getElem? (i := 4) rfl)) e122 (g := (mkF mM 113 #[.val (.int u0), .val (.int u1), .val (.int u2), .val (.int u3), .val (.int u4), .val (.int u5), .val (.ref aa), .val (.ref b113), .unset, .unset, .unset, .unset, .unset, .unset, .unset, .unset, .unset, .unset, .unset, .unset, .unset] [])) rfl (hb hby at_113) (by decide) (by decide)
  obtain ⟨b123, g123⟩ : ∃ z, z = h122.size := ⟨_, rfl⟩
  rw [← g123] at A123 D123 st123
  have ne_aa_b123 : aa ≠ b123 := Nat.ne_of_lt (Nat.lt_of_lt_of_le E_aa.lt (Nat.le_of_eq g123.symm))
  have ne_b113_b123 : b113 ≠ b123 := Nat.ne_of_lt (Nat.lt_of_lt_of_le A_b113.lt (Nat.le_of_eq g123.symm))
  have g_b123 : n0 ≤ b123 := Nat.le_trans Zn (Nat.le_of_eq g123.symm)
  have E_aa := E_aa.ext E123
  have O := O.ext E123
  have A_b113 := A_b113.ext E123
  have hk := Nat.le_trans hk E123.1
  have Zn := Nat.le_trans Zn E123.1
  have E_b123 := A123
  have F_b123_value : Fld Z h123 b123 "java/lang/String" "value" "[B" .null := D123 (Or.inr (hw _ (List.mem_of_getElem? (i := 16) rfl))) (ty := (.array .byte)) (by decide)
  have F_b123_coder : Fld Z h123 b123 "java/lang/String" "coder" "B" (.int (0 : Int32)) := D123 (Or.inr (hw _ (List.mem_of_getElem? (i := 17) rfl))) (ty := .byte) (by decide)
  refine own_stW (A := T123.setTop (mkF mM 116 #[.val (.int u0), .val (.int u1), .val (.int u2), .val (.int u3), .val (.int u4), .val (.int u5), .val (.ref aa), .val (.ref b113), .unset, .unset, .unset, .unset, .unset, .unset, .unset, .unset, .unset, .unset, .unset, .unset, .unset] [(.ref b123)])) (fun tT_ kK_ => st123 tT_ kK_) ?_
  refine own_stW (A := T123.setTop (mkF mM 117 #[.val (.int u0), .val (.int u1), .val (.int u2), .val (.int u3), .val (.int u4), .val (.int u5), .val (.ref aa), .val (.ref b113), .unset, .unset, .unset, .unset, .unset, .unset, .unset, .unset, .unset, .unset, .unset, .unset, .unset] [(.ref b123), (.ref b123)])) (fun tT_ kK_ => XS.dup X123.here hx rfl (hb hby at_116) rfl rfl kK_) ?_
  refine own_stW (A := T123.setTop (mkF mM 119 #[.val (.int u0), .val (.int u1), .val (.int u2), .val (.int u3), .val (.int u4), .val (.int u5), .val (.ref aa), .val (.ref b113), .unset, .unset, .unset, .unset, .unset, .unset, .unset, .unset, .unset, .unset, .unset, .unset, .unset] [(.ref b113), (.ref b123), (.ref b123)])) (fun tT_ kK_ => XS.aload X123.here hx rfl (hb hby at_117) rfl rfl kK_) ?_
  obtain ⟨_, _, ⟨T124, L124, k124, n124⟩, -, X124, ⟨Lc124, hQ124, l124, y124, z124⟩, st124⟩ := X123.specialBack hx (y := (⟨"java/lang/String", "<init>", "([C)V"⟩ : MethodName)) rfl hown (mvT hZ (hw _ (List.mem_of_getElem? (i := 5) rfl))) (mvT hZ (hw _ (List.mem_of_getElem? (i := 6) rfl))) (mvT hZ (hw _ (List.mem_of_getElem? (i := 7) rfl))) (by decide) (backOf (W := 1) (rmS1_3 lL Z a0 hw [] b123 b113 k113 cs ((((u3 &&& (255 : Int32))).toUInt32.toUInt16.toUInt32.toInt32)) ((((((u3.toUInt32 >>> ((8 : Int32) &&& 31).toUInt32).toInt32) &&& (255 : Int32))).toUInt32.toUInt16.toUInt32.toInt32)) ((((((u3.toUInt32 >>> ((16 : Int32) &&& 31).toUInt32).toInt32) &&& (255 : Int32))).toUInt32.toUInt16.toUInt32.toInt32)) h123 n0 g_b123 E_b123 F_b123_value F_b123_coder A_b113 ne_b113_b123 O Zn S_cs hcs (own_Ck _) (own_Ck _) (own_Ck _)) hZ (hw _ (List.mem_of_getElem? (i := 7) rfl)) (hw _ (List.mem_of_getElem? (i := 4) rfl)) (by decide) (by decide)) (g := (mkF mM 119 #[.val (.int u0), .val (.int u1), .val (.int u2), .val (.int u3), .val (.int u4), .val (.int u5), .val (.ref aa), .val (.ref b113), .unset, .unset, .unset, .unset, .unset, .unset, .unset, .unset, .unset, .unset, .unset, .unset, .unset] [(.ref b113), (.ref b123), (.ref b123)])) rfl (by rw [hml]; rfl) (Steps.refl _) (a := b123) (argsL := [(.ref b113)]) (rest := [(.ref b123)]) (lenOf pd__28_5bC_29V rfl) rfl (by show 2 * 0 + _ ≤ _; exact Nat.le_of_eq rfl) (hb hby at_119) (fun _ _ => ⟨rfl, e123, (by decide : 3 + 1 ≤ _), (by decide : 10 + 3 ≤ _)⟩)
  dsimp only [Pt.U, Pt.locs, Pt.cells, Pt.slots] at X124 l124 y124 z124 st124 hQ124
  subst l124 y124 z124
  obtain ⟨d124, k124', rfl, N124q, K124, str124, ge124⟩ := hQ124
  have N124 := Fr.app N122 N124q
  have e124 : T124.heap = T124.heap := rfl
  refine own_stW (A := T124.setTop (mkF mM 122 #[.val (.int u0), .val (.int u1), .val (.int u2), .val (.int u3), .val (.int u4), .val (.int u5), .val (.ref aa), .val (.ref b113), .unset, .unset, .unset, .unset, .unset, .unset, .unset, .unset, .unset, .unset, .unset, .unset, .unset] [(.ref b123)])) (fun tT_ kK_ => st124.trans kK_) ?_
  have E_aa := E_aa.keep K124
  have E_b123 := E_b123.keep K124
  have A_b113 := A_b113.keep K124 (ninS ne_b113_b123 nin0)
  have hk := Nat.le_trans hk K124.1
  have O := O.keep K124 (allS g_b123 all0)
  have Zn := Nat.le_trans Zn K124.1
  exact J122 hw (X124.more (by decide) (by decide)) hx hZ hby hml hown hlk hret hS hk e124 N124 u0 u1 u2 u3 u4 u5 aa b113 b123 Zn E_aa E_b123
set_option maxRecDepth 65536 in
set_option maxHeartbeats 40000000 in
theorem J3_0 {pP : Program} {lL : Launch} {eE : Env} {sS : State} {mM : MethodId} {args : Array Value} {below : List Frame} {meth : Method} {cC : Code} {T0 : State} {locs : List Loc} {Z : State} {a0 : Array Value} {h0 : Heap} {n0 : Nat} {vmV : Vm} (hw : ∀ d ∈ tables_1, d.before a0 Z = true) (X0 : Stand pP lL eE room_1 (sS.setVm vmV) mM args below meth cC T0 locs 0 0) (hx : pP.tables.exec = Jvm.exec) (hZ : Z.Warmed39 (sS.setVm vmV).vm) (hby : cC.code = code) (hml : cC.maxLocals = 21) (hown : (sS.setVm vmV).vm.findClass "com/example/libttl/libttl/KeyFormPinLaw" = some mM.cls) (hlk : meth.locks = false) (hret : meth.sig.returnType = ret) {kV : Nat} (hS : sS.Since vmV kV) (hk : kV ≤ h0.size) (e0 : T0.heap = h0) (N0 : Fr n0 locs) (u0 : Int32) (u1 : Int32) (u2 : Int32) (u3 : Int32) (u4 : Int32) (u5 : Int32) (cs : Int32) (O : Old Z n0 h0) (Zn : n0 ≤ h0.size) (S_cs : Sta Z Z.heap "java/lang/String" "COMPACT_STRINGS" "Z" (.int cs)) (hcs : ¬ cs = (0 : Int32)) (hcw : Jvm.Lit.compactW.before a0 Z = true) (hheld : Jvm.Lit.constHeld Z "java/lang/String" 7) (hI : vmV.interned = Z.vm.interned) :
    own_GoW pP eE below sS (QLaw n0) 32 1152 (T0.setTop (mkF mM 3 #[.val (.int u0), .val (.int u1), .val (.int u2), .val (.int u3), .val (.int u4), .val (.int u5), .unset, .unset, .unset, .unset, .unset, .unset, .unset, .unset, .unset, .unset, .unset, .unset, .unset, .unset, .unset] [(.int (0 : Int32))])) := by
  obtain ⟨T125, h125, k125, X125, e125, E125, A125, x125, st125⟩ := own_newB X0 hx hZ (hw _ (List.mem_of_getElem? (i := 0) rfl)) e0 (g := (mkF mM 3 #[.val (.int u0), .val (.int u1), .val (.int u2), .val (.int u3), .val (.int u4), .val (.int u5), .unset, .unset, .unset, .unset, .unset, .unset, .unset, .unset, .unset, .unset, .unset, .unset, .unset, .unset, .unset] [(.int (0 : Int32))])) rfl (hb hby at_3) rfl (by decide) (cap := 0) (by decide) (by decide) (by decide) (by decide)
  obtain ⟨aa, g125⟩ : ∃ z, z = h0.size := ⟨_, rfl⟩
  rw [← g125] at A125 x125 st125
  have g_aa : n0 ≤ aa := Nat.le_trans Zn (Nat.le_of_eq g125.symm)
  have O := O.ext E125
  have hk := Nat.le_trans hk E125.1
  have Zn := Nat.le_trans Zn E125.1
  have A_aa : Arv Z h125 aa k125 .byte 0 [] (.int (0 : Int32)) := (Arv.new A125 (by decide)).pad (pad_rep [] (.int (0 : Int32)) 0)
  refine own_stW (A := T125.setTop (mkF mM 5 #[.val (.int u0), .val (.int u1), .val (.int u2), .val (.int u3), .val (.int u4), .val (.int u5), .unset, .unset, .unset, .unset, .unset, .unset, .unset, .unset, .unset, .unset, .unset, .unset, .unset, .unset, .unset] [(.ref aa)])) (fun tT_ kK_ => st125 tT_ kK_) ?_
  have E_aa := x125
  refine own_stW (A := T125.setTop (mkF mM 7 #[.val (.int u0), .val (.int u1), .val (.int u2), .val (.int u3), .val (.int u4), .val (.int u5), .val (.ref aa), .unset, .unset, .unset, .unset, .unset, .unset, .unset, .unset, .unset, .unset, .unset, .unset, .unset, .unset] [])) (fun tT_ kK_ => XS.astore X125.here hx rfl (hb hby at_5) rfl rfl (l' := #[.val (.int u0), .val (.int u1), .val (.int u2), .val (.int u3), .val (.int u4), .val (.int u5), .val (.ref aa), .unset, .unset, .unset, .unset, .unset, .unset, .unset, .unset, .unset, .unset, .unset, .unset, .unset, .unset]) rfl kK_) ?_
  refine own_stW (A := T125.setTop (mkF mM 9 #[.val (.int u0), .val (.int u1), .val (.int u2), .val (.int u3), .val (.int u4), .val (.int u5), .val (.ref aa), .unset, .unset, .unset, .unset, .unset, .unset, .unset, .unset, .unset, .unset, .unset, .unset, .unset, .unset] [(.ref aa)])) (fun tT_ kK_ => XS.aload X125.here hx rfl (hb hby at_7) rfl rfl kK_) ?_
  obtain ⟨cl126, Ar126, q126, S126, Nn126, H126, G126⟩ := id A_aa
  refine own_stW (A := T125.setTop (mkF mM 10 #[.val (.int u0), .val (.int u1), .val (.int u2), .val (.int u3), .val (.int u4), .val (.int u5), .val (.ref aa), .unset, .unset, .unset, .unset, .unset, .unset, .unset, .unset, .unset, .unset, .unset, .unset, .unset, .unset] [(.int (0 : Int32))])) (fun tT_ kK_ => X125.arraylength hx (by rw [e125]; exact Ar126.1) (State.isArrayOf_alike hZ.alike Ar126.2.1) (g := (mkF mM 9 #[.val (.int u0), .val (.int u1), .val (.int u2), .val (.int u3), .val (.int u4), .val (.int u5), .val (.ref aa), .unset, .unset, .unset, .unset, .unset, .unset, .unset, .unset, .unset, .unset, .unset, .unset, .unset, .unset] [(.ref aa)])) rfl rfl (hb hby at_9) tT_ (by rw [len_of S126 Nn126]; exact kK_)) ?_
  refine own_stW (A := T125.setTop (mkF mM 19 #[.val (.int u0), .val (.int u1), .val (.int u2), .val (.int u3), .val (.int u4), .val (.int u5), .val (.ref aa), .unset, .unset, .unset, .unset, .unset, .unset, .unset, .unset, .unset, .unset, .unset, .unset, .unset, .unset] [])) (fun tT_ kK_ => XS.ifYes X125.here hx rfl (pc0 := 10) (pc' := 19) rfl (hb hby at_10) rfl ((if0 _ _).trans (flt (by decide : ¬ ((0 : Int32) < (0 : Int32)))).2.2.2) (by decide) (by decide) kK_) ?_
  refine own_stW (A := T125.setTop (mkF mM 21 #[.val (.int u0), .val (.int u1), .val (.int u2), .val (.int u3), .val (.int u4), .val (.int u5), .val (.ref aa), .unset, .unset, .unset, .unset, .unset, .unset, .unset, .unset, .unset, .unset, .unset, .unset, .unset, .unset] [(.ref aa)])) (fun tT_ kK_ => XS.aload X125.here hx rfl (hb hby at_19) rfl rfl kK_) ?_
  obtain ⟨cl127, Ar127, q127, S127, Nn127, H127, G127⟩ := id A_aa
  refine own_stW (A := T125.setTop (mkF mM 22 #[.val (.int u0), .val (.int u1), .val (.int u2), .val (.int u3), .val (.int u4), .val (.int u5), .val (.ref aa), .unset, .unset, .unset, .unset, .unset, .unset, .unset, .unset, .unset, .unset, .unset, .unset, .unset, .unset] [(.int (0 : Int32))])) (fun tT_ kK_ => X125.arraylength hx (by rw [e125]; exact Ar127.1) (State.isArrayOf_alike hZ.alike Ar127.2.1) (g := (mkF mM 21 #[.val (.int u0), .val (.int u1), .val (.int u2), .val (.int u3), .val (.int u4), .val (.int u5), .val (.ref aa), .unset, .unset, .unset, .unset, .unset, .unset, .unset, .unset, .unset, .unset, .unset, .unset, .unset, .unset] [(.ref aa)])) rfl rfl (hb hby at_21) tT_ (by rw [len_of S127 Nn127]; exact kK_)) ?_
  refine own_stW (A := T125.setTop (mkF mM 23 #[.val (.int u0), .val (.int u1), .val (.int u2), .val (.int u3), .val (.int u4), .val (.int u5), .val (.ref aa), .unset, .unset, .unset, .unset, .unset, .unset, .unset, .unset, .unset, .unset, .unset, .unset, .unset, .unset] [(.int (1 : Int32)), (.int (0 : Int32))])) (fun tT_ kK_ => XS.iconst X125.here hx rfl (hb hby at_22) kK_) ?_
  refine own_stW (A := T125.setTop (mkF mM 32 #[.val (.int u0), .val (.int u1), .val (.int u2), .val (.int u3), .val (.int u4), .val (.int u5), .val (.ref aa), .unset, .unset, .unset, .unset, .unset, .unset, .unset, .unset, .unset, .unset, .unset, .unset, .unset, .unset] [])) (fun tT_ kK_ => XS.icmpYes X125.here hx rfl (pc0 := 23) (pc' := 32) rfl (hb hby at_23) rfl (flt (by decide : ¬ ((1 : Int32) < (0 : Int32)))).2.2.2 (by decide) (by decide) kK_) ?_
  refine own_stW (A := T125.setTop (mkF mM 34 #[.val (.int u0), .val (.int u1), .val (.int u2), .val (.int u3), .val (.int u4), .val (.int u5), .val (.ref aa), .unset, .unset, .unset, .unset, .unset, .unset, .unset, .unset, .unset, .unset, .unset, .unset, .unset, .unset] [(.ref aa)])) (fun tT_ kK_ => XS.aload X125.here hx rfl (hb hby at_32) rfl rfl kK_) ?_
  obtain ⟨cl128, Ar128, q128, S128, Nn128, H128, G128⟩ := id A_aa
  refine own_stW (A := T125.setTop (mkF mM 35 #[.val (.int u0), .val (.int u1), .val (.int u2), .val (.int u3), .val (.int u4), .val (.int u5), .val (.ref aa), .unset, .unset, .unset, .unset, .unset, .unset, .unset, .unset, .unset, .unset, .unset, .unset, .unset, .unset] [(.int (0 : Int32))])) (fun tT_ kK_ => X125.arraylength hx (by rw [e125]; exact Ar128.1) (State.isArrayOf_alike hZ.alike Ar128.2.1) (g := (mkF mM 34 #[.val (.int u0), .val (.int u1), .val (.int u2), .val (.int u3), .val (.int u4), .val (.int u5), .val (.ref aa), .unset, .unset, .unset, .unset, .unset, .unset, .unset, .unset, .unset, .unset, .unset, .unset, .unset, .unset] [(.ref aa)])) rfl rfl (hb hby at_34) tT_ (by rw [len_of S128 Nn128]; exact kK_)) ?_
  refine own_stW (A := T125.setTop (mkF mM 36 #[.val (.int u0), .val (.int u1), .val (.int u2), .val (.int u3), .val (.int u4), .val (.int u5), .val (.ref aa), .unset, .unset, .unset, .unset, .unset, .unset, .unset, .unset, .unset, .unset, .unset, .unset, .unset, .unset] [(.int (2 : Int32)), (.int (0 : Int32))])) (fun tT_ kK_ => XS.iconst X125.here hx rfl (hb hby at_35) kK_) ?_
  refine own_stW (A := T125.setTop (mkF mM 48 #[.val (.int u0), .val (.int u1), .val (.int u2), .val (.int u3), .val (.int u4), .val (.int u5), .val (.ref aa), .unset, .unset, .unset, .unset, .unset, .unset, .unset, .unset, .unset, .unset, .unset, .unset, .unset, .unset] [])) (fun tT_ kK_ => XS.icmpYes X125.here hx rfl (pc0 := 36) (pc' := 48) rfl (hb hby at_36) rfl (flt (by decide : ¬ ((2 : Int32) < (0 : Int32)))).2.2.2 (by decide) (by decide) kK_) ?_
  refine own_stW (A := T125.setTop (mkF mM 49 #[.val (.int u0), .val (.int u1), .val (.int u2), .val (.int u3), .val (.int u4), .val (.int u5), .val (.ref aa), .unset, .unset, .unset, .unset, .unset, .unset, .unset, .unset, .unset, .unset, .unset, .unset, .unset, .unset] [(.int u0)])) (fun tT_ kK_ => XS.iloadN X125.here hx rfl (hb hby at_48) rfl kK_) ?_
  refine own_stW (A := T125.setTop (mkF mM 50 #[.val (.int u0), .val (.int u1), .val (.int u2), .val (.int u3), .val (.int u4), .val (.int u5), .val (.ref aa), .unset, .unset, .unset, .unset, .unset, .unset, .unset, .unset, .unset, .unset, .unset, .unset, .unset, .unset] [(.int (2 : Int32)), (.int u0)])) (fun tT_ kK_ => XS.iconst X125.here hx rfl (hb hby at_49) kK_) ?_
  refine own_stW (A := T125.setTop (mkF mM 51 #[.val (.int u0), .val (.int u1), .val (.int u2), .val (.int u3), .val (.int u4), .val (.int u5), .val (.ref aa), .unset, .unset, .unset, .unset, .unset, .unset, .unset, .unset, .unset, .unset, .unset, .unset, .unset, .unset] [(.int ((u0.toUInt32 >>> ((2 : Int32) &&& 31).toUInt32).toInt32))])) (fun tT_ kK_ => XS.iushr X125.here hx rfl (hb hby at_50) rfl kK_) ?_
  refine own_stW (A := T125.setTop (mkF mM 52 #[.val (.int u0), .val (.int u1), .val (.int u2), .val (.int u3), .val (.int u4), .val (.int u5), .val (.ref aa), .unset, .unset, .unset, .unset, .unset, .unset, .unset, .unset, .unset, .unset, .unset, .unset, .unset, .unset] [(.int (3 : Int32)), (.int ((u0.toUInt32 >>> ((2 : Int32) &&& 31).toUInt32).toInt32))])) (fun tT_ kK_ => XS.iconst X125.here hx rfl (hb hby at_51) kK_) ?_
  refine own_stW (A := T125.setTop (mkF mM 53 #[.val (.int u0), .val (.int u1), .val (.int u2), .val (.int u3), .val (.int u4), .val (.int u5), .val (.ref aa), .unset, .unset, .unset, .unset, .unset, .unset, .unset, .unset, .unset, .unset, .unset, .unset, .unset, .unset] [(.int (((u0.toUInt32 >>> ((2 : Int32) &&& 31).toUInt32).toInt32) &&& (3 : Int32)))])) (fun tT_ kK_ => XS.iand X125.here hx rfl (hb hby at_52) rfl kK_) ?_
  rcases own_and3 (((u0.toUInt32 >>> ((2 : Int32) &&& 31).toUInt32).toInt32)) with q129 | q129 | q129 | q129
  · rw [q129]
    exact J53_0 hw (X125.more (by decide) (by decide)) hx hZ hby hml hown hlk hret hS hk e125 N0 u0 u1 u2 u3 u4 u5 aa cs E_aa O Zn S_cs hcs hcw hheld hI
  · rw [q129]
    exact J53_1 hw (X125.more (by decide) (by decide)) hx hZ hby hml hown hlk hret hS hk e125 N0 u0 u1 u2 u3 u4 u5 aa cs E_aa O Zn S_cs hcs hcw hheld hI
  · rw [q129]
    exact J53_2 hw (X125.more (by decide) (by decide)) hx hZ hby hml hown hlk hret hS hk e125 N0 u0 u1 u2 u3 u4 u5 aa cs E_aa O Zn S_cs hcs hcw hheld hI
  · rw [q129]
    exact J53_3 hw (X125.more (by decide) (by decide)) hx hZ hby hml hown hlk hret hS hk e125 N0 u0 u1 u2 u3 u4 u5 aa cs E_aa O Zn S_cs hcs hcw hheld hI
set_option maxRecDepth 65536 in
set_option maxHeartbeats 40000000 in
theorem J3_1 {pP : Program} {lL : Launch} {eE : Env} {sS : State} {mM : MethodId} {args : Array Value} {below : List Frame} {meth : Method} {cC : Code} {T0 : State} {locs : List Loc} {Z : State} {a0 : Array Value} {h0 : Heap} {n0 : Nat} {vmV : Vm} (hw : ∀ d ∈ tables_1, d.before a0 Z = true) (X0 : Stand pP lL eE room_1 (sS.setVm vmV) mM args below meth cC T0 locs 0 0) (hx : pP.tables.exec = Jvm.exec) (hZ : Z.Warmed39 (sS.setVm vmV).vm) (hby : cC.code = code) (hml : cC.maxLocals = 21) (hown : (sS.setVm vmV).vm.findClass "com/example/libttl/libttl/KeyFormPinLaw" = some mM.cls) (hlk : meth.locks = false) (hret : meth.sig.returnType = ret) {kV : Nat} (hS : sS.Since vmV kV) (hk : kV ≤ h0.size) (e0 : T0.heap = h0) (N0 : Fr n0 locs) (u0 : Int32) (u1 : Int32) (u2 : Int32) (u3 : Int32) (u4 : Int32) (u5 : Int32) (cs : Int32) (O : Old Z n0 h0) (Zn : n0 ≤ h0.size) (S_cs : Sta Z Z.heap "java/lang/String" "COMPACT_STRINGS" "Z" (.int cs)) (hcs : ¬ cs = (0 : Int32)) (hcw : Jvm.Lit.compactW.before a0 Z = true) (hheld : Jvm.Lit.constHeld Z "java/lang/String" 7) (hI : vmV.interned = Z.vm.interned) :
    own_GoW pP eE below sS (QLaw n0) 32 1152 (T0.setTop (mkF mM 3 #[.val (.int u0), .val (.int u1), .val (.int u2), .val (.int u3), .val (.int u4), .val (.int u5), .unset, .unset, .unset, .unset, .unset, .unset, .unset, .unset, .unset, .unset, .unset, .unset, .unset, .unset, .unset] [(.int (1 : Int32))])) := by
  obtain ⟨T130, h130, k130, X130, e130, E130, A130, x130, st130⟩ := own_newB X0 hx hZ (hw _ (List.mem_of_getElem? (i := 0) rfl)) e0 (g := (mkF mM 3 #[.val (.int u0), .val (.int u1), .val (.int u2), .val (.int u3), .val (.int u4), .val (.int u5), .unset, .unset, .unset, .unset, .unset, .unset, .unset, .unset, .unset, .unset, .unset, .unset, .unset, .unset, .unset] [(.int (1 : Int32))])) rfl (hb hby at_3) rfl (by decide) (cap := 1) (by decide) (by decide) (by decide) (by decide)
  obtain ⟨aa, g130⟩ : ∃ z, z = h0.size := ⟨_, rfl⟩
  rw [← g130] at A130 x130 st130
  have g_aa : n0 ≤ aa := Nat.le_trans Zn (Nat.le_of_eq g130.symm)
  have O := O.ext E130
  have hk := Nat.le_trans hk E130.1
  have Zn := Nat.le_trans Zn E130.1
  have A_aa : Arv Z h130 aa k130 .byte 1 [(.int (0 : Int32))] (.int (0 : Int32)) := (Arv.new A130 (by decide)).pad (pad_rep [] (.int (0 : Int32)) 1)
  refine own_stW (A := T130.setTop (mkF mM 5 #[.val (.int u0), .val (.int u1), .val (.int u2), .val (.int u3), .val (.int u4), .val (.int u5), .unset, .unset, .unset, .unset, .unset, .unset, .unset, .unset, .unset, .unset, .unset, .unset, .unset, .unset, .unset] [(.ref aa)])) (fun tT_ kK_ => st130 tT_ kK_) ?_
  have E_aa := x130
  refine own_stW (A := T130.setTop (mkF mM 7 #[.val (.int u0), .val (.int u1), .val (.int u2), .val (.int u3), .val (.int u4), .val (.int u5), .val (.ref aa), .unset, .unset, .unset, .unset, .unset, .unset, .unset, .unset, .unset, .unset, .unset, .unset, .unset, .unset] [])) (fun tT_ kK_ => XS.astore X130.here hx rfl (hb hby at_5) rfl rfl (l' := #[.val (.int u0), .val (.int u1), .val (.int u2), .val (.int u3), .val (.int u4), .val (.int u5), .val (.ref aa), .unset, .unset, .unset, .unset, .unset, .unset, .unset, .unset, .unset, .unset, .unset, .unset, .unset, .unset]) rfl kK_) ?_
  refine own_stW (A := T130.setTop (mkF mM 9 #[.val (.int u0), .val (.int u1), .val (.int u2), .val (.int u3), .val (.int u4), .val (.int u5), .val (.ref aa), .unset, .unset, .unset, .unset, .unset, .unset, .unset, .unset, .unset, .unset, .unset, .unset, .unset, .unset] [(.ref aa)])) (fun tT_ kK_ => XS.aload X130.here hx rfl (hb hby at_7) rfl rfl kK_) ?_
  obtain ⟨cl131, Ar131, q131, S131, Nn131, H131, G131⟩ := id A_aa
  refine own_stW (A := T130.setTop (mkF mM 10 #[.val (.int u0), .val (.int u1), .val (.int u2), .val (.int u3), .val (.int u4), .val (.int u5), .val (.ref aa), .unset, .unset, .unset, .unset, .unset, .unset, .unset, .unset, .unset, .unset, .unset, .unset, .unset, .unset] [(.int (1 : Int32))])) (fun tT_ kK_ => X130.arraylength hx (by rw [e130]; exact Ar131.1) (State.isArrayOf_alike hZ.alike Ar131.2.1) (g := (mkF mM 9 #[.val (.int u0), .val (.int u1), .val (.int u2), .val (.int u3), .val (.int u4), .val (.int u5), .val (.ref aa), .unset, .unset, .unset, .unset, .unset, .unset, .unset, .unset, .unset, .unset, .unset, .unset, .unset, .unset] [(.ref aa)])) rfl rfl (hb hby at_9) tT_ (by rw [len_of S131 Nn131]; exact kK_)) ?_
  refine own_stW (A := T130.setTop (mkF mM 13 #[.val (.int u0), .val (.int u1), .val (.int u2), .val (.int u3), .val (.int u4), .val (.int u5), .val (.ref aa), .unset, .unset, .unset, .unset, .unset, .unset, .unset, .unset, .unset, .unset, .unset, .unset, .unset, .unset] [])) (fun tT_ kK_ => XS.ifNo X130.here hx rfl (hb hby at_10) rfl ((if0 _ _).trans (tlt (by decide : ((0 : Int32) < (1 : Int32)))).2.2.2) kK_) ?_
  refine own_stW (A := T130.setTop (mkF mM 15 #[.val (.int u0), .val (.int u1), .val (.int u2), .val (.int u3), .val (.int u4), .val (.int u5), .val (.ref aa), .unset, .unset, .unset, .unset, .unset, .unset, .unset, .unset, .unset, .unset, .unset, .unset, .unset, .unset] [(.ref aa)])) (fun tT_ kK_ => XS.aload X130.here hx rfl (hb hby at_13) rfl rfl kK_) ?_
  refine own_stW (A := T130.setTop (mkF mM 16 #[.val (.int u0), .val (.int u1), .val (.int u2), .val (.int u3), .val (.int u4), .val (.int u5), .val (.ref aa), .unset, .unset, .unset, .unset, .unset, .unset, .unset, .unset, .unset, .unset, .unset, .unset, .unset, .unset] [(.int (0 : Int32)), (.ref aa)])) (fun tT_ kK_ => XS.iconst X130.here hx rfl (hb hby at_15) kK_) ?_
  refine own_stW (A := T130.setTop (mkF mM 17 #[.val (.int u0), .val (.int u1), .val (.int u2), .val (.int u3), .val (.int u4), .val (.int u5), .val (.ref aa), .unset, .unset, .unset, .unset, .unset, .unset, .unset, .unset, .unset, .unset, .unset, .unset, .unset, .unset] [(.int u1), (.int (0 : Int32)), (.ref aa)])) (fun tT_ kK_ => XS.iloadN X130.here hx rfl (hb hby at_16) rfl kK_) ?_
  refine own_stW (A := T130.setTop (mkF mM 18 #[.val (.int u0), .val (.int u1), .val (.int u2), .val (.int u3), .val (.int u4), .val (.int u5), .val (.ref aa), .unset, .unset, .unset, .unset, .unset, .unset, .unset, .unset, .unset, .unset, .unset, .unset, .unset, .unset] [(.int ((u1).toInt8.toInt32)), (.int (0 : Int32)), (.ref aa)])) (fun tT_ kK_ => XS.i2b X130.here hx rfl (hb hby at_17) rfl kK_) ?_
  obtain ⟨cl132, Ar132, q132, S132, Nn132, H132, G132⟩ := id A_aa
  obtain ⟨T133, h133, X133, e133, W133, st133⟩ := stB X130 hx hZ e130 Ar132 (j := (0 : Int32)) (inb_of S132 ⟨by decide, by decide⟩) (g := (mkF mM 18 #[.val (.int u0), .val (.int u1), .val (.int u2), .val (.int u3), .val (.int u4), .val (.int u5), .val (.ref aa), .unset, .unset, .unset, .unset, .unset, .unset, .unset, .unset, .unset, .unset, .unset, .unset, .unset, .unset] [(.int ((u1).toInt8.toInt32)), (.int (0 : Int32)), (.ref aa)])) rfl rfl (hb hby at_18)
  have N133 := Fr.snoc X133 N0 g_aa
  have E_aa := E_aa.wr W133
  have hk := Nat.le_trans hk (Keep.of_wr W133).1
  have O := O.wr W133 g_aa
  have Zn := Nat.le_trans Zn (Keep.of_wr W133).1
  have A_aa : Arv Z h133 aa k130 .byte 1 [(.int (((u1).toInt8.toInt32)).toInt8.toInt32)] (.int (0 : Int32)) := Arv.set Ar132 q132 S132 Nn132 H132 G132 (fits_nar_byte _) W133 0 rfl (Nat.le_of_ble_eq_true rfl)
  refine own_stW (A := T133.setTop (mkF mM 19 #[.val (.int u0), .val (.int u1), .val (.int u2), .val (.int u3), .val (.int u4), .val (.int u5), .val (.ref aa), .unset, .unset, .unset, .unset, .unset, .unset, .unset, .unset, .unset, .unset, .unset, .unset, .unset, .unset] [])) (fun tT_ kK_ => st133 tT_ kK_) ?_
  refine own_stW (A := T133.setTop (mkF mM 21 #[.val (.int u0), .val (.int u1), .val (.int u2), .val (.int u3), .val (.int u4), .val (.int u5), .val (.ref aa), .unset, .unset, .unset, .unset, .unset, .unset, .unset, .unset, .unset, .unset, .unset, .unset, .unset, .unset] [(.ref aa)])) (fun tT_ kK_ => XS.aload X133.here hx rfl (hb hby at_19) rfl rfl kK_) ?_
  obtain ⟨cl134, Ar134, q134, S134, Nn134, H134, G134⟩ := id A_aa
  refine own_stW (A := T133.setTop (mkF mM 22 #[.val (.int u0), .val (.int u1), .val (.int u2), .val (.int u3), .val (.int u4), .val (.int u5), .val (.ref aa), .unset, .unset, .unset, .unset, .unset, .unset, .unset, .unset, .unset, .unset, .unset, .unset, .unset, .unset] [(.int (1 : Int32))])) (fun tT_ kK_ => X133.arraylength hx (by rw [e133]; exact Ar134.1) (State.isArrayOf_alike hZ.alike Ar134.2.1) (g := (mkF mM 21 #[.val (.int u0), .val (.int u1), .val (.int u2), .val (.int u3), .val (.int u4), .val (.int u5), .val (.ref aa), .unset, .unset, .unset, .unset, .unset, .unset, .unset, .unset, .unset, .unset, .unset, .unset, .unset, .unset] [(.ref aa)])) rfl rfl (hb hby at_21) tT_ (by rw [len_of S134 Nn134]; exact kK_)) ?_
  refine own_stW (A := T133.setTop (mkF mM 23 #[.val (.int u0), .val (.int u1), .val (.int u2), .val (.int u3), .val (.int u4), .val (.int u5), .val (.ref aa), .unset, .unset, .unset, .unset, .unset, .unset, .unset, .unset, .unset, .unset, .unset, .unset, .unset, .unset] [(.int (1 : Int32)), (.int (1 : Int32))])) (fun tT_ kK_ => XS.iconst X133.here hx rfl (hb hby at_22) kK_) ?_
  refine own_stW (A := T133.setTop (mkF mM 32 #[.val (.int u0), .val (.int u1), .val (.int u2), .val (.int u3), .val (.int u4), .val (.int u5), .val (.ref aa), .unset, .unset, .unset, .unset, .unset, .unset, .unset, .unset, .unset, .unset, .unset, .unset, .unset, .unset] [])) (fun tT_ kK_ => XS.icmpYes X133.here hx rfl (pc0 := 23) (pc' := 32) rfl (hb hby at_23) rfl (flt (by decide : ¬ ((1 : Int32) < (1 : Int32)))).2.2.2 (by decide) (by decide) kK_) ?_
  refine own_stW (A := T133.setTop (mkF mM 34 #[.val (.int u0), .val (.int u1), .val (.int u2), .val (.int u3), .val (.int u4), .val (.int u5), .val (.ref aa), .unset, .unset, .unset, .unset, .unset, .unset, .unset, .unset, .unset, .unset, .unset, .unset, .unset, .unset] [(.ref aa)])) (fun tT_ kK_ => XS.aload X133.here hx rfl (hb hby at_32) rfl rfl kK_) ?_
  obtain ⟨cl135, Ar135, q135, S135, Nn135, H135, G135⟩ := id A_aa
  refine own_stW (A := T133.setTop (mkF mM 35 #[.val (.int u0), .val (.int u1), .val (.int u2), .val (.int u3), .val (.int u4), .val (.int u5), .val (.ref aa), .unset, .unset, .unset, .unset, .unset, .unset, .unset, .unset, .unset, .unset, .unset, .unset, .unset, .unset] [(.int (1 : Int32))])) (fun tT_ kK_ => X133.arraylength hx (by rw [e133]; exact Ar135.1) (State.isArrayOf_alike hZ.alike Ar135.2.1) (g := (mkF mM 34 #[.val (.int u0), .val (.int u1), .val (.int u2), .val (.int u3), .val (.int u4), .val (.int u5), .val (.ref aa), .unset, .unset, .unset, .unset, .unset, .unset, .unset, .unset, .unset, .unset, .unset, .unset, .unset, .unset] [(.ref aa)])) rfl rfl (hb hby at_34) tT_ (by rw [len_of S135 Nn135]; exact kK_)) ?_
  refine own_stW (A := T133.setTop (mkF mM 36 #[.val (.int u0), .val (.int u1), .val (.int u2), .val (.int u3), .val (.int u4), .val (.int u5), .val (.ref aa), .unset, .unset, .unset, .unset, .unset, .unset, .unset, .unset, .unset, .unset, .unset, .unset, .unset, .unset] [(.int (2 : Int32)), (.int (1 : Int32))])) (fun tT_ kK_ => XS.iconst X133.here hx rfl (hb hby at_35) kK_) ?_
  refine own_stW (A := T133.setTop (mkF mM 48 #[.val (.int u0), .val (.int u1), .val (.int u2), .val (.int u3), .val (.int u4), .val (.int u5), .val (.ref aa), .unset, .unset, .unset, .unset, .unset, .unset, .unset, .unset, .unset, .unset, .unset, .unset, .unset, .unset] [])) (fun tT_ kK_ => XS.icmpYes X133.here hx rfl (pc0 := 36) (pc' := 48) rfl (hb hby at_36) rfl (flt (by decide : ¬ ((2 : Int32) < (1 : Int32)))).2.2.2 (by decide) (by decide) kK_) ?_
  refine own_stW (A := T133.setTop (mkF mM 49 #[.val (.int u0), .val (.int u1), .val (.int u2), .val (.int u3), .val (.int u4), .val (.int u5), .val (.ref aa), .unset, .unset, .unset, .unset, .unset, .unset, .unset, .unset, .unset, .unset, .unset, .unset, .unset, .unset] [(.int u0)])) (fun tT_ kK_ => XS.iloadN X133.here hx rfl (hb hby at_48) rfl kK_) ?_
  refine own_stW (A := T133.setTop (mkF mM 50 #[.val (.int u0), .val (.int u1), .val (.int u2), .val (.int u3), .val (.int u4), .val (.int u5), .val (.ref aa), .unset, .unset, .unset, .unset, .unset, .unset, .unset, .unset, .unset, .unset, .unset, .unset, .unset, .unset] [(.int (2 : Int32)), (.int u0)])) (fun tT_ kK_ => XS.iconst X133.here hx rfl (hb hby at_49) kK_) ?_
  refine own_stW (A := T133.setTop (mkF mM 51 #[.val (.int u0), .val (.int u1), .val (.int u2), .val (.int u3), .val (.int u4), .val (.int u5), .val (.ref aa), .unset, .unset, .unset, .unset, .unset, .unset, .unset, .unset, .unset, .unset, .unset, .unset, .unset, .unset] [(.int ((u0.toUInt32 >>> ((2 : Int32) &&& 31).toUInt32).toInt32))])) (fun tT_ kK_ => XS.iushr X133.here hx rfl (hb hby at_50) rfl kK_) ?_
  refine own_stW (A := T133.setTop (mkF mM 52 #[.val (.int u0), .val (.int u1), .val (.int u2), .val (.int u3), .val (.int u4), .val (.int u5), .val (.ref aa), .unset, .unset, .unset, .unset, .unset, .unset, .unset, .unset, .unset, .unset, .unset, .unset, .unset, .unset] [(.int (3 : Int32)), (.int ((u0.toUInt32 >>> ((2 : Int32) &&& 31).toUInt32).toInt32))])) (fun tT_ kK_ => XS.iconst X133.here hx rfl (hb hby at_51) kK_) ?_
  refine own_stW (A := T133.setTop (mkF mM 53 #[.val (.int u0), .val (.int u1), .val (.int u2), .val (.int u3), .val (.int u4), .val (.int u5), .val (.ref aa), .unset, .unset, .unset, .unset, .unset, .unset, .unset, .unset, .unset, .unset, .unset, .unset, .unset, .unset] [(.int (((u0.toUInt32 >>> ((2 : Int32) &&& 31).toUInt32).toInt32) &&& (3 : Int32)))])) (fun tT_ kK_ => XS.iand X133.here hx rfl (hb hby at_52) rfl kK_) ?_
  rcases own_and3 (((u0.toUInt32 >>> ((2 : Int32) &&& 31).toUInt32).toInt32)) with q136 | q136 | q136 | q136
  · rw [q136]
    exact J53_0 hw (X133.more (by decide) (by decide)) hx hZ hby hml hown hlk hret hS hk e133 N133 u0 u1 u2 u3 u4 u5 aa cs E_aa O Zn S_cs hcs hcw hheld hI
  · rw [q136]
    exact J53_1 hw (X133.more (by decide) (by decide)) hx hZ hby hml hown hlk hret hS hk e133 N133 u0 u1 u2 u3 u4 u5 aa cs E_aa O Zn S_cs hcs hcw hheld hI
  · rw [q136]
    exact J53_2 hw (X133.more (by decide) (by decide)) hx hZ hby hml hown hlk hret hS hk e133 N133 u0 u1 u2 u3 u4 u5 aa cs E_aa O Zn S_cs hcs hcw hheld hI
  · rw [q136]
    exact J53_3 hw (X133.more (by decide) (by decide)) hx hZ hby hml hown hlk hret hS hk e133 N133 u0 u1 u2 u3 u4 u5 aa cs E_aa O Zn S_cs hcs hcw hheld hI
set_option maxRecDepth 65536 in
set_option maxHeartbeats 40000000 in
theorem J3_2 {pP : Program} {lL : Launch} {eE : Env} {sS : State} {mM : MethodId} {args : Array Value} {below : List Frame} {meth : Method} {cC : Code} {T0 : State} {locs : List Loc} {Z : State} {a0 : Array Value} {h0 : Heap} {n0 : Nat} {vmV : Vm} (hw : ∀ d ∈ tables_1, d.before a0 Z = true) (X0 : Stand pP lL eE room_1 (sS.setVm vmV) mM args below meth cC T0 locs 0 0) (hx : pP.tables.exec = Jvm.exec) (hZ : Z.Warmed39 (sS.setVm vmV).vm) (hby : cC.code = code) (hml : cC.maxLocals = 21) (hown : (sS.setVm vmV).vm.findClass "com/example/libttl/libttl/KeyFormPinLaw" = some mM.cls) (hlk : meth.locks = false) (hret : meth.sig.returnType = ret) {kV : Nat} (hS : sS.Since vmV kV) (hk : kV ≤ h0.size) (e0 : T0.heap = h0) (N0 : Fr n0 locs) (u0 : Int32) (u1 : Int32) (u2 : Int32) (u3 : Int32) (u4 : Int32) (u5 : Int32) (cs : Int32) (O : Old Z n0 h0) (Zn : n0 ≤ h0.size) (S_cs : Sta Z Z.heap "java/lang/String" "COMPACT_STRINGS" "Z" (.int cs)) (hcs : ¬ cs = (0 : Int32)) (hcw : Jvm.Lit.compactW.before a0 Z = true) (hheld : Jvm.Lit.constHeld Z "java/lang/String" 7) (hI : vmV.interned = Z.vm.interned) :
    own_GoW pP eE below sS (QLaw n0) 32 1152 (T0.setTop (mkF mM 3 #[.val (.int u0), .val (.int u1), .val (.int u2), .val (.int u3), .val (.int u4), .val (.int u5), .unset, .unset, .unset, .unset, .unset, .unset, .unset, .unset, .unset, .unset, .unset, .unset, .unset, .unset, .unset] [(.int (2 : Int32))])) := by
  obtain ⟨T137, h137, k137, X137, e137, E137, A137, x137, st137⟩ := own_newB X0 hx hZ (hw _ (List.mem_of_getElem? (i := 0) rfl)) e0 (g := (mkF mM 3 #[.val (.int u0), .val (.int u1), .val (.int u2), .val (.int u3), .val (.int u4), .val (.int u5), .unset, .unset, .unset, .unset, .unset, .unset, .unset, .unset, .unset, .unset, .unset, .unset, .unset, .unset, .unset] [(.int (2 : Int32))])) rfl (hb hby at_3) rfl (by decide) (cap := 2) (by decide) (by decide) (by decide) (by decide)
  obtain ⟨aa, g137⟩ : ∃ z, z = h0.size := ⟨_, rfl⟩
  rw [← g137] at A137 x137 st137
  have g_aa : n0 ≤ aa := Nat.le_trans Zn (Nat.le_of_eq g137.symm)
  have O := O.ext E137
  have hk := Nat.le_trans hk E137.1
  have Zn := Nat.le_trans Zn E137.1
  have A_aa : Arv Z h137 aa k137 .byte 2 [(.int (0 : Int32)), (.int (0 : Int32))] (.int (0 : Int32)) := (Arv.new A137 (by decide)).pad (pad_rep [] (.int (0 : Int32)) 2)
  refine own_stW (A := T137.setTop (mkF mM 5 #[.val (.int u0), .val (.int u1), .val (.int u2), .val (.int u3), .val (.int u4), .val (.int u5), .unset, .unset, .unset, .unset, .unset, .unset, .unset, .unset, .unset, .unset, .unset, .unset, .unset, .unset, .unset] [(.ref aa)])) (fun tT_ kK_ => st137 tT_ kK_) ?_
  have E_aa := x137
  refine own_stW (A := T137.setTop (mkF mM 7 #[.val (.int u0), .val (.int u1), .val (.int u2), .val (.int u3), .val (.int u4), .val (.int u5), .val (.ref aa), .unset, .unset, .unset, .unset, .unset, .unset, .unset, .unset, .unset, .unset, .unset, .unset, .unset, .unset] [])) (fun tT_ kK_ => XS.astore X137.here hx rfl (hb hby at_5) rfl rfl (l' := #[.val (.int u0), .val (.int u1), .val (.int u2), .val (.int u3), .val (.int u4), .val (.int u5), .val (.ref aa), .unset, .unset, .unset, .unset, .unset, .unset, .unset, .unset, .unset, .unset, .unset, .unset, .unset, .unset]) rfl kK_) ?_
  refine own_stW (A := T137.setTop (mkF mM 9 #[.val (.int u0), .val (.int u1), .val (.int u2), .val (.int u3), .val (.int u4), .val (.int u5), .val (.ref aa), .unset, .unset, .unset, .unset, .unset, .unset, .unset, .unset, .unset, .unset, .unset, .unset, .unset, .unset] [(.ref aa)])) (fun tT_ kK_ => XS.aload X137.here hx rfl (hb hby at_7) rfl rfl kK_) ?_
  obtain ⟨cl138, Ar138, q138, S138, Nn138, H138, G138⟩ := id A_aa
  refine own_stW (A := T137.setTop (mkF mM 10 #[.val (.int u0), .val (.int u1), .val (.int u2), .val (.int u3), .val (.int u4), .val (.int u5), .val (.ref aa), .unset, .unset, .unset, .unset, .unset, .unset, .unset, .unset, .unset, .unset, .unset, .unset, .unset, .unset] [(.int (2 : Int32))])) (fun tT_ kK_ => X137.arraylength hx (by rw [e137]; exact Ar138.1) (State.isArrayOf_alike hZ.alike Ar138.2.1) (g := (mkF mM 9 #[.val (.int u0), .val (.int u1), .val (.int u2), .val (.int u3), .val (.int u4), .val (.int u5), .val (.ref aa), .unset, .unset, .unset, .unset, .unset, .unset, .unset, .unset, .unset, .unset, .unset, .unset, .unset, .unset] [(.ref aa)])) rfl rfl (hb hby at_9) tT_ (by rw [len_of S138 Nn138]; exact kK_)) ?_
  refine own_stW (A := T137.setTop (mkF mM 13 #[.val (.int u0), .val (.int u1), .val (.int u2), .val (.int u3), .val (.int u4), .val (.int u5), .val (.ref aa), .unset, .unset, .unset, .unset, .unset, .unset, .unset, .unset, .unset, .unset, .unset, .unset, .unset, .unset] [])) (fun tT_ kK_ => XS.ifNo X137.here hx rfl (hb hby at_10) rfl ((if0 _ _).trans (tlt (by decide : ((0 : Int32) < (2 : Int32)))).2.2.2) kK_) ?_
  refine own_stW (A := T137.setTop (mkF mM 15 #[.val (.int u0), .val (.int u1), .val (.int u2), .val (.int u3), .val (.int u4), .val (.int u5), .val (.ref aa), .unset, .unset, .unset, .unset, .unset, .unset, .unset, .unset, .unset, .unset, .unset, .unset, .unset, .unset] [(.ref aa)])) (fun tT_ kK_ => XS.aload X137.here hx rfl (hb hby at_13) rfl rfl kK_) ?_
  refine own_stW (A := T137.setTop (mkF mM 16 #[.val (.int u0), .val (.int u1), .val (.int u2), .val (.int u3), .val (.int u4), .val (.int u5), .val (.ref aa), .unset, .unset, .unset, .unset, .unset, .unset, .unset, .unset, .unset, .unset, .unset, .unset, .unset, .unset] [(.int (0 : Int32)), (.ref aa)])) (fun tT_ kK_ => XS.iconst X137.here hx rfl (hb hby at_15) kK_) ?_
  refine own_stW (A := T137.setTop (mkF mM 17 #[.val (.int u0), .val (.int u1), .val (.int u2), .val (.int u3), .val (.int u4), .val (.int u5), .val (.ref aa), .unset, .unset, .unset, .unset, .unset, .unset, .unset, .unset, .unset, .unset, .unset, .unset, .unset, .unset] [(.int u1), (.int (0 : Int32)), (.ref aa)])) (fun tT_ kK_ => XS.iloadN X137.here hx rfl (hb hby at_16) rfl kK_) ?_
  refine own_stW (A := T137.setTop (mkF mM 18 #[.val (.int u0), .val (.int u1), .val (.int u2), .val (.int u3), .val (.int u4), .val (.int u5), .val (.ref aa), .unset, .unset, .unset, .unset, .unset, .unset, .unset, .unset, .unset, .unset, .unset, .unset, .unset, .unset] [(.int ((u1).toInt8.toInt32)), (.int (0 : Int32)), (.ref aa)])) (fun tT_ kK_ => XS.i2b X137.here hx rfl (hb hby at_17) rfl kK_) ?_
  obtain ⟨cl139, Ar139, q139, S139, Nn139, H139, G139⟩ := id A_aa
  obtain ⟨T140, h140, X140, e140, W140, st140⟩ := stB X137 hx hZ e137 Ar139 (j := (0 : Int32)) (inb_of S139 ⟨by decide, by decide⟩) (g := (mkF mM 18 #[.val (.int u0), .val (.int u1), .val (.int u2), .val (.int u3), .val (.int u4), .val (.int u5), .val (.ref aa), .unset, .unset, .unset, .unset, .unset, .unset, .unset, .unset, .unset, .unset, .unset, .unset, .unset, .unset] [(.int ((u1).toInt8.toInt32)), (.int (0 : Int32)), (.ref aa)])) rfl rfl (hb hby at_18)
  have N140 := Fr.snoc X140 N0 g_aa
  have E_aa := E_aa.wr W140
  have hk := Nat.le_trans hk (Keep.of_wr W140).1
  have O := O.wr W140 g_aa
  have Zn := Nat.le_trans Zn (Keep.of_wr W140).1
  have A_aa : Arv Z h140 aa k137 .byte 2 [(.int (((u1).toInt8.toInt32)).toInt8.toInt32), (.int (0 : Int32))] (.int (0 : Int32)) := Arv.set Ar139 q139 S139 Nn139 H139 G139 (fits_nar_byte _) W140 0 rfl (Nat.le_of_ble_eq_true rfl)
  refine own_stW (A := T140.setTop (mkF mM 19 #[.val (.int u0), .val (.int u1), .val (.int u2), .val (.int u3), .val (.int u4), .val (.int u5), .val (.ref aa), .unset, .unset, .unset, .unset, .unset, .unset, .unset, .unset, .unset, .unset, .unset, .unset, .unset, .unset] [])) (fun tT_ kK_ => st140 tT_ kK_) ?_
  refine own_stW (A := T140.setTop (mkF mM 21 #[.val (.int u0), .val (.int u1), .val (.int u2), .val (.int u3), .val (.int u4), .val (.int u5), .val (.ref aa), .unset, .unset, .unset, .unset, .unset, .unset, .unset, .unset, .unset, .unset, .unset, .unset, .unset, .unset] [(.ref aa)])) (fun tT_ kK_ => XS.aload X140.here hx rfl (hb hby at_19) rfl rfl kK_) ?_
  obtain ⟨cl141, Ar141, q141, S141, Nn141, H141, G141⟩ := id A_aa
  refine own_stW (A := T140.setTop (mkF mM 22 #[.val (.int u0), .val (.int u1), .val (.int u2), .val (.int u3), .val (.int u4), .val (.int u5), .val (.ref aa), .unset, .unset, .unset, .unset, .unset, .unset, .unset, .unset, .unset, .unset, .unset, .unset, .unset, .unset] [(.int (2 : Int32))])) (fun tT_ kK_ => X140.arraylength hx (by rw [e140]; exact Ar141.1) (State.isArrayOf_alike hZ.alike Ar141.2.1) (g := (mkF mM 21 #[.val (.int u0), .val (.int u1), .val (.int u2), .val (.int u3), .val (.int u4), .val (.int u5), .val (.ref aa), .unset, .unset, .unset, .unset, .unset, .unset, .unset, .unset, .unset, .unset, .unset, .unset, .unset, .unset] [(.ref aa)])) rfl rfl (hb hby at_21) tT_ (by rw [len_of S141 Nn141]; exact kK_)) ?_
  refine own_stW (A := T140.setTop (mkF mM 23 #[.val (.int u0), .val (.int u1), .val (.int u2), .val (.int u3), .val (.int u4), .val (.int u5), .val (.ref aa), .unset, .unset, .unset, .unset, .unset, .unset, .unset, .unset, .unset, .unset, .unset, .unset, .unset, .unset] [(.int (1 : Int32)), (.int (2 : Int32))])) (fun tT_ kK_ => XS.iconst X140.here hx rfl (hb hby at_22) kK_) ?_
  refine own_stW (A := T140.setTop (mkF mM 26 #[.val (.int u0), .val (.int u1), .val (.int u2), .val (.int u3), .val (.int u4), .val (.int u5), .val (.ref aa), .unset, .unset, .unset, .unset, .unset, .unset, .unset, .unset, .unset, .unset, .unset, .unset, .unset, .unset] [])) (fun tT_ kK_ => XS.icmpNo X140.here hx rfl (hb hby at_23) rfl (tlt (by decide : ((1 : Int32) < (2 : Int32)))).2.2.2 kK_) ?_
  refine own_stW (A := T140.setTop (mkF mM 28 #[.val (.int u0), .val (.int u1), .val (.int u2), .val (.int u3), .val (.int u4), .val (.int u5), .val (.ref aa), .unset, .unset, .unset, .unset, .unset, .unset, .unset, .unset, .unset, .unset, .unset, .unset, .unset, .unset] [(.ref aa)])) (fun tT_ kK_ => XS.aload X140.here hx rfl (hb hby at_26) rfl rfl kK_) ?_
  refine own_stW (A := T140.setTop (mkF mM 29 #[.val (.int u0), .val (.int u1), .val (.int u2), .val (.int u3), .val (.int u4), .val (.int u5), .val (.ref aa), .unset, .unset, .unset, .unset, .unset, .unset, .unset, .unset, .unset, .unset, .unset, .unset, .unset, .unset] [(.int (1 : Int32)), (.ref aa)])) (fun tT_ kK_ => XS.iconst X140.here hx rfl (hb hby at_28) kK_) ?_
  refine own_stW (A := T140.setTop (mkF mM 30 #[.val (.int u0), .val (.int u1), .val (.int u2), .val (.int u3), .val (.int u4), .val (.int u5), .val (.ref aa), .unset, .unset, .unset, .unset, .unset, .unset, .unset, .unset, .unset, .unset, .unset, .unset, .unset, .unset] [(.int u2), (.int (1 : Int32)), (.ref aa)])) (fun tT_ kK_ => XS.iloadN X140.here hx rfl (hb hby at_29) rfl kK_) ?_
  refine own_stW (A := T140.setTop (mkF mM 31 #[.val (.int u0), .val (.int u1), .val (.int u2), .val (.int u3), .val (.int u4), .val (.int u5), .val (.ref aa), .unset, .unset, .unset, .unset, .unset, .unset, .unset, .unset, .unset, .unset, .unset, .unset, .unset, .unset] [(.int ((u2).toInt8.toInt32)), (.int (1 : Int32)), (.ref aa)])) (fun tT_ kK_ => XS.i2b X140.here hx rfl (hb hby at_30) rfl kK_) ?_
  obtain ⟨cl142, Ar142, q142, S142, Nn142, H142, G142⟩ := id A_aa
  obtain ⟨T143, h143, X143, e143, W143, st143⟩ := stB X140 hx hZ e140 Ar142 (j := (1 : Int32)) (inb_of S142 ⟨by decide, by decide⟩) (g := (mkF mM 31 #[.val (.int u0), .val (.int u1), .val (.int u2), .val (.int u3), .val (.int u4), .val (.int u5), .val (.ref aa), .unset, .unset, .unset, .unset, .unset, .unset, .unset, .unset, .unset, .unset, .unset, .unset, .unset, .unset] [(.int ((u2).toInt8.toInt32)), (.int (1 : Int32)), (.ref aa)])) rfl rfl (hb hby at_31)
  have N143 := Fr.snoc X143 N140 g_aa
  have E_aa := E_aa.wr W143
  have hk := Nat.le_trans hk (Keep.of_wr W143).1
  have O := O.wr W143 g_aa
  have Zn := Nat.le_trans Zn (Keep.of_wr W143).1
  have A_aa : Arv Z h143 aa k137 .byte 2 [(.int (((u1).toInt8.toInt32)).toInt8.toInt32), (.int (((u2).toInt8.toInt32)).toInt8.toInt32)] (.int (0 : Int32)) := Arv.set Ar142 q142 S142 Nn142 H142 G142 (fits_nar_byte _) W143 1 rfl (Nat.le_of_ble_eq_true rfl)
  refine own_stW (A := T143.setTop (mkF mM 32 #[.val (.int u0), .val (.int u1), .val (.int u2), .val (.int u3), .val (.int u4), .val (.int u5), .val (.ref aa), .unset, .unset, .unset, .unset, .unset, .unset, .unset, .unset, .unset, .unset, .unset, .unset, .unset, .unset] [])) (fun tT_ kK_ => st143 tT_ kK_) ?_
  refine own_stW (A := T143.setTop (mkF mM 34 #[.val (.int u0), .val (.int u1), .val (.int u2), .val (.int u3), .val (.int u4), .val (.int u5), .val (.ref aa), .unset, .unset, .unset, .unset, .unset, .unset, .unset, .unset, .unset, .unset, .unset, .unset, .unset, .unset] [(.ref aa)])) (fun tT_ kK_ => XS.aload X143.here hx rfl (hb hby at_32) rfl rfl kK_) ?_
  obtain ⟨cl144, Ar144, q144, S144, Nn144, H144, G144⟩ := id A_aa
  refine own_stW (A := T143.setTop (mkF mM 35 #[.val (.int u0), .val (.int u1), .val (.int u2), .val (.int u3), .val (.int u4), .val (.int u5), .val (.ref aa), .unset, .unset, .unset, .unset, .unset, .unset, .unset, .unset, .unset, .unset, .unset, .unset, .unset, .unset] [(.int (2 : Int32))])) (fun tT_ kK_ => X143.arraylength hx (by rw [e143]; exact Ar144.1) (State.isArrayOf_alike hZ.alike Ar144.2.1) (g := (mkF mM 34 #[.val (.int u0), .val (.int u1), .val (.int u2), .val (.int u3), .val (.int u4), .val (.int u5), .val (.ref aa), .unset, .unset, .unset, .unset, .unset, .unset, .unset, .unset, .unset, .unset, .unset, .unset, .unset, .unset] [(.ref aa)])) rfl rfl (hb hby at_34) tT_ (by rw [len_of S144 Nn144]; exact kK_)) ?_
  refine own_stW (A := T143.setTop (mkF mM 36 #[.val (.int u0), .val (.int u1), .val (.int u2), .val (.int u3), .val (.int u4), .val (.int u5), .val (.ref aa), .unset, .unset, .unset, .unset, .unset, .unset, .unset, .unset, .unset, .unset, .unset, .unset, .unset, .unset] [(.int (2 : Int32)), (.int (2 : Int32))])) (fun tT_ kK_ => XS.iconst X143.here hx rfl (hb hby at_35) kK_) ?_
  refine own_stW (A := T143.setTop (mkF mM 48 #[.val (.int u0), .val (.int u1), .val (.int u2), .val (.int u3), .val (.int u4), .val (.int u5), .val (.ref aa), .unset, .unset, .unset, .unset, .unset, .unset, .unset, .unset, .unset, .unset, .unset, .unset, .unset, .unset] [])) (fun tT_ kK_ => XS.icmpYes X143.here hx rfl (pc0 := 36) (pc' := 48) rfl (hb hby at_36) rfl (flt (by decide : ¬ ((2 : Int32) < (2 : Int32)))).2.2.2 (by decide) (by decide) kK_) ?_
  refine own_stW (A := T143.setTop (mkF mM 49 #[.val (.int u0), .val (.int u1), .val (.int u2), .val (.int u3), .val (.int u4), .val (.int u5), .val (.ref aa), .unset, .unset, .unset, .unset, .unset, .unset, .unset, .unset, .unset, .unset, .unset, .unset, .unset, .unset] [(.int u0)])) (fun tT_ kK_ => XS.iloadN X143.here hx rfl (hb hby at_48) rfl kK_) ?_
  refine own_stW (A := T143.setTop (mkF mM 50 #[.val (.int u0), .val (.int u1), .val (.int u2), .val (.int u3), .val (.int u4), .val (.int u5), .val (.ref aa), .unset, .unset, .unset, .unset, .unset, .unset, .unset, .unset, .unset, .unset, .unset, .unset, .unset, .unset] [(.int (2 : Int32)), (.int u0)])) (fun tT_ kK_ => XS.iconst X143.here hx rfl (hb hby at_49) kK_) ?_
  refine own_stW (A := T143.setTop (mkF mM 51 #[.val (.int u0), .val (.int u1), .val (.int u2), .val (.int u3), .val (.int u4), .val (.int u5), .val (.ref aa), .unset, .unset, .unset, .unset, .unset, .unset, .unset, .unset, .unset, .unset, .unset, .unset, .unset, .unset] [(.int ((u0.toUInt32 >>> ((2 : Int32) &&& 31).toUInt32).toInt32))])) (fun tT_ kK_ => XS.iushr X143.here hx rfl (hb hby at_50) rfl kK_) ?_
  refine own_stW (A := T143.setTop (mkF mM 52 #[.val (.int u0), .val (.int u1), .val (.int u2), .val (.int u3), .val (.int u4), .val (.int u5), .val (.ref aa), .unset, .unset, .unset, .unset, .unset, .unset, .unset, .unset, .unset, .unset, .unset, .unset, .unset, .unset] [(.int (3 : Int32)), (.int ((u0.toUInt32 >>> ((2 : Int32) &&& 31).toUInt32).toInt32))])) (fun tT_ kK_ => XS.iconst X143.here hx rfl (hb hby at_51) kK_) ?_
  refine own_stW (A := T143.setTop (mkF mM 53 #[.val (.int u0), .val (.int u1), .val (.int u2), .val (.int u3), .val (.int u4), .val (.int u5), .val (.ref aa), .unset, .unset, .unset, .unset, .unset, .unset, .unset, .unset, .unset, .unset, .unset, .unset, .unset, .unset] [(.int (((u0.toUInt32 >>> ((2 : Int32) &&& 31).toUInt32).toInt32) &&& (3 : Int32)))])) (fun tT_ kK_ => XS.iand X143.here hx rfl (hb hby at_52) rfl kK_) ?_
  rcases own_and3 (((u0.toUInt32 >>> ((2 : Int32) &&& 31).toUInt32).toInt32)) with q145 | q145 | q145 | q145
  · rw [q145]
    exact J53_0 hw (X143.more (by decide) (by decide)) hx hZ hby hml hown hlk hret hS hk e143 N143 u0 u1 u2 u3 u4 u5 aa cs E_aa O Zn S_cs hcs hcw hheld hI
  · rw [q145]
    exact J53_1 hw (X143.more (by decide) (by decide)) hx hZ hby hml hown hlk hret hS hk e143 N143 u0 u1 u2 u3 u4 u5 aa cs E_aa O Zn S_cs hcs hcw hheld hI
  · rw [q145]
    exact J53_2 hw (X143.more (by decide) (by decide)) hx hZ hby hml hown hlk hret hS hk e143 N143 u0 u1 u2 u3 u4 u5 aa cs E_aa O Zn S_cs hcs hcw hheld hI
  · rw [q145]
    exact J53_3 hw (X143.more (by decide) (by decide)) hx hZ hby hml hown hlk hret hS hk e143 N143 u0 u1 u2 u3 u4 u5 aa cs E_aa O Zn S_cs hcs hcw hheld hI
set_option maxRecDepth 65536 in
set_option maxHeartbeats 40000000 in
theorem J3_3 {pP : Program} {lL : Launch} {eE : Env} {sS : State} {mM : MethodId} {args : Array Value} {below : List Frame} {meth : Method} {cC : Code} {T0 : State} {locs : List Loc} {Z : State} {a0 : Array Value} {h0 : Heap} {n0 : Nat} {vmV : Vm} (hw : ∀ d ∈ tables_1, d.before a0 Z = true) (X0 : Stand pP lL eE room_1 (sS.setVm vmV) mM args below meth cC T0 locs 0 0) (hx : pP.tables.exec = Jvm.exec) (hZ : Z.Warmed39 (sS.setVm vmV).vm) (hby : cC.code = code) (hml : cC.maxLocals = 21) (hown : (sS.setVm vmV).vm.findClass "com/example/libttl/libttl/KeyFormPinLaw" = some mM.cls) (hlk : meth.locks = false) (hret : meth.sig.returnType = ret) {kV : Nat} (hS : sS.Since vmV kV) (hk : kV ≤ h0.size) (e0 : T0.heap = h0) (N0 : Fr n0 locs) (u0 : Int32) (u1 : Int32) (u2 : Int32) (u3 : Int32) (u4 : Int32) (u5 : Int32) (cs : Int32) (O : Old Z n0 h0) (Zn : n0 ≤ h0.size) (S_cs : Sta Z Z.heap "java/lang/String" "COMPACT_STRINGS" "Z" (.int cs)) (hcs : ¬ cs = (0 : Int32)) (hcw : Jvm.Lit.compactW.before a0 Z = true) (hheld : Jvm.Lit.constHeld Z "java/lang/String" 7) (hI : vmV.interned = Z.vm.interned) :
    own_GoW pP eE below sS (QLaw n0) 32 1152 (T0.setTop (mkF mM 3 #[.val (.int u0), .val (.int u1), .val (.int u2), .val (.int u3), .val (.int u4), .val (.int u5), .unset, .unset, .unset, .unset, .unset, .unset, .unset, .unset, .unset, .unset, .unset, .unset, .unset, .unset, .unset] [(.int (3 : Int32))])) := by
  obtain ⟨T146, h146, k146, X146, e146, E146, A146, x146, st146⟩ := own_newB X0 hx hZ (hw _ (List.mem_of_getElem? (i := 0) rfl)) e0 (g := (mkF mM 3 #[.val (.int u0), .val (.int u1), .val (.int u2), .val (.int u3), .val (.int u4), .val (.int u5), .unset, .unset, .unset, .unset, .unset, .unset, .unset, .unset, .unset, .unset, .unset, .unset, .unset, .unset, .unset] [(.int (3 : Int32))])) rfl (hb hby at_3) rfl (by decide) (cap := 3) (by decide) (by decide) (by decide) (by decide)
  obtain ⟨aa, g146⟩ : ∃ z, z = h0.size := ⟨_, rfl⟩
  rw [← g146] at A146 x146 st146
  have g_aa : n0 ≤ aa := Nat.le_trans Zn (Nat.le_of_eq g146.symm)
  have O := O.ext E146
  have hk := Nat.le_trans hk E146.1
  have Zn := Nat.le_trans Zn E146.1
  have A_aa : Arv Z h146 aa k146 .byte 3 [(.int (0 : Int32)), (.int (0 : Int32)), (.int (0 : Int32))] (.int (0 : Int32)) := (Arv.new A146 (by decide)).pad (pad_rep [] (.int (0 : Int32)) 3)
  refine own_stW (A := T146.setTop (mkF mM 5 #[.val (.int u0), .val (.int u1), .val (.int u2), .val (.int u3), .val (.int u4), .val (.int u5), .unset, .unset, .unset, .unset, .unset, .unset, .unset, .unset, .unset, .unset, .unset, .unset, .unset, .unset, .unset] [(.ref aa)])) (fun tT_ kK_ => st146 tT_ kK_) ?_
  have E_aa := x146
  refine own_stW (A := T146.setTop (mkF mM 7 #[.val (.int u0), .val (.int u1), .val (.int u2), .val (.int u3), .val (.int u4), .val (.int u5), .val (.ref aa), .unset, .unset, .unset, .unset, .unset, .unset, .unset, .unset, .unset, .unset, .unset, .unset, .unset, .unset] [])) (fun tT_ kK_ => XS.astore X146.here hx rfl (hb hby at_5) rfl rfl (l' := #[.val (.int u0), .val (.int u1), .val (.int u2), .val (.int u3), .val (.int u4), .val (.int u5), .val (.ref aa), .unset, .unset, .unset, .unset, .unset, .unset, .unset, .unset, .unset, .unset, .unset, .unset, .unset, .unset]) rfl kK_) ?_
  refine own_stW (A := T146.setTop (mkF mM 9 #[.val (.int u0), .val (.int u1), .val (.int u2), .val (.int u3), .val (.int u4), .val (.int u5), .val (.ref aa), .unset, .unset, .unset, .unset, .unset, .unset, .unset, .unset, .unset, .unset, .unset, .unset, .unset, .unset] [(.ref aa)])) (fun tT_ kK_ => XS.aload X146.here hx rfl (hb hby at_7) rfl rfl kK_) ?_
  obtain ⟨cl147, Ar147, q147, S147, Nn147, H147, G147⟩ := id A_aa
  refine own_stW (A := T146.setTop (mkF mM 10 #[.val (.int u0), .val (.int u1), .val (.int u2), .val (.int u3), .val (.int u4), .val (.int u5), .val (.ref aa), .unset, .unset, .unset, .unset, .unset, .unset, .unset, .unset, .unset, .unset, .unset, .unset, .unset, .unset] [(.int (3 : Int32))])) (fun tT_ kK_ => X146.arraylength hx (by rw [e146]; exact Ar147.1) (State.isArrayOf_alike hZ.alike Ar147.2.1) (g := (mkF mM 9 #[.val (.int u0), .val (.int u1), .val (.int u2), .val (.int u3), .val (.int u4), .val (.int u5), .val (.ref aa), .unset, .unset, .unset, .unset, .unset, .unset, .unset, .unset, .unset, .unset, .unset, .unset, .unset, .unset] [(.ref aa)])) rfl rfl (hb hby at_9) tT_ (by rw [len_of S147 Nn147]; exact kK_)) ?_
  refine own_stW (A := T146.setTop (mkF mM 13 #[.val (.int u0), .val (.int u1), .val (.int u2), .val (.int u3), .val (.int u4), .val (.int u5), .val (.ref aa), .unset, .unset, .unset, .unset, .unset, .unset, .unset, .unset, .unset, .unset, .unset, .unset, .unset, .unset] [])) (fun tT_ kK_ => XS.ifNo X146.here hx rfl (hb hby at_10) rfl ((if0 _ _).trans (tlt (by decide : ((0 : Int32) < (3 : Int32)))).2.2.2) kK_) ?_
  refine own_stW (A := T146.setTop (mkF mM 15 #[.val (.int u0), .val (.int u1), .val (.int u2), .val (.int u3), .val (.int u4), .val (.int u5), .val (.ref aa), .unset, .unset, .unset, .unset, .unset, .unset, .unset, .unset, .unset, .unset, .unset, .unset, .unset, .unset] [(.ref aa)])) (fun tT_ kK_ => XS.aload X146.here hx rfl (hb hby at_13) rfl rfl kK_) ?_
  refine own_stW (A := T146.setTop (mkF mM 16 #[.val (.int u0), .val (.int u1), .val (.int u2), .val (.int u3), .val (.int u4), .val (.int u5), .val (.ref aa), .unset, .unset, .unset, .unset, .unset, .unset, .unset, .unset, .unset, .unset, .unset, .unset, .unset, .unset] [(.int (0 : Int32)), (.ref aa)])) (fun tT_ kK_ => XS.iconst X146.here hx rfl (hb hby at_15) kK_) ?_
  refine own_stW (A := T146.setTop (mkF mM 17 #[.val (.int u0), .val (.int u1), .val (.int u2), .val (.int u3), .val (.int u4), .val (.int u5), .val (.ref aa), .unset, .unset, .unset, .unset, .unset, .unset, .unset, .unset, .unset, .unset, .unset, .unset, .unset, .unset] [(.int u1), (.int (0 : Int32)), (.ref aa)])) (fun tT_ kK_ => XS.iloadN X146.here hx rfl (hb hby at_16) rfl kK_) ?_
  refine own_stW (A := T146.setTop (mkF mM 18 #[.val (.int u0), .val (.int u1), .val (.int u2), .val (.int u3), .val (.int u4), .val (.int u5), .val (.ref aa), .unset, .unset, .unset, .unset, .unset, .unset, .unset, .unset, .unset, .unset, .unset, .unset, .unset, .unset] [(.int ((u1).toInt8.toInt32)), (.int (0 : Int32)), (.ref aa)])) (fun tT_ kK_ => XS.i2b X146.here hx rfl (hb hby at_17) rfl kK_) ?_
  obtain ⟨cl148, Ar148, q148, S148, Nn148, H148, G148⟩ := id A_aa
  obtain ⟨T149, h149, X149, e149, W149, st149⟩ := stB X146 hx hZ e146 Ar148 (j := (0 : Int32)) (inb_of S148 ⟨by decide, by decide⟩) (g := (mkF mM 18 #[.val (.int u0), .val (.int u1), .val (.int u2), .val (.int u3), .val (.int u4), .val (.int u5), .val (.ref aa), .unset, .unset, .unset, .unset, .unset, .unset, .unset, .unset, .unset, .unset, .unset, .unset, .unset, .unset] [(.int ((u1).toInt8.toInt32)), (.int (0 : Int32)), (.ref aa)])) rfl rfl (hb hby at_18)
  have N149 := Fr.snoc X149 N0 g_aa
  have E_aa := E_aa.wr W149
  have hk := Nat.le_trans hk (Keep.of_wr W149).1
  have O := O.wr W149 g_aa
  have Zn := Nat.le_trans Zn (Keep.of_wr W149).1
  have A_aa : Arv Z h149 aa k146 .byte 3 [(.int (((u1).toInt8.toInt32)).toInt8.toInt32), (.int (0 : Int32)), (.int (0 : Int32))] (.int (0 : Int32)) := Arv.set Ar148 q148 S148 Nn148 H148 G148 (fits_nar_byte _) W149 0 rfl (Nat.le_of_ble_eq_true rfl)
  refine own_stW (A := T149.setTop (mkF mM 19 #[.val (.int u0), .val (.int u1), .val (.int u2), .val (.int u3), .val (.int u4), .val (.int u5), .val (.ref aa), .unset, .unset, .unset, .unset, .unset, .unset, .unset, .unset, .unset, .unset, .unset, .unset, .unset, .unset] [])) (fun tT_ kK_ => st149 tT_ kK_) ?_
  refine own_stW (A := T149.setTop (mkF mM 21 #[.val (.int u0), .val (.int u1), .val (.int u2), .val (.int u3), .val (.int u4), .val (.int u5), .val (.ref aa), .unset, .unset, .unset, .unset, .unset, .unset, .unset, .unset, .unset, .unset, .unset, .unset, .unset, .unset] [(.ref aa)])) (fun tT_ kK_ => XS.aload X149.here hx rfl (hb hby at_19) rfl rfl kK_) ?_
  obtain ⟨cl150, Ar150, q150, S150, Nn150, H150, G150⟩ := id A_aa
  refine own_stW (A := T149.setTop (mkF mM 22 #[.val (.int u0), .val (.int u1), .val (.int u2), .val (.int u3), .val (.int u4), .val (.int u5), .val (.ref aa), .unset, .unset, .unset, .unset, .unset, .unset, .unset, .unset, .unset, .unset, .unset, .unset, .unset, .unset] [(.int (3 : Int32))])) (fun tT_ kK_ => X149.arraylength hx (by rw [e149]; exact Ar150.1) (State.isArrayOf_alike hZ.alike Ar150.2.1) (g := (mkF mM 21 #[.val (.int u0), .val (.int u1), .val (.int u2), .val (.int u3), .val (.int u4), .val (.int u5), .val (.ref aa), .unset, .unset, .unset, .unset, .unset, .unset, .unset, .unset, .unset, .unset, .unset, .unset, .unset, .unset] [(.ref aa)])) rfl rfl (hb hby at_21) tT_ (by rw [len_of S150 Nn150]; exact kK_)) ?_
  refine own_stW (A := T149.setTop (mkF mM 23 #[.val (.int u0), .val (.int u1), .val (.int u2), .val (.int u3), .val (.int u4), .val (.int u5), .val (.ref aa), .unset, .unset, .unset, .unset, .unset, .unset, .unset, .unset, .unset, .unset, .unset, .unset, .unset, .unset] [(.int (1 : Int32)), (.int (3 : Int32))])) (fun tT_ kK_ => XS.iconst X149.here hx rfl (hb hby at_22) kK_) ?_
  refine own_stW (A := T149.setTop (mkF mM 26 #[.val (.int u0), .val (.int u1), .val (.int u2), .val (.int u3), .val (.int u4), .val (.int u5), .val (.ref aa), .unset, .unset, .unset, .unset, .unset, .unset, .unset, .unset, .unset, .unset, .unset, .unset, .unset, .unset] [])) (fun tT_ kK_ => XS.icmpNo X149.here hx rfl (hb hby at_23) rfl (tlt (by decide : ((1 : Int32) < (3 : Int32)))).2.2.2 kK_) ?_
  refine own_stW (A := T149.setTop (mkF mM 28 #[.val (.int u0), .val (.int u1), .val (.int u2), .val (.int u3), .val (.int u4), .val (.int u5), .val (.ref aa), .unset, .unset, .unset, .unset, .unset, .unset, .unset, .unset, .unset, .unset, .unset, .unset, .unset, .unset] [(.ref aa)])) (fun tT_ kK_ => XS.aload X149.here hx rfl (hb hby at_26) rfl rfl kK_) ?_
  refine own_stW (A := T149.setTop (mkF mM 29 #[.val (.int u0), .val (.int u1), .val (.int u2), .val (.int u3), .val (.int u4), .val (.int u5), .val (.ref aa), .unset, .unset, .unset, .unset, .unset, .unset, .unset, .unset, .unset, .unset, .unset, .unset, .unset, .unset] [(.int (1 : Int32)), (.ref aa)])) (fun tT_ kK_ => XS.iconst X149.here hx rfl (hb hby at_28) kK_) ?_
  refine own_stW (A := T149.setTop (mkF mM 30 #[.val (.int u0), .val (.int u1), .val (.int u2), .val (.int u3), .val (.int u4), .val (.int u5), .val (.ref aa), .unset, .unset, .unset, .unset, .unset, .unset, .unset, .unset, .unset, .unset, .unset, .unset, .unset, .unset] [(.int u2), (.int (1 : Int32)), (.ref aa)])) (fun tT_ kK_ => XS.iloadN X149.here hx rfl (hb hby at_29) rfl kK_) ?_
  refine own_stW (A := T149.setTop (mkF mM 31 #[.val (.int u0), .val (.int u1), .val (.int u2), .val (.int u3), .val (.int u4), .val (.int u5), .val (.ref aa), .unset, .unset, .unset, .unset, .unset, .unset, .unset, .unset, .unset, .unset, .unset, .unset, .unset, .unset] [(.int ((u2).toInt8.toInt32)), (.int (1 : Int32)), (.ref aa)])) (fun tT_ kK_ => XS.i2b X149.here hx rfl (hb hby at_30) rfl kK_) ?_
  obtain ⟨cl151, Ar151, q151, S151, Nn151, H151, G151⟩ := id A_aa
  obtain ⟨T152, h152, X152, e152, W152, st152⟩ := stB X149 hx hZ e149 Ar151 (j := (1 : Int32)) (inb_of S151 ⟨by decide, by decide⟩) (g := (mkF mM 31 #[.val (.int u0), .val (.int u1), .val (.int u2), .val (.int u3), .val (.int u4), .val (.int u5), .val (.ref aa), .unset, .unset, .unset, .unset, .unset, .unset, .unset, .unset, .unset, .unset, .unset, .unset, .unset, .unset] [(.int ((u2).toInt8.toInt32)), (.int (1 : Int32)), (.ref aa)])) rfl rfl (hb hby at_31)
  have N152 := Fr.snoc X152 N149 g_aa
  have E_aa := E_aa.wr W152
  have hk := Nat.le_trans hk (Keep.of_wr W152).1
  have O := O.wr W152 g_aa
  have Zn := Nat.le_trans Zn (Keep.of_wr W152).1
  have A_aa : Arv Z h152 aa k146 .byte 3 [(.int (((u1).toInt8.toInt32)).toInt8.toInt32), (.int (((u2).toInt8.toInt32)).toInt8.toInt32), (.int (0 : Int32))] (.int (0 : Int32)) := Arv.set Ar151 q151 S151 Nn151 H151 G151 (fits_nar_byte _) W152 1 rfl (Nat.le_of_ble_eq_true rfl)
  refine own_stW (A := T152.setTop (mkF mM 32 #[.val (.int u0), .val (.int u1), .val (.int u2), .val (.int u3), .val (.int u4), .val (.int u5), .val (.ref aa), .unset, .unset, .unset, .unset, .unset, .unset, .unset, .unset, .unset, .unset, .unset, .unset, .unset, .unset] [])) (fun tT_ kK_ => st152 tT_ kK_) ?_
  refine own_stW (A := T152.setTop (mkF mM 34 #[.val (.int u0), .val (.int u1), .val (.int u2), .val (.int u3), .val (.int u4), .val (.int u5), .val (.ref aa), .unset, .unset, .unset, .unset, .unset, .unset, .unset, .unset, .unset, .unset, .unset, .unset, .unset, .unset] [(.ref aa)])) (fun tT_ kK_ => XS.aload X152.here hx rfl (hb hby at_32) rfl rfl kK_) ?_
  obtain ⟨cl153, Ar153, q153, S153, Nn153, H153, G153⟩ := id A_aa
  refine own_stW (A := T152.setTop (mkF mM 35 #[.val (.int u0), .val (.int u1), .val (.int u2), .val (.int u3), .val (.int u4), .val (.int u5), .val (.ref aa), .unset, .unset, .unset, .unset, .unset, .unset, .unset, .unset, .unset, .unset, .unset, .unset, .unset, .unset] [(.int (3 : Int32))])) (fun tT_ kK_ => X152.arraylength hx (by rw [e152]; exact Ar153.1) (State.isArrayOf_alike hZ.alike Ar153.2.1) (g := (mkF mM 34 #[.val (.int u0), .val (.int u1), .val (.int u2), .val (.int u3), .val (.int u4), .val (.int u5), .val (.ref aa), .unset, .unset, .unset, .unset, .unset, .unset, .unset, .unset, .unset, .unset, .unset, .unset, .unset, .unset] [(.ref aa)])) rfl rfl (hb hby at_34) tT_ (by rw [len_of S153 Nn153]; exact kK_)) ?_
  refine own_stW (A := T152.setTop (mkF mM 36 #[.val (.int u0), .val (.int u1), .val (.int u2), .val (.int u3), .val (.int u4), .val (.int u5), .val (.ref aa), .unset, .unset, .unset, .unset, .unset, .unset, .unset, .unset, .unset, .unset, .unset, .unset, .unset, .unset] [(.int (2 : Int32)), (.int (3 : Int32))])) (fun tT_ kK_ => XS.iconst X152.here hx rfl (hb hby at_35) kK_) ?_
  refine own_stW (A := T152.setTop (mkF mM 39 #[.val (.int u0), .val (.int u1), .val (.int u2), .val (.int u3), .val (.int u4), .val (.int u5), .val (.ref aa), .unset, .unset, .unset, .unset, .unset, .unset, .unset, .unset, .unset, .unset, .unset, .unset, .unset, .unset] [])) (fun tT_ kK_ => XS.icmpNo X152.here hx rfl (hb hby at_36) rfl (tlt (by decide : ((2 : Int32) < (3 : Int32)))).2.2.2 kK_) ?_
  refine own_stW (A := T152.setTop (mkF mM 41 #[.val (.int u0), .val (.int u1), .val (.int u2), .val (.int u3), .val (.int u4), .val (.int u5), .val (.ref aa), .unset, .unset, .unset, .unset, .unset, .unset, .unset, .unset, .unset, .unset, .unset, .unset, .unset, .unset] [(.ref aa)])) (fun tT_ kK_ => XS.aload X152.here hx rfl (hb hby at_39) rfl rfl kK_) ?_
  refine own_stW (A := T152.setTop (mkF mM 42 #[.val (.int u0), .val (.int u1), .val (.int u2), .val (.int u3), .val (.int u4), .val (.int u5), .val (.ref aa), .unset, .unset, .unset, .unset, .unset, .unset, .unset, .unset, .unset, .unset, .unset, .unset, .unset, .unset] [(.int (2 : Int32)), (.ref aa)])) (fun tT_ kK_ => XS.iconst X152.here hx rfl (hb hby at_41) kK_) ?_
  refine own_stW (A := T152.setTop (mkF mM 43 #[.val (.int u0), .val (.int u1), .val (.int u2), .val (.int u3), .val (.int u4), .val (.int u5), .val (.ref aa), .unset, .unset, .unset, .unset, .unset, .unset, .unset, .unset, .unset, .unset, .unset, .unset, .unset, .unset] [(.int u1), (.int (2 : Int32)), (.ref aa)])) (fun tT_ kK_ => XS.iloadN X152.here hx rfl (hb hby at_42) rfl kK_) ?_
  refine own_stW (A := T152.setTop (mkF mM 45 #[.val (.int u0), .val (.int u1), .val (.int u2), .val (.int u3), .val (.int u4), .val (.int u5), .val (.ref aa), .unset, .unset, .unset, .unset, .unset, .unset, .unset, .unset, .unset, .unset, .unset, .unset, .unset, .unset] [(.int (8 : Int32)), (.int u1), (.int (2 : Int32)), (.ref aa)])) (fun tT_ kK_ => XS.bipush X152.here hx rfl (hb hby at_43) kK_) ?_
  refine own_stW (A := T152.setTop (mkF mM 46 #[.val (.int u0), .val (.int u1), .val (.int u2), .val (.int u3), .val (.int u4), .val (.int u5), .val (.ref aa), .unset, .unset, .unset, .unset, .unset, .unset, .unset, .unset, .unset, .unset, .unset, .unset, .unset, .unset] [(.int ((u1.toUInt32 >>> ((8 : Int32) &&& 31).toUInt32).toInt32)), (.int (2 : Int32)), (.ref aa)])) (fun tT_ kK_ => XS.iushr X152.here hx rfl (hb hby at_45) rfl kK_) ?_
  refine own_stW (A := T152.setTop (mkF mM 47 #[.val (.int u0), .val (.int u1), .val (.int u2), .val (.int u3), .val (.int u4), .val (.int u5), .val (.ref aa), .unset, .unset, .unset, .unset, .unset, .unset, .unset, .unset, .unset, .unset, .unset, .unset, .unset, .unset] [(.int ((((u1.toUInt32 >>> ((8 : Int32) &&& 31).toUInt32).toInt32)).toInt8.toInt32)), (.int (2 : Int32)), (.ref aa)])) (fun tT_ kK_ => XS.i2b X152.here hx rfl (hb hby at_46) rfl kK_) ?_
  obtain ⟨cl154, Ar154, q154, S154, Nn154, H154, G154⟩ := id A_aa
  obtain ⟨T155, h155, X155, e155, W155, st155⟩ := stB X152 hx hZ e152 Ar154 (j := (2 : Int32)) (inb_of S154 ⟨by decide, by decide⟩) (g := (mkF mM 47 #[.val (.int u0), .val (.int u1), .val (.int u2), .val (.int u3), .val (.int u4), .val (.int u5), .val (.ref aa), .unset, .unset, .unset, .unset, .unset, .unset, .unset, .unset, .unset, .unset, .unset, .unset, .unset, .unset] [(.int ((((u1.toUInt32 >>> ((8 : Int32) &&& 31).toUInt32).toInt32)).toInt8.toInt32)), (.int (2 : Int32)), (.ref aa)])) rfl rfl (hb hby at_47)
  have N155 := Fr.snoc X155 N152 g_aa
  have E_aa := E_aa.wr W155
  have hk := Nat.le_trans hk (Keep.of_wr W155).1
  have O := O.wr W155 g_aa
  have Zn := Nat.le_trans Zn (Keep.of_wr W155).1
  have A_aa : Arv Z h155 aa k146 .byte 3 [(.int (((u1).toInt8.toInt32)).toInt8.toInt32), (.int (((u2).toInt8.toInt32)).toInt8.toInt32), (.int (((((u1.toUInt32 >>> ((8 : Int32) &&& 31).toUInt32).toInt32)).toInt8.toInt32)).toInt8.toInt32)] (.int (0 : Int32)) := Arv.set Ar154 q154 S154 Nn154 H154 G154 (fits_nar_byte _) W155 2 rfl (Nat.le_of_ble_eq_true rfl)
  refine own_stW (A := T155.setTop (mkF mM 48 #[.val (.int u0), .val (.int u1), .val (.int u2), .val (.int u3), .val (.int u4), .val (.int u5), .val (.ref aa), .unset, .unset, .unset, .unset, .unset, .unset, .unset, .unset, .unset, .unset, .unset, .unset, .unset, .unset] [])) (fun tT_ kK_ => st155 tT_ kK_) ?_
  refine own_stW (A := T155.setTop (mkF mM 49 #[.val (.int u0), .val (.int u1), .val (.int u2), .val (.int u3), .val (.int u4), .val (.int u5), .val (.ref aa), .unset, .unset, .unset, .unset, .unset, .unset, .unset, .unset, .unset, .unset, .unset, .unset, .unset, .unset] [(.int u0)])) (fun tT_ kK_ => XS.iloadN X155.here hx rfl (hb hby at_48) rfl kK_) ?_
  refine own_stW (A := T155.setTop (mkF mM 50 #[.val (.int u0), .val (.int u1), .val (.int u2), .val (.int u3), .val (.int u4), .val (.int u5), .val (.ref aa), .unset, .unset, .unset, .unset, .unset, .unset, .unset, .unset, .unset, .unset, .unset, .unset, .unset, .unset] [(.int (2 : Int32)), (.int u0)])) (fun tT_ kK_ => XS.iconst X155.here hx rfl (hb hby at_49) kK_) ?_
  refine own_stW (A := T155.setTop (mkF mM 51 #[.val (.int u0), .val (.int u1), .val (.int u2), .val (.int u3), .val (.int u4), .val (.int u5), .val (.ref aa), .unset, .unset, .unset, .unset, .unset, .unset, .unset, .unset, .unset, .unset, .unset, .unset, .unset, .unset] [(.int ((u0.toUInt32 >>> ((2 : Int32) &&& 31).toUInt32).toInt32))])) (fun tT_ kK_ => XS.iushr X155.here hx rfl (hb hby at_50) rfl kK_) ?_
  refine own_stW (A := T155.setTop (mkF mM 52 #[.val (.int u0), .val (.int u1), .val (.int u2), .val (.int u3), .val (.int u4), .val (.int u5), .val (.ref aa), .unset, .unset, .unset, .unset, .unset, .unset, .unset, .unset, .unset, .unset, .unset, .unset, .unset, .unset] [(.int (3 : Int32)), (.int ((u0.toUInt32 >>> ((2 : Int32) &&& 31).toUInt32).toInt32))])) (fun tT_ kK_ => XS.iconst X155.here hx rfl (hb hby at_51) kK_) ?_
  refine own_stW (A := T155.setTop (mkF mM 53 #[.val (.int u0), .val (.int u1), .val (.int u2), .val (.int u3), .val (.int u4), .val (.int u5), .val (.ref aa), .unset, .unset, .unset, .unset, .unset, .unset, .unset, .unset, .unset, .unset, .unset, .unset, .unset, .unset] [(.int (((u0.toUInt32 >>> ((2 : Int32) &&& 31).toUInt32).toInt32) &&& (3 : Int32)))])) (fun tT_ kK_ => XS.iand X155.here hx rfl (hb hby at_52) rfl kK_) ?_
  rcases own_and3 (((u0.toUInt32 >>> ((2 : Int32) &&& 31).toUInt32).toInt32)) with q156 | q156 | q156 | q156
  · rw [q156]
    exact J53_0 hw (X155.more (by decide) (by decide)) hx hZ hby hml hown hlk hret hS hk e155 N155 u0 u1 u2 u3 u4 u5 aa cs E_aa O Zn S_cs hcs hcw hheld hI
  · rw [q156]
    exact J53_1 hw (X155.more (by decide) (by decide)) hx hZ hby hml hown hlk hret hS hk e155 N155 u0 u1 u2 u3 u4 u5 aa cs E_aa O Zn S_cs hcs hcw hheld hI
  · rw [q156]
    exact J53_2 hw (X155.more (by decide) (by decide)) hx hZ hby hml hown hlk hret hS hk e155 N155 u0 u1 u2 u3 u4 u5 aa cs E_aa O Zn S_cs hcs hcw hheld hI
  · rw [q156]
    exact J53_3 hw (X155.more (by decide) (by decide)) hx hZ hby hml hown hlk hret hS hk e155 N155 u0 u1 u2 u3 u4 u5 aa cs E_aa O Zn S_cs hcs hcw hheld hI
theorem pn_com_2fexample_2flibttl_2flibttl_2fKeyFormPinLaw : plainName "com/example/libttl/libttl/KeyFormPinLaw" = true := by first | (simp [plainName, overriddenIn]; done) | decide +kernel
theorem ef_rm0 (mM : MethodId) (u0 : Int32) (u1 : Int32) (u2 : Int32) (u3 : Int32) (u4 : Int32) (u5 : Int32) (cs : Int32) : entryFrame mM #[(.int u0), (.int u1), (.int u2), (.int u3), (.int u4), (.int u5)] maxLocals = mkF mM 0 #[.val (.int u0), .val (.int u1), .val (.int u2), .val (.int u3), .val (.int u4), .val (.int u5), .unset, .unset, .unset, .unset, .unset, .unset, .unset, .unset, .unset, .unset, .unset, .unset, .unset, .unset, .unset] [] := by first | (simp [entryFrame, mkF, argsToLocals, Value.category, maxLocals]; done) | rfl
set_option maxRecDepth 65536 in
set_option maxHeartbeats 40000000 in
theorem rm0 (lL : Launch) (Z : State) (a0 : Array Value) (hw : ∀ d ∈ tables_1, d.before a0 Z = true) (ws : List Jvm.Cond) (u0 : Int32) (u1 : Int32) (u2 : Int32) (u3 : Int32) (u4 : Int32) (u5 : Int32) (cs : Int32) (h0 : Heap) (n0 : Nat) (O : Old Z n0 h0) (Zn : n0 ≤ h0.size) (S_cs : Sta Z Z.heap "java/lang/String" "COMPACT_STRINGS" "Z" (.int cs)) (hcs : ¬ cs = (0 : Int32)) (hcw : Jvm.Lit.compactW.before a0 Z = true) (hheld : Jvm.Lit.constHeld Z "java/lang/String" 7) :
    MetFree lL x (head1 (Jvm.Cond.code x code maxLocals ret :: ws) room_1) (fun as_ uU_ => as_ = #[(.int u0), (.int u1), (.int u2), (.int u3), (.int u4), (.int u5)] ∧ Z.Warmed39 uU_.vm ∧ uU_.heap = h0 ∧ uU_.vm.interned = Z.vm.interned) (fun _ _ _ _ _ => True) (fun _ uU_ oO_ uE_ => ∃ vV_ lL_, oO_ = .returned vV_ ∧ (fun _ => QLaw) h0 n0 vV_ uE_.heap lL_ ∧ ReturnedEndW uU_ oO_ uE_ lL_ 32 1152) := by
  refine MetFree.of_bodySF (plainFor_of_name pn_com_2fexample_2flibttl_2flibttl_2fKeyFormPinLaw) hisR ?_
  intro pP eE sS mM args below meth cC s₁ Bd hml0 hP hK
  obtain ⟨rfl, hZ, hh, hI⟩ := hP
  have hx := Bd.exec
  have hby := Bd.bytes
  have hml : cC.maxLocals = 21 := hml0
  have hown : sS.vm.findClass "com/example/libttl/libttl/KeyFormPinLaw" = some mM.cls := findClass_of_methodNamed Bd.named
  have hnm := (name_of_methodNamed Bd.named Bd.method).1
  have hret := Bd.returns
  have hlk := BodyLoose.notSynchronized Bd
  have X0 : Stand pP lL eE room_1 sS mM #[(.int u0), (.int u1), (.int u2), (.int u3), (.int u4), (.int u5)] below meth cC s₁ [] 0 0 := Stand.of_body Bd
  have e0 : s₁.heap = h0 := by rw [← hh, Bd.state]; rfl
  have N0 := Fr.nil n0
  have X0 : Stand pP lL eE room_1 (sS.setVm sS.vm) mM #[(.int u0), (.int u1), (.int u2), (.int u3), (.int u4), (.int u5)] below meth cC s₁ [] 0 0 := X0
  have hZ : Z.Warmed39 (sS.setVm sS.vm).vm := hZ
  have hown : (sS.setVm sS.vm).vm.findClass "com/example/libttl/libttl/KeyFormPinLaw" = some mM.cls := hown
  have hS : sS.Since sS.vm 0 := (State.WarmedH.refl sS).since 0
  have hk : 0 ≤ h0.size := Nat.zero_le _
  show own_GoW pP eE below sS ((fun _ => QLaw) h0 n0) 32 1152 (s₁.setTop (entryFrame mM #[(.int u0), (.int u1), (.int u2), (.int u3), (.int u4), (.int u5)] maxLocals))
  refine own_stW (A := s₁.setTop (mkF mM 0 #[.val (.int u0), .val (.int u1), .val (.int u2), .val (.int u3), .val (.int u4), .val (.int u5), .unset, .unset, .unset, .unset, .unset, .unset, .unset, .unset, .unset, .unset, .unset, .unset, .unset, .unset, .unset] [])) (fun tT_ kK_ => castTop (ef_rm0 mM u0 u1 u2 u3 u4 u5 cs) kK_) ?_
  refine own_stW (A := s₁.setTop (mkF mM 1 #[.val (.int u0), .val (.int u1), .val (.int u2), .val (.int u3), .val (.int u4), .val (.int u5), .unset, .unset, .unset, .unset, .unset, .unset, .unset, .unset, .unset, .unset, .unset, .unset, .unset, .unset, .unset] [(.int u0)])) (fun tT_ kK_ => XS.iloadN X0.here hx rfl (hb hby at_0) rfl kK_) ?_
  refine own_stW (A := s₁.setTop (mkF mM 2 #[.val (.int u0), .val (.int u1), .val (.int u2), .val (.int u3), .val (.int u4), .val (.int u5), .unset, .unset, .unset, .unset, .unset, .unset, .unset, .unset, .unset, .unset, .unset, .unset, .unset, .unset, .unset] [(.int (3 : Int32)), (.int u0)])) (fun tT_ kK_ => XS.iconst X0.here hx rfl (hb hby at_1) kK_) ?_
  refine own_stW (A := s₁.setTop (mkF mM 3 #[.val (.int u0), .val (.int u1), .val (.int u2), .val (.int u3), .val (.int u4), .val (.int u5), .unset, .unset, .unset, .unset, .unset, .unset, .unset, .unset, .unset, .unset, .unset, .unset, .unset, .unset, .unset] [(.int (u0 &&& (3 : Int32)))])) (fun tT_ kK_ => XS.iand X0.here hx rfl (hb hby at_2) rfl kK_) ?_
  rcases own_and3 (u0) with q157 | q157 | q157 | q157
  · rw [q157]
    exact J3_0 hw X0 hx hZ hby hml hown hlk hret hS hk e0 N0 u0 u1 u2 u3 u4 u5 cs O Zn S_cs hcs hcw hheld hI
  · rw [q157]
    exact J3_1 hw X0 hx hZ hby hml hown hlk hret hS hk e0 N0 u0 u1 u2 u3 u4 u5 cs O Zn S_cs hcs hcw hheld hI
  · rw [q157]
    exact J3_2 hw X0 hx hZ hby hml hown hlk hret hS hk e0 N0 u0 u1 u2 u3 u4 u5 cs O Zn S_cs hcs hcw hheld hI
  · rw [q157]
    exact J3_3 hw X0 hx hZ hby hml hown hlk hret hS hk e0 N0 u0 u1 u2 u3 u4 u5 cs O Zn S_cs hcs hcw hheld hI
set_option maxRecDepth 65536 in
set_option maxHeartbeats 40000000 in
theorem comes_1 {Post : Tables → Env → Array Value → State → Outcome → State → Prop} (hpost : ∀ tb e args s v u, (limb_1_1.after args s (.returned v) u = true ∧ limb_1_2.after args s (.returned v) u = true ∧ True) → ReturnedEndW s (.returned v) u (Jvm.fieldLocs frame_1_writes args s ++ Jvm.arrayLocs frame_1_arrays args s ++ Jvm.staticLocs frame_1_statics s) 32 1152 → Post tb e args s (.returned v) u) :
    ArmFor flags0 classFile x code maxLocals ret World_1 tables_1 room_1 Calls_1 rest_1 Pre_1 Post := by
  intro l hfl _ _ p e ha hc hk s m args below hf hA hF happ hP
  obtain ⟨hcalls, hrest, hpre⟩ := hP
  obtain ⟨-, -, -, hnamed, -, -, -, hat⟩ := (Spec.applies_iff hf).mp happ
  obtain ⟨hg, hn⟩ := and_e (Cond.before_iff.mp (show (Jvm.Cond.and given_1 narrow_1).before args s = true from hpre))
  obtain ⟨h1, hg1⟩ := and_e hg
  obtain ⟨w0, w1, w2, w3, w4, w5, rfl⟩ : ∃ w0 w1 w2 w3 w4 w5 : Value, args = #[w0, w1, w2, w3, w4, w5] := by
    have hs : args.size = 6 := by simpa [Cond.value, given_1] using h1
    obtain ⟨L⟩ := args
    match L, hs with
    | [w0, w1, w2, w3, w4, w5], _ => exact ⟨w0, w1, w2, w3, w4, w5, rfl⟩
  have hw := fun d (hd : d ∈ tables_1) => atoms_spec (ws := Jvm.Cond.code x code maxLocals ret :: tables_1) hat d (List.mem_cons_of_mem _ hd)
  have hfit : Fit s := fun {y c} hc i hi => by
    obtain ⟨ha, rfl⟩ := Array.getElem?_eq_some_iff.mp hc
    have q := List.all_eq_true.mp ((Array.all_eq_true_iff_forall_mem.mp hF) _ (Array.getElem_mem ha)) i (List.mem_range.mpr hi)
    simpa [Array.getElem?_eq_getElem hi] using q
  obtain ⟨g0, hg2⟩ := and_e hg1
  obtain ⟨i0, e0⟩ := is_v g0
  obtain rfl : w0 = (.int i0) := Option.some.inj e0
  obtain ⟨g1, hg3⟩ := and_e hg2
  obtain ⟨i1, e1⟩ := is_v g1
  obtain rfl : w1 = (.int i1) := Option.some.inj e1
  obtain ⟨g2, hg4⟩ := and_e hg3
  obtain ⟨i2, e2⟩ := is_v g2
  obtain rfl : w2 = (.int i2) := Option.some.inj e2
  obtain ⟨g3, hg5⟩ := and_e hg4
  obtain ⟨i3, e3⟩ := is_v g3
  obtain rfl : w3 = (.int i3) := Option.some.inj e3
  obtain ⟨g4, hg6⟩ := and_e hg5
  obtain ⟨i4, e4⟩ := is_v g4
  obtain rfl : w4 = (.int i4) := Option.some.inj e4
  have g5 := hg6
  obtain ⟨i5, e5⟩ := is_v g5
  obtain rfl : w5 = (.int i5) := Option.some.inj e5
  have hn : narrow_1.value _ s none s [] = some true := hn
  obtain ⟨hsets, -⟩ := atoms_of jdkStatics_1 (show (jdkStatics_1.foldr Jvm.Cond.and restOwn_1).before _ s = true from (by have q := hrest; rw [← rest_1_c_eq]; exact q))
  obtain ⟨cs, ev_cs⟩ := is_v (Cond.before_iff.mp (hsets _ (List.mem_of_getElem? (i := 1) rfl)))
  have S_cs := Sta.start ev_cs (Or.inl (hsets _ (List.mem_of_getElem? (i := 0) rfl)))
  have hcs : ¬ cs = (0 : Int32) := gotF (Cond.eq_ints ev_cs (Term.int_eval 0)) (not_v (Cond.before_iff.mp (hsets _ (List.mem_of_getElem? (i := 2) rfl))))
  have hheld : Jvm.Lit.constHeld s "java/lang/String" 7 := hcalls.1 ("java/lang/String", 7) (List.mem_of_getElem? (i := 0) rfl)
  obtain ⟨n, o, h1, h2, h3, _, L, rfl, ⟨rfl, N⟩, hq⟩ := rm0 l s _ hw tables_1 i0 i1 i2 i3 i4 i5 cs s.heap s.heap.size (Old.start s) (Nat.le_refl _) S_cs hcs (hsets _ (List.mem_of_getElem? (i := 2) rfl)) hheld p e ha hc hk s m _ below hf ((Spec.applies_iff_loose hf).mp happ).1 ⟨rfl, State.Warmed39.refl s, rfl, rfl⟩ trivial
  refine ⟨n, _, h1, h2, h3, hpost _ _ _ _ _ _ ⟨Cond.after_iff.mpr rfl, Cond.after_iff.mpr (eq_i res_at (Term.int_eval (1)) rfl), trivial⟩ ⟨hq.1, hq.2.1, hq.2.2.1, (hq.2.2.2.sift fun y hy => Or.inr (N y hy)).mono (by decide) (by decide)⟩⟩
theorem main_1_1 : Claimed_1_1 := comes_1 fun _ _ _ _ _ _ h hF => ⟨h.1, hF⟩
theorem main_1_2 : Claimed_1_2 := comes_1 fun _ _ _ _ _ _ h hF => ⟨h.2.1, hF⟩
end Jvm.Pilot.@@N@@
namespace Jvm.Pilot.@@N@@
open Jvm Jvm.ClassFile Sem Op Lib Jvm.Free Jvm.Stand Jvm.Pilot.@@N@@.Jvm.D
/-! MADE BY PROGRAM (witnessworld.py) out of the Statement's table words and the real class files: 20 classes; the members and pool entries that the words name. The judged class is class 1, her method 1. -/
namespace start1
open Jvm.ClassFile
def u (s : String) : CpInfo := .utf8 (stringToUtf16 s)
/-- a pool by its gaps: so many unusable entries, then the entry; so many at the end -/
def gap : Nat → List CpInfo → List CpInfo
  | 0, r => r
  | n + 1, r => .unusable :: gap n r
def poolList (es : List (Nat × CpInfo)) (last : Nat) : List CpInfo := es.foldr (fun e r => gap e.1 (e.2 :: r)) (gap last [])
def pool (es : List (Nat × CpInfo)) (last : Nat) : Array CpInfo := ⟨poolList es last⟩
def fileOf (pool : Array CpInfo) (this : Nat) (attrs : Array Attribute := #[]) (ms : Array MethodInfo := #[]) (fl : Nat := 33) (sup : Nat := 0) (ifs : Array Nat := #[]) (fds : Array FieldInfo := #[]) : ClassFile where
  minorVersion := 0
  majorVersion := 65
  constantPool := pool
  accessFlags := fl
  thisClass := this
  superClass := sup
  interfaces := ifs
  fields := fds
  methods := ms
  attributes := attrs
def plain (name : String) (sup : Option ClassId) : Class where
  name := name
  kind := .ordinary
  loader := none
  accessFlags := 33
  super := sup
  interfaces := #[]
  cf := none
  fields := #[]
  methods := #[]
  instanceTypes := #[]
  staticTypes := #[]
  resolved := #[]
  callSites := []
  init := .initialized
  statics := none
  mirror := none

def pool0 : Array CpInfo := pool [(5, u "<init>"), (0, u "()V"), (1, .class_ 10), (1, u "java/lang/Object")] 113

def k0c0 : Code := { maxStack := 0, maxLocals := 1, code := object_method_1_code, exceptionTable := #[], attributes := #[] }
def k0m0 : Method := { name := "<init>", desc := "()V", sig := { parameters := [], returnType := none }, accessFlags := 1, code := some k0c0 }
/-- java/lang/Object -/
def k0 : Class := { plain "java/lang/Object" none with
  accessFlags := 33
  interfaces := #[]
  cf := some (fileOf pool0 8 #[] #[{ accessFlags := 1, nameIndex := 5, descriptorIndex := 6, attributes := #[] }] 33 0 #[] #[])
  fields := #[]
  methods := #[k0m0]
  instanceTypes := #[]
  staticTypes := #[]
  resolved := Array.replicate 124 none
  statics := none }

def pool1 : Array CpInfo := pool [(2, .class_ 4), (1, u "java/lang/Object"), (0, u "<init>"), (0, u "()V"), (0, .class_ 8), (0, u "java/lang/String"), (0, .methodref 7 10), (0, .nameAndType 5 11), (0, u "([C)V"), (0, .class_ 13), (0, u "com/example/libttl/libttl/Key"), (0, .methodref 12 15), (0, .nameAndType 5 16), (0, u "([BI)V"), (0, .methodref 12 18), (0, .nameAndType 19 20), (0, u "form"), (0, u "()Ljava/lang/Object;"), (0, .methodref 12 22), (0, .nameAndType 23 24), (0, u "ofForm"), (0, u "(Ljava/lang/Object;I)Lcom/example/libttl/libttl/Key;"), (0, .class_ 26), (0, u "com/example/libttl/libttl/KeyFormPinLaw"), (2, u "law"), (0, u "(IIIIII)Z")] 7

def k1m0 : Method := { name := "<init>", desc := "()V", sig := { parameters := [], returnType := none }, accessFlags := 1, code := none }
def k1c1 : Code := { maxStack := 4, maxLocals := 21, code := code, exceptionTable := #[], attributes := #[] }
def k1m1 : Method := { name := "law", desc := "(IIIIII)Z", sig := { parameters := [.int, .int, .int, .int, .int, .int], returnType := some .boolean }, accessFlags := 9, code := some k1c1 }
/-- com/example/libttl/libttl/KeyFormPinLaw -/
def k1 : Class := { plain "com/example/libttl/libttl/KeyFormPinLaw" (some 0) with
  accessFlags := 49
  interfaces := #[]
  cf := some (fileOf pool1 25 #[] #[{ accessFlags := 1, nameIndex := 5, descriptorIndex := 6, attributes := #[] }, { accessFlags := 9, nameIndex := 29, descriptorIndex := 30, attributes := #[] }] 49 2 #[] #[])
  fields := #[]
  methods := #[k1m0, k1m1]
  instanceTypes := #[]
  staticTypes := #[]
  resolved := Array.replicate 38 none
  statics := none }

def pool2 : Array CpInfo := pool [(1, .class_ 2), (0, u "java/io/Serializable"), (0, .class_ 4), (0, u "java/lang/Object")] 2

/-- java/io/Serializable -/
def k2 : Class := { plain "java/io/Serializable" (some 0) with
  accessFlags := 1537
  interfaces := #[]
  cf := some (fileOf pool2 1 #[] #[] 1537 3 #[] #[])
  fields := #[]
  methods := #[]
  instanceTypes := #[]
  staticTypes := #[]
  resolved := Array.replicate 7 none
  statics := none }

def pool3 : Array CpInfo := pool [(1, .class_ 2), (0, u "java/lang/Comparable"), (0, .class_ 4), (0, u "java/lang/Object")] 7

/-- java/lang/Comparable -/
def k3 : Class := { plain "java/lang/Comparable" (some 0) with
  accessFlags := 1537
  interfaces := #[]
  cf := some (fileOf pool3 1 #[] #[] 1537 3 #[] #[])
  fields := #[]
  methods := #[]
  instanceTypes := #[]
  staticTypes := #[]
  resolved := Array.replicate 12 none
  statics := none }

def pool4 : Array CpInfo := pool [(2, .class_ 4), (1, u "java/lang/CharSequence"), (42, .class_ 48), (0, u "java/lang/CharSequence$1CodePointIterator"), (10, .class_ 60), (0, u "java/lang/CharSequence$1CharIterator"), (5, .class_ 67), (0, u "java/lang/Object")] 63

/-- java/lang/CharSequence -/
def k4 : Class := { plain "java/lang/CharSequence" (some 0) with
  accessFlags := 1537
  interfaces := #[]
  cf := some (fileOf pool4 2 #[.nestMembers #[47, 59]] #[] 1537 66 #[] #[])
  fields := #[]
  methods := #[]
  instanceTypes := #[]
  staticTypes := #[]
  resolved := Array.replicate 131 none
  statics := none }

def pool5 : Array CpInfo := pool [(1, .class_ 2), (0, u "java/lang/constant/Constable"), (0, .class_ 4), (0, u "java/lang/Object")] 6

/-- java/lang/constant/Constable -/
def k5 : Class := { plain "java/lang/constant/Constable" (some 0) with
  accessFlags := 1537
  interfaces := #[]
  cf := some (fileOf pool5 1 #[] #[] 1537 3 #[] #[])
  fields := #[]
  methods := #[]
  instanceTypes := #[]
  staticTypes := #[]
  resolved := Array.replicate 11 none
  statics := none }

def pool6 : Array CpInfo := pool [(1, .class_ 2), (0, u "java/lang/constant/ConstantDesc"), (0, .class_ 4), (0, u "java/lang/Object")] 32

/-- java/lang/constant/ConstantDesc -/
def k6 : Class := { plain "java/lang/constant/ConstantDesc" (some 0) with
  accessFlags := 1537
  interfaces := #[]
  cf := some (fileOf pool6 1 #[] #[] 1537 3 #[] #[])
  fields := #[]
  methods := #[]
  instanceTypes := #[]
  staticTypes := #[]
  resolved := Array.replicate 37 none
  statics := none }

def pool7 : Array CpInfo := pool [(1, .methodref 2 3), (0, .class_ 4), (0, .nameAndType 5 6), (0, u "java/lang/Object"), (0, u "<init>"), (0, u "()V"), (0, .string 8), (0, u ""), (0, .fieldref 10 11), (0, .class_ 12), (0, .nameAndType 13 14), (0, u "java/lang/String"), (0, u "value"), (0, u "[B"), (0, .fieldref 10 16), (0, .nameAndType 17 18), (0, u "coder"), (0, u "B"), (2, u "hash"), (0, u "I"), (2, u "hashIsZero"), (0, u "Z"), (0, .methodref 10 28), (0, .nameAndType 5 29), (0, u "([CIILjava/lang/Void;)V"), (8, .fieldref 10 39), (0, .nameAndType 40 26), (0, u "COMPACT_STRINGS"), (1, .class_ 44), (1, u "java/lang/StringUTF16"), (0, u "compress"), (1, .methodref 42 48), (0, .nameAndType 49 50), (0, u "coderFromArrayLen"), (0, u "([BI)B"), (126, .methodref 42 178), (0, .nameAndType 45 179), (0, u "([CII)[B"), (395, .class_ 576), (0, u "java/lang/CharSequence"), (22, u "CASE_INSENSITIVE_ORDER"), (0, u "Ljava/util/Comparator;"), (409, u "([C)V"), (90, u "serialPersistentFields"), (0, u "[Ljava/io/ObjectStreamField;"), (0, .class_ 1104), (0, u "java/lang/String$CaseInsensitiveComparator"), (1, .class_ 1107), (0, u "java/io/Serializable"), (0, .class_ 1109), (0, u "java/lang/Comparable"), (0, .class_ 1111), (0, u "java/lang/constant/Constable"), (0, .class_ 1113), (0, u "java/lang/constant/ConstantDesc"), (2, u "serialVersionUID"), (0, u "J"), (3, u "REPL"), (0, u "C"), (2, u "LATIN1"), (1, u "UTF16")] 323

def k7m0 : Method := { name := "<init>", desc := "()V", sig := { parameters := [], returnType := none }, accessFlags := 1, code := none }
def k7c1 : Code := { maxStack := 5, maxLocals := 2, code := jdk_42_method_3_code, exceptionTable := #[], attributes := #[] }
def k7m1 : Method := { name := "<init>", desc := "([C)V", sig := { parameters := [(.array .char)], returnType := none }, accessFlags := 1, code := some k7c1 }
def k7c2 : Code := { maxStack := 4, maxLocals := 6, code := jdk_42_method_149_code, exceptionTable := #[], attributes := #[] }
def k7m2 : Method := { name := "<init>", desc := "([CIILjava/lang/Void;)V", sig := { parameters := [(.array .char), .int, .int, (.object "java/lang/Void")], returnType := none }, accessFlags := 2, code := some k7c2 }
/-- java/lang/String -/
def k7 : Class := { plain "java/lang/String" (some 0) with
  accessFlags := 49
  interfaces := #[2, 3, 4, 5, 6]
  cf := some (fileOf pool7 10 #[.nestMembers #[1103]] #[{ accessFlags := 1, nameIndex := 5, descriptorIndex := 6, attributes := #[] }, { accessFlags := 1, nameIndex := 5, descriptorIndex := 1010, attributes := #[] }, { accessFlags := 2, nameIndex := 5, descriptorIndex := 29, attributes := #[] }] 49 2 #[1106, 1108, 575, 1110, 1112] #[{ accessFlags := 18, nameIndex := 13, descriptorIndex := 14, attributes := #[] }, { accessFlags := 18, nameIndex := 17, descriptorIndex := 18, attributes := #[] }, { accessFlags := 2, nameIndex := 21, descriptorIndex := 22, attributes := #[] }, { accessFlags := 2, nameIndex := 25, descriptorIndex := 26, attributes := #[] }, { accessFlags := 26, nameIndex := 1116, descriptorIndex := 1117, attributes := #[] }, { accessFlags := 24, nameIndex := 40, descriptorIndex := 26, attributes := #[] }, { accessFlags := 26, nameIndex := 1101, descriptorIndex := 1102, attributes := #[] }, { accessFlags := 26, nameIndex := 1121, descriptorIndex := 1122, attributes := #[] }, { accessFlags := 25, nameIndex := 599, descriptorIndex := 600, attributes := #[] }, { accessFlags := 24, nameIndex := 1125, descriptorIndex := 18, attributes := #[] }, { accessFlags := 24, nameIndex := 1127, descriptorIndex := 18, attributes := #[] }])
  fields := #[{ name := "value", type := (.array .byte), accessFlags := 18, slot := 0, constantValue := 0 }, { name := "coder", type := .byte, accessFlags := 18, slot := 1, constantValue := 0 }, { name := "hash", type := .int, accessFlags := 2, slot := 2, constantValue := 0 }, { name := "hashIsZero", type := .boolean, accessFlags := 2, slot := 3, constantValue := 0 }, { name := "serialVersionUID", type := .long, accessFlags := 26, slot := 0, constantValue := 0 }, { name := "COMPACT_STRINGS", type := .boolean, accessFlags := 24, slot := 1, constantValue := 0 }, { name := "serialPersistentFields", type := (.array (.object "java/io/ObjectStreamField")), accessFlags := 26, slot := 2, constantValue := 0 }, { name := "REPL", type := .char, accessFlags := 26, slot := 3, constantValue := 0 }, { name := "CASE_INSENSITIVE_ORDER", type := (.object "java/util/Comparator"), accessFlags := 25, slot := 4, constantValue := 0 }, { name := "LATIN1", type := .byte, accessFlags := 24, slot := 5, constantValue := 0 }, { name := "UTF16", type := .byte, accessFlags := 24, slot := 6, constantValue := 0 }]
  methods := #[k7m0, k7m1, k7m2]
  instanceTypes := #[(.array .byte), .byte, .int, .boolean]
  staticTypes := #[.long, .boolean, (.array (.object "java/io/ObjectStreamField")), .char, (.object "java/util/Comparator"), .byte, .byte]
  resolved := Array.replicate 1451 none
  statics := some 0 }

def pool8 : Array CpInfo := pool [(5, u "hash"), (1, .methodref 8 9), (0, .class_ 10), (0, .nameAndType 11 12), (0, u "com/example/libttl/libttl/Key"), (0, u "<init>"), (0, u "([BI)V"), (0, .methodref 14 15), (0, .class_ 16), (0, .nameAndType 11 17), (0, u "java/lang/Object"), (0, u "()V"), (0, .fieldref 8 19), (0, .nameAndType 20 21), (0, u "bytes"), (0, u "[B"), (0, .fieldref 8 23), (0, .nameAndType 24 25), (0, u "text"), (0, u "Ljava/lang/String;"), (0, .fieldref 8 27), (0, .nameAndType 5 28), (0, u "I"), (4, .class_ 34), (0, u "java/lang/String"), (4, .methodref 8 40), (0, .nameAndType 11 41), (0, u "(Ljava/lang/String;I)V"), (0, .class_ 21), (31, u "form"), (0, u "()Ljava/lang/Object;"), (8, u "ofForm"), (0, u "(Ljava/lang/Object;I)Lcom/example/libttl/libttl/Key;")] 4

def k8c0 : Code := { maxStack := 2, maxLocals := 3, code := prog_15_method_2_code, exceptionTable := #[], attributes := #[] }
def k8m0 : Method := { name := "<init>", desc := "([BI)V", sig := { parameters := [(.array .byte), .int], returnType := none }, accessFlags := 0, code := some k8c0 }
def k8c1 : Code := { maxStack := 2, maxLocals := 3, code := prog_15_method_3_code, exceptionTable := #[], attributes := #[] }
def k8m1 : Method := { name := "<init>", desc := "(Ljava/lang/String;I)V", sig := { parameters := [(.object "java/lang/String"), .int], returnType := none }, accessFlags := 2, code := some k8c1 }
def k8c2 : Code := { maxStack := 4, maxLocals := 3, code := prog_15_method_5_code, exceptionTable := #[], attributes := #[] }
def k8m2 : Method := { name := "ofForm", desc := "(Ljava/lang/Object;I)Lcom/example/libttl/libttl/Key;", sig := { parameters := [(.object "java/lang/Object"), .int], returnType := some (.object "com/example/libttl/libttl/Key") }, accessFlags := 8, code := some k8c2 }
def k8c3 : Code := { maxStack := 1, maxLocals := 1, code := prog_15_method_6_code, exceptionTable := #[], attributes := #[] }
def k8m3 : Method := { name := "form", desc := "()Ljava/lang/Object;", sig := { parameters := [], returnType := some (.object "java/lang/Object") }, accessFlags := 0, code := some k8c3 }
/-- com/example/libttl/libttl/Key -/
def k8 : Class := { plain "com/example/libttl/libttl/Key" (some 0) with
  accessFlags := 48
  interfaces := #[]
  cf := some (fileOf pool8 8 #[] #[{ accessFlags := 0, nameIndex := 11, descriptorIndex := 12, attributes := #[] }, { accessFlags := 2, nameIndex := 11, descriptorIndex := 41, attributes := #[] }, { accessFlags := 8, nameIndex := 84, descriptorIndex := 85, attributes := #[] }, { accessFlags := 0, nameIndex := 74, descriptorIndex := 75, attributes := #[] }] 48 14 #[] #[{ accessFlags := 18, nameIndex := 20, descriptorIndex := 21, attributes := #[] }, { accessFlags := 18, nameIndex := 24, descriptorIndex := 25, attributes := #[] }, { accessFlags := 18, nameIndex := 5, descriptorIndex := 28, attributes := #[] }])
  fields := #[{ name := "bytes", type := (.array .byte), accessFlags := 18, slot := 0, constantValue := 0 }, { name := "text", type := (.object "java/lang/String"), accessFlags := 18, slot := 1, constantValue := 0 }, { name := "hash", type := .int, accessFlags := 18, slot := 2, constantValue := 0 }]
  methods := #[k8m0, k8m1, k8m2, k8m3]
  instanceTypes := #[(.array .byte), (.object "java/lang/String"), .int]
  staticTypes := #[]
  resolved := Array.replicate 90 none
  statics := none }

def pool9 : Array CpInfo := pool [(6, .class_ 8), (1, u "java/lang/Object"), (0, u "<init>"), (0, u "()V"), (1, .class_ 14), (1, u "java/lang/StringUTF16"), (31, u "$assertionsDisabled"), (0, u "Z"), (13, u "HI_BYTE_SHIFT"), (0, u "I"), (2, u "LO_BYTE_SHIFT"), (49, .methodref 12 116), (0, .nameAndType 117 118), (0, u "compress"), (0, u "([CI[BII)I"), (3, u "([CII)[B"), (138, u "coderFromArrayLen"), (0, u "([BI)B"), (106, .class_ 371), (1, u "java/lang/StringUTF16$LinesSpliterator"), (58, u "MAX_LENGTH"), (196, .class_ 628), (0, u "java/lang/StringUTF16$CodePointsSpliterator"), (0, .class_ 630), (0, u "java/lang/StringUTF16$CharsSpliterator")] 4

def k9m0 : Method := { name := "<init>", desc := "()V", sig := { parameters := [], returnType := none }, accessFlags := 0, code := none }
def k9c1 : Code := { maxStack := 2, maxLocals := 2, code := jdk_52_method_15_code, exceptionTable := #[], attributes := #[] }
def k9m1 : Method := { name := "coderFromArrayLen", desc := "([BI)B", sig := { parameters := [(.array .byte), .int], returnType := some .byte }, accessFlags := 8, code := some k9c1 }
def k9c2 : Code := { maxStack := 5, maxLocals := 6, code := jdk_52_method_16_code, exceptionTable := #[], attributes := #[] }
def k9m2 : Method := { name := "compress", desc := "([CII)[B", sig := { parameters := [(.array .char), .int, .int], returnType := some (.array .byte) }, accessFlags := 9, code := some k9c2 }
def k9c3 : Code := { maxStack := 3, maxLocals := 7, code := jdk_52_method_21_code, exceptionTable := #[], attributes := #[] }
def k9m3 : Method := { name := "compress", desc := "([CI[BII)I", sig := { parameters := [(.array .char), .int, (.array .byte), .int, .int], returnType := some .int }, accessFlags := 9, code := some k9c3 }
/-- java/lang/StringUTF16 -/
def k9 : Class := { plain "java/lang/StringUTF16" (some 0) with
  accessFlags := 48
  interfaces := #[]
  cf := some (fileOf pool9 12 #[.nestMembers #[627, 629, 369]] #[{ accessFlags := 0, nameIndex := 9, descriptorIndex := 10, attributes := #[] }, { accessFlags := 8, nameIndex := 261, descriptorIndex := 262, attributes := #[] }, { accessFlags := 9, nameIndex := 117, descriptorIndex := 122, attributes := #[] }, { accessFlags := 9, nameIndex := 117, descriptorIndex := 118, attributes := #[] }] 48 6 #[] #[{ accessFlags := 26, nameIndex := 61, descriptorIndex := 62, attributes := #[] }, { accessFlags := 26, nameIndex := 65, descriptorIndex := 62, attributes := #[] }, { accessFlags := 24, nameIndex := 430, descriptorIndex := 62, attributes := #[] }, { accessFlags := 4120, nameIndex := 46, descriptorIndex := 47, attributes := #[] }])
  fields := #[{ name := "HI_BYTE_SHIFT", type := .int, accessFlags := 26, slot := 0, constantValue := 0 }, { name := "LO_BYTE_SHIFT", type := .int, accessFlags := 26, slot := 1, constantValue := 0 }, { name := "MAX_LENGTH", type := .int, accessFlags := 24, slot := 2, constantValue := 0 }, { name := "$assertionsDisabled", type := .boolean, accessFlags := 4120, slot := 3, constantValue := 0 }]
  methods := #[k9m0, k9m1, k9m2, k9m3]
  instanceTypes := #[]
  staticTypes := #[.int, .int, .int, .boolean]
  resolved := Array.replicate 635 none
  statics := none }

def pool10 : Array CpInfo := pool [(4, .class_ 6), (1, u "java/lang/Object"), (0, u "<init>"), (0, u "()V"), (5, .class_ 16), (1, u "java/lang/StringLatin1"), (104, u "$assertionsDisabled"), (0, u "Z"), (98, .class_ 223), (1, u "java/lang/StringLatin1$LinesSpliterator"), (166, .class_ 391), (0, u "java/lang/StringLatin1$CharsSpliterator")] 3

def k10m0 : Method := { name := "<init>", desc := "()V", sig := { parameters := [], returnType := none }, accessFlags := 0, code := none }
/-- java/lang/StringLatin1 -/
def k10 : Class := { plain "java/lang/StringLatin1" (some 0) with
  accessFlags := 48
  interfaces := #[]
  cf := some (fileOf pool10 14 #[.nestMembers #[390, 221]] #[{ accessFlags := 0, nameIndex := 7, descriptorIndex := 8, attributes := #[] }] 48 4 #[] #[{ accessFlags := 4120, nameIndex := 121, descriptorIndex := 122, attributes := #[] }])
  fields := #[{ name := "$assertionsDisabled", type := .boolean, accessFlags := 4120, slot := 0, constantValue := 0 }]
  methods := #[k10m0]
  instanceTypes := #[]
  staticTypes := #[.boolean]
  resolved := Array.replicate 395 none
  statics := none }

def pool11 : Array CpInfo := pool [(2, .class_ 4), (1, u "java/lang/Object"), (0, u "<init>"), (0, u "()V"), (17, .class_ 26), (1, u "jdk/internal/util/Preconditions"), (28, .class_ 56), (0, u "jdk/internal/util/Preconditions$4"), (57, .class_ 115), (0, u "jdk/internal/util/Preconditions$1"), (7, u "SIOOBE_FORMATTER"), (0, u "Ljava/util/function/BiFunction;"), (0, .class_ 126), (0, u "jdk/internal/util/Preconditions$2"), (3, u "AIOOBE_FORMATTER"), (0, .class_ 132), (0, u "jdk/internal/util/Preconditions$3"), (3, u "IOOBE_FORMATTER")] 57

def k11m0 : Method := { name := "<init>", desc := "()V", sig := { parameters := [], returnType := none }, accessFlags := 1, code := none }
/-- jdk/internal/util/Preconditions -/
def k11 : Class := { plain "jdk/internal/util/Preconditions" (some 0) with
  accessFlags := 33
  interfaces := #[]
  cf := some (fileOf pool11 24 #[.nestMembers #[55, 131, 125, 114]] #[{ accessFlags := 1, nameIndex := 5, descriptorIndex := 6, attributes := #[] }] 33 2 #[] #[{ accessFlags := 25, nameIndex := 123, descriptorIndex := 124, attributes := #[] }, { accessFlags := 25, nameIndex := 130, descriptorIndex := 124, attributes := #[] }, { accessFlags := 25, nameIndex := 136, descriptorIndex := 124, attributes := #[] }])
  fields := #[{ name := "SIOOBE_FORMATTER", type := (.object "java/util/function/BiFunction"), accessFlags := 25, slot := 0, constantValue := 0 }, { name := "AIOOBE_FORMATTER", type := (.object "java/util/function/BiFunction"), accessFlags := 25, slot := 1, constantValue := 0 }, { name := "IOOBE_FORMATTER", type := (.object "java/util/function/BiFunction"), accessFlags := 25, slot := 2, constantValue := 0 }]
  methods := #[k11m0]
  instanceTypes := #[]
  staticTypes := #[(.object "java/util/function/BiFunction"), (.object "java/util/function/BiFunction"), (.object "java/util/function/BiFunction")]
  resolved := Array.replicate 194 none
  statics := some 1 }

def pool12 : Array CpInfo := pool [(9, u "<init>"), (6, .class_ 18), (1, u "java/lang/Object"), (0, u "()V"), (1, .class_ 23), (1, u "jdk/internal/util/ArraysSupport"), (0, u "LOG2_ARRAY_LONG_INDEX_SCALE"), (0, u "I"), (2, u "U"), (0, u "Ljdk/internal/misc/Unsafe;"), (8, u "BIG_ENDIAN"), (0, u "Z"), (8, u "LOG2_BYTE_BIT_SIZE"), (4, u "LOG2_ARRAY_INT_INDEX_SCALE"), (54, u "JLA"), (0, u "Ljdk/internal/access/JavaLangAccess;"), (11, u "LOG2_ARRAY_BOOLEAN_INDEX_SCALE"), (9, u "LOG2_ARRAY_BYTE_INDEX_SCALE"), (5, u "LOG2_ARRAY_CHAR_INDEX_SCALE"), (5, u "LOG2_ARRAY_SHORT_INDEX_SCALE"), (18, u "LOG2_ARRAY_FLOAT_INDEX_SCALE"), (24, u "LOG2_ARRAY_DOUBLE_INDEX_SCALE"), (89, u "T_BOOLEAN"), (2, u "T_CHAR"), (1, u "T_FLOAT"), (1, u "T_DOUBLE"), (1, u "T_BYTE"), (1, u "T_SHORT"), (1, u "T_INT"), (1, u "T_LONG"), (1, u "SOFT_MAX_ARRAY_LENGTH")] 83

def k12m0 : Method := { name := "<init>", desc := "()V", sig := { parameters := [], returnType := none }, accessFlags := 2, code := none }
/-- jdk/internal/util/ArraysSupport -/
def k12 : Class := { plain "jdk/internal/util/ArraysSupport" (some 0) with
  accessFlags := 33
  interfaces := #[]
  cf := some (fileOf pool12 21 #[] #[{ accessFlags := 2, nameIndex := 9, descriptorIndex := 19, attributes := #[] }] 33 16 #[] #[{ accessFlags := 24, nameIndex := 28, descriptorIndex := 29, attributes := #[] }, { accessFlags := 26, nameIndex := 38, descriptorIndex := 39, attributes := #[] }, { accessFlags := 25, nameIndex := 121, descriptorIndex := 25, attributes := #[] }, { accessFlags := 25, nameIndex := 131, descriptorIndex := 25, attributes := #[] }, { accessFlags := 25, nameIndex := 137, descriptorIndex := 25, attributes := #[] }, { accessFlags := 25, nameIndex := 143, descriptorIndex := 25, attributes := #[] }, { accessFlags := 25, nameIndex := 53, descriptorIndex := 25, attributes := #[] }, { accessFlags := 25, nameIndex := 24, descriptorIndex := 25, attributes := #[] }, { accessFlags := 25, nameIndex := 162, descriptorIndex := 25, attributes := #[] }, { accessFlags := 25, nameIndex := 187, descriptorIndex := 25, attributes := #[] }, { accessFlags := 26, nameIndex := 48, descriptorIndex := 25, attributes := #[] }, { accessFlags := 25, nameIndex := 277, descriptorIndex := 25, attributes := #[] }, { accessFlags := 25, nameIndex := 280, descriptorIndex := 25, attributes := #[] }, { accessFlags := 25, nameIndex := 282, descriptorIndex := 25, attributes := #[] }, { accessFlags := 25, nameIndex := 284, descriptorIndex := 25, attributes := #[] }, { accessFlags := 25, nameIndex := 286, descriptorIndex := 25, attributes := #[] }, { accessFlags := 25, nameIndex := 288, descriptorIndex := 25, attributes := #[] }, { accessFlags := 25, nameIndex := 290, descriptorIndex := 25, attributes := #[] }, { accessFlags := 25, nameIndex := 292, descriptorIndex := 25, attributes := #[] }, { accessFlags := 26, nameIndex := 108, descriptorIndex := 109, attributes := #[] }, { accessFlags := 25, nameIndex := 294, descriptorIndex := 25, attributes := #[] }])
  fields := #[{ name := "U", type := (.object "jdk/internal/misc/Unsafe"), accessFlags := 24, slot := 0, constantValue := 0 }, { name := "BIG_ENDIAN", type := .boolean, accessFlags := 26, slot := 1, constantValue := 0 }, { name := "LOG2_ARRAY_BOOLEAN_INDEX_SCALE", type := .int, accessFlags := 25, slot := 2, constantValue := 0 }, { name := "LOG2_ARRAY_BYTE_INDEX_SCALE", type := .int, accessFlags := 25, slot := 3, constantValue := 0 }, { name := "LOG2_ARRAY_CHAR_INDEX_SCALE", type := .int, accessFlags := 25, slot := 4, constantValue := 0 }, { name := "LOG2_ARRAY_SHORT_INDEX_SCALE", type := .int, accessFlags := 25, slot := 5, constantValue := 0 }, { name := "LOG2_ARRAY_INT_INDEX_SCALE", type := .int, accessFlags := 25, slot := 6, constantValue := 0 }, { name := "LOG2_ARRAY_LONG_INDEX_SCALE", type := .int, accessFlags := 25, slot := 7, constantValue := 0 }, { name := "LOG2_ARRAY_FLOAT_INDEX_SCALE", type := .int, accessFlags := 25, slot := 8, constantValue := 0 }, { name := "LOG2_ARRAY_DOUBLE_INDEX_SCALE", type := .int, accessFlags := 25, slot := 9, constantValue := 0 }, { name := "LOG2_BYTE_BIT_SIZE", type := .int, accessFlags := 26, slot := 10, constantValue := 0 }, { name := "T_BOOLEAN", type := .int, accessFlags := 25, slot := 11, constantValue := 0 }, { name := "T_CHAR", type := .int, accessFlags := 25, slot := 12, constantValue := 0 }, { name := "T_FLOAT", type := .int, accessFlags := 25, slot := 13, constantValue := 0 }, { name := "T_DOUBLE", type := .int, accessFlags := 25, slot := 14, constantValue := 0 }, { name := "T_BYTE", type := .int, accessFlags := 25, slot := 15, constantValue := 0 }, { name := "T_SHORT", type := .int, accessFlags := 25, slot := 16, constantValue := 0 }, { name := "T_INT", type := .int, accessFlags := 25, slot := 17, constantValue := 0 }, { name := "T_LONG", type := .int, accessFlags := 25, slot := 18, constantValue := 0 }, { name := "JLA", type := (.object "jdk/internal/access/JavaLangAccess"), accessFlags := 26, slot := 19, constantValue := 0 }, { name := "SOFT_MAX_ARRAY_LENGTH", type := .int, accessFlags := 25, slot := 20, constantValue := 0 }]
  methods := #[k12m0]
  instanceTypes := #[]
  staticTypes := #[(.object "jdk/internal/misc/Unsafe"), .boolean, .int, .int, .int, .int, .int, .int, .int, .int, .int, .int, .int, .int, .int, .int, .int, .int, .int, (.object "jdk/internal/access/JavaLangAccess"), .int]
  resolved := Array.replicate 378 none
  statics := none }

def pool13 : Array CpInfo := pool [(1, u "java/lang/Cloneable"), (0, .class_ 1), (0, u "java/lang/Object"), (0, .class_ 3)] 3

/-- java/lang/Cloneable -/
def k13 : Class := { plain "java/lang/Cloneable" (some 0) with
  accessFlags := 1537
  interfaces := #[]
  cf := some (fileOf pool13 2 #[] #[] 1537 4 #[] #[])
  fields := #[]
  methods := #[]
  instanceTypes := #[]
  staticTypes := #[]
  resolved := Array.replicate 8 none
  statics := none }

/-- the primitive byte -/
def k14 : Class := { plain "byte" none with kind := .primitive 'B', accessFlags := 0x411 }
/-- [B -/
def k15 : Class := { plain "[B" (some 0) with kind := .array 14 .byte, interfaces := #[13, 2], accessFlags := 1041 }

/-- the primitive char -/
def k16 : Class := { plain "char" none with kind := .primitive 'C', accessFlags := 0x411 }
/-- [C -/
def k17 : Class := { plain "[C" (some 0) with kind := .array 16 .char, interfaces := #[13, 2], accessFlags := 1041 }

/-- the primitive int -/
def k18 : Class := { plain "int" none with kind := .primitive 'I', accessFlags := 0x411 }
/-- [I -/
def k19 : Class := { plain "[I" (some 0) with kind := .array 18 .int, interfaces := #[13, 2], accessFlags := 1041 }

def heap : Heap := #[{ cls := 7, slots := #[.long 0, .int 1, .null, .int 0, .null, .int 0, .int 0], vm := .statics 7 },
  { cls := 11, slots := #[.null, .null, .null], vm := .statics 11 }]
def classes : Array Class := #[k0, k1, k2, k3, k4, k5, k6, k7, k8, k9, k10, k11, k12, k13, k14, k15, k16, k17, k18, k19]
def interned : List (Array UInt16 × Addr) := []
def slotsUsed : Nat := 10
def theMethod : MethodId := ⟨1, 1⟩
def args0 : Array Value := #[.int 5, .int 6, .int 7, .int 8, .int 9, .int 10]
def aboutOver (below : List Frame) : State where
  vm := { classes := classes, interned := interned.toArray }
  heap := heap
  slotsUsed := slotsUsed
  threads := #[{ frames := .invoking theMethod args0 :: below }]
def below0 : List Frame := [.native { method := ⟨0, 0⟩, args := #[] }]
def about1 : State := aboutOver below0
def p0 : Program := .bare "" "" ""
def e0 : Env := launch0.env 0 0 0
theorem w_frames : about1.frames = Frame.invoking theMethod args0 :: below0 := rfl
set_option maxRecDepth 65536 in
theorem w_args : argsFit about1.vm theMethod args0 = true := by decide +kernel
set_option maxRecDepth 65536 in
theorem w_heap : heapFits about1 = true := by decide +kernel
set_option maxRecDepth 65536 in
theorem w_runnable : about1.curStatus? = some .runnable := by decide +kernel
set_option maxRecDepth 65536 in
theorem w_alone : about1.alone = true := by decide +kernel
set_option maxRecDepth 65536 in
theorem w_named : about1.methodNamed? x = some theMethod := by decide +kernel
set_option maxRecDepth 65536 in
theorem w_hears : about1.hears theMethod below0 = true := by decide +kernel
set_option maxRecDepth 65536 in
theorem w_ripe : about1.ripe theMethod args0 below0 = true := by decide +kernel
theorem w_running : about1.status = .running := rfl
set_option maxRecDepth 65536 in
theorem w_room : about1.hasRoom e0.platform room_1 = true :=
  launch0.hasRoom_least _ room_1 (by decide +kernel) (by decide +kernel) (by decide +kernel) (by decide +kernel) (by decide +kernel) (by decide +kernel)
theorem allAtoms_all (ts : List Jvm.Cond) (a : Array Jvm.Value) (st : Jvm.State) : (allAtoms ts).before a st = ts.all (fun c => c.before a st) := by
  induction ts with
  | nil => rfl
  | cons c t ih =>
    show (Jvm.Cond.and c (allAtoms t)).before a st = _
    rw [Jvm.Cond.before_and, ih, List.all_cons]
def words1 : List Jvm.Cond := Jvm.Cond.code x code maxLocals ret :: tables_1
/-- a 'code' word, met by the world's own term for the bytes: nothing is compared byte by byte -/
theorem code_word {y : MethodName} {bytes : ByteArray} {mx : Nat} {rt : Option FieldType} {a : Array Value} {s : State} {m : MethodId} {meth : Method} {c : Code} (h1 : s.methodNamed? y = some m) (h2 : s.vm.method? m = some meth) (h3 : meth.code = some c) (h4 : c.code = bytes)
    (h5 : (c.maxLocals == mx && c.exceptionTable.isEmpty && decide (c.maxStack ≤ mostOperands) && decide (meth.sig.returnType = rt) && !meth.locks && decide (parseMethodDescriptor y.desc = some meth.sig)) = true) : (Jvm.Cond.code y bytes mx rt).before a s = true := by
  simp only [Bool.and_eq_true, beq_iff_eq, Bool.not_eq_true', decide_eq_true_eq] at h5
  obtain ⟨⟨⟨⟨⟨g1, g2⟩, g3⟩, g4⟩, g5⟩, g6⟩ := h5
  simp [Cond.before, Cond.holds, Cond.value, h1, h2, h3, h4, g1, g2, g3, g4, g5, g6]
def isCode : Jvm.Cond → Bool
  | .code _ _ _ _ => true
  | _ => false
theorem all_split {L : List Jvm.Cond} {P : Jvm.Cond → Bool} (h1 : L.all (fun c => isCode c || P c) = true) (h2 : ∀ c ∈ L.filter isCode, P c = true) : L.all P = true := by
  refine List.all_eq_true.mpr fun c hc => ?_
  have h := List.all_eq_true.mp h1 c hc
  rcases Bool.eq_false_or_eq_true (isCode c) with hi | hi
  · exact h2 c (List.mem_filter.mpr ⟨hc, hi⟩)
  · simpa [hi] using h
set_option maxRecDepth 65536 in
theorem w_c0 : (Jvm.Cond.code x code maxLocals ret).before args0 about1 = true := code_word (m := ⟨1, 1⟩) (meth := k1m1) (c := k1c1) (by decide +kernel) rfl rfl rfl (by decide +kernel)
set_option maxRecDepth 65536 in
theorem w_c1 : (Jvm.Cond.code ({ cls := "java/lang/String", name := "<init>", desc := "([C)V" } : Jvm.MethodName) jdk_42_method_3_code (2 : Nat) (Option.none : Option Jvm.ClassFile.FieldType)).before args0 about1 = true := code_word (m := ⟨7, 1⟩) (meth := k7m1) (c := k7c1) (by decide +kernel) rfl rfl rfl (by decide +kernel)
set_option maxRecDepth 65536 in
theorem w_c2 : (Jvm.Cond.code ({ cls := "java/lang/String", name := "<init>", desc := "([CIILjava/lang/Void;)V" } : Jvm.MethodName) jdk_42_method_149_code (6 : Nat) (Option.none : Option Jvm.ClassFile.FieldType)).before args0 about1 = true := code_word (m := ⟨7, 2⟩) (meth := k7m2) (c := k7c2) (by decide +kernel) rfl rfl rfl (by decide +kernel)
set_option maxRecDepth 65536 in
theorem w_c3 : (Jvm.Cond.code ({ cls := "java/lang/Object", name := "<init>", desc := "()V" } : Jvm.MethodName) object_method_1_code (1 : Nat) (Option.none : Option Jvm.ClassFile.FieldType)).before args0 about1 = true := code_word (m := ⟨0, 0⟩) (meth := k0m0) (c := k0c0) (by decide +kernel) rfl rfl rfl (by decide +kernel)
set_option maxRecDepth 65536 in
theorem w_c4 : (Jvm.Cond.code ({ cls := "com/example/libttl/libttl/Key", name := "<init>", desc := "([BI)V" } : Jvm.MethodName) prog_15_method_2_code (3 : Nat) (Option.none : Option Jvm.ClassFile.FieldType)).before args0 about1 = true := code_word (m := ⟨8, 0⟩) (meth := k8m0) (c := k8c0) (by decide +kernel) rfl rfl rfl (by decide +kernel)
set_option maxRecDepth 65536 in
theorem w_c5 : (Jvm.Cond.code ({ cls := "com/example/libttl/libttl/Key", name := "form", desc := "()Ljava/lang/Object;" } : Jvm.MethodName) prog_15_method_6_code (1 : Nat) (Option.some (Jvm.ClassFile.FieldType.object "java/lang/Object"))).before args0 about1 = true := code_word (m := ⟨8, 3⟩) (meth := k8m3) (c := k8c3) (by decide +kernel) rfl rfl rfl (by decide +kernel)
set_option maxRecDepth 65536 in
theorem w_c6 : (Jvm.Cond.code ({ cls := "com/example/libttl/libttl/Key", name := "ofForm", desc := "(Ljava/lang/Object;I)Lcom/example/libttl/libttl/Key;" } : Jvm.MethodName) prog_15_method_5_code (3 : Nat) (Option.some (Jvm.ClassFile.FieldType.object "com/example/libttl/libttl/Key"))).before args0 about1 = true := code_word (m := ⟨8, 2⟩) (meth := k8m2) (c := k8c2) (by decide +kernel) rfl rfl rfl (by decide +kernel)
set_option maxRecDepth 65536 in
theorem w_c7 : (Jvm.Cond.code ({ cls := "com/example/libttl/libttl/Key", name := "<init>", desc := "(Ljava/lang/String;I)V" } : Jvm.MethodName) prog_15_method_3_code (3 : Nat) (Option.none : Option Jvm.ClassFile.FieldType)).before args0 about1 = true := code_word (m := ⟨8, 1⟩) (meth := k8m1) (c := k8c1) (by decide +kernel) rfl rfl rfl (by decide +kernel)
set_option maxRecDepth 65536 in
theorem w_c8 : (Jvm.Cond.code ({ cls := "java/lang/StringUTF16", name := "compress", desc := "([CII)[B" } : Jvm.MethodName) jdk_52_method_16_code (6 : Nat) (Option.some (Jvm.ClassFile.FieldType.array Jvm.ClassFile.FieldType.byte))).before args0 about1 = true := code_word (m := ⟨9, 2⟩) (meth := k9m2) (c := k9c2) (by decide +kernel) rfl rfl rfl (by decide +kernel)
set_option maxRecDepth 65536 in
theorem w_c9 : (Jvm.Cond.code ({ cls := "java/lang/StringUTF16", name := "compress", desc := "([CI[BII)I" } : Jvm.MethodName) jdk_52_method_21_code (7 : Nat) (Option.some Jvm.ClassFile.FieldType.int)).before args0 about1 = true := code_word (m := ⟨9, 3⟩) (meth := k9m3) (c := k9c3) (by decide +kernel) rfl rfl rfl (by decide +kernel)
set_option maxRecDepth 65536 in
theorem w_c10 : (Jvm.Cond.code ({ cls := "java/lang/StringUTF16", name := "coderFromArrayLen", desc := "([BI)B" } : Jvm.MethodName) jdk_52_method_15_code (2 : Nat) (Option.some Jvm.ClassFile.FieldType.byte)).before args0 about1 = true := code_word (m := ⟨9, 1⟩) (meth := k9m1) (c := k9c1) (by decide +kernel) rfl rfl rfl (by decide +kernel)
def codes1 : List Jvm.Cond := [Jvm.Cond.code x code maxLocals ret, Jvm.Cond.code ({ cls := "java/lang/String", name := "<init>", desc := "([C)V" } : Jvm.MethodName) jdk_42_method_3_code (2 : Nat) (Option.none : Option Jvm.ClassFile.FieldType), Jvm.Cond.code ({ cls := "java/lang/String", name := "<init>", desc := "([CIILjava/lang/Void;)V" } : Jvm.MethodName) jdk_42_method_149_code (6 : Nat) (Option.none : Option Jvm.ClassFile.FieldType), Jvm.Cond.code ({ cls := "java/lang/Object", name := "<init>", desc := "()V" } : Jvm.MethodName) object_method_1_code (1 : Nat) (Option.none : Option Jvm.ClassFile.FieldType), Jvm.Cond.code ({ cls := "com/example/libttl/libttl/Key", name := "<init>", desc := "([BI)V" } : Jvm.MethodName) prog_15_method_2_code (3 : Nat) (Option.none : Option Jvm.ClassFile.FieldType), Jvm.Cond.code ({ cls := "com/example/libttl/libttl/Key", name := "form", desc := "()Ljava/lang/Object;" } : Jvm.MethodName) prog_15_method_6_code (1 : Nat) (Option.some (Jvm.ClassFile.FieldType.object "java/lang/Object")), Jvm.Cond.code ({ cls := "com/example/libttl/libttl/Key", name := "ofForm", desc := "(Ljava/lang/Object;I)Lcom/example/libttl/libttl/Key;" } : Jvm.MethodName) prog_15_method_5_code (3 : Nat) (Option.some (Jvm.ClassFile.FieldType.object "com/example/libttl/libttl/Key")), Jvm.Cond.code ({ cls := "com/example/libttl/libttl/Key", name := "<init>", desc := "(Ljava/lang/String;I)V" } : Jvm.MethodName) prog_15_method_3_code (3 : Nat) (Option.none : Option Jvm.ClassFile.FieldType), Jvm.Cond.code ({ cls := "java/lang/StringUTF16", name := "compress", desc := "([CII)[B" } : Jvm.MethodName) jdk_52_method_16_code (6 : Nat) (Option.some (Jvm.ClassFile.FieldType.array Jvm.ClassFile.FieldType.byte)), Jvm.Cond.code ({ cls := "java/lang/StringUTF16", name := "compress", desc := "([CI[BII)I" } : Jvm.MethodName) jdk_52_method_21_code (7 : Nat) (Option.some Jvm.ClassFile.FieldType.int), Jvm.Cond.code ({ cls := "java/lang/StringUTF16", name := "coderFromArrayLen", desc := "([BI)B" } : Jvm.MethodName) jdk_52_method_15_code (2 : Nat) (Option.some Jvm.ClassFile.FieldType.byte)]
set_option maxRecDepth 65536 in
theorem codes_eq : words1.filter isCode = codes1 := rfl
theorem w_codes : ∀ c ∈ words1.filter isCode, c.before args0 about1 = true := by
  rw [codes_eq]
  intro c hc
  simp only [codes1, List.mem_cons, List.not_mem_nil, or_false] at hc
  rcases hc with rfl | rfl | rfl | rfl | rfl | rfl | rfl | rfl | rfl | rfl | rfl
  · exact w_c0
  · exact w_c1
  · exact w_c2
  · exact w_c3
  · exact w_c4
  · exact w_c5
  · exact w_c6
  · exact w_c7
  · exact w_c8
  · exact w_c9
  · exact w_c10
set_option maxRecDepth 65536 in
theorem w_t1 : (words1.take 24).all (fun c => isCode c || c.before args0 about1) = true := by decide +kernel
set_option maxRecDepth 65536 in
theorem w_t2 : ((words1.drop 24).take 24).all (fun c => isCode c || c.before args0 about1) = true := by decide +kernel
set_option maxRecDepth 65536 in
theorem w_t3 : ((words1.drop 24).drop 24).all (fun c => isCode c || c.before args0 about1) = true := by decide +kernel
theorem w_tables : (allAtoms (Jvm.Cond.code x code maxLocals ret :: tables_1)).before args0 about1 = true := by
  rw [allAtoms_all]
  show words1.all (fun c => c.before args0 about1) = true
  refine all_split ?_ w_codes
  rw [← List.take_append_drop 24 words1, List.all_append, w_t1, ← List.take_append_drop 24 (words1.drop 24), List.all_append, w_t2, w_t3]
  rfl
set_option maxRecDepth 65536 in
theorem w_rest : rest_1_c.before args0 about1 = true := by decide +kernel
set_option maxRecDepth 65536 in
theorem w_case : (Jvm.Cond.and given_1 narrow_1).before args0 about1 = true := by decide +kernel
set_option maxRecDepth 65536 in
theorem w_consts : constsHeld consts_1 about1 := Jvm.Lit.constsHeldB_iff.mp (by decide +kernel)
theorem w_applies : (headSpec (Jvm.Cond.code x code maxLocals ret :: tables_1) room_1).applies x e0.platform about1 = true :=
  (Spec.applies_iff w_frames).mpr ⟨w_running, w_runnable, w_alone, w_named, w_hears, w_ripe, w_room, w_tables⟩
theorem atStart : AtStart classFile x code maxLocals ret World_1 tables_1 room_1 Calls_1 rest_1 Pre_1 launch0 p0 e0 about1 theMethod args0 below0 :=
  ⟨lists_1, trivial, launch0.admits_env _ _ _, launch0.least_env, fairChoices_fair.cas, fairChoices_fair.clock, w_frames, w_args, w_heap, w_applies, ⟨w_consts, trivial⟩, w_rest, w_case⟩
end start1
theorem witness_1 : WitnessClaimed_1 := ⟨start1.p0, start1.e0, start1.about1, start1.theMethod, start1.args0, start1.below0, start1.atStart⟩
end Jvm.Pilot.@@N@@
