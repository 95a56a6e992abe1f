import JvmDerived
import JvmDerived.Pilot.@@N@@Statement
import JvmDerived.Pilot.@@N@@Code
set_option linter.unusedVariables false
set_option linter.unusedSimpArgs false
namespace Jvm.Pilot.@@N@@
open Jvm Jvm.ClassFile Sem Op Lib Jvm.Free Jvm.Stand Jvm.LawKit Jvm.RoadKit Bundle Jvm.Pilot.@@N@@.Jvm.D
section OwnGo
variable {p : Program} {l : Launch} {e : Env} {R : Room} {s : State} {m : MethodId} {args : Array Value} {below : List Frame} {meth : Method} {c : Code} {T : State} {locs : List Loc} {cells slots : Nat} {Q : Option Value → Heap → List Loc → Prop} {kc ks : Nat}
/-- from this state the body runs to its return, and Q holds of what it leaves -/
def own_Go (p : Program) (e : Env) (below : List Frame) (s : State) (Q : Option Value → Heap → List Loc → Prop) (kc ks : Nat) (S : State) : Prop :=
  ∃ s₂ o, Steps p.tables e below S s₂ ∧ s₂.status = .running ∧ Ended s₂ below o ∧ ∃ v L, o = .returned v ∧ Q v s₂.heap L ∧ FrameEnd s o s₂ L kc ks
theorem own_st {A B : State} (f : ∀ t, Steps p.tables e below A t → Steps p.tables e below B t) (h : own_Go p e below s Q kc ks A) : own_Go p e below s Q kc ks B := by
  obtain ⟨s₂, o, h1, h2⟩ := h
  exact ⟨s₂, o, f _ h1, h2⟩
theorem own_mono {S : State} {Q' : Option Value → Heap → List Loc → Prop} (h : own_Go p e below s Q kc ks S) (f : ∀ v h L, Q v h L → Q' v h L) : own_Go p e below s Q' kc ks S := by
  obtain ⟨s₂, o, h1, h2, h3, v, L, h4, h5, h6⟩ := h
  exact ⟨s₂, o, h1, h2, h3, v, L, h4, f _ _ _ h5, h6⟩
theorem own_retN (X : Stand p l e R s m args below meth c T locs cells slots) (hx : p.tables.exec = Jvm.exec) (hlk : meth.locks = false) {pc : Nat} {Ls : Array Slot} {z : Int32} {t : FieldType} {rest : List Value} (hret : meth.sig.returnType = some t) (ht : t = .boolean ∨ t = .byte ∨ t = .char ∨ t = .short)
    (hd : decode c.code pc = .ok (.ireturn, 1)) (hq : Q (some (.int (nar t z))) T.heap locs) (hc : cells ≤ kc) (hs : slots ≤ ks) : own_Go p e below s Q kc ks (T.setTop (mkF m pc Ls (.int z :: rest))) := by
  obtain ⟨fs, hr, hrun, hended, hW, hsame⟩ := X.leave (v := some (.int (nar t z))) (fun h => by rw [hret] at h; cases h) hlk
  exact ⟨_, _, retN X hx hret ht hd hr, hrun, hended, _, _, rfl, hq, ⟨_, rfl⟩, hW, hsame.mono hc hs⟩
theorem own_retI (X : Stand p l e R s m args below meth c T locs cells slots) (hx : p.tables.exec = Jvm.exec) (hlk : meth.locks = false) {pc : Nat} {Ls : Array Slot} {z : Int32} {rest : List Value} (hret : meth.sig.returnType = some .int)
    (hd : decode c.code pc = .ok (.ireturn, 1)) (hq : Q (some (.int z)) T.heap locs) (hc : cells ≤ kc) (hs : slots ≤ ks) : own_Go p e below s Q kc ks (T.setTop (mkF m pc Ls (.int z :: rest))) := by
  obtain ⟨fs, hr, hrun, hended, hW, hsame⟩ := X.leave (v := some (.int z)) (fun h => by rw [hret] at h; cases h) hlk
  exact ⟨_, _, retOut X hx hret rfl (Or.inl ⟨rfl, Or.inl rfl, z, rfl⟩) hd hr, hrun, hended, _, _, rfl, hq, ⟨_, rfl⟩, hW, hsame.mono hc hs⟩
theorem own_retJ (X : Stand p l e R s m args below meth c T locs cells slots) (hx : p.tables.exec = Jvm.exec) (hlk : meth.locks = false) {pc : Nat} {Ls : Array Slot} {z : Int64} {rest : List Value} (hret : meth.sig.returnType = some .long)
    (hd : decode c.code pc = .ok (.lreturn, 1)) (hq : Q (some (.long z)) T.heap locs) (hc : cells ≤ kc) (hs : slots ≤ ks) : own_Go p e below s Q kc ks (T.setTop (mkF m pc Ls (.long z :: rest))) := by
  obtain ⟨fs, hr, hrun, hended, hW, hsame⟩ := X.leave (v := some (.long z)) (fun h => by rw [hret] at h; cases h) hlk
  exact ⟨_, _, retOut X hx hret rfl (Or.inr (Or.inl ⟨rfl, rfl, z, rfl⟩)) hd hr, hrun, hended, _, _, rfl, hq, ⟨_, rfl⟩, hW, hsame.mono hc hs⟩
theorem own_retA (X : Stand p l e R s m args below meth c T locs cells slots) (hx : p.tables.exec = Jvm.exec) (hlk : meth.locks = false) {pc : Nat} {Ls : Array Slot} {w : Value} {t : FieldType} {rest : List Value} (hret : meth.sig.returnType = some t) (ht : t.isReference = true) (hw : w.isRef = true)
    (hd : decode c.code pc = .ok (.areturn, 1)) (hq : Q (some w) T.heap locs) (hc : cells ≤ kc) (hs : slots ≤ ks) : own_Go p e below s Q kc ks (T.setTop (mkF m pc Ls (w :: rest))) := by
  obtain ⟨fs, hr, hrun, hended, hW, hsame⟩ := X.leave (v := some w) (fun h => by rw [hret] at h; cases h) hlk
  exact ⟨_, _, retOut X hx hret (by rcases ref_cases hw with rfl | ⟨a, rfl⟩ <;> cases t <;> first | rfl | cases ht) (Or.inr (Or.inr (Or.inr (Or.inr ⟨rfl, ht, hw⟩)))) hd hr, hrun, hended, _, _, rfl, hq, ⟨_, rfl⟩, hW, hsame.mono hc hs⟩
theorem own_retV (X : Stand p l e R s m args below meth c T locs cells slots) (hx : p.tables.exec = Jvm.exec) (hlk : meth.locks = false) {pc : Nat} {Ls : Array Slot} (hret : meth.sig.returnType = none)
    (hd : decode c.code pc = .ok (.return_, 1)) (hq : Q none T.heap locs) (hc : cells ≤ kc) (hs : slots ≤ ks) : own_Go p e below s Q kc ks (T.setTop (mkF m pc Ls [])) := by
  obtain ⟨fs, hr, hrun, hended, hW, hsame⟩ := X.leave (v := none) (fun _ => rfl) hlk
  exact ⟨_, _, X.returnOut hx hret hd hr, hrun, hended, _, _, rfl, hq, ⟨_, rfl⟩, hW, hsame.mono hc hs⟩
end OwnGo
section OwnWords
variable {args : Array Value} {s : State} {t i : Term} {a b : Addr} {C n d : String} {k : Int32} {cl : Cell} {ty : FieldType}
theorem own_fldI (ev : t.eval args s none [] s = some (.ref a)) (h : (Jvm.Cond.eq (Term.field t C n d) (Term.int k)).value args s none s [] = some true) : Fld s s.heap a C n d (.int k) := by
  have e1 := fld_at (C := C) (n := n) (dd := d) ev
  have e2 := Term.int_eval (args := args) (first := s) (o := none) (idx := []) (s := s) k
  refine Fld.start ?_
  cases hv : s.fieldOf? a C n d with
  | none => rw [hv] at e1; simp [Jvm.Cond.value, e1] at h
  | some v => rw [hv] at e1; cases v <;> simp [Jvm.Cond.value, e1, e2] at h; rw [h]
theorem own_len (ev : t.eval args s none [] s = some (.ref a)) (A : Arr s s.heap a cl ty) (h : (Jvm.Cond.eq (Term.length t) (Term.int k)).value args s none s [] = some true) : cl.slots.size < 2 ^ 31 ∧ cl.slots.size.toInt32 = k := by
  have e2 := Term.int_eval (args := args) (first := s) (o := none) (idx := []) (s := s) k
  have e0 := A.fin (Vm.Alike.refl _)
  by_cases hl : cl.slots.size < 2 ^ 31
  · have e1 := len_f ev e0 hl
    simp [Jvm.Cond.value, e1, e2] at h
    exact ⟨hl, h⟩
  · have e1 : (Term.length t).eval args s none [] s = none := by simp [Term.eval, ev, e0]; omega
    simp [Jvm.Cond.value, e1] at h
theorem own_elem {v : Value} (ev : t.eval args s none [] s = some (.ref a)) (A : Arr s s.heap a cl ty) {u : Term} (eu : u.eval args s none [] s = some v) (hv : v.isRef = true) (h : (Jvm.Cond.eq (Term.elem t (Term.int k)) u).value args s none s [] = some true) : cl.slots[k.toNatClampNeg]? = some v := by
  have e2 := Term.int_eval (args := args) (first := s) (o := none) (idx := []) (s := s) k
  obtain ⟨x, y, hx, hy, -, -⟩ := cmp_v (Or.inl h)
  cases eu.symm.trans hy
  obtain ⟨-, q⟩ := elem_in hx ev e2 A.1
  have hk : x.isRef = true := by
    cases x <;> rcases ref_cases hv with rfl | ⟨z, rfl⟩ <;> simp [Jvm.Cond.value, hx, hy] at h ⊢ <;> rfl
  rw [q, gotT (eq_R hx hy hk hv) h]
theorem own_elemR (ev : t.eval args s none [] s = some (.ref a)) (A : Arr s s.heap a cl ty) {u : Term} (eu : u.eval args s none [] s = some (.ref b)) (h : (Jvm.Cond.eq (Term.elem t (Term.int k)) u).value args s none s [] = some true) : cl.slots[k.toNatClampNeg]? = some (.ref b) := own_elem ev A eu rfl h
theorem own_elemN (ev : t.eval args s none [] s = some (.ref a)) (A : Arr s s.heap a cl ty) (h : (Jvm.Cond.eq (Term.elem t (Term.int k)) .null).value args s none s [] = some true) : cl.slots[k.toNatClampNeg]? = some .null := own_elem ev A null_at rfl h
end OwnWords
section OwnMore
theorem own_privSel {s : State} {args : Array Value} {y z z' : MethodName} {C : String} (hs : (Jvm.Cond.selects C z' z).before args s = true) (e : z.cls = y.cls) (hpriv : s.PrivateAt y) (hinst : (Jvm.Cond.instanceMethod y).before args s = true) (hy : y.cls ≠ "java/lang/invoke/MethodHandle" ∧ y.cls ≠ "java/lang/invoke/VarHandle") : (Jvm.Cond.selects y.cls y y).before args s = true := by
  obtain ⟨c, r, m, -, -, h3, -, mk, h5, h6⟩ := Cond.selects_spec hs
  exact selects_self_of_private (e ▸ findClass_of_methodNamed h3) h5 h6 hpriv hinst hy
theorem own_nar_boolean {x : Int32} (h : nar .boolean x = x) : narrow .boolean (.int x) = .int x := congrArg Value.int h
theorem own_fits_boolean {x : Int32} (h : nar .boolean x = x) : fits .boolean (.int x) = true := h ▸ fits_nar_bool x
theorem own_nar_char {x : Int32} (h : nar .char x = x) : narrow .char (.int x) = .int x := congrArg Value.int h
theorem own_fits_char {x : Int32} (h : nar .char x = x) : fits .char (.int x) = true := h ▸ fits_nar_char x
theorem own_nar_ref {v : Value} {C : String} (h : v.isRef = true) : narrow (.object C) v = v := by rcases ref_cases h with rfl | ⟨a, rfl⟩ <;> rfl
theorem own_fits_ref {v : Value} {C : String} (h : v.isRef = true) : fits (.object C) v = true := by rcases ref_cases h with rfl | ⟨a, rfl⟩ <;> rfl
theorem own_c1 {v : Value} (h : v.isRef = true) : v.category = 1 := by rcases ref_cases h with rfl | ⟨a, rfl⟩ <;> rfl
theorem own_ext_of_keep {h h' : Heap} (K : Keep h h' []) : Ext h h' := ⟨K.1, fun a c q => K.2.1 a c q nin0⟩
theorem own_ext_refl (h : Heap) : Ext h h := ⟨Nat.le_refl _, fun _ _ q => q⟩
theorem own_ext_trans {h h' h'' : Heap} (E : Ext h h') (E' : Ext h' h'') : Ext h h'' := ⟨Nat.le_trans E.1 E'.1, fun a c q => E'.2 a c (E.2 a c q)⟩
end OwnMore
section OwnMirror
variable {p : Program} {l : Launch} {e : Env} {R : Room} {s : State} {m : MethodId} {args : Array Value} {below : List Frame} {meth : Method} {c : Code} {T : State} {locs : List Loc} {cells slots : Nat} {Z : State} {a0 : Array Value} {h : Heap} {a : Addr} {C : String}
/-- the Class object of C is made, and lies at mr -/
def own_Mr (Z : State) (C : String) (mr : Addr) : Prop := ∃ (c : ClassId) (k : Class), Z.vm.findClass C = some c ∧ Z.vm.classes[c]? = some k ∧ k.mirror = some mr
abbrev own_gcN : MethodName := ⟨"java/lang/Object", "getClass", "()Ljava/lang/Class;"⟩
theorem own_ldcM (X : Stand p l e R s m args below meth c T locs cells slots) (hx : p.tables.exec = Jvm.exec) (hZ : Z.Warmed39 s.vm) {own : String} {index : Nat} (hown : s.vm.findClass own = some m.cls) (w : (Jvm.Cond.classLink own index C).before a0 Z = true) (eT : T.heap = h) {mr : Addr} (M : own_Mr Z C mr)
    {g : JFrame} (hg : g.method = m) (hd : decode c.code g.pc = .ok (.ldc index, 2)) : ∃ T', Stand p l e R s m args below meth c T' locs cells slots ∧ T'.heap = h ∧ ∀ target, Steps p.tables e below (T'.setTop { g with pc := g.pc + 2, stack := .ref mr :: g.stack }) target → Steps p.tables e below (T.setTop g) target := by
  obtain ⟨cc, kc, m1, m2, m3⟩ := M
  obtain ⟨k', q, ek⟩ := hZ.alike.2.2 _ _ m2
  have ev : (Term.mirror C).eval args s none [] s = some (.ref mr) := by
    have f1 : s.vm.findClass C = some cc := by rw [hZ.alike.findClass]; exact m1
    have f2 : k'.mirror = some mr := by rw [ek]; exact m3
    simp [Term.eval, f1, q, f2]
  obtain ⟨vm', X', st⟩ := X.ldcMirror hx hown (mvT hZ w) ev hg hd
  exact ⟨_, X', eT, st⟩
theorem own_gcls (X : Stand p l e R s m args below meth c T locs cells slots) (hx : p.tables.exec = Jvm.exec) (hZ : Z.Warmed39 s.vm) {own : String} {index : Nat} (hown : s.vm.findClass own = some m.cls)
    (w1 : (Jvm.Cond.methodLink own index own_gcN).before a0 Z = true) (w2 : (Jvm.Cond.declares own_gcN).before a0 Z = true) (w4 : (Jvm.Cond.selects C own_gcN own_gcN).before a0 Z = true)
    (w5 : (Jvm.Cond.instanceMethod own_gcN).before a0 Z = true) (w6 : (Jvm.Cond.native own_gcN).before a0 Z = true) (eT : T.heap = h) (E : Exa Z h a C) {mr : Addr} (M : own_Mr Z C mr)
    {g : JFrame} (hg : g.method = m) (hsize : g.locals.size = c.maxLocals) {rest : List Value} (hs : g.stack = .ref a :: rest) (hd : decode c.code g.pc = .ok (.invokevirtual index, 3)) (hf : 1 ≤ R.frames) {W : Nat} (hW : 2 * g.monitorRoom + (rest.map fun v => v.category).sum ≤ W) (hl : W + (nativeFrameWords "java/lang/Object" "getClass" 1 + 11) ≤ R.locals) :
    ∃ T', Stand p l e R s m args below meth c T' locs cells slots ∧ T'.heap = h ∧ ∀ target, Steps p.tables e below (T'.setTop { g with pc := g.pc + 3, stack := .ref mr :: rest }) target → Steps p.tables e below (T.setTop g) target := by
  obtain ⟨cB, kB, i1, i2, i3⟩ := isOf hZ eT E
  obtain ⟨cc, kc, m1, m2, m3⟩ := M
  rw [hZ.alike.findClass] at i1
  cases i1.symm.trans m1
  obtain ⟨k', q, ek⟩ := hZ.alike.2.2 _ _ m2
  obtain ⟨vm', X', st⟩ := X.getClassOf hx hown (mvT hZ w1) (mvT hZ w2) (notFace_of_selects (args := #[]) (mvT hZ w4)) (mvT hZ w4) (mvT hZ w5) (mvT hZ w6) (by rw [hZ.alike.findClass]; exact m1) i3 q (by rw [ek]; exact m3) hg hsize hs hd hf (by omega)
  exact ⟨_, X', eT, st⟩
theorem own_gclsI (X : Stand p l e R s m args below meth c T locs cells slots) (hx : p.tables.exec = Jvm.exec) (hZ : Z.Warmed39 s.vm) {own : String} {index count : Nat} {xi : MethodName} (hown : s.vm.findClass own = some m.cls)
    (w1 : (Jvm.Cond.methodLink own index xi).before a0 Z = true) (w2 : (Jvm.Cond.declares own_gcN).before a0 Z = true) (w3 : (Jvm.Cond.interfaceMethod xi.cls "java/lang/Object" xi.name xi.desc).before a0 Z = true) (w4 : (Jvm.Cond.selects C xi own_gcN).before a0 Z = true)
    (w5 : (Jvm.Cond.instanceMethod own_gcN).before a0 Z = true) (w7 : (Jvm.Cond.publicMethod own_gcN).before a0 Z = true) (w8 : (Jvm.Cond.unhidden C xi.name xi.desc).before a0 Z = true) (w9 : (Jvm.Cond.castable C xi.cls).before a0 Z = true) (w6 : (Jvm.Cond.native own_gcN).before a0 Z = true)
    (hn : xi.name = "getClass") (hde : xi.desc = "()Ljava/lang/Class;") (h1 : xi.cls ≠ "java/lang/invoke/MethodHandle" ∧ xi.cls ≠ "java/lang/invoke/VarHandle") (h2 : xi.cls ≠ "java/lang/Object") (eT : T.heap = h) (E : Exa Z h a C) {mr : Addr} (M : own_Mr Z C mr)
    {g : JFrame} (hg : g.method = m) (hsize : g.locals.size = c.maxLocals) {rest : List Value} (hs : g.stack = .ref a :: rest) (hd : decode c.code g.pc = .ok (.invokeinterface index count, 5)) (hf : 1 ≤ R.frames) {W : Nat} (hW : 2 * g.monitorRoom + (rest.map fun v => v.category).sum ≤ W) (hl : W + (nativeFrameWords "java/lang/Object" "getClass" 1 + 11) ≤ R.locals) :
    ∃ T', Stand p l e R s m args below meth c T' locs cells slots ∧ T'.heap = h ∧ ∀ target, Steps p.tables e below (T'.setTop { g with pc := g.pc + 5, stack := .ref mr :: rest }) target → Steps p.tables e below (T.setTop g) target := by
  obtain ⟨cB, kB, i1, i2, i3⟩ := isOf hZ eT E
  obtain ⟨cc, kc, m1, m2, m3⟩ := M
  rw [hZ.alike.findClass] at i1
  cases i1.symm.trans m1
  obtain ⟨k', q, ek⟩ := hZ.alike.2.2 _ _ m2
  obtain ⟨vm', X', st⟩ := X.getClassOfI hx hown (mvT hZ w1) (mvT hZ w2) (Jvm.Free.ULB.iface_rides hZ.alike w3) (mvT hZ w4) (mvT hZ w5) (mvT hZ w7) (mvT hZ w8) (mvT hZ w9) (mvT hZ w6) h1 h2 hn hde (by rw [hZ.alike.findClass]; exact m1) q i3 (by rw [ek]; exact m3) hg hsize hs hd hf (by omega)
  exact ⟨_, X', eT, st⟩
end OwnMirror

def QLaw (n0 : Nat) (v : Option Value) (h : Heap) (L : List Loc) : Prop := v = some (.int 1) ∧ Fr n0 L
def Lst (Z : State) (h : Heap) (a : Addr) (e : Value) : Prop := Exa Z h a "java/util/ArrayList" ∧ Fld Z h a "java/util/AbstractList" "modCount" "I" (.int 0) ∧ Fld Z h a "java/util/ArrayList" "elementData" "[Ljava/lang/Object;" e ∧ Fld Z h a "java/util/ArrayList" "size" "I" (.int 0)
def Q0 (h0 : Heap) (n0 : Nat) (v : Option Value) (h : Heap) (L : List Loc) : Prop := v = none ∧ Fr n0 L ∧ h = h0
def Qw (w : Value) (h0 : Heap) (n0 : Nat) (v : Option Value) (h : Heap) (L : List Loc) : Prop := v = some w ∧ Fr n0 L ∧ h = h0
def QL (Z : State) (a : Addr) (e : Value) (h0 : Heap) (n0 : Nat) (v : Option Value) (h : Heap) (L : List Loc) : Prop := v = none ∧ Fr n0 L ∧ Keep h0 h [a] ∧ Lst Z h a e
def QK (Z : State) (a : Addr) (C : String) (h0 : Heap) (n0 : Nat) (v : Option Value) (h : Heap) (L : List Loc) : Prop := v = none ∧ Fr n0 L ∧ Keep h0 h [a] ∧ Exa Z h a C
def QA (Z : State) (h0 : Heap) (n0 : Nat) (v : Option Value) (h : Heap) (L : List Loc) : Prop := ∃ b k, v = some (.ref b) ∧ Fr n0 L ∧ Ext h0 h ∧ Arv Z h b k (.object "java/lang/Object") 0 [] .null
def QR (h0 : Heap) (n0 : Nat) (v : Option Value) (h : Heap) (L : List Loc) : Prop := ∃ b, v = some (.ref b) ∧ Fr n0 L ∧ Ext h0 h
def QP (Z : State) (a : Addr) (rc : Int64) (d pp : Int32) (h0 : Heap) (n0 : Nat) (v : Option Value) (h : Heap) (L : List Loc) : Prop := v = none ∧ Fr n0 L ∧ Keep h0 h [a] ∧ Exa Z h a "com/example/vyasa/vyasa/Page" ∧ Fld Z h a "com/example/vyasa/vyasa/Page" "resultCount" "J" (.long rc) ∧ Fld Z h a "com/example/vyasa/vyasa/Page" "page" "I" (.int d) ∧ Fld Z h a "com/example/vyasa/vyasa/Page" "perPage" "I" (.int pp)
theorem own_Lst_ext {Z : State} {h h' : Heap} {a : Addr} {e : Value} (o : Lst Z h a e) (E : Ext h h') : Lst Z h' a e := ⟨o.1.ext E, o.2.1.ext E, o.2.2.1.ext E, o.2.2.2.ext E⟩
theorem own_Lst_keep {Z : State} {h h' : Heap} {a : Addr} {e : Value} {ws : List Addr} (o : Lst Z h a e) (K : Keep h h' ws) (n : a ∉ ws) : Lst Z h' a e := ⟨o.1.keep K, o.2.1.keep K n, o.2.2.1.keep K n, o.2.2.2.keep K n⟩
theorem d4_0 : decode jdk_22_method_1_code 0 = .ok (.aload_n 0, 1) := by decide +kernel
theorem d4_1 : decode jdk_22_method_1_code 1 = .ok (.invokespecial 1, 3) := by decide +kernel
theorem d4_4 : decode jdk_22_method_1_code 4 = .ok (.return_, 1) := by decide +kernel
theorem pn_java_2futil_2fAbstractCollection : plainName "java/util/AbstractCollection" = true := by first | (simp [plainName, overriddenIn]; done) | decide +kernel
theorem ef_rmAC (mM : MethodId) (a : Addr) : entryFrame mM #[(.ref a)] 1 = mkF mM 0 #[.val (.ref a)] [] := by first | (simp [entryFrame, mkF, argsToLocals, Value.category]; done) | rfl
set_option maxRecDepth 65536 in
set_option maxHeartbeats 40000000 in
theorem rmAC (lL : Launch) (Z : State) (a0 : Array Value) (hw : ∀ d ∈ tables_1, d.before a0 Z = true) (ws : List Jvm.Cond) (a : Addr) (h0 : Heap) (n0 : Nat)  :
    MetFree lL (⟨"java/util/AbstractCollection", "<init>", "()V"⟩ : MethodName) (head1 (Jvm.Cond.code (⟨"java/util/AbstractCollection", "<init>", "()V"⟩ : MethodName) jdk_22_method_1_code 1 none :: ws) ({ frames := 1, cells := 0, slots := 0, locals := 12 } : Room)) (fun as_ uU_ => as_ = #[(.ref a)] ∧ Z.Warmed39 uU_.vm ∧ uU_.heap = h0) (fun _ _ _ _ _ => True) (fun _ uU_ oO_ uE_ => ∃ vV_ lL_, oO_ = .returned vV_ ∧ Q0 h0 n0 vV_ uE_.heap lL_ ∧ FrameEnd uU_ oO_ uE_ lL_ ({ frames := 1, cells := 0, slots := 0, locals := 12 } : Room).cells ({ frames := 1, cells := 0, slots := 0, locals := 12 } : Room).slots) := by
  refine MetFree.of_bodySF (plainFor_of_name pn_java_2futil_2fAbstractCollection) hisR ?_
  intro pP eE sS mM args below meth cC s₁ Bd hml0 hP hK
  obtain ⟨rfl, hZ, hh⟩ := hP
  have hx := Bd.exec
  have hby := Bd.bytes
  have hml : cC.maxLocals = 1 := hml0
  have hown : sS.vm.findClass "java/util/AbstractCollection" = some mM.cls := findClass_of_methodNamed Bd.named
  have hnm := (name_of_methodNamed Bd.named Bd.method).1
  have hret := Bd.returns
  have hlk := BodyLoose.notSynchronized Bd
  have X0 : Stand pP lL eE ({ frames := 1, cells := 0, slots := 0, locals := 12 } : Room) sS mM #[(.ref a)] below meth cC s₁ [] 0 0 := Stand.of_body Bd
  have e0 : s₁.heap = h0 := by rw [← hh, Bd.state]; rfl
  have N0 := Fr.nil n0
  show own_Go pP eE below sS (Q0 h0 n0) 0 0 (s₁.setTop (entryFrame mM #[(.ref a)] 1))
  refine own_st (A := s₁.setTop (mkF mM 0 #[.val (.ref a)] [])) (fun tT_ kK_ => castTop (ef_rmAC mM a) kK_) ?_
  refine own_st (A := s₁.setTop (mkF mM 1 #[.val (.ref a)] [(.ref a)])) (fun tT_ kK_ => XS.aloadN X0.here hx rfl (hb hby d4_0) rfl rfl kK_) ?_
  obtain ⟨T1, X1, e1, st1⟩ := initO X0 hx hZ hown (hw _ (List.mem_of_getElem? (i := 27) rfl)) (hw _ (List.mem_of_getElem? (i := 28) rfl)) (hw _ (List.mem_of_getElem? (i := 29) rfl)) e0 (g := (mkF mM 1 #[.val (.ref a)] [(.ref a)])) rfl (by rw [hml]; rfl) rfl (hb hby d4_1) (by decide) (W := 0) (by show 2 * 0 + _ ≤ _; exact Nat.le_of_eq rfl) (by decide)
  refine own_st (A := T1.setTop (mkF mM 4 #[.val (.ref a)] [])) (fun tT_ kK_ => st1 tT_ kK_) ?_
  exact own_retV X1 hx hlk hret (hb hby d4_4) ⟨rfl, N0, e1⟩ (by decide) (by decide)
theorem d3_0 : decode jdk_39_method_1_code 0 = .ok (.aload_n 0, 1) := by decide +kernel
theorem d3_1 : decode jdk_39_method_1_code 1 = .ok (.invokespecial 1, 3) := by decide +kernel
theorem pd__28_29V : parseMethodDescriptor "()V" = some ⟨[], none⟩ := by decide +kernel
theorem d3_4 : decode jdk_39_method_1_code 4 = .ok (.aload_n 0, 1) := by decide +kernel
theorem d3_5 : decode jdk_39_method_1_code 5 = .ok (.iconst 0, 1) := by decide +kernel
theorem d3_6 : decode jdk_39_method_1_code 6 = .ok (.putfield 7, 3) := by decide +kernel
theorem d3_9 : decode jdk_39_method_1_code 9 = .ok (.return_, 1) := by decide +kernel
theorem pn_java_2futil_2fAbstractList : plainName "java/util/AbstractList" = true := by first | (simp [plainName, overriddenIn]; done) | decide +kernel
theorem ef_rmAB (mM : MethodId) (a : Addr) : entryFrame mM #[(.ref a)] 1 = mkF mM 0 #[.val (.ref a)] [] := by first | (simp [entryFrame, mkF, argsToLocals, Value.category]; done) | rfl
set_option maxRecDepth 65536 in
set_option maxHeartbeats 40000000 in
theorem rmAB (lL : Launch) (Z : State) (a0 : Array Value) (hw : ∀ d ∈ tables_1, d.before a0 Z = true) (ws : List Jvm.Cond) (a : Addr) (h0 : Heap) (n0 : Nat) (g_a : n0 ≤ a) (E_a : Exa Z h0 a "java/util/ArrayList") (F_a_modCount : Fld Z h0 a "java/util/AbstractList" "modCount" "I" (.int (0 : Int32))) (F_a_elementData : Fld Z h0 a "java/util/ArrayList" "elementData" "[Ljava/lang/Object;" .null) (F_a_size : Fld Z h0 a "java/util/ArrayList" "size" "I" (.int (0 : Int32))) :
    MetFree lL (⟨"java/util/AbstractList", "<init>", "()V"⟩ : MethodName) (head1 (Jvm.Cond.code (⟨"java/util/AbstractList", "<init>", "()V"⟩ : MethodName) jdk_39_method_1_code 1 none :: ws) ({ frames := 2, cells := 0, slots := 0, locals := 24 } : Room)) (fun as_ uU_ => as_ = #[(.ref a)] ∧ Z.Warmed39 uU_.vm ∧ uU_.heap = h0) (fun _ _ _ _ _ => True) (fun _ uU_ oO_ uE_ => ∃ vV_ lL_, oO_ = .returned vV_ ∧ QL Z a .null h0 n0 vV_ uE_.heap lL_ ∧ FrameEnd uU_ oO_ uE_ lL_ ({ frames := 2, cells := 0, slots := 0, locals := 24 } : Room).cells ({ frames := 2, cells := 0, slots := 0, locals := 24 } : Room).slots) := by
  refine MetFree.of_bodySF (plainFor_of_name pn_java_2futil_2fAbstractList) hisR ?_
  intro pP eE sS mM args below meth cC s₁ Bd hml0 hP hK
  obtain ⟨rfl, hZ, hh⟩ := hP
  have hx := Bd.exec
  have hby := Bd.bytes
  have hml : cC.maxLocals = 1 := hml0
  have hown : sS.vm.findClass "java/util/AbstractList" = some mM.cls := findClass_of_methodNamed Bd.named
  have hnm := (name_of_methodNamed Bd.named Bd.method).1
  have hret := Bd.returns
  have hlk := BodyLoose.notSynchronized Bd
  have X0 : Stand pP lL eE ({ frames := 2, cells := 0, slots := 0, locals := 24 } : Room) sS mM #[(.ref a)] below meth cC s₁ [] 0 0 := Stand.of_body Bd
  have e0 : s₁.heap = h0 := by rw [← hh, Bd.state]; rfl
  have N0 := Fr.nil n0
  show own_Go pP eE below sS (QL Z a .null h0 n0) 0 0 (s₁.setTop (entryFrame mM #[(.ref a)] 1))
  refine own_st (A := s₁.setTop (mkF mM 0 #[.val (.ref a)] [])) (fun tT_ kK_ => castTop (ef_rmAB mM a) kK_) ?_
  have Kp := Keep.refl h0 [a]
  refine own_st (A := s₁.setTop (mkF mM 1 #[.val (.ref a)] [(.ref a)])) (fun tT_ kK_ => XS.aloadN X0.here hx rfl (hb hby d3_0) rfl rfl kK_) ?_
  obtain ⟨_, _, ⟨T2, L2, k2, n2⟩, -, X2, ⟨Lc2, hQ2, l2, y2, z2⟩, st2⟩ := X0.specialBack hx (y := (⟨"java/util/AbstractCollection", "<init>", "()V"⟩ : MethodName)) rfl hown (mvT hZ (hw _ (List.mem_of_getElem? (i := 21) rfl))) (mvT hZ (hw _ (List.mem_of_getElem? (i := 22) rfl))) (mvT hZ (hw _ (List.mem_of_getElem? (i := 26) rfl))) (by decide) (backOf (W := 0) (rmAC lL Z a0 hw [] a h0 n0 ) hZ (hw _ (List.mem_of_getElem? (i := 26) rfl)) (hw _ (List.mem_of_getElem? (i := 25) rfl)) (by decide) (by decide)) (g := (mkF mM 1 #[.val (.ref a)] [(.ref a)])) rfl (by rw [hml]; rfl) (Steps.refl _) (a := a) (argsL := []) (rest := []) (lenOf pd__28_29V rfl) rfl (by show 2 * 0 + _ ≤ _; exact Nat.le_of_eq rfl) (hb hby d3_1) (fun _ _ => ⟨rfl, e0, (by decide : 0 + 0 ≤ _), (by decide : 0 + 0 ≤ _)⟩)
  dsimp only [Pt.U, Pt.locs, Pt.cells, Pt.slots] at X2 l2 y2 z2 st2 hQ2
  subst l2 y2 z2
  obtain ⟨rfl, N2q, e2⟩ := hQ2
  have N2 := Fr.app N0 N2q
  refine own_st (A := T2.setTop (mkF mM 4 #[.val (.ref a)] [])) (fun tT_ kK_ => st2.trans kK_) ?_
  refine own_st (A := T2.setTop (mkF mM 5 #[.val (.ref a)] [(.ref a)])) (fun tT_ kK_ => XS.aloadN X2.here hx rfl (hb hby d3_4) rfl rfl kK_) ?_
  refine own_st (A := T2.setTop (mkF mM 6 #[.val (.ref a)] [(.int (0 : Int32)), (.ref a)])) (fun tT_ kK_ => XS.iconst X2.here hx rfl (hb hby d3_5) kK_) ?_
  obtain ⟨T3, h3, X3, e3, W3, st3⟩ := putF X2 hx hZ hown (host := "") (Or.inl (hw _ (List.mem_of_getElem? (i := 30) rfl))) Via.refl e2 F_a_modCount E_a (Or.inl (hw _ (List.mem_of_getElem? (i := 31) rfl))) (hw _ (List.mem_of_getElem? (i := 10) rfl)) (ty := .int) (by decide) rfl rfl (g := (mkF mM 6 #[.val (.ref a)] [(.int (0 : Int32)), (.ref a)])) rfl rfl (hb hby d3_6)
  have N3 := Fr.snoc X3 N2 g_a
  have F_a_modCount := F_a_modCount.same W3
  have F_a_elementData := F_a_elementData.other W3 (Or.inr (slot_ne (Or.inl (hw _ (List.mem_of_getElem? (i := 34) rfl))) (Or.inl (hw _ (List.mem_of_getElem? (i := 31) rfl))) (by decide) (t := (.array (.object "java/lang/Object"))) (t' := .int) (by decide) (by decide)))
  have F_a_size := F_a_size.other W3 (Or.inr (slot_ne (Or.inl (hw _ (List.mem_of_getElem? (i := 53) rfl))) (Or.inl (hw _ (List.mem_of_getElem? (i := 31) rfl))) (by decide) (t := .int) (t' := .int) (by decide) (by decide)))
  have E_a := E_a.wr W3
  have Kp := Kp.wr W3 (Or.inl (List.mem_of_getElem? (i := 0) rfl))
  refine own_st (A := T3.setTop (mkF mM 9 #[.val (.ref a)] [])) (fun tT_ kK_ => st3 tT_ kK_) ?_
  exact own_retV X3 hx hlk hret (hb hby d3_9) (by rw [e3]; exact ⟨rfl, N3, Kp, E_a, F_a_modCount, F_a_elementData, F_a_size⟩) (by decide) (by decide)
theorem d2_0 : decode jdk_38_method_2_code 0 = .ok (.aload_n 0, 1) := by decide +kernel
theorem d2_1 : decode jdk_38_method_2_code 1 = .ok (.invokespecial 1, 3) := by decide +kernel
theorem d2_4 : decode jdk_38_method_2_code 4 = .ok (.aload_n 0, 1) := by decide +kernel
theorem d2_5 : decode jdk_38_method_2_code 5 = .ok (.getstatic 39, 3) := by decide +kernel
theorem d2_8 : decode jdk_38_method_2_code 8 = .ok (.putfield 9, 3) := by decide +kernel
theorem d2_11 : decode jdk_38_method_2_code 11 = .ok (.return_, 1) := by decide +kernel
theorem pn_java_2futil_2fArrayList : plainName "java/util/ArrayList" = true := by first | (simp [plainName, overriddenIn]; done) | decide +kernel
theorem ef_rmA0 (mM : MethodId) (a : Addr) (dc : Addr) : entryFrame mM #[(.ref a)] 1 = mkF mM 0 #[.val (.ref a)] [] := by first | (simp [entryFrame, mkF, argsToLocals, Value.category]; done) | rfl
set_option maxRecDepth 65536 in
set_option maxHeartbeats 40000000 in
theorem rmA0 (lL : Launch) (Z : State) (a0 : Array Value) (hw : ∀ d ∈ tables_1, d.before a0 Z = true) (ws : List Jvm.Cond) (a : Addr) (dc : Addr) (h0 : Heap) (n0 : Nat) (g_a : n0 ≤ a) (E_a : Exa Z h0 a "java/util/ArrayList") (F_a_modCount : Fld Z h0 a "java/util/AbstractList" "modCount" "I" (.int (0 : Int32))) (F_a_elementData : Fld Z h0 a "java/util/ArrayList" "elementData" "[Ljava/lang/Object;" .null) (F_a_size : Fld Z h0 a "java/util/ArrayList" "size" "I" (.int (0 : Int32))) (O : Old Z n0 h0) (S_dc : Sta Z Z.heap "java/util/ArrayList" "DEFAULTCAPACITY_EMPTY_ELEMENTDATA" "[Ljava/lang/Object;" (.ref dc)) :
    MetFree lL (⟨"java/util/ArrayList", "<init>", "()V"⟩ : MethodName) (head1 (Jvm.Cond.code (⟨"java/util/ArrayList", "<init>", "()V"⟩ : MethodName) jdk_38_method_2_code 1 none :: ws) ({ frames := 3, cells := 0, slots := 0, locals := 36 } : Room)) (fun as_ uU_ => as_ = #[(.ref a)] ∧ Z.Warmed39 uU_.vm ∧ uU_.heap = h0) (fun _ _ _ _ _ => True) (fun _ uU_ oO_ uE_ => ∃ vV_ lL_, oO_ = .returned vV_ ∧ QL Z a (.ref dc) h0 n0 vV_ uE_.heap lL_ ∧ FrameEnd uU_ oO_ uE_ lL_ ({ frames := 3, cells := 0, slots := 0, locals := 36 } : Room).cells ({ frames := 3, cells := 0, slots := 0, locals := 36 } : Room).slots) := by
  refine MetFree.of_bodySF (plainFor_of_name pn_java_2futil_2fArrayList) hisR ?_
  intro pP eE sS mM args below meth cC s₁ Bd hml0 hP hK
  obtain ⟨rfl, hZ, hh⟩ := hP
  have hx := Bd.exec
  have hby := Bd.bytes
  have hml : cC.maxLocals = 1 := hml0
  have hown : sS.vm.findClass "java/util/ArrayList" = some mM.cls := findClass_of_methodNamed Bd.named
  have hnm := (name_of_methodNamed Bd.named Bd.method).1
  have hret := Bd.returns
  have hlk := BodyLoose.notSynchronized Bd
  have X0 : Stand pP lL eE ({ frames := 3, cells := 0, slots := 0, locals := 36 } : Room) sS mM #[(.ref a)] below meth cC s₁ [] 0 0 := Stand.of_body Bd
  have e0 : s₁.heap = h0 := by rw [← hh, Bd.state]; rfl
  have N0 := Fr.nil n0
  show own_Go pP eE below sS (QL Z a (.ref dc) h0 n0) 0 0 (s₁.setTop (entryFrame mM #[(.ref a)] 1))
  refine own_st (A := s₁.setTop (mkF mM 0 #[.val (.ref a)] [])) (fun tT_ kK_ => castTop (ef_rmA0 mM a dc) kK_) ?_
  have Kp := Keep.refl h0 [a]
  refine own_st (A := s₁.setTop (mkF mM 1 #[.val (.ref a)] [(.ref a)])) (fun tT_ kK_ => XS.aloadN X0.here hx rfl (hb hby d2_0) rfl rfl kK_) ?_
  obtain ⟨_, _, ⟨T4, L4, k4, n4⟩, -, X4, ⟨Lc4, hQ4, l4, y4, z4⟩, st4⟩ := X0.specialBack hx (y := (⟨"java/util/AbstractList", "<init>", "()V"⟩ : MethodName)) rfl hown (mvT hZ (hw _ (List.mem_of_getElem? (i := 15) rfl))) (mvT hZ (hw _ (List.mem_of_getElem? (i := 16) rfl))) (mvT hZ (hw _ (List.mem_of_getElem? (i := 20) rfl))) (by decide) (backOf (W := 0) (rmAB lL Z a0 hw [] a h0 n0 g_a E_a F_a_modCount F_a_elementData F_a_size) hZ (hw _ (List.mem_of_getElem? (i := 20) rfl)) (hw _ (List.mem_of_getElem? (i := 19) rfl)) (by decide) (by decide)) (g := (mkF mM 1 #[.val (.ref a)] [(.ref a)])) rfl (by rw [hml]; rfl) (Steps.refl _) (a := a) (argsL := []) (rest := []) (lenOf pd__28_29V rfl) rfl (by show 2 * 0 + _ ≤ _; exact Nat.le_of_eq rfl) (hb hby d2_1) (fun _ _ => ⟨rfl, e0, (by decide : 0 + 0 ≤ _), (by decide : 0 + 0 ≤ _)⟩)
  dsimp only [Pt.U, Pt.locs, Pt.cells, Pt.slots] at X4 l4 y4 z4 st4 hQ4
  subst l4 y4 z4
  obtain ⟨rfl, N4q, K4, ob4⟩ := hQ4
  have N4 := Fr.app N0 N4q
  have e4 : T4.heap = T4.heap := rfl
  refine own_st (A := T4.setTop (mkF mM 4 #[.val (.ref a)] [])) (fun tT_ kK_ => st4.trans kK_) ?_
  have E_a := E_a.keep K4
  have O := O.keep K4 (allS g_a all0)
  have Kp := Kp.trans K4 (allS (Or.inl (List.mem_of_getElem? (i := 0) rfl)) all0)
  obtain ⟨E_a, F_a_modCount, F_a_elementData, F_a_size⟩ := ob4
  refine own_st (A := T4.setTop (mkF mM 5 #[.val (.ref a)] [(.ref a)])) (fun tT_ kK_ => XS.aloadN X4.here hx rfl (hb hby d2_4) rfl rfl kK_) ?_
  obtain ⟨T5, X5, e5, st5⟩ := getS2 X4 hx hZ hown (host := "") (Or.inl (hw _ (List.mem_of_getElem? (i := 32) rfl))) Via.refl e4 (S_dc.ext O.2) (g := (mkF mM 5 #[.val (.ref a)] [(.ref a)])) rfl (hb hby d2_5)
  refine own_st (A := T5.setTop (mkF mM 8 #[.val (.ref a)] [(.ref dc), (.ref a)])) (fun tT_ kK_ => st5 tT_ kK_) ?_
  obtain ⟨T6, h6, X6, e6, W6, st6⟩ := putF X5 hx hZ hown (host := "") (Or.inl (hw _ (List.mem_of_getElem? (i := 33) rfl))) Via.refl e5 F_a_elementData E_a (Or.inl (hw _ (List.mem_of_getElem? (i := 34) rfl))) (hw _ (List.mem_of_getElem? (i := 10) rfl)) (ty := (.array (.object "java/lang/Object"))) (by decide) rfl rfl (g := (mkF mM 8 #[.val (.ref a)] [(.ref dc), (.ref a)])) rfl rfl (hb hby d2_8)
  have N6 := Fr.snoc X6 N4 g_a
  have F_a_modCount := F_a_modCount.other W6 (Or.inr (slot_ne (Or.inl (hw _ (List.mem_of_getElem? (i := 31) rfl))) (Or.inl (hw _ (List.mem_of_getElem? (i := 34) rfl))) (by decide) (t := .int) (t' := (.array (.object "java/lang/Object"))) (by decide) (by decide)))
  have F_a_elementData := F_a_elementData.same W6
  have F_a_size := F_a_size.other W6 (Or.inr (slot_ne (Or.inl (hw _ (List.mem_of_getElem? (i := 53) rfl))) (Or.inl (hw _ (List.mem_of_getElem? (i := 34) rfl))) (by decide) (t := .int) (t' := (.array (.object "java/lang/Object"))) (by decide) (by decide)))
  have E_a := E_a.wr W6
  have O := O.wr W6 g_a
  have Kp := Kp.wr W6 (Or.inl (List.mem_of_getElem? (i := 0) rfl))
  refine own_st (A := T6.setTop (mkF mM 11 #[.val (.ref a)] [])) (fun tT_ kK_ => st6 tT_ kK_) ?_
  exact own_retV X6 hx hlk hret (hb hby d2_11) (by rw [e6]; exact ⟨rfl, N6, Kp, E_a, F_a_modCount, F_a_elementData, F_a_size⟩) (by decide) (by decide)
theorem d11_0 : decode jdk_29_method_69_code 0 = .ok (.iload_n 0, 1) := by decide +kernel
theorem d11_1 : decode jdk_29_method_69_code 1 = .ok (.iload_n 1, 1) := by decide +kernel
theorem d11_2 : decode jdk_29_method_69_code 2 = .ok (.if_icmp .gt 7, 3) := by decide +kernel
theorem d11_5 : decode jdk_29_method_69_code 5 = .ok (.iload_n 0, 1) := by decide +kernel
theorem d11_6 : decode jdk_29_method_69_code 6 = .ok (.goto 4, 3) := by decide +kernel
theorem d11_10 : decode jdk_29_method_69_code 10 = .ok (.ireturn, 1) := by decide +kernel
theorem pn_java_2flang_2fMath_11 : plainFor (⟨"java/lang/Math", "min", "(II)I"⟩ : MethodName) = true := by decide +kernel
theorem ef_rmMin (mM : MethodId)  : entryFrame mM #[(.int (0 : Int32)), (.int (0 : Int32))] 2 = mkF mM 0 #[.val (.int (0 : Int32)), .val (.int (0 : Int32))] [] := by first | (simp [entryFrame, mkF, argsToLocals, Value.category]; done) | rfl
set_option maxRecDepth 65536 in
set_option maxHeartbeats 40000000 in
theorem rmMin (lL : Launch) (Z : State) (a0 : Array Value) (hw : ∀ d ∈ tables_1, d.before a0 Z = true) (ws : List Jvm.Cond)  (h0 : Heap) (n0 : Nat)  :
    MetFree lL (⟨"java/lang/Math", "min", "(II)I"⟩ : MethodName) (head1 (Jvm.Cond.code (⟨"java/lang/Math", "min", "(II)I"⟩ : MethodName) jdk_29_method_69_code 2 (some .int) :: ws) ({ frames := 0, cells := 0, slots := 0, locals := 0 } : Room)) (fun as_ uU_ => as_ = #[(.int (0 : Int32)), (.int (0 : Int32))] ∧ Z.Warmed39 uU_.vm ∧ uU_.heap = h0) (fun _ _ _ _ _ => True) (fun _ uU_ oO_ uE_ => ∃ vV_ lL_, oO_ = .returned vV_ ∧ Qw (.int 0) h0 n0 vV_ uE_.heap lL_ ∧ FrameEnd uU_ oO_ uE_ lL_ ({ frames := 0, cells := 0, slots := 0, locals := 0 } : Room).cells ({ frames := 0, cells := 0, slots := 0, locals := 0 } : Room).slots) := by
  refine MetFree.of_bodySF pn_java_2flang_2fMath_11 hisR ?_
  intro pP eE sS mM args below meth cC s₁ Bd hml0 hP hK
  obtain ⟨rfl, hZ, hh⟩ := hP
  have hx := Bd.exec
  have hby := Bd.bytes
  have hml : cC.maxLocals = 2 := hml0
  have hown : sS.vm.findClass "java/lang/Math" = some mM.cls := findClass_of_methodNamed Bd.named
  have hnm := (name_of_methodNamed Bd.named Bd.method).1
  have hret := Bd.returns
  have hlk := BodyLoose.notSynchronized Bd
  have X0 : Stand pP lL eE ({ frames := 0, cells := 0, slots := 0, locals := 0 } : Room) sS mM #[(.int (0 : Int32)), (.int (0 : Int32))] below meth cC s₁ [] 0 0 := Stand.of_body Bd
  have e0 : s₁.heap = h0 := by rw [← hh, Bd.state]; rfl
  have N0 := Fr.nil n0
  show own_Go pP eE below sS (Qw (.int 0) h0 n0) 0 0 (s₁.setTop (entryFrame mM #[(.int (0 : Int32)), (.int (0 : Int32))] 2))
  refine own_st (A := s₁.setTop (mkF mM 0 #[.val (.int (0 : Int32)), .val (.int (0 : Int32))] [])) (fun tT_ kK_ => castTop (ef_rmMin mM ) kK_) ?_
  refine own_st (A := s₁.setTop (mkF mM 1 #[.val (.int (0 : Int32)), .val (.int (0 : Int32))] [(.int (0 : Int32))])) (fun tT_ kK_ => XS.iloadN X0.here hx rfl (hb hby d11_0) rfl kK_) ?_
  refine own_st (A := s₁.setTop (mkF mM 2 #[.val (.int (0 : Int32)), .val (.int (0 : Int32))] [(.int (0 : Int32)), (.int (0 : Int32))])) (fun tT_ kK_ => XS.iloadN X0.here hx rfl (hb hby d11_1) rfl kK_) ?_
  refine own_st (A := s₁.setTop (mkF mM 5 #[.val (.int (0 : Int32)), .val (.int (0 : Int32))] [])) (fun tT_ kK_ => XS.icmpNo X0.here hx rfl (hb hby d11_2) rfl (flt (by decide : ¬ ((0 : Int32) < (0 : Int32)))).2.2.1 kK_) ?_
  refine own_st (A := s₁.setTop (mkF mM 6 #[.val (.int (0 : Int32)), .val (.int (0 : Int32))] [(.int (0 : Int32))])) (fun tT_ kK_ => XS.iloadN X0.here hx rfl (hb hby d11_5) rfl kK_) ?_
  refine own_st (A := s₁.setTop (mkF mM 10 #[.val (.int (0 : Int32)), .val (.int (0 : Int32))] [(.int (0 : Int32))])) (fun tT_ kK_ => XS.goto X0.here hx rfl (pc0 := 6) (pc' := 10) rfl (hb hby d11_6) (by decide) (by decide) kK_) ?_
  exact own_retI X0 hx hlk hret (hb hby d11_10) ⟨rfl, N0, e0⟩ (by decide) (by decide)
theorem d10_0 : decode jdk_65_method_120_code 0 = .ok (.aload_n 2, 1) := by decide +kernel
theorem d10_1 : decode jdk_65_method_120_code 1 = .ok (.ldc 110, 2) := by decide +kernel
theorem d10_3 : decode jdk_65_method_120_code 3 = .ok (.if_acmp .ne 10, 3) := by decide +kernel
theorem d10_6 : decode jdk_65_method_120_code 6 = .ok (.iload_n 1, 1) := by decide +kernel
theorem d10_7 : decode jdk_65_method_120_code 7 = .ok (.anewarray 2, 3) := by decide +kernel
theorem d10_10 : decode jdk_65_method_120_code 10 = .ok (.goto 14, 3) := by decide +kernel
theorem d10_24 : decode jdk_65_method_120_code 24 = .ok (.astore_n 3, 1) := by decide +kernel
theorem d10_25 : decode jdk_65_method_120_code 25 = .ok (.aload_n 0, 1) := by decide +kernel
theorem d10_26 : decode jdk_65_method_120_code 26 = .ok (.iconst 0, 1) := by decide +kernel
theorem d10_27 : decode jdk_65_method_120_code 27 = .ok (.aload_n 3, 1) := by decide +kernel
theorem d10_28 : decode jdk_65_method_120_code 28 = .ok (.iconst 0, 1) := by decide +kernel
theorem d10_29 : decode jdk_65_method_120_code 29 = .ok (.aload_n 0, 1) := by decide +kernel
theorem d10_30 : decode jdk_65_method_120_code 30 = .ok (.arraylength, 1) := by decide +kernel
theorem d10_31 : decode jdk_65_method_120_code 31 = .ok (.iload_n 1, 1) := by decide +kernel
theorem d10_32 : decode jdk_65_method_120_code 32 = .ok (.invokestatic 304, 3) := by decide +kernel
theorem pd__28II_29I : parseMethodDescriptor "(II)I" = some ⟨[.int, .int], some .int⟩ := by decide +kernel
theorem d10_35 : decode jdk_65_method_120_code 35 = .ok (.invokestatic 150, 3) := by decide +kernel
theorem d10_38 : decode jdk_65_method_120_code 38 = .ok (.aload_n 3, 1) := by decide +kernel
theorem d10_39 : decode jdk_65_method_120_code 39 = .ok (.areturn, 1) := by decide +kernel
theorem pn_java_2futil_2fArrays : plainName "java/util/Arrays" = true := by first | (simp [plainName, overriddenIn]; done) | decide +kernel
theorem ef_rmC3 (mM : MethodId) (dc : Addr) (kd : ClassId) (mo : Addr) : entryFrame mM #[(.ref dc), (.int (0 : Int32)), (.ref mo)] 4 = mkF mM 0 #[.val (.ref dc), .val (.int (0 : Int32)), .val (.ref mo), .unset] [] := by first | (simp [entryFrame, mkF, argsToLocals, Value.category]; done) | rfl
set_option maxRecDepth 65536 in
set_option maxHeartbeats 40000000 in
theorem rmC3 (lL : Launch) (Z : State) (a0 : Array Value) (hw : ∀ d ∈ tables_1, d.before a0 Z = true) (ws : List Jvm.Cond) (dc : Addr) (kd : ClassId) (mo : Addr) (h0 : Heap) (n0 : Nat) (O : Old Z n0 h0) (Zn : n0 ≤ h0.size) (V_dc : Arv Z Z.heap dc kd (.object "java/lang/Object") 0 [] .null) (E_dc : Exa Z Z.heap dc "[Ljava/lang/Object;") (M_oa : own_Mr Z "[Ljava/lang/Object;" mo) :
    MetFree lL (⟨"java/util/Arrays", "copyOf", "([Ljava/lang/Object;ILjava/lang/Class;)[Ljava/lang/Object;"⟩ : MethodName) (head1 (Jvm.Cond.code (⟨"java/util/Arrays", "copyOf", "([Ljava/lang/Object;ILjava/lang/Class;)[Ljava/lang/Object;"⟩ : MethodName) jdk_65_method_120_code 4 (some (.array (.object "java/lang/Object"))) :: ws) ({ frames := 1, cells := 1, slots := 0, locals := 40 } : Room)) (fun as_ uU_ => as_ = #[(.ref dc), (.int (0 : Int32)), (.ref mo)] ∧ Z.Warmed39 uU_.vm ∧ uU_.heap = h0) (fun _ _ _ _ _ => True) (fun _ uU_ oO_ uE_ => ∃ vV_ lL_, oO_ = .returned vV_ ∧ QA Z h0 n0 vV_ uE_.heap lL_ ∧ FrameEnd uU_ oO_ uE_ lL_ ({ frames := 1, cells := 1, slots := 0, locals := 40 } : Room).cells ({ frames := 1, cells := 1, slots := 0, locals := 40 } : Room).slots) := by
  refine MetFree.of_bodySF (plainFor_of_name pn_java_2futil_2fArrays) hisR ?_
  intro pP eE sS mM args below meth cC s₁ Bd hml0 hP hK
  obtain ⟨rfl, hZ, hh⟩ := hP
  have hx := Bd.exec
  have hby := Bd.bytes
  have hml : cC.maxLocals = 4 := hml0
  have hown : sS.vm.findClass "java/util/Arrays" = some mM.cls := findClass_of_methodNamed Bd.named
  have hnm := (name_of_methodNamed Bd.named Bd.method).1
  have hret := Bd.returns
  have hlk := BodyLoose.notSynchronized Bd
  have X0 : Stand pP lL eE ({ frames := 1, cells := 1, slots := 0, locals := 40 } : Room) sS mM #[(.ref dc), (.int (0 : Int32)), (.ref mo)] below meth cC s₁ [] 0 0 := Stand.of_body Bd
  have e0 : s₁.heap = h0 := by rw [← hh, Bd.state]; rfl
  have N0 := Fr.nil n0
  show own_Go pP eE below sS (QA Z h0 n0) 1 0 (s₁.setTop (entryFrame mM #[(.ref dc), (.int (0 : Int32)), (.ref mo)] 4))
  refine own_st (A := s₁.setTop (mkF mM 0 #[.val (.ref dc), .val (.int (0 : Int32)), .val (.ref mo), .unset] [])) (fun tT_ kK_ => castTop (ef_rmC3 mM dc kd mo) kK_) ?_
  have Kp := Keep.refl h0 []
  refine own_st (A := s₁.setTop (mkF mM 1 #[.val (.ref dc), .val (.int (0 : Int32)), .val (.ref mo), .unset] [(.ref mo)])) (fun tT_ kK_ => XS.aloadN X0.here hx rfl (hb hby d10_0) rfl rfl kK_) ?_
  obtain ⟨T7, X7, e7, st7⟩ := own_ldcM X0 hx hZ hown (hw _ (List.mem_of_getElem? (i := 67) rfl)) e0 M_oa (g := (mkF mM 1 #[.val (.ref dc), .val (.int (0 : Int32)), .val (.ref mo), .unset] [(.ref mo)])) rfl (hb hby d10_1)
  refine own_st (A := T7.setTop (mkF mM 3 #[.val (.ref dc), .val (.int (0 : Int32)), .val (.ref mo), .unset] [(.ref mo), (.ref mo)])) (fun tT_ kK_ => st7 tT_ kK_) ?_
  refine own_st (A := T7.setTop (mkF mM 6 #[.val (.ref dc), .val (.int (0 : Int32)), .val (.ref mo), .unset] [])) (fun tT_ kK_ => Jvm.RoadKit.acmp X7 hx rfl (x := (.ref mo)) (y := (.ref mo)) rfl rfl (pc0 := 3) (pc' := 6) (same := true) rfl (hb hby d10_3) rfl (decide_eq_true rfl) (by decide) (by decide) kK_) ?_
  refine own_st (A := T7.setTop (mkF mM 7 #[.val (.ref dc), .val (.int (0 : Int32)), .val (.ref mo), .unset] [(.int (0 : Int32))])) (fun tT_ kK_ => XS.iloadN X7.here hx rfl (hb hby d10_6) rfl kK_) ?_
  obtain ⟨T8, h8, k8, X8, e8, E8, A8, O8', st8⟩ := newR X7 hx hZ hown (hw _ (List.mem_of_getElem? (i := 68) rfl)) (hw _ (List.mem_of_getElem? (i := 69) rfl)) e7 (g := (mkF mM 7 #[.val (.ref dc), .val (.int (0 : Int32)), .val (.ref mo), .unset] [(.int (0 : Int32))])) rfl (hb hby d10_7) rfl (by decide) (cap := 0) (by decide) (by decide) (by decide) (by decide)
  obtain ⟨b, gb⟩ : ∃ z, z = h0.size := ⟨_, rfl⟩
  rw [← gb] at A8 st8
  have g_b : n0 ≤ b := Nat.le_trans Zn (Nat.le_of_eq gb.symm)
  have b_b : h0.size ≤ b := Nat.le_trans Kp.1 (Nat.le_of_eq gb.symm)
  have O := O.ext E8
  have Zn := Nat.le_trans Zn E8.1
  have Kp := Kp.ext E8
  have V_b := Arv.new A8 (by decide)
  refine own_st (A := T8.setTop (mkF mM 10 #[.val (.ref dc), .val (.int (0 : Int32)), .val (.ref mo), .unset] [(.ref b)])) (fun tT_ kK_ => st8 tT_ kK_) ?_
  refine own_st (A := T8.setTop (mkF mM 24 #[.val (.ref dc), .val (.int (0 : Int32)), .val (.ref mo), .unset] [(.ref b)])) (fun tT_ kK_ => XS.goto X8.here hx rfl (pc0 := 10) (pc' := 24) rfl (hb hby d10_10) (by decide) (by decide) kK_) ?_
  refine own_st (A := T8.setTop (mkF mM 25 #[.val (.ref dc), .val (.int (0 : Int32)), .val (.ref mo), .val (.ref b)] [])) (fun tT_ kK_ => XS.astoreN X8.here hx rfl (hb hby d10_24) rfl rfl (l' := #[.val (.ref dc), .val (.int (0 : Int32)), .val (.ref mo), .val (.ref b)]) rfl kK_) ?_
  refine own_st (A := T8.setTop (mkF mM 26 #[.val (.ref dc), .val (.int (0 : Int32)), .val (.ref mo), .val (.ref b)] [(.ref dc)])) (fun tT_ kK_ => XS.aloadN X8.here hx rfl (hb hby d10_25) rfl rfl kK_) ?_
  refine own_st (A := T8.setTop (mkF mM 27 #[.val (.ref dc), .val (.int (0 : Int32)), .val (.ref mo), .val (.ref b)] [(.int (0 : Int32)), (.ref dc)])) (fun tT_ kK_ => XS.iconst X8.here hx rfl (hb hby d10_26) kK_) ?_
  refine own_st (A := T8.setTop (mkF mM 28 #[.val (.ref dc), .val (.int (0 : Int32)), .val (.ref mo), .val (.ref b)] [(.ref b), (.int (0 : Int32)), (.ref dc)])) (fun tT_ kK_ => XS.aloadN X8.here hx rfl (hb hby d10_27) rfl rfl kK_) ?_
  refine own_st (A := T8.setTop (mkF mM 29 #[.val (.ref dc), .val (.int (0 : Int32)), .val (.ref mo), .val (.ref b)] [(.int (0 : Int32)), (.ref b), (.int (0 : Int32)), (.ref dc)])) (fun tT_ kK_ => XS.iconst X8.here hx rfl (hb hby d10_28) kK_) ?_
  refine own_st (A := T8.setTop (mkF mM 30 #[.val (.ref dc), .val (.int (0 : Int32)), .val (.ref mo), .val (.ref b)] [(.ref dc), (.int (0 : Int32)), (.ref b), (.int (0 : Int32)), (.ref dc)])) (fun tT_ kK_ => XS.aloadN X8.here hx rfl (hb hby d10_29) rfl rfl kK_) ?_
  obtain ⟨cl, Ar, -, S_, Nn_, -, -⟩ := V_dc.ext O.2
  refine own_st (A := T8.setTop (mkF mM 31 #[.val (.ref dc), .val (.int (0 : Int32)), .val (.ref mo), .val (.ref b)] [(.int (0 : Int32)), (.int (0 : Int32)), (.ref b), (.int (0 : Int32)), (.ref dc)])) (fun tT_ kK_ => X8.arraylength hx (by rw [e8]; exact Ar.1) (State.isArrayOf_alike hZ.alike Ar.2.1) (g := (mkF mM 30 #[.val (.ref dc), .val (.int (0 : Int32)), .val (.ref mo), .val (.ref b)] [(.ref dc), (.int (0 : Int32)), (.ref b), (.int (0 : Int32)), (.ref dc)])) rfl rfl (hb hby d10_30) tT_ (by rw [len_of S_ Nn_]; exact kK_)) ?_
  refine own_st (A := T8.setTop (mkF mM 32 #[.val (.ref dc), .val (.int (0 : Int32)), .val (.ref mo), .val (.ref b)] [(.int (0 : Int32)), (.int (0 : Int32)), (.int (0 : Int32)), (.ref b), (.int (0 : Int32)), (.ref dc)])) (fun tT_ kK_ => XS.iloadN X8.here hx rfl (hb hby d10_31) rfl kK_) ?_
  obtain ⟨_, _, ⟨T9, L9, k9, n9⟩, -, X9, ⟨Lc9, hQ9, l9, y9, z9⟩, st9⟩ := Jvm.LawKit.callS X8 hx (y := (⟨"java/lang/Math", "min", "(II)I"⟩ : MethodName)) hown (mvT hZ (hw _ (List.mem_of_getElem? (i := 70) rfl))) (mvT hZ (hw _ (List.mem_of_getElem? (i := 71) rfl))) (mvT hZ (hw _ (List.mem_of_getElem? (i := 3) rfl))) (mvT hZ (hw _ (List.mem_of_getElem? (i := 72) rfl))) (by decide) (backOf (W := 4) (rmMin lL Z a0 hw []  h8 n0 ) hZ (hw _ (List.mem_of_getElem? (i := 72) rfl)) (hw _ (List.mem_of_getElem? (i := 3) rfl)) (by decide) (by decide)) (g := (mkF mM 32 #[.val (.ref dc), .val (.int (0 : Int32)), .val (.ref mo), .val (.ref b)] [(.int (0 : Int32)), (.int (0 : Int32)), (.int (0 : Int32)), (.ref b), (.int (0 : Int32)), (.ref dc)])) rfl (by rw [hml]; rfl) (argsL := [(.int (0 : Int32)), (.int (0 : Int32))]) (rest := [(.int (0 : Int32)), (.ref b), (.int (0 : Int32)), (.ref dc)]) (lenOf pd__28II_29I rfl) rfl (by show 2 * 0 + _ ≤ _; exact Nat.le_of_eq rfl) (hb hby d10_32) (fun _ _ => ⟨rfl, e8, (by decide : 1 + 0 ≤ _), (by decide : 0 + 0 ≤ _)⟩)
  dsimp only [Pt.U, Pt.locs, Pt.cells, Pt.slots] at X9 l9 y9 z9 st9 hQ9
  subst l9 y9 z9
  obtain ⟨rfl, N9q, e9⟩ := hQ9
  have N9 := Fr.app N0 N9q
  refine own_st (A := T9.setTop (mkF mM 35 #[.val (.ref dc), .val (.int (0 : Int32)), .val (.ref mo), .val (.ref b)] [(.int (0 : Int32)), (.int (0 : Int32)), (.ref b), (.int (0 : Int32)), (.ref dc)])) (fun tT_ kK_ => st9 tT_ kK_) ?_
  obtain ⟨T10, h10, L10, X10, e10, N10, K10, V10, st10⟩ := cpA X9 hx hZ hown (hw _ (List.mem_of_getElem? (i := 73) rfl)) (hw _ (List.mem_of_getElem? (i := 76) rfl)) (hw _ (List.mem_of_getElem? (i := 74) rfl)) (hw _ (List.mem_of_getElem? (i := 75) rfl)) e9 (us := []) (V_dc.ext O.2) V_b (Or.inr ⟨rfl, rfl, trivial⟩) (by decide) (by decide) (by decide) (by decide) (by decide) rfl (by decide) N9 g_b (g := (mkF mM 35 #[.val (.ref dc), .val (.int (0 : Int32)), .val (.ref mo), .val (.ref b)] [(.int (0 : Int32)), (.int (0 : Int32)), (.ref b), (.int (0 : Int32)), (.ref dc)])) rfl (by rw [hml]; rfl) rfl (hb hby d10_35) (by decide) (W := 0) (by show 2 * 0 + _ ≤ _; exact Nat.le_of_eq rfl) (by decide)
  have O := O.keep K10 (allS g_b all0)
  have Zn := Nat.le_trans Zn K10.1
  have Kp := Kp.trans K10 (allS (Or.inr b_b) all0)
  have V_b := V10
  refine own_st (A := T10.setTop (mkF mM 38 #[.val (.ref dc), .val (.int (0 : Int32)), .val (.ref mo), .val (.ref b)] [])) (fun tT_ kK_ => st10 tT_ kK_) ?_
  refine own_st (A := T10.setTop (mkF mM 39 #[.val (.ref dc), .val (.int (0 : Int32)), .val (.ref mo), .val (.ref b)] [(.ref b)])) (fun tT_ kK_ => XS.aloadN X10.here hx rfl (hb hby d10_38) rfl rfl kK_) ?_
  exact own_retA X10 hx hlk hret rfl rfl (hb hby d10_39) (by rw [e10]; exact ⟨b, _, rfl, N10, own_ext_of_keep Kp, V_b⟩) (by decide) (by decide)
theorem d9_0 : decode jdk_65_method_119_code 0 = .ok (.aload_n 0, 1) := by decide +kernel
theorem d9_1 : decode jdk_65_method_119_code 1 = .ok (.iload_n 1, 1) := by decide +kernel
theorem d9_2 : decode jdk_65_method_119_code 2 = .ok (.aload_n 0, 1) := by decide +kernel
theorem d9_3 : decode jdk_65_method_119_code 3 = .ok (.invokevirtual 86, 3) := by decide +kernel
theorem d9_6 : decode jdk_65_method_119_code 6 = .ok (.invokestatic 300, 3) := by decide +kernel
theorem pd__28_5bLjava_2flang_2fObject_3bILjava_2flang_2fClass_3b_29_5bLjava_2flang_2fObject_3b : parseMethodDescriptor "([Ljava/lang/Object;ILjava/lang/Class;)[Ljava/lang/Object;" = some ⟨[(.array (.object "java/lang/Object")), .int, (.object "java/lang/Class")], some (.array (.object "java/lang/Object"))⟩ := by decide +kernel
theorem d9_9 : decode jdk_65_method_119_code 9 = .ok (.areturn, 1) := by decide +kernel
theorem ef_rmC2 (mM : MethodId) (dc : Addr) (kd : ClassId) (mo : Addr) : entryFrame mM #[(.ref dc), (.int (0 : Int32))] 2 = mkF mM 0 #[.val (.ref dc), .val (.int (0 : Int32))] [] := by first | (simp [entryFrame, mkF, argsToLocals, Value.category]; done) | rfl
set_option maxRecDepth 65536 in
set_option maxHeartbeats 40000000 in
theorem rmC2 (lL : Launch) (Z : State) (a0 : Array Value) (hw : ∀ d ∈ tables_1, d.before a0 Z = true) (ws : List Jvm.Cond) (dc : Addr) (kd : ClassId) (mo : Addr) (h0 : Heap) (n0 : Nat) (O : Old Z n0 h0) (Zn : n0 ≤ h0.size) (V_dc : Arv Z Z.heap dc kd (.object "java/lang/Object") 0 [] .null) (E_dc : Exa Z Z.heap dc "[Ljava/lang/Object;") (M_oa : own_Mr Z "[Ljava/lang/Object;" mo) :
    MetFree lL (⟨"java/util/Arrays", "copyOf", "([Ljava/lang/Object;I)[Ljava/lang/Object;"⟩ : MethodName) (head1 (Jvm.Cond.code (⟨"java/util/Arrays", "copyOf", "([Ljava/lang/Object;I)[Ljava/lang/Object;"⟩ : MethodName) jdk_65_method_119_code 2 (some (.array (.object "java/lang/Object"))) :: ws) ({ frames := 2, cells := 1, slots := 0, locals := 55 } : Room)) (fun as_ uU_ => as_ = #[(.ref dc), (.int (0 : Int32))] ∧ Z.Warmed39 uU_.vm ∧ uU_.heap = h0) (fun _ _ _ _ _ => True) (fun _ uU_ oO_ uE_ => ∃ vV_ lL_, oO_ = .returned vV_ ∧ QA Z h0 n0 vV_ uE_.heap lL_ ∧ FrameEnd uU_ oO_ uE_ lL_ ({ frames := 2, cells := 1, slots := 0, locals := 55 } : Room).cells ({ frames := 2, cells := 1, slots := 0, locals := 55 } : Room).slots) := by
  refine MetFree.of_bodySF (plainFor_of_name pn_java_2futil_2fArrays) hisR ?_
  intro pP eE sS mM args below meth cC s₁ Bd hml0 hP hK
  obtain ⟨rfl, hZ, hh⟩ := hP
  have hx := Bd.exec
  have hby := Bd.bytes
  have hml : cC.maxLocals = 2 := hml0
  have hown : sS.vm.findClass "java/util/Arrays" = some mM.cls := findClass_of_methodNamed Bd.named
  have hnm := (name_of_methodNamed Bd.named Bd.method).1
  have hret := Bd.returns
  have hlk := BodyLoose.notSynchronized Bd
  have X0 : Stand pP lL eE ({ frames := 2, cells := 1, slots := 0, locals := 55 } : Room) sS mM #[(.ref dc), (.int (0 : Int32))] below meth cC s₁ [] 0 0 := Stand.of_body Bd
  have e0 : s₁.heap = h0 := by rw [← hh, Bd.state]; rfl
  have N0 := Fr.nil n0
  show own_Go pP eE below sS (QA Z h0 n0) 1 0 (s₁.setTop (entryFrame mM #[(.ref dc), (.int (0 : Int32))] 2))
  refine own_st (A := s₁.setTop (mkF mM 0 #[.val (.ref dc), .val (.int (0 : Int32))] [])) (fun tT_ kK_ => castTop (ef_rmC2 mM dc kd mo) kK_) ?_
  refine own_st (A := s₁.setTop (mkF mM 1 #[.val (.ref dc), .val (.int (0 : Int32))] [(.ref dc)])) (fun tT_ kK_ => XS.aloadN X0.here hx rfl (hb hby d9_0) rfl rfl kK_) ?_
  refine own_st (A := s₁.setTop (mkF mM 2 #[.val (.ref dc), .val (.int (0 : Int32))] [(.int (0 : Int32)), (.ref dc)])) (fun tT_ kK_ => XS.iloadN X0.here hx rfl (hb hby d9_1) rfl kK_) ?_
  refine own_st (A := s₁.setTop (mkF mM 3 #[.val (.ref dc), .val (.int (0 : Int32))] [(.ref dc), (.int (0 : Int32)), (.ref dc)])) (fun tT_ kK_ => XS.aloadN X0.here hx rfl (hb hby d9_2) rfl rfl kK_) ?_
  obtain ⟨T11, X11, e11, st11⟩ := own_gcls X0 hx hZ hown (hw _ (List.mem_of_getElem? (i := 58) rfl)) (hw _ (List.mem_of_getElem? (i := 59) rfl)) (hw _ (List.mem_of_getElem? (i := 61) rfl)) (hw _ (List.mem_of_getElem? (i := 60) rfl)) (hw _ (List.mem_of_getElem? (i := 62) rfl)) e0 (E_dc.ext O.2) M_oa (g := (mkF mM 3 #[.val (.ref dc), .val (.int (0 : Int32))] [(.ref dc), (.int (0 : Int32)), (.ref dc)])) rfl (by rw [hml]; rfl) rfl (hb hby d9_3) (by decide) (W := 2) (by show 2 * 0 + _ ≤ _; exact Nat.le_of_eq rfl) (by decide)
  refine own_st (A := T11.setTop (mkF mM 6 #[.val (.ref dc), .val (.int (0 : Int32))] [(.ref mo), (.int (0 : Int32)), (.ref dc)])) (fun tT_ kK_ => st11 tT_ kK_) ?_
  obtain ⟨_, _, ⟨T12, L12, k12, n12⟩, -, X12, ⟨Lc12, hQ12, l12, y12, z12⟩, st12⟩ := Jvm.LawKit.callS X11 hx (y := (⟨"java/util/Arrays", "copyOf", "([Ljava/lang/Object;ILjava/lang/Class;)[Ljava/lang/Object;"⟩ : MethodName)) hown (mvT hZ (hw _ (List.mem_of_getElem? (i := 64) rfl))) (mvT hZ (hw _ (List.mem_of_getElem? (i := 65) rfl))) (mvT hZ (hw _ (List.mem_of_getElem? (i := 56) rfl))) (mvT hZ (hw _ (List.mem_of_getElem? (i := 66) rfl))) (by decide) (backOf (W := 0) (rmC3 lL Z a0 hw [] dc kd mo h0 n0 O Zn V_dc E_dc M_oa) hZ (hw _ (List.mem_of_getElem? (i := 66) rfl)) (hw _ (List.mem_of_getElem? (i := 56) rfl)) (by decide) (by decide)) (g := (mkF mM 6 #[.val (.ref dc), .val (.int (0 : Int32))] [(.ref mo), (.int (0 : Int32)), (.ref dc)])) rfl (by rw [hml]; rfl) (argsL := [(.ref dc), (.int (0 : Int32)), (.ref mo)]) (rest := []) (lenOf pd__28_5bLjava_2flang_2fObject_3bILjava_2flang_2fClass_3b_29_5bLjava_2flang_2fObject_3b rfl) rfl (by show 2 * 0 + _ ≤ _; exact Nat.le_of_eq rfl) (hb hby d9_6) (fun _ _ => ⟨rfl, e11, (by decide : 0 + 1 ≤ _), (by decide : 0 + 0 ≤ _)⟩)
  dsimp only [Pt.U, Pt.locs, Pt.cells, Pt.slots] at X12 l12 y12 z12 st12 hQ12
  subst l12 y12 z12
  obtain ⟨b12, k12', rfl, N12q, R12⟩ := hQ12
  have N12 := Fr.app N0 N12q
  have e12 : T12.heap = T12.heap := rfl
  refine own_st (A := T12.setTop (mkF mM 9 #[.val (.ref dc), .val (.int (0 : Int32))] [(.ref b12)])) (fun tT_ kK_ => st12 tT_ kK_) ?_
  exact own_retA X12 hx hlk hret rfl rfl (hb hby d9_9) ⟨_, _, rfl, N12, R12⟩ (by decide) (by decide)
theorem d8_0 : decode jdk_38_method_16_code 0 = .ok (.aload_n 0, 1) := by decide +kernel
theorem d8_1 : decode jdk_38_method_16_code 1 = .ok (.getfield 9, 3) := by decide +kernel
theorem d8_4 : decode jdk_38_method_16_code 4 = .ok (.aload_n 0, 1) := by decide +kernel
theorem d8_5 : decode jdk_38_method_16_code 5 = .ok (.getfield 48, 3) := by decide +kernel
theorem d8_8 : decode jdk_38_method_16_code 8 = .ok (.invokestatic 66, 3) := by decide +kernel
theorem pd__28_5bLjava_2flang_2fObject_3bI_29_5bLjava_2flang_2fObject_3b : parseMethodDescriptor "([Ljava/lang/Object;I)[Ljava/lang/Object;" = some ⟨[(.array (.object "java/lang/Object")), .int], some (.array (.object "java/lang/Object"))⟩ := by decide +kernel
theorem d8_11 : decode jdk_38_method_16_code 11 = .ok (.areturn, 1) := by decide +kernel
theorem ef_rmTA (mM : MethodId) (a : Addr) (dc : Addr) (kd : ClassId) (mo : Addr) : entryFrame mM #[(.ref a)] 1 = mkF mM 0 #[.val (.ref a)] [] := by first | (simp [entryFrame, mkF, argsToLocals, Value.category]; done) | rfl
set_option maxRecDepth 65536 in
set_option maxHeartbeats 40000000 in
theorem rmTA (lL : Launch) (Z : State) (a0 : Array Value) (hw : ∀ d ∈ tables_1, d.before a0 Z = true) (ws : List Jvm.Cond) (a : Addr) (dc : Addr) (kd : ClassId) (mo : Addr) (h0 : Heap) (n0 : Nat) (O : Old Z n0 h0) (Zn : n0 ≤ h0.size) (V_dc : Arv Z Z.heap dc kd (.object "java/lang/Object") 0 [] .null) (E_dc : Exa Z Z.heap dc "[Ljava/lang/Object;") (M_oa : own_Mr Z "[Ljava/lang/Object;" mo) (ob : Lst Z h0 a (.ref dc)) :
    MetFree lL (⟨"java/util/ArrayList", "toArray", "()[Ljava/lang/Object;"⟩ : MethodName) (head1 (Jvm.Cond.code (⟨"java/util/ArrayList", "toArray", "()[Ljava/lang/Object;"⟩ : MethodName) jdk_38_method_16_code 1 (some (.array (.object "java/lang/Object"))) :: ws) ({ frames := 3, cells := 1, slots := 0, locals := 68 } : Room)) (fun as_ uU_ => as_ = #[(.ref a)] ∧ Z.Warmed39 uU_.vm ∧ uU_.heap = h0) (fun _ _ _ _ _ => True) (fun _ uU_ oO_ uE_ => ∃ vV_ lL_, oO_ = .returned vV_ ∧ QA Z h0 n0 vV_ uE_.heap lL_ ∧ FrameEnd uU_ oO_ uE_ lL_ ({ frames := 3, cells := 1, slots := 0, locals := 68 } : Room).cells ({ frames := 3, cells := 1, slots := 0, locals := 68 } : Room).slots) := by
  refine MetFree.of_bodySF (plainFor_of_name pn_java_2futil_2fArrayList) hisR ?_
  intro pP eE sS mM args below meth cC s₁ Bd hml0 hP hK
  obtain ⟨rfl, hZ, hh⟩ := hP
  have hx := Bd.exec
  have hby := Bd.bytes
  have hml : cC.maxLocals = 1 := hml0
  have hown : sS.vm.findClass "java/util/ArrayList" = some mM.cls := findClass_of_methodNamed Bd.named
  have hnm := (name_of_methodNamed Bd.named Bd.method).1
  have hret := Bd.returns
  have hlk := BodyLoose.notSynchronized Bd
  have X0 : Stand pP lL eE ({ frames := 3, cells := 1, slots := 0, locals := 68 } : Room) sS mM #[(.ref a)] below meth cC s₁ [] 0 0 := Stand.of_body Bd
  have e0 : s₁.heap = h0 := by rw [← hh, Bd.state]; rfl
  have N0 := Fr.nil n0
  show own_Go pP eE below sS (QA Z h0 n0) 1 0 (s₁.setTop (entryFrame mM #[(.ref a)] 1))
  refine own_st (A := s₁.setTop (mkF mM 0 #[.val (.ref a)] [])) (fun tT_ kK_ => castTop (ef_rmTA mM a dc kd mo) kK_) ?_
  refine own_st (A := s₁.setTop (mkF mM 1 #[.val (.ref a)] [(.ref a)])) (fun tT_ kK_ => XS.aloadN X0.here hx rfl (hb hby d8_0) rfl rfl kK_) ?_
  obtain ⟨T13, X13, e13, st13⟩ := getF X0 hx hZ hown (host := "") (Or.inl (hw _ (List.mem_of_getElem? (i := 33) rfl))) Via.refl e0 ob.2.2.1 (g := (mkF mM 1 #[.val (.ref a)] [(.ref a)])) rfl rfl (hb hby d8_1)
  refine own_st (A := T13.setTop (mkF mM 4 #[.val (.ref a)] [(.ref dc)])) (fun tT_ kK_ => st13 tT_ kK_) ?_
  refine own_st (A := T13.setTop (mkF mM 5 #[.val (.ref a)] [(.ref a), (.ref dc)])) (fun tT_ kK_ => XS.aloadN X13.here hx rfl (hb hby d8_4) rfl rfl kK_) ?_
  obtain ⟨T14, X14, e14, st14⟩ := getF X13 hx hZ hown (host := "") (Or.inl (hw _ (List.mem_of_getElem? (i := 52) rfl))) Via.refl e13 ob.2.2.2 (g := (mkF mM 5 #[.val (.ref a)] [(.ref a), (.ref dc)])) rfl rfl (hb hby d8_5)
  refine own_st (A := T14.setTop (mkF mM 8 #[.val (.ref a)] [(.int (0 : Int32)), (.ref dc)])) (fun tT_ kK_ => st14 tT_ kK_) ?_
  obtain ⟨_, _, ⟨T15, L15, k15, n15⟩, -, X15, ⟨Lc15, hQ15, l15, y15, z15⟩, st15⟩ := Jvm.LawKit.callS X14 hx (y := (⟨"java/util/Arrays", "copyOf", "([Ljava/lang/Object;I)[Ljava/lang/Object;"⟩ : MethodName)) hown (mvT hZ (hw _ (List.mem_of_getElem? (i := 54) rfl))) (mvT hZ (hw _ (List.mem_of_getElem? (i := 55) rfl))) (mvT hZ (hw _ (List.mem_of_getElem? (i := 56) rfl))) (mvT hZ (hw _ (List.mem_of_getElem? (i := 57) rfl))) (by decide) (backOf (W := 0) (rmC2 lL Z a0 hw [] dc kd mo h0 n0 O Zn V_dc E_dc M_oa) hZ (hw _ (List.mem_of_getElem? (i := 57) rfl)) (hw _ (List.mem_of_getElem? (i := 56) rfl)) (by decide) (by decide)) (g := (mkF mM 8 #[.val (.ref a)] [(.int (0 : Int32)), (.ref dc)])) rfl (by rw [hml]; rfl) (argsL := [(.ref dc), (.int (0 : Int32))]) (rest := []) (lenOf pd__28_5bLjava_2flang_2fObject_3bI_29_5bLjava_2flang_2fObject_3b rfl) rfl (by show 2 * 0 + _ ≤ _; exact Nat.le_of_eq rfl) (hb hby d8_8) (fun _ _ => ⟨rfl, e14, (by decide : 0 + 1 ≤ _), (by decide : 0 + 0 ≤ _)⟩)
  dsimp only [Pt.U, Pt.locs, Pt.cells, Pt.slots] at X15 l15 y15 z15 st15 hQ15
  subst l15 y15 z15
  obtain ⟨b15, k15', rfl, N15q, R15⟩ := hQ15
  have N15 := Fr.app N0 N15q
  have e15 : T15.heap = T15.heap := rfl
  refine own_st (A := T15.setTop (mkF mM 11 #[.val (.ref a)] [(.ref b15)])) (fun tT_ kK_ => st15 tT_ kK_) ?_
  exact own_retA X15 hx hlk hret rfl rfl (hb hby d8_11) ⟨_, _, rfl, N15, R15⟩ (by decide) (by decide)
theorem d7_0 : decode jdk_38_method_3_code 0 = .ok (.aload_n 0, 1) := by decide +kernel
theorem d7_1 : decode jdk_38_method_3_code 1 = .ok (.invokespecial 1, 3) := by decide +kernel
theorem d7_4 : decode jdk_38_method_3_code 4 = .ok (.aload_n 1, 1) := by decide +kernel
theorem d7_5 : decode jdk_38_method_3_code 5 = .ok (.invokeinterface 42 1, 5) := by decide +kernel
theorem pd__28_29_5bLjava_2flang_2fObject_3b : parseMethodDescriptor "()[Ljava/lang/Object;" = some ⟨[], some (.array (.object "java/lang/Object"))⟩ := by decide +kernel
theorem d7_10 : decode jdk_38_method_3_code 10 = .ok (.astore_n 2, 1) := by decide +kernel
theorem d7_11 : decode jdk_38_method_3_code 11 = .ok (.aload_n 0, 1) := by decide +kernel
theorem d7_12 : decode jdk_38_method_3_code 12 = .ok (.aload_n 2, 1) := by decide +kernel
theorem d7_13 : decode jdk_38_method_3_code 13 = .ok (.arraylength, 1) := by decide +kernel
theorem d7_14 : decode jdk_38_method_3_code 14 = .ok (.dup_x1, 1) := by decide +kernel
theorem d7_15 : decode jdk_38_method_3_code 15 = .ok (.putfield 48, 3) := by decide +kernel
theorem d7_18 : decode jdk_38_method_3_code 18 = .ok (.ifCond .eq 39, 3) := by decide +kernel
theorem d7_57 : decode jdk_38_method_3_code 57 = .ok (.aload_n 0, 1) := by decide +kernel
theorem d7_58 : decode jdk_38_method_3_code 58 = .ok (.getstatic 15, 3) := by decide +kernel
theorem d7_61 : decode jdk_38_method_3_code 61 = .ok (.putfield 9, 3) := by decide +kernel
theorem d7_64 : decode jdk_38_method_3_code 64 = .ok (.return_, 1) := by decide +kernel
theorem ef_rmAC1 (mM : MethodId) (a : Addr) (l' : Addr) (dc : Addr) (kd : ClassId) (mo : Addr) (ee : Addr) : entryFrame mM #[(.ref a), (.ref l')] 3 = mkF mM 0 #[.val (.ref a), .val (.ref l'), .unset] [] := by first | (simp [entryFrame, mkF, argsToLocals, Value.category]; done) | rfl
set_option maxRecDepth 65536 in
set_option maxHeartbeats 40000000 in
theorem rmAC1 (lL : Launch) (Z : State) (a0 : Array Value) (hw : ∀ d ∈ tables_1, d.before a0 Z = true) (ws : List Jvm.Cond) (a : Addr) (l' : Addr) (dc : Addr) (kd : ClassId) (mo : Addr) (ee : Addr) (h0 : Heap) (n0 : Nat) (g_a : n0 ≤ a) (E_a : Exa Z h0 a "java/util/ArrayList") (F_a_modCount : Fld Z h0 a "java/util/AbstractList" "modCount" "I" (.int (0 : Int32))) (F_a_elementData : Fld Z h0 a "java/util/ArrayList" "elementData" "[Ljava/lang/Object;" .null) (F_a_size : Fld Z h0 a "java/util/ArrayList" "size" "I" (.int (0 : Int32))) (O : Old Z n0 h0) (Zn : n0 ≤ h0.size) (V_dc : Arv Z Z.heap dc kd (.object "java/lang/Object") 0 [] .null) (E_dc : Exa Z Z.heap dc "[Ljava/lang/Object;") (M_oa : own_Mr Z "[Ljava/lang/Object;" mo) (ob : Lst Z h0 l' (.ref dc)) (nel : l' ≠ a) (S_ee : Sta Z Z.heap "java/util/ArrayList" "EMPTY_ELEMENTDATA" "[Ljava/lang/Object;" (.ref ee)) :
    MetFree lL (⟨"java/util/ArrayList", "<init>", "(Ljava/util/Collection;)V"⟩ : MethodName) (head1 (Jvm.Cond.code (⟨"java/util/ArrayList", "<init>", "(Ljava/util/Collection;)V"⟩ : MethodName) jdk_38_method_3_code 3 none :: ws) ({ frames := 4, cells := 1, slots := 0, locals := 80 } : Room)) (fun as_ uU_ => as_ = #[(.ref a), (.ref l')] ∧ Z.Warmed39 uU_.vm ∧ uU_.heap = h0) (fun _ _ _ _ _ => True) (fun _ uU_ oO_ uE_ => ∃ vV_ lL_, oO_ = .returned vV_ ∧ QK Z a "java/util/ArrayList" h0 n0 vV_ uE_.heap lL_ ∧ FrameEnd uU_ oO_ uE_ lL_ ({ frames := 4, cells := 1, slots := 0, locals := 80 } : Room).cells ({ frames := 4, cells := 1, slots := 0, locals := 80 } : Room).slots) := by
  refine MetFree.of_bodySF (plainFor_of_name pn_java_2futil_2fArrayList) hisR ?_
  intro pP eE sS mM args below meth cC s₁ Bd hml0 hP hK
  obtain ⟨rfl, hZ, hh⟩ := hP
  have hx := Bd.exec
  have hby := Bd.bytes
  have hml : cC.maxLocals = 3 := hml0
  have hown : sS.vm.findClass "java/util/ArrayList" = some mM.cls := findClass_of_methodNamed Bd.named
  have hnm := (name_of_methodNamed Bd.named Bd.method).1
  have hret := Bd.returns
  have hlk := BodyLoose.notSynchronized Bd
  have X0 : Stand pP lL eE ({ frames := 4, cells := 1, slots := 0, locals := 80 } : Room) sS mM #[(.ref a), (.ref l')] below meth cC s₁ [] 0 0 := Stand.of_body Bd
  have e0 : s₁.heap = h0 := by rw [← hh, Bd.state]; rfl
  have N0 := Fr.nil n0
  show own_Go pP eE below sS (QK Z a "java/util/ArrayList" h0 n0) 1 0 (s₁.setTop (entryFrame mM #[(.ref a), (.ref l')] 3))
  refine own_st (A := s₁.setTop (mkF mM 0 #[.val (.ref a), .val (.ref l'), .unset] [])) (fun tT_ kK_ => castTop (ef_rmAC1 mM a l' dc kd mo ee) kK_) ?_
  have Kp := Keep.refl h0 [a]
  refine own_st (A := s₁.setTop (mkF mM 1 #[.val (.ref a), .val (.ref l'), .unset] [(.ref a)])) (fun tT_ kK_ => XS.aloadN X0.here hx rfl (hb hby d7_0) rfl rfl kK_) ?_
  obtain ⟨_, _, ⟨T16, L16, k16, n16⟩, -, X16, ⟨Lc16, hQ16, l16, y16, z16⟩, st16⟩ := X0.specialBack hx (y := (⟨"java/util/AbstractList", "<init>", "()V"⟩ : MethodName)) rfl hown (mvT hZ (hw _ (List.mem_of_getElem? (i := 15) rfl))) (mvT hZ (hw _ (List.mem_of_getElem? (i := 16) rfl))) (mvT hZ (hw _ (List.mem_of_getElem? (i := 20) rfl))) (by decide) (backOf (W := 0) (rmAB lL Z a0 hw [] a h0 n0 g_a E_a F_a_modCount F_a_elementData F_a_size) hZ (hw _ (List.mem_of_getElem? (i := 20) rfl)) (hw _ (List.mem_of_getElem? (i := 19) rfl)) (by decide) (by decide)) (g := (mkF mM 1 #[.val (.ref a), .val (.ref l'), .unset] [(.ref a)])) rfl (by rw [hml]; rfl) (Steps.refl _) (a := a) (argsL := []) (rest := []) (lenOf pd__28_29V rfl) rfl (by show 2 * 0 + _ ≤ _; exact Nat.le_of_eq rfl) (hb hby d7_1) (fun _ _ => ⟨rfl, e0, (by decide : 0 + 0 ≤ _), (by decide : 0 + 0 ≤ _)⟩)
  dsimp only [Pt.U, Pt.locs, Pt.cells, Pt.slots] at X16 l16 y16 z16 st16 hQ16
  subst l16 y16 z16
  obtain ⟨rfl, N16q, K16, ob16⟩ := hQ16
  have N16 := Fr.app N0 N16q
  have e16 : T16.heap = T16.heap := rfl
  refine own_st (A := T16.setTop (mkF mM 4 #[.val (.ref a), .val (.ref l'), .unset] [])) (fun tT_ kK_ => st16.trans kK_) ?_
  have ob := own_Lst_keep ob K16 (ninS nel nin0)
  have E_a := E_a.keep K16
  have O := O.keep K16 (allS g_a all0)
  have Zn := Nat.le_trans Zn K16.1
  have Kp := Kp.trans K16 (allS (Or.inl (List.mem_of_getElem? (i := 0) rfl)) all0)
  obtain ⟨E_a, F_a_modCount, F_a_elementData, F_a_size⟩ := ob16
  refine own_st (A := T16.setTop (mkF mM 5 #[.val (.ref a), .val (.ref l'), .unset] [(.ref l')])) (fun tT_ kK_ => XS.aloadN X16.here hx rfl (hb hby d7_4) rfl rfl kK_) ?_
  obtain ⟨cq17, kq17, q17a, q17b, q17c⟩ := isOf hZ e16 ob.1
  obtain ⟨_, _, ⟨T17, L17, k17, n17⟩, -, X17, ⟨Lc17, hQ17, l17, y17, z17⟩, st17⟩ := X16.interfaceBack hx (xi := (⟨"java/util/Collection", "toArray", "()[Ljava/lang/Object;"⟩ : MethodName)) (y := (⟨"java/util/ArrayList", "toArray", "()[Ljava/lang/Object;"⟩ : MethodName)) hown (mvT hZ (hw _ (List.mem_of_getElem? (i := 43) rfl))) (mvT hZ (hw _ (List.mem_of_getElem? (i := 44) rfl))) (mvT hZ (hw _ (List.mem_of_getElem? (i := 45) rfl))) (mvT hZ (hw _ (List.mem_of_getElem? (i := 46) rfl))) (mvT hZ (hw _ (List.mem_of_getElem? (i := 47) rfl))) (mvT hZ (hw _ (List.mem_of_getElem? (i := 48) rfl))) (mvT hZ (hw _ (List.mem_of_getElem? (i := 49) rfl))) (mvT hZ (hw _ (List.mem_of_getElem? (i := 50) rfl))) (by decide) (backOf (W := 0) (rmTA lL Z a0 hw [] l' dc kd mo T16.heap n0 O Zn V_dc E_dc M_oa ob) hZ (hw _ (List.mem_of_getElem? (i := 51) rfl)) (hw _ (List.mem_of_getElem? (i := 11) rfl)) (by decide) (by decide)) q17a q17b q17c (g := (mkF mM 5 #[.val (.ref a), .val (.ref l'), .unset] [(.ref l')])) rfl (by rw [hml]; rfl) (Steps.refl _) (argsL := []) (rest := []) (lenOf pd__28_29_5bLjava_2flang_2fObject_3b rfl) rfl (by show 2 * 0 + _ ≤ _; exact Nat.le_of_eq rfl) (hb hby d7_5) (fun _ _ => ⟨rfl, e16, (by decide : 0 + 1 ≤ _), (by decide : 0 + 0 ≤ _)⟩)
  dsimp only [Pt.U, Pt.locs, Pt.cells, Pt.slots] at X17 l17 y17 z17 st17 hQ17
  subst l17 y17 z17
  obtain ⟨b17, k17', rfl, N17q, E17, V_b⟩ := hQ17
  have N17 := Fr.app N16 N17q
  have e17 : T17.heap = T17.heap := rfl
  refine own_st (A := T17.setTop (mkF mM 10 #[.val (.ref a), .val (.ref l'), .unset] [(.ref b17)])) (fun tT_ kK_ => st17.trans kK_) ?_
  have F_a_modCount := F_a_modCount.ext E17
  have F_a_elementData := F_a_elementData.ext E17
  have F_a_size := F_a_size.ext E17
  have E_a := E_a.ext E17
  have ob := own_Lst_ext ob E17
  have O := O.ext E17
  have Zn := Nat.le_trans Zn E17.1
  have Kp := Kp.ext E17
  obtain ⟨cl, Ar, -, S_, Nn_, -, -⟩ := V_b
  refine own_st (A := T17.setTop (mkF mM 11 #[.val (.ref a), .val (.ref l'), .val (.ref b17)] [])) (fun tT_ kK_ => XS.astoreN X17.here hx rfl (hb hby d7_10) rfl rfl (l' := #[.val (.ref a), .val (.ref l'), .val (.ref b17)]) rfl kK_) ?_
  refine own_st (A := T17.setTop (mkF mM 12 #[.val (.ref a), .val (.ref l'), .val (.ref b17)] [(.ref a)])) (fun tT_ kK_ => XS.aloadN X17.here hx rfl (hb hby d7_11) rfl rfl kK_) ?_
  refine own_st (A := T17.setTop (mkF mM 13 #[.val (.ref a), .val (.ref l'), .val (.ref b17)] [(.ref b17), (.ref a)])) (fun tT_ kK_ => XS.aloadN X17.here hx rfl (hb hby d7_12) rfl rfl kK_) ?_
  refine own_st (A := T17.setTop (mkF mM 14 #[.val (.ref a), .val (.ref l'), .val (.ref b17)] [(.int (0 : Int32)), (.ref a)])) (fun tT_ kK_ => X17.arraylength hx (by rw [e17]; exact Ar.1) (State.isArrayOf_alike hZ.alike Ar.2.1) (g := (mkF mM 13 #[.val (.ref a), .val (.ref l'), .val (.ref b17)] [(.ref b17), (.ref a)])) rfl rfl (hb hby d7_13) tT_ (by rw [len_of S_ Nn_]; exact kK_)) ?_
  refine own_st (A := T17.setTop (mkF mM 15 #[.val (.ref a), .val (.ref l'), .val (.ref b17)] [(.int (0 : Int32)), (.ref a), (.int (0 : Int32))])) (fun tT_ kK_ => XS.dupX1 X17.here hx rfl (hb hby d7_14) rfl rfl rfl kK_) ?_
  obtain ⟨T18, h18, X18, e18, W18, st18⟩ := putF X17 hx hZ hown (host := "") (Or.inl (hw _ (List.mem_of_getElem? (i := 52) rfl))) Via.refl e17 F_a_size E_a (Or.inl (hw _ (List.mem_of_getElem? (i := 53) rfl))) (hw _ (List.mem_of_getElem? (i := 10) rfl)) (ty := .int) (by decide) rfl rfl (g := (mkF mM 15 #[.val (.ref a), .val (.ref l'), .val (.ref b17)] [(.int (0 : Int32)), (.ref a), (.int (0 : Int32))])) rfl rfl (hb hby d7_15)
  have N18 := Fr.snoc X18 N17 g_a
  have F_a_modCount := F_a_modCount.other W18 (Or.inr (slot_ne (Or.inl (hw _ (List.mem_of_getElem? (i := 31) rfl))) (Or.inl (hw _ (List.mem_of_getElem? (i := 53) rfl))) (by decide) (t := .int) (t' := .int) (by decide) (by decide)))
  have F_a_elementData := F_a_elementData.other W18 (Or.inr (slot_ne (Or.inl (hw _ (List.mem_of_getElem? (i := 34) rfl))) (Or.inl (hw _ (List.mem_of_getElem? (i := 53) rfl))) (by decide) (t := (.array (.object "java/lang/Object"))) (t' := .int) (by decide) (by decide)))
  have F_a_size := F_a_size.same W18
  have E_a := E_a.wr W18
  have O := O.wr W18 g_a
  have Zn := Nat.le_trans Zn (Keep.of_wr W18).1
  have Kp := Kp.wr W18 (Or.inl (List.mem_of_getElem? (i := 0) rfl))
  refine own_st (A := T18.setTop (mkF mM 18 #[.val (.ref a), .val (.ref l'), .val (.ref b17)] [(.int (0 : Int32))])) (fun tT_ kK_ => st18 tT_ kK_) ?_
  refine own_st (A := T18.setTop (mkF mM 57 #[.val (.ref a), .val (.ref l'), .val (.ref b17)] [])) (fun tT_ kK_ => XS.ifYes X18.here hx rfl (pc0 := 18) (pc' := 57) rfl (hb hby d7_18) rfl ((if0 _ _).trans (teq (by decide : ((0 : Int32) = (0 : Int32)))).1) (by decide) (by decide) kK_) ?_
  refine own_st (A := T18.setTop (mkF mM 58 #[.val (.ref a), .val (.ref l'), .val (.ref b17)] [(.ref a)])) (fun tT_ kK_ => XS.aloadN X18.here hx rfl (hb hby d7_57) rfl rfl kK_) ?_
  obtain ⟨T19, X19, e19, st19⟩ := getS2 X18 hx hZ hown (host := "") (Or.inl (hw _ (List.mem_of_getElem? (i := 77) rfl))) Via.refl e18 (S_ee.ext O.2) (g := (mkF mM 58 #[.val (.ref a), .val (.ref l'), .val (.ref b17)] [(.ref a)])) rfl (hb hby d7_58)
  refine own_st (A := T19.setTop (mkF mM 61 #[.val (.ref a), .val (.ref l'), .val (.ref b17)] [(.ref ee), (.ref a)])) (fun tT_ kK_ => st19 tT_ kK_) ?_
  obtain ⟨T20, h20, X20, e20, W20, st20⟩ := putF X19 hx hZ hown (host := "") (Or.inl (hw _ (List.mem_of_getElem? (i := 33) rfl))) Via.refl e19 F_a_elementData E_a (Or.inl (hw _ (List.mem_of_getElem? (i := 34) rfl))) (hw _ (List.mem_of_getElem? (i := 10) rfl)) (ty := (.array (.object "java/lang/Object"))) (by decide) rfl rfl (g := (mkF mM 61 #[.val (.ref a), .val (.ref l'), .val (.ref b17)] [(.ref ee), (.ref a)])) rfl rfl (hb hby d7_61)
  have N20 := Fr.snoc X20 N18 g_a
  have F_a_modCount := F_a_modCount.other W20 (Or.inr (slot_ne (Or.inl (hw _ (List.mem_of_getElem? (i := 31) rfl))) (Or.inl (hw _ (List.mem_of_getElem? (i := 34) rfl))) (by decide) (t := .int) (t' := (.array (.object "java/lang/Object"))) (by decide) (by decide)))
  have F_a_elementData := F_a_elementData.same W20
  have F_a_size := F_a_size.other W20 (Or.inr (slot_ne (Or.inl (hw _ (List.mem_of_getElem? (i := 53) rfl))) (Or.inl (hw _ (List.mem_of_getElem? (i := 34) rfl))) (by decide) (t := .int) (t' := (.array (.object "java/lang/Object"))) (by decide) (by decide)))
  have E_a := E_a.wr W20
  have O := O.wr W20 g_a
  have Zn := Nat.le_trans Zn (Keep.of_wr W20).1
  have Kp := Kp.wr W20 (Or.inl (List.mem_of_getElem? (i := 0) rfl))
  refine own_st (A := T20.setTop (mkF mM 64 #[.val (.ref a), .val (.ref l'), .val (.ref b17)] [])) (fun tT_ kK_ => st20 tT_ kK_) ?_
  exact own_retV X20 hx hlk hret (hb hby d7_64) (by rw [e20]; exact ⟨rfl, N20, Kp, E_a⟩) (by decide) (by decide)
def QU (Z : State) (a : Addr) (l' : Addr) (h0 : Heap) (n0 : Nat) (v : Option Value) (h : Heap) (L : List Loc) : Prop := v = none ∧ Fr n0 L ∧ Keep h0 h [a] ∧ Exa Z h a "java/util/Collections$UnmodifiableRandomAccessList" ∧ Fld Z h a "java/util/Collections$UnmodifiableCollection" "c" "Ljava/util/Collection;" (.ref l') ∧ Fld Z h a "java/util/Collections$UnmodifiableList" "list" "Ljava/util/List;" .null
theorem d15_0 : decode jdk_119_method_1_code 0 = .ok (.aload_n 0, 1) := by decide +kernel
theorem d15_1 : decode jdk_119_method_1_code 1 = .ok (.invokespecial 1, 3) := by decide +kernel
theorem d15_4 : decode jdk_119_method_1_code 4 = .ok (.aload_n 1, 1) := by decide +kernel
theorem d15_5 : decode jdk_119_method_1_code 5 = .ok (.ifnonnull 11, 3) := by decide +kernel
theorem d15_16 : decode jdk_119_method_1_code 16 = .ok (.aload_n 0, 1) := by decide +kernel
theorem d15_17 : decode jdk_119_method_1_code 17 = .ok (.aload_n 1, 1) := by decide +kernel
theorem d15_18 : decode jdk_119_method_1_code 18 = .ok (.putfield 10, 3) := by decide +kernel
theorem d15_21 : decode jdk_119_method_1_code 21 = .ok (.return_, 1) := by decide +kernel
theorem pn_java_2futil_2fCollections_24UnmodifiableCollection : plainName "java/util/Collections$UnmodifiableCollection" = true := by first | (simp [plainName, overriddenIn]; done) | decide +kernel
theorem ef_rmUC (mM : MethodId) (a : Addr) (l' : Addr) : entryFrame mM #[(.ref a), (.ref l')] 2 = mkF mM 0 #[.val (.ref a), .val (.ref l')] [] := by first | (simp [entryFrame, mkF, argsToLocals, Value.category]; done) | rfl
set_option maxRecDepth 65536 in
set_option maxHeartbeats 40000000 in
theorem rmUC (lL : Launch) (Z : State) (a0 : Array Value) (hw : ∀ d ∈ tables_1, d.before a0 Z = true) (ws : List Jvm.Cond) (a : Addr) (l' : Addr) (h0 : Heap) (n0 : Nat) (g_a : n0 ≤ a) (E_a : Exa Z h0 a "java/util/Collections$UnmodifiableRandomAccessList") (F_a_c : Fld Z h0 a "java/util/Collections$UnmodifiableCollection" "c" "Ljava/util/Collection;" .null) (F_a_list : Fld Z h0 a "java/util/Collections$UnmodifiableList" "list" "Ljava/util/List;" .null) :
    MetFree lL (⟨"java/util/Collections$UnmodifiableCollection", "<init>", "(Ljava/util/Collection;)V"⟩ : MethodName) (head1 (Jvm.Cond.code (⟨"java/util/Collections$UnmodifiableCollection", "<init>", "(Ljava/util/Collection;)V"⟩ : MethodName) jdk_119_method_1_code 2 none :: ws) ({ frames := 1, cells := 0, slots := 0, locals := 12 } : Room)) (fun as_ uU_ => as_ = #[(.ref a), (.ref l')] ∧ Z.Warmed39 uU_.vm ∧ uU_.heap = h0) (fun _ _ _ _ _ => True) (fun _ uU_ oO_ uE_ => ∃ vV_ lL_, oO_ = .returned vV_ ∧ QU Z a l' h0 n0 vV_ uE_.heap lL_ ∧ FrameEnd uU_ oO_ uE_ lL_ ({ frames := 1, cells := 0, slots := 0, locals := 12 } : Room).cells ({ frames := 1, cells := 0, slots := 0, locals := 12 } : Room).slots) := by
  refine MetFree.of_bodySF (plainFor_of_name pn_java_2futil_2fCollections_24UnmodifiableCollection) hisR ?_
  intro pP eE sS mM args below meth cC s₁ Bd hml0 hP hK
  obtain ⟨rfl, hZ, hh⟩ := hP
  have hx := Bd.exec
  have hby := Bd.bytes
  have hml : cC.maxLocals = 2 := hml0
  have hown : sS.vm.findClass "java/util/Collections$UnmodifiableCollection" = some mM.cls := findClass_of_methodNamed Bd.named
  have hnm := (name_of_methodNamed Bd.named Bd.method).1
  have hret := Bd.returns
  have hlk := BodyLoose.notSynchronized Bd
  have X0 : Stand pP lL eE ({ frames := 1, cells := 0, slots := 0, locals := 12 } : Room) sS mM #[(.ref a), (.ref l')] below meth cC s₁ [] 0 0 := Stand.of_body Bd
  have e0 : s₁.heap = h0 := by rw [← hh, Bd.state]; rfl
  have N0 := Fr.nil n0
  show own_Go pP eE below sS (QU Z a l' h0 n0) 0 0 (s₁.setTop (entryFrame mM #[(.ref a), (.ref l')] 2))
  refine own_st (A := s₁.setTop (mkF mM 0 #[.val (.ref a), .val (.ref l')] [])) (fun tT_ kK_ => castTop (ef_rmUC mM a l') kK_) ?_
  have Kp := Keep.refl h0 [a]
  refine own_st (A := s₁.setTop (mkF mM 1 #[.val (.ref a), .val (.ref l')] [(.ref a)])) (fun tT_ kK_ => XS.aloadN X0.here hx rfl (hb hby d15_0) rfl rfl kK_) ?_
  obtain ⟨T21, X21, e21, st21⟩ := initO X0 hx hZ hown (hw _ (List.mem_of_getElem? (i := 113) rfl)) (hw _ (List.mem_of_getElem? (i := 28) rfl)) (hw _ (List.mem_of_getElem? (i := 29) rfl)) e0 (g := (mkF mM 1 #[.val (.ref a), .val (.ref l')] [(.ref a)])) rfl (by rw [hml]; rfl) rfl (hb hby d15_1) (by decide) (W := 0) (by show 2 * 0 + _ ≤ _; exact Nat.le_of_eq rfl) (by decide)
  refine own_st (A := T21.setTop (mkF mM 4 #[.val (.ref a), .val (.ref l')] [])) (fun tT_ kK_ => st21 tT_ kK_) ?_
  refine own_st (A := T21.setTop (mkF mM 5 #[.val (.ref a), .val (.ref l')] [(.ref l')])) (fun tT_ kK_ => XS.aloadN X21.here hx rfl (hb hby d15_4) rfl rfl kK_) ?_
  refine own_st (A := T21.setTop (mkF mM 16 #[.val (.ref a), .val (.ref l')] [])) (fun tT_ kK_ => XS.ifnonnullYes X21.here hx rfl (pc0 := 5) (pc' := 16) rfl (hb hby d15_5) rfl (by decide) (by decide) kK_) ?_
  refine own_st (A := T21.setTop (mkF mM 17 #[.val (.ref a), .val (.ref l')] [(.ref a)])) (fun tT_ kK_ => XS.aloadN X21.here hx rfl (hb hby d15_16) rfl rfl kK_) ?_
  refine own_st (A := T21.setTop (mkF mM 18 #[.val (.ref a), .val (.ref l')] [(.ref l'), (.ref a)])) (fun tT_ kK_ => XS.aloadN X21.here hx rfl (hb hby d15_17) rfl rfl kK_) ?_
  obtain ⟨T22, h22, X22, e22, W22, st22⟩ := putF X21 hx hZ hown (host := "") (Or.inl (hw _ (List.mem_of_getElem? (i := 114) rfl))) Via.refl e21 F_a_c E_a (Or.inr ⟨(hw _ (List.mem_of_getElem? (i := 115) rfl)), rfl, hnm⟩) (hw _ (List.mem_of_getElem? (i := 96) rfl)) (ty := (.object "java/util/Collection")) (by decide) rfl rfl (g := (mkF mM 18 #[.val (.ref a), .val (.ref l')] [(.ref l'), (.ref a)])) rfl rfl (hb hby d15_18)
  have N22 := Fr.snoc X22 N0 g_a
  have F_a_c := F_a_c.same W22
  have F_a_list := F_a_list.other W22 (Or.inr (slot_ne (Or.inr (hw _ (List.mem_of_getElem? (i := 117) rfl))) (Or.inr (hw _ (List.mem_of_getElem? (i := 115) rfl))) (by decide) (t := (.object "java/util/List")) (t' := (.object "java/util/Collection")) (by decide) (by decide)))
  have E_a := E_a.wr W22
  have Kp := Kp.wr W22 (Or.inl (List.mem_of_getElem? (i := 0) rfl))
  refine own_st (A := T22.setTop (mkF mM 21 #[.val (.ref a), .val (.ref l')] [])) (fun tT_ kK_ => st22 tT_ kK_) ?_
  exact own_retV X22 hx hlk hret (hb hby d15_21) (by rw [e22]; exact ⟨rfl, N22, Kp, E_a, F_a_c, F_a_list⟩) (by decide) (by decide)
theorem d14_0 : decode jdk_120_method_1_code 0 = .ok (.aload_n 0, 1) := by decide +kernel
theorem d14_1 : decode jdk_120_method_1_code 1 = .ok (.aload_n 1, 1) := by decide +kernel
theorem d14_2 : decode jdk_120_method_1_code 2 = .ok (.invokespecial 1, 3) := by decide +kernel
theorem pd__28Ljava_2futil_2fCollection_3b_29V : parseMethodDescriptor "(Ljava/util/Collection;)V" = some ⟨[(.object "java/util/Collection")], none⟩ := by decide +kernel
theorem d14_5 : decode jdk_120_method_1_code 5 = .ok (.aload_n 0, 1) := by decide +kernel
theorem d14_6 : decode jdk_120_method_1_code 6 = .ok (.aload_n 1, 1) := by decide +kernel
theorem d14_7 : decode jdk_120_method_1_code 7 = .ok (.putfield 7, 3) := by decide +kernel
theorem d14_10 : decode jdk_120_method_1_code 10 = .ok (.return_, 1) := by decide +kernel
theorem pn_java_2futil_2fCollections_24UnmodifiableList : plainName "java/util/Collections$UnmodifiableList" = true := by first | (simp [plainName, overriddenIn]; done) | decide +kernel
theorem ef_rmUL (mM : MethodId) (a : Addr) (l' : Addr) : entryFrame mM #[(.ref a), (.ref l')] 2 = mkF mM 0 #[.val (.ref a), .val (.ref l')] [] := by first | (simp [entryFrame, mkF, argsToLocals, Value.category]; done) | rfl
set_option maxRecDepth 65536 in
set_option maxHeartbeats 40000000 in
theorem rmUL (lL : Launch) (Z : State) (a0 : Array Value) (hw : ∀ d ∈ tables_1, d.before a0 Z = true) (ws : List Jvm.Cond) (a : Addr) (l' : Addr) (h0 : Heap) (n0 : Nat) (g_a : n0 ≤ a) (E_a : Exa Z h0 a "java/util/Collections$UnmodifiableRandomAccessList") (F_a_c : Fld Z h0 a "java/util/Collections$UnmodifiableCollection" "c" "Ljava/util/Collection;" .null) (F_a_list : Fld Z h0 a "java/util/Collections$UnmodifiableList" "list" "Ljava/util/List;" .null) :
    MetFree lL (⟨"java/util/Collections$UnmodifiableList", "<init>", "(Ljava/util/List;)V"⟩ : MethodName) (head1 (Jvm.Cond.code (⟨"java/util/Collections$UnmodifiableList", "<init>", "(Ljava/util/List;)V"⟩ : MethodName) jdk_120_method_1_code 2 none :: ws) ({ frames := 2, cells := 0, slots := 0, locals := 25 } : Room)) (fun as_ uU_ => as_ = #[(.ref a), (.ref l')] ∧ Z.Warmed39 uU_.vm ∧ uU_.heap = h0) (fun _ _ _ _ _ => True) (fun _ uU_ oO_ uE_ => ∃ vV_ lL_, oO_ = .returned vV_ ∧ QK Z a "java/util/Collections$UnmodifiableRandomAccessList" h0 n0 vV_ uE_.heap lL_ ∧ FrameEnd uU_ oO_ uE_ lL_ ({ frames := 2, cells := 0, slots := 0, locals := 25 } : Room).cells ({ frames := 2, cells := 0, slots := 0, locals := 25 } : Room).slots) := by
  refine MetFree.of_bodySF (plainFor_of_name pn_java_2futil_2fCollections_24UnmodifiableList) hisR ?_
  intro pP eE sS mM args below meth cC s₁ Bd hml0 hP hK
  obtain ⟨rfl, hZ, hh⟩ := hP
  have hx := Bd.exec
  have hby := Bd.bytes
  have hml : cC.maxLocals = 2 := hml0
  have hown : sS.vm.findClass "java/util/Collections$UnmodifiableList" = some mM.cls := findClass_of_methodNamed Bd.named
  have hnm := (name_of_methodNamed Bd.named Bd.method).1
  have hret := Bd.returns
  have hlk := BodyLoose.notSynchronized Bd
  have X0 : Stand pP lL eE ({ frames := 2, cells := 0, slots := 0, locals := 25 } : Room) sS mM #[(.ref a), (.ref l')] below meth cC s₁ [] 0 0 := Stand.of_body Bd
  have e0 : s₁.heap = h0 := by rw [← hh, Bd.state]; rfl
  have N0 := Fr.nil n0
  show own_Go pP eE below sS (QK Z a "java/util/Collections$UnmodifiableRandomAccessList" h0 n0) 0 0 (s₁.setTop (entryFrame mM #[(.ref a), (.ref l')] 2))
  refine own_st (A := s₁.setTop (mkF mM 0 #[.val (.ref a), .val (.ref l')] [])) (fun tT_ kK_ => castTop (ef_rmUL mM a l') kK_) ?_
  have Kp := Keep.refl h0 [a]
  refine own_st (A := s₁.setTop (mkF mM 1 #[.val (.ref a), .val (.ref l')] [(.ref a)])) (fun tT_ kK_ => XS.aloadN X0.here hx rfl (hb hby d14_0) rfl rfl kK_) ?_
  refine own_st (A := s₁.setTop (mkF mM 2 #[.val (.ref a), .val (.ref l')] [(.ref l'), (.ref a)])) (fun tT_ kK_ => XS.aloadN X0.here hx rfl (hb hby d14_1) rfl rfl kK_) ?_
  obtain ⟨_, _, ⟨T23, L23, k23, n23⟩, -, X23, ⟨Lc23, hQ23, l23, y23, z23⟩, st23⟩ := X0.specialBack hx (y := (⟨"java/util/Collections$UnmodifiableCollection", "<init>", "(Ljava/util/Collection;)V"⟩ : MethodName)) rfl hown (mvT hZ (hw _ (List.mem_of_getElem? (i := 107) rfl))) (mvT hZ (hw _ (List.mem_of_getElem? (i := 108) rfl))) (mvT hZ (hw _ (List.mem_of_getElem? (i := 112) rfl))) (by decide) (backOf (W := 0) (rmUC lL Z a0 hw [] a l' h0 n0 g_a E_a F_a_c F_a_list) hZ (hw _ (List.mem_of_getElem? (i := 112) rfl)) (hw _ (List.mem_of_getElem? (i := 111) rfl)) (by decide) (by decide)) (g := (mkF mM 2 #[.val (.ref a), .val (.ref l')] [(.ref l'), (.ref a)])) rfl (by rw [hml]; rfl) (Steps.refl _) (a := a) (argsL := [(.ref l')]) (rest := []) (lenOf pd__28Ljava_2futil_2fCollection_3b_29V rfl) rfl (by show 2 * 0 + _ ≤ _; exact Nat.le_of_eq rfl) (hb hby d14_2) (fun _ _ => ⟨rfl, e0, (by decide : 0 + 0 ≤ _), (by decide : 0 + 0 ≤ _)⟩)
  dsimp only [Pt.U, Pt.locs, Pt.cells, Pt.slots] at X23 l23 y23 z23 st23 hQ23
  subst l23 y23 z23
  obtain ⟨rfl, N23q, K23, x23, y23, z23'⟩ := hQ23
  have N23 := Fr.app N0 N23q
  have e23 : T23.heap = T23.heap := rfl
  refine own_st (A := T23.setTop (mkF mM 5 #[.val (.ref a), .val (.ref l')] [])) (fun tT_ kK_ => st23.trans kK_) ?_
  have E_a := E_a.keep K23
  have Kp := Kp.trans K23 (allS (Or.inl (List.mem_of_getElem? (i := 0) rfl)) all0)
  have E_a := x23
  have F_a_c := y23
  have F_a_list := z23'
  refine own_st (A := T23.setTop (mkF mM 6 #[.val (.ref a), .val (.ref l')] [(.ref a)])) (fun tT_ kK_ => XS.aloadN X23.here hx rfl (hb hby d14_5) rfl rfl kK_) ?_
  refine own_st (A := T23.setTop (mkF mM 7 #[.val (.ref a), .val (.ref l')] [(.ref l'), (.ref a)])) (fun tT_ kK_ => XS.aloadN X23.here hx rfl (hb hby d14_6) rfl rfl kK_) ?_
  obtain ⟨T24, h24, X24, e24, W24, st24⟩ := putF X23 hx hZ hown (host := "") (Or.inl (hw _ (List.mem_of_getElem? (i := 116) rfl))) Via.refl e23 F_a_list E_a (Or.inr ⟨(hw _ (List.mem_of_getElem? (i := 117) rfl)), rfl, hnm⟩) (hw _ (List.mem_of_getElem? (i := 96) rfl)) (ty := (.object "java/util/List")) (by decide) rfl rfl (g := (mkF mM 7 #[.val (.ref a), .val (.ref l')] [(.ref l'), (.ref a)])) rfl rfl (hb hby d14_7)
  have N24 := Fr.snoc X24 N23 g_a
  have F_a_c := F_a_c.other W24 (Or.inr (slot_ne (Or.inr (hw _ (List.mem_of_getElem? (i := 115) rfl))) (Or.inr (hw _ (List.mem_of_getElem? (i := 117) rfl))) (by decide) (t := (.object "java/util/Collection")) (t' := (.object "java/util/List")) (by decide) (by decide)))
  have F_a_list := F_a_list.same W24
  have E_a := E_a.wr W24
  have Kp := Kp.wr W24 (Or.inl (List.mem_of_getElem? (i := 0) rfl))
  refine own_st (A := T24.setTop (mkF mM 10 #[.val (.ref a), .val (.ref l')] [])) (fun tT_ kK_ => st24 tT_ kK_) ?_
  exact own_retV X24 hx hlk hret (hb hby d14_10) (by rw [e24]; exact ⟨rfl, N24, Kp, E_a⟩) (by decide) (by decide)
theorem d13_0 : decode jdk_121_method_1_code 0 = .ok (.aload_n 0, 1) := by decide +kernel
theorem d13_1 : decode jdk_121_method_1_code 1 = .ok (.aload_n 1, 1) := by decide +kernel
theorem d13_2 : decode jdk_121_method_1_code 2 = .ok (.invokespecial 1, 3) := by decide +kernel
theorem pd__28Ljava_2futil_2fList_3b_29V : parseMethodDescriptor "(Ljava/util/List;)V" = some ⟨[(.object "java/util/List")], none⟩ := by decide +kernel
theorem d13_5 : decode jdk_121_method_1_code 5 = .ok (.return_, 1) := by decide +kernel
theorem pn_java_2futil_2fCollections_24UnmodifiableRandomAccessList : plainName "java/util/Collections$UnmodifiableRandomAccessList" = true := by first | (simp [plainName, overriddenIn]; done) | decide +kernel
theorem ef_rmUR (mM : MethodId) (a : Addr) (l' : Addr) : entryFrame mM #[(.ref a), (.ref l')] 2 = mkF mM 0 #[.val (.ref a), .val (.ref l')] [] := by first | (simp [entryFrame, mkF, argsToLocals, Value.category]; done) | rfl
set_option maxRecDepth 65536 in
set_option maxHeartbeats 40000000 in
theorem rmUR (lL : Launch) (Z : State) (a0 : Array Value) (hw : ∀ d ∈ tables_1, d.before a0 Z = true) (ws : List Jvm.Cond) (a : Addr) (l' : Addr) (h0 : Heap) (n0 : Nat) (g_a : n0 ≤ a) (E_a : Exa Z h0 a "java/util/Collections$UnmodifiableRandomAccessList") (F_a_c : Fld Z h0 a "java/util/Collections$UnmodifiableCollection" "c" "Ljava/util/Collection;" .null) (F_a_list : Fld Z h0 a "java/util/Collections$UnmodifiableList" "list" "Ljava/util/List;" .null) :
    MetFree lL (⟨"java/util/Collections$UnmodifiableRandomAccessList", "<init>", "(Ljava/util/List;)V"⟩ : MethodName) (head1 (Jvm.Cond.code (⟨"java/util/Collections$UnmodifiableRandomAccessList", "<init>", "(Ljava/util/List;)V"⟩ : MethodName) jdk_121_method_1_code 2 none :: ws) ({ frames := 3, cells := 0, slots := 0, locals := 38 } : Room)) (fun as_ uU_ => as_ = #[(.ref a), (.ref l')] ∧ Z.Warmed39 uU_.vm ∧ uU_.heap = h0) (fun _ _ _ _ _ => True) (fun _ uU_ oO_ uE_ => ∃ vV_ lL_, oO_ = .returned vV_ ∧ QK Z a "java/util/Collections$UnmodifiableRandomAccessList" h0 n0 vV_ uE_.heap lL_ ∧ FrameEnd uU_ oO_ uE_ lL_ ({ frames := 3, cells := 0, slots := 0, locals := 38 } : Room).cells ({ frames := 3, cells := 0, slots := 0, locals := 38 } : Room).slots) := by
  refine MetFree.of_bodySF (plainFor_of_name pn_java_2futil_2fCollections_24UnmodifiableRandomAccessList) hisR ?_
  intro pP eE sS mM args below meth cC s₁ Bd hml0 hP hK
  obtain ⟨rfl, hZ, hh⟩ := hP
  have hx := Bd.exec
  have hby := Bd.bytes
  have hml : cC.maxLocals = 2 := hml0
  have hown : sS.vm.findClass "java/util/Collections$UnmodifiableRandomAccessList" = some mM.cls := findClass_of_methodNamed Bd.named
  have hnm := (name_of_methodNamed Bd.named Bd.method).1
  have hret := Bd.returns
  have hlk := BodyLoose.notSynchronized Bd
  have X0 : Stand pP lL eE ({ frames := 3, cells := 0, slots := 0, locals := 38 } : Room) sS mM #[(.ref a), (.ref l')] below meth cC s₁ [] 0 0 := Stand.of_body Bd
  have e0 : s₁.heap = h0 := by rw [← hh, Bd.state]; rfl
  have N0 := Fr.nil n0
  show own_Go pP eE below sS (QK Z a "java/util/Collections$UnmodifiableRandomAccessList" h0 n0) 0 0 (s₁.setTop (entryFrame mM #[(.ref a), (.ref l')] 2))
  refine own_st (A := s₁.setTop (mkF mM 0 #[.val (.ref a), .val (.ref l')] [])) (fun tT_ kK_ => castTop (ef_rmUR mM a l') kK_) ?_
  have Kp := Keep.refl h0 [a]
  refine own_st (A := s₁.setTop (mkF mM 1 #[.val (.ref a), .val (.ref l')] [(.ref a)])) (fun tT_ kK_ => XS.aloadN X0.here hx rfl (hb hby d13_0) rfl rfl kK_) ?_
  refine own_st (A := s₁.setTop (mkF mM 2 #[.val (.ref a), .val (.ref l')] [(.ref l'), (.ref a)])) (fun tT_ kK_ => XS.aloadN X0.here hx rfl (hb hby d13_1) rfl rfl kK_) ?_
  obtain ⟨_, _, ⟨T25, L25, k25, n25⟩, -, X25, ⟨Lc25, hQ25, l25, y25, z25⟩, st25⟩ := X0.specialBack hx (y := (⟨"java/util/Collections$UnmodifiableList", "<init>", "(Ljava/util/List;)V"⟩ : MethodName)) rfl hown (mvT hZ (hw _ (List.mem_of_getElem? (i := 101) rfl))) (mvT hZ (hw _ (List.mem_of_getElem? (i := 102) rfl))) (mvT hZ (hw _ (List.mem_of_getElem? (i := 106) rfl))) (by decide) (backOf (W := 0) (rmUL lL Z a0 hw [] a l' h0 n0 g_a E_a F_a_c F_a_list) hZ (hw _ (List.mem_of_getElem? (i := 106) rfl)) (hw _ (List.mem_of_getElem? (i := 105) rfl)) (by decide) (by decide)) (g := (mkF mM 2 #[.val (.ref a), .val (.ref l')] [(.ref l'), (.ref a)])) rfl (by rw [hml]; rfl) (Steps.refl _) (a := a) (argsL := [(.ref l')]) (rest := []) (lenOf pd__28Ljava_2futil_2fList_3b_29V rfl) rfl (by show 2 * 0 + _ ≤ _; exact Nat.le_of_eq rfl) (hb hby d13_2) (fun _ _ => ⟨rfl, e0, (by decide : 0 + 0 ≤ _), (by decide : 0 + 0 ≤ _)⟩)
  dsimp only [Pt.U, Pt.locs, Pt.cells, Pt.slots] at X25 l25 y25 z25 st25 hQ25
  subst l25 y25 z25
  obtain ⟨rfl, N25q, K25, x25⟩ := hQ25
  have N25 := Fr.app N0 N25q
  have e25 : T25.heap = T25.heap := rfl
  refine own_st (A := T25.setTop (mkF mM 5 #[.val (.ref a), .val (.ref l')] [])) (fun tT_ kK_ => st25.trans kK_) ?_
  have E_a := E_a.keep K25
  have Kp := Kp.trans K25 (allS (Or.inl (List.mem_of_getElem? (i := 0) rfl)) all0)
  exact own_retV X25 hx hlk hret (hb hby d13_5) (by rw [e25]; exact ⟨rfl, N25, Kp, E_a⟩) (by decide) (by decide)
theorem d12_0 : decode jdk_79_method_35_code 0 = .ok (.aload_n 0, 1) := by decide +kernel
theorem d12_1 : decode jdk_79_method_35_code 1 = .ok (.invokeinterface 211 1, 5) := by decide +kernel
theorem d12_6 : decode jdk_79_method_35_code 6 = .ok (.ldc 212, 2) := by decide +kernel
theorem d12_8 : decode jdk_79_method_35_code 8 = .ok (.if_acmp .eq 14, 3) := by decide +kernel
theorem d12_22 : decode jdk_79_method_35_code 22 = .ok (.aload_n 0, 1) := by decide +kernel
theorem d12_23 : decode jdk_79_method_35_code 23 = .ok (.areturn, 1) := by decide +kernel
theorem d12_11 : decode jdk_79_method_35_code 11 = .ok (.aload_n 0, 1) := by decide +kernel
theorem d12_12 : decode jdk_79_method_35_code 12 = .ok (.invokeinterface 214 1, 5) := by decide +kernel
theorem d12_17 : decode jdk_79_method_35_code 17 = .ok (.ldc 215, 2) := by decide +kernel
theorem d12_19 : decode jdk_79_method_35_code 19 = .ok (.if_acmp .ne 5, 3) := by decide +kernel
theorem d12_24 : decode jdk_79_method_35_code 24 = .ok (.aload_n 0, 1) := by decide +kernel
theorem d12_25 : decode jdk_79_method_35_code 25 = .ok (.instanceof 13, 3) := by decide +kernel
theorem d12_28 : decode jdk_79_method_35_code 28 = .ok (.ifCond .eq 14, 3) := by decide +kernel
theorem d12_31 : decode jdk_79_method_35_code 31 = .ok (.new 215, 3) := by decide +kernel
theorem d12_34 : decode jdk_79_method_35_code 34 = .ok (.dup, 1) := by decide +kernel
theorem d12_35 : decode jdk_79_method_35_code 35 = .ok (.aload_n 0, 1) := by decide +kernel
theorem d12_36 : decode jdk_79_method_35_code 36 = .ok (.invokespecial 217, 3) := by decide +kernel
theorem d12_39 : decode jdk_79_method_35_code 39 = .ok (.goto 11, 3) := by decide +kernel
theorem d12_50 : decode jdk_79_method_35_code 50 = .ok (.areturn, 1) := by decide +kernel
theorem pn_java_2futil_2fCollections : plainName "java/util/Collections" = true := by first | (simp [plainName, overriddenIn]; done) | decide +kernel
theorem ef_rmUn (mM : MethodId) (a : Addr) (ma : Addr) (ml : Addr) (mr : Addr) : entryFrame mM #[(.ref a)] 1 = mkF mM 0 #[.val (.ref a)] [] := by first | (simp [entryFrame, mkF, argsToLocals, Value.category]; done) | rfl
set_option maxRecDepth 65536 in
set_option maxHeartbeats 40000000 in
theorem rmUn (lL : Launch) (Z : State) (a0 : Array Value) (hw : ∀ d ∈ tables_1, d.before a0 Z = true) (ws : List Jvm.Cond) (a : Addr) (ma : Addr) (ml : Addr) (mr : Addr) (h0 : Heap) (n0 : Nat) (Zn : n0 ≤ h0.size) (E_a : Exa Z h0 a "java/util/ArrayList") (M_a : own_Mr Z "java/util/ArrayList" ma) (M_l : own_Mr Z "java/util/Collections$UnmodifiableList" ml) (M_r : own_Mr Z "java/util/Collections$UnmodifiableRandomAccessList" mr) :
    MetFree lL (⟨"java/util/Collections", "unmodifiableList", "(Ljava/util/List;)Ljava/util/List;"⟩ : MethodName) (head1 (Jvm.Cond.code (⟨"java/util/Collections", "unmodifiableList", "(Ljava/util/List;)Ljava/util/List;"⟩ : MethodName) jdk_79_method_35_code 1 (some (.object "java/util/List")) :: ws) ({ frames := 4, cells := 1, slots := 2, locals := 52 } : Room)) (fun as_ uU_ => as_ = #[(.ref a)] ∧ Z.Warmed39 uU_.vm ∧ uU_.heap = h0) (fun _ _ _ _ _ => True) (fun _ uU_ oO_ uE_ => ∃ vV_ lL_, oO_ = .returned vV_ ∧ QR h0 n0 vV_ uE_.heap lL_ ∧ FrameEnd uU_ oO_ uE_ lL_ ({ frames := 4, cells := 1, slots := 2, locals := 52 } : Room).cells ({ frames := 4, cells := 1, slots := 2, locals := 52 } : Room).slots) := by
  refine MetFree.of_bodySF (plainFor_of_name pn_java_2futil_2fCollections) hisR ?_
  intro pP eE sS mM args below meth cC s₁ Bd hml0 hP hK
  obtain ⟨rfl, hZ, hh⟩ := hP
  have hx := Bd.exec
  have hby := Bd.bytes
  have hml : cC.maxLocals = 1 := hml0
  have hown : sS.vm.findClass "java/util/Collections" = some mM.cls := findClass_of_methodNamed Bd.named
  have hnm := (name_of_methodNamed Bd.named Bd.method).1
  have hret := Bd.returns
  have hlk := BodyLoose.notSynchronized Bd
  have X0 : Stand pP lL eE ({ frames := 4, cells := 1, slots := 2, locals := 52 } : Room) sS mM #[(.ref a)] below meth cC s₁ [] 0 0 := Stand.of_body Bd
  have e0 : s₁.heap = h0 := by rw [← hh, Bd.state]; rfl
  have N0 := Fr.nil n0
  show own_Go pP eE below sS (QR h0 n0) 1 2 (s₁.setTop (entryFrame mM #[(.ref a)] 1))
  refine own_st (A := s₁.setTop (mkF mM 0 #[.val (.ref a)] [])) (fun tT_ kK_ => castTop (ef_rmUn mM a ma ml mr) kK_) ?_
  have Kp := Keep.refl h0 []
  refine own_st (A := s₁.setTop (mkF mM 1 #[.val (.ref a)] [(.ref a)])) (fun tT_ kK_ => XS.aloadN X0.here hx rfl (hb hby d12_0) rfl rfl kK_) ?_
  obtain ⟨T26, X26, e26, st26⟩ := own_gclsI X0 hx hZ (xi := (⟨"java/util/List", "getClass", "()Ljava/lang/Class;"⟩ : MethodName)) hown (hw _ (List.mem_of_getElem? (i := 82) rfl)) (hw _ (List.mem_of_getElem? (i := 59) rfl)) (hw _ (List.mem_of_getElem? (i := 83) rfl)) (hw _ (List.mem_of_getElem? (i := 84) rfl)) (hw _ (List.mem_of_getElem? (i := 60) rfl)) (hw _ (List.mem_of_getElem? (i := 85) rfl)) (hw _ (List.mem_of_getElem? (i := 86) rfl)) (hw _ (List.mem_of_getElem? (i := 87) rfl)) (hw _ (List.mem_of_getElem? (i := 62) rfl)) rfl rfl (by decide) (by decide) e0 E_a M_a (g := (mkF mM 1 #[.val (.ref a)] [(.ref a)])) rfl (by rw [hml]; rfl) rfl (hb hby d12_1) (by decide) (W := 0) (by show 2 * 0 + _ ≤ _; exact Nat.le_of_eq rfl) (by decide)
  refine own_st (A := T26.setTop (mkF mM 6 #[.val (.ref a)] [(.ref ma)])) (fun tT_ kK_ => st26 tT_ kK_) ?_
  obtain ⟨T27, X27, e27, st27⟩ := own_ldcM X26 hx hZ hown (hw _ (List.mem_of_getElem? (i := 89) rfl)) e26 M_l (g := (mkF mM 6 #[.val (.ref a)] [(.ref ma)])) rfl (hb hby d12_6)
  refine own_st (A := T27.setTop (mkF mM 8 #[.val (.ref a)] [(.ref ml), (.ref ma)])) (fun tT_ kK_ => st27 tT_ kK_) ?_
  by_cases hc8_28 : ((.ref ma) : Value) = (.ref ml)
  · skip
    refine own_st (A := T27.setTop (mkF mM 22 #[.val (.ref a)] [])) (fun tT_ kK_ => Jvm.RoadKit.acmp X27 hx rfl (x := (.ref ma)) (y := (.ref ml)) rfl rfl (pc0 := 8) (pc' := 22) (same := true) rfl (hb hby d12_8) rfl (decide_eq_true hc8_28) (by decide) (by decide) kK_) ?_
    refine own_st (A := T27.setTop (mkF mM 23 #[.val (.ref a)] [(.ref a)])) (fun tT_ kK_ => XS.aloadN X27.here hx rfl (hb hby d12_22) rfl rfl kK_) ?_
    exact own_retA X27 hx hlk hret rfl rfl (hb hby d12_23) ⟨_, rfl, N0, own_ext_of_keep (by rw [e27]; exact Kp)⟩ (by decide) (by decide)
  · skip
    refine own_st (A := T27.setTop (mkF mM 11 #[.val (.ref a)] [])) (fun tT_ kK_ => Jvm.RoadKit.acmp X27 hx rfl (x := (.ref ma)) (y := (.ref ml)) rfl rfl (pc0 := 8) (pc' := 11) (same := false) rfl (hb hby d12_8) rfl (decide_eq_false hc8_28) (by decide) (by decide) kK_) ?_
    refine own_st (A := T27.setTop (mkF mM 12 #[.val (.ref a)] [(.ref a)])) (fun tT_ kK_ => XS.aloadN X27.here hx rfl (hb hby d12_11) rfl rfl kK_) ?_
    obtain ⟨T29, X29, e29, st29⟩ := own_gclsI X27 hx hZ (xi := (⟨"java/util/List", "getClass", "()Ljava/lang/Class;"⟩ : MethodName)) hown (hw _ (List.mem_of_getElem? (i := 91) rfl)) (hw _ (List.mem_of_getElem? (i := 59) rfl)) (hw _ (List.mem_of_getElem? (i := 83) rfl)) (hw _ (List.mem_of_getElem? (i := 84) rfl)) (hw _ (List.mem_of_getElem? (i := 60) rfl)) (hw _ (List.mem_of_getElem? (i := 85) rfl)) (hw _ (List.mem_of_getElem? (i := 86) rfl)) (hw _ (List.mem_of_getElem? (i := 87) rfl)) (hw _ (List.mem_of_getElem? (i := 62) rfl)) rfl rfl (by decide) (by decide) e27 E_a M_a (g := (mkF mM 12 #[.val (.ref a)] [(.ref a)])) rfl (by rw [hml]; rfl) rfl (hb hby d12_12) (by decide) (W := 0) (by show 2 * 0 + _ ≤ _; exact Nat.le_of_eq rfl) (by decide)
    refine own_st (A := T29.setTop (mkF mM 17 #[.val (.ref a)] [(.ref ma)])) (fun tT_ kK_ => st29 tT_ kK_) ?_
    obtain ⟨T30, X30, e30, st30⟩ := own_ldcM X29 hx hZ hown (hw _ (List.mem_of_getElem? (i := 92) rfl)) e29 M_r (g := (mkF mM 17 #[.val (.ref a)] [(.ref ma)])) rfl (hb hby d12_17)
    refine own_st (A := T30.setTop (mkF mM 19 #[.val (.ref a)] [(.ref mr), (.ref ma)])) (fun tT_ kK_ => st30 tT_ kK_) ?_
    by_cases hc19_31 : ((.ref ma) : Value) = (.ref mr)
    · skip
      refine own_st (A := T30.setTop (mkF mM 22 #[.val (.ref a)] [])) (fun tT_ kK_ => Jvm.RoadKit.acmp X30 hx rfl (x := (.ref ma)) (y := (.ref mr)) rfl rfl (pc0 := 19) (pc' := 22) (same := true) rfl (hb hby d12_19) rfl (decide_eq_true hc19_31) (by decide) (by decide) kK_) ?_
      refine own_st (A := T30.setTop (mkF mM 23 #[.val (.ref a)] [(.ref a)])) (fun tT_ kK_ => XS.aloadN X30.here hx rfl (hb hby d12_22) rfl rfl kK_) ?_
      exact own_retA X30 hx hlk hret rfl rfl (hb hby d12_23) ⟨_, rfl, N0, own_ext_of_keep (by rw [e30]; exact Kp)⟩ (by decide) (by decide)
    · skip
      refine own_st (A := T30.setTop (mkF mM 24 #[.val (.ref a)] [])) (fun tT_ kK_ => Jvm.RoadKit.acmp X30 hx rfl (x := (.ref ma)) (y := (.ref mr)) rfl rfl (pc0 := 19) (pc' := 24) (same := false) rfl (hb hby d12_19) rfl (decide_eq_false hc19_31) (by decide) (by decide) kK_) ?_
      refine own_st (A := T30.setTop (mkF mM 25 #[.val (.ref a)] [(.ref a)])) (fun tT_ kK_ => XS.aloadN X30.here hx rfl (hb hby d12_24) rfl rfl kK_) ?_
      obtain ⟨T32, X32, e32, st32⟩ := instY X30 hx hZ hown (hw _ (List.mem_of_getElem? (i := 94) rfl)) e30 (Ins.of_exa E_a (hw _ (List.mem_of_getElem? (i := 95) rfl))) (g := (mkF mM 25 #[.val (.ref a)] [(.ref a)])) rfl rfl (hb hby d12_25)
      refine own_st (A := T32.setTop (mkF mM 28 #[.val (.ref a)] [(.int (1 : Int32))])) (fun tT_ kK_ => st32 tT_ kK_) ?_
      refine own_st (A := T32.setTop (mkF mM 31 #[.val (.ref a)] [])) (fun tT_ kK_ => XS.ifNo X32.here hx rfl (hb hby d12_28) rfl ((if0 _ _).trans (feq (by decide : ¬ ((1 : Int32) = (0 : Int32)))).1) kK_) ?_
      obtain ⟨T33, h33, X33, e33, E33, A33, D33, -, st33⟩ := newO X32 hx hZ hown (hw _ (List.mem_of_getElem? (i := 92) rfl)) (hw _ (List.mem_of_getElem? (i := 96) rfl)) (hw _ (List.mem_of_getElem? (i := 97) rfl)) e32 (g := (mkF mM 31 #[.val (.ref a)] [])) rfl (hb hby d12_31) (by decide) (by decide)
      obtain ⟨b33, g33⟩ : ∃ z, z = h0.size := ⟨_, rfl⟩
      rw [← g33] at A33 D33 st33
      have ne_a_b33 : a ≠ b33 := Nat.ne_of_lt (Nat.lt_of_lt_of_le E_a.lt (Nat.le_of_eq g33.symm))
      have g_b33 : n0 ≤ b33 := Nat.le_trans Zn (Nat.le_of_eq g33.symm)
      have b_b33 : h0.size ≤ b33 := Nat.le_trans Kp.1 (Nat.le_of_eq g33.symm)
      have E_a := E_a.ext E33
      have Zn := Nat.le_trans Zn E33.1
      have Kp := Kp.ext E33
      have E_b33 := A33
      have F_b33_c : Fld Z h33 b33 "java/util/Collections$UnmodifiableCollection" "c" "Ljava/util/Collection;" .null := D33 (Or.inr (hw _ (List.mem_of_getElem? (i := 115) rfl))) (ty := (.object "java/util/Collection")) (by decide)
      have F_b33_list : Fld Z h33 b33 "java/util/Collections$UnmodifiableList" "list" "Ljava/util/List;" .null := D33 (Or.inr (hw _ (List.mem_of_getElem? (i := 117) rfl))) (ty := (.object "java/util/List")) (by decide)
      refine own_st (A := T33.setTop (mkF mM 34 #[.val (.ref a)] [(.ref b33)])) (fun tT_ kK_ => st33 tT_ kK_) ?_
      refine own_st (A := T33.setTop (mkF mM 35 #[.val (.ref a)] [(.ref b33), (.ref b33)])) (fun tT_ kK_ => XS.dup X33.here hx rfl (hb hby d12_34) rfl rfl kK_) ?_
      refine own_st (A := T33.setTop (mkF mM 36 #[.val (.ref a)] [(.ref a), (.ref b33), (.ref b33)])) (fun tT_ kK_ => XS.aloadN X33.here hx rfl (hb hby d12_35) rfl rfl kK_) ?_
      obtain ⟨_, _, ⟨T34, L34, k34, n34⟩, -, X34, ⟨Lc34, hQ34, l34, y34, z34⟩, st34⟩ := X33.specialBack hx (y := (⟨"java/util/Collections$UnmodifiableRandomAccessList", "<init>", "(Ljava/util/List;)V"⟩ : MethodName)) rfl hown (mvT hZ (hw _ (List.mem_of_getElem? (i := 98) rfl))) (mvT hZ (hw _ (List.mem_of_getElem? (i := 99) rfl))) (mvT hZ (hw _ (List.mem_of_getElem? (i := 100) rfl))) (by decide) (backOf (W := 1) (rmUR lL Z a0 hw [] b33 a h33 n0 g_b33 E_b33 F_b33_c F_b33_list) hZ (hw _ (List.mem_of_getElem? (i := 100) rfl)) (hw _ (List.mem_of_getElem? (i := 97) rfl)) (by decide) (by decide)) (g := (mkF mM 36 #[.val (.ref a)] [(.ref a), (.ref b33), (.ref b33)])) rfl (by rw [hml]; rfl) (Steps.refl _) (a := b33) (argsL := [(.ref a)]) (rest := [(.ref b33)]) (lenOf pd__28Ljava_2futil_2fList_3b_29V rfl) rfl (by show 2 * 0 + _ ≤ _; exact Nat.le_of_eq rfl) (hb hby d12_36) (fun _ _ => ⟨rfl, e33, (by decide : 1 + 0 ≤ _), (by decide : 2 + 0 ≤ _)⟩)
      dsimp only [Pt.U, Pt.locs, Pt.cells, Pt.slots] at X34 l34 y34 z34 st34 hQ34
      subst l34 y34 z34
      obtain ⟨rfl, N34q, K34, x34⟩ := hQ34
      have N34 := Fr.app N0 N34q
      have e34 : T34.heap = T34.heap := rfl
      refine own_st (A := T34.setTop (mkF mM 39 #[.val (.ref a)] [(.ref b33)])) (fun tT_ kK_ => st34.trans kK_) ?_
      have E_a := E_a.keep K34
      have E_b33 := E_b33.keep K34
      have Zn := Nat.le_trans Zn K34.1
      have Kp := Kp.trans K34 (allS (Or.inr b_b33) all0)
      refine own_st (A := T34.setTop (mkF mM 50 #[.val (.ref a)] [(.ref b33)])) (fun tT_ kK_ => XS.goto X34.here hx rfl (pc0 := 39) (pc' := 50) rfl (hb hby d12_39) (by decide) (by decide) kK_) ?_
      exact own_retA X34 hx hlk hret rfl rfl (hb hby d12_50) ⟨_, rfl, N34, own_ext_of_keep (by rw [e34]; exact Kp)⟩ (by decide) (by decide)
theorem d6_0 : decode prog_22_method_1_code 0 = .ok (.aload_n 0, 1) := by decide +kernel
theorem d6_1 : decode prog_22_method_1_code 1 = .ok (.invokespecial 1, 3) := by decide +kernel
theorem d6_4 : decode prog_22_method_1_code 4 = .ok (.aload_n 0, 1) := by decide +kernel
theorem d6_5 : decode prog_22_method_1_code 5 = .ok (.new 7, 3) := by decide +kernel
theorem d6_8 : decode prog_22_method_1_code 8 = .ok (.dup, 1) := by decide +kernel
theorem d6_9 : decode prog_22_method_1_code 9 = .ok (.aload_n 1, 1) := by decide +kernel
theorem d6_10 : decode prog_22_method_1_code 10 = .ok (.invokespecial 9, 3) := by decide +kernel
theorem d6_13 : decode prog_22_method_1_code 13 = .ok (.invokestatic 12, 3) := by decide +kernel
theorem pd__28Ljava_2futil_2fList_3b_29Ljava_2futil_2fList_3b : parseMethodDescriptor "(Ljava/util/List;)Ljava/util/List;" = some ⟨[(.object "java/util/List")], some (.object "java/util/List")⟩ := by decide +kernel
theorem d6_16 : decode prog_22_method_1_code 16 = .ok (.putfield 18, 3) := by decide +kernel
theorem d6_19 : decode prog_22_method_1_code 19 = .ok (.aload_n 0, 1) := by decide +kernel
theorem d6_20 : decode prog_22_method_1_code 20 = .ok (.lload_n 2, 1) := by decide +kernel
theorem d6_21 : decode prog_22_method_1_code 21 = .ok (.putfield 24, 3) := by decide +kernel
theorem d6_24 : decode prog_22_method_1_code 24 = .ok (.aload_n 0, 1) := by decide +kernel
theorem d6_25 : decode prog_22_method_1_code 25 = .ok (.iload 4, 2) := by decide +kernel
theorem d6_27 : decode prog_22_method_1_code 27 = .ok (.putfield 28, 3) := by decide +kernel
theorem d6_30 : decode prog_22_method_1_code 30 = .ok (.aload_n 0, 1) := by decide +kernel
theorem d6_31 : decode prog_22_method_1_code 31 = .ok (.iload 5, 2) := by decide +kernel
theorem d6_33 : decode prog_22_method_1_code 33 = .ok (.putfield 32, 3) := by decide +kernel
theorem d6_36 : decode prog_22_method_1_code 36 = .ok (.return_, 1) := by decide +kernel
theorem pn_com_2fexample_2fvyasa_2fvyasa_2fPage : plainName "com/example/vyasa/vyasa/Page" = true := by first | (simp [plainName, overriddenIn]; done) | decide +kernel
theorem ef_rmPI (mM : MethodId) (a : Addr) (l' : Addr) (rc : Int64) (d : Int32) (pp : Int32) (dc : Addr) (kd : ClassId) (mo : Addr) (ee : Addr) (ma : Addr) (ml : Addr) (mr : Addr) : entryFrame mM #[(.ref a), (.ref l'), (.long rc), (.int d), (.int pp)] 6 = mkF mM 0 #[.val (.ref a), .val (.ref l'), .val (.long rc), .second, .val (.int d), .val (.int pp)] [] := by first | (simp [entryFrame, mkF, argsToLocals, Value.category]; done) | rfl
set_option maxRecDepth 65536 in
set_option maxHeartbeats 40000000 in
theorem rmPI (lL : Launch) (Z : State) (a0 : Array Value) (hw : ∀ d ∈ tables_1, d.before a0 Z = true) (ws : List Jvm.Cond) (a : Addr) (l' : Addr) (rc : Int64) (d : Int32) (pp : Int32) (dc : Addr) (kd : ClassId) (mo : Addr) (ee : Addr) (ma : Addr) (ml : Addr) (mr : Addr) (h0 : Heap) (n0 : Nat) (g_a : n0 ≤ a) (E_a : Exa Z h0 a "com/example/vyasa/vyasa/Page") (F_a_rows : Fld Z h0 a "com/example/vyasa/vyasa/Page" "rows" "Ljava/util/List;" .null) (F_a_resultCount : Fld Z h0 a "com/example/vyasa/vyasa/Page" "resultCount" "J" (.long (0 : Int64))) (F_a_page : Fld Z h0 a "com/example/vyasa/vyasa/Page" "page" "I" (.int (0 : Int32))) (F_a_perPage : Fld Z h0 a "com/example/vyasa/vyasa/Page" "perPage" "I" (.int (0 : Int32))) (O : Old Z n0 h0) (Zn : n0 ≤ h0.size) (V_dc : Arv Z Z.heap dc kd (.object "java/lang/Object") 0 [] .null) (E_dc : Exa Z Z.heap dc "[Ljava/lang/Object;") (M_oa : own_Mr Z "[Ljava/lang/Object;" mo) (S_ee : Sta Z Z.heap "java/util/ArrayList" "EMPTY_ELEMENTDATA" "[Ljava/lang/Object;" (.ref ee)) (M_a : own_Mr Z "java/util/ArrayList" ma) (M_l : own_Mr Z "java/util/Collections$UnmodifiableList" ml) (M_r : own_Mr Z "java/util/Collections$UnmodifiableRandomAccessList" mr) (ob : Lst Z h0 l' (.ref dc)) :
    MetFree lL (⟨"com/example/vyasa/vyasa/Page", "<init>", "(Ljava/util/List;JII)V"⟩ : MethodName) (head1 (Jvm.Cond.code (⟨"com/example/vyasa/vyasa/Page", "<init>", "(Ljava/util/List;JII)V"⟩ : MethodName) prog_22_method_1_code 6 none :: ws) ({ frames := 5, cells := 3, slots := 5, locals := 96 } : Room)) (fun as_ uU_ => as_ = #[(.ref a), (.ref l'), (.long rc), (.int d), (.int pp)] ∧ Z.Warmed39 uU_.vm ∧ uU_.heap = h0) (fun _ _ _ _ _ => True) (fun _ uU_ oO_ uE_ => ∃ vV_ lL_, oO_ = .returned vV_ ∧ QP Z a rc d pp h0 n0 vV_ uE_.heap lL_ ∧ FrameEnd uU_ oO_ uE_ lL_ ({ frames := 5, cells := 3, slots := 5, locals := 96 } : Room).cells ({ frames := 5, cells := 3, slots := 5, locals := 96 } : Room).slots) := by
  refine MetFree.of_bodySF (plainFor_of_name pn_com_2fexample_2fvyasa_2fvyasa_2fPage) hisR ?_
  intro pP eE sS mM args below meth cC s₁ Bd hml0 hP hK
  obtain ⟨rfl, hZ, hh⟩ := hP
  have hx := Bd.exec
  have hby := Bd.bytes
  have hml : cC.maxLocals = 6 := hml0
  have hown : sS.vm.findClass "com/example/vyasa/vyasa/Page" = some mM.cls := findClass_of_methodNamed Bd.named
  have hnm := (name_of_methodNamed Bd.named Bd.method).1
  have hret := Bd.returns
  have hlk := BodyLoose.notSynchronized Bd
  have X0 : Stand pP lL eE ({ frames := 5, cells := 3, slots := 5, locals := 96 } : Room) sS mM #[(.ref a), (.ref l'), (.long rc), (.int d), (.int pp)] below meth cC s₁ [] 0 0 := Stand.of_body Bd
  have e0 : s₁.heap = h0 := by rw [← hh, Bd.state]; rfl
  have N0 := Fr.nil n0
  show own_Go pP eE below sS (QP Z a rc d pp h0 n0) 3 5 (s₁.setTop (entryFrame mM #[(.ref a), (.ref l'), (.long rc), (.int d), (.int pp)] 6))
  refine own_st (A := s₁.setTop (mkF mM 0 #[.val (.ref a), .val (.ref l'), .val (.long rc), .second, .val (.int d), .val (.int pp)] [])) (fun tT_ kK_ => castTop (ef_rmPI mM a l' rc d pp dc kd mo ee ma ml mr) kK_) ?_
  have Kp := Keep.refl h0 [a]
  refine own_st (A := s₁.setTop (mkF mM 1 #[.val (.ref a), .val (.ref l'), .val (.long rc), .second, .val (.int d), .val (.int pp)] [(.ref a)])) (fun tT_ kK_ => XS.aloadN X0.here hx rfl (hb hby d6_0) rfl rfl kK_) ?_
  obtain ⟨T35, X35, e35, st35⟩ := initO X0 hx hZ hown (hw _ (List.mem_of_getElem? (i := 38) rfl)) (hw _ (List.mem_of_getElem? (i := 28) rfl)) (hw _ (List.mem_of_getElem? (i := 29) rfl)) e0 (g := (mkF mM 1 #[.val (.ref a), .val (.ref l'), .val (.long rc), .second, .val (.int d), .val (.int pp)] [(.ref a)])) rfl (by rw [hml]; rfl) rfl (hb hby d6_1) (by decide) (W := 0) (by show 2 * 0 + _ ≤ _; exact Nat.le_of_eq rfl) (by decide)
  refine own_st (A := T35.setTop (mkF mM 4 #[.val (.ref a), .val (.ref l'), .val (.long rc), .second, .val (.int d), .val (.int pp)] [])) (fun tT_ kK_ => st35 tT_ kK_) ?_
  refine own_st (A := T35.setTop (mkF mM 5 #[.val (.ref a), .val (.ref l'), .val (.long rc), .second, .val (.int d), .val (.int pp)] [(.ref a)])) (fun tT_ kK_ => XS.aloadN X35.here hx rfl (hb hby d6_4) rfl rfl kK_) ?_
  obtain ⟨T36, h36, X36, e36, E36, A36, D36, -, st36⟩ := newO X35 hx hZ hown (hw _ (List.mem_of_getElem? (i := 39) rfl)) (hw _ (List.mem_of_getElem? (i := 10) rfl)) (hw _ (List.mem_of_getElem? (i := 11) rfl)) e35 (g := (mkF mM 5 #[.val (.ref a), .val (.ref l'), .val (.long rc), .second, .val (.int d), .val (.int pp)] [(.ref a)])) rfl (hb hby d6_5) (by decide) (by decide)
  obtain ⟨b36, g36⟩ : ∃ z, z = h0.size := ⟨_, rfl⟩
  rw [← g36] at A36 D36 st36
  have ne_a_b36 : a ≠ b36 := Nat.ne_of_lt (Nat.lt_of_lt_of_le E_a.lt (Nat.le_of_eq g36.symm))
  have ne_l'_b36 : l' ≠ b36 := Nat.ne_of_lt (Nat.lt_of_lt_of_le ob.1.lt (Nat.le_of_eq g36.symm))
  have g_b36 : n0 ≤ b36 := Nat.le_trans Zn (Nat.le_of_eq g36.symm)
  have b_b36 : h0.size ≤ b36 := Nat.le_trans Kp.1 (Nat.le_of_eq g36.symm)
  have F_a_rows := F_a_rows.ext E36
  have F_a_resultCount := F_a_resultCount.ext E36
  have F_a_page := F_a_page.ext E36
  have F_a_perPage := F_a_perPage.ext E36
  have E_a := E_a.ext E36
  have ob := own_Lst_ext ob E36
  have O := O.ext E36
  have Zn := Nat.le_trans Zn E36.1
  have Kp := Kp.ext E36
  have E_b36 := A36
  have F_b36_modCount : Fld Z h36 b36 "java/util/AbstractList" "modCount" "I" (.int (0 : Int32)) := D36 (Or.inl (hw _ (List.mem_of_getElem? (i := 31) rfl))) (ty := .int) (by decide)
  have F_b36_elementData : Fld Z h36 b36 "java/util/ArrayList" "elementData" "[Ljava/lang/Object;" .null := D36 (Or.inl (hw _ (List.mem_of_getElem? (i := 34) rfl))) (ty := (.array (.object "java/lang/Object"))) (by decide)
  have F_b36_size : Fld Z h36 b36 "java/util/ArrayList" "size" "I" (.int (0 : Int32)) := D36 (Or.inl (hw _ (List.mem_of_getElem? (i := 53) rfl))) (ty := .int) (by decide)
  refine own_st (A := T36.setTop (mkF mM 8 #[.val (.ref a), .val (.ref l'), .val (.long rc), .second, .val (.int d), .val (.int pp)] [(.ref b36), (.ref a)])) (fun tT_ kK_ => st36 tT_ kK_) ?_
  refine own_st (A := T36.setTop (mkF mM 9 #[.val (.ref a), .val (.ref l'), .val (.long rc), .second, .val (.int d), .val (.int pp)] [(.ref b36), (.ref b36), (.ref a)])) (fun tT_ kK_ => XS.dup X36.here hx rfl (hb hby d6_8) rfl rfl kK_) ?_
  refine own_st (A := T36.setTop (mkF mM 10 #[.val (.ref a), .val (.ref l'), .val (.long rc), .second, .val (.int d), .val (.int pp)] [(.ref l'), (.ref b36), (.ref b36), (.ref a)])) (fun tT_ kK_ => XS.aloadN X36.here hx rfl (hb hby d6_9) rfl rfl kK_) ?_
  obtain ⟨_, _, ⟨T37, L37, k37, n37⟩, -, X37, ⟨Lc37, hQ37, l37, y37, z37⟩, st37⟩ := X36.specialBack hx (y := (⟨"java/util/ArrayList", "<init>", "(Ljava/util/Collection;)V"⟩ : MethodName)) rfl hown (mvT hZ (hw _ (List.mem_of_getElem? (i := 40) rfl))) (mvT hZ (hw _ (List.mem_of_getElem? (i := 41) rfl))) (mvT hZ (hw _ (List.mem_of_getElem? (i := 42) rfl))) (by decide) (backOf (W := 2) (rmAC1 lL Z a0 hw [] b36 l' dc kd mo ee h36 n0 g_b36 E_b36 F_b36_modCount F_b36_elementData F_b36_size O Zn V_dc E_dc M_oa ob ne_l'_b36 S_ee) hZ (hw _ (List.mem_of_getElem? (i := 42) rfl)) (hw _ (List.mem_of_getElem? (i := 11) rfl)) (by decide) (by decide)) (g := (mkF mM 10 #[.val (.ref a), .val (.ref l'), .val (.long rc), .second, .val (.int d), .val (.int pp)] [(.ref l'), (.ref b36), (.ref b36), (.ref a)])) rfl (by rw [hml]; rfl) (Steps.refl _) (a := b36) (argsL := [(.ref l')]) (rest := [(.ref b36), (.ref a)]) (lenOf pd__28Ljava_2futil_2fCollection_3b_29V rfl) rfl (by show 2 * 0 + _ ≤ _; exact Nat.le_of_eq rfl) (hb hby d6_10) (fun _ _ => ⟨rfl, e36, (by decide : 1 + 1 ≤ _), (by decide : 3 + 0 ≤ _)⟩)
  dsimp only [Pt.U, Pt.locs, Pt.cells, Pt.slots] at X37 l37 y37 z37 st37 hQ37
  subst l37 y37 z37
  obtain ⟨rfl, N37q, K37, x37⟩ := hQ37
  have N37 := Fr.app N0 N37q
  have e37 : T37.heap = T37.heap := rfl
  refine own_st (A := T37.setTop (mkF mM 13 #[.val (.ref a), .val (.ref l'), .val (.long rc), .second, .val (.int d), .val (.int pp)] [(.ref b36), (.ref a)])) (fun tT_ kK_ => st37.trans kK_) ?_
  have F_a_rows := F_a_rows.keep K37 (ninS ne_a_b36 nin0)
  have F_a_resultCount := F_a_resultCount.keep K37 (ninS ne_a_b36 nin0)
  have F_a_page := F_a_page.keep K37 (ninS ne_a_b36 nin0)
  have F_a_perPage := F_a_perPage.keep K37 (ninS ne_a_b36 nin0)
  have E_a := E_a.keep K37
  have E_b36 := E_b36.keep K37
  have O := O.keep K37 (allS g_b36 all0)
  have Zn := Nat.le_trans Zn K37.1
  have Kp := Kp.trans K37 (allS (Or.inr b_b36) all0)
  obtain ⟨_, _, ⟨T38, L38, k38, n38⟩, -, X38, ⟨Lc38, hQ38, l38, y38, z38⟩, st38⟩ := Jvm.LawKit.callS X37 hx (y := (⟨"java/util/Collections", "unmodifiableList", "(Ljava/util/List;)Ljava/util/List;"⟩ : MethodName)) hown (mvT hZ (hw _ (List.mem_of_getElem? (i := 78) rfl))) (mvT hZ (hw _ (List.mem_of_getElem? (i := 79) rfl))) (mvT hZ (hw _ (List.mem_of_getElem? (i := 80) rfl))) (mvT hZ (hw _ (List.mem_of_getElem? (i := 81) rfl))) (by decide) (backOf (W := 1) (rmUn lL Z a0 hw [] b36 ma ml mr T37.heap n0 Zn E_b36 M_a M_l M_r) hZ (hw _ (List.mem_of_getElem? (i := 81) rfl)) (hw _ (List.mem_of_getElem? (i := 80) rfl)) (by decide) (by decide)) (g := (mkF mM 13 #[.val (.ref a), .val (.ref l'), .val (.long rc), .second, .val (.int d), .val (.int pp)] [(.ref b36), (.ref a)])) rfl (by rw [hml]; rfl) (argsL := [(.ref b36)]) (rest := [(.ref a)]) (lenOf pd__28Ljava_2futil_2fList_3b_29Ljava_2futil_2fList_3b rfl) rfl (by show 2 * 0 + _ ≤ _; exact Nat.le_of_eq rfl) (hb hby d6_13) (fun _ _ => ⟨rfl, e37, (by decide : 2 + 1 ≤ _), (by decide : 3 + 2 ≤ _)⟩)
  dsimp only [Pt.U, Pt.locs, Pt.cells, Pt.slots] at X38 l38 y38 z38 st38 hQ38
  subst l38 y38 z38
  obtain ⟨b38, rfl, N38q, E38⟩ := hQ38
  have N38 := Fr.app N37 N38q
  have e38 : T38.heap = T38.heap := rfl
  refine own_st (A := T38.setTop (mkF mM 16 #[.val (.ref a), .val (.ref l'), .val (.long rc), .second, .val (.int d), .val (.int pp)] [(.ref b38), (.ref a)])) (fun tT_ kK_ => st38 tT_ kK_) ?_
  have F_a_rows := F_a_rows.ext E38
  have F_a_resultCount := F_a_resultCount.ext E38
  have F_a_page := F_a_page.ext E38
  have F_a_perPage := F_a_perPage.ext E38
  have E_a := E_a.ext E38
  have E_b36 := E_b36.ext E38
  have O := O.ext E38
  have Zn := Nat.le_trans Zn E38.1
  have Kp := Kp.ext E38
  obtain ⟨T39, h39, X39, e39, W39, st39⟩ := putF X38 hx hZ hown (host := "") (Or.inl (hw _ (List.mem_of_getElem? (i := 118) rfl))) Via.refl e38 F_a_rows E_a (Or.inr ⟨(hw _ (List.mem_of_getElem? (i := 119) rfl)), rfl, hnm⟩) (hw _ (List.mem_of_getElem? (i := 7) rfl)) (ty := (.object "java/util/List")) (by decide) rfl rfl (g := (mkF mM 16 #[.val (.ref a), .val (.ref l'), .val (.long rc), .second, .val (.int d), .val (.int pp)] [(.ref b38), (.ref a)])) rfl rfl (hb hby d6_16)
  have N39 := Fr.snoc X39 N38 g_a
  have F_a_rows := F_a_rows.same W39
  have F_a_resultCount := F_a_resultCount.other W39 (Or.inr (slot_ne (Or.inr (hw _ (List.mem_of_getElem? (i := 121) rfl))) (Or.inr (hw _ (List.mem_of_getElem? (i := 119) rfl))) (by decide) (t := .long) (t' := (.object "java/util/List")) (by decide) (by decide)))
  have F_a_page := F_a_page.other W39 (Or.inr (slot_ne (Or.inr (hw _ (List.mem_of_getElem? (i := 123) rfl))) (Or.inr (hw _ (List.mem_of_getElem? (i := 119) rfl))) (by decide) (t := .int) (t' := (.object "java/util/List")) (by decide) (by decide)))
  have F_a_perPage := F_a_perPage.other W39 (Or.inr (slot_ne (Or.inr (hw _ (List.mem_of_getElem? (i := 125) rfl))) (Or.inr (hw _ (List.mem_of_getElem? (i := 119) rfl))) (by decide) (t := .int) (t' := (.object "java/util/List")) (by decide) (by decide)))
  have E_a := E_a.wr W39
  have E_b36 := E_b36.wr W39
  have O := O.wr W39 g_a
  have Zn := Nat.le_trans Zn (Keep.of_wr W39).1
  have Kp := Kp.wr W39 (Or.inl (List.mem_of_getElem? (i := 0) rfl))
  refine own_st (A := T39.setTop (mkF mM 19 #[.val (.ref a), .val (.ref l'), .val (.long rc), .second, .val (.int d), .val (.int pp)] [])) (fun tT_ kK_ => st39 tT_ kK_) ?_
  refine own_st (A := T39.setTop (mkF mM 20 #[.val (.ref a), .val (.ref l'), .val (.long rc), .second, .val (.int d), .val (.int pp)] [(.ref a)])) (fun tT_ kK_ => XS.aloadN X39.here hx rfl (hb hby d6_19) rfl rfl kK_) ?_
  refine own_st (A := T39.setTop (mkF mM 21 #[.val (.ref a), .val (.ref l'), .val (.long rc), .second, .val (.int d), .val (.int pp)] [(.long rc), (.ref a)])) (fun tT_ kK_ => XS.lloadN X39.here hx rfl (hb hby d6_20) rfl kK_) ?_
  obtain ⟨T40, h40, X40, e40, W40, st40⟩ := putF X39 hx hZ hown (host := "") (Or.inl (hw _ (List.mem_of_getElem? (i := 120) rfl))) Via.refl e39 F_a_resultCount E_a (Or.inr ⟨(hw _ (List.mem_of_getElem? (i := 121) rfl)), rfl, hnm⟩) (hw _ (List.mem_of_getElem? (i := 7) rfl)) (ty := .long) (by decide) rfl rfl (g := (mkF mM 21 #[.val (.ref a), .val (.ref l'), .val (.long rc), .second, .val (.int d), .val (.int pp)] [(.long rc), (.ref a)])) rfl rfl (hb hby d6_21)
  have N40 := Fr.snoc X40 N39 g_a
  have F_a_rows := F_a_rows.other W40 (Or.inr (slot_ne (Or.inr (hw _ (List.mem_of_getElem? (i := 119) rfl))) (Or.inr (hw _ (List.mem_of_getElem? (i := 121) rfl))) (by decide) (t := (.object "java/util/List")) (t' := .long) (by decide) (by decide)))
  have F_a_resultCount := F_a_resultCount.same W40
  have F_a_page := F_a_page.other W40 (Or.inr (slot_ne (Or.inr (hw _ (List.mem_of_getElem? (i := 123) rfl))) (Or.inr (hw _ (List.mem_of_getElem? (i := 121) rfl))) (by decide) (t := .int) (t' := .long) (by decide) (by decide)))
  have F_a_perPage := F_a_perPage.other W40 (Or.inr (slot_ne (Or.inr (hw _ (List.mem_of_getElem? (i := 125) rfl))) (Or.inr (hw _ (List.mem_of_getElem? (i := 121) rfl))) (by decide) (t := .int) (t' := .long) (by decide) (by decide)))
  have E_a := E_a.wr W40
  have E_b36 := E_b36.wr W40
  have O := O.wr W40 g_a
  have Zn := Nat.le_trans Zn (Keep.of_wr W40).1
  have Kp := Kp.wr W40 (Or.inl (List.mem_of_getElem? (i := 0) rfl))
  refine own_st (A := T40.setTop (mkF mM 24 #[.val (.ref a), .val (.ref l'), .val (.long rc), .second, .val (.int d), .val (.int pp)] [])) (fun tT_ kK_ => st40 tT_ kK_) ?_
  refine own_st (A := T40.setTop (mkF mM 25 #[.val (.ref a), .val (.ref l'), .val (.long rc), .second, .val (.int d), .val (.int pp)] [(.ref a)])) (fun tT_ kK_ => XS.aloadN X40.here hx rfl (hb hby d6_24) rfl rfl kK_) ?_
  refine own_st (A := T40.setTop (mkF mM 27 #[.val (.ref a), .val (.ref l'), .val (.long rc), .second, .val (.int d), .val (.int pp)] [(.int d), (.ref a)])) (fun tT_ kK_ => XS.iload X40.here hx rfl (hb hby d6_25) rfl kK_) ?_
  obtain ⟨T41, h41, X41, e41, W41, st41⟩ := putF X40 hx hZ hown (host := "") (Or.inl (hw _ (List.mem_of_getElem? (i := 122) rfl))) Via.refl e40 F_a_page E_a (Or.inr ⟨(hw _ (List.mem_of_getElem? (i := 123) rfl)), rfl, hnm⟩) (hw _ (List.mem_of_getElem? (i := 7) rfl)) (ty := .int) (by decide) rfl rfl (g := (mkF mM 27 #[.val (.ref a), .val (.ref l'), .val (.long rc), .second, .val (.int d), .val (.int pp)] [(.int d), (.ref a)])) rfl rfl (hb hby d6_27)
  have N41 := Fr.snoc X41 N40 g_a
  have F_a_rows := F_a_rows.other W41 (Or.inr (slot_ne (Or.inr (hw _ (List.mem_of_getElem? (i := 119) rfl))) (Or.inr (hw _ (List.mem_of_getElem? (i := 123) rfl))) (by decide) (t := (.object "java/util/List")) (t' := .int) (by decide) (by decide)))
  have F_a_resultCount := F_a_resultCount.other W41 (Or.inr (slot_ne (Or.inr (hw _ (List.mem_of_getElem? (i := 121) rfl))) (Or.inr (hw _ (List.mem_of_getElem? (i := 123) rfl))) (by decide) (t := .long) (t' := .int) (by decide) (by decide)))
  have F_a_page := F_a_page.same W41
  have F_a_perPage := F_a_perPage.other W41 (Or.inr (slot_ne (Or.inr (hw _ (List.mem_of_getElem? (i := 125) rfl))) (Or.inr (hw _ (List.mem_of_getElem? (i := 123) rfl))) (by decide) (t := .int) (t' := .int) (by decide) (by decide)))
  have E_a := E_a.wr W41
  have E_b36 := E_b36.wr W41
  have O := O.wr W41 g_a
  have Zn := Nat.le_trans Zn (Keep.of_wr W41).1
  have Kp := Kp.wr W41 (Or.inl (List.mem_of_getElem? (i := 0) rfl))
  refine own_st (A := T41.setTop (mkF mM 30 #[.val (.ref a), .val (.ref l'), .val (.long rc), .second, .val (.int d), .val (.int pp)] [])) (fun tT_ kK_ => st41 tT_ kK_) ?_
  refine own_st (A := T41.setTop (mkF mM 31 #[.val (.ref a), .val (.ref l'), .val (.long rc), .second, .val (.int d), .val (.int pp)] [(.ref a)])) (fun tT_ kK_ => XS.aloadN X41.here hx rfl (hb hby d6_30) rfl rfl kK_) ?_
  refine own_st (A := T41.setTop (mkF mM 33 #[.val (.ref a), .val (.ref l'), .val (.long rc), .second, .val (.int d), .val (.int pp)] [(.int pp), (.ref a)])) (fun tT_ kK_ => XS.iload X41.here hx rfl (hb hby d6_31) rfl kK_) ?_
  obtain ⟨T42, h42, X42, e42, W42, st42⟩ := putF X41 hx hZ hown (host := "") (Or.inl (hw _ (List.mem_of_getElem? (i := 124) rfl))) Via.refl e41 F_a_perPage E_a (Or.inr ⟨(hw _ (List.mem_of_getElem? (i := 125) rfl)), rfl, hnm⟩) (hw _ (List.mem_of_getElem? (i := 7) rfl)) (ty := .int) (by decide) rfl rfl (g := (mkF mM 33 #[.val (.ref a), .val (.ref l'), .val (.long rc), .second, .val (.int d), .val (.int pp)] [(.int pp), (.ref a)])) rfl rfl (hb hby d6_33)
  have N42 := Fr.snoc X42 N41 g_a
  have F_a_rows := F_a_rows.other W42 (Or.inr (slot_ne (Or.inr (hw _ (List.mem_of_getElem? (i := 119) rfl))) (Or.inr (hw _ (List.mem_of_getElem? (i := 125) rfl))) (by decide) (t := (.object "java/util/List")) (t' := .int) (by decide) (by decide)))
  have F_a_resultCount := F_a_resultCount.other W42 (Or.inr (slot_ne (Or.inr (hw _ (List.mem_of_getElem? (i := 121) rfl))) (Or.inr (hw _ (List.mem_of_getElem? (i := 125) rfl))) (by decide) (t := .long) (t' := .int) (by decide) (by decide)))
  have F_a_page := F_a_page.other W42 (Or.inr (slot_ne (Or.inr (hw _ (List.mem_of_getElem? (i := 123) rfl))) (Or.inr (hw _ (List.mem_of_getElem? (i := 125) rfl))) (by decide) (t := .int) (t' := .int) (by decide) (by decide)))
  have F_a_perPage := F_a_perPage.same W42
  have E_a := E_a.wr W42
  have E_b36 := E_b36.wr W42
  have O := O.wr W42 g_a
  have Zn := Nat.le_trans Zn (Keep.of_wr W42).1
  have Kp := Kp.wr W42 (Or.inl (List.mem_of_getElem? (i := 0) rfl))
  refine own_st (A := T42.setTop (mkF mM 36 #[.val (.ref a), .val (.ref l'), .val (.long rc), .second, .val (.int d), .val (.int pp)] [])) (fun tT_ kK_ => st42 tT_ kK_) ?_
  exact own_retV X42 hx hlk hret (hb hby d6_36) (by rw [e42]; exact ⟨rfl, N42, Kp, E_a, F_a_resultCount, F_a_page, F_a_perPage⟩) (by decide) (by decide)
def Qm (h0 : Heap) (n0 : Nat) (v : Option Value) (h : Heap) (L : List Loc) : Prop := ∃ r : Int32, v = some (.int r) ∧ Fr n0 L ∧ h = h0 ∧ 1 ≤ r.toInt
theorem own_gt1 {x : Int32} (h : (1 : Int32) < x) : 1 ≤ x.toInt := by
  rw [Int32.lt_iff_toInt_lt] at h
  have e : (1 : Int32).toInt = 1 := by decide
  omega
theorem d1_0 : decode jdk_29_method_65_code 0 = .ok (.iload_n 0, 1) := by decide +kernel
theorem d1_1 : decode jdk_29_method_65_code 1 = .ok (.iload_n 1, 1) := by decide +kernel
theorem d1_2 : decode jdk_29_method_65_code 2 = .ok (.if_icmp .lt 7, 3) := by decide +kernel
theorem d1_9 : decode jdk_29_method_65_code 9 = .ok (.iload_n 1, 1) := by decide +kernel
theorem d1_10 : decode jdk_29_method_65_code 10 = .ok (.ireturn, 1) := by decide +kernel
theorem d1_5 : decode jdk_29_method_65_code 5 = .ok (.iload_n 0, 1) := by decide +kernel
theorem d1_6 : decode jdk_29_method_65_code 6 = .ok (.goto 4, 3) := by decide +kernel
theorem pn_java_2flang_2fMath_1 : plainFor (⟨"java/lang/Math", "max", "(II)I"⟩ : MethodName) = true := by decide +kernel
theorem ef_rmMax (mM : MethodId) (x : Int32) : entryFrame mM #[(.int (1 : Int32)), (.int x)] 2 = mkF mM 0 #[.val (.int (1 : Int32)), .val (.int x)] [] := by first | (simp [entryFrame, mkF, argsToLocals, Value.category]; done) | rfl
set_option maxRecDepth 65536 in
set_option maxHeartbeats 40000000 in
theorem rmMax (lL : Launch) (Z : State) (a0 : Array Value) (hw : ∀ d ∈ tables_1, d.before a0 Z = true) (ws : List Jvm.Cond) (x : Int32) (h0 : Heap) (n0 : Nat)  :
    MetFree lL (⟨"java/lang/Math", "max", "(II)I"⟩ : MethodName) (head1 (Jvm.Cond.code (⟨"java/lang/Math", "max", "(II)I"⟩ : MethodName) jdk_29_method_65_code 2 (some .int) :: ws) ({ frames := 0, cells := 0, slots := 0, locals := 0 } : Room)) (fun as_ uU_ => as_ = #[(.int (1 : Int32)), (.int x)] ∧ Z.Warmed39 uU_.vm ∧ uU_.heap = h0) (fun _ _ _ _ _ => True) (fun _ uU_ oO_ uE_ => ∃ vV_ lL_, oO_ = .returned vV_ ∧ Qm h0 n0 vV_ uE_.heap lL_ ∧ FrameEnd uU_ oO_ uE_ lL_ ({ frames := 0, cells := 0, slots := 0, locals := 0 } : Room).cells ({ frames := 0, cells := 0, slots := 0, locals := 0 } : Room).slots) := by
  refine MetFree.of_bodySF pn_java_2flang_2fMath_1 hisR ?_
  intro pP eE sS mM args below meth cC s₁ Bd hml0 hP hK
  obtain ⟨rfl, hZ, hh⟩ := hP
  have hx := Bd.exec
  have hby := Bd.bytes
  have hml : cC.maxLocals = 2 := hml0
  have hown : sS.vm.findClass "java/lang/Math" = some mM.cls := findClass_of_methodNamed Bd.named
  have hnm := (name_of_methodNamed Bd.named Bd.method).1
  have hret := Bd.returns
  have hlk := BodyLoose.notSynchronized Bd
  have X0 : Stand pP lL eE ({ frames := 0, cells := 0, slots := 0, locals := 0 } : Room) sS mM #[(.int (1 : Int32)), (.int x)] below meth cC s₁ [] 0 0 := Stand.of_body Bd
  have e0 : s₁.heap = h0 := by rw [← hh, Bd.state]; rfl
  have N0 := Fr.nil n0
  show own_Go pP eE below sS (Qm h0 n0) 0 0 (s₁.setTop (entryFrame mM #[(.int (1 : Int32)), (.int x)] 2))
  refine own_st (A := s₁.setTop (mkF mM 0 #[.val (.int (1 : Int32)), .val (.int x)] [])) (fun tT_ kK_ => castTop (ef_rmMax mM x) kK_) ?_
  refine own_st (A := s₁.setTop (mkF mM 1 #[.val (.int (1 : Int32)), .val (.int x)] [(.int (1 : Int32))])) (fun tT_ kK_ => XS.iloadN X0.here hx rfl (hb hby d1_0) rfl kK_) ?_
  refine own_st (A := s₁.setTop (mkF mM 2 #[.val (.int (1 : Int32)), .val (.int x)] [(.int x), (.int (1 : Int32))])) (fun tT_ kK_ => XS.iloadN X0.here hx rfl (hb hby d1_1) rfl kK_) ?_
  by_cases hc2_43 : (1 : Int32) < x
  · skip
    refine own_st (A := s₁.setTop (mkF mM 9 #[.val (.int (1 : Int32)), .val (.int x)] [])) (fun tT_ kK_ => XS.icmpYes X0.here hx rfl (pc0 := 2) (pc' := 9) rfl (hb hby d1_2) rfl (tlt hc2_43).1 (by decide) (by decide) kK_) ?_
    refine own_st (A := s₁.setTop (mkF mM 10 #[.val (.int (1 : Int32)), .val (.int x)] [(.int x)])) (fun tT_ kK_ => XS.iloadN X0.here hx rfl (hb hby d1_9) rfl kK_) ?_
    exact own_retI X0 hx hlk hret (hb hby d1_10) ⟨_, rfl, N0, e0, own_gt1 hc2_43⟩ (by decide) (by decide)
  · skip
    refine own_st (A := s₁.setTop (mkF mM 5 #[.val (.int (1 : Int32)), .val (.int x)] [])) (fun tT_ kK_ => XS.icmpNo X0.here hx rfl (hb hby d1_2) rfl (flt hc2_43).1 kK_) ?_
    refine own_st (A := s₁.setTop (mkF mM 6 #[.val (.int (1 : Int32)), .val (.int x)] [(.int (1 : Int32))])) (fun tT_ kK_ => XS.iloadN X0.here hx rfl (hb hby d1_5) rfl kK_) ?_
    refine own_st (A := s₁.setTop (mkF mM 10 #[.val (.int (1 : Int32)), .val (.int x)] [(.int (1 : Int32))])) (fun tT_ kK_ => XS.goto X0.here hx rfl (pc0 := 6) (pc' := 10) rfl (hb hby d1_6) (by decide) (by decide) kK_) ?_
    exact own_retI X0 hx hlk hret (hb hby d1_10) ⟨_, rfl, N0, e0, by decide⟩ (by decide) (by decide)
theorem d16_0 : decode prog_22_method_7_code 0 = .ok (.aload_n 0, 1) := by decide +kernel
theorem d16_1 : decode prog_22_method_7_code 1 = .ok (.getfield 28, 3) := by decide +kernel
theorem d16_4 : decode prog_22_method_7_code 4 = .ok (.i2l, 1) := by decide +kernel
theorem d16_5 : decode prog_22_method_7_code 5 = .ok (.aload_n 0, 1) := by decide +kernel
theorem d16_6 : decode prog_22_method_7_code 6 = .ok (.getfield 32, 3) := by decide +kernel
theorem d16_9 : decode prog_22_method_7_code 9 = .ok (.i2l, 1) := by decide +kernel
theorem d16_10 : decode prog_22_method_7_code 10 = .ok (.lmul, 1) := by decide +kernel
theorem d16_11 : decode prog_22_method_7_code 11 = .ok (.aload_n 0, 1) := by decide +kernel
theorem d16_12 : decode prog_22_method_7_code 12 = .ok (.getfield 24, 3) := by decide +kernel
theorem d16_15 : decode prog_22_method_7_code 15 = .ok (.lcmp, 1) := by decide +kernel
theorem d16_16 : decode prog_22_method_7_code 16 = .ok (.ifCond .ge 7, 3) := by decide +kernel
theorem d16_19 : decode prog_22_method_7_code 19 = .ok (.iconst 1, 1) := by decide +kernel
theorem d16_20 : decode prog_22_method_7_code 20 = .ok (.goto 4, 3) := by decide +kernel
theorem d16_24 : decode prog_22_method_7_code 24 = .ok (.ireturn, 1) := by decide +kernel
theorem d16_23 : decode prog_22_method_7_code 23 = .ok (.iconst 0, 1) := by decide +kernel
theorem ef_rmH (mM : MethodId) (a : Addr) (rc : Int64) (pg : Int32) (pp : Int32) (r : Int32) : entryFrame mM #[(.ref a)] 1 = mkF mM 0 #[.val (.ref a)] [] := by first | (simp [entryFrame, mkF, argsToLocals, Value.category]; done) | rfl
set_option maxRecDepth 65536 in
set_option maxHeartbeats 40000000 in
theorem rmH (lL : Launch) (Z : State) (a0 : Array Value) (hw : ∀ d ∈ tables_1, d.before a0 Z = true) (ws : List Jvm.Cond) (a : Addr) (rc : Int64) (pg : Int32) (pp : Int32) (r : Int32) (h0 : Heap) (n0 : Nat) (F_a_resultCount : Fld Z h0 a "com/example/vyasa/vyasa/Page" "resultCount" "J" (.long rc)) (F_a_page : Fld Z h0 a "com/example/vyasa/vyasa/Page" "page" "I" (.int pg)) (F_a_perPage : Fld Z h0 a "com/example/vyasa/vyasa/Page" "perPage" "I" (.int pp)) (c1 : (lcmpW (((pg).toInt64) * ((pp).toInt64)) rc) < (0 : Int32) → r = 1) (c0 : ¬ (lcmpW (((pg).toInt64) * ((pp).toInt64)) rc) < (0 : Int32) → r = 0) :
    MetFree lL (⟨"com/example/vyasa/vyasa/Page", "hasNext", "()Z"⟩ : MethodName) (head1 (Jvm.Cond.code (⟨"com/example/vyasa/vyasa/Page", "hasNext", "()Z"⟩ : MethodName) prog_22_method_7_code 1 (some .boolean) :: ws) ({ frames := 0, cells := 0, slots := 0, locals := 0 } : Room)) (fun as_ uU_ => as_ = #[(.ref a)] ∧ Z.Warmed39 uU_.vm ∧ uU_.heap = h0) (fun _ _ _ _ _ => True) (fun _ uU_ oO_ uE_ => ∃ vV_ lL_, oO_ = .returned vV_ ∧ Qw (.int r) h0 n0 vV_ uE_.heap lL_ ∧ FrameEnd uU_ oO_ uE_ lL_ ({ frames := 0, cells := 0, slots := 0, locals := 0 } : Room).cells ({ frames := 0, cells := 0, slots := 0, locals := 0 } : Room).slots) := by
  refine MetFree.of_bodySF (plainFor_of_name pn_com_2fexample_2fvyasa_2fvyasa_2fPage) hisR ?_
  intro pP eE sS mM args below meth cC s₁ Bd hml0 hP hK
  obtain ⟨rfl, hZ, hh⟩ := hP
  have hx := Bd.exec
  have hby := Bd.bytes
  have hml : cC.maxLocals = 1 := hml0
  have hown : sS.vm.findClass "com/example/vyasa/vyasa/Page" = some mM.cls := findClass_of_methodNamed Bd.named
  have hnm := (name_of_methodNamed Bd.named Bd.method).1
  have hret := Bd.returns
  have hlk := BodyLoose.notSynchronized Bd
  have X0 : Stand pP lL eE ({ frames := 0, cells := 0, slots := 0, locals := 0 } : Room) sS mM #[(.ref a)] below meth cC s₁ [] 0 0 := Stand.of_body Bd
  have e0 : s₁.heap = h0 := by rw [← hh, Bd.state]; rfl
  have N0 := Fr.nil n0
  show own_Go pP eE below sS (Qw (.int r) h0 n0) 0 0 (s₁.setTop (entryFrame mM #[(.ref a)] 1))
  refine own_st (A := s₁.setTop (mkF mM 0 #[.val (.ref a)] [])) (fun tT_ kK_ => castTop (ef_rmH mM a rc pg pp r) kK_) ?_
  refine own_st (A := s₁.setTop (mkF mM 1 #[.val (.ref a)] [(.ref a)])) (fun tT_ kK_ => XS.aloadN X0.here hx rfl (hb hby d16_0) rfl rfl kK_) ?_
  obtain ⟨T44, X44, e44, st44⟩ := getF X0 hx hZ hown (host := "") (Or.inl (hw _ (List.mem_of_getElem? (i := 122) rfl))) Via.refl e0 F_a_page (g := (mkF mM 1 #[.val (.ref a)] [(.ref a)])) rfl rfl (hb hby d16_1)
  refine own_st (A := T44.setTop (mkF mM 4 #[.val (.ref a)] [(.int pg)])) (fun tT_ kK_ => st44 tT_ kK_) ?_
  refine own_st (A := T44.setTop (mkF mM 5 #[.val (.ref a)] [(.long ((pg).toInt64))])) (fun tT_ kK_ => XS.i2l X44.here hx rfl (hb hby d16_4) rfl kK_) ?_
  refine own_st (A := T44.setTop (mkF mM 6 #[.val (.ref a)] [(.ref a), (.long ((pg).toInt64))])) (fun tT_ kK_ => XS.aloadN X44.here hx rfl (hb hby d16_5) rfl rfl kK_) ?_
  obtain ⟨T45, X45, e45, st45⟩ := getF X44 hx hZ hown (host := "") (Or.inl (hw _ (List.mem_of_getElem? (i := 124) rfl))) Via.refl e44 F_a_perPage (g := (mkF mM 6 #[.val (.ref a)] [(.ref a), (.long ((pg).toInt64))])) rfl rfl (hb hby d16_6)
  refine own_st (A := T45.setTop (mkF mM 9 #[.val (.ref a)] [(.int pp), (.long ((pg).toInt64))])) (fun tT_ kK_ => st45 tT_ kK_) ?_
  refine own_st (A := T45.setTop (mkF mM 10 #[.val (.ref a)] [(.long ((pp).toInt64)), (.long ((pg).toInt64))])) (fun tT_ kK_ => XS.i2l X45.here hx rfl (hb hby d16_9) rfl kK_) ?_
  refine own_st (A := T45.setTop (mkF mM 11 #[.val (.ref a)] [(.long (((pg).toInt64) * ((pp).toInt64)))])) (fun tT_ kK_ => XS.lmul X45.here hx rfl (hb hby d16_10) rfl kK_) ?_
  refine own_st (A := T45.setTop (mkF mM 12 #[.val (.ref a)] [(.ref a), (.long (((pg).toInt64) * ((pp).toInt64)))])) (fun tT_ kK_ => XS.aloadN X45.here hx rfl (hb hby d16_11) rfl rfl kK_) ?_
  obtain ⟨T46, X46, e46, st46⟩ := getF X45 hx hZ hown (host := "") (Or.inl (hw _ (List.mem_of_getElem? (i := 120) rfl))) Via.refl e45 F_a_resultCount (g := (mkF mM 12 #[.val (.ref a)] [(.ref a), (.long (((pg).toInt64) * ((pp).toInt64)))])) rfl rfl (hb hby d16_12)
  refine own_st (A := T46.setTop (mkF mM 15 #[.val (.ref a)] [(.long rc), (.long (((pg).toInt64) * ((pp).toInt64)))])) (fun tT_ kK_ => st46 tT_ kK_) ?_
  refine own_st (A := T46.setTop (mkF mM 16 #[.val (.ref a)] [(.int (lcmpW (((pg).toInt64) * ((pp).toInt64)) rc))])) (fun tT_ kK_ => XS.lcmp X46.here hx rfl (hb hby d16_15) rfl kK_) ?_
  by_cases hc16_47 : (lcmpW (((pg).toInt64) * ((pp).toInt64)) rc) < (0 : Int32)
  · skip
    refine own_st (A := T46.setTop (mkF mM 19 #[.val (.ref a)] [])) (fun tT_ kK_ => XS.ifNo X46.here hx rfl (hb hby d16_16) rfl ((if0 _ _).trans (tlt hc16_47).2.1) kK_) ?_
    refine own_st (A := T46.setTop (mkF mM 20 #[.val (.ref a)] [(.int (1 : Int32))])) (fun tT_ kK_ => XS.iconst X46.here hx rfl (hb hby d16_19) kK_) ?_
    refine own_st (A := T46.setTop (mkF mM 24 #[.val (.ref a)] [(.int (1 : Int32))])) (fun tT_ kK_ => XS.goto X46.here hx rfl (pc0 := 20) (pc' := 24) rfl (hb hby d16_20) (by decide) (by decide) kK_) ?_
    exact own_retN X46 hx hlk (t := .boolean) hret (by simp) (hb hby d16_24) (by rw [c1 hc16_47]; exact ⟨rfl, N0, e46⟩) (by decide) (by decide)
  · skip
    refine own_st (A := T46.setTop (mkF mM 23 #[.val (.ref a)] [])) (fun tT_ kK_ => XS.ifYes X46.here hx rfl (pc0 := 16) (pc' := 23) rfl (hb hby d16_16) rfl ((if0 _ _).trans (flt hc16_47).2.1) (by decide) (by decide) kK_) ?_
    refine own_st (A := T46.setTop (mkF mM 24 #[.val (.ref a)] [(.int (0 : Int32))])) (fun tT_ kK_ => XS.iconst X46.here hx rfl (hb hby d16_23) kK_) ?_
    exact own_retN X46 hx hlk (t := .boolean) hret (by simp) (hb hby d16_24) (by rw [c0 hc16_47]; exact ⟨rfl, N0, e46⟩) (by decide) (by decide)
theorem own_mul (q p : Int) (h1 : 0 ≤ q) (h2 : q ≤ 2147483647) (h3 : 0 ≤ p) (h4 : p ≤ 2147483647) : 0 ≤ q * p ∧ q * p ≤ 4611686014132420609 := by
  refine ⟨Int.mul_nonneg h1 h3, ?_⟩
  have := Int.mul_le_mul h2 h4 h3 (by omega : (0 : Int) ≤ 2147483647)
  omega
theorem own_lt0 (g f p : Int) (hp : 1 ≤ p) : g * p < f * p ↔ g < f := by
  refine ⟨fun h => Int.lt_of_not_ge fun k => ?_, fun h => ?_⟩
  · have := Int.mul_le_mul_of_nonneg_right (show f ≤ g from k) (show (0 : Int) ≤ p by omega)
    omega
  · have := Int.mul_le_mul_of_nonneg_right (show g + 1 ≤ f by omega) (show (0 : Int) ≤ p by omega)
    rw [Int.add_mul] at this
    omega
theorem own_lt1 (g f p m : Int) (hp : 1 ≤ p) (hm : 1 ≤ m) (hm2 : m < p) : g * p < f * p + m ↔ g < f + 1 := by
  refine ⟨fun h => Int.lt_of_not_ge fun k => ?_, fun h => ?_⟩
  · have := Int.mul_le_mul_of_nonneg_right (show f + 1 ≤ g from k) (show (0 : Int) ≤ p by omega)
    rw [Int.add_mul] at this
    omega
  · have := Int.mul_le_mul_of_nonneg_right (show g ≤ f by omega) (show (0 : Int) ≤ p by omega)
    omega
theorem own_next (rc : Int64) (pg pp : Int32) (hg : 1 ≤ pg.toInt) (hp : 1 ≤ pp.toInt) (hrc : 0 ≤ rc.toInt) : (¬ ((pp).toInt64) = (0 : Int64)) ∧
    ((lcmpW (rc - (rc / ((pp).toInt64)) * ((pp).toInt64)) (0 : Int64)) = (0 : Int32) → ((lcmpW (((pg).toInt64) * ((pp).toInt64)) rc) < (0 : Int32) ↔ (lcmpW ((pg).toInt64) (rc / ((pp).toInt64))) < (0 : Int32))) ∧ (¬ (lcmpW (rc - (rc / ((pp).toInt64)) * ((pp).toInt64)) (0 : Int64)) = (0 : Int32) → ((lcmpW (((pg).toInt64) * ((pp).toInt64)) rc) < (0 : Int32) ↔ (lcmpW ((pg).toInt64) ((rc / ((pp).toInt64)) + (1 : Int64))) < (0 : Int32))) := by
  have rp := rng32 pp
  have rg := rng32 pg
  have rr := rng64 rc
  have ep := c_i2l pp
  have eg := c_i2l pg
  obtain ⟨m1, m2⟩ := own_mul pg.toInt pp.toInt (by omega) (by omega) (by omega) (by omega)
  have a1 := c_lmul pg.toInt64 pp.toInt64
  rw [eg, ep] at a1
  have r1 := rng64 (pg.toInt64 * pp.toInt64)
  have hmul : (pg.toInt64 * pp.toInt64).toInt = pg.toInt * pp.toInt := by omega
  have z0 : (0 : Int64).toInt = 0 := by decide
  have z1 : (1 : Int64).toInt = 1 := by decide
  have n1 : pp.toInt64 ≠ -1 := fun h => by
    have : (-1 : Int64).toInt = -1 := by decide
    rw [h, this] at ep; omega
  have b1 := (c_ldiv rc pp.toInt64 pp.toInt ep n1).1 hrc
  have b2 := (c_lrem rc pp.toInt64 pp.toInt ep).1 hrc
  have dm := Int.mul_ediv_add_emod rc.toInt pp.toInt
  have e0 := Int.emod_nonneg rc.toInt (show pp.toInt ≠ 0 by omega)
  have e1 := Int.emod_lt_of_pos rc.toInt (show 0 < pp.toInt by omega)
  have d0 : 0 ≤ rc.toInt / pp.toInt := Int.ediv_nonneg hrc (by omega)
  rw [Int.mul_comm] at dm
  refine ⟨fun h => by rw [h, z0] at ep; omega, fun h => ?_, fun h => ?_⟩
  · rw [lw_eq, ← Int64.toInt_inj, b2, z0] at h
    rw [lw_lt, lw_lt, Int64.lt_iff_toInt_lt, Int64.lt_iff_toInt_lt, hmul, b1, eg]
    have := own_lt0 pg.toInt (rc.toInt / pp.toInt) pp.toInt hp
    rw [h] at dm
    rw [← this]
    omega
  · rw [lw_eq, ← Int64.toInt_inj, b2, z0] at h
    have q2 : 2 ≤ pp.toInt := by omega
    have fb : rc.toInt / pp.toInt ≤ rc.toInt / pp.toInt * pp.toInt / 2 := by
      have := Int.mul_le_mul_of_nonneg_left q2 d0
      omega
    have a2 := c_ladd (rc / ((pp).toInt64)) (1 : Int64)
    have r2 := rng64 ((rc / ((pp).toInt64)) + (1 : Int64))
    have es : ((rc / ((pp).toInt64)) + (1 : Int64)).toInt = rc.toInt / pp.toInt + 1 := by omega
    rw [lw_lt, lw_lt, Int64.lt_iff_toInt_lt, Int64.lt_iff_toInt_lt, hmul, es, eg]
    have := own_lt1 pg.toInt (rc.toInt / pp.toInt) pp.toInt (rc.toInt % pp.toInt) hp (by omega) e1
    rw [← this]
    omega
theorem pd__28Ljava_2futil_2fList_3bJII_29V : parseMethodDescriptor "(Ljava/util/List;JII)V" = some ⟨[(.object "java/util/List"), .long, .int, .int], none⟩ := by decide +kernel
theorem pd__28_29Z : parseMethodDescriptor "()Z" = some ⟨[], some .boolean⟩ := by decide +kernel
set_option maxRecDepth 65536 in
set_option maxHeartbeats 40000000 in
theorem J75a {pP : Program} {lL : Launch} {eE : Env} {sS : State} {mM : MethodId} {args : Array Value} {below : List Frame} {meth : Method} {cC : Code} {T0 : State} {locs : List Loc} {Z : State} {a0 : Array Value} {h0 : Heap} {n0 : Nat} (hw : ∀ d ∈ tables_1, d.before a0 Z = true) (X0 : Stand pP lL eE room_1 sS mM args below meth cC T0 locs 0 0) (hx : pP.tables.exec = Jvm.exec) (hZ : Z.Warmed39 sS.vm) (hby : cC.code = code) (hml : cC.maxLocals = 15) (hown : sS.vm.findClass "com/example/vyasa/vyasa/PageHasNextPinLaw" = some mM.cls) (hlk : meth.locks = false) (hret : meth.sig.returnType = ret) (e0 : T0.heap = h0) (N0 : Fr n0 locs) (x0 : Int32) (x1 : Int32) (x2 : Int64) (x4 : Int32) (pg : Int32) (pp : Int32) (rc : Int64) (y9 : Int64) (y11 : Int64) (dc : Addr) (kd : ClassId) (mo : Addr) (ee : Addr) (ma : Addr) (ml : Addr) (mr : Addr) (O : Old Z n0 h0) (Zn : n0 ≤ h0.size) (V_dc : Arv Z Z.heap dc kd (.object "java/lang/Object") 0 [] .null) (E_dc : Exa Z Z.heap dc "[Ljava/lang/Object;") (M_oa : own_Mr Z "[Ljava/lang/Object;" mo) (S_ee : Sta Z Z.heap "java/util/ArrayList" "EMPTY_ELEMENTDATA" "[Ljava/lang/Object;" (.ref ee)) (M_a : own_Mr Z "java/util/ArrayList" ma) (M_l : own_Mr Z "java/util/Collections$UnmodifiableList" ml) (M_r : own_Mr Z "java/util/Collections$UnmodifiableRandomAccessList" mr) (S_dc : Sta Z Z.heap "java/util/ArrayList" "DEFAULTCAPACITY_EMPTY_ELEMENTDATA" "[Ljava/lang/Object;" (.ref dc)) (hg : 1 ≤ pg.toInt) (hp : 1 ≤ pp.toInt) (hrc : 0 ≤ rc.toInt) :
    own_Go pP eE below sS (QLaw n0) 24 128 (T0.setTop (mkF mM 75 #[.val (.int x0), .val (.int x1), .val (.long x2), .second, .val (.int x4), .val (.int pg), .val (.int pp), .val (.long rc), .second, .val (.long y9), .second, .val (.long y11), .second, .unset, .unset] [])) := by
  have pgF := own_next rc pg pp hg hp hrc
  obtain ⟨T48, h48, X48, e48, E48, A48, D48, -, st48⟩ := newO X0 hx hZ hown (hw _ (List.mem_of_getElem? (i := 6) rfl)) (hw _ (List.mem_of_getElem? (i := 7) rfl)) (hw _ (List.mem_of_getElem? (i := 8) rfl)) e0 (g := (mkF mM 75 #[.val (.int x0), .val (.int x1), .val (.long x2), .second, .val (.int x4), .val (.int pg), .val (.int pp), .val (.long rc), .second, .val (.long y9), .second, .val (.long y11), .second, .unset, .unset] [])) rfl (hb hby at_75) (by decide) (by decide)
  obtain ⟨b48, g48⟩ : ∃ z, z = h0.size := ⟨_, rfl⟩
  rw [← g48] at A48 D48 st48
  have g_b48 : n0 ≤ b48 := Nat.le_trans Zn (Nat.le_of_eq g48.symm)
  have O := O.ext E48
  have Zn := Nat.le_trans Zn E48.1
  have E_b48 := A48
  have F_b48_rows : Fld Z h48 b48 "com/example/vyasa/vyasa/Page" "rows" "Ljava/util/List;" .null := D48 (Or.inr (hw _ (List.mem_of_getElem? (i := 119) rfl))) (ty := (.object "java/util/List")) (by decide)
  have F_b48_resultCount : Fld Z h48 b48 "com/example/vyasa/vyasa/Page" "resultCount" "J" (.long (0 : Int64)) := D48 (Or.inr (hw _ (List.mem_of_getElem? (i := 121) rfl))) (ty := .long) (by decide)
  have F_b48_page : Fld Z h48 b48 "com/example/vyasa/vyasa/Page" "page" "I" (.int (0 : Int32)) := D48 (Or.inr (hw _ (List.mem_of_getElem? (i := 123) rfl))) (ty := .int) (by decide)
  have F_b48_perPage : Fld Z h48 b48 "com/example/vyasa/vyasa/Page" "perPage" "I" (.int (0 : Int32)) := D48 (Or.inr (hw _ (List.mem_of_getElem? (i := 125) rfl))) (ty := .int) (by decide)
  refine own_st (A := T48.setTop (mkF mM 78 #[.val (.int x0), .val (.int x1), .val (.long x2), .second, .val (.int x4), .val (.int pg), .val (.int pp), .val (.long rc), .second, .val (.long y9), .second, .val (.long y11), .second, .unset, .unset] [(.ref b48)])) (fun tT_ kK_ => st48 tT_ kK_) ?_
  refine own_st (A := T48.setTop (mkF mM 79 #[.val (.int x0), .val (.int x1), .val (.long x2), .second, .val (.int x4), .val (.int pg), .val (.int pp), .val (.long rc), .second, .val (.long y9), .second, .val (.long y11), .second, .unset, .unset] [(.ref b48), (.ref b48)])) (fun tT_ kK_ => XS.dup X48.here hx rfl (hb hby at_78) rfl rfl kK_) ?_
  obtain ⟨T49, h49, X49, e49, E49, A49, D49, -, st49⟩ := newO X48 hx hZ hown (hw _ (List.mem_of_getElem? (i := 9) rfl)) (hw _ (List.mem_of_getElem? (i := 10) rfl)) (hw _ (List.mem_of_getElem? (i := 11) rfl)) e48 (g := (mkF mM 79 #[.val (.int x0), .val (.int x1), .val (.long x2), .second, .val (.int x4), .val (.int pg), .val (.int pp), .val (.long rc), .second, .val (.long y9), .second, .val (.long y11), .second, .unset, .unset] [(.ref b48), (.ref b48)])) rfl (hb hby at_79) (by decide) (by decide)
  obtain ⟨b49, g49⟩ : ∃ z, z = h48.size := ⟨_, rfl⟩
  rw [← g49] at A49 D49 st49
  have ne_b48_b49 : b48 ≠ b49 := Nat.ne_of_lt (Nat.lt_of_lt_of_le E_b48.lt (Nat.le_of_eq g49.symm))
  have g_b49 : n0 ≤ b49 := Nat.le_trans Zn (Nat.le_of_eq g49.symm)
  have F_b48_rows := F_b48_rows.ext E49
  have F_b48_resultCount := F_b48_resultCount.ext E49
  have F_b48_page := F_b48_page.ext E49
  have F_b48_perPage := F_b48_perPage.ext E49
  have E_b48 := E_b48.ext E49
  have O := O.ext E49
  have Zn := Nat.le_trans Zn E49.1
  have E_b49 := A49
  have F_b49_modCount : Fld Z h49 b49 "java/util/AbstractList" "modCount" "I" (.int (0 : Int32)) := D49 (Or.inl (hw _ (List.mem_of_getElem? (i := 31) rfl))) (ty := .int) (by decide)
  have F_b49_elementData : Fld Z h49 b49 "java/util/ArrayList" "elementData" "[Ljava/lang/Object;" .null := D49 (Or.inl (hw _ (List.mem_of_getElem? (i := 34) rfl))) (ty := (.array (.object "java/lang/Object"))) (by decide)
  have F_b49_size : Fld Z h49 b49 "java/util/ArrayList" "size" "I" (.int (0 : Int32)) := D49 (Or.inl (hw _ (List.mem_of_getElem? (i := 53) rfl))) (ty := .int) (by decide)
  refine own_st (A := T49.setTop (mkF mM 82 #[.val (.int x0), .val (.int x1), .val (.long x2), .second, .val (.int x4), .val (.int pg), .val (.int pp), .val (.long rc), .second, .val (.long y9), .second, .val (.long y11), .second, .unset, .unset] [(.ref b49), (.ref b48), (.ref b48)])) (fun tT_ kK_ => st49 tT_ kK_) ?_
  refine own_st (A := T49.setTop (mkF mM 83 #[.val (.int x0), .val (.int x1), .val (.long x2), .second, .val (.int x4), .val (.int pg), .val (.int pp), .val (.long rc), .second, .val (.long y9), .second, .val (.long y11), .second, .unset, .unset] [(.ref b49), (.ref b49), (.ref b48), (.ref b48)])) (fun tT_ kK_ => XS.dup X49.here hx rfl (hb hby at_82) rfl rfl kK_) ?_
  obtain ⟨_, _, ⟨T50, L50, k50, n50⟩, -, X50, ⟨Lc50, hQ50, l50, y50, z50⟩, st50⟩ := X49.specialBack hx (y := (⟨"java/util/ArrayList", "<init>", "()V"⟩ : MethodName)) rfl hown (mvT hZ (hw _ (List.mem_of_getElem? (i := 12) rfl))) (mvT hZ (hw _ (List.mem_of_getElem? (i := 13) rfl))) (mvT hZ (hw _ (List.mem_of_getElem? (i := 14) rfl))) (by decide) (backOf (W := 3) (rmA0 lL Z a0 hw [] b49 dc h49 n0 g_b49 E_b49 F_b49_modCount F_b49_elementData F_b49_size O S_dc) hZ (hw _ (List.mem_of_getElem? (i := 14) rfl)) (hw _ (List.mem_of_getElem? (i := 11) rfl)) (by decide) (by decide)) (g := (mkF mM 83 #[.val (.int x0), .val (.int x1), .val (.long x2), .second, .val (.int x4), .val (.int pg), .val (.int pp), .val (.long rc), .second, .val (.long y9), .second, .val (.long y11), .second, .unset, .unset] [(.ref b49), (.ref b49), (.ref b48), (.ref b48)])) rfl (by rw [hml]; rfl) (Steps.refl _) (a := b49) (argsL := []) (rest := [(.ref b49), (.ref b48), (.ref b48)]) (lenOf pd__28_29V rfl) rfl (by show 2 * 0 + _ ≤ _; exact Nat.le_of_eq rfl) (hb hby at_83) (fun _ _ => ⟨rfl, e49, (by decide : 2 + 0 ≤ _), (by decide : 7 + 0 ≤ _)⟩)
  dsimp only [Pt.U, Pt.locs, Pt.cells, Pt.slots] at X50 l50 y50 z50 st50 hQ50
  subst l50 y50 z50
  obtain ⟨rfl, N50q, K50, ob⟩ := hQ50
  have N50 := Fr.app N0 N50q
  have e50 : T50.heap = T50.heap := rfl
  refine own_st (A := T50.setTop (mkF mM 86 #[.val (.int x0), .val (.int x1), .val (.long x2), .second, .val (.int x4), .val (.int pg), .val (.int pp), .val (.long rc), .second, .val (.long y9), .second, .val (.long y11), .second, .unset, .unset] [(.ref b49), (.ref b48), (.ref b48)])) (fun tT_ kK_ => st50.trans kK_) ?_
  have F_b48_rows := F_b48_rows.keep K50 (ninS ne_b48_b49 nin0)
  have F_b48_resultCount := F_b48_resultCount.keep K50 (ninS ne_b48_b49 nin0)
  have F_b48_page := F_b48_page.keep K50 (ninS ne_b48_b49 nin0)
  have F_b48_perPage := F_b48_perPage.keep K50 (ninS ne_b48_b49 nin0)
  have E_b48 := E_b48.keep K50
  have E_b49 := E_b49.keep K50
  have O := O.keep K50 (allS g_b49 all0)
  have Zn := Nat.le_trans Zn K50.1
  refine own_st (A := T50.setTop (mkF mM 88 #[.val (.int x0), .val (.int x1), .val (.long x2), .second, .val (.int x4), .val (.int pg), .val (.int pp), .val (.long rc), .second, .val (.long y9), .second, .val (.long y11), .second, .unset, .unset] [(.long rc), (.ref b49), (.ref b48), (.ref b48)])) (fun tT_ kK_ => XS.lload X50.here hx rfl (hb hby at_86) rfl kK_) ?_
  refine own_st (A := T50.setTop (mkF mM 90 #[.val (.int x0), .val (.int x1), .val (.long x2), .second, .val (.int x4), .val (.int pg), .val (.int pp), .val (.long rc), .second, .val (.long y9), .second, .val (.long y11), .second, .unset, .unset] [(.int pg), (.long rc), (.ref b49), (.ref b48), (.ref b48)])) (fun tT_ kK_ => XS.iload X50.here hx rfl (hb hby at_88) rfl kK_) ?_
  refine own_st (A := T50.setTop (mkF mM 92 #[.val (.int x0), .val (.int x1), .val (.long x2), .second, .val (.int x4), .val (.int pg), .val (.int pp), .val (.long rc), .second, .val (.long y9), .second, .val (.long y11), .second, .unset, .unset] [(.int pp), (.int pg), (.long rc), (.ref b49), (.ref b48), (.ref b48)])) (fun tT_ kK_ => XS.iload X50.here hx rfl (hb hby at_90) rfl kK_) ?_
  obtain ⟨_, _, ⟨T51, L51, k51, n51⟩, -, X51, ⟨Lc51, hQ51, l51, y51, z51⟩, st51⟩ := X50.specialBack hx (y := (⟨"com/example/vyasa/vyasa/Page", "<init>", "(Ljava/util/List;JII)V"⟩ : MethodName)) rfl hown (mvT hZ (hw _ (List.mem_of_getElem? (i := 35) rfl))) (mvT hZ (hw _ (List.mem_of_getElem? (i := 36) rfl))) (mvT hZ (hw _ (List.mem_of_getElem? (i := 37) rfl))) (by decide) (backOf (W := 1) (rmPI lL Z a0 hw [] b48 b49 rc pg pp dc kd mo ee ma ml mr T50.heap n0 g_b48 E_b48 F_b48_rows F_b48_resultCount F_b48_page F_b48_perPage O Zn V_dc E_dc M_oa S_ee M_a M_l M_r ob) hZ (hw _ (List.mem_of_getElem? (i := 37) rfl)) (hw _ (List.mem_of_getElem? (i := 8) rfl)) (by decide) (by decide)) (g := (mkF mM 92 #[.val (.int x0), .val (.int x1), .val (.long x2), .second, .val (.int x4), .val (.int pg), .val (.int pp), .val (.long rc), .second, .val (.long y9), .second, .val (.long y11), .second, .unset, .unset] [(.int pp), (.int pg), (.long rc), (.ref b49), (.ref b48), (.ref b48)])) rfl (by rw [hml]; rfl) (Steps.refl _) (a := b48) (argsL := [(.ref b49), (.long rc), (.int pg), (.int pp)]) (rest := [(.ref b48)]) (lenOf pd__28Ljava_2futil_2fList_3bJII_29V rfl) rfl (by show 2 * 0 + _ ≤ _; exact Nat.le_of_eq rfl) (hb hby at_92) (fun _ _ => ⟨rfl, e50, (by decide : 2 + 3 ≤ _), (by decide : 7 + 5 ≤ _)⟩)
  dsimp only [Pt.U, Pt.locs, Pt.cells, Pt.slots] at X51 l51 y51 z51 st51 hQ51
  subst l51 y51 z51
  obtain ⟨rfl, N51q, K51, x51, y51, z51', u51⟩ := hQ51
  have N51 := Fr.app N50 N51q
  have e51 : T51.heap = T51.heap := rfl
  refine own_st (A := T51.setTop (mkF mM 95 #[.val (.int x0), .val (.int x1), .val (.long x2), .second, .val (.int x4), .val (.int pg), .val (.int pp), .val (.long rc), .second, .val (.long y9), .second, .val (.long y11), .second, .unset, .unset] [(.ref b48)])) (fun tT_ kK_ => st51.trans kK_) ?_
  refine own_st (A := T51.setTop (mkF mM 97 #[.val (.int x0), .val (.int x1), .val (.long x2), .second, .val (.int x4), .val (.int pg), .val (.int pp), .val (.long rc), .second, .val (.ref b48), .unset, .val (.long y11), .second, .unset, .unset] [])) (fun tT_ kK_ => XS.astore X51.here hx rfl (hb hby at_95) rfl rfl (l' := #[.val (.int x0), .val (.int x1), .val (.long x2), .second, .val (.int x4), .val (.int pg), .val (.int pp), .val (.long rc), .second, .val (.ref b48), .unset, .val (.long y11), .second, .unset, .unset]) rfl kK_) ?_
  refine own_st (A := T51.setTop (mkF mM 99 #[.val (.int x0), .val (.int x1), .val (.long x2), .second, .val (.int x4), .val (.int pg), .val (.int pp), .val (.long rc), .second, .val (.ref b48), .unset, .val (.long y11), .second, .unset, .unset] [(.long rc)])) (fun tT_ kK_ => XS.lload X51.here hx rfl (hb hby at_97) rfl kK_) ?_
  refine own_st (A := T51.setTop (mkF mM 101 #[.val (.int x0), .val (.int x1), .val (.long x2), .second, .val (.int x4), .val (.int pg), .val (.int pp), .val (.long rc), .second, .val (.ref b48), .unset, .val (.long y11), .second, .unset, .unset] [(.int pp), (.long rc)])) (fun tT_ kK_ => XS.iload X51.here hx rfl (hb hby at_99) rfl kK_) ?_
  refine own_st (A := T51.setTop (mkF mM 102 #[.val (.int x0), .val (.int x1), .val (.long x2), .second, .val (.int x4), .val (.int pg), .val (.int pp), .val (.long rc), .second, .val (.ref b48), .unset, .val (.long y11), .second, .unset, .unset] [(.long ((pp).toInt64)), (.long rc)])) (fun tT_ kK_ => XS.i2l X51.here hx rfl (hb hby at_101) rfl kK_) ?_
  refine own_st (A := T51.setTop (mkF mM 103 #[.val (.int x0), .val (.int x1), .val (.long x2), .second, .val (.int x4), .val (.int pg), .val (.int pp), .val (.long rc), .second, .val (.ref b48), .unset, .val (.long y11), .second, .unset, .unset] [(.long (rc / ((pp).toInt64)))])) (fun tT_ kK_ => XS.ldiv X51.here hx rfl (hb hby at_102) rfl pgF.1 kK_) ?_
  refine own_st (A := T51.setTop (mkF mM 105 #[.val (.int x0), .val (.int x1), .val (.long x2), .second, .val (.int x4), .val (.int pg), .val (.int pp), .val (.long rc), .second, .val (.ref b48), .val (.long (rc / ((pp).toInt64))), .second, .unset, .unset, .unset] [])) (fun tT_ kK_ => XS.lstore X51.here hx rfl (hb hby at_103) rfl (l' := #[.val (.int x0), .val (.int x1), .val (.long x2), .second, .val (.int x4), .val (.int pg), .val (.int pp), .val (.long rc), .second, .val (.ref b48), .val (.long (rc / ((pp).toInt64))), .second, .unset, .unset, .unset]) rfl kK_) ?_
  refine own_st (A := T51.setTop (mkF mM 107 #[.val (.int x0), .val (.int x1), .val (.long x2), .second, .val (.int x4), .val (.int pg), .val (.int pp), .val (.long rc), .second, .val (.ref b48), .val (.long (rc / ((pp).toInt64))), .second, .unset, .unset, .unset] [(.long rc)])) (fun tT_ kK_ => XS.lload X51.here hx rfl (hb hby at_105) rfl kK_) ?_
  refine own_st (A := T51.setTop (mkF mM 109 #[.val (.int x0), .val (.int x1), .val (.long x2), .second, .val (.int x4), .val (.int pg), .val (.int pp), .val (.long rc), .second, .val (.ref b48), .val (.long (rc / ((pp).toInt64))), .second, .unset, .unset, .unset] [(.int pp), (.long rc)])) (fun tT_ kK_ => XS.iload X51.here hx rfl (hb hby at_107) rfl kK_) ?_
  refine own_st (A := T51.setTop (mkF mM 110 #[.val (.int x0), .val (.int x1), .val (.long x2), .second, .val (.int x4), .val (.int pg), .val (.int pp), .val (.long rc), .second, .val (.ref b48), .val (.long (rc / ((pp).toInt64))), .second, .unset, .unset, .unset] [(.long ((pp).toInt64)), (.long rc)])) (fun tT_ kK_ => XS.i2l X51.here hx rfl (hb hby at_109) rfl kK_) ?_
  refine own_st (A := T51.setTop (mkF mM 111 #[.val (.int x0), .val (.int x1), .val (.long x2), .second, .val (.int x4), .val (.int pg), .val (.int pp), .val (.long rc), .second, .val (.ref b48), .val (.long (rc / ((pp).toInt64))), .second, .unset, .unset, .unset] [(.long (rc - (rc / ((pp).toInt64)) * ((pp).toInt64)))])) (fun tT_ kK_ => XS.lrem X51.here hx rfl (hb hby at_110) rfl pgF.1 kK_) ?_
  refine own_st (A := T51.setTop (mkF mM 112 #[.val (.int x0), .val (.int x1), .val (.long x2), .second, .val (.int x4), .val (.int pg), .val (.int pp), .val (.long rc), .second, .val (.ref b48), .val (.long (rc / ((pp).toInt64))), .second, .unset, .unset, .unset] [(.long (0 : Int64)), (.long (rc - (rc / ((pp).toInt64)) * ((pp).toInt64)))])) (fun tT_ kK_ => XS.lconst X51.here hx rfl (hb hby at_111) kK_) ?_
  refine own_st (A := T51.setTop (mkF mM 113 #[.val (.int x0), .val (.int x1), .val (.long x2), .second, .val (.int x4), .val (.int pg), .val (.int pp), .val (.long rc), .second, .val (.ref b48), .val (.long (rc / ((pp).toInt64))), .second, .unset, .unset, .unset] [(.int (lcmpW (rc - (rc / ((pp).toInt64)) * ((pp).toInt64)) (0 : Int64)))])) (fun tT_ kK_ => XS.lcmp X51.here hx rfl (hb hby at_112) rfl kK_) ?_
  by_cases hc113_52 : (lcmpW (rc - (rc / ((pp).toInt64)) * ((pp).toInt64)) (0 : Int64)) = (0 : Int32)
  · skip
    refine own_st (A := T51.setTop (mkF mM 116 #[.val (.int x0), .val (.int x1), .val (.long x2), .second, .val (.int x4), .val (.int pg), .val (.int pp), .val (.long rc), .second, .val (.ref b48), .val (.long (rc / ((pp).toInt64))), .second, .unset, .unset, .unset] [])) (fun tT_ kK_ => XS.ifNo X51.here hx rfl (hb hby at_113) rfl ((if0 _ _).trans (teq hc113_52).2) kK_) ?_
    refine own_st (A := T51.setTop (mkF mM 118 #[.val (.int x0), .val (.int x1), .val (.long x2), .second, .val (.int x4), .val (.int pg), .val (.int pp), .val (.long rc), .second, .val (.ref b48), .val (.long (rc / ((pp).toInt64))), .second, .unset, .unset, .unset] [(.long (rc / ((pp).toInt64)))])) (fun tT_ kK_ => XS.lload X51.here hx rfl (hb hby at_116) rfl kK_) ?_
    refine own_st (A := T51.setTop (mkF mM 125 #[.val (.int x0), .val (.int x1), .val (.long x2), .second, .val (.int x4), .val (.int pg), .val (.int pp), .val (.long rc), .second, .val (.ref b48), .val (.long (rc / ((pp).toInt64))), .second, .unset, .unset, .unset] [(.long (rc / ((pp).toInt64)))])) (fun tT_ kK_ => XS.goto X51.here hx rfl (pc0 := 118) (pc' := 125) rfl (hb hby at_118) (by decide) (by decide) kK_) ?_
    refine own_st (A := T51.setTop (mkF mM 127 #[.val (.int x0), .val (.int x1), .val (.long x2), .second, .val (.int x4), .val (.int pg), .val (.int pp), .val (.long rc), .second, .val (.ref b48), .val (.long (rc / ((pp).toInt64))), .second, .val (.long (rc / ((pp).toInt64))), .second, .unset] [])) (fun tT_ kK_ => XS.lstore X51.here hx rfl (hb hby at_125) rfl (l' := #[.val (.int x0), .val (.int x1), .val (.long x2), .second, .val (.int x4), .val (.int pg), .val (.int pp), .val (.long rc), .second, .val (.ref b48), .val (.long (rc / ((pp).toInt64))), .second, .val (.long (rc / ((pp).toInt64))), .second, .unset]) rfl kK_) ?_
    refine own_st (A := T51.setTop (mkF mM 129 #[.val (.int x0), .val (.int x1), .val (.long x2), .second, .val (.int x4), .val (.int pg), .val (.int pp), .val (.long rc), .second, .val (.ref b48), .val (.long (rc / ((pp).toInt64))), .second, .val (.long (rc / ((pp).toInt64))), .second, .unset] [(.int pg)])) (fun tT_ kK_ => XS.iload X51.here hx rfl (hb hby at_127) rfl kK_) ?_
    refine own_st (A := T51.setTop (mkF mM 130 #[.val (.int x0), .val (.int x1), .val (.long x2), .second, .val (.int x4), .val (.int pg), .val (.int pp), .val (.long rc), .second, .val (.ref b48), .val (.long (rc / ((pp).toInt64))), .second, .val (.long (rc / ((pp).toInt64))), .second, .unset] [(.long ((pg).toInt64))])) (fun tT_ kK_ => XS.i2l X51.here hx rfl (hb hby at_129) rfl kK_) ?_
    refine own_st (A := T51.setTop (mkF mM 132 #[.val (.int x0), .val (.int x1), .val (.long x2), .second, .val (.int x4), .val (.int pg), .val (.int pp), .val (.long rc), .second, .val (.ref b48), .val (.long (rc / ((pp).toInt64))), .second, .val (.long (rc / ((pp).toInt64))), .second, .unset] [(.long (rc / ((pp).toInt64))), (.long ((pg).toInt64))])) (fun tT_ kK_ => XS.lload X51.here hx rfl (hb hby at_130) rfl kK_) ?_
    refine own_st (A := T51.setTop (mkF mM 133 #[.val (.int x0), .val (.int x1), .val (.long x2), .second, .val (.int x4), .val (.int pg), .val (.int pp), .val (.long rc), .second, .val (.ref b48), .val (.long (rc / ((pp).toInt64))), .second, .val (.long (rc / ((pp).toInt64))), .second, .unset] [(.int (lcmpW ((pg).toInt64) (rc / ((pp).toInt64))))])) (fun tT_ kK_ => XS.lcmp X51.here hx rfl (hb hby at_132) rfl kK_) ?_
    by_cases hc133_53 : (lcmpW ((pg).toInt64) (rc / ((pp).toInt64))) < (0 : Int32)
    · skip
      refine own_st (A := T51.setTop (mkF mM 136 #[.val (.int x0), .val (.int x1), .val (.long x2), .second, .val (.int x4), .val (.int pg), .val (.int pp), .val (.long rc), .second, .val (.ref b48), .val (.long (rc / ((pp).toInt64))), .second, .val (.long (rc / ((pp).toInt64))), .second, .unset] [])) (fun tT_ kK_ => XS.ifNo X51.here hx rfl (hb hby at_133) rfl ((if0 _ _).trans (tlt hc133_53).2.1) kK_) ?_
      refine own_st (A := T51.setTop (mkF mM 137 #[.val (.int x0), .val (.int x1), .val (.long x2), .second, .val (.int x4), .val (.int pg), .val (.int pp), .val (.long rc), .second, .val (.ref b48), .val (.long (rc / ((pp).toInt64))), .second, .val (.long (rc / ((pp).toInt64))), .second, .unset] [(.int (1 : Int32))])) (fun tT_ kK_ => XS.iconst X51.here hx rfl (hb hby at_136) kK_) ?_
      refine own_st (A := T51.setTop (mkF mM 141 #[.val (.int x0), .val (.int x1), .val (.long x2), .second, .val (.int x4), .val (.int pg), .val (.int pp), .val (.long rc), .second, .val (.ref b48), .val (.long (rc / ((pp).toInt64))), .second, .val (.long (rc / ((pp).toInt64))), .second, .unset] [(.int (1 : Int32))])) (fun tT_ kK_ => XS.goto X51.here hx rfl (pc0 := 137) (pc' := 141) rfl (hb hby at_137) (by decide) (by decide) kK_) ?_
      refine own_st (A := T51.setTop (mkF mM 143 #[.val (.int x0), .val (.int x1), .val (.long x2), .second, .val (.int x4), .val (.int pg), .val (.int pp), .val (.long rc), .second, .val (.ref b48), .val (.long (rc / ((pp).toInt64))), .second, .val (.long (rc / ((pp).toInt64))), .second, .val (.int (1 : Int32))] [])) (fun tT_ kK_ => XS.istore X51.here hx rfl (hb hby at_141) rfl (l' := #[.val (.int x0), .val (.int x1), .val (.long x2), .second, .val (.int x4), .val (.int pg), .val (.int pp), .val (.long rc), .second, .val (.ref b48), .val (.long (rc / ((pp).toInt64))), .second, .val (.long (rc / ((pp).toInt64))), .second, .val (.int (1 : Int32))]) rfl kK_) ?_
      refine own_st (A := T51.setTop (mkF mM 145 #[.val (.int x0), .val (.int x1), .val (.long x2), .second, .val (.int x4), .val (.int pg), .val (.int pp), .val (.long rc), .second, .val (.ref b48), .val (.long (rc / ((pp).toInt64))), .second, .val (.long (rc / ((pp).toInt64))), .second, .val (.int (1 : Int32))] [(.ref b48)])) (fun tT_ kK_ => XS.aload X51.here hx rfl (hb hby at_143) rfl rfl kK_) ?_
      obtain ⟨cq54, kq54, q54a, q54b, q54c⟩ := isOf hZ e51 x51
      obtain ⟨_, _, ⟨T54, L54, k54, n54⟩, -, X54, ⟨Lc54, hQ54, l54, y54, z54⟩, st54⟩ := X51.virtualBack hx (y := (⟨"com/example/vyasa/vyasa/Page", "hasNext", "()Z"⟩ : MethodName)) (z := (⟨"com/example/vyasa/vyasa/Page", "hasNext", "()Z"⟩ : MethodName)) hown (mvT hZ (hw _ (List.mem_of_getElem? (i := 126) rfl))) (mvT hZ (hw _ (List.mem_of_getElem? (i := 127) rfl))) (notFace_of_selects (args := #[]) (mvT hZ (hw _ (List.mem_of_getElem? (i := 129) rfl)))) (mvT hZ (hw _ (List.mem_of_getElem? (i := 129) rfl))) (mvT hZ (hw _ (List.mem_of_getElem? (i := 128) rfl))) (by decide) (backOf (W := 0) (rmH lL Z a0 hw [] b48 rc pg pp 1 T51.heap n0 y51 z51' u51 (fun _ => rfl) (fun z => absurd ((pgF.2.1 hc113_52).mpr hc133_53) z)) hZ (hw _ (List.mem_of_getElem? (i := 130) rfl)) (hw _ (List.mem_of_getElem? (i := 8) rfl)) (by decide) (by decide)) q54a q54c (g := (mkF mM 145 #[.val (.int x0), .val (.int x1), .val (.long x2), .second, .val (.int x4), .val (.int pg), .val (.int pp), .val (.long rc), .second, .val (.ref b48), .val (.long (rc / ((pp).toInt64))), .second, .val (.long (rc / ((pp).toInt64))), .second, .val (.int (1 : Int32))] [(.ref b48)])) rfl (by rw [hml]; rfl) (Steps.refl _) (argsL := []) (rest := []) (lenOf pd__28_29Z rfl) rfl (by show 2 * 0 + _ ≤ _; exact Nat.le_of_eq rfl) (hb hby at_145) (fun _ _ => ⟨rfl, e51, (by decide : 5 + 0 ≤ _), (by decide : 12 + 0 ≤ _)⟩)
      dsimp only [Pt.U, Pt.locs, Pt.cells, Pt.slots] at X54 l54 y54 z54 st54 hQ54
      subst l54 y54 z54
      obtain ⟨rfl, N54q, e54⟩ := hQ54
      have N54 := Fr.app N51 N54q
      refine own_st (A := T54.setTop (mkF mM 148 #[.val (.int x0), .val (.int x1), .val (.long x2), .second, .val (.int x4), .val (.int pg), .val (.int pp), .val (.long rc), .second, .val (.ref b48), .val (.long (rc / ((pp).toInt64))), .second, .val (.long (rc / ((pp).toInt64))), .second, .val (.int (1 : Int32))] [(.int (1 : Int32))])) (fun tT_ kK_ => st54.trans kK_) ?_
      refine own_st (A := T54.setTop (mkF mM 150 #[.val (.int x0), .val (.int x1), .val (.long x2), .second, .val (.int x4), .val (.int pg), .val (.int pp), .val (.long rc), .second, .val (.ref b48), .val (.long (rc / ((pp).toInt64))), .second, .val (.long (rc / ((pp).toInt64))), .second, .val (.int (1 : Int32))] [(.int (1 : Int32)), (.int (1 : Int32))])) (fun tT_ kK_ => XS.iload X54.here hx rfl (hb hby at_148) rfl kK_) ?_
      refine own_st (A := T54.setTop (mkF mM 153 #[.val (.int x0), .val (.int x1), .val (.long x2), .second, .val (.int x4), .val (.int pg), .val (.int pp), .val (.long rc), .second, .val (.ref b48), .val (.long (rc / ((pp).toInt64))), .second, .val (.long (rc / ((pp).toInt64))), .second, .val (.int (1 : Int32))] [])) (fun tT_ kK_ => XS.icmpNo X54.here hx rfl (hb hby at_150) rfl (teq (by decide : ((1 : Int32) = (1 : Int32)))).2 kK_) ?_
      refine own_st (A := T54.setTop (mkF mM 154 #[.val (.int x0), .val (.int x1), .val (.long x2), .second, .val (.int x4), .val (.int pg), .val (.int pp), .val (.long rc), .second, .val (.ref b48), .val (.long (rc / ((pp).toInt64))), .second, .val (.long (rc / ((pp).toInt64))), .second, .val (.int (1 : Int32))] [(.int (1 : Int32))])) (fun tT_ kK_ => XS.iconst X54.here hx rfl (hb hby at_153) kK_) ?_
      refine own_st (A := T54.setTop (mkF mM 158 #[.val (.int x0), .val (.int x1), .val (.long x2), .second, .val (.int x4), .val (.int pg), .val (.int pp), .val (.long rc), .second, .val (.ref b48), .val (.long (rc / ((pp).toInt64))), .second, .val (.long (rc / ((pp).toInt64))), .second, .val (.int (1 : Int32))] [(.int (1 : Int32))])) (fun tT_ kK_ => XS.goto X54.here hx rfl (pc0 := 154) (pc' := 158) rfl (hb hby at_154) (by decide) (by decide) kK_) ?_
      exact own_retN X54 hx hlk (t := .boolean) hret (by simp) (hb hby at_158) ⟨rfl, N54⟩ (by decide) (by decide)
    · skip
      refine own_st (A := T51.setTop (mkF mM 140 #[.val (.int x0), .val (.int x1), .val (.long x2), .second, .val (.int x4), .val (.int pg), .val (.int pp), .val (.long rc), .second, .val (.ref b48), .val (.long (rc / ((pp).toInt64))), .second, .val (.long (rc / ((pp).toInt64))), .second, .unset] [])) (fun tT_ kK_ => XS.ifYes X51.here hx rfl (pc0 := 133) (pc' := 140) rfl (hb hby at_133) rfl ((if0 _ _).trans (flt hc133_53).2.1) (by decide) (by decide) kK_) ?_
      refine own_st (A := T51.setTop (mkF mM 141 #[.val (.int x0), .val (.int x1), .val (.long x2), .second, .val (.int x4), .val (.int pg), .val (.int pp), .val (.long rc), .second, .val (.ref b48), .val (.long (rc / ((pp).toInt64))), .second, .val (.long (rc / ((pp).toInt64))), .second, .unset] [(.int (0 : Int32))])) (fun tT_ kK_ => XS.iconst X51.here hx rfl (hb hby at_140) kK_) ?_
      refine own_st (A := T51.setTop (mkF mM 143 #[.val (.int x0), .val (.int x1), .val (.long x2), .second, .val (.int x4), .val (.int pg), .val (.int pp), .val (.long rc), .second, .val (.ref b48), .val (.long (rc / ((pp).toInt64))), .second, .val (.long (rc / ((pp).toInt64))), .second, .val (.int (0 : Int32))] [])) (fun tT_ kK_ => XS.istore X51.here hx rfl (hb hby at_141) rfl (l' := #[.val (.int x0), .val (.int x1), .val (.long x2), .second, .val (.int x4), .val (.int pg), .val (.int pp), .val (.long rc), .second, .val (.ref b48), .val (.long (rc / ((pp).toInt64))), .second, .val (.long (rc / ((pp).toInt64))), .second, .val (.int (0 : Int32))]) rfl kK_) ?_
      refine own_st (A := T51.setTop (mkF mM 145 #[.val (.int x0), .val (.int x1), .val (.long x2), .second, .val (.int x4), .val (.int pg), .val (.int pp), .val (.long rc), .second, .val (.ref b48), .val (.long (rc / ((pp).toInt64))), .second, .val (.long (rc / ((pp).toInt64))), .second, .val (.int (0 : Int32))] [(.ref b48)])) (fun tT_ kK_ => XS.aload X51.here hx rfl (hb hby at_143) rfl rfl kK_) ?_
      obtain ⟨cq55, kq55, q55a, q55b, q55c⟩ := isOf hZ e51 x51
      obtain ⟨_, _, ⟨T55, L55, k55, n55⟩, -, X55, ⟨Lc55, hQ55, l55, y55, z55⟩, st55⟩ := X51.virtualBack hx (y := (⟨"com/example/vyasa/vyasa/Page", "hasNext", "()Z"⟩ : MethodName)) (z := (⟨"com/example/vyasa/vyasa/Page", "hasNext", "()Z"⟩ : MethodName)) hown (mvT hZ (hw _ (List.mem_of_getElem? (i := 126) rfl))) (mvT hZ (hw _ (List.mem_of_getElem? (i := 127) rfl))) (notFace_of_selects (args := #[]) (mvT hZ (hw _ (List.mem_of_getElem? (i := 129) rfl)))) (mvT hZ (hw _ (List.mem_of_getElem? (i := 129) rfl))) (mvT hZ (hw _ (List.mem_of_getElem? (i := 128) rfl))) (by decide) (backOf (W := 0) (rmH lL Z a0 hw [] b48 rc pg pp 0 T51.heap n0 y51 z51' u51 (fun z => absurd ((pgF.2.1 hc113_52).mp z) hc133_53) (fun _ => rfl)) hZ (hw _ (List.mem_of_getElem? (i := 130) rfl)) (hw _ (List.mem_of_getElem? (i := 8) rfl)) (by decide) (by decide)) q55a q55c (g := (mkF mM 145 #[.val (.int x0), .val (.int x1), .val (.long x2), .second, .val (.int x4), .val (.int pg), .val (.int pp), .val (.long rc), .second, .val (.ref b48), .val (.long (rc / ((pp).toInt64))), .second, .val (.long (rc / ((pp).toInt64))), .second, .val (.int (0 : Int32))] [(.ref b48)])) rfl (by rw [hml]; rfl) (Steps.refl _) (argsL := []) (rest := []) (lenOf pd__28_29Z rfl) rfl (by show 2 * 0 + _ ≤ _; exact Nat.le_of_eq rfl) (hb hby at_145) (fun _ _ => ⟨rfl, e51, (by decide : 5 + 0 ≤ _), (by decide : 12 + 0 ≤ _)⟩)
      dsimp only [Pt.U, Pt.locs, Pt.cells, Pt.slots] at X55 l55 y55 z55 st55 hQ55
      subst l55 y55 z55
      obtain ⟨rfl, N55q, e55⟩ := hQ55
      have N55 := Fr.app N51 N55q
      refine own_st (A := T55.setTop (mkF mM 148 #[.val (.int x0), .val (.int x1), .val (.long x2), .second, .val (.int x4), .val (.int pg), .val (.int pp), .val (.long rc), .second, .val (.ref b48), .val (.long (rc / ((pp).toInt64))), .second, .val (.long (rc / ((pp).toInt64))), .second, .val (.int (0 : Int32))] [(.int (0 : Int32))])) (fun tT_ kK_ => st55.trans kK_) ?_
      refine own_st (A := T55.setTop (mkF mM 150 #[.val (.int x0), .val (.int x1), .val (.long x2), .second, .val (.int x4), .val (.int pg), .val (.int pp), .val (.long rc), .second, .val (.ref b48), .val (.long (rc / ((pp).toInt64))), .second, .val (.long (rc / ((pp).toInt64))), .second, .val (.int (0 : Int32))] [(.int (0 : Int32)), (.int (0 : Int32))])) (fun tT_ kK_ => XS.iload X55.here hx rfl (hb hby at_148) rfl kK_) ?_
      refine own_st (A := T55.setTop (mkF mM 153 #[.val (.int x0), .val (.int x1), .val (.long x2), .second, .val (.int x4), .val (.int pg), .val (.int pp), .val (.long rc), .second, .val (.ref b48), .val (.long (rc / ((pp).toInt64))), .second, .val (.long (rc / ((pp).toInt64))), .second, .val (.int (0 : Int32))] [])) (fun tT_ kK_ => XS.icmpNo X55.here hx rfl (hb hby at_150) rfl (teq (by decide : ((0 : Int32) = (0 : Int32)))).2 kK_) ?_
      refine own_st (A := T55.setTop (mkF mM 154 #[.val (.int x0), .val (.int x1), .val (.long x2), .second, .val (.int x4), .val (.int pg), .val (.int pp), .val (.long rc), .second, .val (.ref b48), .val (.long (rc / ((pp).toInt64))), .second, .val (.long (rc / ((pp).toInt64))), .second, .val (.int (0 : Int32))] [(.int (1 : Int32))])) (fun tT_ kK_ => XS.iconst X55.here hx rfl (hb hby at_153) kK_) ?_
      refine own_st (A := T55.setTop (mkF mM 158 #[.val (.int x0), .val (.int x1), .val (.long x2), .second, .val (.int x4), .val (.int pg), .val (.int pp), .val (.long rc), .second, .val (.ref b48), .val (.long (rc / ((pp).toInt64))), .second, .val (.long (rc / ((pp).toInt64))), .second, .val (.int (0 : Int32))] [(.int (1 : Int32))])) (fun tT_ kK_ => XS.goto X55.here hx rfl (pc0 := 154) (pc' := 158) rfl (hb hby at_154) (by decide) (by decide) kK_) ?_
      exact own_retN X55 hx hlk (t := .boolean) hret (by simp) (hb hby at_158) ⟨rfl, N55⟩ (by decide) (by decide)
  · skip
    refine own_st (A := T51.setTop (mkF mM 121 #[.val (.int x0), .val (.int x1), .val (.long x2), .second, .val (.int x4), .val (.int pg), .val (.int pp), .val (.long rc), .second, .val (.ref b48), .val (.long (rc / ((pp).toInt64))), .second, .unset, .unset, .unset] [])) (fun tT_ kK_ => XS.ifYes X51.here hx rfl (pc0 := 113) (pc' := 121) rfl (hb hby at_113) rfl ((if0 _ _).trans (feq hc113_52).2) (by decide) (by decide) kK_) ?_
    refine own_st (A := T51.setTop (mkF mM 123 #[.val (.int x0), .val (.int x1), .val (.long x2), .second, .val (.int x4), .val (.int pg), .val (.int pp), .val (.long rc), .second, .val (.ref b48), .val (.long (rc / ((pp).toInt64))), .second, .unset, .unset, .unset] [(.long (rc / ((pp).toInt64)))])) (fun tT_ kK_ => XS.lload X51.here hx rfl (hb hby at_121) rfl kK_) ?_
    refine own_st (A := T51.setTop (mkF mM 124 #[.val (.int x0), .val (.int x1), .val (.long x2), .second, .val (.int x4), .val (.int pg), .val (.int pp), .val (.long rc), .second, .val (.ref b48), .val (.long (rc / ((pp).toInt64))), .second, .unset, .unset, .unset] [(.long (1 : Int64)), (.long (rc / ((pp).toInt64)))])) (fun tT_ kK_ => XS.lconst X51.here hx rfl (hb hby at_123) kK_) ?_
    refine own_st (A := T51.setTop (mkF mM 125 #[.val (.int x0), .val (.int x1), .val (.long x2), .second, .val (.int x4), .val (.int pg), .val (.int pp), .val (.long rc), .second, .val (.ref b48), .val (.long (rc / ((pp).toInt64))), .second, .unset, .unset, .unset] [(.long ((rc / ((pp).toInt64)) + (1 : Int64)))])) (fun tT_ kK_ => XS.ladd X51.here hx rfl (hb hby at_124) rfl kK_) ?_
    refine own_st (A := T51.setTop (mkF mM 127 #[.val (.int x0), .val (.int x1), .val (.long x2), .second, .val (.int x4), .val (.int pg), .val (.int pp), .val (.long rc), .second, .val (.ref b48), .val (.long (rc / ((pp).toInt64))), .second, .val (.long ((rc / ((pp).toInt64)) + (1 : Int64))), .second, .unset] [])) (fun tT_ kK_ => XS.lstore X51.here hx rfl (hb hby at_125) rfl (l' := #[.val (.int x0), .val (.int x1), .val (.long x2), .second, .val (.int x4), .val (.int pg), .val (.int pp), .val (.long rc), .second, .val (.ref b48), .val (.long (rc / ((pp).toInt64))), .second, .val (.long ((rc / ((pp).toInt64)) + (1 : Int64))), .second, .unset]) rfl kK_) ?_
    refine own_st (A := T51.setTop (mkF mM 129 #[.val (.int x0), .val (.int x1), .val (.long x2), .second, .val (.int x4), .val (.int pg), .val (.int pp), .val (.long rc), .second, .val (.ref b48), .val (.long (rc / ((pp).toInt64))), .second, .val (.long ((rc / ((pp).toInt64)) + (1 : Int64))), .second, .unset] [(.int pg)])) (fun tT_ kK_ => XS.iload X51.here hx rfl (hb hby at_127) rfl kK_) ?_
    refine own_st (A := T51.setTop (mkF mM 130 #[.val (.int x0), .val (.int x1), .val (.long x2), .second, .val (.int x4), .val (.int pg), .val (.int pp), .val (.long rc), .second, .val (.ref b48), .val (.long (rc / ((pp).toInt64))), .second, .val (.long ((rc / ((pp).toInt64)) + (1 : Int64))), .second, .unset] [(.long ((pg).toInt64))])) (fun tT_ kK_ => XS.i2l X51.here hx rfl (hb hby at_129) rfl kK_) ?_
    refine own_st (A := T51.setTop (mkF mM 132 #[.val (.int x0), .val (.int x1), .val (.long x2), .second, .val (.int x4), .val (.int pg), .val (.int pp), .val (.long rc), .second, .val (.ref b48), .val (.long (rc / ((pp).toInt64))), .second, .val (.long ((rc / ((pp).toInt64)) + (1 : Int64))), .second, .unset] [(.long ((rc / ((pp).toInt64)) + (1 : Int64))), (.long ((pg).toInt64))])) (fun tT_ kK_ => XS.lload X51.here hx rfl (hb hby at_130) rfl kK_) ?_
    refine own_st (A := T51.setTop (mkF mM 133 #[.val (.int x0), .val (.int x1), .val (.long x2), .second, .val (.int x4), .val (.int pg), .val (.int pp), .val (.long rc), .second, .val (.ref b48), .val (.long (rc / ((pp).toInt64))), .second, .val (.long ((rc / ((pp).toInt64)) + (1 : Int64))), .second, .unset] [(.int (lcmpW ((pg).toInt64) ((rc / ((pp).toInt64)) + (1 : Int64))))])) (fun tT_ kK_ => XS.lcmp X51.here hx rfl (hb hby at_132) rfl kK_) ?_
    by_cases hc133_56 : (lcmpW ((pg).toInt64) ((rc / ((pp).toInt64)) + (1 : Int64))) < (0 : Int32)
    · skip
      refine own_st (A := T51.setTop (mkF mM 136 #[.val (.int x0), .val (.int x1), .val (.long x2), .second, .val (.int x4), .val (.int pg), .val (.int pp), .val (.long rc), .second, .val (.ref b48), .val (.long (rc / ((pp).toInt64))), .second, .val (.long ((rc / ((pp).toInt64)) + (1 : Int64))), .second, .unset] [])) (fun tT_ kK_ => XS.ifNo X51.here hx rfl (hb hby at_133) rfl ((if0 _ _).trans (tlt hc133_56).2.1) kK_) ?_
      refine own_st (A := T51.setTop (mkF mM 137 #[.val (.int x0), .val (.int x1), .val (.long x2), .second, .val (.int x4), .val (.int pg), .val (.int pp), .val (.long rc), .second, .val (.ref b48), .val (.long (rc / ((pp).toInt64))), .second, .val (.long ((rc / ((pp).toInt64)) + (1 : Int64))), .second, .unset] [(.int (1 : Int32))])) (fun tT_ kK_ => XS.iconst X51.here hx rfl (hb hby at_136) kK_) ?_
      refine own_st (A := T51.setTop (mkF mM 141 #[.val (.int x0), .val (.int x1), .val (.long x2), .second, .val (.int x4), .val (.int pg), .val (.int pp), .val (.long rc), .second, .val (.ref b48), .val (.long (rc / ((pp).toInt64))), .second, .val (.long ((rc / ((pp).toInt64)) + (1 : Int64))), .second, .unset] [(.int (1 : Int32))])) (fun tT_ kK_ => XS.goto X51.here hx rfl (pc0 := 137) (pc' := 141) rfl (hb hby at_137) (by decide) (by decide) kK_) ?_
      refine own_st (A := T51.setTop (mkF mM 143 #[.val (.int x0), .val (.int x1), .val (.long x2), .second, .val (.int x4), .val (.int pg), .val (.int pp), .val (.long rc), .second, .val (.ref b48), .val (.long (rc / ((pp).toInt64))), .second, .val (.long ((rc / ((pp).toInt64)) + (1 : Int64))), .second, .val (.int (1 : Int32))] [])) (fun tT_ kK_ => XS.istore X51.here hx rfl (hb hby at_141) rfl (l' := #[.val (.int x0), .val (.int x1), .val (.long x2), .second, .val (.int x4), .val (.int pg), .val (.int pp), .val (.long rc), .second, .val (.ref b48), .val (.long (rc / ((pp).toInt64))), .second, .val (.long ((rc / ((pp).toInt64)) + (1 : Int64))), .second, .val (.int (1 : Int32))]) rfl kK_) ?_
      refine own_st (A := T51.setTop (mkF mM 145 #[.val (.int x0), .val (.int x1), .val (.long x2), .second, .val (.int x4), .val (.int pg), .val (.int pp), .val (.long rc), .second, .val (.ref b48), .val (.long (rc / ((pp).toInt64))), .second, .val (.long ((rc / ((pp).toInt64)) + (1 : Int64))), .second, .val (.int (1 : Int32))] [(.ref b48)])) (fun tT_ kK_ => XS.aload X51.here hx rfl (hb hby at_143) rfl rfl kK_) ?_
      obtain ⟨cq57, kq57, q57a, q57b, q57c⟩ := isOf hZ e51 x51
      obtain ⟨_, _, ⟨T57, L57, k57, n57⟩, -, X57, ⟨Lc57, hQ57, l57, y57, z57⟩, st57⟩ := X51.virtualBack hx (y := (⟨"com/example/vyasa/vyasa/Page", "hasNext", "()Z"⟩ : MethodName)) (z := (⟨"com/example/vyasa/vyasa/Page", "hasNext", "()Z"⟩ : MethodName)) hown (mvT hZ (hw _ (List.mem_of_getElem? (i := 126) rfl))) (mvT hZ (hw _ (List.mem_of_getElem? (i := 127) rfl))) (notFace_of_selects (args := #[]) (mvT hZ (hw _ (List.mem_of_getElem? (i := 129) rfl)))) (mvT hZ (hw _ (List.mem_of_getElem? (i := 129) rfl))) (mvT hZ (hw _ (List.mem_of_getElem? (i := 128) rfl))) (by decide) (backOf (W := 0) (rmH lL Z a0 hw [] b48 rc pg pp 1 T51.heap n0 y51 z51' u51 (fun _ => rfl) (fun z => absurd ((pgF.2.2 hc113_52).mpr hc133_56) z)) hZ (hw _ (List.mem_of_getElem? (i := 130) rfl)) (hw _ (List.mem_of_getElem? (i := 8) rfl)) (by decide) (by decide)) q57a q57c (g := (mkF mM 145 #[.val (.int x0), .val (.int x1), .val (.long x2), .second, .val (.int x4), .val (.int pg), .val (.int pp), .val (.long rc), .second, .val (.ref b48), .val (.long (rc / ((pp).toInt64))), .second, .val (.long ((rc / ((pp).toInt64)) + (1 : Int64))), .second, .val (.int (1 : Int32))] [(.ref b48)])) rfl (by rw [hml]; rfl) (Steps.refl _) (argsL := []) (rest := []) (lenOf pd__28_29Z rfl) rfl (by show 2 * 0 + _ ≤ _; exact Nat.le_of_eq rfl) (hb hby at_145) (fun _ _ => ⟨rfl, e51, (by decide : 5 + 0 ≤ _), (by decide : 12 + 0 ≤ _)⟩)
      dsimp only [Pt.U, Pt.locs, Pt.cells, Pt.slots] at X57 l57 y57 z57 st57 hQ57
      subst l57 y57 z57
      obtain ⟨rfl, N57q, e57⟩ := hQ57
      have N57 := Fr.app N51 N57q
      refine own_st (A := T57.setTop (mkF mM 148 #[.val (.int x0), .val (.int x1), .val (.long x2), .second, .val (.int x4), .val (.int pg), .val (.int pp), .val (.long rc), .second, .val (.ref b48), .val (.long (rc / ((pp).toInt64))), .second, .val (.long ((rc / ((pp).toInt64)) + (1 : Int64))), .second, .val (.int (1 : Int32))] [(.int (1 : Int32))])) (fun tT_ kK_ => st57.trans kK_) ?_
      refine own_st (A := T57.setTop (mkF mM 150 #[.val (.int x0), .val (.int x1), .val (.long x2), .second, .val (.int x4), .val (.int pg), .val (.int pp), .val (.long rc), .second, .val (.ref b48), .val (.long (rc / ((pp).toInt64))), .second, .val (.long ((rc / ((pp).toInt64)) + (1 : Int64))), .second, .val (.int (1 : Int32))] [(.int (1 : Int32)), (.int (1 : Int32))])) (fun tT_ kK_ => XS.iload X57.here hx rfl (hb hby at_148) rfl kK_) ?_
      refine own_st (A := T57.setTop (mkF mM 153 #[.val (.int x0), .val (.int x1), .val (.long x2), .second, .val (.int x4), .val (.int pg), .val (.int pp), .val (.long rc), .second, .val (.ref b48), .val (.long (rc / ((pp).toInt64))), .second, .val (.long ((rc / ((pp).toInt64)) + (1 : Int64))), .second, .val (.int (1 : Int32))] [])) (fun tT_ kK_ => XS.icmpNo X57.here hx rfl (hb hby at_150) rfl (teq (by decide : ((1 : Int32) = (1 : Int32)))).2 kK_) ?_
      refine own_st (A := T57.setTop (mkF mM 154 #[.val (.int x0), .val (.int x1), .val (.long x2), .second, .val (.int x4), .val (.int pg), .val (.int pp), .val (.long rc), .second, .val (.ref b48), .val (.long (rc / ((pp).toInt64))), .second, .val (.long ((rc / ((pp).toInt64)) + (1 : Int64))), .second, .val (.int (1 : Int32))] [(.int (1 : Int32))])) (fun tT_ kK_ => XS.iconst X57.here hx rfl (hb hby at_153) kK_) ?_
      refine own_st (A := T57.setTop (mkF mM 158 #[.val (.int x0), .val (.int x1), .val (.long x2), .second, .val (.int x4), .val (.int pg), .val (.int pp), .val (.long rc), .second, .val (.ref b48), .val (.long (rc / ((pp).toInt64))), .second, .val (.long ((rc / ((pp).toInt64)) + (1 : Int64))), .second, .val (.int (1 : Int32))] [(.int (1 : Int32))])) (fun tT_ kK_ => XS.goto X57.here hx rfl (pc0 := 154) (pc' := 158) rfl (hb hby at_154) (by decide) (by decide) kK_) ?_
      exact own_retN X57 hx hlk (t := .boolean) hret (by simp) (hb hby at_158) ⟨rfl, N57⟩ (by decide) (by decide)
    · skip
      refine own_st (A := T51.setTop (mkF mM 140 #[.val (.int x0), .val (.int x1), .val (.long x2), .second, .val (.int x4), .val (.int pg), .val (.int pp), .val (.long rc), .second, .val (.ref b48), .val (.long (rc / ((pp).toInt64))), .second, .val (.long ((rc / ((pp).toInt64)) + (1 : Int64))), .second, .unset] [])) (fun tT_ kK_ => XS.ifYes X51.here hx rfl (pc0 := 133) (pc' := 140) rfl (hb hby at_133) rfl ((if0 _ _).trans (flt hc133_56).2.1) (by decide) (by decide) kK_) ?_
      refine own_st (A := T51.setTop (mkF mM 141 #[.val (.int x0), .val (.int x1), .val (.long x2), .second, .val (.int x4), .val (.int pg), .val (.int pp), .val (.long rc), .second, .val (.ref b48), .val (.long (rc / ((pp).toInt64))), .second, .val (.long ((rc / ((pp).toInt64)) + (1 : Int64))), .second, .unset] [(.int (0 : Int32))])) (fun tT_ kK_ => XS.iconst X51.here hx rfl (hb hby at_140) kK_) ?_
      refine own_st (A := T51.setTop (mkF mM 143 #[.val (.int x0), .val (.int x1), .val (.long x2), .second, .val (.int x4), .val (.int pg), .val (.int pp), .val (.long rc), .second, .val (.ref b48), .val (.long (rc / ((pp).toInt64))), .second, .val (.long ((rc / ((pp).toInt64)) + (1 : Int64))), .second, .val (.int (0 : Int32))] [])) (fun tT_ kK_ => XS.istore X51.here hx rfl (hb hby at_141) rfl (l' := #[.val (.int x0), .val (.int x1), .val (.long x2), .second, .val (.int x4), .val (.int pg), .val (.int pp), .val (.long rc), .second, .val (.ref b48), .val (.long (rc / ((pp).toInt64))), .second, .val (.long ((rc / ((pp).toInt64)) + (1 : Int64))), .second, .val (.int (0 : Int32))]) rfl kK_) ?_
      refine own_st (A := T51.setTop (mkF mM 145 #[.val (.int x0), .val (.int x1), .val (.long x2), .second, .val (.int x4), .val (.int pg), .val (.int pp), .val (.long rc), .second, .val (.ref b48), .val (.long (rc / ((pp).toInt64))), .second, .val (.long ((rc / ((pp).toInt64)) + (1 : Int64))), .second, .val (.int (0 : Int32))] [(.ref b48)])) (fun tT_ kK_ => XS.aload X51.here hx rfl (hb hby at_143) rfl rfl kK_) ?_
      obtain ⟨cq58, kq58, q58a, q58b, q58c⟩ := isOf hZ e51 x51
      obtain ⟨_, _, ⟨T58, L58, k58, n58⟩, -, X58, ⟨Lc58, hQ58, l58, y58, z58⟩, st58⟩ := X51.virtualBack hx (y := (⟨"com/example/vyasa/vyasa/Page", "hasNext", "()Z"⟩ : MethodName)) (z := (⟨"com/example/vyasa/vyasa/Page", "hasNext", "()Z"⟩ : MethodName)) hown (mvT hZ (hw _ (List.mem_of_getElem? (i := 126) rfl))) (mvT hZ (hw _ (List.mem_of_getElem? (i := 127) rfl))) (notFace_of_selects (args := #[]) (mvT hZ (hw _ (List.mem_of_getElem? (i := 129) rfl)))) (mvT hZ (hw _ (List.mem_of_getElem? (i := 129) rfl))) (mvT hZ (hw _ (List.mem_of_getElem? (i := 128) rfl))) (by decide) (backOf (W := 0) (rmH lL Z a0 hw [] b48 rc pg pp 0 T51.heap n0 y51 z51' u51 (fun z => absurd ((pgF.2.2 hc113_52).mp z) hc133_56) (fun _ => rfl)) hZ (hw _ (List.mem_of_getElem? (i := 130) rfl)) (hw _ (List.mem_of_getElem? (i := 8) rfl)) (by decide) (by decide)) q58a q58c (g := (mkF mM 145 #[.val (.int x0), .val (.int x1), .val (.long x2), .second, .val (.int x4), .val (.int pg), .val (.int pp), .val (.long rc), .second, .val (.ref b48), .val (.long (rc / ((pp).toInt64))), .second, .val (.long ((rc / ((pp).toInt64)) + (1 : Int64))), .second, .val (.int (0 : Int32))] [(.ref b48)])) rfl (by rw [hml]; rfl) (Steps.refl _) (argsL := []) (rest := []) (lenOf pd__28_29Z rfl) rfl (by show 2 * 0 + _ ≤ _; exact Nat.le_of_eq rfl) (hb hby at_145) (fun _ _ => ⟨rfl, e51, (by decide : 5 + 0 ≤ _), (by decide : 12 + 0 ≤ _)⟩)
      dsimp only [Pt.U, Pt.locs, Pt.cells, Pt.slots] at X58 l58 y58 z58 st58 hQ58
      subst l58 y58 z58
      obtain ⟨rfl, N58q, e58⟩ := hQ58
      have N58 := Fr.app N51 N58q
      refine own_st (A := T58.setTop (mkF mM 148 #[.val (.int x0), .val (.int x1), .val (.long x2), .second, .val (.int x4), .val (.int pg), .val (.int pp), .val (.long rc), .second, .val (.ref b48), .val (.long (rc / ((pp).toInt64))), .second, .val (.long ((rc / ((pp).toInt64)) + (1 : Int64))), .second, .val (.int (0 : Int32))] [(.int (0 : Int32))])) (fun tT_ kK_ => st58.trans kK_) ?_
      refine own_st (A := T58.setTop (mkF mM 150 #[.val (.int x0), .val (.int x1), .val (.long x2), .second, .val (.int x4), .val (.int pg), .val (.int pp), .val (.long rc), .second, .val (.ref b48), .val (.long (rc / ((pp).toInt64))), .second, .val (.long ((rc / ((pp).toInt64)) + (1 : Int64))), .second, .val (.int (0 : Int32))] [(.int (0 : Int32)), (.int (0 : Int32))])) (fun tT_ kK_ => XS.iload X58.here hx rfl (hb hby at_148) rfl kK_) ?_
      refine own_st (A := T58.setTop (mkF mM 153 #[.val (.int x0), .val (.int x1), .val (.long x2), .second, .val (.int x4), .val (.int pg), .val (.int pp), .val (.long rc), .second, .val (.ref b48), .val (.long (rc / ((pp).toInt64))), .second, .val (.long ((rc / ((pp).toInt64)) + (1 : Int64))), .second, .val (.int (0 : Int32))] [])) (fun tT_ kK_ => XS.icmpNo X58.here hx rfl (hb hby at_150) rfl (teq (by decide : ((0 : Int32) = (0 : Int32)))).2 kK_) ?_
      refine own_st (A := T58.setTop (mkF mM 154 #[.val (.int x0), .val (.int x1), .val (.long x2), .second, .val (.int x4), .val (.int pg), .val (.int pp), .val (.long rc), .second, .val (.ref b48), .val (.long (rc / ((pp).toInt64))), .second, .val (.long ((rc / ((pp).toInt64)) + (1 : Int64))), .second, .val (.int (0 : Int32))] [(.int (1 : Int32))])) (fun tT_ kK_ => XS.iconst X58.here hx rfl (hb hby at_153) kK_) ?_
      refine own_st (A := T58.setTop (mkF mM 158 #[.val (.int x0), .val (.int x1), .val (.long x2), .second, .val (.int x4), .val (.int pg), .val (.int pp), .val (.long rc), .second, .val (.ref b48), .val (.long (rc / ((pp).toInt64))), .second, .val (.long ((rc / ((pp).toInt64)) + (1 : Int64))), .second, .val (.int (0 : Int32))] [(.int (1 : Int32))])) (fun tT_ kK_ => XS.goto X58.here hx rfl (pc0 := 154) (pc' := 158) rfl (hb hby at_154) (by decide) (by decide) kK_) ?_
      exact own_retN X58 hx hlk (t := .boolean) hret (by simp) (hb hby at_158) ⟨rfl, N58⟩ (by decide) (by decide)
set_option maxRecDepth 65536 in
set_option maxHeartbeats 40000000 in
theorem J75b {pP : Program} {lL : Launch} {eE : Env} {sS : State} {mM : MethodId} {args : Array Value} {below : List Frame} {meth : Method} {cC : Code} {T0 : State} {locs : List Loc} {Z : State} {a0 : Array Value} {h0 : Heap} {n0 : Nat} (hw : ∀ d ∈ tables_1, d.before a0 Z = true) (X0 : Stand pP lL eE room_1 sS mM args below meth cC T0 locs 0 0) (hx : pP.tables.exec = Jvm.exec) (hZ : Z.Warmed39 sS.vm) (hby : cC.code = code) (hml : cC.maxLocals = 15) (hown : sS.vm.findClass "com/example/vyasa/vyasa/PageHasNextPinLaw" = some mM.cls) (hlk : meth.locks = false) (hret : meth.sig.returnType = ret) (e0 : T0.heap = h0) (N0 : Fr n0 locs) (x0 : Int32) (x1 : Int32) (x2 : Int64) (x4 : Int32) (pg : Int32) (pp : Int32) (rc : Int64) (dc : Addr) (kd : ClassId) (mo : Addr) (ee : Addr) (ma : Addr) (ml : Addr) (mr : Addr) (O : Old Z n0 h0) (Zn : n0 ≤ h0.size) (V_dc : Arv Z Z.heap dc kd (.object "java/lang/Object") 0 [] .null) (E_dc : Exa Z Z.heap dc "[Ljava/lang/Object;") (M_oa : own_Mr Z "[Ljava/lang/Object;" mo) (S_ee : Sta Z Z.heap "java/util/ArrayList" "EMPTY_ELEMENTDATA" "[Ljava/lang/Object;" (.ref ee)) (M_a : own_Mr Z "java/util/ArrayList" ma) (M_l : own_Mr Z "java/util/Collections$UnmodifiableList" ml) (M_r : own_Mr Z "java/util/Collections$UnmodifiableRandomAccessList" mr) (S_dc : Sta Z Z.heap "java/util/ArrayList" "DEFAULTCAPACITY_EMPTY_ELEMENTDATA" "[Ljava/lang/Object;" (.ref dc)) (hg : 1 ≤ pg.toInt) (hp : 1 ≤ pp.toInt) (hrc : 0 ≤ rc.toInt) :
    own_Go pP eE below sS (QLaw n0) 24 128 (T0.setTop (mkF mM 75 #[.val (.int x0), .val (.int x1), .val (.long x2), .second, .val (.int x4), .val (.int pg), .val (.int pp), .val (.long rc), .second, .unset, .unset, .unset, .unset, .unset, .unset] [])) := by
  have pgF := own_next rc pg pp hg hp hrc
  obtain ⟨T59, h59, X59, e59, E59, A59, D59, -, st59⟩ := newO X0 hx hZ hown (hw _ (List.mem_of_getElem? (i := 6) rfl)) (hw _ (List.mem_of_getElem? (i := 7) rfl)) (hw _ (List.mem_of_getElem? (i := 8) rfl)) e0 (g := (mkF mM 75 #[.val (.int x0), .val (.int x1), .val (.long x2), .second, .val (.int x4), .val (.int pg), .val (.int pp), .val (.long rc), .second, .unset, .unset, .unset, .unset, .unset, .unset] [])) rfl (hb hby at_75) (by decide) (by decide)
  obtain ⟨b59, g59⟩ : ∃ z, z = h0.size := ⟨_, rfl⟩
  rw [← g59] at A59 D59 st59
  have g_b59 : n0 ≤ b59 := Nat.le_trans Zn (Nat.le_of_eq g59.symm)
  have O := O.ext E59
  have Zn := Nat.le_trans Zn E59.1
  have E_b59 := A59
  have F_b59_rows : Fld Z h59 b59 "com/example/vyasa/vyasa/Page" "rows" "Ljava/util/List;" .null := D59 (Or.inr (hw _ (List.mem_of_getElem? (i := 119) rfl))) (ty := (.object "java/util/List")) (by decide)
  have F_b59_resultCount : Fld Z h59 b59 "com/example/vyasa/vyasa/Page" "resultCount" "J" (.long (0 : Int64)) := D59 (Or.inr (hw _ (List.mem_of_getElem? (i := 121) rfl))) (ty := .long) (by decide)
  have F_b59_page : Fld Z h59 b59 "com/example/vyasa/vyasa/Page" "page" "I" (.int (0 : Int32)) := D59 (Or.inr (hw _ (List.mem_of_getElem? (i := 123) rfl))) (ty := .int) (by decide)
  have F_b59_perPage : Fld Z h59 b59 "com/example/vyasa/vyasa/Page" "perPage" "I" (.int (0 : Int32)) := D59 (Or.inr (hw _ (List.mem_of_getElem? (i := 125) rfl))) (ty := .int) (by decide)
  refine own_st (A := T59.setTop (mkF mM 78 #[.val (.int x0), .val (.int x1), .val (.long x2), .second, .val (.int x4), .val (.int pg), .val (.int pp), .val (.long rc), .second, .unset, .unset, .unset, .unset, .unset, .unset] [(.ref b59)])) (fun tT_ kK_ => st59 tT_ kK_) ?_
  refine own_st (A := T59.setTop (mkF mM 79 #[.val (.int x0), .val (.int x1), .val (.long x2), .second, .val (.int x4), .val (.int pg), .val (.int pp), .val (.long rc), .second, .unset, .unset, .unset, .unset, .unset, .unset] [(.ref b59), (.ref b59)])) (fun tT_ kK_ => XS.dup X59.here hx rfl (hb hby at_78) rfl rfl kK_) ?_
  obtain ⟨T60, h60, X60, e60, E60, A60, D60, -, st60⟩ := newO X59 hx hZ hown (hw _ (List.mem_of_getElem? (i := 9) rfl)) (hw _ (List.mem_of_getElem? (i := 10) rfl)) (hw _ (List.mem_of_getElem? (i := 11) rfl)) e59 (g := (mkF mM 79 #[.val (.int x0), .val (.int x1), .val (.long x2), .second, .val (.int x4), .val (.int pg), .val (.int pp), .val (.long rc), .second, .unset, .unset, .unset, .unset, .unset, .unset] [(.ref b59), (.ref b59)])) rfl (hb hby at_79) (by decide) (by decide)
  obtain ⟨b60, g60⟩ : ∃ z, z = h59.size := ⟨_, rfl⟩
  rw [← g60] at A60 D60 st60
  have ne_b59_b60 : b59 ≠ b60 := Nat.ne_of_lt (Nat.lt_of_lt_of_le E_b59.lt (Nat.le_of_eq g60.symm))
  have g_b60 : n0 ≤ b60 := Nat.le_trans Zn (Nat.le_of_eq g60.symm)
  have F_b59_rows := F_b59_rows.ext E60
  have F_b59_resultCount := F_b59_resultCount.ext E60
  have F_b59_page := F_b59_page.ext E60
  have F_b59_perPage := F_b59_perPage.ext E60
  have E_b59 := E_b59.ext E60
  have O := O.ext E60
  have Zn := Nat.le_trans Zn E60.1
  have E_b60 := A60
  have F_b60_modCount : Fld Z h60 b60 "java/util/AbstractList" "modCount" "I" (.int (0 : Int32)) := D60 (Or.inl (hw _ (List.mem_of_getElem? (i := 31) rfl))) (ty := .int) (by decide)
  have F_b60_elementData : Fld Z h60 b60 "java/util/ArrayList" "elementData" "[Ljava/lang/Object;" .null := D60 (Or.inl (hw _ (List.mem_of_getElem? (i := 34) rfl))) (ty := (.array (.object "java/lang/Object"))) (by decide)
  have F_b60_size : Fld Z h60 b60 "java/util/ArrayList" "size" "I" (.int (0 : Int32)) := D60 (Or.inl (hw _ (List.mem_of_getElem? (i := 53) rfl))) (ty := .int) (by decide)
  refine own_st (A := T60.setTop (mkF mM 82 #[.val (.int x0), .val (.int x1), .val (.long x2), .second, .val (.int x4), .val (.int pg), .val (.int pp), .val (.long rc), .second, .unset, .unset, .unset, .unset, .unset, .unset] [(.ref b60), (.ref b59), (.ref b59)])) (fun tT_ kK_ => st60 tT_ kK_) ?_
  refine own_st (A := T60.setTop (mkF mM 83 #[.val (.int x0), .val (.int x1), .val (.long x2), .second, .val (.int x4), .val (.int pg), .val (.int pp), .val (.long rc), .second, .unset, .unset, .unset, .unset, .unset, .unset] [(.ref b60), (.ref b60), (.ref b59), (.ref b59)])) (fun tT_ kK_ => XS.dup X60.here hx rfl (hb hby at_82) rfl rfl kK_) ?_
  obtain ⟨_, _, ⟨T61, L61, k61, n61⟩, -, X61, ⟨Lc61, hQ61, l61, y61, z61⟩, st61⟩ := X60.specialBack hx (y := (⟨"java/util/ArrayList", "<init>", "()V"⟩ : MethodName)) rfl hown (mvT hZ (hw _ (List.mem_of_getElem? (i := 12) rfl))) (mvT hZ (hw _ (List.mem_of_getElem? (i := 13) rfl))) (mvT hZ (hw _ (List.mem_of_getElem? (i := 14) rfl))) (by decide) (backOf (W := 3) (rmA0 lL Z a0 hw [] b60 dc h60 n0 g_b60 E_b60 F_b60_modCount F_b60_elementData F_b60_size O S_dc) hZ (hw _ (List.mem_of_getElem? (i := 14) rfl)) (hw _ (List.mem_of_getElem? (i := 11) rfl)) (by decide) (by decide)) (g := (mkF mM 83 #[.val (.int x0), .val (.int x1), .val (.long x2), .second, .val (.int x4), .val (.int pg), .val (.int pp), .val (.long rc), .second, .unset, .unset, .unset, .unset, .unset, .unset] [(.ref b60), (.ref b60), (.ref b59), (.ref b59)])) rfl (by rw [hml]; rfl) (Steps.refl _) (a := b60) (argsL := []) (rest := [(.ref b60), (.ref b59), (.ref b59)]) (lenOf pd__28_29V rfl) rfl (by show 2 * 0 + _ ≤ _; exact Nat.le_of_eq rfl) (hb hby at_83) (fun _ _ => ⟨rfl, e60, (by decide : 2 + 0 ≤ _), (by decide : 7 + 0 ≤ _)⟩)
  dsimp only [Pt.U, Pt.locs, Pt.cells, Pt.slots] at X61 l61 y61 z61 st61 hQ61
  subst l61 y61 z61
  obtain ⟨rfl, N61q, K61, ob⟩ := hQ61
  have N61 := Fr.app N0 N61q
  have e61 : T61.heap = T61.heap := rfl
  refine own_st (A := T61.setTop (mkF mM 86 #[.val (.int x0), .val (.int x1), .val (.long x2), .second, .val (.int x4), .val (.int pg), .val (.int pp), .val (.long rc), .second, .unset, .unset, .unset, .unset, .unset, .unset] [(.ref b60), (.ref b59), (.ref b59)])) (fun tT_ kK_ => st61.trans kK_) ?_
  have F_b59_rows := F_b59_rows.keep K61 (ninS ne_b59_b60 nin0)
  have F_b59_resultCount := F_b59_resultCount.keep K61 (ninS ne_b59_b60 nin0)
  have F_b59_page := F_b59_page.keep K61 (ninS ne_b59_b60 nin0)
  have F_b59_perPage := F_b59_perPage.keep K61 (ninS ne_b59_b60 nin0)
  have E_b59 := E_b59.keep K61
  have E_b60 := E_b60.keep K61
  have O := O.keep K61 (allS g_b60 all0)
  have Zn := Nat.le_trans Zn K61.1
  refine own_st (A := T61.setTop (mkF mM 88 #[.val (.int x0), .val (.int x1), .val (.long x2), .second, .val (.int x4), .val (.int pg), .val (.int pp), .val (.long rc), .second, .unset, .unset, .unset, .unset, .unset, .unset] [(.long rc), (.ref b60), (.ref b59), (.ref b59)])) (fun tT_ kK_ => XS.lload X61.here hx rfl (hb hby at_86) rfl kK_) ?_
  refine own_st (A := T61.setTop (mkF mM 90 #[.val (.int x0), .val (.int x1), .val (.long x2), .second, .val (.int x4), .val (.int pg), .val (.int pp), .val (.long rc), .second, .unset, .unset, .unset, .unset, .unset, .unset] [(.int pg), (.long rc), (.ref b60), (.ref b59), (.ref b59)])) (fun tT_ kK_ => XS.iload X61.here hx rfl (hb hby at_88) rfl kK_) ?_
  refine own_st (A := T61.setTop (mkF mM 92 #[.val (.int x0), .val (.int x1), .val (.long x2), .second, .val (.int x4), .val (.int pg), .val (.int pp), .val (.long rc), .second, .unset, .unset, .unset, .unset, .unset, .unset] [(.int pp), (.int pg), (.long rc), (.ref b60), (.ref b59), (.ref b59)])) (fun tT_ kK_ => XS.iload X61.here hx rfl (hb hby at_90) rfl kK_) ?_
  obtain ⟨_, _, ⟨T62, L62, k62, n62⟩, -, X62, ⟨Lc62, hQ62, l62, y62, z62⟩, st62⟩ := X61.specialBack hx (y := (⟨"com/example/vyasa/vyasa/Page", "<init>", "(Ljava/util/List;JII)V"⟩ : MethodName)) rfl hown (mvT hZ (hw _ (List.mem_of_getElem? (i := 35) rfl))) (mvT hZ (hw _ (List.mem_of_getElem? (i := 36) rfl))) (mvT hZ (hw _ (List.mem_of_getElem? (i := 37) rfl))) (by decide) (backOf (W := 1) (rmPI lL Z a0 hw [] b59 b60 rc pg pp dc kd mo ee ma ml mr T61.heap n0 g_b59 E_b59 F_b59_rows F_b59_resultCount F_b59_page F_b59_perPage O Zn V_dc E_dc M_oa S_ee M_a M_l M_r ob) hZ (hw _ (List.mem_of_getElem? (i := 37) rfl)) (hw _ (List.mem_of_getElem? (i := 8) rfl)) (by decide) (by decide)) (g := (mkF mM 92 #[.val (.int x0), .val (.int x1), .val (.long x2), .second, .val (.int x4), .val (.int pg), .val (.int pp), .val (.long rc), .second, .unset, .unset, .unset, .unset, .unset, .unset] [(.int pp), (.int pg), (.long rc), (.ref b60), (.ref b59), (.ref b59)])) rfl (by rw [hml]; rfl) (Steps.refl _) (a := b59) (argsL := [(.ref b60), (.long rc), (.int pg), (.int pp)]) (rest := [(.ref b59)]) (lenOf pd__28Ljava_2futil_2fList_3bJII_29V rfl) rfl (by show 2 * 0 + _ ≤ _; exact Nat.le_of_eq rfl) (hb hby at_92) (fun _ _ => ⟨rfl, e61, (by decide : 2 + 3 ≤ _), (by decide : 7 + 5 ≤ _)⟩)
  dsimp only [Pt.U, Pt.locs, Pt.cells, Pt.slots] at X62 l62 y62 z62 st62 hQ62
  subst l62 y62 z62
  obtain ⟨rfl, N62q, K62, x62, y62, z62', u62⟩ := hQ62
  have N62 := Fr.app N61 N62q
  have e62 : T62.heap = T62.heap := rfl
  refine own_st (A := T62.setTop (mkF mM 95 #[.val (.int x0), .val (.int x1), .val (.long x2), .second, .val (.int x4), .val (.int pg), .val (.int pp), .val (.long rc), .second, .unset, .unset, .unset, .unset, .unset, .unset] [(.ref b59)])) (fun tT_ kK_ => st62.trans kK_) ?_
  refine own_st (A := T62.setTop (mkF mM 97 #[.val (.int x0), .val (.int x1), .val (.long x2), .second, .val (.int x4), .val (.int pg), .val (.int pp), .val (.long rc), .second, .val (.ref b59), .unset, .unset, .unset, .unset, .unset] [])) (fun tT_ kK_ => XS.astore X62.here hx rfl (hb hby at_95) rfl rfl (l' := #[.val (.int x0), .val (.int x1), .val (.long x2), .second, .val (.int x4), .val (.int pg), .val (.int pp), .val (.long rc), .second, .val (.ref b59), .unset, .unset, .unset, .unset, .unset]) rfl kK_) ?_
  refine own_st (A := T62.setTop (mkF mM 99 #[.val (.int x0), .val (.int x1), .val (.long x2), .second, .val (.int x4), .val (.int pg), .val (.int pp), .val (.long rc), .second, .val (.ref b59), .unset, .unset, .unset, .unset, .unset] [(.long rc)])) (fun tT_ kK_ => XS.lload X62.here hx rfl (hb hby at_97) rfl kK_) ?_
  refine own_st (A := T62.setTop (mkF mM 101 #[.val (.int x0), .val (.int x1), .val (.long x2), .second, .val (.int x4), .val (.int pg), .val (.int pp), .val (.long rc), .second, .val (.ref b59), .unset, .unset, .unset, .unset, .unset] [(.int pp), (.long rc)])) (fun tT_ kK_ => XS.iload X62.here hx rfl (hb hby at_99) rfl kK_) ?_
  refine own_st (A := T62.setTop (mkF mM 102 #[.val (.int x0), .val (.int x1), .val (.long x2), .second, .val (.int x4), .val (.int pg), .val (.int pp), .val (.long rc), .second, .val (.ref b59), .unset, .unset, .unset, .unset, .unset] [(.long ((pp).toInt64)), (.long rc)])) (fun tT_ kK_ => XS.i2l X62.here hx rfl (hb hby at_101) rfl kK_) ?_
  refine own_st (A := T62.setTop (mkF mM 103 #[.val (.int x0), .val (.int x1), .val (.long x2), .second, .val (.int x4), .val (.int pg), .val (.int pp), .val (.long rc), .second, .val (.ref b59), .unset, .unset, .unset, .unset, .unset] [(.long (rc / ((pp).toInt64)))])) (fun tT_ kK_ => XS.ldiv X62.here hx rfl (hb hby at_102) rfl pgF.1 kK_) ?_
  refine own_st (A := T62.setTop (mkF mM 105 #[.val (.int x0), .val (.int x1), .val (.long x2), .second, .val (.int x4), .val (.int pg), .val (.int pp), .val (.long rc), .second, .val (.ref b59), .val (.long (rc / ((pp).toInt64))), .second, .unset, .unset, .unset] [])) (fun tT_ kK_ => XS.lstore X62.here hx rfl (hb hby at_103) rfl (l' := #[.val (.int x0), .val (.int x1), .val (.long x2), .second, .val (.int x4), .val (.int pg), .val (.int pp), .val (.long rc), .second, .val (.ref b59), .val (.long (rc / ((pp).toInt64))), .second, .unset, .unset, .unset]) rfl kK_) ?_
  refine own_st (A := T62.setTop (mkF mM 107 #[.val (.int x0), .val (.int x1), .val (.long x2), .second, .val (.int x4), .val (.int pg), .val (.int pp), .val (.long rc), .second, .val (.ref b59), .val (.long (rc / ((pp).toInt64))), .second, .unset, .unset, .unset] [(.long rc)])) (fun tT_ kK_ => XS.lload X62.here hx rfl (hb hby at_105) rfl kK_) ?_
  refine own_st (A := T62.setTop (mkF mM 109 #[.val (.int x0), .val (.int x1), .val (.long x2), .second, .val (.int x4), .val (.int pg), .val (.int pp), .val (.long rc), .second, .val (.ref b59), .val (.long (rc / ((pp).toInt64))), .second, .unset, .unset, .unset] [(.int pp), (.long rc)])) (fun tT_ kK_ => XS.iload X62.here hx rfl (hb hby at_107) rfl kK_) ?_
  refine own_st (A := T62.setTop (mkF mM 110 #[.val (.int x0), .val (.int x1), .val (.long x2), .second, .val (.int x4), .val (.int pg), .val (.int pp), .val (.long rc), .second, .val (.ref b59), .val (.long (rc / ((pp).toInt64))), .second, .unset, .unset, .unset] [(.long ((pp).toInt64)), (.long rc)])) (fun tT_ kK_ => XS.i2l X62.here hx rfl (hb hby at_109) rfl kK_) ?_
  refine own_st (A := T62.setTop (mkF mM 111 #[.val (.int x0), .val (.int x1), .val (.long x2), .second, .val (.int x4), .val (.int pg), .val (.int pp), .val (.long rc), .second, .val (.ref b59), .val (.long (rc / ((pp).toInt64))), .second, .unset, .unset, .unset] [(.long (rc - (rc / ((pp).toInt64)) * ((pp).toInt64)))])) (fun tT_ kK_ => XS.lrem X62.here hx rfl (hb hby at_110) rfl pgF.1 kK_) ?_
  refine own_st (A := T62.setTop (mkF mM 112 #[.val (.int x0), .val (.int x1), .val (.long x2), .second, .val (.int x4), .val (.int pg), .val (.int pp), .val (.long rc), .second, .val (.ref b59), .val (.long (rc / ((pp).toInt64))), .second, .unset, .unset, .unset] [(.long (0 : Int64)), (.long (rc - (rc / ((pp).toInt64)) * ((pp).toInt64)))])) (fun tT_ kK_ => XS.lconst X62.here hx rfl (hb hby at_111) kK_) ?_
  refine own_st (A := T62.setTop (mkF mM 113 #[.val (.int x0), .val (.int x1), .val (.long x2), .second, .val (.int x4), .val (.int pg), .val (.int pp), .val (.long rc), .second, .val (.ref b59), .val (.long (rc / ((pp).toInt64))), .second, .unset, .unset, .unset] [(.int (lcmpW (rc - (rc / ((pp).toInt64)) * ((pp).toInt64)) (0 : Int64)))])) (fun tT_ kK_ => XS.lcmp X62.here hx rfl (hb hby at_112) rfl kK_) ?_
  by_cases hc113_63 : (lcmpW (rc - (rc / ((pp).toInt64)) * ((pp).toInt64)) (0 : Int64)) = (0 : Int32)
  · skip
    refine own_st (A := T62.setTop (mkF mM 116 #[.val (.int x0), .val (.int x1), .val (.long x2), .second, .val (.int x4), .val (.int pg), .val (.int pp), .val (.long rc), .second, .val (.ref b59), .val (.long (rc / ((pp).toInt64))), .second, .unset, .unset, .unset] [])) (fun tT_ kK_ => XS.ifNo X62.here hx rfl (hb hby at_113) rfl ((if0 _ _).trans (teq hc113_63).2) kK_) ?_
    refine own_st (A := T62.setTop (mkF mM 118 #[.val (.int x0), .val (.int x1), .val (.long x2), .second, .val (.int x4), .val (.int pg), .val (.int pp), .val (.long rc), .second, .val (.ref b59), .val (.long (rc / ((pp).toInt64))), .second, .unset, .unset, .unset] [(.long (rc / ((pp).toInt64)))])) (fun tT_ kK_ => XS.lload X62.here hx rfl (hb hby at_116) rfl kK_) ?_
    refine own_st (A := T62.setTop (mkF mM 125 #[.val (.int x0), .val (.int x1), .val (.long x2), .second, .val (.int x4), .val (.int pg), .val (.int pp), .val (.long rc), .second, .val (.ref b59), .val (.long (rc / ((pp).toInt64))), .second, .unset, .unset, .unset] [(.long (rc / ((pp).toInt64)))])) (fun tT_ kK_ => XS.goto X62.here hx rfl (pc0 := 118) (pc' := 125) rfl (hb hby at_118) (by decide) (by decide) kK_) ?_
    refine own_st (A := T62.setTop (mkF mM 127 #[.val (.int x0), .val (.int x1), .val (.long x2), .second, .val (.int x4), .val (.int pg), .val (.int pp), .val (.long rc), .second, .val (.ref b59), .val (.long (rc / ((pp).toInt64))), .second, .val (.long (rc / ((pp).toInt64))), .second, .unset] [])) (fun tT_ kK_ => XS.lstore X62.here hx rfl (hb hby at_125) rfl (l' := #[.val (.int x0), .val (.int x1), .val (.long x2), .second, .val (.int x4), .val (.int pg), .val (.int pp), .val (.long rc), .second, .val (.ref b59), .val (.long (rc / ((pp).toInt64))), .second, .val (.long (rc / ((pp).toInt64))), .second, .unset]) rfl kK_) ?_
    refine own_st (A := T62.setTop (mkF mM 129 #[.val (.int x0), .val (.int x1), .val (.long x2), .second, .val (.int x4), .val (.int pg), .val (.int pp), .val (.long rc), .second, .val (.ref b59), .val (.long (rc / ((pp).toInt64))), .second, .val (.long (rc / ((pp).toInt64))), .second, .unset] [(.int pg)])) (fun tT_ kK_ => XS.iload X62.here hx rfl (hb hby at_127) rfl kK_) ?_
    refine own_st (A := T62.setTop (mkF mM 130 #[.val (.int x0), .val (.int x1), .val (.long x2), .second, .val (.int x4), .val (.int pg), .val (.int pp), .val (.long rc), .second, .val (.ref b59), .val (.long (rc / ((pp).toInt64))), .second, .val (.long (rc / ((pp).toInt64))), .second, .unset] [(.long ((pg).toInt64))])) (fun tT_ kK_ => XS.i2l X62.here hx rfl (hb hby at_129) rfl kK_) ?_
    refine own_st (A := T62.setTop (mkF mM 132 #[.val (.int x0), .val (.int x1), .val (.long x2), .second, .val (.int x4), .val (.int pg), .val (.int pp), .val (.long rc), .second, .val (.ref b59), .val (.long (rc / ((pp).toInt64))), .second, .val (.long (rc / ((pp).toInt64))), .second, .unset] [(.long (rc / ((pp).toInt64))), (.long ((pg).toInt64))])) (fun tT_ kK_ => XS.lload X62.here hx rfl (hb hby at_130) rfl kK_) ?_
    refine own_st (A := T62.setTop (mkF mM 133 #[.val (.int x0), .val (.int x1), .val (.long x2), .second, .val (.int x4), .val (.int pg), .val (.int pp), .val (.long rc), .second, .val (.ref b59), .val (.long (rc / ((pp).toInt64))), .second, .val (.long (rc / ((pp).toInt64))), .second, .unset] [(.int (lcmpW ((pg).toInt64) (rc / ((pp).toInt64))))])) (fun tT_ kK_ => XS.lcmp X62.here hx rfl (hb hby at_132) rfl kK_) ?_
    by_cases hc133_64 : (lcmpW ((pg).toInt64) (rc / ((pp).toInt64))) < (0 : Int32)
    · skip
      refine own_st (A := T62.setTop (mkF mM 136 #[.val (.int x0), .val (.int x1), .val (.long x2), .second, .val (.int x4), .val (.int pg), .val (.int pp), .val (.long rc), .second, .val (.ref b59), .val (.long (rc / ((pp).toInt64))), .second, .val (.long (rc / ((pp).toInt64))), .second, .unset] [])) (fun tT_ kK_ => XS.ifNo X62.here hx rfl (hb hby at_133) rfl ((if0 _ _).trans (tlt hc133_64).2.1) kK_) ?_
      refine own_st (A := T62.setTop (mkF mM 137 #[.val (.int x0), .val (.int x1), .val (.long x2), .second, .val (.int x4), .val (.int pg), .val (.int pp), .val (.long rc), .second, .val (.ref b59), .val (.long (rc / ((pp).toInt64))), .second, .val (.long (rc / ((pp).toInt64))), .second, .unset] [(.int (1 : Int32))])) (fun tT_ kK_ => XS.iconst X62.here hx rfl (hb hby at_136) kK_) ?_
      refine own_st (A := T62.setTop (mkF mM 141 #[.val (.int x0), .val (.int x1), .val (.long x2), .second, .val (.int x4), .val (.int pg), .val (.int pp), .val (.long rc), .second, .val (.ref b59), .val (.long (rc / ((pp).toInt64))), .second, .val (.long (rc / ((pp).toInt64))), .second, .unset] [(.int (1 : Int32))])) (fun tT_ kK_ => XS.goto X62.here hx rfl (pc0 := 137) (pc' := 141) rfl (hb hby at_137) (by decide) (by decide) kK_) ?_
      refine own_st (A := T62.setTop (mkF mM 143 #[.val (.int x0), .val (.int x1), .val (.long x2), .second, .val (.int x4), .val (.int pg), .val (.int pp), .val (.long rc), .second, .val (.ref b59), .val (.long (rc / ((pp).toInt64))), .second, .val (.long (rc / ((pp).toInt64))), .second, .val (.int (1 : Int32))] [])) (fun tT_ kK_ => XS.istore X62.here hx rfl (hb hby at_141) rfl (l' := #[.val (.int x0), .val (.int x1), .val (.long x2), .second, .val (.int x4), .val (.int pg), .val (.int pp), .val (.long rc), .second, .val (.ref b59), .val (.long (rc / ((pp).toInt64))), .second, .val (.long (rc / ((pp).toInt64))), .second, .val (.int (1 : Int32))]) rfl kK_) ?_
      refine own_st (A := T62.setTop (mkF mM 145 #[.val (.int x0), .val (.int x1), .val (.long x2), .second, .val (.int x4), .val (.int pg), .val (.int pp), .val (.long rc), .second, .val (.ref b59), .val (.long (rc / ((pp).toInt64))), .second, .val (.long (rc / ((pp).toInt64))), .second, .val (.int (1 : Int32))] [(.ref b59)])) (fun tT_ kK_ => XS.aload X62.here hx rfl (hb hby at_143) rfl rfl kK_) ?_
      obtain ⟨cq65, kq65, q65a, q65b, q65c⟩ := isOf hZ e62 x62
      obtain ⟨_, _, ⟨T65, L65, k65, n65⟩, -, X65, ⟨Lc65, hQ65, l65, y65, z65⟩, st65⟩ := X62.virtualBack hx (y := (⟨"com/example/vyasa/vyasa/Page", "hasNext", "()Z"⟩ : MethodName)) (z := (⟨"com/example/vyasa/vyasa/Page", "hasNext", "()Z"⟩ : MethodName)) hown (mvT hZ (hw _ (List.mem_of_getElem? (i := 126) rfl))) (mvT hZ (hw _ (List.mem_of_getElem? (i := 127) rfl))) (notFace_of_selects (args := #[]) (mvT hZ (hw _ (List.mem_of_getElem? (i := 129) rfl)))) (mvT hZ (hw _ (List.mem_of_getElem? (i := 129) rfl))) (mvT hZ (hw _ (List.mem_of_getElem? (i := 128) rfl))) (by decide) (backOf (W := 0) (rmH lL Z a0 hw [] b59 rc pg pp 1 T62.heap n0 y62 z62' u62 (fun _ => rfl) (fun z => absurd ((pgF.2.1 hc113_63).mpr hc133_64) z)) hZ (hw _ (List.mem_of_getElem? (i := 130) rfl)) (hw _ (List.mem_of_getElem? (i := 8) rfl)) (by decide) (by decide)) q65a q65c (g := (mkF mM 145 #[.val (.int x0), .val (.int x1), .val (.long x2), .second, .val (.int x4), .val (.int pg), .val (.int pp), .val (.long rc), .second, .val (.ref b59), .val (.long (rc / ((pp).toInt64))), .second, .val (.long (rc / ((pp).toInt64))), .second, .val (.int (1 : Int32))] [(.ref b59)])) rfl (by rw [hml]; rfl) (Steps.refl _) (argsL := []) (rest := []) (lenOf pd__28_29Z rfl) rfl (by show 2 * 0 + _ ≤ _; exact Nat.le_of_eq rfl) (hb hby at_145) (fun _ _ => ⟨rfl, e62, (by decide : 5 + 0 ≤ _), (by decide : 12 + 0 ≤ _)⟩)
      dsimp only [Pt.U, Pt.locs, Pt.cells, Pt.slots] at X65 l65 y65 z65 st65 hQ65
      subst l65 y65 z65
      obtain ⟨rfl, N65q, e65⟩ := hQ65
      have N65 := Fr.app N62 N65q
      refine own_st (A := T65.setTop (mkF mM 148 #[.val (.int x0), .val (.int x1), .val (.long x2), .second, .val (.int x4), .val (.int pg), .val (.int pp), .val (.long rc), .second, .val (.ref b59), .val (.long (rc / ((pp).toInt64))), .second, .val (.long (rc / ((pp).toInt64))), .second, .val (.int (1 : Int32))] [(.int (1 : Int32))])) (fun tT_ kK_ => st65.trans kK_) ?_
      refine own_st (A := T65.setTop (mkF mM 150 #[.val (.int x0), .val (.int x1), .val (.long x2), .second, .val (.int x4), .val (.int pg), .val (.int pp), .val (.long rc), .second, .val (.ref b59), .val (.long (rc / ((pp).toInt64))), .second, .val (.long (rc / ((pp).toInt64))), .second, .val (.int (1 : Int32))] [(.int (1 : Int32)), (.int (1 : Int32))])) (fun tT_ kK_ => XS.iload X65.here hx rfl (hb hby at_148) rfl kK_) ?_
      refine own_st (A := T65.setTop (mkF mM 153 #[.val (.int x0), .val (.int x1), .val (.long x2), .second, .val (.int x4), .val (.int pg), .val (.int pp), .val (.long rc), .second, .val (.ref b59), .val (.long (rc / ((pp).toInt64))), .second, .val (.long (rc / ((pp).toInt64))), .second, .val (.int (1 : Int32))] [])) (fun tT_ kK_ => XS.icmpNo X65.here hx rfl (hb hby at_150) rfl (teq (by decide : ((1 : Int32) = (1 : Int32)))).2 kK_) ?_
      refine own_st (A := T65.setTop (mkF mM 154 #[.val (.int x0), .val (.int x1), .val (.long x2), .second, .val (.int x4), .val (.int pg), .val (.int pp), .val (.long rc), .second, .val (.ref b59), .val (.long (rc / ((pp).toInt64))), .second, .val (.long (rc / ((pp).toInt64))), .second, .val (.int (1 : Int32))] [(.int (1 : Int32))])) (fun tT_ kK_ => XS.iconst X65.here hx rfl (hb hby at_153) kK_) ?_
      refine own_st (A := T65.setTop (mkF mM 158 #[.val (.int x0), .val (.int x1), .val (.long x2), .second, .val (.int x4), .val (.int pg), .val (.int pp), .val (.long rc), .second, .val (.ref b59), .val (.long (rc / ((pp).toInt64))), .second, .val (.long (rc / ((pp).toInt64))), .second, .val (.int (1 : Int32))] [(.int (1 : Int32))])) (fun tT_ kK_ => XS.goto X65.here hx rfl (pc0 := 154) (pc' := 158) rfl (hb hby at_154) (by decide) (by decide) kK_) ?_
      exact own_retN X65 hx hlk (t := .boolean) hret (by simp) (hb hby at_158) ⟨rfl, N65⟩ (by decide) (by decide)
    · skip
      refine own_st (A := T62.setTop (mkF mM 140 #[.val (.int x0), .val (.int x1), .val (.long x2), .second, .val (.int x4), .val (.int pg), .val (.int pp), .val (.long rc), .second, .val (.ref b59), .val (.long (rc / ((pp).toInt64))), .second, .val (.long (rc / ((pp).toInt64))), .second, .unset] [])) (fun tT_ kK_ => XS.ifYes X62.here hx rfl (pc0 := 133) (pc' := 140) rfl (hb hby at_133) rfl ((if0 _ _).trans (flt hc133_64).2.1) (by decide) (by decide) kK_) ?_
      refine own_st (A := T62.setTop (mkF mM 141 #[.val (.int x0), .val (.int x1), .val (.long x2), .second, .val (.int x4), .val (.int pg), .val (.int pp), .val (.long rc), .second, .val (.ref b59), .val (.long (rc / ((pp).toInt64))), .second, .val (.long (rc / ((pp).toInt64))), .second, .unset] [(.int (0 : Int32))])) (fun tT_ kK_ => XS.iconst X62.here hx rfl (hb hby at_140) kK_) ?_
      refine own_st (A := T62.setTop (mkF mM 143 #[.val (.int x0), .val (.int x1), .val (.long x2), .second, .val (.int x4), .val (.int pg), .val (.int pp), .val (.long rc), .second, .val (.ref b59), .val (.long (rc / ((pp).toInt64))), .second, .val (.long (rc / ((pp).toInt64))), .second, .val (.int (0 : Int32))] [])) (fun tT_ kK_ => XS.istore X62.here hx rfl (hb hby at_141) rfl (l' := #[.val (.int x0), .val (.int x1), .val (.long x2), .second, .val (.int x4), .val (.int pg), .val (.int pp), .val (.long rc), .second, .val (.ref b59), .val (.long (rc / ((pp).toInt64))), .second, .val (.long (rc / ((pp).toInt64))), .second, .val (.int (0 : Int32))]) rfl kK_) ?_
      refine own_st (A := T62.setTop (mkF mM 145 #[.val (.int x0), .val (.int x1), .val (.long x2), .second, .val (.int x4), .val (.int pg), .val (.int pp), .val (.long rc), .second, .val (.ref b59), .val (.long (rc / ((pp).toInt64))), .second, .val (.long (rc / ((pp).toInt64))), .second, .val (.int (0 : Int32))] [(.ref b59)])) (fun tT_ kK_ => XS.aload X62.here hx rfl (hb hby at_143) rfl rfl kK_) ?_
      obtain ⟨cq66, kq66, q66a, q66b, q66c⟩ := isOf hZ e62 x62
      obtain ⟨_, _, ⟨T66, L66, k66, n66⟩, -, X66, ⟨Lc66, hQ66, l66, y66, z66⟩, st66⟩ := X62.virtualBack hx (y := (⟨"com/example/vyasa/vyasa/Page", "hasNext", "()Z"⟩ : MethodName)) (z := (⟨"com/example/vyasa/vyasa/Page", "hasNext", "()Z"⟩ : MethodName)) hown (mvT hZ (hw _ (List.mem_of_getElem? (i := 126) rfl))) (mvT hZ (hw _ (List.mem_of_getElem? (i := 127) rfl))) (notFace_of_selects (args := #[]) (mvT hZ (hw _ (List.mem_of_getElem? (i := 129) rfl)))) (mvT hZ (hw _ (List.mem_of_getElem? (i := 129) rfl))) (mvT hZ (hw _ (List.mem_of_getElem? (i := 128) rfl))) (by decide) (backOf (W := 0) (rmH lL Z a0 hw [] b59 rc pg pp 0 T62.heap n0 y62 z62' u62 (fun z => absurd ((pgF.2.1 hc113_63).mp z) hc133_64) (fun _ => rfl)) hZ (hw _ (List.mem_of_getElem? (i := 130) rfl)) (hw _ (List.mem_of_getElem? (i := 8) rfl)) (by decide) (by decide)) q66a q66c (g := (mkF mM 145 #[.val (.int x0), .val (.int x1), .val (.long x2), .second, .val (.int x4), .val (.int pg), .val (.int pp), .val (.long rc), .second, .val (.ref b59), .val (.long (rc / ((pp).toInt64))), .second, .val (.long (rc / ((pp).toInt64))), .second, .val (.int (0 : Int32))] [(.ref b59)])) rfl (by rw [hml]; rfl) (Steps.refl _) (argsL := []) (rest := []) (lenOf pd__28_29Z rfl) rfl (by show 2 * 0 + _ ≤ _; exact Nat.le_of_eq rfl) (hb hby at_145) (fun _ _ => ⟨rfl, e62, (by decide : 5 + 0 ≤ _), (by decide : 12 + 0 ≤ _)⟩)
      dsimp only [Pt.U, Pt.locs, Pt.cells, Pt.slots] at X66 l66 y66 z66 st66 hQ66
      subst l66 y66 z66
      obtain ⟨rfl, N66q, e66⟩ := hQ66
      have N66 := Fr.app N62 N66q
      refine own_st (A := T66.setTop (mkF mM 148 #[.val (.int x0), .val (.int x1), .val (.long x2), .second, .val (.int x4), .val (.int pg), .val (.int pp), .val (.long rc), .second, .val (.ref b59), .val (.long (rc / ((pp).toInt64))), .second, .val (.long (rc / ((pp).toInt64))), .second, .val (.int (0 : Int32))] [(.int (0 : Int32))])) (fun tT_ kK_ => st66.trans kK_) ?_
      refine own_st (A := T66.setTop (mkF mM 150 #[.val (.int x0), .val (.int x1), .val (.long x2), .second, .val (.int x4), .val (.int pg), .val (.int pp), .val (.long rc), .second, .val (.ref b59), .val (.long (rc / ((pp).toInt64))), .second, .val (.long (rc / ((pp).toInt64))), .second, .val (.int (0 : Int32))] [(.int (0 : Int32)), (.int (0 : Int32))])) (fun tT_ kK_ => XS.iload X66.here hx rfl (hb hby at_148) rfl kK_) ?_
      refine own_st (A := T66.setTop (mkF mM 153 #[.val (.int x0), .val (.int x1), .val (.long x2), .second, .val (.int x4), .val (.int pg), .val (.int pp), .val (.long rc), .second, .val (.ref b59), .val (.long (rc / ((pp).toInt64))), .second, .val (.long (rc / ((pp).toInt64))), .second, .val (.int (0 : Int32))] [])) (fun tT_ kK_ => XS.icmpNo X66.here hx rfl (hb hby at_150) rfl (teq (by decide : ((0 : Int32) = (0 : Int32)))).2 kK_) ?_
      refine own_st (A := T66.setTop (mkF mM 154 #[.val (.int x0), .val (.int x1), .val (.long x2), .second, .val (.int x4), .val (.int pg), .val (.int pp), .val (.long rc), .second, .val (.ref b59), .val (.long (rc / ((pp).toInt64))), .second, .val (.long (rc / ((pp).toInt64))), .second, .val (.int (0 : Int32))] [(.int (1 : Int32))])) (fun tT_ kK_ => XS.iconst X66.here hx rfl (hb hby at_153) kK_) ?_
      refine own_st (A := T66.setTop (mkF mM 158 #[.val (.int x0), .val (.int x1), .val (.long x2), .second, .val (.int x4), .val (.int pg), .val (.int pp), .val (.long rc), .second, .val (.ref b59), .val (.long (rc / ((pp).toInt64))), .second, .val (.long (rc / ((pp).toInt64))), .second, .val (.int (0 : Int32))] [(.int (1 : Int32))])) (fun tT_ kK_ => XS.goto X66.here hx rfl (pc0 := 154) (pc' := 158) rfl (hb hby at_154) (by decide) (by decide) kK_) ?_
      exact own_retN X66 hx hlk (t := .boolean) hret (by simp) (hb hby at_158) ⟨rfl, N66⟩ (by decide) (by decide)
  · skip
    refine own_st (A := T62.setTop (mkF mM 121 #[.val (.int x0), .val (.int x1), .val (.long x2), .second, .val (.int x4), .val (.int pg), .val (.int pp), .val (.long rc), .second, .val (.ref b59), .val (.long (rc / ((pp).toInt64))), .second, .unset, .unset, .unset] [])) (fun tT_ kK_ => XS.ifYes X62.here hx rfl (pc0 := 113) (pc' := 121) rfl (hb hby at_113) rfl ((if0 _ _).trans (feq hc113_63).2) (by decide) (by decide) kK_) ?_
    refine own_st (A := T62.setTop (mkF mM 123 #[.val (.int x0), .val (.int x1), .val (.long x2), .second, .val (.int x4), .val (.int pg), .val (.int pp), .val (.long rc), .second, .val (.ref b59), .val (.long (rc / ((pp).toInt64))), .second, .unset, .unset, .unset] [(.long (rc / ((pp).toInt64)))])) (fun tT_ kK_ => XS.lload X62.here hx rfl (hb hby at_121) rfl kK_) ?_
    refine own_st (A := T62.setTop (mkF mM 124 #[.val (.int x0), .val (.int x1), .val (.long x2), .second, .val (.int x4), .val (.int pg), .val (.int pp), .val (.long rc), .second, .val (.ref b59), .val (.long (rc / ((pp).toInt64))), .second, .unset, .unset, .unset] [(.long (1 : Int64)), (.long (rc / ((pp).toInt64)))])) (fun tT_ kK_ => XS.lconst X62.here hx rfl (hb hby at_123) kK_) ?_
    refine own_st (A := T62.setTop (mkF mM 125 #[.val (.int x0), .val (.int x1), .val (.long x2), .second, .val (.int x4), .val (.int pg), .val (.int pp), .val (.long rc), .second, .val (.ref b59), .val (.long (rc / ((pp).toInt64))), .second, .unset, .unset, .unset] [(.long ((rc / ((pp).toInt64)) + (1 : Int64)))])) (fun tT_ kK_ => XS.ladd X62.here hx rfl (hb hby at_124) rfl kK_) ?_
    refine own_st (A := T62.setTop (mkF mM 127 #[.val (.int x0), .val (.int x1), .val (.long x2), .second, .val (.int x4), .val (.int pg), .val (.int pp), .val (.long rc), .second, .val (.ref b59), .val (.long (rc / ((pp).toInt64))), .second, .val (.long ((rc / ((pp).toInt64)) + (1 : Int64))), .second, .unset] [])) (fun tT_ kK_ => XS.lstore X62.here hx rfl (hb hby at_125) rfl (l' := #[.val (.int x0), .val (.int x1), .val (.long x2), .second, .val (.int x4), .val (.int pg), .val (.int pp), .val (.long rc), .second, .val (.ref b59), .val (.long (rc / ((pp).toInt64))), .second, .val (.long ((rc / ((pp).toInt64)) + (1 : Int64))), .second, .unset]) rfl kK_) ?_
    refine own_st (A := T62.setTop (mkF mM 129 #[.val (.int x0), .val (.int x1), .val (.long x2), .second, .val (.int x4), .val (.int pg), .val (.int pp), .val (.long rc), .second, .val (.ref b59), .val (.long (rc / ((pp).toInt64))), .second, .val (.long ((rc / ((pp).toInt64)) + (1 : Int64))), .second, .unset] [(.int pg)])) (fun tT_ kK_ => XS.iload X62.here hx rfl (hb hby at_127) rfl kK_) ?_
    refine own_st (A := T62.setTop (mkF mM 130 #[.val (.int x0), .val (.int x1), .val (.long x2), .second, .val (.int x4), .val (.int pg), .val (.int pp), .val (.long rc), .second, .val (.ref b59), .val (.long (rc / ((pp).toInt64))), .second, .val (.long ((rc / ((pp).toInt64)) + (1 : Int64))), .second, .unset] [(.long ((pg).toInt64))])) (fun tT_ kK_ => XS.i2l X62.here hx rfl (hb hby at_129) rfl kK_) ?_
    refine own_st (A := T62.setTop (mkF mM 132 #[.val (.int x0), .val (.int x1), .val (.long x2), .second, .val (.int x4), .val (.int pg), .val (.int pp), .val (.long rc), .second, .val (.ref b59), .val (.long (rc / ((pp).toInt64))), .second, .val (.long ((rc / ((pp).toInt64)) + (1 : Int64))), .second, .unset] [(.long ((rc / ((pp).toInt64)) + (1 : Int64))), (.long ((pg).toInt64))])) (fun tT_ kK_ => XS.lload X62.here hx rfl (hb hby at_130) rfl kK_) ?_
    refine own_st (A := T62.setTop (mkF mM 133 #[.val (.int x0), .val (.int x1), .val (.long x2), .second, .val (.int x4), .val (.int pg), .val (.int pp), .val (.long rc), .second, .val (.ref b59), .val (.long (rc / ((pp).toInt64))), .second, .val (.long ((rc / ((pp).toInt64)) + (1 : Int64))), .second, .unset] [(.int (lcmpW ((pg).toInt64) ((rc / ((pp).toInt64)) + (1 : Int64))))])) (fun tT_ kK_ => XS.lcmp X62.here hx rfl (hb hby at_132) rfl kK_) ?_
    by_cases hc133_67 : (lcmpW ((pg).toInt64) ((rc / ((pp).toInt64)) + (1 : Int64))) < (0 : Int32)
    · skip
      refine own_st (A := T62.setTop (mkF mM 136 #[.val (.int x0), .val (.int x1), .val (.long x2), .second, .val (.int x4), .val (.int pg), .val (.int pp), .val (.long rc), .second, .val (.ref b59), .val (.long (rc / ((pp).toInt64))), .second, .val (.long ((rc / ((pp).toInt64)) + (1 : Int64))), .second, .unset] [])) (fun tT_ kK_ => XS.ifNo X62.here hx rfl (hb hby at_133) rfl ((if0 _ _).trans (tlt hc133_67).2.1) kK_) ?_
      refine own_st (A := T62.setTop (mkF mM 137 #[.val (.int x0), .val (.int x1), .val (.long x2), .second, .val (.int x4), .val (.int pg), .val (.int pp), .val (.long rc), .second, .val (.ref b59), .val (.long (rc / ((pp).toInt64))), .second, .val (.long ((rc / ((pp).toInt64)) + (1 : Int64))), .second, .unset] [(.int (1 : Int32))])) (fun tT_ kK_ => XS.iconst X62.here hx rfl (hb hby at_136) kK_) ?_
      refine own_st (A := T62.setTop (mkF mM 141 #[.val (.int x0), .val (.int x1), .val (.long x2), .second, .val (.int x4), .val (.int pg), .val (.int pp), .val (.long rc), .second, .val (.ref b59), .val (.long (rc / ((pp).toInt64))), .second, .val (.long ((rc / ((pp).toInt64)) + (1 : Int64))), .second, .unset] [(.int (1 : Int32))])) (fun tT_ kK_ => XS.goto X62.here hx rfl (pc0 := 137) (pc' := 141) rfl (hb hby at_137) (by decide) (by decide) kK_) ?_
      refine own_st (A := T62.setTop (mkF mM 143 #[.val (.int x0), .val (.int x1), .val (.long x2), .second, .val (.int x4), .val (.int pg), .val (.int pp), .val (.long rc), .second, .val (.ref b59), .val (.long (rc / ((pp).toInt64))), .second, .val (.long ((rc / ((pp).toInt64)) + (1 : Int64))), .second, .val (.int (1 : Int32))] [])) (fun tT_ kK_ => XS.istore X62.here hx rfl (hb hby at_141) rfl (l' := #[.val (.int x0), .val (.int x1), .val (.long x2), .second, .val (.int x4), .val (.int pg), .val (.int pp), .val (.long rc), .second, .val (.ref b59), .val (.long (rc / ((pp).toInt64))), .second, .val (.long ((rc / ((pp).toInt64)) + (1 : Int64))), .second, .val (.int (1 : Int32))]) rfl kK_) ?_
      refine own_st (A := T62.setTop (mkF mM 145 #[.val (.int x0), .val (.int x1), .val (.long x2), .second, .val (.int x4), .val (.int pg), .val (.int pp), .val (.long rc), .second, .val (.ref b59), .val (.long (rc / ((pp).toInt64))), .second, .val (.long ((rc / ((pp).toInt64)) + (1 : Int64))), .second, .val (.int (1 : Int32))] [(.ref b59)])) (fun tT_ kK_ => XS.aload X62.here hx rfl (hb hby at_143) rfl rfl kK_) ?_
      obtain ⟨cq68, kq68, q68a, q68b, q68c⟩ := isOf hZ e62 x62
      obtain ⟨_, _, ⟨T68, L68, k68, n68⟩, -, X68, ⟨Lc68, hQ68, l68, y68, z68⟩, st68⟩ := X62.virtualBack hx (y := (⟨"com/example/vyasa/vyasa/Page", "hasNext", "()Z"⟩ : MethodName)) (z := (⟨"com/example/vyasa/vyasa/Page", "hasNext", "()Z"⟩ : MethodName)) hown (mvT hZ (hw _ (List.mem_of_getElem? (i := 126) rfl))) (mvT hZ (hw _ (List.mem_of_getElem? (i := 127) rfl))) (notFace_of_selects (args := #[]) (mvT hZ (hw _ (List.mem_of_getElem? (i := 129) rfl)))) (mvT hZ (hw _ (List.mem_of_getElem? (i := 129) rfl))) (mvT hZ (hw _ (List.mem_of_getElem? (i := 128) rfl))) (by decide) (backOf (W := 0) (rmH lL Z a0 hw [] b59 rc pg pp 1 T62.heap n0 y62 z62' u62 (fun _ => rfl) (fun z => absurd ((pgF.2.2 hc113_63).mpr hc133_67) z)) hZ (hw _ (List.mem_of_getElem? (i := 130) rfl)) (hw _ (List.mem_of_getElem? (i := 8) rfl)) (by decide) (by decide)) q68a q68c (g := (mkF mM 145 #[.val (.int x0), .val (.int x1), .val (.long x2), .second, .val (.int x4), .val (.int pg), .val (.int pp), .val (.long rc), .second, .val (.ref b59), .val (.long (rc / ((pp).toInt64))), .second, .val (.long ((rc / ((pp).toInt64)) + (1 : Int64))), .second, .val (.int (1 : Int32))] [(.ref b59)])) rfl (by rw [hml]; rfl) (Steps.refl _) (argsL := []) (rest := []) (lenOf pd__28_29Z rfl) rfl (by show 2 * 0 + _ ≤ _; exact Nat.le_of_eq rfl) (hb hby at_145) (fun _ _ => ⟨rfl, e62, (by decide : 5 + 0 ≤ _), (by decide : 12 + 0 ≤ _)⟩)
      dsimp only [Pt.U, Pt.locs, Pt.cells, Pt.slots] at X68 l68 y68 z68 st68 hQ68
      subst l68 y68 z68
      obtain ⟨rfl, N68q, e68⟩ := hQ68
      have N68 := Fr.app N62 N68q
      refine own_st (A := T68.setTop (mkF mM 148 #[.val (.int x0), .val (.int x1), .val (.long x2), .second, .val (.int x4), .val (.int pg), .val (.int pp), .val (.long rc), .second, .val (.ref b59), .val (.long (rc / ((pp).toInt64))), .second, .val (.long ((rc / ((pp).toInt64)) + (1 : Int64))), .second, .val (.int (1 : Int32))] [(.int (1 : Int32))])) (fun tT_ kK_ => st68.trans kK_) ?_
      refine own_st (A := T68.setTop (mkF mM 150 #[.val (.int x0), .val (.int x1), .val (.long x2), .second, .val (.int x4), .val (.int pg), .val (.int pp), .val (.long rc), .second, .val (.ref b59), .val (.long (rc / ((pp).toInt64))), .second, .val (.long ((rc / ((pp).toInt64)) + (1 : Int64))), .second, .val (.int (1 : Int32))] [(.int (1 : Int32)), (.int (1 : Int32))])) (fun tT_ kK_ => XS.iload X68.here hx rfl (hb hby at_148) rfl kK_) ?_
      refine own_st (A := T68.setTop (mkF mM 153 #[.val (.int x0), .val (.int x1), .val (.long x2), .second, .val (.int x4), .val (.int pg), .val (.int pp), .val (.long rc), .second, .val (.ref b59), .val (.long (rc / ((pp).toInt64))), .second, .val (.long ((rc / ((pp).toInt64)) + (1 : Int64))), .second, .val (.int (1 : Int32))] [])) (fun tT_ kK_ => XS.icmpNo X68.here hx rfl (hb hby at_150) rfl (teq (by decide : ((1 : Int32) = (1 : Int32)))).2 kK_) ?_
      refine own_st (A := T68.setTop (mkF mM 154 #[.val (.int x0), .val (.int x1), .val (.long x2), .second, .val (.int x4), .val (.int pg), .val (.int pp), .val (.long rc), .second, .val (.ref b59), .val (.long (rc / ((pp).toInt64))), .second, .val (.long ((rc / ((pp).toInt64)) + (1 : Int64))), .second, .val (.int (1 : Int32))] [(.int (1 : Int32))])) (fun tT_ kK_ => XS.iconst X68.here hx rfl (hb hby at_153) kK_) ?_
      refine own_st (A := T68.setTop (mkF mM 158 #[.val (.int x0), .val (.int x1), .val (.long x2), .second, .val (.int x4), .val (.int pg), .val (.int pp), .val (.long rc), .second, .val (.ref b59), .val (.long (rc / ((pp).toInt64))), .second, .val (.long ((rc / ((pp).toInt64)) + (1 : Int64))), .second, .val (.int (1 : Int32))] [(.int (1 : Int32))])) (fun tT_ kK_ => XS.goto X68.here hx rfl (pc0 := 154) (pc' := 158) rfl (hb hby at_154) (by decide) (by decide) kK_) ?_
      exact own_retN X68 hx hlk (t := .boolean) hret (by simp) (hb hby at_158) ⟨rfl, N68⟩ (by decide) (by decide)
    · skip
      refine own_st (A := T62.setTop (mkF mM 140 #[.val (.int x0), .val (.int x1), .val (.long x2), .second, .val (.int x4), .val (.int pg), .val (.int pp), .val (.long rc), .second, .val (.ref b59), .val (.long (rc / ((pp).toInt64))), .second, .val (.long ((rc / ((pp).toInt64)) + (1 : Int64))), .second, .unset] [])) (fun tT_ kK_ => XS.ifYes X62.here hx rfl (pc0 := 133) (pc' := 140) rfl (hb hby at_133) rfl ((if0 _ _).trans (flt hc133_67).2.1) (by decide) (by decide) kK_) ?_
      refine own_st (A := T62.setTop (mkF mM 141 #[.val (.int x0), .val (.int x1), .val (.long x2), .second, .val (.int x4), .val (.int pg), .val (.int pp), .val (.long rc), .second, .val (.ref b59), .val (.long (rc / ((pp).toInt64))), .second, .val (.long ((rc / ((pp).toInt64)) + (1 : Int64))), .second, .unset] [(.int (0 : Int32))])) (fun tT_ kK_ => XS.iconst X62.here hx rfl (hb hby at_140) kK_) ?_
      refine own_st (A := T62.setTop (mkF mM 143 #[.val (.int x0), .val (.int x1), .val (.long x2), .second, .val (.int x4), .val (.int pg), .val (.int pp), .val (.long rc), .second, .val (.ref b59), .val (.long (rc / ((pp).toInt64))), .second, .val (.long ((rc / ((pp).toInt64)) + (1 : Int64))), .second, .val (.int (0 : Int32))] [])) (fun tT_ kK_ => XS.istore X62.here hx rfl (hb hby at_141) rfl (l' := #[.val (.int x0), .val (.int x1), .val (.long x2), .second, .val (.int x4), .val (.int pg), .val (.int pp), .val (.long rc), .second, .val (.ref b59), .val (.long (rc / ((pp).toInt64))), .second, .val (.long ((rc / ((pp).toInt64)) + (1 : Int64))), .second, .val (.int (0 : Int32))]) rfl kK_) ?_
      refine own_st (A := T62.setTop (mkF mM 145 #[.val (.int x0), .val (.int x1), .val (.long x2), .second, .val (.int x4), .val (.int pg), .val (.int pp), .val (.long rc), .second, .val (.ref b59), .val (.long (rc / ((pp).toInt64))), .second, .val (.long ((rc / ((pp).toInt64)) + (1 : Int64))), .second, .val (.int (0 : Int32))] [(.ref b59)])) (fun tT_ kK_ => XS.aload X62.here hx rfl (hb hby at_143) rfl rfl kK_) ?_
      obtain ⟨cq69, kq69, q69a, q69b, q69c⟩ := isOf hZ e62 x62
      obtain ⟨_, _, ⟨T69, L69, k69, n69⟩, -, X69, ⟨Lc69, hQ69, l69, y69, z69⟩, st69⟩ := X62.virtualBack hx (y := (⟨"com/example/vyasa/vyasa/Page", "hasNext", "()Z"⟩ : MethodName)) (z := (⟨"com/example/vyasa/vyasa/Page", "hasNext", "()Z"⟩ : MethodName)) hown (mvT hZ (hw _ (List.mem_of_getElem? (i := 126) rfl))) (mvT hZ (hw _ (List.mem_of_getElem? (i := 127) rfl))) (notFace_of_selects (args := #[]) (mvT hZ (hw _ (List.mem_of_getElem? (i := 129) rfl)))) (mvT hZ (hw _ (List.mem_of_getElem? (i := 129) rfl))) (mvT hZ (hw _ (List.mem_of_getElem? (i := 128) rfl))) (by decide) (backOf (W := 0) (rmH lL Z a0 hw [] b59 rc pg pp 0 T62.heap n0 y62 z62' u62 (fun z => absurd ((pgF.2.2 hc113_63).mp z) hc133_67) (fun _ => rfl)) hZ (hw _ (List.mem_of_getElem? (i := 130) rfl)) (hw _ (List.mem_of_getElem? (i := 8) rfl)) (by decide) (by decide)) q69a q69c (g := (mkF mM 145 #[.val (.int x0), .val (.int x1), .val (.long x2), .second, .val (.int x4), .val (.int pg), .val (.int pp), .val (.long rc), .second, .val (.ref b59), .val (.long (rc / ((pp).toInt64))), .second, .val (.long ((rc / ((pp).toInt64)) + (1 : Int64))), .second, .val (.int (0 : Int32))] [(.ref b59)])) rfl (by rw [hml]; rfl) (Steps.refl _) (argsL := []) (rest := []) (lenOf pd__28_29Z rfl) rfl (by show 2 * 0 + _ ≤ _; exact Nat.le_of_eq rfl) (hb hby at_145) (fun _ _ => ⟨rfl, e62, (by decide : 5 + 0 ≤ _), (by decide : 12 + 0 ≤ _)⟩)
      dsimp only [Pt.U, Pt.locs, Pt.cells, Pt.slots] at X69 l69 y69 z69 st69 hQ69
      subst l69 y69 z69
      obtain ⟨rfl, N69q, e69⟩ := hQ69
      have N69 := Fr.app N62 N69q
      refine own_st (A := T69.setTop (mkF mM 148 #[.val (.int x0), .val (.int x1), .val (.long x2), .second, .val (.int x4), .val (.int pg), .val (.int pp), .val (.long rc), .second, .val (.ref b59), .val (.long (rc / ((pp).toInt64))), .second, .val (.long ((rc / ((pp).toInt64)) + (1 : Int64))), .second, .val (.int (0 : Int32))] [(.int (0 : Int32))])) (fun tT_ kK_ => st69.trans kK_) ?_
      refine own_st (A := T69.setTop (mkF mM 150 #[.val (.int x0), .val (.int x1), .val (.long x2), .second, .val (.int x4), .val (.int pg), .val (.int pp), .val (.long rc), .second, .val (.ref b59), .val (.long (rc / ((pp).toInt64))), .second, .val (.long ((rc / ((pp).toInt64)) + (1 : Int64))), .second, .val (.int (0 : Int32))] [(.int (0 : Int32)), (.int (0 : Int32))])) (fun tT_ kK_ => XS.iload X69.here hx rfl (hb hby at_148) rfl kK_) ?_
      refine own_st (A := T69.setTop (mkF mM 153 #[.val (.int x0), .val (.int x1), .val (.long x2), .second, .val (.int x4), .val (.int pg), .val (.int pp), .val (.long rc), .second, .val (.ref b59), .val (.long (rc / ((pp).toInt64))), .second, .val (.long ((rc / ((pp).toInt64)) + (1 : Int64))), .second, .val (.int (0 : Int32))] [])) (fun tT_ kK_ => XS.icmpNo X69.here hx rfl (hb hby at_150) rfl (teq (by decide : ((0 : Int32) = (0 : Int32)))).2 kK_) ?_
      refine own_st (A := T69.setTop (mkF mM 154 #[.val (.int x0), .val (.int x1), .val (.long x2), .second, .val (.int x4), .val (.int pg), .val (.int pp), .val (.long rc), .second, .val (.ref b59), .val (.long (rc / ((pp).toInt64))), .second, .val (.long ((rc / ((pp).toInt64)) + (1 : Int64))), .second, .val (.int (0 : Int32))] [(.int (1 : Int32))])) (fun tT_ kK_ => XS.iconst X69.here hx rfl (hb hby at_153) kK_) ?_
      refine own_st (A := T69.setTop (mkF mM 158 #[.val (.int x0), .val (.int x1), .val (.long x2), .second, .val (.int x4), .val (.int pg), .val (.int pp), .val (.long rc), .second, .val (.ref b59), .val (.long (rc / ((pp).toInt64))), .second, .val (.long ((rc / ((pp).toInt64)) + (1 : Int64))), .second, .val (.int (0 : Int32))] [(.int (1 : Int32))])) (fun tT_ kK_ => XS.goto X69.here hx rfl (pc0 := 154) (pc' := 158) rfl (hb hby at_154) (by decide) (by decide) kK_) ?_
      exact own_retN X69 hx hlk (t := .boolean) hret (by simp) (hb hby at_158) ⟨rfl, N69⟩ (by decide) (by decide)
theorem own_nl {x : Int64} (h : ¬ (lcmpW x (0 : Int64)) < (0 : Int32)) : 0 ≤ x.toInt := by
  rw [lw_lt, Int64.lt_iff_toInt_lt] at h
  have e : (0 : Int64).toInt = 0 := by decide
  omega
theorem own_mk (x : Int64) : 0 ≤ (x &&& (9223372036854775807 : Int64)).toInt := (c_andSL x _).2.2 (by decide)
set_option maxRecDepth 65536 in
set_option maxHeartbeats 40000000 in
theorem J20 {pP : Program} {lL : Launch} {eE : Env} {sS : State} {mM : MethodId} {args : Array Value} {below : List Frame} {meth : Method} {cC : Code} {T0 : State} {locs : List Loc} {Z : State} {a0 : Array Value} {h0 : Heap} {n0 : Nat} (hw : ∀ d ∈ tables_1, d.before a0 Z = true) (X0 : Stand pP lL eE room_1 sS mM args below meth cC T0 locs 0 0) (hx : pP.tables.exec = Jvm.exec) (hZ : Z.Warmed39 sS.vm) (hby : cC.code = code) (hml : cC.maxLocals = 15) (hown : sS.vm.findClass "com/example/vyasa/vyasa/PageHasNextPinLaw" = some mM.cls) (hlk : meth.locks = false) (hret : meth.sig.returnType = ret) (e0 : T0.heap = h0) (N0 : Fr n0 locs) (x0 : Int32) (x1 : Int32) (x2 : Int64) (x4 : Int32) (pg : Int32) (pp : Int32) (dc : Addr) (kd : ClassId) (mo : Addr) (ee : Addr) (ma : Addr) (ml : Addr) (mr : Addr) (O : Old Z n0 h0) (Zn : n0 ≤ h0.size) (V_dc : Arv Z Z.heap dc kd (.object "java/lang/Object") 0 [] .null) (E_dc : Exa Z Z.heap dc "[Ljava/lang/Object;") (M_oa : own_Mr Z "[Ljava/lang/Object;" mo) (S_ee : Sta Z Z.heap "java/util/ArrayList" "EMPTY_ELEMENTDATA" "[Ljava/lang/Object;" (.ref ee)) (M_a : own_Mr Z "java/util/ArrayList" ma) (M_l : own_Mr Z "java/util/Collections$UnmodifiableList" ml) (M_r : own_Mr Z "java/util/Collections$UnmodifiableRandomAccessList" mr) (S_dc : Sta Z Z.heap "java/util/ArrayList" "DEFAULTCAPACITY_EMPTY_ELEMENTDATA" "[Ljava/lang/Object;" (.ref dc)) (hg : 1 ≤ pg.toInt) (hp : 1 ≤ pp.toInt) :
    own_Go pP eE below sS (QLaw n0) 24 128 (T0.setTop (mkF mM 20 #[.val (.int x0), .val (.int x1), .val (.long x2), .second, .val (.int x4), .val (.int pg), .val (.int pp), .unset, .unset, .unset, .unset, .unset, .unset, .unset, .unset] [])) := by
  refine own_st (A := T0.setTop (mkF mM 22 #[.val (.int x0), .val (.int x1), .val (.long x2), .second, .val (.int x4), .val (.int pg), .val (.int pp), .unset, .unset, .unset, .unset, .unset, .unset, .unset, .unset] [(.int x4)])) (fun tT_ kK_ => XS.iload X0.here hx rfl (hb hby at_20) rfl kK_) ?_
  refine own_st (A := T0.setTop (mkF mM 23 #[.val (.int x0), .val (.int x1), .val (.long x2), .second, .val (.int x4), .val (.int pg), .val (.int pp), .unset, .unset, .unset, .unset, .unset, .unset, .unset, .unset] [(.int (3 : Int32)), (.int x4)])) (fun tT_ kK_ => XS.iconst X0.here hx rfl (hb hby at_22) kK_) ?_
  refine own_st (A := T0.setTop (mkF mM 24 #[.val (.int x0), .val (.int x1), .val (.long x2), .second, .val (.int x4), .val (.int pg), .val (.int pp), .unset, .unset, .unset, .unset, .unset, .unset, .unset, .unset] [(.int (x4 >>> ((3 : Int32) &&& 31)))])) (fun tT_ kK_ => XS.ishr X0.here hx rfl (hb hby at_23) rfl kK_) ?_
  refine own_st (A := T0.setTop (mkF mM 25 #[.val (.int x0), .val (.int x1), .val (.long x2), .second, .val (.int x4), .val (.int pg), .val (.int pp), .unset, .unset, .unset, .unset, .unset, .unset, .unset, .unset] [(.int (1 : Int32)), (.int (x4 >>> ((3 : Int32) &&& 31)))])) (fun tT_ kK_ => XS.iconst X0.here hx rfl (hb hby at_24) kK_) ?_
  refine own_st (A := T0.setTop (mkF mM 26 #[.val (.int x0), .val (.int x1), .val (.long x2), .second, .val (.int x4), .val (.int pg), .val (.int pp), .unset, .unset, .unset, .unset, .unset, .unset, .unset, .unset] [(.int ((x4 >>> ((3 : Int32) &&& 31)) &&& (1 : Int32)))])) (fun tT_ kK_ => XS.iand X0.here hx rfl (hb hby at_25) rfl kK_) ?_
  by_cases hc26_70 : ((x4 >>> ((3 : Int32) &&& 31)) &&& (1 : Int32)) = (0 : Int32)
  · skip
    refine own_st (A := T0.setTop (mkF mM 68 #[.val (.int x0), .val (.int x1), .val (.long x2), .second, .val (.int x4), .val (.int pg), .val (.int pp), .unset, .unset, .unset, .unset, .unset, .unset, .unset, .unset] [])) (fun tT_ kK_ => XS.ifYes X0.here hx rfl (pc0 := 26) (pc' := 68) rfl (hb hby at_26) rfl ((if0 _ _).trans (teq hc26_70).1) (by decide) (by decide) kK_) ?_
    refine own_st (A := T0.setTop (mkF mM 69 #[.val (.int x0), .val (.int x1), .val (.long x2), .second, .val (.int x4), .val (.int pg), .val (.int pp), .unset, .unset, .unset, .unset, .unset, .unset, .unset, .unset] [(.long x2)])) (fun tT_ kK_ => XS.lloadN X0.here hx rfl (hb hby at_68) rfl kK_) ?_
    refine own_st (A := T0.setTop (mkF mM 72 #[.val (.int x0), .val (.int x1), .val (.long x2), .second, .val (.int x4), .val (.int pg), .val (.int pp), .unset, .unset, .unset, .unset, .unset, .unset, .unset, .unset] [(.long (9223372036854775807 : Int64)), (.long x2)])) (fun tT_ kK_ => X0.ldc2Long hx hown (mvT hZ (hw _ (List.mem_of_getElem? (i := 5) rfl))) (g := (mkF mM 69 #[.val (.int x0), .val (.int x1), .val (.long x2), .second, .val (.int x4), .val (.int pg), .val (.int pp), .unset, .unset, .unset, .unset, .unset, .unset, .unset, .unset] [(.long x2)])) rfl (hb hby at_69) tT_ kK_) ?_
    refine own_st (A := T0.setTop (mkF mM 73 #[.val (.int x0), .val (.int x1), .val (.long x2), .second, .val (.int x4), .val (.int pg), .val (.int pp), .unset, .unset, .unset, .unset, .unset, .unset, .unset, .unset] [(.long (x2 &&& (9223372036854775807 : Int64)))])) (fun tT_ kK_ => XS.land X0.here hx rfl (hb hby at_72) rfl kK_) ?_
    refine own_st (A := T0.setTop (mkF mM 75 #[.val (.int x0), .val (.int x1), .val (.long x2), .second, .val (.int x4), .val (.int pg), .val (.int pp), .val (.long (x2 &&& (9223372036854775807 : Int64))), .second, .unset, .unset, .unset, .unset, .unset, .unset] [])) (fun tT_ kK_ => XS.lstore X0.here hx rfl (hb hby at_73) rfl (l' := #[.val (.int x0), .val (.int x1), .val (.long x2), .second, .val (.int x4), .val (.int pg), .val (.int pp), .val (.long (x2 &&& (9223372036854775807 : Int64))), .second, .unset, .unset, .unset, .unset, .unset, .unset]) rfl kK_) ?_
    exact J75b hw X0 hx hZ hby hml hown hlk hret e0 N0 x0 x1 x2 x4 pg pp _ dc kd mo ee ma ml mr O Zn V_dc E_dc M_oa S_ee M_a M_l M_r S_dc hg hp (own_mk x2)
  · skip
    refine own_st (A := T0.setTop (mkF mM 29 #[.val (.int x0), .val (.int x1), .val (.long x2), .second, .val (.int x4), .val (.int pg), .val (.int pp), .unset, .unset, .unset, .unset, .unset, .unset, .unset, .unset] [])) (fun tT_ kK_ => XS.ifNo X0.here hx rfl (hb hby at_26) rfl ((if0 _ _).trans (feq hc26_70).1) kK_) ?_
    refine own_st (A := T0.setTop (mkF mM 31 #[.val (.int x0), .val (.int x1), .val (.long x2), .second, .val (.int x4), .val (.int pg), .val (.int pp), .unset, .unset, .unset, .unset, .unset, .unset, .unset, .unset] [(.int pg)])) (fun tT_ kK_ => XS.iload X0.here hx rfl (hb hby at_29) rfl kK_) ?_
    refine own_st (A := T0.setTop (mkF mM 32 #[.val (.int x0), .val (.int x1), .val (.long x2), .second, .val (.int x4), .val (.int pg), .val (.int pp), .unset, .unset, .unset, .unset, .unset, .unset, .unset, .unset] [(.long ((pg).toInt64))])) (fun tT_ kK_ => XS.i2l X0.here hx rfl (hb hby at_31) rfl kK_) ?_
    refine own_st (A := T0.setTop (mkF mM 34 #[.val (.int x0), .val (.int x1), .val (.long x2), .second, .val (.int x4), .val (.int pg), .val (.int pp), .unset, .unset, .unset, .unset, .unset, .unset, .unset, .unset] [(.int pp), (.long ((pg).toInt64))])) (fun tT_ kK_ => XS.iload X0.here hx rfl (hb hby at_32) rfl kK_) ?_
    refine own_st (A := T0.setTop (mkF mM 35 #[.val (.int x0), .val (.int x1), .val (.long x2), .second, .val (.int x4), .val (.int pg), .val (.int pp), .unset, .unset, .unset, .unset, .unset, .unset, .unset, .unset] [(.long ((pp).toInt64)), (.long ((pg).toInt64))])) (fun tT_ kK_ => XS.i2l X0.here hx rfl (hb hby at_34) rfl kK_) ?_
    refine own_st (A := T0.setTop (mkF mM 36 #[.val (.int x0), .val (.int x1), .val (.long x2), .second, .val (.int x4), .val (.int pg), .val (.int pp), .unset, .unset, .unset, .unset, .unset, .unset, .unset, .unset] [(.long (((pg).toInt64) * ((pp).toInt64)))])) (fun tT_ kK_ => XS.lmul X0.here hx rfl (hb hby at_35) rfl kK_) ?_
    refine own_st (A := T0.setTop (mkF mM 38 #[.val (.int x0), .val (.int x1), .val (.long x2), .second, .val (.int x4), .val (.int pg), .val (.int pp), .unset, .unset, .val (.long (((pg).toInt64) * ((pp).toInt64))), .second, .unset, .unset, .unset, .unset] [])) (fun tT_ kK_ => XS.lstore X0.here hx rfl (hb hby at_36) rfl (l' := #[.val (.int x0), .val (.int x1), .val (.long x2), .second, .val (.int x4), .val (.int pg), .val (.int pp), .unset, .unset, .val (.long (((pg).toInt64) * ((pp).toInt64))), .second, .unset, .unset, .unset, .unset]) rfl kK_) ?_
    refine own_st (A := T0.setTop (mkF mM 40 #[.val (.int x0), .val (.int x1), .val (.long x2), .second, .val (.int x4), .val (.int pg), .val (.int pp), .unset, .unset, .val (.long (((pg).toInt64) * ((pp).toInt64))), .second, .unset, .unset, .unset, .unset] [(.int x4)])) (fun tT_ kK_ => XS.iload X0.here hx rfl (hb hby at_38) rfl kK_) ?_
    refine own_st (A := T0.setTop (mkF mM 42 #[.val (.int x0), .val (.int x1), .val (.long x2), .second, .val (.int x4), .val (.int pg), .val (.int pp), .unset, .unset, .val (.long (((pg).toInt64) * ((pp).toInt64))), .second, .unset, .unset, .unset, .unset] [(.int (7 : Int32)), (.int x4)])) (fun tT_ kK_ => XS.bipush X0.here hx rfl (hb hby at_40) kK_) ?_
    refine own_st (A := T0.setTop (mkF mM 43 #[.val (.int x0), .val (.int x1), .val (.long x2), .second, .val (.int x4), .val (.int pg), .val (.int pp), .unset, .unset, .val (.long (((pg).toInt64) * ((pp).toInt64))), .second, .unset, .unset, .unset, .unset] [(.int (x4 &&& (7 : Int32)))])) (fun tT_ kK_ => XS.iand X0.here hx rfl (hb hby at_42) rfl kK_) ?_
    refine own_st (A := T0.setTop (mkF mM 44 #[.val (.int x0), .val (.int x1), .val (.long x2), .second, .val (.int x4), .val (.int pg), .val (.int pp), .unset, .unset, .val (.long (((pg).toInt64) * ((pp).toInt64))), .second, .unset, .unset, .unset, .unset] [(.int (3 : Int32)), (.int (x4 &&& (7 : Int32)))])) (fun tT_ kK_ => XS.iconst X0.here hx rfl (hb hby at_43) kK_) ?_
    refine own_st (A := T0.setTop (mkF mM 45 #[.val (.int x0), .val (.int x1), .val (.long x2), .second, .val (.int x4), .val (.int pg), .val (.int pp), .unset, .unset, .val (.long (((pg).toInt64) * ((pp).toInt64))), .second, .unset, .unset, .unset, .unset] [(.int ((x4 &&& (7 : Int32)) - (3 : Int32)))])) (fun tT_ kK_ => XS.isub X0.here hx rfl (hb hby at_44) rfl kK_) ?_
    refine own_st (A := T0.setTop (mkF mM 46 #[.val (.int x0), .val (.int x1), .val (.long x2), .second, .val (.int x4), .val (.int pg), .val (.int pp), .unset, .unset, .val (.long (((pg).toInt64) * ((pp).toInt64))), .second, .unset, .unset, .unset, .unset] [(.long ((((x4 &&& (7 : Int32)) - (3 : Int32))).toInt64))])) (fun tT_ kK_ => XS.i2l X0.here hx rfl (hb hby at_45) rfl kK_) ?_
    refine own_st (A := T0.setTop (mkF mM 48 #[.val (.int x0), .val (.int x1), .val (.long x2), .second, .val (.int x4), .val (.int pg), .val (.int pp), .unset, .unset, .val (.long (((pg).toInt64) * ((pp).toInt64))), .second, .val (.long ((((x4 &&& (7 : Int32)) - (3 : Int32))).toInt64)), .second, .unset, .unset] [])) (fun tT_ kK_ => XS.lstore X0.here hx rfl (hb hby at_46) rfl (l' := #[.val (.int x0), .val (.int x1), .val (.long x2), .second, .val (.int x4), .val (.int pg), .val (.int pp), .unset, .unset, .val (.long (((pg).toInt64) * ((pp).toInt64))), .second, .val (.long ((((x4 &&& (7 : Int32)) - (3 : Int32))).toInt64)), .second, .unset, .unset]) rfl kK_) ?_
    refine own_st (A := T0.setTop (mkF mM 50 #[.val (.int x0), .val (.int x1), .val (.long x2), .second, .val (.int x4), .val (.int pg), .val (.int pp), .unset, .unset, .val (.long (((pg).toInt64) * ((pp).toInt64))), .second, .val (.long ((((x4 &&& (7 : Int32)) - (3 : Int32))).toInt64)), .second, .unset, .unset] [(.long (((pg).toInt64) * ((pp).toInt64)))])) (fun tT_ kK_ => XS.lload X0.here hx rfl (hb hby at_48) rfl kK_) ?_
    refine own_st (A := T0.setTop (mkF mM 52 #[.val (.int x0), .val (.int x1), .val (.long x2), .second, .val (.int x4), .val (.int pg), .val (.int pp), .unset, .unset, .val (.long (((pg).toInt64) * ((pp).toInt64))), .second, .val (.long ((((x4 &&& (7 : Int32)) - (3 : Int32))).toInt64)), .second, .unset, .unset] [(.long ((((x4 &&& (7 : Int32)) - (3 : Int32))).toInt64)), (.long (((pg).toInt64) * ((pp).toInt64)))])) (fun tT_ kK_ => XS.lload X0.here hx rfl (hb hby at_50) rfl kK_) ?_
    refine own_st (A := T0.setTop (mkF mM 53 #[.val (.int x0), .val (.int x1), .val (.long x2), .second, .val (.int x4), .val (.int pg), .val (.int pp), .unset, .unset, .val (.long (((pg).toInt64) * ((pp).toInt64))), .second, .val (.long ((((x4 &&& (7 : Int32)) - (3 : Int32))).toInt64)), .second, .unset, .unset] [(.long ((((pg).toInt64) * ((pp).toInt64)) + ((((x4 &&& (7 : Int32)) - (3 : Int32))).toInt64)))])) (fun tT_ kK_ => XS.ladd X0.here hx rfl (hb hby at_52) rfl kK_) ?_
    refine own_st (A := T0.setTop (mkF mM 55 #[.val (.int x0), .val (.int x1), .val (.long x2), .second, .val (.int x4), .val (.int pg), .val (.int pp), .val (.long ((((pg).toInt64) * ((pp).toInt64)) + ((((x4 &&& (7 : Int32)) - (3 : Int32))).toInt64))), .second, .val (.long (((pg).toInt64) * ((pp).toInt64))), .second, .val (.long ((((x4 &&& (7 : Int32)) - (3 : Int32))).toInt64)), .second, .unset, .unset] [])) (fun tT_ kK_ => XS.lstore X0.here hx rfl (hb hby at_53) rfl (l' := #[.val (.int x0), .val (.int x1), .val (.long x2), .second, .val (.int x4), .val (.int pg), .val (.int pp), .val (.long ((((pg).toInt64) * ((pp).toInt64)) + ((((x4 &&& (7 : Int32)) - (3 : Int32))).toInt64))), .second, .val (.long (((pg).toInt64) * ((pp).toInt64))), .second, .val (.long ((((x4 &&& (7 : Int32)) - (3 : Int32))).toInt64)), .second, .unset, .unset]) rfl kK_) ?_
    refine own_st (A := T0.setTop (mkF mM 57 #[.val (.int x0), .val (.int x1), .val (.long x2), .second, .val (.int x4), .val (.int pg), .val (.int pp), .val (.long ((((pg).toInt64) * ((pp).toInt64)) + ((((x4 &&& (7 : Int32)) - (3 : Int32))).toInt64))), .second, .val (.long (((pg).toInt64) * ((pp).toInt64))), .second, .val (.long ((((x4 &&& (7 : Int32)) - (3 : Int32))).toInt64)), .second, .unset, .unset] [(.long ((((pg).toInt64) * ((pp).toInt64)) + ((((x4 &&& (7 : Int32)) - (3 : Int32))).toInt64)))])) (fun tT_ kK_ => XS.lload X0.here hx rfl (hb hby at_55) rfl kK_) ?_
    refine own_st (A := T0.setTop (mkF mM 58 #[.val (.int x0), .val (.int x1), .val (.long x2), .second, .val (.int x4), .val (.int pg), .val (.int pp), .val (.long ((((pg).toInt64) * ((pp).toInt64)) + ((((x4 &&& (7 : Int32)) - (3 : Int32))).toInt64))), .second, .val (.long (((pg).toInt64) * ((pp).toInt64))), .second, .val (.long ((((x4 &&& (7 : Int32)) - (3 : Int32))).toInt64)), .second, .unset, .unset] [(.long (0 : Int64)), (.long ((((pg).toInt64) * ((pp).toInt64)) + ((((x4 &&& (7 : Int32)) - (3 : Int32))).toInt64)))])) (fun tT_ kK_ => XS.lconst X0.here hx rfl (hb hby at_57) kK_) ?_
    refine own_st (A := T0.setTop (mkF mM 59 #[.val (.int x0), .val (.int x1), .val (.long x2), .second, .val (.int x4), .val (.int pg), .val (.int pp), .val (.long ((((pg).toInt64) * ((pp).toInt64)) + ((((x4 &&& (7 : Int32)) - (3 : Int32))).toInt64))), .second, .val (.long (((pg).toInt64) * ((pp).toInt64))), .second, .val (.long ((((x4 &&& (7 : Int32)) - (3 : Int32))).toInt64)), .second, .unset, .unset] [(.int (lcmpW ((((pg).toInt64) * ((pp).toInt64)) + ((((x4 &&& (7 : Int32)) - (3 : Int32))).toInt64)) (0 : Int64)))])) (fun tT_ kK_ => XS.lcmp X0.here hx rfl (hb hby at_58) rfl kK_) ?_
    by_cases hc59_71 : (lcmpW ((((pg).toInt64) * ((pp).toInt64)) + ((((x4 &&& (7 : Int32)) - (3 : Int32))).toInt64)) (0 : Int64)) < (0 : Int32)
    · skip
      refine own_st (A := T0.setTop (mkF mM 62 #[.val (.int x0), .val (.int x1), .val (.long x2), .second, .val (.int x4), .val (.int pg), .val (.int pp), .val (.long ((((pg).toInt64) * ((pp).toInt64)) + ((((x4 &&& (7 : Int32)) - (3 : Int32))).toInt64))), .second, .val (.long (((pg).toInt64) * ((pp).toInt64))), .second, .val (.long ((((x4 &&& (7 : Int32)) - (3 : Int32))).toInt64)), .second, .unset, .unset] [])) (fun tT_ kK_ => XS.ifNo X0.here hx rfl (hb hby at_59) rfl ((if0 _ _).trans (tlt hc59_71).2.1) kK_) ?_
      refine own_st (A := T0.setTop (mkF mM 63 #[.val (.int x0), .val (.int x1), .val (.long x2), .second, .val (.int x4), .val (.int pg), .val (.int pp), .val (.long ((((pg).toInt64) * ((pp).toInt64)) + ((((x4 &&& (7 : Int32)) - (3 : Int32))).toInt64))), .second, .val (.long (((pg).toInt64) * ((pp).toInt64))), .second, .val (.long ((((x4 &&& (7 : Int32)) - (3 : Int32))).toInt64)), .second, .unset, .unset] [(.long (0 : Int64))])) (fun tT_ kK_ => XS.lconst X0.here hx rfl (hb hby at_62) kK_) ?_
      refine own_st (A := T0.setTop (mkF mM 65 #[.val (.int x0), .val (.int x1), .val (.long x2), .second, .val (.int x4), .val (.int pg), .val (.int pp), .val (.long (0 : Int64)), .second, .val (.long (((pg).toInt64) * ((pp).toInt64))), .second, .val (.long ((((x4 &&& (7 : Int32)) - (3 : Int32))).toInt64)), .second, .unset, .unset] [])) (fun tT_ kK_ => XS.lstore X0.here hx rfl (hb hby at_63) rfl (l' := #[.val (.int x0), .val (.int x1), .val (.long x2), .second, .val (.int x4), .val (.int pg), .val (.int pp), .val (.long (0 : Int64)), .second, .val (.long (((pg).toInt64) * ((pp).toInt64))), .second, .val (.long ((((x4 &&& (7 : Int32)) - (3 : Int32))).toInt64)), .second, .unset, .unset]) rfl kK_) ?_
      refine own_st (A := T0.setTop (mkF mM 75 #[.val (.int x0), .val (.int x1), .val (.long x2), .second, .val (.int x4), .val (.int pg), .val (.int pp), .val (.long (0 : Int64)), .second, .val (.long (((pg).toInt64) * ((pp).toInt64))), .second, .val (.long ((((x4 &&& (7 : Int32)) - (3 : Int32))).toInt64)), .second, .unset, .unset] [])) (fun tT_ kK_ => XS.goto X0.here hx rfl (pc0 := 65) (pc' := 75) rfl (hb hby at_65) (by decide) (by decide) kK_) ?_
      exact J75a hw X0 hx hZ hby hml hown hlk hret e0 N0 x0 x1 x2 x4 pg pp _ _ _ dc kd mo ee ma ml mr O Zn V_dc E_dc M_oa S_ee M_a M_l M_r S_dc hg hp (by decide)
    · skip
      refine own_st (A := T0.setTop (mkF mM 65 #[.val (.int x0), .val (.int x1), .val (.long x2), .second, .val (.int x4), .val (.int pg), .val (.int pp), .val (.long ((((pg).toInt64) * ((pp).toInt64)) + ((((x4 &&& (7 : Int32)) - (3 : Int32))).toInt64))), .second, .val (.long (((pg).toInt64) * ((pp).toInt64))), .second, .val (.long ((((x4 &&& (7 : Int32)) - (3 : Int32))).toInt64)), .second, .unset, .unset] [])) (fun tT_ kK_ => XS.ifYes X0.here hx rfl (pc0 := 59) (pc' := 65) rfl (hb hby at_59) rfl ((if0 _ _).trans (flt hc59_71).2.1) (by decide) (by decide) kK_) ?_
      refine own_st (A := T0.setTop (mkF mM 75 #[.val (.int x0), .val (.int x1), .val (.long x2), .second, .val (.int x4), .val (.int pg), .val (.int pp), .val (.long ((((pg).toInt64) * ((pp).toInt64)) + ((((x4 &&& (7 : Int32)) - (3 : Int32))).toInt64))), .second, .val (.long (((pg).toInt64) * ((pp).toInt64))), .second, .val (.long ((((x4 &&& (7 : Int32)) - (3 : Int32))).toInt64)), .second, .unset, .unset] [])) (fun tT_ kK_ => XS.goto X0.here hx rfl (pc0 := 65) (pc' := 75) rfl (hb hby at_65) (by decide) (by decide) kK_) ?_
      exact J75a hw X0 hx hZ hby hml hown hlk hret e0 N0 x0 x1 x2 x4 pg pp _ _ _ dc kd mo ee ma ml mr O Zn V_dc E_dc M_oa S_ee M_a M_l M_r S_dc hg hp (own_nl hc59_71)
theorem pn_com_2fexample_2fvyasa_2fvyasa_2fPageHasNextPinLaw : plainName "com/example/vyasa/vyasa/PageHasNextPinLaw" = true := by first | (simp [plainName, overriddenIn]; done) | decide +kernel
theorem ef_rm0 (mM : MethodId) (x0 : Int32) (x1 : Int32) (x2 : Int64) (x4 : Int32) (dc : Addr) (kd : ClassId) (mo : Addr) (ee : Addr) (ma : Addr) (ml : Addr) (mr : Addr) : entryFrame mM #[(.int x0), (.int x1), (.long x2), (.int x4)] maxLocals = mkF mM 0 #[.val (.int x0), .val (.int x1), .val (.long x2), .second, .val (.int x4), .unset, .unset, .unset, .unset, .unset, .unset, .unset, .unset, .unset, .unset] [] := by first | (simp [entryFrame, mkF, argsToLocals, Value.category, maxLocals]; done) | rfl
set_option maxRecDepth 65536 in
set_option maxHeartbeats 40000000 in
theorem rm0 (lL : Launch) (Z : State) (a0 : Array Value) (hw : ∀ d ∈ tables_1, d.before a0 Z = true) (ws : List Jvm.Cond) (x0 : Int32) (x1 : Int32) (x2 : Int64) (x4 : Int32) (dc : Addr) (kd : ClassId) (mo : Addr) (ee : Addr) (ma : Addr) (ml : Addr) (mr : Addr) (h0 : Heap) (n0 : Nat) (O : Old Z n0 h0) (Zn : n0 ≤ h0.size) (V_dc : Arv Z Z.heap dc kd (.object "java/lang/Object") 0 [] .null) (E_dc : Exa Z Z.heap dc "[Ljava/lang/Object;") (M_oa : own_Mr Z "[Ljava/lang/Object;" mo) (S_ee : Sta Z Z.heap "java/util/ArrayList" "EMPTY_ELEMENTDATA" "[Ljava/lang/Object;" (.ref ee)) (M_a : own_Mr Z "java/util/ArrayList" ma) (M_l : own_Mr Z "java/util/Collections$UnmodifiableList" ml) (M_r : own_Mr Z "java/util/Collections$UnmodifiableRandomAccessList" mr) (S_dc : Sta Z Z.heap "java/util/ArrayList" "DEFAULTCAPACITY_EMPTY_ELEMENTDATA" "[Ljava/lang/Object;" (.ref dc)) :
    MetFree lL x (head1 (Jvm.Cond.code x code maxLocals ret :: ws) room_1) (fun as_ uU_ => as_ = #[(.int x0), (.int x1), (.long x2), (.int x4)] ∧ Z.Warmed39 uU_.vm ∧ uU_.heap = h0) (fun _ _ _ _ _ => True) (fun _ uU_ oO_ uE_ => ∃ vV_ lL_, oO_ = .returned vV_ ∧ (fun _ => QLaw) h0 n0 vV_ uE_.heap lL_ ∧ FrameEnd uU_ oO_ uE_ lL_ 24 128) := by
  refine MetFree.of_bodySF (plainFor_of_name pn_com_2fexample_2fvyasa_2fvyasa_2fPageHasNextPinLaw) hisR ?_
  intro pP eE sS mM args below meth cC s₁ Bd hml0 hP hK
  obtain ⟨rfl, hZ, hh⟩ := hP
  have hx := Bd.exec
  have hby := Bd.bytes
  have hml : cC.maxLocals = 15 := hml0
  have hown : sS.vm.findClass "com/example/vyasa/vyasa/PageHasNextPinLaw" = some mM.cls := findClass_of_methodNamed Bd.named
  have hnm := (name_of_methodNamed Bd.named Bd.method).1
  have hret := Bd.returns
  have hlk := BodyLoose.notSynchronized Bd
  have X0 : Stand pP lL eE room_1 sS mM #[(.int x0), (.int x1), (.long x2), (.int x4)] below meth cC s₁ [] 0 0 := Stand.of_body Bd
  have e0 : s₁.heap = h0 := by rw [← hh, Bd.state]; rfl
  have N0 := Fr.nil n0
  show own_Go pP eE below sS ((fun _ => QLaw) h0 n0) 24 128 (s₁.setTop (entryFrame mM #[(.int x0), (.int x1), (.long x2), (.int x4)] maxLocals))
  refine own_st (A := s₁.setTop (mkF mM 0 #[.val (.int x0), .val (.int x1), .val (.long x2), .second, .val (.int x4), .unset, .unset, .unset, .unset, .unset, .unset, .unset, .unset, .unset, .unset] [])) (fun tT_ kK_ => castTop (ef_rm0 mM x0 x1 x2 x4 dc kd mo ee ma ml mr) kK_) ?_
  refine own_st (A := s₁.setTop (mkF mM 1 #[.val (.int x0), .val (.int x1), .val (.long x2), .second, .val (.int x4), .unset, .unset, .unset, .unset, .unset, .unset, .unset, .unset, .unset, .unset] [(.int (1 : Int32))])) (fun tT_ kK_ => XS.iconst X0.here hx rfl (hb hby at_0) kK_) ?_
  refine own_st (A := s₁.setTop (mkF mM 2 #[.val (.int x0), .val (.int x1), .val (.long x2), .second, .val (.int x4), .unset, .unset, .unset, .unset, .unset, .unset, .unset, .unset, .unset, .unset] [(.int x0), (.int (1 : Int32))])) (fun tT_ kK_ => XS.iloadN X0.here hx rfl (hb hby at_1) rfl kK_) ?_
  refine own_st (A := s₁.setTop (mkF mM 4 #[.val (.int x0), .val (.int x1), .val (.long x2), .second, .val (.int x4), .unset, .unset, .unset, .unset, .unset, .unset, .unset, .unset, .unset, .unset] [(.int (2147483647 : Int32)), (.int x0), (.int (1 : Int32))])) (fun tT_ kK_ => X0.ldcInt hx hown (mvT hZ (hw _ (List.mem_of_getElem? (i := 0) rfl))) (g := (mkF mM 2 #[.val (.int x0), .val (.int x1), .val (.long x2), .second, .val (.int x4), .unset, .unset, .unset, .unset, .unset, .unset, .unset, .unset, .unset, .unset] [(.int x0), (.int (1 : Int32))])) rfl (hb hby at_2) tT_ kK_) ?_
  refine own_st (A := s₁.setTop (mkF mM 5 #[.val (.int x0), .val (.int x1), .val (.long x2), .second, .val (.int x4), .unset, .unset, .unset, .unset, .unset, .unset, .unset, .unset, .unset, .unset] [(.int (x0 &&& (2147483647 : Int32))), (.int (1 : Int32))])) (fun tT_ kK_ => XS.iand X0.here hx rfl (hb hby at_4) rfl kK_) ?_
  obtain ⟨_, _, ⟨T72, L72, k72, n72⟩, -, X72, ⟨Lc72, hQ72, l72, y72, z72⟩, st72⟩ := Jvm.LawKit.callS X0 hx (y := (⟨"java/lang/Math", "max", "(II)I"⟩ : MethodName)) hown (mvT hZ (hw _ (List.mem_of_getElem? (i := 1) rfl))) (mvT hZ (hw _ (List.mem_of_getElem? (i := 2) rfl))) (mvT hZ (hw _ (List.mem_of_getElem? (i := 3) rfl))) (mvT hZ (hw _ (List.mem_of_getElem? (i := 4) rfl))) (by decide) (backOf (W := 0) (rmMax lL Z a0 hw [] (x0 &&& (2147483647 : Int32)) h0 n0 ) hZ (hw _ (List.mem_of_getElem? (i := 4) rfl)) (hw _ (List.mem_of_getElem? (i := 3) rfl)) (by decide) (by decide)) (g := (mkF mM 5 #[.val (.int x0), .val (.int x1), .val (.long x2), .second, .val (.int x4), .unset, .unset, .unset, .unset, .unset, .unset, .unset, .unset, .unset, .unset] [(.int (x0 &&& (2147483647 : Int32))), (.int (1 : Int32))])) rfl (by rw [hml]; rfl) (argsL := [(.int (1 : Int32)), (.int (x0 &&& (2147483647 : Int32)))]) (rest := []) (lenOf pd__28II_29I rfl) rfl (by show 2 * 0 + _ ≤ _; exact Nat.le_of_eq rfl) (hb hby at_5) (fun _ _ => ⟨rfl, e0, (by decide : 0 + 0 ≤ _), (by decide : 0 + 0 ≤ _)⟩)
  dsimp only [Pt.U, Pt.locs, Pt.cells, Pt.slots] at X72 l72 y72 z72 st72 hQ72
  subst l72 y72 z72
  obtain ⟨r72, rfl, N72q, e72, g72⟩ := hQ72
  have N72 := Fr.app N0 N72q
  refine own_st (A := T72.setTop (mkF mM 8 #[.val (.int x0), .val (.int x1), .val (.long x2), .second, .val (.int x4), .unset, .unset, .unset, .unset, .unset, .unset, .unset, .unset, .unset, .unset] [(.int r72)])) (fun tT_ kK_ => st72 tT_ kK_) ?_
  refine own_st (A := T72.setTop (mkF mM 10 #[.val (.int x0), .val (.int x1), .val (.long x2), .second, .val (.int x4), .val (.int r72), .unset, .unset, .unset, .unset, .unset, .unset, .unset, .unset, .unset] [])) (fun tT_ kK_ => XS.istore X72.here hx rfl (hb hby at_8) rfl (l' := #[.val (.int x0), .val (.int x1), .val (.long x2), .second, .val (.int x4), .val (.int r72), .unset, .unset, .unset, .unset, .unset, .unset, .unset, .unset, .unset]) rfl kK_) ?_
  refine own_st (A := T72.setTop (mkF mM 11 #[.val (.int x0), .val (.int x1), .val (.long x2), .second, .val (.int x4), .val (.int r72), .unset, .unset, .unset, .unset, .unset, .unset, .unset, .unset, .unset] [(.int (1 : Int32))])) (fun tT_ kK_ => XS.iconst X72.here hx rfl (hb hby at_10) kK_) ?_
  refine own_st (A := T72.setTop (mkF mM 12 #[.val (.int x0), .val (.int x1), .val (.long x2), .second, .val (.int x4), .val (.int r72), .unset, .unset, .unset, .unset, .unset, .unset, .unset, .unset, .unset] [(.int x1), (.int (1 : Int32))])) (fun tT_ kK_ => XS.iloadN X72.here hx rfl (hb hby at_11) rfl kK_) ?_
  refine own_st (A := T72.setTop (mkF mM 14 #[.val (.int x0), .val (.int x1), .val (.long x2), .second, .val (.int x4), .val (.int r72), .unset, .unset, .unset, .unset, .unset, .unset, .unset, .unset, .unset] [(.int (2147483647 : Int32)), (.int x1), (.int (1 : Int32))])) (fun tT_ kK_ => X72.ldcInt hx hown (mvT hZ (hw _ (List.mem_of_getElem? (i := 0) rfl))) (g := (mkF mM 12 #[.val (.int x0), .val (.int x1), .val (.long x2), .second, .val (.int x4), .val (.int r72), .unset, .unset, .unset, .unset, .unset, .unset, .unset, .unset, .unset] [(.int x1), (.int (1 : Int32))])) rfl (hb hby at_12) tT_ kK_) ?_
  refine own_st (A := T72.setTop (mkF mM 15 #[.val (.int x0), .val (.int x1), .val (.long x2), .second, .val (.int x4), .val (.int r72), .unset, .unset, .unset, .unset, .unset, .unset, .unset, .unset, .unset] [(.int (x1 &&& (2147483647 : Int32))), (.int (1 : Int32))])) (fun tT_ kK_ => XS.iand X72.here hx rfl (hb hby at_14) rfl kK_) ?_
  obtain ⟨_, _, ⟨T73, L73, k73, n73⟩, -, X73, ⟨Lc73, hQ73, l73, y73, z73⟩, st73⟩ := Jvm.LawKit.callS X72 hx (y := (⟨"java/lang/Math", "max", "(II)I"⟩ : MethodName)) hown (mvT hZ (hw _ (List.mem_of_getElem? (i := 1) rfl))) (mvT hZ (hw _ (List.mem_of_getElem? (i := 2) rfl))) (mvT hZ (hw _ (List.mem_of_getElem? (i := 3) rfl))) (mvT hZ (hw _ (List.mem_of_getElem? (i := 4) rfl))) (by decide) (backOf (W := 0) (rmMax lL Z a0 hw [] (x1 &&& (2147483647 : Int32)) h0 n0 ) hZ (hw _ (List.mem_of_getElem? (i := 4) rfl)) (hw _ (List.mem_of_getElem? (i := 3) rfl)) (by decide) (by decide)) (g := (mkF mM 15 #[.val (.int x0), .val (.int x1), .val (.long x2), .second, .val (.int x4), .val (.int r72), .unset, .unset, .unset, .unset, .unset, .unset, .unset, .unset, .unset] [(.int (x1 &&& (2147483647 : Int32))), (.int (1 : Int32))])) rfl (by rw [hml]; rfl) (argsL := [(.int (1 : Int32)), (.int (x1 &&& (2147483647 : Int32)))]) (rest := []) (lenOf pd__28II_29I rfl) rfl (by show 2 * 0 + _ ≤ _; exact Nat.le_of_eq rfl) (hb hby at_15) (fun _ _ => ⟨rfl, e72, (by decide : 0 + 0 ≤ _), (by decide : 0 + 0 ≤ _)⟩)
  dsimp only [Pt.U, Pt.locs, Pt.cells, Pt.slots] at X73 l73 y73 z73 st73 hQ73
  subst l73 y73 z73
  obtain ⟨r73, rfl, N73q, e73, g73⟩ := hQ73
  have N73 := Fr.app N72 N73q
  refine own_st (A := T73.setTop (mkF mM 18 #[.val (.int x0), .val (.int x1), .val (.long x2), .second, .val (.int x4), .val (.int r72), .unset, .unset, .unset, .unset, .unset, .unset, .unset, .unset, .unset] [(.int r73)])) (fun tT_ kK_ => st73 tT_ kK_) ?_
  refine own_st (A := T73.setTop (mkF mM 20 #[.val (.int x0), .val (.int x1), .val (.long x2), .second, .val (.int x4), .val (.int r72), .val (.int r73), .unset, .unset, .unset, .unset, .unset, .unset, .unset, .unset] [])) (fun tT_ kK_ => XS.istore X73.here hx rfl (hb hby at_18) rfl (l' := #[.val (.int x0), .val (.int x1), .val (.long x2), .second, .val (.int x4), .val (.int r72), .val (.int r73), .unset, .unset, .unset, .unset, .unset, .unset, .unset, .unset]) rfl kK_) ?_
  exact J20 hw X73 hx hZ hby hml hown hlk hret e73 N73 x0 x1 x2 x4 _ _ dc kd mo ee ma ml mr O Zn V_dc E_dc M_oa S_ee M_a M_l M_r S_dc g72 g73
set_option maxRecDepth 65536 in
set_option maxHeartbeats 40000000 in
theorem comes_1 {Post : Tables → Env → Array Value → State → Outcome → State → Prop} (hpost : ∀ tb e args s v u, (limb_1_1.after args s (.returned v) u = true ∧ limb_1_2.after args s (.returned v) u = true ∧ True) → FrameEnd s (.returned v) u (Jvm.fieldLocs frame_1_writes args s ++ Jvm.arrayLocs frame_1_arrays args s ++ Jvm.staticLocs frame_1_statics s) 24 128 → Post tb e args s (.returned v) u) :
    ArmFor flags0 classFile x code maxLocals ret World_1 tables_1 room_1 Calls_1 rest_1 Pre_1 Post := by
  intro l hfl _ _ p e ha hc hk s m args below hf hA hF happ hP
  obtain ⟨hcalls, hrest, hpre⟩ := hP
  obtain ⟨-, -, -, hnamed, -, -, -, hat⟩ := (Spec.applies_iff hf).mp happ
  obtain ⟨hg, hn⟩ := and_e (Cond.before_iff.mp (show (Jvm.Cond.and given_1 narrow_1).before args s = true from hpre))
  obtain ⟨h1, hg1⟩ := and_e hg
  obtain ⟨w0, w1, w2, w3, rfl⟩ : ∃ w0 w1 w2 w3 : Value, args = #[w0, w1, w2, w3] := by
    have hs : args.size = 4 := by simpa [Cond.value, given_1] using h1
    obtain ⟨L⟩ := args
    match L, hs with
    | [w0, w1, w2, w3], _ => exact ⟨w0, w1, w2, w3, rfl⟩
  have hw := fun d (hd : d ∈ tables_1) => atoms_spec (ws := Jvm.Cond.code x code maxLocals ret :: tables_1) hat d (List.mem_cons_of_mem _ hd)
  have hfit : Fit s := fun {y c} hc i hi => by
    obtain ⟨ha, rfl⟩ := Array.getElem?_eq_some_iff.mp hc
    have q := List.all_eq_true.mp ((Array.all_eq_true_iff_forall_mem.mp hF) _ (Array.getElem_mem ha)) i (List.mem_range.mpr hi)
    simpa [Array.getElem?_eq_getElem hi] using q
  obtain ⟨g0, hg2⟩ := and_e hg1
  obtain ⟨i0, e0⟩ := is_v g0
  obtain rfl : w0 = (.int i0) := Option.some.inj e0
  obtain ⟨g1, hg3⟩ := and_e hg2
  obtain ⟨i1, e1⟩ := is_v g1
  obtain rfl : w1 = (.int i1) := Option.some.inj e1
  obtain ⟨g2, hg4⟩ := and_e hg3
  obtain ⟨i2, e2⟩ := isL_v g2
  obtain rfl : w2 = (.long i2) := Option.some.inj e2
  have g3 := hg4
  obtain ⟨i3, e3⟩ := is_v g3
  obtain rfl : w3 = (.int i3) := Option.some.inj e3
  have hn : narrow_1.value _ s none s [] = some true := hn
  obtain ⟨hsets, -⟩ := atoms_of jdkStatics_1 (show (jdkStatics_1.foldr Jvm.Cond.and restOwn_1).before _ s = true from (by have q := hrest; rw [← rest_1_c_eq]; exact q))
  have j3 := Cond.before_iff.mp (hsets _ (List.mem_of_getElem? (i := 3) rfl))
  obtain ⟨ee, ev_ee⟩ := arr_v j3
  obtain ⟨cl_ee, ar_ee⟩ := Arr.start ev_ee j3
  have ln_ee := own_len ev_ee ar_ee (Cond.before_iff.mp (hsets _ (List.mem_of_getElem? (i := 5) rfl)))
  have ex_ee := Exa.start ev_ee (Cond.before_iff.mp (hsets _ (List.mem_of_getElem? (i := 4) rfl)))
  have S_ee := Sta.start ev_ee (Or.inl (hsets _ (List.mem_of_getElem? (i := 1) rfl)))
  have j6 := Cond.before_iff.mp (hsets _ (List.mem_of_getElem? (i := 6) rfl))
  obtain ⟨dc, ev_dc⟩ := arr_v j6
  obtain ⟨cl_dc, ar_dc⟩ := Arr.start ev_dc j6
  have ln_dc := own_len ev_dc ar_dc (Cond.before_iff.mp (hsets _ (List.mem_of_getElem? (i := 8) rfl)))
  have ex_dc := Exa.start ev_dc (Cond.before_iff.mp (hsets _ (List.mem_of_getElem? (i := 7) rfl)))
  have S_dc := Sta.start ev_dc (Or.inr ⟨(hw _ (List.mem_of_getElem? (i := 11) rfl)), (hsets _ (List.mem_of_getElem? (i := 2) rfl))⟩)
  have V_dc : Arv s s.heap dc cl_dc.cls (.object "java/lang/Object") 0 [] .null := Arv.start hfit ar_dc ln_dc.1 ln_dc.2 (by decide) rfl trivial
  obtain ⟨⟨mc1, mk1, mo, q11, q12, q13⟩, ⟨mc2, mk2, ma, q21, q22, q23⟩, ⟨mc3, mk3, ml, q31, q32, q33⟩, ⟨mc4, mk4, mr, q41, q42, q43⟩, -⟩ := hcalls
  obtain ⟨n, o, h1, h2, h3, _, L, rfl, ⟨rfl, N⟩, hq⟩ := rm0 l s _ hw tables_1 i0 i1 i2 i3 dc cl_dc.cls mo ee ma ml mr s.heap s.heap.size (Old.start s) (Nat.le_refl _) V_dc ex_dc ⟨mc1, mk1, q11, q12, q13.1⟩ S_ee ⟨mc2, mk2, q21, q22, q23.1⟩ ⟨mc3, mk3, q31, q32, q33.1⟩ ⟨mc4, mk4, q41, q42, q43.1⟩ S_dc p e ha hc hk s m _ below hf ((Spec.applies_iff_loose hf).mp happ).1 ⟨rfl, State.Warmed39.refl s, rfl⟩ trivial
  refine ⟨n, _, h1, h2, h3, hpost _ _ _ _ _ _ ⟨Cond.after_iff.mpr rfl, Cond.after_iff.mpr (eq_i res_at (Term.int_eval (1)) rfl), trivial⟩ ⟨hq.1, hq.2.1, (hq.2.2.sift fun y hy => Or.inr (N y hy)).mono (by decide) (by decide)⟩⟩
theorem main_1_1 : Claimed_1_1 := comes_1 fun _ _ _ _ _ _ h hF => ⟨h.1, hF⟩
theorem main_1_2 : Claimed_1_2 := comes_1 fun _ _ _ _ _ _ h hF => ⟨h.2.1, hF⟩
end Jvm.Pilot.@@N@@
namespace Jvm.Pilot.@@N@@
open Jvm Jvm.ClassFile Sem Op Lib Jvm.Free Jvm.Stand Jvm.Pilot.@@N@@.Jvm.D
/-! MADE BY PROGRAM (witnessworld.py) out of the Statement's table words and the real class files: 26 classes; the members and pool entries that the words name. The judged class is class 1, her method 1. -/
namespace start1
open Jvm.ClassFile
def u (s : String) : CpInfo := .utf8 (stringToUtf16 s)
/-- a pool by its gaps: so many unusable entries, then the entry; so many at the end -/
def gap : Nat → List CpInfo → List CpInfo
  | 0, r => r
  | n + 1, r => .unusable :: gap n r
def poolList (es : List (Nat × CpInfo)) (last : Nat) : List CpInfo := es.foldr (fun e r => gap e.1 (e.2 :: r)) (gap last [])
def pool (es : List (Nat × CpInfo)) (last : Nat) : Array CpInfo := ⟨poolList es last⟩
def fileOf (pool : Array CpInfo) (this : Nat) (attrs : Array Attribute := #[]) (ms : Array MethodInfo := #[]) (fl : Nat := 33) (sup : Nat := 0) (ifs : Array Nat := #[]) (fds : Array FieldInfo := #[]) : ClassFile where
  minorVersion := 0
  majorVersion := 65
  constantPool := pool
  accessFlags := fl
  thisClass := this
  superClass := sup
  interfaces := ifs
  fields := fds
  methods := ms
  attributes := attrs
def plain (name : String) (sup : Option ClassId) : Class where
  name := name
  kind := .ordinary
  loader := none
  accessFlags := 33
  super := sup
  interfaces := #[]
  cf := none
  fields := #[]
  methods := #[]
  instanceTypes := #[]
  staticTypes := #[]
  resolved := #[]
  callSites := []
  init := .initialized
  statics := none
  mirror := none

def pool0 : Array CpInfo := pool [(5, u "<init>"), (0, u "()V"), (1, .class_ 10), (1, u "java/lang/Object"), (0, u "getClass"), (0, u "()Ljava/lang/Class;")] 111

def k0c0 : Code := { maxStack := 0, maxLocals := 1, code := object_method_1_code, exceptionTable := #[], attributes := #[] }
def k0m0 : Method := { name := "<init>", desc := "()V", sig := { parameters := [], returnType := none }, accessFlags := 1, code := some k0c0 }
def k0m1 : Method := { name := "getClass", desc := "()Ljava/lang/Class;", sig := { parameters := [], returnType := some (.object "java/lang/Class") }, accessFlags := 273, code := none }
/-- java/lang/Object -/
def k0 : Class := { plain "java/lang/Object" none with
  accessFlags := 33
  interfaces := #[]
  cf := some (fileOf pool0 8 #[] #[{ accessFlags := 1, nameIndex := 5, descriptorIndex := 6, attributes := #[] }, { accessFlags := 273, nameIndex := 11, descriptorIndex := 12, attributes := #[] }] 33 0 #[] #[])
  fields := #[]
  methods := #[k0m0, k0m1]
  instanceTypes := #[]
  staticTypes := #[]
  resolved := Array.replicate 124 none
  statics := none }

def pool1 : Array CpInfo := pool [(2, .class_ 4), (0, .nameAndType 5 6), (0, u "java/lang/Object"), (0, u "<init>"), (0, u "()V"), (0, .integer 2147483647), (0, .methodref 9 10), (0, .class_ 11), (0, .nameAndType 12 13), (0, u "java/lang/Math"), (0, u "max"), (0, u "(II)I"), (2, .long 9223372036854775807), (1, .class_ 19), (0, u "com/example/vyasa/vyasa/Page"), (0, .class_ 21), (0, u "java/util/ArrayList"), (0, .methodref 20 3), (0, .methodref 18 24), (0, .nameAndType 5 25), (0, u "(Ljava/util/List;JII)V"), (0, .methodref 18 27), (0, .nameAndType 28 29), (0, u "hasNext"), (0, u "()Z"), (0, .class_ 31), (0, u "com/example/vyasa/vyasa/PageHasNextPinLaw"), (2, u "law"), (0, u "(IIJI)Z")] 3

def k1m0 : Method := { name := "<init>", desc := "()V", sig := { parameters := [], returnType := none }, accessFlags := 1, code := none }
def k1c1 : Code := { maxStack := 7, maxLocals := 15, code := code, exceptionTable := #[], attributes := #[] }
def k1m1 : Method := { name := "law", desc := "(IIJI)Z", sig := { parameters := [.int, .int, .long, .int], returnType := some .boolean }, accessFlags := 9, code := some k1c1 }
/-- com/example/vyasa/vyasa/PageHasNextPinLaw -/
def k1 : Class := { plain "com/example/vyasa/vyasa/PageHasNextPinLaw" (some 0) with
  accessFlags := 49
  interfaces := #[]
  cf := some (fileOf pool1 30 #[] #[{ accessFlags := 1, nameIndex := 5, descriptorIndex := 6, attributes := #[] }, { accessFlags := 9, nameIndex := 34, descriptorIndex := 35, attributes := #[] }] 49 2 #[] #[])
  fields := #[]
  methods := #[k1m0, k1m1]
  instanceTypes := #[]
  staticTypes := #[]
  resolved := Array.replicate 39 none
  statics := none }

def pool2 : Array CpInfo := pool [(1, .class_ 2), (0, u "java/lang/Math"), (1, .class_ 6), (1, u "java/lang/Object"), (0, u "<init>"), (0, u "()V"), (89, .class_ 100), (1, u "java/lang/Math$RandomNumberGeneratorHolder"), (71, u "negativeZeroFloatBits"), (0, u "J"), (2, u "negativeZeroDoubleBits"), (21, u "max"), (2, u "min"), (43, u "$assertionsDisabled"), (0, u "Z"), (88, u "(II)I"), (2, u "twoToTheDoubleScaleDown"), (0, u "D"), (4, u "twoToTheDoubleScaleUp"), (9, u "E"), (3, u "PI"), (2, u "TAU"), (2, u "DEGREES_TO_RADIANS"), (0, u "RADIANS_TO_DEGREES")] 94

def k2m0 : Method := { name := "<init>", desc := "()V", sig := { parameters := [], returnType := none }, accessFlags := 2, code := none }
def k2c1 : Code := { maxStack := 2, maxLocals := 2, code := jdk_29_method_65_code, exceptionTable := #[], attributes := #[] }
def k2m1 : Method := { name := "max", desc := "(II)I", sig := { parameters := [.int, .int], returnType := some .int }, accessFlags := 9, code := some k2c1 }
def k2c2 : Code := { maxStack := 2, maxLocals := 2, code := jdk_29_method_69_code, exceptionTable := #[], attributes := #[] }
def k2m2 : Method := { name := "min", desc := "(II)I", sig := { parameters := [.int, .int], returnType := some .int }, accessFlags := 9, code := some k2c2 }
/-- java/lang/Math -/
def k2 : Class := { plain "java/lang/Math" (some 0) with
  accessFlags := 49
  interfaces := #[]
  cf := some (fileOf pool2 1 #[.nestMembers #[98]] #[{ accessFlags := 2, nameIndex := 7, descriptorIndex := 8, attributes := #[] }, { accessFlags := 9, nameIndex := 198, descriptorIndex := 335, attributes := #[] }, { accessFlags := 9, nameIndex := 201, descriptorIndex := 335, attributes := #[] }] 49 4 #[] #[{ accessFlags := 25, nameIndex := 354, descriptorIndex := 339, attributes := #[] }, { accessFlags := 25, nameIndex := 358, descriptorIndex := 339, attributes := #[] }, { accessFlags := 25, nameIndex := 361, descriptorIndex := 339, attributes := #[] }, { accessFlags := 26, nameIndex := 364, descriptorIndex := 339, attributes := #[] }, { accessFlags := 26, nameIndex := 365, descriptorIndex := 339, attributes := #[] }, { accessFlags := 26, nameIndex := 172, descriptorIndex := 173, attributes := #[] }, { accessFlags := 26, nameIndex := 176, descriptorIndex := 173, attributes := #[] }, { accessFlags := 8, nameIndex := 344, descriptorIndex := 339, attributes := #[] }, { accessFlags := 8, nameIndex := 338, descriptorIndex := 339, attributes := #[] }, { accessFlags := 4120, nameIndex := 245, descriptorIndex := 246, attributes := #[] }])
  fields := #[{ name := "E", type := .double, accessFlags := 25, slot := 0, constantValue := 0 }, { name := "PI", type := .double, accessFlags := 25, slot := 1, constantValue := 0 }, { name := "TAU", type := .double, accessFlags := 25, slot := 2, constantValue := 0 }, { name := "DEGREES_TO_RADIANS", type := .double, accessFlags := 26, slot := 3, constantValue := 0 }, { name := "RADIANS_TO_DEGREES", type := .double, accessFlags := 26, slot := 4, constantValue := 0 }, { name := "negativeZeroFloatBits", type := .long, accessFlags := 26, slot := 5, constantValue := 0 }, { name := "negativeZeroDoubleBits", type := .long, accessFlags := 26, slot := 6, constantValue := 0 }, { name := "twoToTheDoubleScaleUp", type := .double, accessFlags := 8, slot := 7, constantValue := 0 }, { name := "twoToTheDoubleScaleDown", type := .double, accessFlags := 8, slot := 8, constantValue := 0 }, { name := "$assertionsDisabled", type := .boolean, accessFlags := 4120, slot := 9, constantValue := 0 }]
  methods := #[k2m0, k2m1, k2m2]
  instanceTypes := #[]
  staticTypes := #[.double, .double, .double, .double, .double, .long, .long, .double, .double, .boolean]
  resolved := Array.replicate 460 none
  statics := none }

def pool3 : Array CpInfo := pool [(1, .methodref 2 3), (0, .class_ 4), (0, .nameAndType 5 6), (0, u "java/lang/Object"), (0, u "<init>"), (0, u "()V"), (0, .class_ 8), (0, u "java/util/ArrayList"), (0, .methodref 7 10), (0, .nameAndType 5 11), (0, u "(Ljava/util/Collection;)V"), (0, .methodref 13 14), (0, .class_ 15), (0, .nameAndType 16 17), (0, u "java/util/Collections"), (0, u "unmodifiableList"), (0, u "(Ljava/util/List;)Ljava/util/List;"), (0, .fieldref 19 20), (0, .class_ 21), (0, .nameAndType 22 23), (0, u "com/example/vyasa/vyasa/Page"), (0, u "rows"), (0, u "Ljava/util/List;"), (0, .fieldref 19 25), (0, .nameAndType 26 27), (0, u "resultCount"), (0, u "J"), (0, .fieldref 19 29), (0, .nameAndType 30 31), (0, u "page"), (0, u "I"), (0, .fieldref 19 33), (0, .nameAndType 34 31), (0, u "perPage"), (8, u "(Ljava/util/List;JII)V"), (9, u "hasNext"), (0, u "()Z")] 3

def k3c0 : Code := { maxStack := 4, maxLocals := 6, code := prog_22_method_1_code, exceptionTable := #[], attributes := #[] }
def k3m0 : Method := { name := "<init>", desc := "(Ljava/util/List;JII)V", sig := { parameters := [(.object "java/util/List"), .long, .int, .int], returnType := none }, accessFlags := 0, code := some k3c0 }
def k3c1 : Code := { maxStack := 4, maxLocals := 1, code := prog_22_method_7_code, exceptionTable := #[], attributes := #[] }
def k3m1 : Method := { name := "hasNext", desc := "()Z", sig := { parameters := [], returnType := some .boolean }, accessFlags := 1, code := some k3c1 }
/-- com/example/vyasa/vyasa/Page -/
def k3 : Class := { plain "com/example/vyasa/vyasa/Page" (some 0) with
  accessFlags := 33
  interfaces := #[]
  cf := some (fileOf pool3 19 #[] #[{ accessFlags := 0, nameIndex := 5, descriptorIndex := 43, attributes := #[] }, { accessFlags := 1, nameIndex := 53, descriptorIndex := 54, attributes := #[] }] 33 2 #[] #[{ accessFlags := 18, nameIndex := 22, descriptorIndex := 23, attributes := #[] }, { accessFlags := 18, nameIndex := 26, descriptorIndex := 27, attributes := #[] }, { accessFlags := 18, nameIndex := 30, descriptorIndex := 31, attributes := #[] }, { accessFlags := 18, nameIndex := 34, descriptorIndex := 31, attributes := #[] }])
  fields := #[{ name := "rows", type := (.object "java/util/List"), accessFlags := 18, slot := 0, constantValue := 0 }, { name := "resultCount", type := .long, accessFlags := 18, slot := 1, constantValue := 0 }, { name := "page", type := .int, accessFlags := 18, slot := 2, constantValue := 0 }, { name := "perPage", type := .int, accessFlags := 18, slot := 3, constantValue := 0 }]
  methods := #[k3m0, k3m1]
  instanceTypes := #[(.object "java/util/List"), .long, .int, .int]
  staticTypes := #[]
  resolved := Array.replicate 58 none
  statics := none }

def pool4 : Array CpInfo := pool [(8, .class_ 10), (1, u "java/lang/Iterable"), (24, .class_ 36), (0, u "java/lang/Object")] 25

/-- java/lang/Iterable -/
def k4 : Class := { plain "java/lang/Iterable" (some 0) with
  accessFlags := 1537
  interfaces := #[]
  cf := some (fileOf pool4 8 #[] #[] 1537 35 #[] #[])
  fields := #[]
  methods := #[]
  instanceTypes := #[]
  staticTypes := #[]
  resolved := Array.replicate 62 none
  statics := none }

def pool5 : Array CpInfo := pool [(10, .class_ 12), (1, u "java/util/Collection"), (0, u "toArray"), (46, .class_ 61), (0, u "java/lang/Object"), (0, .class_ 63), (0, u "java/lang/Iterable"), (6, u "()[Ljava/lang/Object;")] 44

def k5m0 : Method := { name := "toArray", desc := "()[Ljava/lang/Object;", sig := { parameters := [], returnType := some (.array (.object "java/lang/Object")) }, accessFlags := 1025, code := none }
/-- java/util/Collection -/
def k5 : Class := { plain "java/util/Collection" (some 0) with
  accessFlags := 1537
  interfaces := #[4]
  cf := some (fileOf pool5 10 #[] #[{ accessFlags := 1025, nameIndex := 13, descriptorIndex := 70, attributes := #[] }] 1537 60 #[62] #[])
  fields := #[]
  methods := #[k5m0]
  instanceTypes := #[]
  staticTypes := #[]
  resolved := Array.replicate 115 none
  statics := none }

def pool6 : Array CpInfo := pool [(1, .methodref 2 3), (0, .class_ 4), (0, .nameAndType 5 6), (0, u "java/lang/Object"), (0, u "<init>"), (0, u "()V"), (1, .class_ 10), (1, u "java/util/AbstractCollection"), (66, .class_ 78), (0, u "java/util/Collection")] 81

def k6c0 : Code := { maxStack := 1, maxLocals := 1, code := jdk_22_method_1_code, exceptionTable := #[], attributes := #[] }
def k6m0 : Method := { name := "<init>", desc := "()V", sig := { parameters := [], returnType := none }, accessFlags := 4, code := some k6c0 }
/-- java/util/AbstractCollection -/
def k6 : Class := { plain "java/util/AbstractCollection" (some 0) with
  accessFlags := 1057
  interfaces := #[5]
  cf := some (fileOf pool6 8 #[] #[{ accessFlags := 4, nameIndex := 5, descriptorIndex := 6, attributes := #[] }] 1057 2 #[77] #[])
  fields := #[]
  methods := #[k6m0]
  instanceTypes := #[]
  staticTypes := #[]
  resolved := Array.replicate 160 none
  statics := none }

def pool7 : Array CpInfo := pool [(8, .class_ 10), (1, u "java/util/SequencedCollection"), (15, .class_ 27), (0, u "java/lang/Object"), (0, .class_ 29), (0, u "java/util/Collection")] 27

/-- java/util/SequencedCollection -/
def k7 : Class := { plain "java/util/SequencedCollection" (some 0) with
  accessFlags := 1537
  interfaces := #[5]
  cf := some (fileOf pool7 8 #[] #[] 1537 26 #[28] #[])
  fields := #[]
  methods := #[]
  instanceTypes := #[]
  staticTypes := #[]
  resolved := Array.replicate 57 none
  statics := none }

def pool8 : Array CpInfo := pool [(8, .class_ 10), (1, u "java/util/List"), (92, .class_ 104), (0, u "java/lang/Object"), (15, .class_ 121), (0, u "java/util/SequencedCollection")] 129

/-- java/util/List -/
def k8 : Class := { plain "java/util/List" (some 0) with
  accessFlags := 1537
  interfaces := #[7]
  cf := some (fileOf pool8 8 #[] #[] 1537 103 #[120] #[])
  fields := #[]
  methods := #[]
  instanceTypes := #[]
  staticTypes := #[]
  resolved := Array.replicate 251 none
  statics := none }

def pool9 : Array CpInfo := pool [(1, .methodref 2 3), (0, .class_ 4), (0, .nameAndType 5 6), (0, u "java/util/AbstractCollection"), (0, u "<init>"), (0, u "()V"), (0, .fieldref 8 9), (0, .class_ 10), (0, .nameAndType 11 12), (0, u "java/util/AbstractList"), (0, u "modCount"), (0, u "I"), (64, .class_ 78), (0, u "java/util/AbstractList$Itr"), (3, .class_ 83), (0, u "java/util/AbstractList$ListItr"), (9, .class_ 94), (0, u "java/util/AbstractList$RandomAccessSubList"), (3, .class_ 99), (0, u "java/util/AbstractList$SubList"), (33, .class_ 134), (0, u "java/util/List"), (73, .class_ 209), (0, u "java/util/AbstractList$SubList$1"), (0, .class_ 211), (0, u "java/util/AbstractList$RandomAccessSpliterator")] 6

def k9c0 : Code := { maxStack := 2, maxLocals := 1, code := jdk_39_method_1_code, exceptionTable := #[], attributes := #[] }
def k9m0 : Method := { name := "<init>", desc := "()V", sig := { parameters := [], returnType := none }, accessFlags := 4, code := some k9c0 }
/-- java/util/AbstractList -/
def k9 : Class := { plain "java/util/AbstractList" (some 6) with
  accessFlags := 1057
  interfaces := #[8]
  cf := some (fileOf pool9 8 #[.nestMembers #[93, 98, 208, 210, 82, 77]] #[{ accessFlags := 4, nameIndex := 5, descriptorIndex := 6, attributes := #[] }] 1057 2 #[133] #[{ accessFlags := 132, nameIndex := 11, descriptorIndex := 12, attributes := #[] }])
  fields := #[{ name := "modCount", type := .int, accessFlags := 132, slot := 0, constantValue := 0 }]
  methods := #[k9m0]
  instanceTypes := #[.int]
  staticTypes := #[]
  resolved := Array.replicate 218 none
  statics := none }

def pool10 : Array CpInfo := pool [(1, .class_ 2), (0, u "java/util/RandomAccess"), (0, .class_ 4), (0, u "java/lang/Object")] 2

/-- java/util/RandomAccess -/
def k10 : Class := { plain "java/util/RandomAccess" (some 0) with
  accessFlags := 1537
  interfaces := #[]
  cf := some (fileOf pool10 1 #[] #[] 1537 3 #[] #[])
  fields := #[]
  methods := #[]
  instanceTypes := #[]
  staticTypes := #[]
  resolved := Array.replicate 7 none
  statics := none }

def pool11 : Array CpInfo := pool [(1, .class_ 2), (0, u "java/lang/Cloneable"), (0, .class_ 4), (0, u "java/lang/Object")] 2

/-- java/lang/Cloneable -/
def k11 : Class := { plain "java/lang/Cloneable" (some 0) with
  accessFlags := 1537
  interfaces := #[]
  cf := some (fileOf pool11 1 #[] #[] 1537 3 #[] #[])
  fields := #[]
  methods := #[]
  instanceTypes := #[]
  staticTypes := #[]
  resolved := Array.replicate 7 none
  statics := none }

def pool12 : Array CpInfo := pool [(1, .class_ 2), (0, u "java/io/Serializable"), (0, .class_ 4), (0, u "java/lang/Object")] 2

/-- java/io/Serializable -/
def k12 : Class := { plain "java/io/Serializable" (some 0) with
  accessFlags := 1537
  interfaces := #[]
  cf := some (fileOf pool12 1 #[] #[] 1537 3 #[] #[])
  fields := #[]
  methods := #[]
  instanceTypes := #[]
  staticTypes := #[]
  resolved := Array.replicate 7 none
  statics := none }

def pool13 : Array CpInfo := pool [(1, .methodref 2 3), (0, .class_ 4), (0, .nameAndType 5 6), (0, u "java/util/AbstractList"), (0, u "<init>"), (0, u "()V"), (2, .fieldref 10 11), (0, .class_ 12), (0, .nameAndType 13 14), (0, u "java/util/ArrayList"), (0, u "elementData"), (0, u "[Ljava/lang/Object;"), (0, .fieldref 10 16), (0, .nameAndType 17 14), (0, u "EMPTY_ELEMENTDATA"), (21, .fieldref 10 40), (0, .nameAndType 41 14), (0, u "DEFAULTCAPACITY_EMPTY_ELEMENTDATA"), (0, .interfaceMethodref 43 44), (0, .class_ 45), (0, .nameAndType 46 47), (0, u "java/util/Collection"), (0, u "toArray"), (0, u "()[Ljava/lang/Object;"), (0, .fieldref 10 49), (0, .nameAndType 50 51), (0, u "size"), (0, u "I"), (6, .class_ 60), (1, u "java/util/Arrays"), (0, u "copyOf"), (4, .methodref 58 67), (0, .nameAndType 61 68), (0, u "([Ljava/lang/Object;I)[Ljava/lang/Object;"), (79, .class_ 149), (0, u "java/util/List"), (112, .class_ 263), (0, u "java/util/ArrayList$ListItr"), (3, .class_ 268), (0, u "java/util/ArrayList$Itr"), (7, .class_ 277), (0, u "java/util/ArrayList$SubList"), (12, .class_ 291), (0, u "java/util/ArrayList$ArrayListSpliterator"), (37, .class_ 330), (0, u "java/util/RandomAccess"), (0, .class_ 332), (0, u "java/lang/Cloneable"), (0, .class_ 334), (0, u "java/io/Serializable"), (0, u "serialVersionUID"), (0, u "J"), (3, u "DEFAULT_CAPACITY"), (10, u "(Ljava/util/Collection;)V"), (148, .class_ 501), (0, u "java/util/ArrayList$SubList$2"), (0, .class_ 503), (0, u "java/util/ArrayList$SubList$1")] 5

def k13c0 : Code := { maxStack := 2, maxLocals := 1, code := jdk_38_method_2_code, exceptionTable := #[], attributes := #[] }
def k13m0 : Method := { name := "<init>", desc := "()V", sig := { parameters := [], returnType := none }, accessFlags := 1, code := some k13c0 }
def k13c1 : Code := { maxStack := 4, maxLocals := 3, code := jdk_38_method_3_code, exceptionTable := #[], attributes := #[] }
def k13m1 : Method := { name := "<init>", desc := "(Ljava/util/Collection;)V", sig := { parameters := [(.object "java/util/Collection")], returnType := none }, accessFlags := 1, code := some k13c1 }
def k13c2 : Code := { maxStack := 2, maxLocals := 1, code := jdk_38_method_16_code, exceptionTable := #[], attributes := #[] }
def k13m2 : Method := { name := "toArray", desc := "()[Ljava/lang/Object;", sig := { parameters := [], returnType := some (.array (.object "java/lang/Object")) }, accessFlags := 1, code := some k13c2 }
/-- java/util/ArrayList -/
def k13 : Class := { plain "java/util/ArrayList" (some 9) with
  accessFlags := 33
  interfaces := #[8, 10, 11, 12]
  cf := some (fileOf pool13 10 #[.nestMembers #[290, 276, 500, 502, 262, 267]] #[{ accessFlags := 1, nameIndex := 5, descriptorIndex := 6, attributes := #[] }, { accessFlags := 1, nameIndex := 5, descriptorIndex := 351, attributes := #[] }, { accessFlags := 1, nameIndex := 46, descriptorIndex := 47, attributes := #[] }] 33 2 #[148, 329, 331, 333] #[{ accessFlags := 26, nameIndex := 335, descriptorIndex := 336, attributes := #[] }, { accessFlags := 26, nameIndex := 340, descriptorIndex := 51, attributes := #[] }, { accessFlags := 26, nameIndex := 17, descriptorIndex := 14, attributes := #[] }, { accessFlags := 26, nameIndex := 41, descriptorIndex := 14, attributes := #[] }, { accessFlags := 128, nameIndex := 13, descriptorIndex := 14, attributes := #[] }, { accessFlags := 2, nameIndex := 50, descriptorIndex := 51, attributes := #[] }])
  fields := #[{ name := "serialVersionUID", type := .long, accessFlags := 26, slot := 0, constantValue := 0 }, { name := "DEFAULT_CAPACITY", type := .int, accessFlags := 26, slot := 1, constantValue := 0 }, { name := "EMPTY_ELEMENTDATA", type := (.array (.object "java/lang/Object")), accessFlags := 26, slot := 2, constantValue := 0 }, { name := "DEFAULTCAPACITY_EMPTY_ELEMENTDATA", type := (.array (.object "java/lang/Object")), accessFlags := 26, slot := 3, constantValue := 0 }, { name := "elementData", type := (.array (.object "java/lang/Object")), accessFlags := 128, slot := 1, constantValue := 0 }, { name := "size", type := .int, accessFlags := 2, slot := 2, constantValue := 0 }]
  methods := #[k13m0, k13m1, k13m2]
  instanceTypes := #[.int, (.array (.object "java/lang/Object")), .int]
  staticTypes := #[.long, .int, (.array (.object "java/lang/Object")), (.array (.object "java/lang/Object"))]
  resolved := Array.replicate 509 none
  mirror := some 2
  statics := some 0 }

def pool14 : Array CpInfo := pool [(2, .class_ 4), (1, u "java/lang/Object"), (0, u "<init>"), (0, u "()V"), (7, .class_ 16), (1, u "java/util/Arrays"), (57, .class_ 76), (1, u "java/util/Arrays$NaturalOrder"), (9, .methodref 2 87), (0, .nameAndType 88 89), (0, u "getClass"), (0, u "()Ljava/lang/Class;"), (20, .class_ 111), (0, u "[Ljava/lang/Object;"), (1, .class_ 115), (1, u "java/util/Arrays$LegacyMergeSort"), (1, u "Z"), (32, .methodref 151 152), (0, .class_ 153), (0, .nameAndType 154 155), (0, u "java/lang/System"), (0, u "arraycopy"), (0, u "(Ljava/lang/Object;ILjava/lang/Object;II)V"), (144, .methodref 14 301), (0, .nameAndType 302 303), (0, u "copyOf"), (0, u "([Ljava/lang/Object;ILjava/lang/Class;)[Ljava/lang/Object;"), (0, .methodref 305 306), (0, .class_ 307), (0, .nameAndType 308 309), (0, u "java/lang/Math"), (0, u "min"), (0, u "(II)I"), (65, .class_ 376), (0, u "java/util/Arrays$ArrayList"), (68, u "$assertionsDisabled"), (269, u "MIN_ARRAY_SORT_GRAN"), (0, u "I"), (2, u "INSERTIONSORT_THRESHOLD"), (140, u "([Ljava/lang/Object;I)[Ljava/lang/Object;"), (114, .class_ 976), (0, u "java/util/Arrays$ArrayItr")] 52

def k14m0 : Method := { name := "<init>", desc := "()V", sig := { parameters := [], returnType := none }, accessFlags := 2, code := none }
def k14c1 : Code := { maxStack := 3, maxLocals := 2, code := jdk_65_method_119_code, exceptionTable := #[], attributes := #[] }
def k14m1 : Method := { name := "copyOf", desc := "([Ljava/lang/Object;I)[Ljava/lang/Object;", sig := { parameters := [(.array (.object "java/lang/Object")), .int], returnType := some (.array (.object "java/lang/Object")) }, accessFlags := 9, code := some k14c1 }
def k14c2 : Code := { maxStack := 6, maxLocals := 4, code := jdk_65_method_120_code, exceptionTable := #[], attributes := #[] }
def k14m2 : Method := { name := "copyOf", desc := "([Ljava/lang/Object;ILjava/lang/Class;)[Ljava/lang/Object;", sig := { parameters := [(.array (.object "java/lang/Object")), .int, (.object "java/lang/Class")], returnType := some (.array (.object "java/lang/Object")) }, accessFlags := 9, code := some k14c2 }
/-- java/util/Arrays -/
def k14 : Class := { plain "java/util/Arrays" (some 0) with
  accessFlags := 49
  interfaces := #[]
  cf := some (fileOf pool14 14 #[.nestMembers #[975, 375, 113, 74]] #[{ accessFlags := 2, nameIndex := 5, descriptorIndex := 6, attributes := #[] }, { accessFlags := 9, nameIndex := 302, descriptorIndex := 860, attributes := #[] }, { accessFlags := 9, nameIndex := 302, descriptorIndex := 303, attributes := #[] }] 49 2 #[] #[{ accessFlags := 26, nameIndex := 715, descriptorIndex := 716, attributes := #[] }, { accessFlags := 26, nameIndex := 719, descriptorIndex := 716, attributes := #[] }, { accessFlags := 4120, nameIndex := 445, descriptorIndex := 117, attributes := #[] }])
  fields := #[{ name := "MIN_ARRAY_SORT_GRAN", type := .int, accessFlags := 26, slot := 0, constantValue := 0 }, { name := "INSERTIONSORT_THRESHOLD", type := .int, accessFlags := 26, slot := 1, constantValue := 0 }, { name := "$assertionsDisabled", type := .boolean, accessFlags := 4120, slot := 2, constantValue := 0 }]
  methods := #[k14m0, k14m1, k14m2]
  instanceTypes := #[]
  staticTypes := #[.int, .int, .boolean]
  resolved := Array.replicate 1029 none
  statics := none }

def pool15 : Array CpInfo := pool [(2, .class_ 4), (1, u "java/lang/Object"), (0, u "<init>"), (0, u "()V"), (1, .class_ 10), (1, u "java/lang/System"), (0, u "allowSecurityManager"), (0, u "I"), (16, u "cons"), (0, u "Ljava/io/Console;"), (77, .class_ 110), (1, u "java/lang/System$CallersHolder"), (43, u "initialErrStream"), (0, u "Ljava/io/PrintStream;"), (19, u "security"), (0, u "Ljava/lang/SecurityManager;"), (31, .class_ 209), (0, u "java/lang/System$1"), (7, u "props"), (0, u "Ljava/util/Properties;"), (2, u "lineSeparator"), (0, u "Ljava/lang/String;"), (96, .class_ 321), (1, u "java/lang/System$LoggerFinder"), (5, .class_ 328), (0, u "java/lang/System$Logger"), (67, u "err"), (2, u "out"), (91, u "notSupportedJnuEncoding"), (15, u "in"), (17, u "initialIn"), (0, u "Ljava/io/InputStream;"), (35, u "bootLayer"), (0, u "Ljava/lang/ModuleLayer;"), (99, .class_ 664), (0, u "java/lang/System$2"), (9, u "NEVER"), (2, u "MAYBE"), (49, u "arraycopy"), (0, u "(Ljava/lang/Object;ILjava/lang/Object;II)V"), (72, .class_ 802), (0, u "java/lang/System$Logger$Level")] 31

def k15m0 : Method := { name := "<init>", desc := "()V", sig := { parameters := [], returnType := none }, accessFlags := 2, code := none }
def k15m1 : Method := { name := "arraycopy", desc := "(Ljava/lang/Object;ILjava/lang/Object;II)V", sig := { parameters := [(.object "java/lang/Object"), .int, (.object "java/lang/Object"), .int, .int], returnType := none }, accessFlags := 265, code := none }
/-- java/lang/System -/
def k15 : Class := { plain "java/lang/System" (some 0) with
  accessFlags := 49
  interfaces := #[]
  cf := some (fileOf pool15 8 #[.nestMembers #[319, 327, 801, 108, 663, 208]] #[{ accessFlags := 2, nameIndex := 5, descriptorIndex := 6, attributes := #[] }, { accessFlags := 265, nameIndex := 727, descriptorIndex := 728, attributes := #[] }] 49 2 #[] #[{ accessFlags := 25, nameIndex := 507, descriptorIndex := 526, attributes := #[] }, { accessFlags := 25, nameIndex := 399, descriptorIndex := 155, attributes := #[] }, { accessFlags := 25, nameIndex := 396, descriptorIndex := 155, attributes := #[] }, { accessFlags := 10, nameIndex := 525, descriptorIndex := 526, attributes := #[] }, { accessFlags := 26, nameIndex := 674, descriptorIndex := 12, attributes := #[] }, { accessFlags := 26, nameIndex := 677, descriptorIndex := 12, attributes := #[] }, { accessFlags := 10, nameIndex := 11, descriptorIndex := 12, attributes := #[] }, { accessFlags := 74, nameIndex := 175, descriptorIndex := 176, attributes := #[] }, { accessFlags := 10, nameIndex := 491, descriptorIndex := 222, attributes := #[] }, { accessFlags := 74, nameIndex := 29, descriptorIndex := 30, attributes := #[] }, { accessFlags := 74, nameIndex := 154, descriptorIndex := 155, attributes := #[] }, { accessFlags := 10, nameIndex := 217, descriptorIndex := 218, attributes := #[] }, { accessFlags := 10, nameIndex := 221, descriptorIndex := 222, attributes := #[] }, { accessFlags := 8, nameIndex := 562, descriptorIndex := 563, attributes := #[] }])
  fields := #[{ name := "in", type := (.object "java/io/InputStream"), accessFlags := 25, slot := 0, constantValue := 0 }, { name := "out", type := (.object "java/io/PrintStream"), accessFlags := 25, slot := 1, constantValue := 0 }, { name := "err", type := (.object "java/io/PrintStream"), accessFlags := 25, slot := 2, constantValue := 0 }, { name := "initialIn", type := (.object "java/io/InputStream"), accessFlags := 10, slot := 3, constantValue := 0 }, { name := "NEVER", type := .int, accessFlags := 26, slot := 4, constantValue := 0 }, { name := "MAYBE", type := .int, accessFlags := 26, slot := 5, constantValue := 0 }, { name := "allowSecurityManager", type := .int, accessFlags := 10, slot := 6, constantValue := 0 }, { name := "security", type := (.object "java/lang/SecurityManager"), accessFlags := 74, slot := 7, constantValue := 0 }, { name := "notSupportedJnuEncoding", type := (.object "java/lang/String"), accessFlags := 10, slot := 8, constantValue := 0 }, { name := "cons", type := (.object "java/io/Console"), accessFlags := 74, slot := 9, constantValue := 0 }, { name := "initialErrStream", type := (.object "java/io/PrintStream"), accessFlags := 74, slot := 10, constantValue := 0 }, { name := "props", type := (.object "java/util/Properties"), accessFlags := 10, slot := 11, constantValue := 0 }, { name := "lineSeparator", type := (.object "java/lang/String"), accessFlags := 10, slot := 12, constantValue := 0 }, { name := "bootLayer", type := (.object "java/lang/ModuleLayer"), accessFlags := 8, slot := 13, constantValue := 0 }]
  methods := #[k15m0, k15m1]
  instanceTypes := #[]
  staticTypes := #[(.object "java/io/InputStream"), (.object "java/io/PrintStream"), (.object "java/io/PrintStream"), (.object "java/io/InputStream"), .int, .int, .int, (.object "java/lang/SecurityManager"), (.object "java/lang/String"), (.object "java/io/Console"), (.object "java/io/PrintStream"), (.object "java/util/Properties"), (.object "java/lang/String"), (.object "java/lang/ModuleLayer")]
  resolved := Array.replicate 834 none
  statics := none }

def pool16 : Array CpInfo := pool [(2, .class_ 4), (1, u "java/lang/Object"), (0, u "<init>"), (0, u "()V"), (1, .class_ 10), (1, u "java/util/List"), (2, .class_ 14), (0, u "java/util/RandomAccess"), (4, .class_ 20), (0, u "java/util/Collections"), (63, u "r"), (0, u "Ljava/util/Random;"), (67, u "(Ljava/util/List;)V"), (9, .nameAndType 164 165), (0, u "getClass"), (0, u "()Ljava/lang/Class;"), (0, .class_ 167), (0, u "java/util/Collections$UnmodifiableCollection"), (6, .class_ 175), (0, u "java/util/Collections$UnmodifiableSequencedCollection"), (6, .class_ 183), (0, u "java/util/Collections$UnmodifiableSet"), (6, .class_ 191), (0, u "java/util/Collections$UnmodifiableSequencedSet"), (6, .class_ 199), (0, u "java/util/Collections$UnmodifiableSortedSet"), (6, .class_ 207), (0, u "java/util/Collections$UnmodifiableNavigableSet"), (3, .interfaceMethodref 8 163), (0, .class_ 213), (0, u "java/util/Collections$UnmodifiableList"), (0, .interfaceMethodref 8 163), (0, .class_ 216), (0, u "java/util/Collections$UnmodifiableRandomAccessList"), (0, .methodref 215 218), (0, .nameAndType 5 153), (4, .class_ 224), (0, u "java/util/Collections$UnmodifiableMap"), (6, .class_ 232), (0, u "java/util/Collections$UnmodifiableSequencedMap"), (4, .class_ 238), (0, u "java/util/Collections$UnmodifiableSortedMap"), (6, .class_ 246), (0, u "java/util/Collections$UnmodifiableNavigableMap"), (3, .class_ 251), (0, u "java/util/Collections$SynchronizedCollection"), (4, .class_ 257), (0, u "java/util/Collections$SynchronizedSet"), (4, .class_ 263), (0, u "java/util/Collections$SynchronizedSortedSet"), (1, .class_ 266), (0, u "java/util/Collections$SynchronizedNavigableSet"), (1, .class_ 269), (0, u "java/util/Collections$SynchronizedRandomAccessList"), (1, .class_ 272), (0, u "java/util/Collections$SynchronizedList"), (5, .class_ 279), (0, u "java/util/Collections$SynchronizedMap"), (1, .class_ 282), (0, u "java/util/Collections$SynchronizedSortedMap"), (1, .class_ 285), (0, u "java/util/Collections$SynchronizedNavigableMap"), (1, .class_ 288), (0, u "java/util/Collections$CheckedCollection"), (11, .class_ 301), (0, u "java/util/Collections$CheckedQueue"), (3, .class_ 306), (0, u "java/util/Collections$CheckedSet"), (3, .class_ 311), (0, u "java/util/Collections$CheckedSortedSet"), (3, .class_ 316), (0, u "java/util/Collections$CheckedNavigableSet"), (3, .class_ 321), (0, u "java/util/Collections$CheckedRandomAccessList"), (3, .class_ 326), (0, u "java/util/Collections$CheckedList"), (1, .class_ 329), (0, u "java/util/Collections$CheckedMap"), (3, .class_ 334), (0, u "java/util/Collections$CheckedSortedMap"), (3, .class_ 339), (0, u "java/util/Collections$CheckedNavigableMap"), (4, .class_ 346), (1, u "java/util/Collections$EmptyIterator"), (3, .class_ 352), (1, u "java/util/Collections$EmptyListIterator"), (2, .class_ 357), (1, u "java/util/Collections$EmptyEnumeration"), (4, u "EMPTY_SET"), (0, u "Ljava/util/Set;"), (6, u "EMPTY_LIST"), (0, u "Ljava/util/List;"), (2, u "EMPTY_MAP"), (0, u "Ljava/util/Map;"), (4, .class_ 381), (0, u "java/util/Collections$SingletonSet"), (2, .class_ 385), (0, u "java/util/Collections$1"), (1, .class_ 388), (0, u "java/util/Collections$2"), (1, .class_ 391), (0, u "java/util/Collections$SingletonList"), (1, .class_ 394), (0, u "java/util/Collections$SingletonMap"), (22, .class_ 418), (0, u "java/util/Collections$CopiesList"), (4, .class_ 425), (1, u "java/util/Collections$ReverseComparator"), (8, .class_ 435), (0, u "java/util/Collections$ReverseComparator2"), (6, .class_ 443), (0, u "java/util/Collections$3"), (25, .class_ 470), (0, u "java/util/Collections$SetFromMap"), (2, .class_ 474), (0, u "java/util/Collections$SequencedSetFromMap"), (3, .class_ 479), (0, u "java/util/Collections$AsLIFOQueue"), (11, .class_ 492), (0, u "java/util/Collections$EmptySet"), (1, .class_ 495), (0, u "java/util/Collections$EmptyList"), (1, .class_ 498), (0, u "java/util/Collections$EmptyMap"), (1, u "BINARYSEARCH_THRESHOLD"), (0, u "I"), (2, u "REVERSE_THRESHOLD"), (1, u "SHUFFLE_THRESHOLD"), (1, u "FILL_THRESHOLD"), (1, u "ROTATE_THRESHOLD"), (1, u "COPY_THRESHOLD"), (1, u "REPLACEALL_THRESHOLD"), (1, u "INDEXOFSUBLIST_THRESHOLD"), (129, u "unmodifiableList"), (0, u "(Ljava/util/List;)Ljava/util/List;"), (202, .class_ 851), (0, u "java/util/Collections$CheckedMap$CheckedEntrySet"), (0, .class_ 853), (0, u "java/util/Collections$CheckedMap$CheckedEntrySet$CheckedEntry"), (0, .class_ 855), (0, u "java/util/Collections$CheckedMap$CheckedEntrySet$1"), (0, .class_ 857), (0, u "java/util/Collections$CheckedList$1"), (0, .class_ 859), (0, u "java/util/Collections$CheckedCollection$1"), (0, .class_ 861), (0, u "java/util/Collections$UnmodifiableNavigableMap$EmptyNavigableMap"), (0, .class_ 863), (0, u "java/util/Collections$UnmodifiableMap$UnmodifiableEntrySet"), (0, .class_ 865), (0, u "java/util/Collections$UnmodifiableMap$UnmodifiableEntrySet$UnmodifiableEntry"), (0, .class_ 867), (0, u "java/util/Collections$UnmodifiableMap$UnmodifiableEntrySet$UnmodifiableEntrySetSpliterator"), (0, .class_ 869), (0, u "java/util/Collections$UnmodifiableMap$UnmodifiableEntrySet$1"), (0, .class_ 871), (0, u "java/util/Collections$UnmodifiableList$1"), (0, .class_ 873), (0, u "java/util/Collections$UnmodifiableNavigableSet$EmptyNavigableSet"), (0, .class_ 875), (0, u "java/util/Collections$UnmodifiableCollection$1")] 57

def k16m0 : Method := { name := "<init>", desc := "()V", sig := { parameters := [], returnType := none }, accessFlags := 2, code := none }
def k16c1 : Code := { maxStack := 3, maxLocals := 1, code := jdk_79_method_35_code, exceptionTable := #[], attributes := #[] }
def k16m1 : Method := { name := "unmodifiableList", desc := "(Ljava/util/List;)Ljava/util/List;", sig := { parameters := [(.object "java/util/List")], returnType := some (.object "java/util/List") }, accessFlags := 9, code := some k16c1 }
/-- java/util/Collections -/
def k16 : Class := { plain "java/util/Collections" (some 0) with
  accessFlags := 33
  interfaces := #[]
  cf := some (fileOf pool16 19 #[.nestMembers #[478, 473, 469, 434, 423, 417, 393, 390, 380, 497, 494, 491, 355, 350, 344, 338, 333, 328, 850, 852, 854, 320, 325, 856, 315, 310, 305, 300, 287, 858, 284, 281, 278, 268, 271, 265, 262, 256, 250, 245, 860, 237, 231, 223, 862, 864, 866, 868, 215, 212, 870, 206, 872, 198, 190, 182, 174, 166, 874, 442, 387, 384]] #[{ accessFlags := 2, nameIndex := 5, descriptorIndex := 6, attributes := #[] }, { accessFlags := 9, nameIndex := 646, descriptorIndex := 647, attributes := #[] }] 33 2 #[] #[{ accessFlags := 26, nameIndex := 500, descriptorIndex := 501, attributes := #[] }, { accessFlags := 26, nameIndex := 504, descriptorIndex := 501, attributes := #[] }, { accessFlags := 26, nameIndex := 506, descriptorIndex := 501, attributes := #[] }, { accessFlags := 26, nameIndex := 508, descriptorIndex := 501, attributes := #[] }, { accessFlags := 26, nameIndex := 510, descriptorIndex := 501, attributes := #[] }, { accessFlags := 26, nameIndex := 512, descriptorIndex := 501, attributes := #[] }, { accessFlags := 26, nameIndex := 514, descriptorIndex := 501, attributes := #[] }, { accessFlags := 26, nameIndex := 516, descriptorIndex := 501, attributes := #[] }, { accessFlags := 10, nameIndex := 84, descriptorIndex := 85, attributes := #[] }, { accessFlags := 25, nameIndex := 362, descriptorIndex := 363, attributes := #[] }, { accessFlags := 25, nameIndex := 370, descriptorIndex := 371, attributes := #[] }, { accessFlags := 25, nameIndex := 374, descriptorIndex := 375, attributes := #[] }])
  fields := #[{ name := "BINARYSEARCH_THRESHOLD", type := .int, accessFlags := 26, slot := 0, constantValue := 0 }, { name := "REVERSE_THRESHOLD", type := .int, accessFlags := 26, slot := 1, constantValue := 0 }, { name := "SHUFFLE_THRESHOLD", type := .int, accessFlags := 26, slot := 2, constantValue := 0 }, { name := "FILL_THRESHOLD", type := .int, accessFlags := 26, slot := 3, constantValue := 0 }, { name := "ROTATE_THRESHOLD", type := .int, accessFlags := 26, slot := 4, constantValue := 0 }, { name := "COPY_THRESHOLD", type := .int, accessFlags := 26, slot := 5, constantValue := 0 }, { name := "REPLACEALL_THRESHOLD", type := .int, accessFlags := 26, slot := 6, constantValue := 0 }, { name := "INDEXOFSUBLIST_THRESHOLD", type := .int, accessFlags := 26, slot := 7, constantValue := 0 }, { name := "r", type := (.object "java/util/Random"), accessFlags := 10, slot := 8, constantValue := 0 }, { name := "EMPTY_SET", type := (.object "java/util/Set"), accessFlags := 25, slot := 9, constantValue := 0 }, { name := "EMPTY_LIST", type := (.object "java/util/List"), accessFlags := 25, slot := 10, constantValue := 0 }, { name := "EMPTY_MAP", type := (.object "java/util/Map"), accessFlags := 25, slot := 11, constantValue := 0 }]
  methods := #[k16m0, k16m1]
  instanceTypes := #[]
  staticTypes := #[.int, .int, .int, .int, .int, .int, .int, .int, (.object "java/util/Random"), (.object "java/util/Set"), (.object "java/util/List"), (.object "java/util/Map")]
  resolved := Array.replicate 933 none
  statics := none }

def pool17 : Array CpInfo := pool [(1, .methodref 2 3), (0, .class_ 4), (0, .nameAndType 5 6), (0, u "java/lang/Object"), (0, u "<init>"), (0, u "()V"), (3, .fieldref 11 12), (0, .class_ 13), (0, .nameAndType 14 15), (0, u "java/util/Collections$UnmodifiableCollection"), (0, u "c"), (0, u "Ljava/util/Collection;"), (1, .class_ 19), (1, u "java/util/Collection"), (51, .class_ 72), (0, u "java/io/Serializable"), (0, u "serialVersionUID"), (0, u "J"), (5, u "(Ljava/util/Collection;)V"), (51, .class_ 133), (0, u "java/util/Collections")] 2

def k17c0 : Code := { maxStack := 2, maxLocals := 2, code := jdk_119_method_1_code, exceptionTable := #[], attributes := #[] }
def k17m0 : Method := { name := "<init>", desc := "(Ljava/util/Collection;)V", sig := { parameters := [(.object "java/util/Collection")], returnType := none }, accessFlags := 0, code := some k17c0 }
/-- java/util/Collections$UnmodifiableCollection -/
def k17 : Class := { plain "java/util/Collections$UnmodifiableCollection" (some 0) with
  accessFlags := 32
  interfaces := #[5, 12]
  cf := some (fileOf pool17 11 #[.nestHost 132] #[{ accessFlags := 0, nameIndex := 5, descriptorIndex := 80, attributes := #[] }] 32 2 #[17, 71] #[{ accessFlags := 26, nameIndex := 73, descriptorIndex := 74, attributes := #[] }, { accessFlags := 16, nameIndex := 14, descriptorIndex := 15, attributes := #[] }])
  fields := #[{ name := "serialVersionUID", type := .long, accessFlags := 26, slot := 0, constantValue := 0 }, { name := "c", type := (.object "java/util/Collection"), accessFlags := 16, slot := 0, constantValue := 0 }]
  methods := #[k17m0]
  instanceTypes := #[(.object "java/util/Collection")]
  staticTypes := #[.long]
  resolved := Array.replicate 136 none
  statics := none }

def pool18 : Array CpInfo := pool [(1, .methodref 2 3), (0, .class_ 4), (0, .nameAndType 5 6), (0, u "java/util/Collections$UnmodifiableCollection"), (0, u "<init>"), (0, u "(Ljava/util/Collection;)V"), (0, .fieldref 8 9), (0, .class_ 10), (0, .nameAndType 11 12), (0, u "java/util/Collections$UnmodifiableList"), (0, u "list"), (0, u "Ljava/util/List;"), (1, .class_ 16), (1, u "java/util/List"), (37, u "(Ljava/util/List;)V"), (5, u "serialVersionUID"), (0, u "J"), (59, .class_ 122), (0, u "java/util/Collections")] 4

def k18c0 : Code := { maxStack := 2, maxLocals := 2, code := jdk_120_method_1_code, exceptionTable := #[], attributes := #[] }
def k18m0 : Method := { name := "<init>", desc := "(Ljava/util/List;)V", sig := { parameters := [(.object "java/util/List")], returnType := none }, accessFlags := 0, code := some k18c0 }
/-- java/util/Collections$UnmodifiableList -/
def k18 : Class := { plain "java/util/Collections$UnmodifiableList" (some 17) with
  accessFlags := 32
  interfaces := #[8]
  cf := some (fileOf pool18 8 #[.nestHost 121] #[{ accessFlags := 0, nameIndex := 5, descriptorIndex := 54, attributes := #[] }] 32 2 #[14] #[{ accessFlags := 26, nameIndex := 60, descriptorIndex := 61, attributes := #[] }, { accessFlags := 16, nameIndex := 11, descriptorIndex := 12, attributes := #[] }])
  fields := #[{ name := "serialVersionUID", type := .long, accessFlags := 26, slot := 0, constantValue := 0 }, { name := "list", type := (.object "java/util/List"), accessFlags := 16, slot := 1, constantValue := 0 }]
  methods := #[k18m0]
  instanceTypes := #[(.object "java/util/Collection"), (.object "java/util/List")]
  staticTypes := #[.long]
  resolved := Array.replicate 127 none
  mirror := some 3
  statics := none }

def pool19 : Array CpInfo := pool [(1, .methodref 2 3), (0, .class_ 4), (0, .nameAndType 5 6), (0, u "java/util/Collections$UnmodifiableList"), (0, u "<init>"), (0, u "(Ljava/util/List;)V"), (0, .class_ 8), (0, u "java/util/Collections$UnmodifiableRandomAccessList"), (11, .class_ 21), (0, u "java/util/RandomAccess"), (0, u "serialVersionUID"), (0, u "J"), (23, .class_ 48), (0, u "java/util/Collections")] 3

def k19c0 : Code := { maxStack := 2, maxLocals := 2, code := jdk_121_method_1_code, exceptionTable := #[], attributes := #[] }
def k19m0 : Method := { name := "<init>", desc := "(Ljava/util/List;)V", sig := { parameters := [(.object "java/util/List")], returnType := none }, accessFlags := 0, code := some k19c0 }
/-- java/util/Collections$UnmodifiableRandomAccessList -/
def k19 : Class := { plain "java/util/Collections$UnmodifiableRandomAccessList" (some 18) with
  accessFlags := 32
  interfaces := #[10]
  cf := some (fileOf pool19 7 #[.nestHost 47] #[{ accessFlags := 0, nameIndex := 5, descriptorIndex := 6, attributes := #[] }] 32 2 #[20] #[{ accessFlags := 26, nameIndex := 22, descriptorIndex := 23, attributes := #[] }])
  fields := #[{ name := "serialVersionUID", type := .long, accessFlags := 26, slot := 0, constantValue := 0 }]
  methods := #[k19m0]
  instanceTypes := #[(.object "java/util/Collection"), (.object "java/util/List")]
  staticTypes := #[.long]
  resolved := Array.replicate 52 none
  mirror := some 4
  statics := none }

def pool20 : Array CpInfo := pool [(1, u "java/lang/Class"), (0, .class_ 1), (0, u "java/lang/Object"), (0, .class_ 3)] 0

/-- java/lang/Class -/
def k20 : Class := { plain "java/lang/Class" (some 0) with
  accessFlags := 49
  interfaces := #[]
  cf := some (fileOf pool20 2 #[] #[] 49 4 #[] #[])
  fields := #[]
  methods := #[]
  instanceTypes := #[]
  staticTypes := #[]
  resolved := Array.replicate 5 none
  statics := none }

/-- the primitive byte -/
def k21 : Class := { plain "byte" none with kind := .primitive 'B', accessFlags := 0x411 }
/-- [B -/
def k22 : Class := { plain "[B" (some 0) with kind := .array 21 .byte, interfaces := #[11, 12], accessFlags := 1041 }

/-- the primitive int -/
def k23 : Class := { plain "int" none with kind := .primitive 'I', accessFlags := 0x411 }
/-- [I -/
def k24 : Class := { plain "[I" (some 0) with kind := .array 23 .int, interfaces := #[11, 12], accessFlags := 1041 }

/-- [Ljava/lang/Object; -/
def k25 : Class := { plain "[Ljava/lang/Object;" (some 0) with kind := .array 0 (.object "java/lang/Object"), interfaces := #[11, 12], accessFlags := 1041, mirror := some 1 }

def heap : Heap := #[{ cls := 13, slots := #[.long 0, .int 0, .ref 5, .ref 6], vm := .statics 13 },
  { cls := 20, slots := #[], vm := .mirror 25 },
  { cls := 20, slots := #[], vm := .mirror 13 },
  { cls := 20, slots := #[], vm := .mirror 18 },
  { cls := 20, slots := #[], vm := .mirror 19 },
  { cls := 25, slots := #[], vm := .none },
  { cls := 25, slots := #[], vm := .none }]
def classes : Array Class := #[k0, k1, k2, k3, k4, k5, k6, k7, k8, k9, k10, k11, k12, k13, k14, k15, k16, k17, k18, k19, k20, k21, k22, k23, k24, k25]
def interned : List (Array UInt16 × Addr) := []
def slotsUsed : Nat := 4
def theMethod : MethodId := ⟨1, 1⟩
def args0 : Array Value := #[.int 5, .int 6, .long 7, .int 8]
def aboutOver (below : List Frame) : State where
  vm := { classes := classes, interned := interned.toArray }
  heap := heap
  slotsUsed := slotsUsed
  threads := #[{ frames := .invoking theMethod args0 :: below }]
def below0 : List Frame := [.native { method := ⟨0, 0⟩, args := #[] }]
def about1 : State := aboutOver below0
def p0 : Program := .bare "" "" ""
def e0 : Env := launch0.env 0 0 0
theorem w_frames : about1.frames = Frame.invoking theMethod args0 :: below0 := rfl
set_option maxRecDepth 65536 in
theorem w_args : argsFit about1.vm theMethod args0 = true := by decide +kernel
set_option maxRecDepth 65536 in
theorem w_heap : heapFits about1 = true := by decide +kernel
set_option maxRecDepth 65536 in
theorem w_runnable : about1.curStatus? = some .runnable := by decide +kernel
set_option maxRecDepth 65536 in
theorem w_alone : about1.alone = true := by decide +kernel
set_option maxRecDepth 65536 in
theorem w_named : about1.methodNamed? x = some theMethod := by decide +kernel
set_option maxRecDepth 65536 in
theorem w_hears : about1.hears theMethod below0 = true := by decide +kernel
set_option maxRecDepth 65536 in
theorem w_ripe : about1.ripe theMethod args0 below0 = true := by decide +kernel
theorem w_running : about1.status = .running := rfl
set_option maxRecDepth 65536 in
theorem w_room : about1.hasRoom e0.platform room_1 = true :=
  launch0.hasRoom_least _ room_1 (by decide +kernel) (by decide +kernel) (by decide +kernel) (by decide +kernel) (by decide +kernel) (by decide +kernel)
theorem allAtoms_all (ts : List Jvm.Cond) (a : Array Jvm.Value) (st : Jvm.State) : (allAtoms ts).before a st = ts.all (fun c => c.before a st) := by
  induction ts with
  | nil => rfl
  | cons c t ih =>
    show (Jvm.Cond.and c (allAtoms t)).before a st = _
    rw [Jvm.Cond.before_and, ih, List.all_cons]
def words1 : List Jvm.Cond := Jvm.Cond.code x code maxLocals ret :: tables_1
/-- a 'code' word, met by the world's own term for the bytes: nothing is compared byte by byte -/
theorem code_word {y : MethodName} {bytes : ByteArray} {mx : Nat} {rt : Option FieldType} {a : Array Value} {s : State} {m : MethodId} {meth : Method} {c : Code} (h1 : s.methodNamed? y = some m) (h2 : s.vm.method? m = some meth) (h3 : meth.code = some c) (h4 : c.code = bytes)
    (h5 : (c.maxLocals == mx && c.exceptionTable.isEmpty && decide (c.maxStack ≤ mostOperands) && decide (meth.sig.returnType = rt) && !meth.locks && decide (parseMethodDescriptor y.desc = some meth.sig)) = true) : (Jvm.Cond.code y bytes mx rt).before a s = true := by
  simp only [Bool.and_eq_true, beq_iff_eq, Bool.not_eq_true', decide_eq_true_eq] at h5
  obtain ⟨⟨⟨⟨⟨g1, g2⟩, g3⟩, g4⟩, g5⟩, g6⟩ := h5
  simp [Cond.before, Cond.holds, Cond.value, h1, h2, h3, h4, g1, g2, g3, g4, g5, g6]
def isCode : Jvm.Cond → Bool
  | .code _ _ _ _ => true
  | _ => false
theorem all_split {L : List Jvm.Cond} {P : Jvm.Cond → Bool} (h1 : L.all (fun c => isCode c || P c) = true) (h2 : ∀ c ∈ L.filter isCode, P c = true) : L.all P = true := by
  refine List.all_eq_true.mpr fun c hc => ?_
  have h := List.all_eq_true.mp h1 c hc
  rcases Bool.eq_false_or_eq_true (isCode c) with hi | hi
  · exact h2 c (List.mem_filter.mpr ⟨hc, hi⟩)
  · simpa [hi] using h
set_option maxRecDepth 65536 in
theorem w_c0 : (Jvm.Cond.code x code maxLocals ret).before args0 about1 = true := code_word (m := ⟨1, 1⟩) (meth := k1m1) (c := k1c1) (by decide +kernel) rfl rfl rfl (by decide +kernel)
set_option maxRecDepth 65536 in
theorem w_c1 : (Jvm.Cond.code ({ cls := "java/lang/Math", name := "max", desc := "(II)I" } : Jvm.MethodName) jdk_29_method_65_code (2 : Nat) (Option.some Jvm.ClassFile.FieldType.int)).before args0 about1 = true := code_word (m := ⟨2, 1⟩) (meth := k2m1) (c := k2c1) (by decide +kernel) rfl rfl rfl (by decide +kernel)
set_option maxRecDepth 65536 in
theorem w_c2 : (Jvm.Cond.code ({ cls := "java/util/ArrayList", name := "<init>", desc := "()V" } : Jvm.MethodName) jdk_38_method_2_code (1 : Nat) (Option.none : Option Jvm.ClassFile.FieldType)).before args0 about1 = true := code_word (m := ⟨13, 0⟩) (meth := k13m0) (c := k13c0) (by decide +kernel) rfl rfl rfl (by decide +kernel)
set_option maxRecDepth 65536 in
theorem w_c3 : (Jvm.Cond.code ({ cls := "java/util/AbstractList", name := "<init>", desc := "()V" } : Jvm.MethodName) jdk_39_method_1_code (1 : Nat) (Option.none : Option Jvm.ClassFile.FieldType)).before args0 about1 = true := code_word (m := ⟨9, 0⟩) (meth := k9m0) (c := k9c0) (by decide +kernel) rfl rfl rfl (by decide +kernel)
set_option maxRecDepth 65536 in
theorem w_c4 : (Jvm.Cond.code ({ cls := "java/util/AbstractCollection", name := "<init>", desc := "()V" } : Jvm.MethodName) jdk_22_method_1_code (1 : Nat) (Option.none : Option Jvm.ClassFile.FieldType)).before args0 about1 = true := code_word (m := ⟨6, 0⟩) (meth := k6m0) (c := k6c0) (by decide +kernel) rfl rfl rfl (by decide +kernel)
set_option maxRecDepth 65536 in
theorem w_c5 : (Jvm.Cond.code ({ cls := "java/lang/Object", name := "<init>", desc := "()V" } : Jvm.MethodName) object_method_1_code (1 : Nat) (Option.none : Option Jvm.ClassFile.FieldType)).before args0 about1 = true := code_word (m := ⟨0, 0⟩) (meth := k0m0) (c := k0c0) (by decide +kernel) rfl rfl rfl (by decide +kernel)
set_option maxRecDepth 65536 in
theorem w_c6 : (Jvm.Cond.code ({ cls := "com/example/vyasa/vyasa/Page", name := "<init>", desc := "(Ljava/util/List;JII)V" } : Jvm.MethodName) prog_22_method_1_code (6 : Nat) (Option.none : Option Jvm.ClassFile.FieldType)).before args0 about1 = true := code_word (m := ⟨3, 0⟩) (meth := k3m0) (c := k3c0) (by decide +kernel) rfl rfl rfl (by decide +kernel)
set_option maxRecDepth 65536 in
theorem w_c7 : (Jvm.Cond.code ({ cls := "java/util/ArrayList", name := "<init>", desc := "(Ljava/util/Collection;)V" } : Jvm.MethodName) jdk_38_method_3_code (3 : Nat) (Option.none : Option Jvm.ClassFile.FieldType)).before args0 about1 = true := code_word (m := ⟨13, 1⟩) (meth := k13m1) (c := k13c1) (by decide +kernel) rfl rfl rfl (by decide +kernel)
set_option maxRecDepth 65536 in
theorem w_c8 : (Jvm.Cond.code ({ cls := "java/util/ArrayList", name := "toArray", desc := "()[Ljava/lang/Object;" } : Jvm.MethodName) jdk_38_method_16_code (1 : Nat) (Option.some (Jvm.ClassFile.FieldType.array (Jvm.ClassFile.FieldType.object "java/lang/Object")))).before args0 about1 = true := code_word (m := ⟨13, 2⟩) (meth := k13m2) (c := k13c2) (by decide +kernel) rfl rfl rfl (by decide +kernel)
set_option maxRecDepth 65536 in
theorem w_c9 : (Jvm.Cond.code ({ cls := "java/util/Arrays", name := "copyOf", desc := "([Ljava/lang/Object;I)[Ljava/lang/Object;" } : Jvm.MethodName) jdk_65_method_119_code (2 : Nat) (Option.some (Jvm.ClassFile.FieldType.array (Jvm.ClassFile.FieldType.object "java/lang/Object")))).before args0 about1 = true := code_word (m := ⟨14, 1⟩) (meth := k14m1) (c := k14c1) (by decide +kernel) rfl rfl rfl (by decide +kernel)
set_option maxRecDepth 65536 in
theorem w_c10 : (Jvm.Cond.code ({ cls := "java/util/Arrays", name := "copyOf", desc := "([Ljava/lang/Object;ILjava/lang/Class;)[Ljava/lang/Object;" } : Jvm.MethodName) jdk_65_method_120_code (4 : Nat) (Option.some (Jvm.ClassFile.FieldType.array (Jvm.ClassFile.FieldType.object "java/lang/Object")))).before args0 about1 = true := code_word (m := ⟨14, 2⟩) (meth := k14m2) (c := k14c2) (by decide +kernel) rfl rfl rfl (by decide +kernel)
set_option maxRecDepth 65536 in
theorem w_c11 : (Jvm.Cond.code ({ cls := "java/lang/Math", name := "min", desc := "(II)I" } : Jvm.MethodName) jdk_29_method_69_code (2 : Nat) (Option.some Jvm.ClassFile.FieldType.int)).before args0 about1 = true := code_word (m := ⟨2, 2⟩) (meth := k2m2) (c := k2c2) (by decide +kernel) rfl rfl rfl (by decide +kernel)
set_option maxRecDepth 65536 in
theorem w_c12 : (Jvm.Cond.code ({ cls := "java/util/Collections", name := "unmodifiableList", desc := "(Ljava/util/List;)Ljava/util/List;" } : Jvm.MethodName) jdk_79_method_35_code (1 : Nat) (Option.some (Jvm.ClassFile.FieldType.object "java/util/List"))).before args0 about1 = true := code_word (m := ⟨16, 1⟩) (meth := k16m1) (c := k16c1) (by decide +kernel) rfl rfl rfl (by decide +kernel)
set_option maxRecDepth 65536 in
theorem w_c13 : (Jvm.Cond.code ({ cls := "java/util/Collections$UnmodifiableRandomAccessList", name := "<init>", desc := "(Ljava/util/List;)V" } : Jvm.MethodName) jdk_121_method_1_code (2 : Nat) (Option.none : Option Jvm.ClassFile.FieldType)).before args0 about1 = true := code_word (m := ⟨19, 0⟩) (meth := k19m0) (c := k19c0) (by decide +kernel) rfl rfl rfl (by decide +kernel)
set_option maxRecDepth 65536 in
theorem w_c14 : (Jvm.Cond.code ({ cls := "java/util/Collections$UnmodifiableList", name := "<init>", desc := "(Ljava/util/List;)V" } : Jvm.MethodName) jdk_120_method_1_code (2 : Nat) (Option.none : Option Jvm.ClassFile.FieldType)).before args0 about1 = true := code_word (m := ⟨18, 0⟩) (meth := k18m0) (c := k18c0) (by decide +kernel) rfl rfl rfl (by decide +kernel)
set_option maxRecDepth 65536 in
theorem w_c15 : (Jvm.Cond.code ({ cls := "java/util/Collections$UnmodifiableCollection", name := "<init>", desc := "(Ljava/util/Collection;)V" } : Jvm.MethodName) jdk_119_method_1_code (2 : Nat) (Option.none : Option Jvm.ClassFile.FieldType)).before args0 about1 = true := code_word (m := ⟨17, 0⟩) (meth := k17m0) (c := k17c0) (by decide +kernel) rfl rfl rfl (by decide +kernel)
set_option maxRecDepth 65536 in
theorem w_c16 : (Jvm.Cond.code ({ cls := "com/example/vyasa/vyasa/Page", name := "hasNext", desc := "()Z" } : Jvm.MethodName) prog_22_method_7_code (1 : Nat) (Option.some Jvm.ClassFile.FieldType.boolean)).before args0 about1 = true := code_word (m := ⟨3, 1⟩) (meth := k3m1) (c := k3c1) (by decide +kernel) rfl rfl rfl (by decide +kernel)
def codes1 : List Jvm.Cond := [Jvm.Cond.code x code maxLocals ret, Jvm.Cond.code ({ cls := "java/lang/Math", name := "max", desc := "(II)I" } : Jvm.MethodName) jdk_29_method_65_code (2 : Nat) (Option.some Jvm.ClassFile.FieldType.int), Jvm.Cond.code ({ cls := "java/util/ArrayList", name := "<init>", desc := "()V" } : Jvm.MethodName) jdk_38_method_2_code (1 : Nat) (Option.none : Option Jvm.ClassFile.FieldType), Jvm.Cond.code ({ cls := "java/util/AbstractList", name := "<init>", desc := "()V" } : Jvm.MethodName) jdk_39_method_1_code (1 : Nat) (Option.none : Option Jvm.ClassFile.FieldType), Jvm.Cond.code ({ cls := "java/util/AbstractCollection", name := "<init>", desc := "()V" } : Jvm.MethodName) jdk_22_method_1_code (1 : Nat) (Option.none : Option Jvm.ClassFile.FieldType), Jvm.Cond.code ({ cls := "java/lang/Object", name := "<init>", desc := "()V" } : Jvm.MethodName) object_method_1_code (1 : Nat) (Option.none : Option Jvm.ClassFile.FieldType), Jvm.Cond.code ({ cls := "com/example/vyasa/vyasa/Page", name := "<init>", desc := "(Ljava/util/List;JII)V" } : Jvm.MethodName) prog_22_method_1_code (6 : Nat) (Option.none : Option Jvm.ClassFile.FieldType), Jvm.Cond.code ({ cls := "java/util/ArrayList", name := "<init>", desc := "(Ljava/util/Collection;)V" } : Jvm.MethodName) jdk_38_method_3_code (3 : Nat) (Option.none : Option Jvm.ClassFile.FieldType), Jvm.Cond.code ({ cls := "java/util/ArrayList", name := "toArray", desc := "()[Ljava/lang/Object;" } : Jvm.MethodName) jdk_38_method_16_code (1 : Nat) (Option.some (Jvm.ClassFile.FieldType.array (Jvm.ClassFile.FieldType.object "java/lang/Object"))), Jvm.Cond.code ({ cls := "java/util/Arrays", name := "copyOf", desc := "([Ljava/lang/Object;I)[Ljava/lang/Object;" } : Jvm.MethodName) jdk_65_method_119_code (2 : Nat) (Option.some (Jvm.ClassFile.FieldType.array (Jvm.ClassFile.FieldType.object "java/lang/Object"))), Jvm.Cond.code ({ cls := "java/util/Arrays", name := "copyOf", desc := "([Ljava/lang/Object;ILjava/lang/Class;)[Ljava/lang/Object;" } : Jvm.MethodName) jdk_65_method_120_code (4 : Nat) (Option.some (Jvm.ClassFile.FieldType.array (Jvm.ClassFile.FieldType.object "java/lang/Object"))), Jvm.Cond.code ({ cls := "java/lang/Math", name := "min", desc := "(II)I" } : Jvm.MethodName) jdk_29_method_69_code (2 : Nat) (Option.some Jvm.ClassFile.FieldType.int), Jvm.Cond.code ({ cls := "java/util/Collections", name := "unmodifiableList", desc := "(Ljava/util/List;)Ljava/util/List;" } : Jvm.MethodName) jdk_79_method_35_code (1 : Nat) (Option.some (Jvm.ClassFile.FieldType.object "java/util/List")), Jvm.Cond.code ({ cls := "java/util/Collections$UnmodifiableRandomAccessList", name := "<init>", desc := "(Ljava/util/List;)V" } : Jvm.MethodName) jdk_121_method_1_code (2 : Nat) (Option.none : Option Jvm.ClassFile.FieldType), Jvm.Cond.code ({ cls := "java/util/Collections$UnmodifiableList", name := "<init>", desc := "(Ljava/util/List;)V" } : Jvm.MethodName) jdk_120_method_1_code (2 : Nat) (Option.none : Option Jvm.ClassFile.FieldType), Jvm.Cond.code ({ cls := "java/util/Collections$UnmodifiableCollection", name := "<init>", desc := "(Ljava/util/Collection;)V" } : Jvm.MethodName) jdk_119_method_1_code (2 : Nat) (Option.none : Option Jvm.ClassFile.FieldType), Jvm.Cond.code ({ cls := "com/example/vyasa/vyasa/Page", name := "hasNext", desc := "()Z" } : Jvm.MethodName) prog_22_method_7_code (1 : Nat) (Option.some Jvm.ClassFile.FieldType.boolean)]
set_option maxRecDepth 65536 in
theorem codes_eq : words1.filter isCode = codes1 := rfl
theorem w_codes : ∀ c ∈ words1.filter isCode, c.before args0 about1 = true := by
  rw [codes_eq]
  intro c hc
  simp only [codes1, List.mem_cons, List.not_mem_nil, or_false] at hc
  rcases hc with rfl | rfl | rfl | rfl | rfl | rfl | rfl | rfl | rfl | rfl | rfl | rfl | rfl | rfl | rfl | rfl | rfl
  · exact w_c0
  · exact w_c1
  · exact w_c2
  · exact w_c3
  · exact w_c4
  · exact w_c5
  · exact w_c6
  · exact w_c7
  · exact w_c8
  · exact w_c9
  · exact w_c10
  · exact w_c11
  · exact w_c12
  · exact w_c13
  · exact w_c14
  · exact w_c15
  · exact w_c16
set_option maxRecDepth 65536 in
theorem w_t1 : (words1.take 24).all (fun c => isCode c || c.before args0 about1) = true := by decide +kernel
set_option maxRecDepth 65536 in
theorem w_t2 : ((words1.drop 24).take 24).all (fun c => isCode c || c.before args0 about1) = true := by decide +kernel
set_option maxRecDepth 65536 in
theorem w_t3 : (((words1.drop 24).drop 24).take 24).all (fun c => isCode c || c.before args0 about1) = true := by decide +kernel
set_option maxRecDepth 65536 in
theorem w_t4 : ((((words1.drop 24).drop 24).drop 24).take 24).all (fun c => isCode c || c.before args0 about1) = true := by decide +kernel
set_option maxRecDepth 65536 in
theorem w_t5 : (((((words1.drop 24).drop 24).drop 24).drop 24).take 24).all (fun c => isCode c || c.before args0 about1) = true := by decide +kernel
set_option maxRecDepth 65536 in
theorem w_t6 : (((((words1.drop 24).drop 24).drop 24).drop 24).drop 24).all (fun c => isCode c || c.before args0 about1) = true := by decide +kernel
theorem w_tables : (allAtoms (Jvm.Cond.code x code maxLocals ret :: tables_1)).before args0 about1 = true := by
  rw [allAtoms_all]
  show words1.all (fun c => c.before args0 about1) = true
  refine all_split ?_ w_codes
  rw [← List.take_append_drop 24 words1, List.all_append, w_t1, ← List.take_append_drop 24 (words1.drop 24), List.all_append, w_t2, ← List.take_append_drop 24 ((words1.drop 24).drop 24), List.all_append, w_t3, ← List.take_append_drop 24 (((words1.drop 24).drop 24).drop 24), List.all_append, w_t4, ← List.take_append_drop 24 ((((words1.drop 24).drop 24).drop 24).drop 24), List.all_append, w_t5, w_t6]
  rfl
set_option maxRecDepth 65536 in
theorem w_rest : rest_1_c.before args0 about1 = true := by decide +kernel
set_option maxRecDepth 65536 in
theorem w_case : (Jvm.Cond.and given_1 narrow_1).before args0 about1 = true := by decide +kernel
theorem w_applies : (headSpec (Jvm.Cond.code x code maxLocals ret :: tables_1) room_1).applies x e0.platform about1 = true :=
  (Spec.applies_iff w_frames).mpr ⟨w_running, w_runnable, w_alone, w_named, w_hears, w_ripe, w_room, w_tables⟩
theorem atStart : AtStart classFile x code maxLocals ret World_1 tables_1 room_1 Calls_1 rest_1 Pre_1 launch0 p0 e0 about1 theMethod args0 below0 :=
  ⟨lists_1, trivial, launch0.admits_env _ _ _, launch0.least_env, fairChoices_fair.cas, fairChoices_fair.clock, w_frames, w_args, w_heap, w_applies, ⟨⟨25, k25, 1, by decide +kernel, rfl, rfl, _, rfl, rfl⟩, ⟨⟨13, k13, 2, by decide +kernel, rfl, rfl, _, rfl, rfl⟩, ⟨⟨18, k18, 3, by decide +kernel, rfl, rfl, _, rfl, rfl⟩, ⟨⟨19, k19, 4, by decide +kernel, rfl, rfl, _, rfl, rfl⟩, trivial⟩⟩⟩⟩, w_rest, w_case⟩
end start1
theorem witness_1 : WitnessClaimed_1 := ⟨start1.p0, start1.e0, start1.about1, start1.theMethod, start1.args0, start1.below0, start1.atStart⟩
end Jvm.Pilot.@@N@@
