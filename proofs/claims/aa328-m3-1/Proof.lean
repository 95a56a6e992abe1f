import JvmDerived
import JvmDerived.Pilot.@@N@@Statement
import JvmDerived.Pilot.@@N@@Code
set_option linter.unusedVariables false
set_option linter.unusedSimpArgs false
namespace Jvm.Pilot.@@N@@
open Jvm Jvm.ClassFile Sem Op Lib Jvm.Free Jvm.Stand Jvm.LawKit Jvm.RoadKit Bundle Jvm.Pilot.@@N@@.Jvm.D
section OwnGo
variable {p : Program} {l : Launch} {e : Env} {R : Room} {s : State} {m : MethodId} {args : Array Value} {below : List Frame} {meth : Method} {c : Code} {T : State} {locs : List Loc} {cells slots : Nat} {Q : Option Value → Heap → List Loc → Prop} {kc ks : Nat}
/-- from this state the body runs to its return, and Q holds of what it leaves -/
def own_Go (p : Program) (e : Env) (below : List Frame) (s : State) (Q : Option Value → Heap → List Loc → Prop) (kc ks : Nat) (S : State) : Prop :=
  ∃ s₂ o, Steps p.tables e below S s₂ ∧ s₂.status = .running ∧ Ended s₂ below o ∧ ∃ v L, o = .returned v ∧ Q v s₂.heap L ∧ FrameEnd s o s₂ L kc ks
theorem own_st {A B : State} (f : ∀ t, Steps p.tables e below A t → Steps p.tables e below B t) (h : own_Go p e below s Q kc ks A) : own_Go p e below s Q kc ks B := by
  obtain ⟨s₂, o, h1, h2⟩ := h
  exact ⟨s₂, o, f _ h1, h2⟩
theorem own_mono {S : State} {Q' : Option Value → Heap → List Loc → Prop} (h : own_Go p e below s Q kc ks S) (f : ∀ v h L, Q v h L → Q' v h L) : own_Go p e below s Q' kc ks S := by
  obtain ⟨s₂, o, h1, h2, h3, v, L, h4, h5, h6⟩ := h
  exact ⟨s₂, o, h1, h2, h3, v, L, h4, f _ _ _ h5, h6⟩
theorem own_retN (X : Stand p l e R s m args below meth c T locs cells slots) (hx : p.tables.exec = Jvm.exec) (hlk : meth.locks = false) {pc : Nat} {Ls : Array Slot} {z : Int32} {t : FieldType} {rest : List Value} (hret : meth.sig.returnType = some t) (ht : t = .boolean ∨ t = .byte ∨ t = .char ∨ t = .short)
    (hd : decode c.code pc = .ok (.ireturn, 1)) (hq : Q (some (.int (nar t z))) T.heap locs) (hc : cells ≤ kc) (hs : slots ≤ ks) : own_Go p e below s Q kc ks (T.setTop (mkF m pc Ls (.int z :: rest))) := by
  obtain ⟨fs, hr, hrun, hended, hW, hsame⟩ := X.leave (v := some (.int (nar t z))) (fun h => by rw [hret] at h; cases h) hlk
  exact ⟨_, _, retN X hx hret ht hd hr, hrun, hended, _, _, rfl, hq, ⟨_, rfl⟩, hW, hsame.mono hc hs⟩
theorem own_retI (X : Stand p l e R s m args below meth c T locs cells slots) (hx : p.tables.exec = Jvm.exec) (hlk : meth.locks = false) {pc : Nat} {Ls : Array Slot} {z : Int32} {rest : List Value} (hret : meth.sig.returnType = some .int)
    (hd : decode c.code pc = .ok (.ireturn, 1)) (hq : Q (some (.int z)) T.heap locs) (hc : cells ≤ kc) (hs : slots ≤ ks) : own_Go p e below s Q kc ks (T.setTop (mkF m pc Ls (.int z :: rest))) := by
  obtain ⟨fs, hr, hrun, hended, hW, hsame⟩ := X.leave (v := some (.int z)) (fun h => by rw [hret] at h; cases h) hlk
  exact ⟨_, _, retOut X hx hret rfl (Or.inl ⟨rfl, Or.inl rfl, z, rfl⟩) hd hr, hrun, hended, _, _, rfl, hq, ⟨_, rfl⟩, hW, hsame.mono hc hs⟩
theorem own_retJ (X : Stand p l e R s m args below meth c T locs cells slots) (hx : p.tables.exec = Jvm.exec) (hlk : meth.locks = false) {pc : Nat} {Ls : Array Slot} {z : Int64} {rest : List Value} (hret : meth.sig.returnType = some .long)
    (hd : decode c.code pc = .ok (.lreturn, 1)) (hq : Q (some (.long z)) T.heap locs) (hc : cells ≤ kc) (hs : slots ≤ ks) : own_Go p e below s Q kc ks (T.setTop (mkF m pc Ls (.long z :: rest))) := by
  obtain ⟨fs, hr, hrun, hended, hW, hsame⟩ := X.leave (v := some (.long z)) (fun h => by rw [hret] at h; cases h) hlk
  exact ⟨_, _, retOut X hx hret rfl (Or.inr (Or.inl ⟨rfl, rfl, z, rfl⟩)) hd hr, hrun, hended, _, _, rfl, hq, ⟨_, rfl⟩, hW, hsame.mono hc hs⟩
theorem own_retA (X : Stand p l e R s m args below meth c T locs cells slots) (hx : p.tables.exec = Jvm.exec) (hlk : meth.locks = false) {pc : Nat} {Ls : Array Slot} {w : Value} {t : FieldType} {rest : List Value} (hret : meth.sig.returnType = some t) (ht : t.isReference = true) (hw : w.isRef = true)
    (hd : decode c.code pc = .ok (.areturn, 1)) (hq : Q (some w) T.heap locs) (hc : cells ≤ kc) (hs : slots ≤ ks) : own_Go p e below s Q kc ks (T.setTop (mkF m pc Ls (w :: rest))) := by
  obtain ⟨fs, hr, hrun, hended, hW, hsame⟩ := X.leave (v := some w) (fun h => by rw [hret] at h; cases h) hlk
  exact ⟨_, _, retOut X hx hret (by rcases ref_cases hw with rfl | ⟨a, rfl⟩ <;> cases t <;> first | rfl | cases ht) (Or.inr (Or.inr (Or.inr (Or.inr ⟨rfl, ht, hw⟩)))) hd hr, hrun, hended, _, _, rfl, hq, ⟨_, rfl⟩, hW, hsame.mono hc hs⟩
theorem own_retV (X : Stand p l e R s m args below meth c T locs cells slots) (hx : p.tables.exec = Jvm.exec) (hlk : meth.locks = false) {pc : Nat} {Ls : Array Slot} (hret : meth.sig.returnType = none)
    (hd : decode c.code pc = .ok (.return_, 1)) (hq : Q none T.heap locs) (hc : cells ≤ kc) (hs : slots ≤ ks) : own_Go p e below s Q kc ks (T.setTop (mkF m pc Ls [])) := by
  obtain ⟨fs, hr, hrun, hended, hW, hsame⟩ := X.leave (v := none) (fun _ => rfl) hlk
  exact ⟨_, _, X.returnOut hx hret hd hr, hrun, hended, _, _, rfl, hq, ⟨_, rfl⟩, hW, hsame.mono hc hs⟩
end OwnGo
section OwnWords
variable {args : Array Value} {s : State} {t i : Term} {a b : Addr} {C n d : String} {k : Int32} {cl : Cell} {ty : FieldType}
theorem own_fldI (ev : t.eval args s none [] s = some (.ref a)) (h : (Jvm.Cond.eq (Term.field t C n d) (Term.int k)).value args s none s [] = some true) : Fld s s.heap a C n d (.int k) := by
  have e1 := fld_at (C := C) (n := n) (dd := d) ev
  have e2 := Term.int_eval (args := args) (first := s) (o := none) (idx := []) (s := s) k
  refine Fld.start ?_
  cases hv : s.fieldOf? a C n d with
  | none => rw [hv] at e1; simp [Jvm.Cond.value, e1] at h
  | some v => rw [hv] at e1; cases v <;> simp [Jvm.Cond.value, e1, e2] at h; rw [h]
theorem own_len (ev : t.eval args s none [] s = some (.ref a)) (A : Arr s s.heap a cl ty) (h : (Jvm.Cond.eq (Term.length t) (Term.int k)).value args s none s [] = some true) : cl.slots.size < 2 ^ 31 ∧ cl.slots.size.toInt32 = k := by
  have e2 := Term.int_eval (args := args) (first := s) (o := none) (idx := []) (s := s) k
  have e0 := A.fin (Vm.Alike.refl _)
  by_cases hl : cl.slots.size < 2 ^ 31
  · have e1 := len_f ev e0 hl
    simp [Jvm.Cond.value, e1, e2] at h
    exact ⟨hl, h⟩
  · have e1 : (Term.length t).eval args s none [] s = none := by simp [Term.eval, ev, e0]; omega
    simp [Jvm.Cond.value, e1] at h
theorem own_elem {v : Value} (ev : t.eval args s none [] s = some (.ref a)) (A : Arr s s.heap a cl ty) {u : Term} (eu : u.eval args s none [] s = some v) (hv : v.isRef = true) (h : (Jvm.Cond.eq (Term.elem t (Term.int k)) u).value args s none s [] = some true) : cl.slots[k.toNatClampNeg]? = some v := by
  have e2 := Term.int_eval (args := args) (first := s) (o := none) (idx := []) (s := s) k
  obtain ⟨x, y, hx, hy, -, -⟩ := cmp_v (Or.inl h)
  cases eu.symm.trans hy
  obtain ⟨-, q⟩ := elem_in hx ev e2 A.1
  have hk : x.isRef = true := by
    cases x <;> rcases ref_cases hv with rfl | ⟨z, rfl⟩ <;> simp [Jvm.Cond.value, hx, hy] at h ⊢ <;> rfl
  rw [q, gotT (eq_R hx hy hk hv) h]
theorem own_elemR (ev : t.eval args s none [] s = some (.ref a)) (A : Arr s s.heap a cl ty) {u : Term} (eu : u.eval args s none [] s = some (.ref b)) (h : (Jvm.Cond.eq (Term.elem t (Term.int k)) u).value args s none s [] = some true) : cl.slots[k.toNatClampNeg]? = some (.ref b) := own_elem ev A eu rfl h
theorem own_elemN (ev : t.eval args s none [] s = some (.ref a)) (A : Arr s s.heap a cl ty) (h : (Jvm.Cond.eq (Term.elem t (Term.int k)) .null).value args s none s [] = some true) : cl.slots[k.toNatClampNeg]? = some .null := own_elem ev A null_at rfl h
end OwnWords
section OwnMore
theorem own_privSel {s : State} {args : Array Value} {y z z' : MethodName} {C : String} (hs : (Jvm.Cond.selects C z' z).before args s = true) (e : z.cls = y.cls) (hpriv : s.PrivateAt y) (hinst : (Jvm.Cond.instanceMethod y).before args s = true) (hy : y.cls ≠ "java/lang/invoke/MethodHandle" ∧ y.cls ≠ "java/lang/invoke/VarHandle") : (Jvm.Cond.selects y.cls y y).before args s = true := by
  obtain ⟨c, r, m, -, -, h3, -, mk, h5, h6⟩ := Cond.selects_spec hs
  exact selects_self_of_private (e ▸ findClass_of_methodNamed h3) h5 h6 hpriv hinst hy
theorem own_nar_boolean {x : Int32} (h : nar .boolean x = x) : narrow .boolean (.int x) = .int x := congrArg Value.int h
theorem own_fits_boolean {x : Int32} (h : nar .boolean x = x) : fits .boolean (.int x) = true := h ▸ fits_nar_bool x
theorem own_nar_char {x : Int32} (h : nar .char x = x) : narrow .char (.int x) = .int x := congrArg Value.int h
theorem own_fits_char {x : Int32} (h : nar .char x = x) : fits .char (.int x) = true := h ▸ fits_nar_char x
theorem own_nar_ref {v : Value} {C : String} (h : v.isRef = true) : narrow (.object C) v = v := by rcases ref_cases h with rfl | ⟨a, rfl⟩ <;> rfl
theorem own_fits_ref {v : Value} {C : String} (h : v.isRef = true) : fits (.object C) v = true := by rcases ref_cases h with rfl | ⟨a, rfl⟩ <;> rfl
theorem own_c1 {v : Value} (h : v.isRef = true) : v.category = 1 := by rcases ref_cases h with rfl | ⟨a, rfl⟩ <;> rfl
theorem own_ext_of_keep {h h' : Heap} (K : Keep h h' []) : Ext h h' := ⟨K.1, fun a c q => K.2.1 a c q nin0⟩
theorem own_ext_refl (h : Heap) : Ext h h := ⟨Nat.le_refl _, fun _ _ q => q⟩
theorem own_ext_trans {h h' h'' : Heap} (E : Ext h h') (E' : Ext h' h'') : Ext h h'' := ⟨Nat.le_trans E.1 E'.1, fun a c q => E'.2 a c (E.2 a c q)⟩
end OwnMore
section OwnMirror
variable {p : Program} {l : Launch} {e : Env} {R : Room} {s : State} {m : MethodId} {args : Array Value} {below : List Frame} {meth : Method} {c : Code} {T : State} {locs : List Loc} {cells slots : Nat} {Z : State} {a0 : Array Value} {h : Heap} {a : Addr} {C : String}
/-- the Class object of C is made, and lies at mr -/
def own_Mr (Z : State) (C : String) (mr : Addr) : Prop := ∃ (c : ClassId) (k : Class), Z.vm.findClass C = some c ∧ Z.vm.classes[c]? = some k ∧ k.mirror = some mr
abbrev own_gcN : MethodName := ⟨"java/lang/Object", "getClass", "()Ljava/lang/Class;"⟩
theorem own_ldcM (X : Stand p l e R s m args below meth c T locs cells slots) (hx : p.tables.exec = Jvm.exec) (hZ : Z.Warmed39 s.vm) {own : String} {index : Nat} (hown : s.vm.findClass own = some m.cls) (w : (Jvm.Cond.classLink own index C).before a0 Z = true) (eT : T.heap = h) {mr : Addr} (M : own_Mr Z C mr)
    {g : JFrame} (hg : g.method = m) (hd : decode c.code g.pc = .ok (.ldc index, 2)) : ∃ T', Stand p l e R s m args below meth c T' locs cells slots ∧ T'.heap = h ∧ ∀ target, Steps p.tables e below (T'.setTop { g with pc := g.pc + 2, stack := .ref mr :: g.stack }) target → Steps p.tables e below (T.setTop g) target := by
  obtain ⟨cc, kc, m1, m2, m3⟩ := M
  obtain ⟨k', q, ek⟩ := hZ.alike.2.2 _ _ m2
  have ev : (Term.mirror C).eval args s none [] s = some (.ref mr) := by
    have f1 : s.vm.findClass C = some cc := by rw [hZ.alike.findClass]; exact m1
    have f2 : k'.mirror = some mr := by rw [ek]; exact m3
    simp [Term.eval, f1, q, f2]
  obtain ⟨vm', X', st⟩ := X.ldcMirror hx hown (mvT hZ w) ev hg hd
  exact ⟨_, X', eT, st⟩
theorem own_gcls (X : Stand p l e R s m args below meth c T locs cells slots) (hx : p.tables.exec = Jvm.exec) (hZ : Z.Warmed39 s.vm) {own : String} {index : Nat} (hown : s.vm.findClass own = some m.cls)
    (w1 : (Jvm.Cond.methodLink own index own_gcN).before a0 Z = true) (w2 : (Jvm.Cond.declares own_gcN).before a0 Z = true) (w4 : (Jvm.Cond.selects C own_gcN own_gcN).before a0 Z = true)
    (w5 : (Jvm.Cond.instanceMethod own_gcN).before a0 Z = true) (w6 : (Jvm.Cond.native own_gcN).before a0 Z = true) (eT : T.heap = h) (E : Exa Z h a C) {mr : Addr} (M : own_Mr Z C mr)
    {g : JFrame} (hg : g.method = m) (hsize : g.locals.size = c.maxLocals) {rest : List Value} (hs : g.stack = .ref a :: rest) (hd : decode c.code g.pc = .ok (.invokevirtual index, 3)) (hf : 1 ≤ R.frames) {W : Nat} (hW : 2 * g.monitorRoom + (rest.map fun v => v.category).sum ≤ W) (hl : W + (nativeFrameWords "java/lang/Object" "getClass" 1 + 11) ≤ R.locals) :
    ∃ T', Stand p l e R s m args below meth c T' locs cells slots ∧ T'.heap = h ∧ ∀ target, Steps p.tables e below (T'.setTop { g with pc := g.pc + 3, stack := .ref mr :: rest }) target → Steps p.tables e below (T.setTop g) target := by
  obtain ⟨cB, kB, i1, i2, i3⟩ := isOf hZ eT E
  obtain ⟨cc, kc, m1, m2, m3⟩ := M
  rw [hZ.alike.findClass] at i1
  cases i1.symm.trans m1
  obtain ⟨k', q, ek⟩ := hZ.alike.2.2 _ _ m2
  obtain ⟨vm', X', st⟩ := X.getClassOf hx hown (mvT hZ w1) (mvT hZ w2) (notFace_of_selects (args := #[]) (mvT hZ w4)) (mvT hZ w4) (mvT hZ w5) (mvT hZ w6) (by rw [hZ.alike.findClass]; exact m1) i3 q (by rw [ek]; exact m3) hg hsize hs hd hf (by omega)
  exact ⟨_, X', eT, st⟩
theorem own_gclsI (X : Stand p l e R s m args below meth c T locs cells slots) (hx : p.tables.exec = Jvm.exec) (hZ : Z.Warmed39 s.vm) {own : String} {index count : Nat} {xi : MethodName} (hown : s.vm.findClass own = some m.cls)
    (w1 : (Jvm.Cond.methodLink own index xi).before a0 Z = true) (w2 : (Jvm.Cond.declares own_gcN).before a0 Z = true) (w3 : (Jvm.Cond.interfaceMethod xi.cls "java/lang/Object" xi.name xi.desc).before a0 Z = true) (w4 : (Jvm.Cond.selects C xi own_gcN).before a0 Z = true)
    (w5 : (Jvm.Cond.instanceMethod own_gcN).before a0 Z = true) (w7 : (Jvm.Cond.publicMethod own_gcN).before a0 Z = true) (w8 : (Jvm.Cond.unhidden C xi.name xi.desc).before a0 Z = true) (w9 : (Jvm.Cond.castable C xi.cls).before a0 Z = true) (w6 : (Jvm.Cond.native own_gcN).before a0 Z = true)
    (hn : xi.name = "getClass") (hde : xi.desc = "()Ljava/lang/Class;") (h1 : xi.cls ≠ "java/lang/invoke/MethodHandle" ∧ xi.cls ≠ "java/lang/invoke/VarHandle") (h2 : xi.cls ≠ "java/lang/Object") (eT : T.heap = h) (E : Exa Z h a C) {mr : Addr} (M : own_Mr Z C mr)
    {g : JFrame} (hg : g.method = m) (hsize : g.locals.size = c.maxLocals) {rest : List Value} (hs : g.stack = .ref a :: rest) (hd : decode c.code g.pc = .ok (.invokeinterface index count, 5)) (hf : 1 ≤ R.frames) {W : Nat} (hW : 2 * g.monitorRoom + (rest.map fun v => v.category).sum ≤ W) (hl : W + (nativeFrameWords "java/lang/Object" "getClass" 1 + 11) ≤ R.locals) :
    ∃ T', Stand p l e R s m args below meth c T' locs cells slots ∧ T'.heap = h ∧ ∀ target, Steps p.tables e below (T'.setTop { g with pc := g.pc + 5, stack := .ref mr :: rest }) target → Steps p.tables e below (T.setTop g) target := by
  obtain ⟨cB, kB, i1, i2, i3⟩ := isOf hZ eT E
  obtain ⟨cc, kc, m1, m2, m3⟩ := M
  rw [hZ.alike.findClass] at i1
  cases i1.symm.trans m1
  obtain ⟨k', q, ek⟩ := hZ.alike.2.2 _ _ m2
  obtain ⟨vm', X', st⟩ := X.getClassOfI hx hown (mvT hZ w1) (mvT hZ w2) (Jvm.Free.ULB.iface_rides hZ.alike w3) (mvT hZ w4) (mvT hZ w5) (mvT hZ w7) (mvT hZ w8) (mvT hZ w9) (mvT hZ w6) h1 h2 hn hde (by rw [hZ.alike.findClass]; exact m1) q i3 (by rw [ek]; exact m3) hg hsize hs hd hf (by omega)
  exact ⟨_, X', eT, st⟩
end OwnMirror

def QLaw (n0 : Nat) (v : Option Value) (h : Heap) (L : List Loc) : Prop := v = some (.int 1) ∧ Fr n0 L
def Lst (Z : State) (h : Heap) (a : Addr) (e : Value) : Prop := Exa Z h a "java/util/ArrayList" ∧ Fld Z h a "java/util/AbstractList" "modCount" "I" (.int 0) ∧ Fld Z h a "java/util/ArrayList" "elementData" "[Ljava/lang/Object;" e ∧ Fld Z h a "java/util/ArrayList" "size" "I" (.int 0)
def Q0 (h0 : Heap) (n0 : Nat) (v : Option Value) (h : Heap) (L : List Loc) : Prop := v = none ∧ Fr n0 L ∧ h = h0
def Qw (w : Value) (h0 : Heap) (n0 : Nat) (v : Option Value) (h : Heap) (L : List Loc) : Prop := v = some w ∧ Fr n0 L ∧ h = h0
def QL (Z : State) (a : Addr) (e : Value) (h0 : Heap) (n0 : Nat) (v : Option Value) (h : Heap) (L : List Loc) : Prop := v = none ∧ Fr n0 L ∧ Keep h0 h [a] ∧ Lst Z h a e
def QK (Z : State) (a : Addr) (C : String) (h0 : Heap) (n0 : Nat) (v : Option Value) (h : Heap) (L : List Loc) : Prop := v = none ∧ Fr n0 L ∧ Keep h0 h [a] ∧ Exa Z h a C
def QA (Z : State) (h0 : Heap) (n0 : Nat) (v : Option Value) (h : Heap) (L : List Loc) : Prop := ∃ b k, v = some (.ref b) ∧ Fr n0 L ∧ Ext h0 h ∧ Arv Z h b k (.object "java/lang/Object") 0 [] .null
def QR (h0 : Heap) (n0 : Nat) (v : Option Value) (h : Heap) (L : List Loc) : Prop := ∃ b, v = some (.ref b) ∧ Fr n0 L ∧ Ext h0 h
def QP (Z : State) (a : Addr) (rc : Int64) (d pp : Int32) (h0 : Heap) (n0 : Nat) (v : Option Value) (h : Heap) (L : List Loc) : Prop := v = none ∧ Fr n0 L ∧ Keep h0 h [a] ∧ Exa Z h a "com/example/vyasa/vyasa/Page" ∧ Fld Z h a "com/example/vyasa/vyasa/Page" "resultCount" "J" (.long rc) ∧ Fld Z h a "com/example/vyasa/vyasa/Page" "page" "I" (.int d) ∧ Fld Z h a "com/example/vyasa/vyasa/Page" "perPage" "I" (.int pp)
theorem own_Lst_ext {Z : State} {h h' : Heap} {a : Addr} {e : Value} (o : Lst Z h a e) (E : Ext h h') : Lst Z h' a e := ⟨o.1.ext E, o.2.1.ext E, o.2.2.1.ext E, o.2.2.2.ext E⟩
theorem own_Lst_keep {Z : State} {h h' : Heap} {a : Addr} {e : Value} {ws : List Addr} (o : Lst Z h a e) (K : Keep h h' ws) (n : a ∉ ws) : Lst Z h' a e := ⟨o.1.keep K, o.2.1.keep K n, o.2.2.1.keep K n, o.2.2.2.keep K n⟩
theorem d3_0 : decode jdk_22_method_1_code 0 = .ok (.aload_n 0, 1) := by decide +kernel
theorem d3_1 : decode jdk_22_method_1_code 1 = .ok (.invokespecial 1, 3) := by decide +kernel
theorem d3_4 : decode jdk_22_method_1_code 4 = .ok (.return_, 1) := by decide +kernel
theorem pn_java_2futil_2fAbstractCollection : plainName "java/util/AbstractCollection" = true := by first | (simp [plainName, overriddenIn]; done) | decide +kernel
theorem ef_rmAC (mM : MethodId) (a : Addr) : entryFrame mM #[(.ref a)] 1 = mkF mM 0 #[.val (.ref a)] [] := by first | (simp [entryFrame, mkF, argsToLocals, Value.category]; done) | rfl
set_option maxRecDepth 65536 in
set_option maxHeartbeats 40000000 in
theorem rmAC (lL : Launch) (Z : State) (a0 : Array Value) (hw : ∀ d ∈ tables_1, d.before a0 Z = true) (ws : List Jvm.Cond) (a : Addr) (h0 : Heap) (n0 : Nat)  :
    MetFree lL (⟨"java/util/AbstractCollection", "<init>", "()V"⟩ : MethodName) (head1 (Jvm.Cond.code (⟨"java/util/AbstractCollection", "<init>", "()V"⟩ : MethodName) jdk_22_method_1_code 1 none :: ws) ({ frames := 1, cells := 0, slots := 0, locals := 12 } : Room)) (fun as_ uU_ => as_ = #[(.ref a)] ∧ Z.Warmed39 uU_.vm ∧ uU_.heap = h0) (fun _ _ _ _ _ => True) (fun _ uU_ oO_ uE_ => ∃ vV_ lL_, oO_ = .returned vV_ ∧ Q0 h0 n0 vV_ uE_.heap lL_ ∧ FrameEnd uU_ oO_ uE_ lL_ ({ frames := 1, cells := 0, slots := 0, locals := 12 } : Room).cells ({ frames := 1, cells := 0, slots := 0, locals := 12 } : Room).slots) := by
  refine MetFree.of_bodySF (plainFor_of_name pn_java_2futil_2fAbstractCollection) hisR ?_
  intro pP eE sS mM args below meth cC s₁ Bd hml0 hP hK
  obtain ⟨rfl, hZ, hh⟩ := hP
  have hx := Bd.exec
  have hby := Bd.bytes
  have hml : cC.maxLocals = 1 := hml0
  have hown : sS.vm.findClass "java/util/AbstractCollection" = some mM.cls := findClass_of_methodNamed Bd.named
  have hnm := (name_of_methodNamed Bd.named Bd.method).1
  have hret := Bd.returns
  have hlk := BodyLoose.notSynchronized Bd
  have X0 : Stand pP lL eE ({ frames := 1, cells := 0, slots := 0, locals := 12 } : Room) sS mM #[(.ref a)] below meth cC s₁ [] 0 0 := Stand.of_body Bd
  have e0 : s₁.heap = h0 := by rw [← hh, Bd.state]; rfl
  have N0 := Fr.nil n0
  show own_Go pP eE below sS (Q0 h0 n0) 0 0 (s₁.setTop (entryFrame mM #[(.ref a)] 1))
  refine own_st (A := s₁.setTop (mkF mM 0 #[.val (.ref a)] [])) (fun tT_ kK_ => castTop (ef_rmAC mM a) kK_) ?_
  refine own_st (A := s₁.setTop (mkF mM 1 #[.val (.ref a)] [(.ref a)])) (fun tT_ kK_ => XS.aloadN X0.here hx rfl (hb hby d3_0) rfl rfl kK_) ?_
  obtain ⟨T1, X1, e1, st1⟩ := initO X0 hx hZ hown (hw _ (List.mem_of_getElem? (i := 22) rfl)) (hw _ (List.mem_of_getElem? (i := 23) rfl)) (hw _ (List.mem_of_getElem? (i := 24) rfl)) e0 (g := (mkF mM 1 #[.val (.ref a)] [(.ref a)])) rfl (by rw [hml]; rfl) rfl (hb hby d3_1) (by decide) (W := 0) (by show 2 * 0 + _ ≤ _; exact Nat.le_of_eq rfl) (by decide)
  refine own_st (A := T1.setTop (mkF mM 4 #[.val (.ref a)] [])) (fun tT_ kK_ => st1 tT_ kK_) ?_
  exact own_retV X1 hx hlk hret (hb hby d3_4) ⟨rfl, N0, e1⟩ (by decide) (by decide)
theorem d2_0 : decode jdk_39_method_1_code 0 = .ok (.aload_n 0, 1) := by decide +kernel
theorem d2_1 : decode jdk_39_method_1_code 1 = .ok (.invokespecial 1, 3) := by decide +kernel
theorem pd__28_29V : parseMethodDescriptor "()V" = some ⟨[], none⟩ := by decide +kernel
theorem d2_4 : decode jdk_39_method_1_code 4 = .ok (.aload_n 0, 1) := by decide +kernel
theorem d2_5 : decode jdk_39_method_1_code 5 = .ok (.iconst 0, 1) := by decide +kernel
theorem d2_6 : decode jdk_39_method_1_code 6 = .ok (.putfield 7, 3) := by decide +kernel
theorem d2_9 : decode jdk_39_method_1_code 9 = .ok (.return_, 1) := by decide +kernel
theorem pn_java_2futil_2fAbstractList : plainName "java/util/AbstractList" = true := by first | (simp [plainName, overriddenIn]; done) | decide +kernel
theorem ef_rmAB (mM : MethodId) (a : Addr) : entryFrame mM #[(.ref a)] 1 = mkF mM 0 #[.val (.ref a)] [] := by first | (simp [entryFrame, mkF, argsToLocals, Value.category]; done) | rfl
set_option maxRecDepth 65536 in
set_option maxHeartbeats 40000000 in
theorem rmAB (lL : Launch) (Z : State) (a0 : Array Value) (hw : ∀ d ∈ tables_1, d.before a0 Z = true) (ws : List Jvm.Cond) (a : Addr) (h0 : Heap) (n0 : Nat) (g_a : n0 ≤ a) (E_a : Exa Z h0 a "java/util/ArrayList") (F_a_modCount : Fld Z h0 a "java/util/AbstractList" "modCount" "I" (.int (0 : Int32))) (F_a_elementData : Fld Z h0 a "java/util/ArrayList" "elementData" "[Ljava/lang/Object;" .null) (F_a_size : Fld Z h0 a "java/util/ArrayList" "size" "I" (.int (0 : Int32))) :
    MetFree lL (⟨"java/util/AbstractList", "<init>", "()V"⟩ : MethodName) (head1 (Jvm.Cond.code (⟨"java/util/AbstractList", "<init>", "()V"⟩ : MethodName) jdk_39_method_1_code 1 none :: ws) ({ frames := 2, cells := 0, slots := 0, locals := 24 } : Room)) (fun as_ uU_ => as_ = #[(.ref a)] ∧ Z.Warmed39 uU_.vm ∧ uU_.heap = h0) (fun _ _ _ _ _ => True) (fun _ uU_ oO_ uE_ => ∃ vV_ lL_, oO_ = .returned vV_ ∧ QL Z a .null h0 n0 vV_ uE_.heap lL_ ∧ FrameEnd uU_ oO_ uE_ lL_ ({ frames := 2, cells := 0, slots := 0, locals := 24 } : Room).cells ({ frames := 2, cells := 0, slots := 0, locals := 24 } : Room).slots) := by
  refine MetFree.of_bodySF (plainFor_of_name pn_java_2futil_2fAbstractList) hisR ?_
  intro pP eE sS mM args below meth cC s₁ Bd hml0 hP hK
  obtain ⟨rfl, hZ, hh⟩ := hP
  have hx := Bd.exec
  have hby := Bd.bytes
  have hml : cC.maxLocals = 1 := hml0
  have hown : sS.vm.findClass "java/util/AbstractList" = some mM.cls := findClass_of_methodNamed Bd.named
  have hnm := (name_of_methodNamed Bd.named Bd.method).1
  have hret := Bd.returns
  have hlk := BodyLoose.notSynchronized Bd
  have X0 : Stand pP lL eE ({ frames := 2, cells := 0, slots := 0, locals := 24 } : Room) sS mM #[(.ref a)] below meth cC s₁ [] 0 0 := Stand.of_body Bd
  have e0 : s₁.heap = h0 := by rw [← hh, Bd.state]; rfl
  have N0 := Fr.nil n0
  show own_Go pP eE below sS (QL Z a .null h0 n0) 0 0 (s₁.setTop (entryFrame mM #[(.ref a)] 1))
  refine own_st (A := s₁.setTop (mkF mM 0 #[.val (.ref a)] [])) (fun tT_ kK_ => castTop (ef_rmAB mM a) kK_) ?_
  have Kp := Keep.refl h0 [a]
  refine own_st (A := s₁.setTop (mkF mM 1 #[.val (.ref a)] [(.ref a)])) (fun tT_ kK_ => XS.aloadN X0.here hx rfl (hb hby d2_0) rfl rfl kK_) ?_
  obtain ⟨_, _, ⟨T2, L2, k2, n2⟩, -, X2, ⟨Lc2, hQ2, l2, y2, z2⟩, st2⟩ := X0.specialBack hx (y := (⟨"java/util/AbstractCollection", "<init>", "()V"⟩ : MethodName)) rfl hown (mvT hZ (hw _ (List.mem_of_getElem? (i := 16) rfl))) (mvT hZ (hw _ (List.mem_of_getElem? (i := 17) rfl))) (mvT hZ (hw _ (List.mem_of_getElem? (i := 21) rfl))) (by decide) (backOf (W := 0) (rmAC lL Z a0 hw [] a h0 n0 ) hZ (hw _ (List.mem_of_getElem? (i := 21) rfl)) (hw _ (List.mem_of_getElem? (i := 20) rfl)) (by decide) (by decide)) (g := (mkF mM 1 #[.val (.ref a)] [(.ref a)])) rfl (by rw [hml]; rfl) (Steps.refl _) (a := a) (argsL := []) (rest := []) (lenOf pd__28_29V rfl) rfl (by show 2 * 0 + _ ≤ _; exact Nat.le_of_eq rfl) (hb hby d2_1) (fun _ _ => ⟨rfl, e0, (by decide : 0 + 0 ≤ _), (by decide : 0 + 0 ≤ _)⟩)
  dsimp only [Pt.U, Pt.locs, Pt.cells, Pt.slots] at X2 l2 y2 z2 st2 hQ2
  subst l2 y2 z2
  obtain ⟨rfl, N2q, e2⟩ := hQ2
  have N2 := Fr.app N0 N2q
  refine own_st (A := T2.setTop (mkF mM 4 #[.val (.ref a)] [])) (fun tT_ kK_ => st2.trans kK_) ?_
  refine own_st (A := T2.setTop (mkF mM 5 #[.val (.ref a)] [(.ref a)])) (fun tT_ kK_ => XS.aloadN X2.here hx rfl (hb hby d2_4) rfl rfl kK_) ?_
  refine own_st (A := T2.setTop (mkF mM 6 #[.val (.ref a)] [(.int (0 : Int32)), (.ref a)])) (fun tT_ kK_ => XS.iconst X2.here hx rfl (hb hby d2_5) kK_) ?_
  obtain ⟨T3, h3, X3, e3, W3, st3⟩ := putF X2 hx hZ hown (host := "") (Or.inl (hw _ (List.mem_of_getElem? (i := 25) rfl))) Via.refl e2 F_a_modCount E_a (Or.inl (hw _ (List.mem_of_getElem? (i := 26) rfl))) (hw _ (List.mem_of_getElem? (i := 5) rfl)) (ty := .int) (by decide) rfl rfl (g := (mkF mM 6 #[.val (.ref a)] [(.int (0 : Int32)), (.ref a)])) rfl rfl (hb hby d2_6)
  have N3 := Fr.snoc X3 N2 g_a
  have F_a_modCount := F_a_modCount.same W3
  have F_a_elementData := F_a_elementData.other W3 (Or.inr (slot_ne (Or.inl (hw _ (List.mem_of_getElem? (i := 29) rfl))) (Or.inl (hw _ (List.mem_of_getElem? (i := 26) rfl))) (by decide) (t := (.array (.object "java/lang/Object"))) (t' := .int) (by decide) (by decide)))
  have F_a_size := F_a_size.other W3 (Or.inr (slot_ne (Or.inl (hw _ (List.mem_of_getElem? (i := 48) rfl))) (Or.inl (hw _ (List.mem_of_getElem? (i := 26) rfl))) (by decide) (t := .int) (t' := .int) (by decide) (by decide)))
  have E_a := E_a.wr W3
  have Kp := Kp.wr W3 (Or.inl (List.mem_of_getElem? (i := 0) rfl))
  refine own_st (A := T3.setTop (mkF mM 9 #[.val (.ref a)] [])) (fun tT_ kK_ => st3 tT_ kK_) ?_
  exact own_retV X3 hx hlk hret (hb hby d2_9) (by rw [e3]; exact ⟨rfl, N3, Kp, E_a, F_a_modCount, F_a_elementData, F_a_size⟩) (by decide) (by decide)
theorem d1_0 : decode jdk_38_method_2_code 0 = .ok (.aload_n 0, 1) := by decide +kernel
theorem d1_1 : decode jdk_38_method_2_code 1 = .ok (.invokespecial 1, 3) := by decide +kernel
theorem d1_4 : decode jdk_38_method_2_code 4 = .ok (.aload_n 0, 1) := by decide +kernel
theorem d1_5 : decode jdk_38_method_2_code 5 = .ok (.getstatic 39, 3) := by decide +kernel
theorem d1_8 : decode jdk_38_method_2_code 8 = .ok (.putfield 9, 3) := by decide +kernel
theorem d1_11 : decode jdk_38_method_2_code 11 = .ok (.return_, 1) := by decide +kernel
theorem pn_java_2futil_2fArrayList : plainName "java/util/ArrayList" = true := by first | (simp [plainName, overriddenIn]; done) | decide +kernel
theorem ef_rmA0 (mM : MethodId) (a : Addr) (dc : Addr) : entryFrame mM #[(.ref a)] 1 = mkF mM 0 #[.val (.ref a)] [] := by first | (simp [entryFrame, mkF, argsToLocals, Value.category]; done) | rfl
set_option maxRecDepth 65536 in
set_option maxHeartbeats 40000000 in
theorem rmA0 (lL : Launch) (Z : State) (a0 : Array Value) (hw : ∀ d ∈ tables_1, d.before a0 Z = true) (ws : List Jvm.Cond) (a : Addr) (dc : Addr) (h0 : Heap) (n0 : Nat) (g_a : n0 ≤ a) (E_a : Exa Z h0 a "java/util/ArrayList") (F_a_modCount : Fld Z h0 a "java/util/AbstractList" "modCount" "I" (.int (0 : Int32))) (F_a_elementData : Fld Z h0 a "java/util/ArrayList" "elementData" "[Ljava/lang/Object;" .null) (F_a_size : Fld Z h0 a "java/util/ArrayList" "size" "I" (.int (0 : Int32))) (O : Old Z n0 h0) (S_dc : Sta Z Z.heap "java/util/ArrayList" "DEFAULTCAPACITY_EMPTY_ELEMENTDATA" "[Ljava/lang/Object;" (.ref dc)) :
    MetFree lL (⟨"java/util/ArrayList", "<init>", "()V"⟩ : MethodName) (head1 (Jvm.Cond.code (⟨"java/util/ArrayList", "<init>", "()V"⟩ : MethodName) jdk_38_method_2_code 1 none :: ws) ({ frames := 3, cells := 0, slots := 0, locals := 36 } : Room)) (fun as_ uU_ => as_ = #[(.ref a)] ∧ Z.Warmed39 uU_.vm ∧ uU_.heap = h0) (fun _ _ _ _ _ => True) (fun _ uU_ oO_ uE_ => ∃ vV_ lL_, oO_ = .returned vV_ ∧ QL Z a (.ref dc) h0 n0 vV_ uE_.heap lL_ ∧ FrameEnd uU_ oO_ uE_ lL_ ({ frames := 3, cells := 0, slots := 0, locals := 36 } : Room).cells ({ frames := 3, cells := 0, slots := 0, locals := 36 } : Room).slots) := by
  refine MetFree.of_bodySF (plainFor_of_name pn_java_2futil_2fArrayList) hisR ?_
  intro pP eE sS mM args below meth cC s₁ Bd hml0 hP hK
  obtain ⟨rfl, hZ, hh⟩ := hP
  have hx := Bd.exec
  have hby := Bd.bytes
  have hml : cC.maxLocals = 1 := hml0
  have hown : sS.vm.findClass "java/util/ArrayList" = some mM.cls := findClass_of_methodNamed Bd.named
  have hnm := (name_of_methodNamed Bd.named Bd.method).1
  have hret := Bd.returns
  have hlk := BodyLoose.notSynchronized Bd
  have X0 : Stand pP lL eE ({ frames := 3, cells := 0, slots := 0, locals := 36 } : Room) sS mM #[(.ref a)] below meth cC s₁ [] 0 0 := Stand.of_body Bd
  have e0 : s₁.heap = h0 := by rw [← hh, Bd.state]; rfl
  have N0 := Fr.nil n0
  show own_Go pP eE below sS (QL Z a (.ref dc) h0 n0) 0 0 (s₁.setTop (entryFrame mM #[(.ref a)] 1))
  refine own_st (A := s₁.setTop (mkF mM 0 #[.val (.ref a)] [])) (fun tT_ kK_ => castTop (ef_rmA0 mM a dc) kK_) ?_
  have Kp := Keep.refl h0 [a]
  refine own_st (A := s₁.setTop (mkF mM 1 #[.val (.ref a)] [(.ref a)])) (fun tT_ kK_ => XS.aloadN X0.here hx rfl (hb hby d1_0) rfl rfl kK_) ?_
  obtain ⟨_, _, ⟨T4, L4, k4, n4⟩, -, X4, ⟨Lc4, hQ4, l4, y4, z4⟩, st4⟩ := X0.specialBack hx (y := (⟨"java/util/AbstractList", "<init>", "()V"⟩ : MethodName)) rfl hown (mvT hZ (hw _ (List.mem_of_getElem? (i := 10) rfl))) (mvT hZ (hw _ (List.mem_of_getElem? (i := 11) rfl))) (mvT hZ (hw _ (List.mem_of_getElem? (i := 15) rfl))) (by decide) (backOf (W := 0) (rmAB lL Z a0 hw [] a h0 n0 g_a E_a F_a_modCount F_a_elementData F_a_size) hZ (hw _ (List.mem_of_getElem? (i := 15) rfl)) (hw _ (List.mem_of_getElem? (i := 14) rfl)) (by decide) (by decide)) (g := (mkF mM 1 #[.val (.ref a)] [(.ref a)])) rfl (by rw [hml]; rfl) (Steps.refl _) (a := a) (argsL := []) (rest := []) (lenOf pd__28_29V rfl) rfl (by show 2 * 0 + _ ≤ _; exact Nat.le_of_eq rfl) (hb hby d1_1) (fun _ _ => ⟨rfl, e0, (by decide : 0 + 0 ≤ _), (by decide : 0 + 0 ≤ _)⟩)
  dsimp only [Pt.U, Pt.locs, Pt.cells, Pt.slots] at X4 l4 y4 z4 st4 hQ4
  subst l4 y4 z4
  obtain ⟨rfl, N4q, K4, ob4⟩ := hQ4
  have N4 := Fr.app N0 N4q
  have e4 : T4.heap = T4.heap := rfl
  refine own_st (A := T4.setTop (mkF mM 4 #[.val (.ref a)] [])) (fun tT_ kK_ => st4.trans kK_) ?_
  have E_a := E_a.keep K4
  have O := O.keep K4 (allS g_a all0)
  have Kp := Kp.trans K4 (allS (Or.inl (List.mem_of_getElem? (i := 0) rfl)) all0)
  obtain ⟨E_a, F_a_modCount, F_a_elementData, F_a_size⟩ := ob4
  refine own_st (A := T4.setTop (mkF mM 5 #[.val (.ref a)] [(.ref a)])) (fun tT_ kK_ => XS.aloadN X4.here hx rfl (hb hby d1_4) rfl rfl kK_) ?_
  obtain ⟨T5, X5, e5, st5⟩ := getS2 X4 hx hZ hown (host := "") (Or.inl (hw _ (List.mem_of_getElem? (i := 27) rfl))) Via.refl e4 (S_dc.ext O.2) (g := (mkF mM 5 #[.val (.ref a)] [(.ref a)])) rfl (hb hby d1_5)
  refine own_st (A := T5.setTop (mkF mM 8 #[.val (.ref a)] [(.ref dc), (.ref a)])) (fun tT_ kK_ => st5 tT_ kK_) ?_
  obtain ⟨T6, h6, X6, e6, W6, st6⟩ := putF X5 hx hZ hown (host := "") (Or.inl (hw _ (List.mem_of_getElem? (i := 28) rfl))) Via.refl e5 F_a_elementData E_a (Or.inl (hw _ (List.mem_of_getElem? (i := 29) rfl))) (hw _ (List.mem_of_getElem? (i := 5) rfl)) (ty := (.array (.object "java/lang/Object"))) (by decide) rfl rfl (g := (mkF mM 8 #[.val (.ref a)] [(.ref dc), (.ref a)])) rfl rfl (hb hby d1_8)
  have N6 := Fr.snoc X6 N4 g_a
  have F_a_modCount := F_a_modCount.other W6 (Or.inr (slot_ne (Or.inl (hw _ (List.mem_of_getElem? (i := 26) rfl))) (Or.inl (hw _ (List.mem_of_getElem? (i := 29) rfl))) (by decide) (t := .int) (t' := (.array (.object "java/lang/Object"))) (by decide) (by decide)))
  have F_a_elementData := F_a_elementData.same W6
  have F_a_size := F_a_size.other W6 (Or.inr (slot_ne (Or.inl (hw _ (List.mem_of_getElem? (i := 48) rfl))) (Or.inl (hw _ (List.mem_of_getElem? (i := 29) rfl))) (by decide) (t := .int) (t' := (.array (.object "java/lang/Object"))) (by decide) (by decide)))
  have E_a := E_a.wr W6
  have O := O.wr W6 g_a
  have Kp := Kp.wr W6 (Or.inl (List.mem_of_getElem? (i := 0) rfl))
  refine own_st (A := T6.setTop (mkF mM 11 #[.val (.ref a)] [])) (fun tT_ kK_ => st6 tT_ kK_) ?_
  exact own_retV X6 hx hlk hret (hb hby d1_11) (by rw [e6]; exact ⟨rfl, N6, Kp, E_a, F_a_modCount, F_a_elementData, F_a_size⟩) (by decide) (by decide)
theorem d10_0 : decode jdk_29_method_69_code 0 = .ok (.iload_n 0, 1) := by decide +kernel
theorem d10_1 : decode jdk_29_method_69_code 1 = .ok (.iload_n 1, 1) := by decide +kernel
theorem d10_2 : decode jdk_29_method_69_code 2 = .ok (.if_icmp .gt 7, 3) := by decide +kernel
theorem d10_5 : decode jdk_29_method_69_code 5 = .ok (.iload_n 0, 1) := by decide +kernel
theorem d10_6 : decode jdk_29_method_69_code 6 = .ok (.goto 4, 3) := by decide +kernel
theorem d10_10 : decode jdk_29_method_69_code 10 = .ok (.ireturn, 1) := by decide +kernel
theorem pn_java_2flang_2fMath_10 : plainFor (⟨"java/lang/Math", "min", "(II)I"⟩ : MethodName) = true := by decide +kernel
theorem ef_rmMin (mM : MethodId)  : entryFrame mM #[(.int (0 : Int32)), (.int (0 : Int32))] 2 = mkF mM 0 #[.val (.int (0 : Int32)), .val (.int (0 : Int32))] [] := by first | (simp [entryFrame, mkF, argsToLocals, Value.category]; done) | rfl
set_option maxRecDepth 65536 in
set_option maxHeartbeats 40000000 in
theorem rmMin (lL : Launch) (Z : State) (a0 : Array Value) (hw : ∀ d ∈ tables_1, d.before a0 Z = true) (ws : List Jvm.Cond)  (h0 : Heap) (n0 : Nat)  :
    MetFree lL (⟨"java/lang/Math", "min", "(II)I"⟩ : MethodName) (head1 (Jvm.Cond.code (⟨"java/lang/Math", "min", "(II)I"⟩ : MethodName) jdk_29_method_69_code 2 (some .int) :: ws) ({ frames := 0, cells := 0, slots := 0, locals := 0 } : Room)) (fun as_ uU_ => as_ = #[(.int (0 : Int32)), (.int (0 : Int32))] ∧ Z.Warmed39 uU_.vm ∧ uU_.heap = h0) (fun _ _ _ _ _ => True) (fun _ uU_ oO_ uE_ => ∃ vV_ lL_, oO_ = .returned vV_ ∧ Qw (.int 0) h0 n0 vV_ uE_.heap lL_ ∧ FrameEnd uU_ oO_ uE_ lL_ ({ frames := 0, cells := 0, slots := 0, locals := 0 } : Room).cells ({ frames := 0, cells := 0, slots := 0, locals := 0 } : Room).slots) := by
  refine MetFree.of_bodySF pn_java_2flang_2fMath_10 hisR ?_
  intro pP eE sS mM args below meth cC s₁ Bd hml0 hP hK
  obtain ⟨rfl, hZ, hh⟩ := hP
  have hx := Bd.exec
  have hby := Bd.bytes
  have hml : cC.maxLocals = 2 := hml0
  have hown : sS.vm.findClass "java/lang/Math" = some mM.cls := findClass_of_methodNamed Bd.named
  have hnm := (name_of_methodNamed Bd.named Bd.method).1
  have hret := Bd.returns
  have hlk := BodyLoose.notSynchronized Bd
  have X0 : Stand pP lL eE ({ frames := 0, cells := 0, slots := 0, locals := 0 } : Room) sS mM #[(.int (0 : Int32)), (.int (0 : Int32))] below meth cC s₁ [] 0 0 := Stand.of_body Bd
  have e0 : s₁.heap = h0 := by rw [← hh, Bd.state]; rfl
  have N0 := Fr.nil n0
  show own_Go pP eE below sS (Qw (.int 0) h0 n0) 0 0 (s₁.setTop (entryFrame mM #[(.int (0 : Int32)), (.int (0 : Int32))] 2))
  refine own_st (A := s₁.setTop (mkF mM 0 #[.val (.int (0 : Int32)), .val (.int (0 : Int32))] [])) (fun tT_ kK_ => castTop (ef_rmMin mM ) kK_) ?_
  refine own_st (A := s₁.setTop (mkF mM 1 #[.val (.int (0 : Int32)), .val (.int (0 : Int32))] [(.int (0 : Int32))])) (fun tT_ kK_ => XS.iloadN X0.here hx rfl (hb hby d10_0) rfl kK_) ?_
  refine own_st (A := s₁.setTop (mkF mM 2 #[.val (.int (0 : Int32)), .val (.int (0 : Int32))] [(.int (0 : Int32)), (.int (0 : Int32))])) (fun tT_ kK_ => XS.iloadN X0.here hx rfl (hb hby d10_1) rfl kK_) ?_
  refine own_st (A := s₁.setTop (mkF mM 5 #[.val (.int (0 : Int32)), .val (.int (0 : Int32))] [])) (fun tT_ kK_ => XS.icmpNo X0.here hx rfl (hb hby d10_2) rfl (flt (by decide : ¬ ((0 : Int32) < (0 : Int32)))).2.2.1 kK_) ?_
  refine own_st (A := s₁.setTop (mkF mM 6 #[.val (.int (0 : Int32)), .val (.int (0 : Int32))] [(.int (0 : Int32))])) (fun tT_ kK_ => XS.iloadN X0.here hx rfl (hb hby d10_5) rfl kK_) ?_
  refine own_st (A := s₁.setTop (mkF mM 10 #[.val (.int (0 : Int32)), .val (.int (0 : Int32))] [(.int (0 : Int32))])) (fun tT_ kK_ => XS.goto X0.here hx rfl (pc0 := 6) (pc' := 10) rfl (hb hby d10_6) (by decide) (by decide) kK_) ?_
  exact own_retI X0 hx hlk hret (hb hby d10_10) ⟨rfl, N0, e0⟩ (by decide) (by decide)
theorem d9_0 : decode jdk_65_method_120_code 0 = .ok (.aload_n 2, 1) := by decide +kernel
theorem d9_1 : decode jdk_65_method_120_code 1 = .ok (.ldc 110, 2) := by decide +kernel
theorem d9_3 : decode jdk_65_method_120_code 3 = .ok (.if_acmp .ne 10, 3) := by decide +kernel
theorem d9_6 : decode jdk_65_method_120_code 6 = .ok (.iload_n 1, 1) := by decide +kernel
theorem d9_7 : decode jdk_65_method_120_code 7 = .ok (.anewarray 2, 3) := by decide +kernel
theorem d9_10 : decode jdk_65_method_120_code 10 = .ok (.goto 14, 3) := by decide +kernel
theorem d9_24 : decode jdk_65_method_120_code 24 = .ok (.astore_n 3, 1) := by decide +kernel
theorem d9_25 : decode jdk_65_method_120_code 25 = .ok (.aload_n 0, 1) := by decide +kernel
theorem d9_26 : decode jdk_65_method_120_code 26 = .ok (.iconst 0, 1) := by decide +kernel
theorem d9_27 : decode jdk_65_method_120_code 27 = .ok (.aload_n 3, 1) := by decide +kernel
theorem d9_28 : decode jdk_65_method_120_code 28 = .ok (.iconst 0, 1) := by decide +kernel
theorem d9_29 : decode jdk_65_method_120_code 29 = .ok (.aload_n 0, 1) := by decide +kernel
theorem d9_30 : decode jdk_65_method_120_code 30 = .ok (.arraylength, 1) := by decide +kernel
theorem d9_31 : decode jdk_65_method_120_code 31 = .ok (.iload_n 1, 1) := by decide +kernel
theorem d9_32 : decode jdk_65_method_120_code 32 = .ok (.invokestatic 304, 3) := by decide +kernel
theorem pd__28II_29I : parseMethodDescriptor "(II)I" = some ⟨[.int, .int], some .int⟩ := by decide +kernel
theorem d9_35 : decode jdk_65_method_120_code 35 = .ok (.invokestatic 150, 3) := by decide +kernel
theorem d9_38 : decode jdk_65_method_120_code 38 = .ok (.aload_n 3, 1) := by decide +kernel
theorem d9_39 : decode jdk_65_method_120_code 39 = .ok (.areturn, 1) := by decide +kernel
theorem pn_java_2futil_2fArrays : plainName "java/util/Arrays" = true := by first | (simp [plainName, overriddenIn]; done) | decide +kernel
theorem ef_rmC3 (mM : MethodId) (dc : Addr) (kd : ClassId) (mo : Addr) : entryFrame mM #[(.ref dc), (.int (0 : Int32)), (.ref mo)] 4 = mkF mM 0 #[.val (.ref dc), .val (.int (0 : Int32)), .val (.ref mo), .unset] [] := by first | (simp [entryFrame, mkF, argsToLocals, Value.category]; done) | rfl
set_option maxRecDepth 65536 in
set_option maxHeartbeats 40000000 in
theorem rmC3 (lL : Launch) (Z : State) (a0 : Array Value) (hw : ∀ d ∈ tables_1, d.before a0 Z = true) (ws : List Jvm.Cond) (dc : Addr) (kd : ClassId) (mo : Addr) (h0 : Heap) (n0 : Nat) (O : Old Z n0 h0) (Zn : n0 ≤ h0.size) (V_dc : Arv Z Z.heap dc kd (.object "java/lang/Object") 0 [] .null) (E_dc : Exa Z Z.heap dc "[Ljava/lang/Object;") (M_oa : own_Mr Z "[Ljava/lang/Object;" mo) :
    MetFree lL (⟨"java/util/Arrays", "copyOf", "([Ljava/lang/Object;ILjava/lang/Class;)[Ljava/lang/Object;"⟩ : MethodName) (head1 (Jvm.Cond.code (⟨"java/util/Arrays", "copyOf", "([Ljava/lang/Object;ILjava/lang/Class;)[Ljava/lang/Object;"⟩ : MethodName) jdk_65_method_120_code 4 (some (.array (.object "java/lang/Object"))) :: ws) ({ frames := 1, cells := 1, slots := 0, locals := 40 } : Room)) (fun as_ uU_ => as_ = #[(.ref dc), (.int (0 : Int32)), (.ref mo)] ∧ Z.Warmed39 uU_.vm ∧ uU_.heap = h0) (fun _ _ _ _ _ => True) (fun _ uU_ oO_ uE_ => ∃ vV_ lL_, oO_ = .returned vV_ ∧ QA Z h0 n0 vV_ uE_.heap lL_ ∧ FrameEnd uU_ oO_ uE_ lL_ ({ frames := 1, cells := 1, slots := 0, locals := 40 } : Room).cells ({ frames := 1, cells := 1, slots := 0, locals := 40 } : Room).slots) := by
  refine MetFree.of_bodySF (plainFor_of_name pn_java_2futil_2fArrays) hisR ?_
  intro pP eE sS mM args below meth cC s₁ Bd hml0 hP hK
  obtain ⟨rfl, hZ, hh⟩ := hP
  have hx := Bd.exec
  have hby := Bd.bytes
  have hml : cC.maxLocals = 4 := hml0
  have hown : sS.vm.findClass "java/util/Arrays" = some mM.cls := findClass_of_methodNamed Bd.named
  have hnm := (name_of_methodNamed Bd.named Bd.method).1
  have hret := Bd.returns
  have hlk := BodyLoose.notSynchronized Bd
  have X0 : Stand pP lL eE ({ frames := 1, cells := 1, slots := 0, locals := 40 } : Room) sS mM #[(.ref dc), (.int (0 : Int32)), (.ref mo)] below meth cC s₁ [] 0 0 := Stand.of_body Bd
  have e0 : s₁.heap = h0 := by rw [← hh, Bd.state]; rfl
  have N0 := Fr.nil n0
  show own_Go pP eE below sS (QA Z h0 n0) 1 0 (s₁.setTop (entryFrame mM #[(.ref dc), (.int (0 : Int32)), (.ref mo)] 4))
  refine own_st (A := s₁.setTop (mkF mM 0 #[.val (.ref dc), .val (.int (0 : Int32)), .val (.ref mo), .unset] [])) (fun tT_ kK_ => castTop (ef_rmC3 mM dc kd mo) kK_) ?_
  have Kp := Keep.refl h0 []
  refine own_st (A := s₁.setTop (mkF mM 1 #[.val (.ref dc), .val (.int (0 : Int32)), .val (.ref mo), .unset] [(.ref mo)])) (fun tT_ kK_ => XS.aloadN X0.here hx rfl (hb hby d9_0) rfl rfl kK_) ?_
  obtain ⟨T7, X7, e7, st7⟩ := own_ldcM X0 hx hZ hown (hw _ (List.mem_of_getElem? (i := 62) rfl)) e0 M_oa (g := (mkF mM 1 #[.val (.ref dc), .val (.int (0 : Int32)), .val (.ref mo), .unset] [(.ref mo)])) rfl (hb hby d9_1)
  refine own_st (A := T7.setTop (mkF mM 3 #[.val (.ref dc), .val (.int (0 : Int32)), .val (.ref mo), .unset] [(.ref mo), (.ref mo)])) (fun tT_ kK_ => st7 tT_ kK_) ?_
  refine own_st (A := T7.setTop (mkF mM 6 #[.val (.ref dc), .val (.int (0 : Int32)), .val (.ref mo), .unset] [])) (fun tT_ kK_ => Jvm.RoadKit.acmp X7 hx rfl (x := (.ref mo)) (y := (.ref mo)) rfl rfl (pc0 := 3) (pc' := 6) (same := true) rfl (hb hby d9_3) rfl (decide_eq_true rfl) (by decide) (by decide) kK_) ?_
  refine own_st (A := T7.setTop (mkF mM 7 #[.val (.ref dc), .val (.int (0 : Int32)), .val (.ref mo), .unset] [(.int (0 : Int32))])) (fun tT_ kK_ => XS.iloadN X7.here hx rfl (hb hby d9_6) rfl kK_) ?_
  obtain ⟨T8, h8, k8, X8, e8, E8, A8, O8', st8⟩ := newR X7 hx hZ hown (hw _ (List.mem_of_getElem? (i := 63) rfl)) (hw _ (List.mem_of_getElem? (i := 64) rfl)) e7 (g := (mkF mM 7 #[.val (.ref dc), .val (.int (0 : Int32)), .val (.ref mo), .unset] [(.int (0 : Int32))])) rfl (hb hby d9_7) rfl (by decide) (cap := 0) (by decide) (by decide) (by decide) (by decide)
  obtain ⟨b, gb⟩ : ∃ z, z = h0.size := ⟨_, rfl⟩
  rw [← gb] at A8 st8
  have g_b : n0 ≤ b := Nat.le_trans Zn (Nat.le_of_eq gb.symm)
  have b_b : h0.size ≤ b := Nat.le_trans Kp.1 (Nat.le_of_eq gb.symm)
  have O := O.ext E8
  have Zn := Nat.le_trans Zn E8.1
  have Kp := Kp.ext E8
  have V_b := Arv.new A8 (by decide)
  refine own_st (A := T8.setTop (mkF mM 10 #[.val (.ref dc), .val (.int (0 : Int32)), .val (.ref mo), .unset] [(.ref b)])) (fun tT_ kK_ => st8 tT_ kK_) ?_
  refine own_st (A := T8.setTop (mkF mM 24 #[.val (.ref dc), .val (.int (0 : Int32)), .val (.ref mo), .unset] [(.ref b)])) (fun tT_ kK_ => XS.goto X8.here hx rfl (pc0 := 10) (pc' := 24) rfl (hb hby d9_10) (by decide) (by decide) kK_) ?_
  refine own_st (A := T8.setTop (mkF mM 25 #[.val (.ref dc), .val (.int (0 : Int32)), .val (.ref mo), .val (.ref b)] [])) (fun tT_ kK_ => XS.astoreN X8.here hx rfl (hb hby d9_24) rfl rfl (l' := #[.val (.ref dc), .val (.int (0 : Int32)), .val (.ref mo), .val (.ref b)]) rfl kK_) ?_
  refine own_st (A := T8.setTop (mkF mM 26 #[.val (.ref dc), .val (.int (0 : Int32)), .val (.ref mo), .val (.ref b)] [(.ref dc)])) (fun tT_ kK_ => XS.aloadN X8.here hx rfl (hb hby d9_25) rfl rfl kK_) ?_
  refine own_st (A := T8.setTop (mkF mM 27 #[.val (.ref dc), .val (.int (0 : Int32)), .val (.ref mo), .val (.ref b)] [(.int (0 : Int32)), (.ref dc)])) (fun tT_ kK_ => XS.iconst X8.here hx rfl (hb hby d9_26) kK_) ?_
  refine own_st (A := T8.setTop (mkF mM 28 #[.val (.ref dc), .val (.int (0 : Int32)), .val (.ref mo), .val (.ref b)] [(.ref b), (.int (0 : Int32)), (.ref dc)])) (fun tT_ kK_ => XS.aloadN X8.here hx rfl (hb hby d9_27) rfl rfl kK_) ?_
  refine own_st (A := T8.setTop (mkF mM 29 #[.val (.ref dc), .val (.int (0 : Int32)), .val (.ref mo), .val (.ref b)] [(.int (0 : Int32)), (.ref b), (.int (0 : Int32)), (.ref dc)])) (fun tT_ kK_ => XS.iconst X8.here hx rfl (hb hby d9_28) kK_) ?_
  refine own_st (A := T8.setTop (mkF mM 30 #[.val (.ref dc), .val (.int (0 : Int32)), .val (.ref mo), .val (.ref b)] [(.ref dc), (.int (0 : Int32)), (.ref b), (.int (0 : Int32)), (.ref dc)])) (fun tT_ kK_ => XS.aloadN X8.here hx rfl (hb hby d9_29) rfl rfl kK_) ?_
  obtain ⟨cl, Ar, -, S_, Nn_, -, -⟩ := V_dc.ext O.2
  refine own_st (A := T8.setTop (mkF mM 31 #[.val (.ref dc), .val (.int (0 : Int32)), .val (.ref mo), .val (.ref b)] [(.int (0 : Int32)), (.int (0 : Int32)), (.ref b), (.int (0 : Int32)), (.ref dc)])) (fun tT_ kK_ => X8.arraylength hx (by rw [e8]; exact Ar.1) (State.isArrayOf_alike hZ.alike Ar.2.1) (g := (mkF mM 30 #[.val (.ref dc), .val (.int (0 : Int32)), .val (.ref mo), .val (.ref b)] [(.ref dc), (.int (0 : Int32)), (.ref b), (.int (0 : Int32)), (.ref dc)])) rfl rfl (hb hby d9_30) tT_ (by rw [len_of S_ Nn_]; exact kK_)) ?_
  refine own_st (A := T8.setTop (mkF mM 32 #[.val (.ref dc), .val (.int (0 : Int32)), .val (.ref mo), .val (.ref b)] [(.int (0 : Int32)), (.int (0 : Int32)), (.int (0 : Int32)), (.ref b), (.int (0 : Int32)), (.ref dc)])) (fun tT_ kK_ => XS.iloadN X8.here hx rfl (hb hby d9_31) rfl kK_) ?_
  obtain ⟨_, _, ⟨T9, L9, k9, n9⟩, -, X9, ⟨Lc9, hQ9, l9, y9, z9⟩, st9⟩ := Jvm.LawKit.callS X8 hx (y := (⟨"java/lang/Math", "min", "(II)I"⟩ : MethodName)) hown (mvT hZ (hw _ (List.mem_of_getElem? (i := 65) rfl))) (mvT hZ (hw _ (List.mem_of_getElem? (i := 66) rfl))) (mvT hZ (hw _ (List.mem_of_getElem? (i := 67) rfl))) (mvT hZ (hw _ (List.mem_of_getElem? (i := 68) rfl))) (by decide) (backOf (W := 4) (rmMin lL Z a0 hw []  h8 n0 ) hZ (hw _ (List.mem_of_getElem? (i := 68) rfl)) (hw _ (List.mem_of_getElem? (i := 67) rfl)) (by decide) (by decide)) (g := (mkF mM 32 #[.val (.ref dc), .val (.int (0 : Int32)), .val (.ref mo), .val (.ref b)] [(.int (0 : Int32)), (.int (0 : Int32)), (.int (0 : Int32)), (.ref b), (.int (0 : Int32)), (.ref dc)])) rfl (by rw [hml]; rfl) (argsL := [(.int (0 : Int32)), (.int (0 : Int32))]) (rest := [(.int (0 : Int32)), (.ref b), (.int (0 : Int32)), (.ref dc)]) (lenOf pd__28II_29I rfl) rfl (by show 2 * 0 + _ ≤ _; exact Nat.le_of_eq rfl) (hb hby d9_32) (fun _ _ => ⟨rfl, e8, (by decide : 1 + 0 ≤ _), (by decide : 0 + 0 ≤ _)⟩)
  dsimp only [Pt.U, Pt.locs, Pt.cells, Pt.slots] at X9 l9 y9 z9 st9 hQ9
  subst l9 y9 z9
  obtain ⟨rfl, N9q, e9⟩ := hQ9
  have N9 := Fr.app N0 N9q
  refine own_st (A := T9.setTop (mkF mM 35 #[.val (.ref dc), .val (.int (0 : Int32)), .val (.ref mo), .val (.ref b)] [(.int (0 : Int32)), (.int (0 : Int32)), (.ref b), (.int (0 : Int32)), (.ref dc)])) (fun tT_ kK_ => st9 tT_ kK_) ?_
  obtain ⟨T10, h10, L10, X10, e10, N10, K10, V10, st10⟩ := cpA X9 hx hZ hown (hw _ (List.mem_of_getElem? (i := 69) rfl)) (hw _ (List.mem_of_getElem? (i := 72) rfl)) (hw _ (List.mem_of_getElem? (i := 70) rfl)) (hw _ (List.mem_of_getElem? (i := 71) rfl)) e9 (us := []) (V_dc.ext O.2) V_b (Or.inr ⟨rfl, rfl, trivial⟩) (by decide) (by decide) (by decide) (by decide) (by decide) rfl (by decide) N9 g_b (g := (mkF mM 35 #[.val (.ref dc), .val (.int (0 : Int32)), .val (.ref mo), .val (.ref b)] [(.int (0 : Int32)), (.int (0 : Int32)), (.ref b), (.int (0 : Int32)), (.ref dc)])) rfl (by rw [hml]; rfl) rfl (hb hby d9_35) (by decide) (W := 0) (by show 2 * 0 + _ ≤ _; exact Nat.le_of_eq rfl) (by decide)
  have O := O.keep K10 (allS g_b all0)
  have Zn := Nat.le_trans Zn K10.1
  have Kp := Kp.trans K10 (allS (Or.inr b_b) all0)
  have V_b := V10
  refine own_st (A := T10.setTop (mkF mM 38 #[.val (.ref dc), .val (.int (0 : Int32)), .val (.ref mo), .val (.ref b)] [])) (fun tT_ kK_ => st10 tT_ kK_) ?_
  refine own_st (A := T10.setTop (mkF mM 39 #[.val (.ref dc), .val (.int (0 : Int32)), .val (.ref mo), .val (.ref b)] [(.ref b)])) (fun tT_ kK_ => XS.aloadN X10.here hx rfl (hb hby d9_38) rfl rfl kK_) ?_
  exact own_retA X10 hx hlk hret rfl rfl (hb hby d9_39) (by rw [e10]; exact ⟨b, _, rfl, N10, own_ext_of_keep Kp, V_b⟩) (by decide) (by decide)
theorem d8_0 : decode jdk_65_method_119_code 0 = .ok (.aload_n 0, 1) := by decide +kernel
theorem d8_1 : decode jdk_65_method_119_code 1 = .ok (.iload_n 1, 1) := by decide +kernel
theorem d8_2 : decode jdk_65_method_119_code 2 = .ok (.aload_n 0, 1) := by decide +kernel
theorem d8_3 : decode jdk_65_method_119_code 3 = .ok (.invokevirtual 86, 3) := by decide +kernel
theorem d8_6 : decode jdk_65_method_119_code 6 = .ok (.invokestatic 300, 3) := by decide +kernel
theorem pd__28_5bLjava_2flang_2fObject_3bILjava_2flang_2fClass_3b_29_5bLjava_2flang_2fObject_3b : parseMethodDescriptor "([Ljava/lang/Object;ILjava/lang/Class;)[Ljava/lang/Object;" = some ⟨[(.array (.object "java/lang/Object")), .int, (.object "java/lang/Class")], some (.array (.object "java/lang/Object"))⟩ := by decide +kernel
theorem d8_9 : decode jdk_65_method_119_code 9 = .ok (.areturn, 1) := by decide +kernel
theorem ef_rmC2 (mM : MethodId) (dc : Addr) (kd : ClassId) (mo : Addr) : entryFrame mM #[(.ref dc), (.int (0 : Int32))] 2 = mkF mM 0 #[.val (.ref dc), .val (.int (0 : Int32))] [] := by first | (simp [entryFrame, mkF, argsToLocals, Value.category]; done) | rfl
set_option maxRecDepth 65536 in
set_option maxHeartbeats 40000000 in
theorem rmC2 (lL : Launch) (Z : State) (a0 : Array Value) (hw : ∀ d ∈ tables_1, d.before a0 Z = true) (ws : List Jvm.Cond) (dc : Addr) (kd : ClassId) (mo : Addr) (h0 : Heap) (n0 : Nat) (O : Old Z n0 h0) (Zn : n0 ≤ h0.size) (V_dc : Arv Z Z.heap dc kd (.object "java/lang/Object") 0 [] .null) (E_dc : Exa Z Z.heap dc "[Ljava/lang/Object;") (M_oa : own_Mr Z "[Ljava/lang/Object;" mo) :
    MetFree lL (⟨"java/util/Arrays", "copyOf", "([Ljava/lang/Object;I)[Ljava/lang/Object;"⟩ : MethodName) (head1 (Jvm.Cond.code (⟨"java/util/Arrays", "copyOf", "([Ljava/lang/Object;I)[Ljava/lang/Object;"⟩ : MethodName) jdk_65_method_119_code 2 (some (.array (.object "java/lang/Object"))) :: ws) ({ frames := 2, cells := 1, slots := 0, locals := 55 } : Room)) (fun as_ uU_ => as_ = #[(.ref dc), (.int (0 : Int32))] ∧ Z.Warmed39 uU_.vm ∧ uU_.heap = h0) (fun _ _ _ _ _ => True) (fun _ uU_ oO_ uE_ => ∃ vV_ lL_, oO_ = .returned vV_ ∧ QA Z h0 n0 vV_ uE_.heap lL_ ∧ FrameEnd uU_ oO_ uE_ lL_ ({ frames := 2, cells := 1, slots := 0, locals := 55 } : Room).cells ({ frames := 2, cells := 1, slots := 0, locals := 55 } : Room).slots) := by
  refine MetFree.of_bodySF (plainFor_of_name pn_java_2futil_2fArrays) hisR ?_
  intro pP eE sS mM args below meth cC s₁ Bd hml0 hP hK
  obtain ⟨rfl, hZ, hh⟩ := hP
  have hx := Bd.exec
  have hby := Bd.bytes
  have hml : cC.maxLocals = 2 := hml0
  have hown : sS.vm.findClass "java/util/Arrays" = some mM.cls := findClass_of_methodNamed Bd.named
  have hnm := (name_of_methodNamed Bd.named Bd.method).1
  have hret := Bd.returns
  have hlk := BodyLoose.notSynchronized Bd
  have X0 : Stand pP lL eE ({ frames := 2, cells := 1, slots := 0, locals := 55 } : Room) sS mM #[(.ref dc), (.int (0 : Int32))] below meth cC s₁ [] 0 0 := Stand.of_body Bd
  have e0 : s₁.heap = h0 := by rw [← hh, Bd.state]; rfl
  have N0 := Fr.nil n0
  show own_Go pP eE below sS (QA Z h0 n0) 1 0 (s₁.setTop (entryFrame mM #[(.ref dc), (.int (0 : Int32))] 2))
  refine own_st (A := s₁.setTop (mkF mM 0 #[.val (.ref dc), .val (.int (0 : Int32))] [])) (fun tT_ kK_ => castTop (ef_rmC2 mM dc kd mo) kK_) ?_
  refine own_st (A := s₁.setTop (mkF mM 1 #[.val (.ref dc), .val (.int (0 : Int32))] [(.ref dc)])) (fun tT_ kK_ => XS.aloadN X0.here hx rfl (hb hby d8_0) rfl rfl kK_) ?_
  refine own_st (A := s₁.setTop (mkF mM 2 #[.val (.ref dc), .val (.int (0 : Int32))] [(.int (0 : Int32)), (.ref dc)])) (fun tT_ kK_ => XS.iloadN X0.here hx rfl (hb hby d8_1) rfl kK_) ?_
  refine own_st (A := s₁.setTop (mkF mM 3 #[.val (.ref dc), .val (.int (0 : Int32))] [(.ref dc), (.int (0 : Int32)), (.ref dc)])) (fun tT_ kK_ => XS.aloadN X0.here hx rfl (hb hby d8_2) rfl rfl kK_) ?_
  obtain ⟨T11, X11, e11, st11⟩ := own_gcls X0 hx hZ hown (hw _ (List.mem_of_getElem? (i := 53) rfl)) (hw _ (List.mem_of_getElem? (i := 54) rfl)) (hw _ (List.mem_of_getElem? (i := 56) rfl)) (hw _ (List.mem_of_getElem? (i := 55) rfl)) (hw _ (List.mem_of_getElem? (i := 57) rfl)) e0 (E_dc.ext O.2) M_oa (g := (mkF mM 3 #[.val (.ref dc), .val (.int (0 : Int32))] [(.ref dc), (.int (0 : Int32)), (.ref dc)])) rfl (by rw [hml]; rfl) rfl (hb hby d8_3) (by decide) (W := 2) (by show 2 * 0 + _ ≤ _; exact Nat.le_of_eq rfl) (by decide)
  refine own_st (A := T11.setTop (mkF mM 6 #[.val (.ref dc), .val (.int (0 : Int32))] [(.ref mo), (.int (0 : Int32)), (.ref dc)])) (fun tT_ kK_ => st11 tT_ kK_) ?_
  obtain ⟨_, _, ⟨T12, L12, k12, n12⟩, -, X12, ⟨Lc12, hQ12, l12, y12, z12⟩, st12⟩ := Jvm.LawKit.callS X11 hx (y := (⟨"java/util/Arrays", "copyOf", "([Ljava/lang/Object;ILjava/lang/Class;)[Ljava/lang/Object;"⟩ : MethodName)) hown (mvT hZ (hw _ (List.mem_of_getElem? (i := 59) rfl))) (mvT hZ (hw _ (List.mem_of_getElem? (i := 60) rfl))) (mvT hZ (hw _ (List.mem_of_getElem? (i := 51) rfl))) (mvT hZ (hw _ (List.mem_of_getElem? (i := 61) rfl))) (by decide) (backOf (W := 0) (rmC3 lL Z a0 hw [] dc kd mo h0 n0 O Zn V_dc E_dc M_oa) hZ (hw _ (List.mem_of_getElem? (i := 61) rfl)) (hw _ (List.mem_of_getElem? (i := 51) rfl)) (by decide) (by decide)) (g := (mkF mM 6 #[.val (.ref dc), .val (.int (0 : Int32))] [(.ref mo), (.int (0 : Int32)), (.ref dc)])) rfl (by rw [hml]; rfl) (argsL := [(.ref dc), (.int (0 : Int32)), (.ref mo)]) (rest := []) (lenOf pd__28_5bLjava_2flang_2fObject_3bILjava_2flang_2fClass_3b_29_5bLjava_2flang_2fObject_3b rfl) rfl (by show 2 * 0 + _ ≤ _; exact Nat.le_of_eq rfl) (hb hby d8_6) (fun _ _ => ⟨rfl, e11, (by decide : 0 + 1 ≤ _), (by decide : 0 + 0 ≤ _)⟩)
  dsimp only [Pt.U, Pt.locs, Pt.cells, Pt.slots] at X12 l12 y12 z12 st12 hQ12
  subst l12 y12 z12
  obtain ⟨b12, k12', rfl, N12q, R12⟩ := hQ12
  have N12 := Fr.app N0 N12q
  have e12 : T12.heap = T12.heap := rfl
  refine own_st (A := T12.setTop (mkF mM 9 #[.val (.ref dc), .val (.int (0 : Int32))] [(.ref b12)])) (fun tT_ kK_ => st12 tT_ kK_) ?_
  exact own_retA X12 hx hlk hret rfl rfl (hb hby d8_9) ⟨_, _, rfl, N12, R12⟩ (by decide) (by decide)
theorem d7_0 : decode jdk_38_method_16_code 0 = .ok (.aload_n 0, 1) := by decide +kernel
theorem d7_1 : decode jdk_38_method_16_code 1 = .ok (.getfield 9, 3) := by decide +kernel
theorem d7_4 : decode jdk_38_method_16_code 4 = .ok (.aload_n 0, 1) := by decide +kernel
theorem d7_5 : decode jdk_38_method_16_code 5 = .ok (.getfield 48, 3) := by decide +kernel
theorem d7_8 : decode jdk_38_method_16_code 8 = .ok (.invokestatic 66, 3) := by decide +kernel
theorem pd__28_5bLjava_2flang_2fObject_3bI_29_5bLjava_2flang_2fObject_3b : parseMethodDescriptor "([Ljava/lang/Object;I)[Ljava/lang/Object;" = some ⟨[(.array (.object "java/lang/Object")), .int], some (.array (.object "java/lang/Object"))⟩ := by decide +kernel
theorem d7_11 : decode jdk_38_method_16_code 11 = .ok (.areturn, 1) := by decide +kernel
theorem ef_rmTA (mM : MethodId) (a : Addr) (dc : Addr) (kd : ClassId) (mo : Addr) : entryFrame mM #[(.ref a)] 1 = mkF mM 0 #[.val (.ref a)] [] := by first | (simp [entryFrame, mkF, argsToLocals, Value.category]; done) | rfl
set_option maxRecDepth 65536 in
set_option maxHeartbeats 40000000 in
theorem rmTA (lL : Launch) (Z : State) (a0 : Array Value) (hw : ∀ d ∈ tables_1, d.before a0 Z = true) (ws : List Jvm.Cond) (a : Addr) (dc : Addr) (kd : ClassId) (mo : Addr) (h0 : Heap) (n0 : Nat) (O : Old Z n0 h0) (Zn : n0 ≤ h0.size) (V_dc : Arv Z Z.heap dc kd (.object "java/lang/Object") 0 [] .null) (E_dc : Exa Z Z.heap dc "[Ljava/lang/Object;") (M_oa : own_Mr Z "[Ljava/lang/Object;" mo) (ob : Lst Z h0 a (.ref dc)) :
    MetFree lL (⟨"java/util/ArrayList", "toArray", "()[Ljava/lang/Object;"⟩ : MethodName) (head1 (Jvm.Cond.code (⟨"java/util/ArrayList", "toArray", "()[Ljava/lang/Object;"⟩ : MethodName) jdk_38_method_16_code 1 (some (.array (.object "java/lang/Object"))) :: ws) ({ frames := 3, cells := 1, slots := 0, locals := 68 } : Room)) (fun as_ uU_ => as_ = #[(.ref a)] ∧ Z.Warmed39 uU_.vm ∧ uU_.heap = h0) (fun _ _ _ _ _ => True) (fun _ uU_ oO_ uE_ => ∃ vV_ lL_, oO_ = .returned vV_ ∧ QA Z h0 n0 vV_ uE_.heap lL_ ∧ FrameEnd uU_ oO_ uE_ lL_ ({ frames := 3, cells := 1, slots := 0, locals := 68 } : Room).cells ({ frames := 3, cells := 1, slots := 0, locals := 68 } : Room).slots) := by
  refine MetFree.of_bodySF (plainFor_of_name pn_java_2futil_2fArrayList) hisR ?_
  intro pP eE sS mM args below meth cC s₁ Bd hml0 hP hK
  obtain ⟨rfl, hZ, hh⟩ := hP
  have hx := Bd.exec
  have hby := Bd.bytes
  have hml : cC.maxLocals = 1 := hml0
  have hown : sS.vm.findClass "java/util/ArrayList" = some mM.cls := findClass_of_methodNamed Bd.named
  have hnm := (name_of_methodNamed Bd.named Bd.method).1
  have hret := Bd.returns
  have hlk := BodyLoose.notSynchronized Bd
  have X0 : Stand pP lL eE ({ frames := 3, cells := 1, slots := 0, locals := 68 } : Room) sS mM #[(.ref a)] below meth cC s₁ [] 0 0 := Stand.of_body Bd
  have e0 : s₁.heap = h0 := by rw [← hh, Bd.state]; rfl
  have N0 := Fr.nil n0
  show own_Go pP eE below sS (QA Z h0 n0) 1 0 (s₁.setTop (entryFrame mM #[(.ref a)] 1))
  refine own_st (A := s₁.setTop (mkF mM 0 #[.val (.ref a)] [])) (fun tT_ kK_ => castTop (ef_rmTA mM a dc kd mo) kK_) ?_
  refine own_st (A := s₁.setTop (mkF mM 1 #[.val (.ref a)] [(.ref a)])) (fun tT_ kK_ => XS.aloadN X0.here hx rfl (hb hby d7_0) rfl rfl kK_) ?_
  obtain ⟨T13, X13, e13, st13⟩ := getF X0 hx hZ hown (host := "") (Or.inl (hw _ (List.mem_of_getElem? (i := 28) rfl))) Via.refl e0 ob.2.2.1 (g := (mkF mM 1 #[.val (.ref a)] [(.ref a)])) rfl rfl (hb hby d7_1)
  refine own_st (A := T13.setTop (mkF mM 4 #[.val (.ref a)] [(.ref dc)])) (fun tT_ kK_ => st13 tT_ kK_) ?_
  refine own_st (A := T13.setTop (mkF mM 5 #[.val (.ref a)] [(.ref a), (.ref dc)])) (fun tT_ kK_ => XS.aloadN X13.here hx rfl (hb hby d7_4) rfl rfl kK_) ?_
  obtain ⟨T14, X14, e14, st14⟩ := getF X13 hx hZ hown (host := "") (Or.inl (hw _ (List.mem_of_getElem? (i := 47) rfl))) Via.refl e13 ob.2.2.2 (g := (mkF mM 5 #[.val (.ref a)] [(.ref a), (.ref dc)])) rfl rfl (hb hby d7_5)
  refine own_st (A := T14.setTop (mkF mM 8 #[.val (.ref a)] [(.int (0 : Int32)), (.ref dc)])) (fun tT_ kK_ => st14 tT_ kK_) ?_
  obtain ⟨_, _, ⟨T15, L15, k15, n15⟩, -, X15, ⟨Lc15, hQ15, l15, y15, z15⟩, st15⟩ := Jvm.LawKit.callS X14 hx (y := (⟨"java/util/Arrays", "copyOf", "([Ljava/lang/Object;I)[Ljava/lang/Object;"⟩ : MethodName)) hown (mvT hZ (hw _ (List.mem_of_getElem? (i := 49) rfl))) (mvT hZ (hw _ (List.mem_of_getElem? (i := 50) rfl))) (mvT hZ (hw _ (List.mem_of_getElem? (i := 51) rfl))) (mvT hZ (hw _ (List.mem_of_getElem? (i := 52) rfl))) (by decide) (backOf (W := 0) (rmC2 lL Z a0 hw [] dc kd mo h0 n0 O Zn V_dc E_dc M_oa) hZ (hw _ (List.mem_of_getElem? (i := 52) rfl)) (hw _ (List.mem_of_getElem? (i := 51) rfl)) (by decide) (by decide)) (g := (mkF mM 8 #[.val (.ref a)] [(.int (0 : Int32)), (.ref dc)])) rfl (by rw [hml]; rfl) (argsL := [(.ref dc), (.int (0 : Int32))]) (rest := []) (lenOf pd__28_5bLjava_2flang_2fObject_3bI_29_5bLjava_2flang_2fObject_3b rfl) rfl (by show 2 * 0 + _ ≤ _; exact Nat.le_of_eq rfl) (hb hby d7_8) (fun _ _ => ⟨rfl, e14, (by decide : 0 + 1 ≤ _), (by decide : 0 + 0 ≤ _)⟩)
  dsimp only [Pt.U, Pt.locs, Pt.cells, Pt.slots] at X15 l15 y15 z15 st15 hQ15
  subst l15 y15 z15
  obtain ⟨b15, k15', rfl, N15q, R15⟩ := hQ15
  have N15 := Fr.app N0 N15q
  have e15 : T15.heap = T15.heap := rfl
  refine own_st (A := T15.setTop (mkF mM 11 #[.val (.ref a)] [(.ref b15)])) (fun tT_ kK_ => st15 tT_ kK_) ?_
  exact own_retA X15 hx hlk hret rfl rfl (hb hby d7_11) ⟨_, _, rfl, N15, R15⟩ (by decide) (by decide)
theorem d6_0 : decode jdk_38_method_3_code 0 = .ok (.aload_n 0, 1) := by decide +kernel
theorem d6_1 : decode jdk_38_method_3_code 1 = .ok (.invokespecial 1, 3) := by decide +kernel
theorem d6_4 : decode jdk_38_method_3_code 4 = .ok (.aload_n 1, 1) := by decide +kernel
theorem d6_5 : decode jdk_38_method_3_code 5 = .ok (.invokeinterface 42 1, 5) := by decide +kernel
theorem pd__28_29_5bLjava_2flang_2fObject_3b : parseMethodDescriptor "()[Ljava/lang/Object;" = some ⟨[], some (.array (.object "java/lang/Object"))⟩ := by decide +kernel
theorem d6_10 : decode jdk_38_method_3_code 10 = .ok (.astore_n 2, 1) := by decide +kernel
theorem d6_11 : decode jdk_38_method_3_code 11 = .ok (.aload_n 0, 1) := by decide +kernel
theorem d6_12 : decode jdk_38_method_3_code 12 = .ok (.aload_n 2, 1) := by decide +kernel
theorem d6_13 : decode jdk_38_method_3_code 13 = .ok (.arraylength, 1) := by decide +kernel
theorem d6_14 : decode jdk_38_method_3_code 14 = .ok (.dup_x1, 1) := by decide +kernel
theorem d6_15 : decode jdk_38_method_3_code 15 = .ok (.putfield 48, 3) := by decide +kernel
theorem d6_18 : decode jdk_38_method_3_code 18 = .ok (.ifCond .eq 39, 3) := by decide +kernel
theorem d6_57 : decode jdk_38_method_3_code 57 = .ok (.aload_n 0, 1) := by decide +kernel
theorem d6_58 : decode jdk_38_method_3_code 58 = .ok (.getstatic 15, 3) := by decide +kernel
theorem d6_61 : decode jdk_38_method_3_code 61 = .ok (.putfield 9, 3) := by decide +kernel
theorem d6_64 : decode jdk_38_method_3_code 64 = .ok (.return_, 1) := by decide +kernel
theorem ef_rmAC1 (mM : MethodId) (a : Addr) (l' : Addr) (dc : Addr) (kd : ClassId) (mo : Addr) (ee : Addr) : entryFrame mM #[(.ref a), (.ref l')] 3 = mkF mM 0 #[.val (.ref a), .val (.ref l'), .unset] [] := by first | (simp [entryFrame, mkF, argsToLocals, Value.category]; done) | rfl
set_option maxRecDepth 65536 in
set_option maxHeartbeats 40000000 in
theorem rmAC1 (lL : Launch) (Z : State) (a0 : Array Value) (hw : ∀ d ∈ tables_1, d.before a0 Z = true) (ws : List Jvm.Cond) (a : Addr) (l' : Addr) (dc : Addr) (kd : ClassId) (mo : Addr) (ee : Addr) (h0 : Heap) (n0 : Nat) (g_a : n0 ≤ a) (E_a : Exa Z h0 a "java/util/ArrayList") (F_a_modCount : Fld Z h0 a "java/util/AbstractList" "modCount" "I" (.int (0 : Int32))) (F_a_elementData : Fld Z h0 a "java/util/ArrayList" "elementData" "[Ljava/lang/Object;" .null) (F_a_size : Fld Z h0 a "java/util/ArrayList" "size" "I" (.int (0 : Int32))) (O : Old Z n0 h0) (Zn : n0 ≤ h0.size) (V_dc : Arv Z Z.heap dc kd (.object "java/lang/Object") 0 [] .null) (E_dc : Exa Z Z.heap dc "[Ljava/lang/Object;") (M_oa : own_Mr Z "[Ljava/lang/Object;" mo) (ob : Lst Z h0 l' (.ref dc)) (nel : l' ≠ a) (S_ee : Sta Z Z.heap "java/util/ArrayList" "EMPTY_ELEMENTDATA" "[Ljava/lang/Object;" (.ref ee)) :
    MetFree lL (⟨"java/util/ArrayList", "<init>", "(Ljava/util/Collection;)V"⟩ : MethodName) (head1 (Jvm.Cond.code (⟨"java/util/ArrayList", "<init>", "(Ljava/util/Collection;)V"⟩ : MethodName) jdk_38_method_3_code 3 none :: ws) ({ frames := 4, cells := 1, slots := 0, locals := 80 } : Room)) (fun as_ uU_ => as_ = #[(.ref a), (.ref l')] ∧ Z.Warmed39 uU_.vm ∧ uU_.heap = h0) (fun _ _ _ _ _ => True) (fun _ uU_ oO_ uE_ => ∃ vV_ lL_, oO_ = .returned vV_ ∧ QK Z a "java/util/ArrayList" h0 n0 vV_ uE_.heap lL_ ∧ FrameEnd uU_ oO_ uE_ lL_ ({ frames := 4, cells := 1, slots := 0, locals := 80 } : Room).cells ({ frames := 4, cells := 1, slots := 0, locals := 80 } : Room).slots) := by
  refine MetFree.of_bodySF (plainFor_of_name pn_java_2futil_2fArrayList) hisR ?_
  intro pP eE sS mM args below meth cC s₁ Bd hml0 hP hK
  obtain ⟨rfl, hZ, hh⟩ := hP
  have hx := Bd.exec
  have hby := Bd.bytes
  have hml : cC.maxLocals = 3 := hml0
  have hown : sS.vm.findClass "java/util/ArrayList" = some mM.cls := findClass_of_methodNamed Bd.named
  have hnm := (name_of_methodNamed Bd.named Bd.method).1
  have hret := Bd.returns
  have hlk := BodyLoose.notSynchronized Bd
  have X0 : Stand pP lL eE ({ frames := 4, cells := 1, slots := 0, locals := 80 } : Room) sS mM #[(.ref a), (.ref l')] below meth cC s₁ [] 0 0 := Stand.of_body Bd
  have e0 : s₁.heap = h0 := by rw [← hh, Bd.state]; rfl
  have N0 := Fr.nil n0
  show own_Go pP eE below sS (QK Z a "java/util/ArrayList" h0 n0) 1 0 (s₁.setTop (entryFrame mM #[(.ref a), (.ref l')] 3))
  refine own_st (A := s₁.setTop (mkF mM 0 #[.val (.ref a), .val (.ref l'), .unset] [])) (fun tT_ kK_ => castTop (ef_rmAC1 mM a l' dc kd mo ee) kK_) ?_
  have Kp := Keep.refl h0 [a]
  refine own_st (A := s₁.setTop (mkF mM 1 #[.val (.ref a), .val (.ref l'), .unset] [(.ref a)])) (fun tT_ kK_ => XS.aloadN X0.here hx rfl (hb hby d6_0) rfl rfl kK_) ?_
  obtain ⟨_, _, ⟨T16, L16, k16, n16⟩, -, X16, ⟨Lc16, hQ16, l16, y16, z16⟩, st16⟩ := X0.specialBack hx (y := (⟨"java/util/AbstractList", "<init>", "()V"⟩ : MethodName)) rfl hown (mvT hZ (hw _ (List.mem_of_getElem? (i := 10) rfl))) (mvT hZ (hw _ (List.mem_of_getElem? (i := 11) rfl))) (mvT hZ (hw _ (List.mem_of_getElem? (i := 15) rfl))) (by decide) (backOf (W := 0) (rmAB lL Z a0 hw [] a h0 n0 g_a E_a F_a_modCount F_a_elementData F_a_size) hZ (hw _ (List.mem_of_getElem? (i := 15) rfl)) (hw _ (List.mem_of_getElem? (i := 14) rfl)) (by decide) (by decide)) (g := (mkF mM 1 #[.val (.ref a), .val (.ref l'), .unset] [(.ref a)])) rfl (by rw [hml]; rfl) (Steps.refl _) (a := a) (argsL := []) (rest := []) (lenOf pd__28_29V rfl) rfl (by show 2 * 0 + _ ≤ _; exact Nat.le_of_eq rfl) (hb hby d6_1) (fun _ _ => ⟨rfl, e0, (by decide : 0 + 0 ≤ _), (by decide : 0 + 0 ≤ _)⟩)
  dsimp only [Pt.U, Pt.locs, Pt.cells, Pt.slots] at X16 l16 y16 z16 st16 hQ16
  subst l16 y16 z16
  obtain ⟨rfl, N16q, K16, ob16⟩ := hQ16
  have N16 := Fr.app N0 N16q
  have e16 : T16.heap = T16.heap := rfl
  refine own_st (A := T16.setTop (mkF mM 4 #[.val (.ref a), .val (.ref l'), .unset] [])) (fun tT_ kK_ => st16.trans kK_) ?_
  have ob := own_Lst_keep ob K16 (ninS nel nin0)
  have E_a := E_a.keep K16
  have O := O.keep K16 (allS g_a all0)
  have Zn := Nat.le_trans Zn K16.1
  have Kp := Kp.trans K16 (allS (Or.inl (List.mem_of_getElem? (i := 0) rfl)) all0)
  obtain ⟨E_a, F_a_modCount, F_a_elementData, F_a_size⟩ := ob16
  refine own_st (A := T16.setTop (mkF mM 5 #[.val (.ref a), .val (.ref l'), .unset] [(.ref l')])) (fun tT_ kK_ => XS.aloadN X16.here hx rfl (hb hby d6_4) rfl rfl kK_) ?_
  obtain ⟨cq17, kq17, q17a, q17b, q17c⟩ := isOf hZ e16 ob.1
  obtain ⟨_, _, ⟨T17, L17, k17, n17⟩, -, X17, ⟨Lc17, hQ17, l17, y17, z17⟩, st17⟩ := X16.interfaceBack hx (xi := (⟨"java/util/Collection", "toArray", "()[Ljava/lang/Object;"⟩ : MethodName)) (y := (⟨"java/util/ArrayList", "toArray", "()[Ljava/lang/Object;"⟩ : MethodName)) hown (mvT hZ (hw _ (List.mem_of_getElem? (i := 38) rfl))) (mvT hZ (hw _ (List.mem_of_getElem? (i := 39) rfl))) (mvT hZ (hw _ (List.mem_of_getElem? (i := 40) rfl))) (mvT hZ (hw _ (List.mem_of_getElem? (i := 41) rfl))) (mvT hZ (hw _ (List.mem_of_getElem? (i := 42) rfl))) (mvT hZ (hw _ (List.mem_of_getElem? (i := 43) rfl))) (mvT hZ (hw _ (List.mem_of_getElem? (i := 44) rfl))) (mvT hZ (hw _ (List.mem_of_getElem? (i := 45) rfl))) (by decide) (backOf (W := 0) (rmTA lL Z a0 hw [] l' dc kd mo T16.heap n0 O Zn V_dc E_dc M_oa ob) hZ (hw _ (List.mem_of_getElem? (i := 46) rfl)) (hw _ (List.mem_of_getElem? (i := 6) rfl)) (by decide) (by decide)) q17a q17b q17c (g := (mkF mM 5 #[.val (.ref a), .val (.ref l'), .unset] [(.ref l')])) rfl (by rw [hml]; rfl) (Steps.refl _) (argsL := []) (rest := []) (lenOf pd__28_29_5bLjava_2flang_2fObject_3b rfl) rfl (by show 2 * 0 + _ ≤ _; exact Nat.le_of_eq rfl) (hb hby d6_5) (fun _ _ => ⟨rfl, e16, (by decide : 0 + 1 ≤ _), (by decide : 0 + 0 ≤ _)⟩)
  dsimp only [Pt.U, Pt.locs, Pt.cells, Pt.slots] at X17 l17 y17 z17 st17 hQ17
  subst l17 y17 z17
  obtain ⟨b17, k17', rfl, N17q, E17, V_b⟩ := hQ17
  have N17 := Fr.app N16 N17q
  have e17 : T17.heap = T17.heap := rfl
  refine own_st (A := T17.setTop (mkF mM 10 #[.val (.ref a), .val (.ref l'), .unset] [(.ref b17)])) (fun tT_ kK_ => st17.trans kK_) ?_
  have F_a_modCount := F_a_modCount.ext E17
  have F_a_elementData := F_a_elementData.ext E17
  have F_a_size := F_a_size.ext E17
  have E_a := E_a.ext E17
  have ob := own_Lst_ext ob E17
  have O := O.ext E17
  have Zn := Nat.le_trans Zn E17.1
  have Kp := Kp.ext E17
  obtain ⟨cl, Ar, -, S_, Nn_, -, -⟩ := V_b
  refine own_st (A := T17.setTop (mkF mM 11 #[.val (.ref a), .val (.ref l'), .val (.ref b17)] [])) (fun tT_ kK_ => XS.astoreN X17.here hx rfl (hb hby d6_10) rfl rfl (l' := #[.val (.ref a), .val (.ref l'), .val (.ref b17)]) rfl kK_) ?_
  refine own_st (A := T17.setTop (mkF mM 12 #[.val (.ref a), .val (.ref l'), .val (.ref b17)] [(.ref a)])) (fun tT_ kK_ => XS.aloadN X17.here hx rfl (hb hby d6_11) rfl rfl kK_) ?_
  refine own_st (A := T17.setTop (mkF mM 13 #[.val (.ref a), .val (.ref l'), .val (.ref b17)] [(.ref b17), (.ref a)])) (fun tT_ kK_ => XS.aloadN X17.here hx rfl (hb hby d6_12) rfl rfl kK_) ?_
  refine own_st (A := T17.setTop (mkF mM 14 #[.val (.ref a), .val (.ref l'), .val (.ref b17)] [(.int (0 : Int32)), (.ref a)])) (fun tT_ kK_ => X17.arraylength hx (by rw [e17]; exact Ar.1) (State.isArrayOf_alike hZ.alike Ar.2.1) (g := (mkF mM 13 #[.val (.ref a), .val (.ref l'), .val (.ref b17)] [(.ref b17), (.ref a)])) rfl rfl (hb hby d6_13) tT_ (by rw [len_of S_ Nn_]; exact kK_)) ?_
  refine own_st (A := T17.setTop (mkF mM 15 #[.val (.ref a), .val (.ref l'), .val (.ref b17)] [(.int (0 : Int32)), (.ref a), (.int (0 : Int32))])) (fun tT_ kK_ => XS.dupX1 X17.here hx rfl (hb hby d6_14) rfl rfl rfl kK_) ?_
  obtain ⟨T18, h18, X18, e18, W18, st18⟩ := putF X17 hx hZ hown (host := "") (Or.inl (hw _ (List.mem_of_getElem? (i := 47) rfl))) Via.refl e17 F_a_size E_a (Or.inl (hw _ (List.mem_of_getElem? (i := 48) rfl))) (hw _ (List.mem_of_getElem? (i := 5) rfl)) (ty := .int) (by decide) rfl rfl (g := (mkF mM 15 #[.val (.ref a), .val (.ref l'), .val (.ref b17)] [(.int (0 : Int32)), (.ref a), (.int (0 : Int32))])) rfl rfl (hb hby d6_15)
  have N18 := Fr.snoc X18 N17 g_a
  have F_a_modCount := F_a_modCount.other W18 (Or.inr (slot_ne (Or.inl (hw _ (List.mem_of_getElem? (i := 26) rfl))) (Or.inl (hw _ (List.mem_of_getElem? (i := 48) rfl))) (by decide) (t := .int) (t' := .int) (by decide) (by decide)))
  have F_a_elementData := F_a_elementData.other W18 (Or.inr (slot_ne (Or.inl (hw _ (List.mem_of_getElem? (i := 29) rfl))) (Or.inl (hw _ (List.mem_of_getElem? (i := 48) rfl))) (by decide) (t := (.array (.object "java/lang/Object"))) (t' := .int) (by decide) (by decide)))
  have F_a_size := F_a_size.same W18
  have E_a := E_a.wr W18
  have O := O.wr W18 g_a
  have Zn := Nat.le_trans Zn (Keep.of_wr W18).1
  have Kp := Kp.wr W18 (Or.inl (List.mem_of_getElem? (i := 0) rfl))
  refine own_st (A := T18.setTop (mkF mM 18 #[.val (.ref a), .val (.ref l'), .val (.ref b17)] [(.int (0 : Int32))])) (fun tT_ kK_ => st18 tT_ kK_) ?_
  refine own_st (A := T18.setTop (mkF mM 57 #[.val (.ref a), .val (.ref l'), .val (.ref b17)] [])) (fun tT_ kK_ => XS.ifYes X18.here hx rfl (pc0 := 18) (pc' := 57) rfl (hb hby d6_18) rfl ((if0 _ _).trans (teq (by decide : ((0 : Int32) = (0 : Int32)))).1) (by decide) (by decide) kK_) ?_
  refine own_st (A := T18.setTop (mkF mM 58 #[.val (.ref a), .val (.ref l'), .val (.ref b17)] [(.ref a)])) (fun tT_ kK_ => XS.aloadN X18.here hx rfl (hb hby d6_57) rfl rfl kK_) ?_
  obtain ⟨T19, X19, e19, st19⟩ := getS2 X18 hx hZ hown (host := "") (Or.inl (hw _ (List.mem_of_getElem? (i := 73) rfl))) Via.refl e18 (S_ee.ext O.2) (g := (mkF mM 58 #[.val (.ref a), .val (.ref l'), .val (.ref b17)] [(.ref a)])) rfl (hb hby d6_58)
  refine own_st (A := T19.setTop (mkF mM 61 #[.val (.ref a), .val (.ref l'), .val (.ref b17)] [(.ref ee), (.ref a)])) (fun tT_ kK_ => st19 tT_ kK_) ?_
  obtain ⟨T20, h20, X20, e20, W20, st20⟩ := putF X19 hx hZ hown (host := "") (Or.inl (hw _ (List.mem_of_getElem? (i := 28) rfl))) Via.refl e19 F_a_elementData E_a (Or.inl (hw _ (List.mem_of_getElem? (i := 29) rfl))) (hw _ (List.mem_of_getElem? (i := 5) rfl)) (ty := (.array (.object "java/lang/Object"))) (by decide) rfl rfl (g := (mkF mM 61 #[.val (.ref a), .val (.ref l'), .val (.ref b17)] [(.ref ee), (.ref a)])) rfl rfl (hb hby d6_61)
  have N20 := Fr.snoc X20 N18 g_a
  have F_a_modCount := F_a_modCount.other W20 (Or.inr (slot_ne (Or.inl (hw _ (List.mem_of_getElem? (i := 26) rfl))) (Or.inl (hw _ (List.mem_of_getElem? (i := 29) rfl))) (by decide) (t := .int) (t' := (.array (.object "java/lang/Object"))) (by decide) (by decide)))
  have F_a_elementData := F_a_elementData.same W20
  have F_a_size := F_a_size.other W20 (Or.inr (slot_ne (Or.inl (hw _ (List.mem_of_getElem? (i := 48) rfl))) (Or.inl (hw _ (List.mem_of_getElem? (i := 29) rfl))) (by decide) (t := .int) (t' := (.array (.object "java/lang/Object"))) (by decide) (by decide)))
  have E_a := E_a.wr W20
  have O := O.wr W20 g_a
  have Zn := Nat.le_trans Zn (Keep.of_wr W20).1
  have Kp := Kp.wr W20 (Or.inl (List.mem_of_getElem? (i := 0) rfl))
  refine own_st (A := T20.setTop (mkF mM 64 #[.val (.ref a), .val (.ref l'), .val (.ref b17)] [])) (fun tT_ kK_ => st20 tT_ kK_) ?_
  exact own_retV X20 hx hlk hret (hb hby d6_64) (by rw [e20]; exact ⟨rfl, N20, Kp, E_a⟩) (by decide) (by decide)
def QU (Z : State) (a : Addr) (l' : Addr) (h0 : Heap) (n0 : Nat) (v : Option Value) (h : Heap) (L : List Loc) : Prop := v = none ∧ Fr n0 L ∧ Keep h0 h [a] ∧ Exa Z h a "java/util/Collections$UnmodifiableRandomAccessList" ∧ Fld Z h a "java/util/Collections$UnmodifiableCollection" "c" "Ljava/util/Collection;" (.ref l') ∧ Fld Z h a "java/util/Collections$UnmodifiableList" "list" "Ljava/util/List;" .null
theorem d14_0 : decode jdk_119_method_1_code 0 = .ok (.aload_n 0, 1) := by decide +kernel
theorem d14_1 : decode jdk_119_method_1_code 1 = .ok (.invokespecial 1, 3) := by decide +kernel
theorem d14_4 : decode jdk_119_method_1_code 4 = .ok (.aload_n 1, 1) := by decide +kernel
theorem d14_5 : decode jdk_119_method_1_code 5 = .ok (.ifnonnull 11, 3) := by decide +kernel
theorem d14_16 : decode jdk_119_method_1_code 16 = .ok (.aload_n 0, 1) := by decide +kernel
theorem d14_17 : decode jdk_119_method_1_code 17 = .ok (.aload_n 1, 1) := by decide +kernel
theorem d14_18 : decode jdk_119_method_1_code 18 = .ok (.putfield 10, 3) := by decide +kernel
theorem d14_21 : decode jdk_119_method_1_code 21 = .ok (.return_, 1) := by decide +kernel
theorem pn_java_2futil_2fCollections_24UnmodifiableCollection : plainName "java/util/Collections$UnmodifiableCollection" = true := by first | (simp [plainName, overriddenIn]; done) | decide +kernel
theorem ef_rmUC (mM : MethodId) (a : Addr) (l' : Addr) : entryFrame mM #[(.ref a), (.ref l')] 2 = mkF mM 0 #[.val (.ref a), .val (.ref l')] [] := by first | (simp [entryFrame, mkF, argsToLocals, Value.category]; done) | rfl
set_option maxRecDepth 65536 in
set_option maxHeartbeats 40000000 in
theorem rmUC (lL : Launch) (Z : State) (a0 : Array Value) (hw : ∀ d ∈ tables_1, d.before a0 Z = true) (ws : List Jvm.Cond) (a : Addr) (l' : Addr) (h0 : Heap) (n0 : Nat) (g_a : n0 ≤ a) (E_a : Exa Z h0 a "java/util/Collections$UnmodifiableRandomAccessList") (F_a_c : Fld Z h0 a "java/util/Collections$UnmodifiableCollection" "c" "Ljava/util/Collection;" .null) (F_a_list : Fld Z h0 a "java/util/Collections$UnmodifiableList" "list" "Ljava/util/List;" .null) :
    MetFree lL (⟨"java/util/Collections$UnmodifiableCollection", "<init>", "(Ljava/util/Collection;)V"⟩ : MethodName) (head1 (Jvm.Cond.code (⟨"java/util/Collections$UnmodifiableCollection", "<init>", "(Ljava/util/Collection;)V"⟩ : MethodName) jdk_119_method_1_code 2 none :: ws) ({ frames := 1, cells := 0, slots := 0, locals := 12 } : Room)) (fun as_ uU_ => as_ = #[(.ref a), (.ref l')] ∧ Z.Warmed39 uU_.vm ∧ uU_.heap = h0) (fun _ _ _ _ _ => True) (fun _ uU_ oO_ uE_ => ∃ vV_ lL_, oO_ = .returned vV_ ∧ QU Z a l' h0 n0 vV_ uE_.heap lL_ ∧ FrameEnd uU_ oO_ uE_ lL_ ({ frames := 1, cells := 0, slots := 0, locals := 12 } : Room).cells ({ frames := 1, cells := 0, slots := 0, locals := 12 } : Room).slots) := by
  refine MetFree.of_bodySF (plainFor_of_name pn_java_2futil_2fCollections_24UnmodifiableCollection) hisR ?_
  intro pP eE sS mM args below meth cC s₁ Bd hml0 hP hK
  obtain ⟨rfl, hZ, hh⟩ := hP
  have hx := Bd.exec
  have hby := Bd.bytes
  have hml : cC.maxLocals = 2 := hml0
  have hown : sS.vm.findClass "java/util/Collections$UnmodifiableCollection" = some mM.cls := findClass_of_methodNamed Bd.named
  have hnm := (name_of_methodNamed Bd.named Bd.method).1
  have hret := Bd.returns
  have hlk := BodyLoose.notSynchronized Bd
  have X0 : Stand pP lL eE ({ frames := 1, cells := 0, slots := 0, locals := 12 } : Room) sS mM #[(.ref a), (.ref l')] below meth cC s₁ [] 0 0 := Stand.of_body Bd
  have e0 : s₁.heap = h0 := by rw [← hh, Bd.state]; rfl
  have N0 := Fr.nil n0
  show own_Go pP eE below sS (QU Z a l' h0 n0) 0 0 (s₁.setTop (entryFrame mM #[(.ref a), (.ref l')] 2))
  refine own_st (A := s₁.setTop (mkF mM 0 #[.val (.ref a), .val (.ref l')] [])) (fun tT_ kK_ => castTop (ef_rmUC mM a l') kK_) ?_
  have Kp := Keep.refl h0 [a]
  refine own_st (A := s₁.setTop (mkF mM 1 #[.val (.ref a), .val (.ref l')] [(.ref a)])) (fun tT_ kK_ => XS.aloadN X0.here hx rfl (hb hby d14_0) rfl rfl kK_) ?_
  obtain ⟨T21, X21, e21, st21⟩ := initO X0 hx hZ hown (hw _ (List.mem_of_getElem? (i := 109) rfl)) (hw _ (List.mem_of_getElem? (i := 23) rfl)) (hw _ (List.mem_of_getElem? (i := 24) rfl)) e0 (g := (mkF mM 1 #[.val (.ref a), .val (.ref l')] [(.ref a)])) rfl (by rw [hml]; rfl) rfl (hb hby d14_1) (by decide) (W := 0) (by show 2 * 0 + _ ≤ _; exact Nat.le_of_eq rfl) (by decide)
  refine own_st (A := T21.setTop (mkF mM 4 #[.val (.ref a), .val (.ref l')] [])) (fun tT_ kK_ => st21 tT_ kK_) ?_
  refine own_st (A := T21.setTop (mkF mM 5 #[.val (.ref a), .val (.ref l')] [(.ref l')])) (fun tT_ kK_ => XS.aloadN X21.here hx rfl (hb hby d14_4) rfl rfl kK_) ?_
  refine own_st (A := T21.setTop (mkF mM 16 #[.val (.ref a), .val (.ref l')] [])) (fun tT_ kK_ => XS.ifnonnullYes X21.here hx rfl (pc0 := 5) (pc' := 16) rfl (hb hby d14_5) rfl (by decide) (by decide) kK_) ?_
  refine own_st (A := T21.setTop (mkF mM 17 #[.val (.ref a), .val (.ref l')] [(.ref a)])) (fun tT_ kK_ => XS.aloadN X21.here hx rfl (hb hby d14_16) rfl rfl kK_) ?_
  refine own_st (A := T21.setTop (mkF mM 18 #[.val (.ref a), .val (.ref l')] [(.ref l'), (.ref a)])) (fun tT_ kK_ => XS.aloadN X21.here hx rfl (hb hby d14_17) rfl rfl kK_) ?_
  obtain ⟨T22, h22, X22, e22, W22, st22⟩ := putF X21 hx hZ hown (host := "") (Or.inl (hw _ (List.mem_of_getElem? (i := 110) rfl))) Via.refl e21 F_a_c E_a (Or.inr ⟨(hw _ (List.mem_of_getElem? (i := 111) rfl)), rfl, hnm⟩) (hw _ (List.mem_of_getElem? (i := 92) rfl)) (ty := (.object "java/util/Collection")) (by decide) rfl rfl (g := (mkF mM 18 #[.val (.ref a), .val (.ref l')] [(.ref l'), (.ref a)])) rfl rfl (hb hby d14_18)
  have N22 := Fr.snoc X22 N0 g_a
  have F_a_c := F_a_c.same W22
  have F_a_list := F_a_list.other W22 (Or.inr (slot_ne (Or.inr (hw _ (List.mem_of_getElem? (i := 113) rfl))) (Or.inr (hw _ (List.mem_of_getElem? (i := 111) rfl))) (by decide) (t := (.object "java/util/List")) (t' := (.object "java/util/Collection")) (by decide) (by decide)))
  have E_a := E_a.wr W22
  have Kp := Kp.wr W22 (Or.inl (List.mem_of_getElem? (i := 0) rfl))
  refine own_st (A := T22.setTop (mkF mM 21 #[.val (.ref a), .val (.ref l')] [])) (fun tT_ kK_ => st22 tT_ kK_) ?_
  exact own_retV X22 hx hlk hret (hb hby d14_21) (by rw [e22]; exact ⟨rfl, N22, Kp, E_a, F_a_c, F_a_list⟩) (by decide) (by decide)
theorem d13_0 : decode jdk_120_method_1_code 0 = .ok (.aload_n 0, 1) := by decide +kernel
theorem d13_1 : decode jdk_120_method_1_code 1 = .ok (.aload_n 1, 1) := by decide +kernel
theorem d13_2 : decode jdk_120_method_1_code 2 = .ok (.invokespecial 1, 3) := by decide +kernel
theorem pd__28Ljava_2futil_2fCollection_3b_29V : parseMethodDescriptor "(Ljava/util/Collection;)V" = some ⟨[(.object "java/util/Collection")], none⟩ := by decide +kernel
theorem d13_5 : decode jdk_120_method_1_code 5 = .ok (.aload_n 0, 1) := by decide +kernel
theorem d13_6 : decode jdk_120_method_1_code 6 = .ok (.aload_n 1, 1) := by decide +kernel
theorem d13_7 : decode jdk_120_method_1_code 7 = .ok (.putfield 7, 3) := by decide +kernel
theorem d13_10 : decode jdk_120_method_1_code 10 = .ok (.return_, 1) := by decide +kernel
theorem pn_java_2futil_2fCollections_24UnmodifiableList : plainName "java/util/Collections$UnmodifiableList" = true := by first | (simp [plainName, overriddenIn]; done) | decide +kernel
theorem ef_rmUL (mM : MethodId) (a : Addr) (l' : Addr) : entryFrame mM #[(.ref a), (.ref l')] 2 = mkF mM 0 #[.val (.ref a), .val (.ref l')] [] := by first | (simp [entryFrame, mkF, argsToLocals, Value.category]; done) | rfl
set_option maxRecDepth 65536 in
set_option maxHeartbeats 40000000 in
theorem rmUL (lL : Launch) (Z : State) (a0 : Array Value) (hw : ∀ d ∈ tables_1, d.before a0 Z = true) (ws : List Jvm.Cond) (a : Addr) (l' : Addr) (h0 : Heap) (n0 : Nat) (g_a : n0 ≤ a) (E_a : Exa Z h0 a "java/util/Collections$UnmodifiableRandomAccessList") (F_a_c : Fld Z h0 a "java/util/Collections$UnmodifiableCollection" "c" "Ljava/util/Collection;" .null) (F_a_list : Fld Z h0 a "java/util/Collections$UnmodifiableList" "list" "Ljava/util/List;" .null) :
    MetFree lL (⟨"java/util/Collections$UnmodifiableList", "<init>", "(Ljava/util/List;)V"⟩ : MethodName) (head1 (Jvm.Cond.code (⟨"java/util/Collections$UnmodifiableList", "<init>", "(Ljava/util/List;)V"⟩ : MethodName) jdk_120_method_1_code 2 none :: ws) ({ frames := 2, cells := 0, slots := 0, locals := 25 } : Room)) (fun as_ uU_ => as_ = #[(.ref a), (.ref l')] ∧ Z.Warmed39 uU_.vm ∧ uU_.heap = h0) (fun _ _ _ _ _ => True) (fun _ uU_ oO_ uE_ => ∃ vV_ lL_, oO_ = .returned vV_ ∧ QK Z a "java/util/Collections$UnmodifiableRandomAccessList" h0 n0 vV_ uE_.heap lL_ ∧ FrameEnd uU_ oO_ uE_ lL_ ({ frames := 2, cells := 0, slots := 0, locals := 25 } : Room).cells ({ frames := 2, cells := 0, slots := 0, locals := 25 } : Room).slots) := by
  refine MetFree.of_bodySF (plainFor_of_name pn_java_2futil_2fCollections_24UnmodifiableList) hisR ?_
  intro pP eE sS mM args below meth cC s₁ Bd hml0 hP hK
  obtain ⟨rfl, hZ, hh⟩ := hP
  have hx := Bd.exec
  have hby := Bd.bytes
  have hml : cC.maxLocals = 2 := hml0
  have hown : sS.vm.findClass "java/util/Collections$UnmodifiableList" = some mM.cls := findClass_of_methodNamed Bd.named
  have hnm := (name_of_methodNamed Bd.named Bd.method).1
  have hret := Bd.returns
  have hlk := BodyLoose.notSynchronized Bd
  have X0 : Stand pP lL eE ({ frames := 2, cells := 0, slots := 0, locals := 25 } : Room) sS mM #[(.ref a), (.ref l')] below meth cC s₁ [] 0 0 := Stand.of_body Bd
  have e0 : s₁.heap = h0 := by rw [← hh, Bd.state]; rfl
  have N0 := Fr.nil n0
  show own_Go pP eE below sS (QK Z a "java/util/Collections$UnmodifiableRandomAccessList" h0 n0) 0 0 (s₁.setTop (entryFrame mM #[(.ref a), (.ref l')] 2))
  refine own_st (A := s₁.setTop (mkF mM 0 #[.val (.ref a), .val (.ref l')] [])) (fun tT_ kK_ => castTop (ef_rmUL mM a l') kK_) ?_
  have Kp := Keep.refl h0 [a]
  refine own_st (A := s₁.setTop (mkF mM 1 #[.val (.ref a), .val (.ref l')] [(.ref a)])) (fun tT_ kK_ => XS.aloadN X0.here hx rfl (hb hby d13_0) rfl rfl kK_) ?_
  refine own_st (A := s₁.setTop (mkF mM 2 #[.val (.ref a), .val (.ref l')] [(.ref l'), (.ref a)])) (fun tT_ kK_ => XS.aloadN X0.here hx rfl (hb hby d13_1) rfl rfl kK_) ?_
  obtain ⟨_, _, ⟨T23, L23, k23, n23⟩, -, X23, ⟨Lc23, hQ23, l23, y23, z23⟩, st23⟩ := X0.specialBack hx (y := (⟨"java/util/Collections$UnmodifiableCollection", "<init>", "(Ljava/util/Collection;)V"⟩ : MethodName)) rfl hown (mvT hZ (hw _ (List.mem_of_getElem? (i := 103) rfl))) (mvT hZ (hw _ (List.mem_of_getElem? (i := 104) rfl))) (mvT hZ (hw _ (List.mem_of_getElem? (i := 108) rfl))) (by decide) (backOf (W := 0) (rmUC lL Z a0 hw [] a l' h0 n0 g_a E_a F_a_c F_a_list) hZ (hw _ (List.mem_of_getElem? (i := 108) rfl)) (hw _ (List.mem_of_getElem? (i := 107) rfl)) (by decide) (by decide)) (g := (mkF mM 2 #[.val (.ref a), .val (.ref l')] [(.ref l'), (.ref a)])) rfl (by rw [hml]; rfl) (Steps.refl _) (a := a) (argsL := [(.ref l')]) (rest := []) (lenOf pd__28Ljava_2futil_2fCollection_3b_29V rfl) rfl (by show 2 * 0 + _ ≤ _; exact Nat.le_of_eq rfl) (hb hby d13_2) (fun _ _ => ⟨rfl, e0, (by decide : 0 + 0 ≤ _), (by decide : 0 + 0 ≤ _)⟩)
  dsimp only [Pt.U, Pt.locs, Pt.cells, Pt.slots] at X23 l23 y23 z23 st23 hQ23
  subst l23 y23 z23
  obtain ⟨rfl, N23q, K23, x23, y23, z23'⟩ := hQ23
  have N23 := Fr.app N0 N23q
  have e23 : T23.heap = T23.heap := rfl
  refine own_st (A := T23.setTop (mkF mM 5 #[.val (.ref a), .val (.ref l')] [])) (fun tT_ kK_ => st23.trans kK_) ?_
  have E_a := E_a.keep K23
  have Kp := Kp.trans K23 (allS (Or.inl (List.mem_of_getElem? (i := 0) rfl)) all0)
  have E_a := x23
  have F_a_c := y23
  have F_a_list := z23'
  refine own_st (A := T23.setTop (mkF mM 6 #[.val (.ref a), .val (.ref l')] [(.ref a)])) (fun tT_ kK_ => XS.aloadN X23.here hx rfl (hb hby d13_5) rfl rfl kK_) ?_
  refine own_st (A := T23.setTop (mkF mM 7 #[.val (.ref a), .val (.ref l')] [(.ref l'), (.ref a)])) (fun tT_ kK_ => XS.aloadN X23.here hx rfl (hb hby d13_6) rfl rfl kK_) ?_
  obtain ⟨T24, h24, X24, e24, W24, st24⟩ := putF X23 hx hZ hown (host := "") (Or.inl (hw _ (List.mem_of_getElem? (i := 112) rfl))) Via.refl e23 F_a_list E_a (Or.inr ⟨(hw _ (List.mem_of_getElem? (i := 113) rfl)), rfl, hnm⟩) (hw _ (List.mem_of_getElem? (i := 92) rfl)) (ty := (.object "java/util/List")) (by decide) rfl rfl (g := (mkF mM 7 #[.val (.ref a), .val (.ref l')] [(.ref l'), (.ref a)])) rfl rfl (hb hby d13_7)
  have N24 := Fr.snoc X24 N23 g_a
  have F_a_c := F_a_c.other W24 (Or.inr (slot_ne (Or.inr (hw _ (List.mem_of_getElem? (i := 111) rfl))) (Or.inr (hw _ (List.mem_of_getElem? (i := 113) rfl))) (by decide) (t := (.object "java/util/Collection")) (t' := (.object "java/util/List")) (by decide) (by decide)))
  have F_a_list := F_a_list.same W24
  have E_a := E_a.wr W24
  have Kp := Kp.wr W24 (Or.inl (List.mem_of_getElem? (i := 0) rfl))
  refine own_st (A := T24.setTop (mkF mM 10 #[.val (.ref a), .val (.ref l')] [])) (fun tT_ kK_ => st24 tT_ kK_) ?_
  exact own_retV X24 hx hlk hret (hb hby d13_10) (by rw [e24]; exact ⟨rfl, N24, Kp, E_a⟩) (by decide) (by decide)
theorem d12_0 : decode jdk_121_method_1_code 0 = .ok (.aload_n 0, 1) := by decide +kernel
theorem d12_1 : decode jdk_121_method_1_code 1 = .ok (.aload_n 1, 1) := by decide +kernel
theorem d12_2 : decode jdk_121_method_1_code 2 = .ok (.invokespecial 1, 3) := by decide +kernel
theorem pd__28Ljava_2futil_2fList_3b_29V : parseMethodDescriptor "(Ljava/util/List;)V" = some ⟨[(.object "java/util/List")], none⟩ := by decide +kernel
theorem d12_5 : decode jdk_121_method_1_code 5 = .ok (.return_, 1) := by decide +kernel
theorem pn_java_2futil_2fCollections_24UnmodifiableRandomAccessList : plainName "java/util/Collections$UnmodifiableRandomAccessList" = true := by first | (simp [plainName, overriddenIn]; done) | decide +kernel
theorem ef_rmUR (mM : MethodId) (a : Addr) (l' : Addr) : entryFrame mM #[(.ref a), (.ref l')] 2 = mkF mM 0 #[.val (.ref a), .val (.ref l')] [] := by first | (simp [entryFrame, mkF, argsToLocals, Value.category]; done) | rfl
set_option maxRecDepth 65536 in
set_option maxHeartbeats 40000000 in
theorem rmUR (lL : Launch) (Z : State) (a0 : Array Value) (hw : ∀ d ∈ tables_1, d.before a0 Z = true) (ws : List Jvm.Cond) (a : Addr) (l' : Addr) (h0 : Heap) (n0 : Nat) (g_a : n0 ≤ a) (E_a : Exa Z h0 a "java/util/Collections$UnmodifiableRandomAccessList") (F_a_c : Fld Z h0 a "java/util/Collections$UnmodifiableCollection" "c" "Ljava/util/Collection;" .null) (F_a_list : Fld Z h0 a "java/util/Collections$UnmodifiableList" "list" "Ljava/util/List;" .null) :
    MetFree lL (⟨"java/util/Collections$UnmodifiableRandomAccessList", "<init>", "(Ljava/util/List;)V"⟩ : MethodName) (head1 (Jvm.Cond.code (⟨"java/util/Collections$UnmodifiableRandomAccessList", "<init>", "(Ljava/util/List;)V"⟩ : MethodName) jdk_121_method_1_code 2 none :: ws) ({ frames := 3, cells := 0, slots := 0, locals := 38 } : Room)) (fun as_ uU_ => as_ = #[(.ref a), (.ref l')] ∧ Z.Warmed39 uU_.vm ∧ uU_.heap = h0) (fun _ _ _ _ _ => True) (fun _ uU_ oO_ uE_ => ∃ vV_ lL_, oO_ = .returned vV_ ∧ QK Z a "java/util/Collections$UnmodifiableRandomAccessList" h0 n0 vV_ uE_.heap lL_ ∧ FrameEnd uU_ oO_ uE_ lL_ ({ frames := 3, cells := 0, slots := 0, locals := 38 } : Room).cells ({ frames := 3, cells := 0, slots := 0, locals := 38 } : Room).slots) := by
  refine MetFree.of_bodySF (plainFor_of_name pn_java_2futil_2fCollections_24UnmodifiableRandomAccessList) hisR ?_
  intro pP eE sS mM args below meth cC s₁ Bd hml0 hP hK
  obtain ⟨rfl, hZ, hh⟩ := hP
  have hx := Bd.exec
  have hby := Bd.bytes
  have hml : cC.maxLocals = 2 := hml0
  have hown : sS.vm.findClass "java/util/Collections$UnmodifiableRandomAccessList" = some mM.cls := findClass_of_methodNamed Bd.named
  have hnm := (name_of_methodNamed Bd.named Bd.method).1
  have hret := Bd.returns
  have hlk := BodyLoose.notSynchronized Bd
  have X0 : Stand pP lL eE ({ frames := 3, cells := 0, slots := 0, locals := 38 } : Room) sS mM #[(.ref a), (.ref l')] below meth cC s₁ [] 0 0 := Stand.of_body Bd
  have e0 : s₁.heap = h0 := by rw [← hh, Bd.state]; rfl
  have N0 := Fr.nil n0
  show own_Go pP eE below sS (QK Z a "java/util/Collections$UnmodifiableRandomAccessList" h0 n0) 0 0 (s₁.setTop (entryFrame mM #[(.ref a), (.ref l')] 2))
  refine own_st (A := s₁.setTop (mkF mM 0 #[.val (.ref a), .val (.ref l')] [])) (fun tT_ kK_ => castTop (ef_rmUR mM a l') kK_) ?_
  have Kp := Keep.refl h0 [a]
  refine own_st (A := s₁.setTop (mkF mM 1 #[.val (.ref a), .val (.ref l')] [(.ref a)])) (fun tT_ kK_ => XS.aloadN X0.here hx rfl (hb hby d12_0) rfl rfl kK_) ?_
  refine own_st (A := s₁.setTop (mkF mM 2 #[.val (.ref a), .val (.ref l')] [(.ref l'), (.ref a)])) (fun tT_ kK_ => XS.aloadN X0.here hx rfl (hb hby d12_1) rfl rfl kK_) ?_
  obtain ⟨_, _, ⟨T25, L25, k25, n25⟩, -, X25, ⟨Lc25, hQ25, l25, y25, z25⟩, st25⟩ := X0.specialBack hx (y := (⟨"java/util/Collections$UnmodifiableList", "<init>", "(Ljava/util/List;)V"⟩ : MethodName)) rfl hown (mvT hZ (hw _ (List.mem_of_getElem? (i := 97) rfl))) (mvT hZ (hw _ (List.mem_of_getElem? (i := 98) rfl))) (mvT hZ (hw _ (List.mem_of_getElem? (i := 102) rfl))) (by decide) (backOf (W := 0) (rmUL lL Z a0 hw [] a l' h0 n0 g_a E_a F_a_c F_a_list) hZ (hw _ (List.mem_of_getElem? (i := 102) rfl)) (hw _ (List.mem_of_getElem? (i := 101) rfl)) (by decide) (by decide)) (g := (mkF mM 2 #[.val (.ref a), .val (.ref l')] [(.ref l'), (.ref a)])) rfl (by rw [hml]; rfl) (Steps.refl _) (a := a) (argsL := [(.ref l')]) (rest := []) (lenOf pd__28Ljava_2futil_2fList_3b_29V rfl) rfl (by show 2 * 0 + _ ≤ _; exact Nat.le_of_eq rfl) (hb hby d12_2) (fun _ _ => ⟨rfl, e0, (by decide : 0 + 0 ≤ _), (by decide : 0 + 0 ≤ _)⟩)
  dsimp only [Pt.U, Pt.locs, Pt.cells, Pt.slots] at X25 l25 y25 z25 st25 hQ25
  subst l25 y25 z25
  obtain ⟨rfl, N25q, K25, x25⟩ := hQ25
  have N25 := Fr.app N0 N25q
  have e25 : T25.heap = T25.heap := rfl
  refine own_st (A := T25.setTop (mkF mM 5 #[.val (.ref a), .val (.ref l')] [])) (fun tT_ kK_ => st25.trans kK_) ?_
  have E_a := E_a.keep K25
  have Kp := Kp.trans K25 (allS (Or.inl (List.mem_of_getElem? (i := 0) rfl)) all0)
  exact own_retV X25 hx hlk hret (hb hby d12_5) (by rw [e25]; exact ⟨rfl, N25, Kp, E_a⟩) (by decide) (by decide)
theorem d11_0 : decode jdk_79_method_35_code 0 = .ok (.aload_n 0, 1) := by decide +kernel
theorem d11_1 : decode jdk_79_method_35_code 1 = .ok (.invokeinterface 211 1, 5) := by decide +kernel
theorem d11_6 : decode jdk_79_method_35_code 6 = .ok (.ldc 212, 2) := by decide +kernel
theorem d11_8 : decode jdk_79_method_35_code 8 = .ok (.if_acmp .eq 14, 3) := by decide +kernel
theorem d11_22 : decode jdk_79_method_35_code 22 = .ok (.aload_n 0, 1) := by decide +kernel
theorem d11_23 : decode jdk_79_method_35_code 23 = .ok (.areturn, 1) := by decide +kernel
theorem d11_11 : decode jdk_79_method_35_code 11 = .ok (.aload_n 0, 1) := by decide +kernel
theorem d11_12 : decode jdk_79_method_35_code 12 = .ok (.invokeinterface 214 1, 5) := by decide +kernel
theorem d11_17 : decode jdk_79_method_35_code 17 = .ok (.ldc 215, 2) := by decide +kernel
theorem d11_19 : decode jdk_79_method_35_code 19 = .ok (.if_acmp .ne 5, 3) := by decide +kernel
theorem d11_24 : decode jdk_79_method_35_code 24 = .ok (.aload_n 0, 1) := by decide +kernel
theorem d11_25 : decode jdk_79_method_35_code 25 = .ok (.instanceof 13, 3) := by decide +kernel
theorem d11_28 : decode jdk_79_method_35_code 28 = .ok (.ifCond .eq 14, 3) := by decide +kernel
theorem d11_31 : decode jdk_79_method_35_code 31 = .ok (.new 215, 3) := by decide +kernel
theorem d11_34 : decode jdk_79_method_35_code 34 = .ok (.dup, 1) := by decide +kernel
theorem d11_35 : decode jdk_79_method_35_code 35 = .ok (.aload_n 0, 1) := by decide +kernel
theorem d11_36 : decode jdk_79_method_35_code 36 = .ok (.invokespecial 217, 3) := by decide +kernel
theorem d11_39 : decode jdk_79_method_35_code 39 = .ok (.goto 11, 3) := by decide +kernel
theorem d11_50 : decode jdk_79_method_35_code 50 = .ok (.areturn, 1) := by decide +kernel
theorem pn_java_2futil_2fCollections : plainName "java/util/Collections" = true := by first | (simp [plainName, overriddenIn]; done) | decide +kernel
theorem ef_rmUn (mM : MethodId) (a : Addr) (ma : Addr) (ml : Addr) (mr : Addr) : entryFrame mM #[(.ref a)] 1 = mkF mM 0 #[.val (.ref a)] [] := by first | (simp [entryFrame, mkF, argsToLocals, Value.category]; done) | rfl
set_option maxRecDepth 65536 in
set_option maxHeartbeats 40000000 in
theorem rmUn (lL : Launch) (Z : State) (a0 : Array Value) (hw : ∀ d ∈ tables_1, d.before a0 Z = true) (ws : List Jvm.Cond) (a : Addr) (ma : Addr) (ml : Addr) (mr : Addr) (h0 : Heap) (n0 : Nat) (Zn : n0 ≤ h0.size) (E_a : Exa Z h0 a "java/util/ArrayList") (M_a : own_Mr Z "java/util/ArrayList" ma) (M_l : own_Mr Z "java/util/Collections$UnmodifiableList" ml) (M_r : own_Mr Z "java/util/Collections$UnmodifiableRandomAccessList" mr) :
    MetFree lL (⟨"java/util/Collections", "unmodifiableList", "(Ljava/util/List;)Ljava/util/List;"⟩ : MethodName) (head1 (Jvm.Cond.code (⟨"java/util/Collections", "unmodifiableList", "(Ljava/util/List;)Ljava/util/List;"⟩ : MethodName) jdk_79_method_35_code 1 (some (.object "java/util/List")) :: ws) ({ frames := 4, cells := 1, slots := 2, locals := 52 } : Room)) (fun as_ uU_ => as_ = #[(.ref a)] ∧ Z.Warmed39 uU_.vm ∧ uU_.heap = h0) (fun _ _ _ _ _ => True) (fun _ uU_ oO_ uE_ => ∃ vV_ lL_, oO_ = .returned vV_ ∧ QR h0 n0 vV_ uE_.heap lL_ ∧ FrameEnd uU_ oO_ uE_ lL_ ({ frames := 4, cells := 1, slots := 2, locals := 52 } : Room).cells ({ frames := 4, cells := 1, slots := 2, locals := 52 } : Room).slots) := by
  refine MetFree.of_bodySF (plainFor_of_name pn_java_2futil_2fCollections) hisR ?_
  intro pP eE sS mM args below meth cC s₁ Bd hml0 hP hK
  obtain ⟨rfl, hZ, hh⟩ := hP
  have hx := Bd.exec
  have hby := Bd.bytes
  have hml : cC.maxLocals = 1 := hml0
  have hown : sS.vm.findClass "java/util/Collections" = some mM.cls := findClass_of_methodNamed Bd.named
  have hnm := (name_of_methodNamed Bd.named Bd.method).1
  have hret := Bd.returns
  have hlk := BodyLoose.notSynchronized Bd
  have X0 : Stand pP lL eE ({ frames := 4, cells := 1, slots := 2, locals := 52 } : Room) sS mM #[(.ref a)] below meth cC s₁ [] 0 0 := Stand.of_body Bd
  have e0 : s₁.heap = h0 := by rw [← hh, Bd.state]; rfl
  have N0 := Fr.nil n0
  show own_Go pP eE below sS (QR h0 n0) 1 2 (s₁.setTop (entryFrame mM #[(.ref a)] 1))
  refine own_st (A := s₁.setTop (mkF mM 0 #[.val (.ref a)] [])) (fun tT_ kK_ => castTop (ef_rmUn mM a ma ml mr) kK_) ?_
  have Kp := Keep.refl h0 []
  refine own_st (A := s₁.setTop (mkF mM 1 #[.val (.ref a)] [(.ref a)])) (fun tT_ kK_ => XS.aloadN X0.here hx rfl (hb hby d11_0) rfl rfl kK_) ?_
  obtain ⟨T26, X26, e26, st26⟩ := own_gclsI X0 hx hZ (xi := (⟨"java/util/List", "getClass", "()Ljava/lang/Class;"⟩ : MethodName)) hown (hw _ (List.mem_of_getElem? (i := 78) rfl)) (hw _ (List.mem_of_getElem? (i := 54) rfl)) (hw _ (List.mem_of_getElem? (i := 79) rfl)) (hw _ (List.mem_of_getElem? (i := 80) rfl)) (hw _ (List.mem_of_getElem? (i := 55) rfl)) (hw _ (List.mem_of_getElem? (i := 81) rfl)) (hw _ (List.mem_of_getElem? (i := 82) rfl)) (hw _ (List.mem_of_getElem? (i := 83) rfl)) (hw _ (List.mem_of_getElem? (i := 57) rfl)) rfl rfl (by decide) (by decide) e0 E_a M_a (g := (mkF mM 1 #[.val (.ref a)] [(.ref a)])) rfl (by rw [hml]; rfl) rfl (hb hby d11_1) (by decide) (W := 0) (by show 2 * 0 + _ ≤ _; exact Nat.le_of_eq rfl) (by decide)
  refine own_st (A := T26.setTop (mkF mM 6 #[.val (.ref a)] [(.ref ma)])) (fun tT_ kK_ => st26 tT_ kK_) ?_
  obtain ⟨T27, X27, e27, st27⟩ := own_ldcM X26 hx hZ hown (hw _ (List.mem_of_getElem? (i := 85) rfl)) e26 M_l (g := (mkF mM 6 #[.val (.ref a)] [(.ref ma)])) rfl (hb hby d11_6)
  refine own_st (A := T27.setTop (mkF mM 8 #[.val (.ref a)] [(.ref ml), (.ref ma)])) (fun tT_ kK_ => st27 tT_ kK_) ?_
  by_cases hc8_28 : ((.ref ma) : Value) = (.ref ml)
  · skip
    refine own_st (A := T27.setTop (mkF mM 22 #[.val (.ref a)] [])) (fun tT_ kK_ => Jvm.RoadKit.acmp X27 hx rfl (x := (.ref ma)) (y := (.ref ml)) rfl rfl (pc0 := 8) (pc' := 22) (same := true) rfl (hb hby d11_8) rfl (decide_eq_true hc8_28) (by decide) (by decide) kK_) ?_
    refine own_st (A := T27.setTop (mkF mM 23 #[.val (.ref a)] [(.ref a)])) (fun tT_ kK_ => XS.aloadN X27.here hx rfl (hb hby d11_22) rfl rfl kK_) ?_
    exact own_retA X27 hx hlk hret rfl rfl (hb hby d11_23) ⟨_, rfl, N0, own_ext_of_keep (by rw [e27]; exact Kp)⟩ (by decide) (by decide)
  · skip
    refine own_st (A := T27.setTop (mkF mM 11 #[.val (.ref a)] [])) (fun tT_ kK_ => Jvm.RoadKit.acmp X27 hx rfl (x := (.ref ma)) (y := (.ref ml)) rfl rfl (pc0 := 8) (pc' := 11) (same := false) rfl (hb hby d11_8) rfl (decide_eq_false hc8_28) (by decide) (by decide) kK_) ?_
    refine own_st (A := T27.setTop (mkF mM 12 #[.val (.ref a)] [(.ref a)])) (fun tT_ kK_ => XS.aloadN X27.here hx rfl (hb hby d11_11) rfl rfl kK_) ?_
    obtain ⟨T29, X29, e29, st29⟩ := own_gclsI X27 hx hZ (xi := (⟨"java/util/List", "getClass", "()Ljava/lang/Class;"⟩ : MethodName)) hown (hw _ (List.mem_of_getElem? (i := 87) rfl)) (hw _ (List.mem_of_getElem? (i := 54) rfl)) (hw _ (List.mem_of_getElem? (i := 79) rfl)) (hw _ (List.mem_of_getElem? (i := 80) rfl)) (hw _ (List.mem_of_getElem? (i := 55) rfl)) (hw _ (List.mem_of_getElem? (i := 81) rfl)) (hw _ (List.mem_of_getElem? (i := 82) rfl)) (hw _ (List.mem_of_getElem? (i := 83) rfl)) (hw _ (List.mem_of_getElem? (i := 57) rfl)) rfl rfl (by decide) (by decide) e27 E_a M_a (g := (mkF mM 12 #[.val (.ref a)] [(.ref a)])) rfl (by rw [hml]; rfl) rfl (hb hby d11_12) (by decide) (W := 0) (by show 2 * 0 + _ ≤ _; exact Nat.le_of_eq rfl) (by decide)
    refine own_st (A := T29.setTop (mkF mM 17 #[.val (.ref a)] [(.ref ma)])) (fun tT_ kK_ => st29 tT_ kK_) ?_
    obtain ⟨T30, X30, e30, st30⟩ := own_ldcM X29 hx hZ hown (hw _ (List.mem_of_getElem? (i := 88) rfl)) e29 M_r (g := (mkF mM 17 #[.val (.ref a)] [(.ref ma)])) rfl (hb hby d11_17)
    refine own_st (A := T30.setTop (mkF mM 19 #[.val (.ref a)] [(.ref mr), (.ref ma)])) (fun tT_ kK_ => st30 tT_ kK_) ?_
    by_cases hc19_31 : ((.ref ma) : Value) = (.ref mr)
    · skip
      refine own_st (A := T30.setTop (mkF mM 22 #[.val (.ref a)] [])) (fun tT_ kK_ => Jvm.RoadKit.acmp X30 hx rfl (x := (.ref ma)) (y := (.ref mr)) rfl rfl (pc0 := 19) (pc' := 22) (same := true) rfl (hb hby d11_19) rfl (decide_eq_true hc19_31) (by decide) (by decide) kK_) ?_
      refine own_st (A := T30.setTop (mkF mM 23 #[.val (.ref a)] [(.ref a)])) (fun tT_ kK_ => XS.aloadN X30.here hx rfl (hb hby d11_22) rfl rfl kK_) ?_
      exact own_retA X30 hx hlk hret rfl rfl (hb hby d11_23) ⟨_, rfl, N0, own_ext_of_keep (by rw [e30]; exact Kp)⟩ (by decide) (by decide)
    · skip
      refine own_st (A := T30.setTop (mkF mM 24 #[.val (.ref a)] [])) (fun tT_ kK_ => Jvm.RoadKit.acmp X30 hx rfl (x := (.ref ma)) (y := (.ref mr)) rfl rfl (pc0 := 19) (pc' := 24) (same := false) rfl (hb hby d11_19) rfl (decide_eq_false hc19_31) (by decide) (by decide) kK_) ?_
      refine own_st (A := T30.setTop (mkF mM 25 #[.val (.ref a)] [(.ref a)])) (fun tT_ kK_ => XS.aloadN X30.here hx rfl (hb hby d11_24) rfl rfl kK_) ?_
      obtain ⟨T32, X32, e32, st32⟩ := instY X30 hx hZ hown (hw _ (List.mem_of_getElem? (i := 90) rfl)) e30 (Ins.of_exa E_a (hw _ (List.mem_of_getElem? (i := 91) rfl))) (g := (mkF mM 25 #[.val (.ref a)] [(.ref a)])) rfl rfl (hb hby d11_25)
      refine own_st (A := T32.setTop (mkF mM 28 #[.val (.ref a)] [(.int (1 : Int32))])) (fun tT_ kK_ => st32 tT_ kK_) ?_
      refine own_st (A := T32.setTop (mkF mM 31 #[.val (.ref a)] [])) (fun tT_ kK_ => XS.ifNo X32.here hx rfl (hb hby d11_28) rfl ((if0 _ _).trans (feq (by decide : ¬ ((1 : Int32) = (0 : Int32)))).1) kK_) ?_
      obtain ⟨T33, h33, X33, e33, E33, A33, D33, -, st33⟩ := newO X32 hx hZ hown (hw _ (List.mem_of_getElem? (i := 88) rfl)) (hw _ (List.mem_of_getElem? (i := 92) rfl)) (hw _ (List.mem_of_getElem? (i := 93) rfl)) e32 (g := (mkF mM 31 #[.val (.ref a)] [])) rfl (hb hby d11_31) (by decide) (by decide)
      obtain ⟨b33, g33⟩ : ∃ z, z = h0.size := ⟨_, rfl⟩
      rw [← g33] at A33 D33 st33
      have ne_a_b33 : a ≠ b33 := Nat.ne_of_lt (Nat.lt_of_lt_of_le E_a.lt (Nat.le_of_eq g33.symm))
      have g_b33 : n0 ≤ b33 := Nat.le_trans Zn (Nat.le_of_eq g33.symm)
      have b_b33 : h0.size ≤ b33 := Nat.le_trans Kp.1 (Nat.le_of_eq g33.symm)
      have E_a := E_a.ext E33
      have Zn := Nat.le_trans Zn E33.1
      have Kp := Kp.ext E33
      have E_b33 := A33
      have F_b33_c : Fld Z h33 b33 "java/util/Collections$UnmodifiableCollection" "c" "Ljava/util/Collection;" .null := D33 (Or.inr (hw _ (List.mem_of_getElem? (i := 111) rfl))) (ty := (.object "java/util/Collection")) (by decide)
      have F_b33_list : Fld Z h33 b33 "java/util/Collections$UnmodifiableList" "list" "Ljava/util/List;" .null := D33 (Or.inr (hw _ (List.mem_of_getElem? (i := 113) rfl))) (ty := (.object "java/util/List")) (by decide)
      refine own_st (A := T33.setTop (mkF mM 34 #[.val (.ref a)] [(.ref b33)])) (fun tT_ kK_ => st33 tT_ kK_) ?_
      refine own_st (A := T33.setTop (mkF mM 35 #[.val (.ref a)] [(.ref b33), (.ref b33)])) (fun tT_ kK_ => XS.dup X33.here hx rfl (hb hby d11_34) rfl rfl kK_) ?_
      refine own_st (A := T33.setTop (mkF mM 36 #[.val (.ref a)] [(.ref a), (.ref b33), (.ref b33)])) (fun tT_ kK_ => XS.aloadN X33.here hx rfl (hb hby d11_35) rfl rfl kK_) ?_
      obtain ⟨_, _, ⟨T34, L34, k34, n34⟩, -, X34, ⟨Lc34, hQ34, l34, y34, z34⟩, st34⟩ := X33.specialBack hx (y := (⟨"java/util/Collections$UnmodifiableRandomAccessList", "<init>", "(Ljava/util/List;)V"⟩ : MethodName)) rfl hown (mvT hZ (hw _ (List.mem_of_getElem? (i := 94) rfl))) (mvT hZ (hw _ (List.mem_of_getElem? (i := 95) rfl))) (mvT hZ (hw _ (List.mem_of_getElem? (i := 96) rfl))) (by decide) (backOf (W := 1) (rmUR lL Z a0 hw [] b33 a h33 n0 g_b33 E_b33 F_b33_c F_b33_list) hZ (hw _ (List.mem_of_getElem? (i := 96) rfl)) (hw _ (List.mem_of_getElem? (i := 93) rfl)) (by decide) (by decide)) (g := (mkF mM 36 #[.val (.ref a)] [(.ref a), (.ref b33), (.ref b33)])) rfl (by rw [hml]; rfl) (Steps.refl _) (a := b33) (argsL := [(.ref a)]) (rest := [(.ref b33)]) (lenOf pd__28Ljava_2futil_2fList_3b_29V rfl) rfl (by show 2 * 0 + _ ≤ _; exact Nat.le_of_eq rfl) (hb hby d11_36) (fun _ _ => ⟨rfl, e33, (by decide : 1 + 0 ≤ _), (by decide : 2 + 0 ≤ _)⟩)
      dsimp only [Pt.U, Pt.locs, Pt.cells, Pt.slots] at X34 l34 y34 z34 st34 hQ34
      subst l34 y34 z34
      obtain ⟨rfl, N34q, K34, x34⟩ := hQ34
      have N34 := Fr.app N0 N34q
      have e34 : T34.heap = T34.heap := rfl
      refine own_st (A := T34.setTop (mkF mM 39 #[.val (.ref a)] [(.ref b33)])) (fun tT_ kK_ => st34.trans kK_) ?_
      have E_a := E_a.keep K34
      have E_b33 := E_b33.keep K34
      have Zn := Nat.le_trans Zn K34.1
      have Kp := Kp.trans K34 (allS (Or.inr b_b33) all0)
      refine own_st (A := T34.setTop (mkF mM 50 #[.val (.ref a)] [(.ref b33)])) (fun tT_ kK_ => XS.goto X34.here hx rfl (pc0 := 39) (pc' := 50) rfl (hb hby d11_39) (by decide) (by decide) kK_) ?_
      exact own_retA X34 hx hlk hret rfl rfl (hb hby d11_50) ⟨_, rfl, N34, own_ext_of_keep (by rw [e34]; exact Kp)⟩ (by decide) (by decide)
theorem d5_0 : decode prog_22_method_1_code 0 = .ok (.aload_n 0, 1) := by decide +kernel
theorem d5_1 : decode prog_22_method_1_code 1 = .ok (.invokespecial 1, 3) := by decide +kernel
theorem d5_4 : decode prog_22_method_1_code 4 = .ok (.aload_n 0, 1) := by decide +kernel
theorem d5_5 : decode prog_22_method_1_code 5 = .ok (.new 7, 3) := by decide +kernel
theorem d5_8 : decode prog_22_method_1_code 8 = .ok (.dup, 1) := by decide +kernel
theorem d5_9 : decode prog_22_method_1_code 9 = .ok (.aload_n 1, 1) := by decide +kernel
theorem d5_10 : decode prog_22_method_1_code 10 = .ok (.invokespecial 9, 3) := by decide +kernel
theorem d5_13 : decode prog_22_method_1_code 13 = .ok (.invokestatic 12, 3) := by decide +kernel
theorem pd__28Ljava_2futil_2fList_3b_29Ljava_2futil_2fList_3b : parseMethodDescriptor "(Ljava/util/List;)Ljava/util/List;" = some ⟨[(.object "java/util/List")], some (.object "java/util/List")⟩ := by decide +kernel
theorem d5_16 : decode prog_22_method_1_code 16 = .ok (.putfield 18, 3) := by decide +kernel
theorem d5_19 : decode prog_22_method_1_code 19 = .ok (.aload_n 0, 1) := by decide +kernel
theorem d5_20 : decode prog_22_method_1_code 20 = .ok (.lload_n 2, 1) := by decide +kernel
theorem d5_21 : decode prog_22_method_1_code 21 = .ok (.putfield 24, 3) := by decide +kernel
theorem d5_24 : decode prog_22_method_1_code 24 = .ok (.aload_n 0, 1) := by decide +kernel
theorem d5_25 : decode prog_22_method_1_code 25 = .ok (.iload 4, 2) := by decide +kernel
theorem d5_27 : decode prog_22_method_1_code 27 = .ok (.putfield 28, 3) := by decide +kernel
theorem d5_30 : decode prog_22_method_1_code 30 = .ok (.aload_n 0, 1) := by decide +kernel
theorem d5_31 : decode prog_22_method_1_code 31 = .ok (.iload 5, 2) := by decide +kernel
theorem d5_33 : decode prog_22_method_1_code 33 = .ok (.putfield 32, 3) := by decide +kernel
theorem d5_36 : decode prog_22_method_1_code 36 = .ok (.return_, 1) := by decide +kernel
theorem pn_com_2fexample_2fvyasa_2fvyasa_2fPage : plainName "com/example/vyasa/vyasa/Page" = true := by first | (simp [plainName, overriddenIn]; done) | decide +kernel
theorem ef_rmPI (mM : MethodId) (a : Addr) (l' : Addr) (rc : Int64) (d : Int32) (pp : Int32) (dc : Addr) (kd : ClassId) (mo : Addr) (ee : Addr) (ma : Addr) (ml : Addr) (mr : Addr) : entryFrame mM #[(.ref a), (.ref l'), (.long rc), (.int d), (.int pp)] 6 = mkF mM 0 #[.val (.ref a), .val (.ref l'), .val (.long rc), .second, .val (.int d), .val (.int pp)] [] := by first | (simp [entryFrame, mkF, argsToLocals, Value.category]; done) | rfl
set_option maxRecDepth 65536 in
set_option maxHeartbeats 40000000 in
theorem rmPI (lL : Launch) (Z : State) (a0 : Array Value) (hw : ∀ d ∈ tables_1, d.before a0 Z = true) (ws : List Jvm.Cond) (a : Addr) (l' : Addr) (rc : Int64) (d : Int32) (pp : Int32) (dc : Addr) (kd : ClassId) (mo : Addr) (ee : Addr) (ma : Addr) (ml : Addr) (mr : Addr) (h0 : Heap) (n0 : Nat) (g_a : n0 ≤ a) (E_a : Exa Z h0 a "com/example/vyasa/vyasa/Page") (F_a_rows : Fld Z h0 a "com/example/vyasa/vyasa/Page" "rows" "Ljava/util/List;" .null) (F_a_resultCount : Fld Z h0 a "com/example/vyasa/vyasa/Page" "resultCount" "J" (.long (0 : Int64))) (F_a_page : Fld Z h0 a "com/example/vyasa/vyasa/Page" "page" "I" (.int (0 : Int32))) (F_a_perPage : Fld Z h0 a "com/example/vyasa/vyasa/Page" "perPage" "I" (.int (0 : Int32))) (O : Old Z n0 h0) (Zn : n0 ≤ h0.size) (V_dc : Arv Z Z.heap dc kd (.object "java/lang/Object") 0 [] .null) (E_dc : Exa Z Z.heap dc "[Ljava/lang/Object;") (M_oa : own_Mr Z "[Ljava/lang/Object;" mo) (S_ee : Sta Z Z.heap "java/util/ArrayList" "EMPTY_ELEMENTDATA" "[Ljava/lang/Object;" (.ref ee)) (M_a : own_Mr Z "java/util/ArrayList" ma) (M_l : own_Mr Z "java/util/Collections$UnmodifiableList" ml) (M_r : own_Mr Z "java/util/Collections$UnmodifiableRandomAccessList" mr) (ob : Lst Z h0 l' (.ref dc)) :
    MetFree lL (⟨"com/example/vyasa/vyasa/Page", "<init>", "(Ljava/util/List;JII)V"⟩ : MethodName) (head1 (Jvm.Cond.code (⟨"com/example/vyasa/vyasa/Page", "<init>", "(Ljava/util/List;JII)V"⟩ : MethodName) prog_22_method_1_code 6 none :: ws) ({ frames := 5, cells := 3, slots := 5, locals := 96 } : Room)) (fun as_ uU_ => as_ = #[(.ref a), (.ref l'), (.long rc), (.int d), (.int pp)] ∧ Z.Warmed39 uU_.vm ∧ uU_.heap = h0) (fun _ _ _ _ _ => True) (fun _ uU_ oO_ uE_ => ∃ vV_ lL_, oO_ = .returned vV_ ∧ QP Z a rc d pp h0 n0 vV_ uE_.heap lL_ ∧ FrameEnd uU_ oO_ uE_ lL_ ({ frames := 5, cells := 3, slots := 5, locals := 96 } : Room).cells ({ frames := 5, cells := 3, slots := 5, locals := 96 } : Room).slots) := by
  refine MetFree.of_bodySF (plainFor_of_name pn_com_2fexample_2fvyasa_2fvyasa_2fPage) hisR ?_
  intro pP eE sS mM args below meth cC s₁ Bd hml0 hP hK
  obtain ⟨rfl, hZ, hh⟩ := hP
  have hx := Bd.exec
  have hby := Bd.bytes
  have hml : cC.maxLocals = 6 := hml0
  have hown : sS.vm.findClass "com/example/vyasa/vyasa/Page" = some mM.cls := findClass_of_methodNamed Bd.named
  have hnm := (name_of_methodNamed Bd.named Bd.method).1
  have hret := Bd.returns
  have hlk := BodyLoose.notSynchronized Bd
  have X0 : Stand pP lL eE ({ frames := 5, cells := 3, slots := 5, locals := 96 } : Room) sS mM #[(.ref a), (.ref l'), (.long rc), (.int d), (.int pp)] below meth cC s₁ [] 0 0 := Stand.of_body Bd
  have e0 : s₁.heap = h0 := by rw [← hh, Bd.state]; rfl
  have N0 := Fr.nil n0
  show own_Go pP eE below sS (QP Z a rc d pp h0 n0) 3 5 (s₁.setTop (entryFrame mM #[(.ref a), (.ref l'), (.long rc), (.int d), (.int pp)] 6))
  refine own_st (A := s₁.setTop (mkF mM 0 #[.val (.ref a), .val (.ref l'), .val (.long rc), .second, .val (.int d), .val (.int pp)] [])) (fun tT_ kK_ => castTop (ef_rmPI mM a l' rc d pp dc kd mo ee ma ml mr) kK_) ?_
  have Kp := Keep.refl h0 [a]
  refine own_st (A := s₁.setTop (mkF mM 1 #[.val (.ref a), .val (.ref l'), .val (.long rc), .second, .val (.int d), .val (.int pp)] [(.ref a)])) (fun tT_ kK_ => XS.aloadN X0.here hx rfl (hb hby d5_0) rfl rfl kK_) ?_
  obtain ⟨T35, X35, e35, st35⟩ := initO X0 hx hZ hown (hw _ (List.mem_of_getElem? (i := 33) rfl)) (hw _ (List.mem_of_getElem? (i := 23) rfl)) (hw _ (List.mem_of_getElem? (i := 24) rfl)) e0 (g := (mkF mM 1 #[.val (.ref a), .val (.ref l'), .val (.long rc), .second, .val (.int d), .val (.int pp)] [(.ref a)])) rfl (by rw [hml]; rfl) rfl (hb hby d5_1) (by decide) (W := 0) (by show 2 * 0 + _ ≤ _; exact Nat.le_of_eq rfl) (by decide)
  refine own_st (A := T35.setTop (mkF mM 4 #[.val (.ref a), .val (.ref l'), .val (.long rc), .second, .val (.int d), .val (.int pp)] [])) (fun tT_ kK_ => st35 tT_ kK_) ?_
  refine own_st (A := T35.setTop (mkF mM 5 #[.val (.ref a), .val (.ref l'), .val (.long rc), .second, .val (.int d), .val (.int pp)] [(.ref a)])) (fun tT_ kK_ => XS.aloadN X35.here hx rfl (hb hby d5_4) rfl rfl kK_) ?_
  obtain ⟨T36, h36, X36, e36, E36, A36, D36, -, st36⟩ := newO X35 hx hZ hown (hw _ (List.mem_of_getElem? (i := 34) rfl)) (hw _ (List.mem_of_getElem? (i := 5) rfl)) (hw _ (List.mem_of_getElem? (i := 6) rfl)) e35 (g := (mkF mM 5 #[.val (.ref a), .val (.ref l'), .val (.long rc), .second, .val (.int d), .val (.int pp)] [(.ref a)])) rfl (hb hby d5_5) (by decide) (by decide)
  obtain ⟨b36, g36⟩ : ∃ z, z = h0.size := ⟨_, rfl⟩
  rw [← g36] at A36 D36 st36
  have ne_a_b36 : a ≠ b36 := Nat.ne_of_lt (Nat.lt_of_lt_of_le E_a.lt (Nat.le_of_eq g36.symm))
  have ne_l'_b36 : l' ≠ b36 := Nat.ne_of_lt (Nat.lt_of_lt_of_le ob.1.lt (Nat.le_of_eq g36.symm))
  have g_b36 : n0 ≤ b36 := Nat.le_trans Zn (Nat.le_of_eq g36.symm)
  have b_b36 : h0.size ≤ b36 := Nat.le_trans Kp.1 (Nat.le_of_eq g36.symm)
  have F_a_rows := F_a_rows.ext E36
  have F_a_resultCount := F_a_resultCount.ext E36
  have F_a_page := F_a_page.ext E36
  have F_a_perPage := F_a_perPage.ext E36
  have E_a := E_a.ext E36
  have ob := own_Lst_ext ob E36
  have O := O.ext E36
  have Zn := Nat.le_trans Zn E36.1
  have Kp := Kp.ext E36
  have E_b36 := A36
  have F_b36_modCount : Fld Z h36 b36 "java/util/AbstractList" "modCount" "I" (.int (0 : Int32)) := D36 (Or.inl (hw _ (List.mem_of_getElem? (i := 26) rfl))) (ty := .int) (by decide)
  have F_b36_elementData : Fld Z h36 b36 "java/util/ArrayList" "elementData" "[Ljava/lang/Object;" .null := D36 (Or.inl (hw _ (List.mem_of_getElem? (i := 29) rfl))) (ty := (.array (.object "java/lang/Object"))) (by decide)
  have F_b36_size : Fld Z h36 b36 "java/util/ArrayList" "size" "I" (.int (0 : Int32)) := D36 (Or.inl (hw _ (List.mem_of_getElem? (i := 48) rfl))) (ty := .int) (by decide)
  refine own_st (A := T36.setTop (mkF mM 8 #[.val (.ref a), .val (.ref l'), .val (.long rc), .second, .val (.int d), .val (.int pp)] [(.ref b36), (.ref a)])) (fun tT_ kK_ => st36 tT_ kK_) ?_
  refine own_st (A := T36.setTop (mkF mM 9 #[.val (.ref a), .val (.ref l'), .val (.long rc), .second, .val (.int d), .val (.int pp)] [(.ref b36), (.ref b36), (.ref a)])) (fun tT_ kK_ => XS.dup X36.here hx rfl (hb hby d5_8) rfl rfl kK_) ?_
  refine own_st (A := T36.setTop (mkF mM 10 #[.val (.ref a), .val (.ref l'), .val (.long rc), .second, .val (.int d), .val (.int pp)] [(.ref l'), (.ref b36), (.ref b36), (.ref a)])) (fun tT_ kK_ => XS.aloadN X36.here hx rfl (hb hby d5_9) rfl rfl kK_) ?_
  obtain ⟨_, _, ⟨T37, L37, k37, n37⟩, -, X37, ⟨Lc37, hQ37, l37, y37, z37⟩, st37⟩ := X36.specialBack hx (y := (⟨"java/util/ArrayList", "<init>", "(Ljava/util/Collection;)V"⟩ : MethodName)) rfl hown (mvT hZ (hw _ (List.mem_of_getElem? (i := 35) rfl))) (mvT hZ (hw _ (List.mem_of_getElem? (i := 36) rfl))) (mvT hZ (hw _ (List.mem_of_getElem? (i := 37) rfl))) (by decide) (backOf (W := 2) (rmAC1 lL Z a0 hw [] b36 l' dc kd mo ee h36 n0 g_b36 E_b36 F_b36_modCount F_b36_elementData F_b36_size O Zn V_dc E_dc M_oa ob ne_l'_b36 S_ee) hZ (hw _ (List.mem_of_getElem? (i := 37) rfl)) (hw _ (List.mem_of_getElem? (i := 6) rfl)) (by decide) (by decide)) (g := (mkF mM 10 #[.val (.ref a), .val (.ref l'), .val (.long rc), .second, .val (.int d), .val (.int pp)] [(.ref l'), (.ref b36), (.ref b36), (.ref a)])) rfl (by rw [hml]; rfl) (Steps.refl _) (a := b36) (argsL := [(.ref l')]) (rest := [(.ref b36), (.ref a)]) (lenOf pd__28Ljava_2futil_2fCollection_3b_29V rfl) rfl (by show 2 * 0 + _ ≤ _; exact Nat.le_of_eq rfl) (hb hby d5_10) (fun _ _ => ⟨rfl, e36, (by decide : 1 + 1 ≤ _), (by decide : 3 + 0 ≤ _)⟩)
  dsimp only [Pt.U, Pt.locs, Pt.cells, Pt.slots] at X37 l37 y37 z37 st37 hQ37
  subst l37 y37 z37
  obtain ⟨rfl, N37q, K37, x37⟩ := hQ37
  have N37 := Fr.app N0 N37q
  have e37 : T37.heap = T37.heap := rfl
  refine own_st (A := T37.setTop (mkF mM 13 #[.val (.ref a), .val (.ref l'), .val (.long rc), .second, .val (.int d), .val (.int pp)] [(.ref b36), (.ref a)])) (fun tT_ kK_ => st37.trans kK_) ?_
  have F_a_rows := F_a_rows.keep K37 (ninS ne_a_b36 nin0)
  have F_a_resultCount := F_a_resultCount.keep K37 (ninS ne_a_b36 nin0)
  have F_a_page := F_a_page.keep K37 (ninS ne_a_b36 nin0)
  have F_a_perPage := F_a_perPage.keep K37 (ninS ne_a_b36 nin0)
  have E_a := E_a.keep K37
  have E_b36 := E_b36.keep K37
  have O := O.keep K37 (allS g_b36 all0)
  have Zn := Nat.le_trans Zn K37.1
  have Kp := Kp.trans K37 (allS (Or.inr b_b36) all0)
  obtain ⟨_, _, ⟨T38, L38, k38, n38⟩, -, X38, ⟨Lc38, hQ38, l38, y38, z38⟩, st38⟩ := Jvm.LawKit.callS X37 hx (y := (⟨"java/util/Collections", "unmodifiableList", "(Ljava/util/List;)Ljava/util/List;"⟩ : MethodName)) hown (mvT hZ (hw _ (List.mem_of_getElem? (i := 74) rfl))) (mvT hZ (hw _ (List.mem_of_getElem? (i := 75) rfl))) (mvT hZ (hw _ (List.mem_of_getElem? (i := 76) rfl))) (mvT hZ (hw _ (List.mem_of_getElem? (i := 77) rfl))) (by decide) (backOf (W := 1) (rmUn lL Z a0 hw [] b36 ma ml mr T37.heap n0 Zn E_b36 M_a M_l M_r) hZ (hw _ (List.mem_of_getElem? (i := 77) rfl)) (hw _ (List.mem_of_getElem? (i := 76) rfl)) (by decide) (by decide)) (g := (mkF mM 13 #[.val (.ref a), .val (.ref l'), .val (.long rc), .second, .val (.int d), .val (.int pp)] [(.ref b36), (.ref a)])) rfl (by rw [hml]; rfl) (argsL := [(.ref b36)]) (rest := [(.ref a)]) (lenOf pd__28Ljava_2futil_2fList_3b_29Ljava_2futil_2fList_3b rfl) rfl (by show 2 * 0 + _ ≤ _; exact Nat.le_of_eq rfl) (hb hby d5_13) (fun _ _ => ⟨rfl, e37, (by decide : 2 + 1 ≤ _), (by decide : 3 + 2 ≤ _)⟩)
  dsimp only [Pt.U, Pt.locs, Pt.cells, Pt.slots] at X38 l38 y38 z38 st38 hQ38
  subst l38 y38 z38
  obtain ⟨b38, rfl, N38q, E38⟩ := hQ38
  have N38 := Fr.app N37 N38q
  have e38 : T38.heap = T38.heap := rfl
  refine own_st (A := T38.setTop (mkF mM 16 #[.val (.ref a), .val (.ref l'), .val (.long rc), .second, .val (.int d), .val (.int pp)] [(.ref b38), (.ref a)])) (fun tT_ kK_ => st38 tT_ kK_) ?_
  have F_a_rows := F_a_rows.ext E38
  have F_a_resultCount := F_a_resultCount.ext E38
  have F_a_page := F_a_page.ext E38
  have F_a_perPage := F_a_perPage.ext E38
  have E_a := E_a.ext E38
  have E_b36 := E_b36.ext E38
  have O := O.ext E38
  have Zn := Nat.le_trans Zn E38.1
  have Kp := Kp.ext E38
  obtain ⟨T39, h39, X39, e39, W39, st39⟩ := putF X38 hx hZ hown (host := "") (Or.inl (hw _ (List.mem_of_getElem? (i := 114) rfl))) Via.refl e38 F_a_rows E_a (Or.inr ⟨(hw _ (List.mem_of_getElem? (i := 115) rfl)), rfl, hnm⟩) (hw _ (List.mem_of_getElem? (i := 2) rfl)) (ty := (.object "java/util/List")) (by decide) rfl rfl (g := (mkF mM 16 #[.val (.ref a), .val (.ref l'), .val (.long rc), .second, .val (.int d), .val (.int pp)] [(.ref b38), (.ref a)])) rfl rfl (hb hby d5_16)
  have N39 := Fr.snoc X39 N38 g_a
  have F_a_rows := F_a_rows.same W39
  have F_a_resultCount := F_a_resultCount.other W39 (Or.inr (slot_ne (Or.inr (hw _ (List.mem_of_getElem? (i := 117) rfl))) (Or.inr (hw _ (List.mem_of_getElem? (i := 115) rfl))) (by decide) (t := .long) (t' := (.object "java/util/List")) (by decide) (by decide)))
  have F_a_page := F_a_page.other W39 (Or.inr (slot_ne (Or.inr (hw _ (List.mem_of_getElem? (i := 119) rfl))) (Or.inr (hw _ (List.mem_of_getElem? (i := 115) rfl))) (by decide) (t := .int) (t' := (.object "java/util/List")) (by decide) (by decide)))
  have F_a_perPage := F_a_perPage.other W39 (Or.inr (slot_ne (Or.inr (hw _ (List.mem_of_getElem? (i := 121) rfl))) (Or.inr (hw _ (List.mem_of_getElem? (i := 115) rfl))) (by decide) (t := .int) (t' := (.object "java/util/List")) (by decide) (by decide)))
  have E_a := E_a.wr W39
  have E_b36 := E_b36.wr W39
  have O := O.wr W39 g_a
  have Zn := Nat.le_trans Zn (Keep.of_wr W39).1
  have Kp := Kp.wr W39 (Or.inl (List.mem_of_getElem? (i := 0) rfl))
  refine own_st (A := T39.setTop (mkF mM 19 #[.val (.ref a), .val (.ref l'), .val (.long rc), .second, .val (.int d), .val (.int pp)] [])) (fun tT_ kK_ => st39 tT_ kK_) ?_
  refine own_st (A := T39.setTop (mkF mM 20 #[.val (.ref a), .val (.ref l'), .val (.long rc), .second, .val (.int d), .val (.int pp)] [(.ref a)])) (fun tT_ kK_ => XS.aloadN X39.here hx rfl (hb hby d5_19) rfl rfl kK_) ?_
  refine own_st (A := T39.setTop (mkF mM 21 #[.val (.ref a), .val (.ref l'), .val (.long rc), .second, .val (.int d), .val (.int pp)] [(.long rc), (.ref a)])) (fun tT_ kK_ => XS.lloadN X39.here hx rfl (hb hby d5_20) rfl kK_) ?_
  obtain ⟨T40, h40, X40, e40, W40, st40⟩ := putF X39 hx hZ hown (host := "") (Or.inl (hw _ (List.mem_of_getElem? (i := 116) rfl))) Via.refl e39 F_a_resultCount E_a (Or.inr ⟨(hw _ (List.mem_of_getElem? (i := 117) rfl)), rfl, hnm⟩) (hw _ (List.mem_of_getElem? (i := 2) rfl)) (ty := .long) (by decide) rfl rfl (g := (mkF mM 21 #[.val (.ref a), .val (.ref l'), .val (.long rc), .second, .val (.int d), .val (.int pp)] [(.long rc), (.ref a)])) rfl rfl (hb hby d5_21)
  have N40 := Fr.snoc X40 N39 g_a
  have F_a_rows := F_a_rows.other W40 (Or.inr (slot_ne (Or.inr (hw _ (List.mem_of_getElem? (i := 115) rfl))) (Or.inr (hw _ (List.mem_of_getElem? (i := 117) rfl))) (by decide) (t := (.object "java/util/List")) (t' := .long) (by decide) (by decide)))
  have F_a_resultCount := F_a_resultCount.same W40
  have F_a_page := F_a_page.other W40 (Or.inr (slot_ne (Or.inr (hw _ (List.mem_of_getElem? (i := 119) rfl))) (Or.inr (hw _ (List.mem_of_getElem? (i := 117) rfl))) (by decide) (t := .int) (t' := .long) (by decide) (by decide)))
  have F_a_perPage := F_a_perPage.other W40 (Or.inr (slot_ne (Or.inr (hw _ (List.mem_of_getElem? (i := 121) rfl))) (Or.inr (hw _ (List.mem_of_getElem? (i := 117) rfl))) (by decide) (t := .int) (t' := .long) (by decide) (by decide)))
  have E_a := E_a.wr W40
  have E_b36 := E_b36.wr W40
  have O := O.wr W40 g_a
  have Zn := Nat.le_trans Zn (Keep.of_wr W40).1
  have Kp := Kp.wr W40 (Or.inl (List.mem_of_getElem? (i := 0) rfl))
  refine own_st (A := T40.setTop (mkF mM 24 #[.val (.ref a), .val (.ref l'), .val (.long rc), .second, .val (.int d), .val (.int pp)] [])) (fun tT_ kK_ => st40 tT_ kK_) ?_
  refine own_st (A := T40.setTop (mkF mM 25 #[.val (.ref a), .val (.ref l'), .val (.long rc), .second, .val (.int d), .val (.int pp)] [(.ref a)])) (fun tT_ kK_ => XS.aloadN X40.here hx rfl (hb hby d5_24) rfl rfl kK_) ?_
  refine own_st (A := T40.setTop (mkF mM 27 #[.val (.ref a), .val (.ref l'), .val (.long rc), .second, .val (.int d), .val (.int pp)] [(.int d), (.ref a)])) (fun tT_ kK_ => XS.iload X40.here hx rfl (hb hby d5_25) rfl kK_) ?_
  obtain ⟨T41, h41, X41, e41, W41, st41⟩ := putF X40 hx hZ hown (host := "") (Or.inl (hw _ (List.mem_of_getElem? (i := 118) rfl))) Via.refl e40 F_a_page E_a (Or.inr ⟨(hw _ (List.mem_of_getElem? (i := 119) rfl)), rfl, hnm⟩) (hw _ (List.mem_of_getElem? (i := 2) rfl)) (ty := .int) (by decide) rfl rfl (g := (mkF mM 27 #[.val (.ref a), .val (.ref l'), .val (.long rc), .second, .val (.int d), .val (.int pp)] [(.int d), (.ref a)])) rfl rfl (hb hby d5_27)
  have N41 := Fr.snoc X41 N40 g_a
  have F_a_rows := F_a_rows.other W41 (Or.inr (slot_ne (Or.inr (hw _ (List.mem_of_getElem? (i := 115) rfl))) (Or.inr (hw _ (List.mem_of_getElem? (i := 119) rfl))) (by decide) (t := (.object "java/util/List")) (t' := .int) (by decide) (by decide)))
  have F_a_resultCount := F_a_resultCount.other W41 (Or.inr (slot_ne (Or.inr (hw _ (List.mem_of_getElem? (i := 117) rfl))) (Or.inr (hw _ (List.mem_of_getElem? (i := 119) rfl))) (by decide) (t := .long) (t' := .int) (by decide) (by decide)))
  have F_a_page := F_a_page.same W41
  have F_a_perPage := F_a_perPage.other W41 (Or.inr (slot_ne (Or.inr (hw _ (List.mem_of_getElem? (i := 121) rfl))) (Or.inr (hw _ (List.mem_of_getElem? (i := 119) rfl))) (by decide) (t := .int) (t' := .int) (by decide) (by decide)))
  have E_a := E_a.wr W41
  have E_b36 := E_b36.wr W41
  have O := O.wr W41 g_a
  have Zn := Nat.le_trans Zn (Keep.of_wr W41).1
  have Kp := Kp.wr W41 (Or.inl (List.mem_of_getElem? (i := 0) rfl))
  refine own_st (A := T41.setTop (mkF mM 30 #[.val (.ref a), .val (.ref l'), .val (.long rc), .second, .val (.int d), .val (.int pp)] [])) (fun tT_ kK_ => st41 tT_ kK_) ?_
  refine own_st (A := T41.setTop (mkF mM 31 #[.val (.ref a), .val (.ref l'), .val (.long rc), .second, .val (.int d), .val (.int pp)] [(.ref a)])) (fun tT_ kK_ => XS.aloadN X41.here hx rfl (hb hby d5_30) rfl rfl kK_) ?_
  refine own_st (A := T41.setTop (mkF mM 33 #[.val (.ref a), .val (.ref l'), .val (.long rc), .second, .val (.int d), .val (.int pp)] [(.int pp), (.ref a)])) (fun tT_ kK_ => XS.iload X41.here hx rfl (hb hby d5_31) rfl kK_) ?_
  obtain ⟨T42, h42, X42, e42, W42, st42⟩ := putF X41 hx hZ hown (host := "") (Or.inl (hw _ (List.mem_of_getElem? (i := 120) rfl))) Via.refl e41 F_a_perPage E_a (Or.inr ⟨(hw _ (List.mem_of_getElem? (i := 121) rfl)), rfl, hnm⟩) (hw _ (List.mem_of_getElem? (i := 2) rfl)) (ty := .int) (by decide) rfl rfl (g := (mkF mM 33 #[.val (.ref a), .val (.ref l'), .val (.long rc), .second, .val (.int d), .val (.int pp)] [(.int pp), (.ref a)])) rfl rfl (hb hby d5_33)
  have N42 := Fr.snoc X42 N41 g_a
  have F_a_rows := F_a_rows.other W42 (Or.inr (slot_ne (Or.inr (hw _ (List.mem_of_getElem? (i := 115) rfl))) (Or.inr (hw _ (List.mem_of_getElem? (i := 121) rfl))) (by decide) (t := (.object "java/util/List")) (t' := .int) (by decide) (by decide)))
  have F_a_resultCount := F_a_resultCount.other W42 (Or.inr (slot_ne (Or.inr (hw _ (List.mem_of_getElem? (i := 117) rfl))) (Or.inr (hw _ (List.mem_of_getElem? (i := 121) rfl))) (by decide) (t := .long) (t' := .int) (by decide) (by decide)))
  have F_a_page := F_a_page.other W42 (Or.inr (slot_ne (Or.inr (hw _ (List.mem_of_getElem? (i := 119) rfl))) (Or.inr (hw _ (List.mem_of_getElem? (i := 121) rfl))) (by decide) (t := .int) (t' := .int) (by decide) (by decide)))
  have F_a_perPage := F_a_perPage.same W42
  have E_a := E_a.wr W42
  have E_b36 := E_b36.wr W42
  have O := O.wr W42 g_a
  have Zn := Nat.le_trans Zn (Keep.of_wr W42).1
  have Kp := Kp.wr W42 (Or.inl (List.mem_of_getElem? (i := 0) rfl))
  refine own_st (A := T42.setTop (mkF mM 36 #[.val (.ref a), .val (.ref l'), .val (.long rc), .second, .val (.int d), .val (.int pp)] [])) (fun tT_ kK_ => st42 tT_ kK_) ?_
  exact own_retV X42 hx hlk hret (hb hby d5_36) (by rw [e42]; exact ⟨rfl, N42, Kp, E_a, F_a_resultCount, F_a_page, F_a_perPage⟩) (by decide) (by decide)
theorem d16_0 : decode jdk_29_method_43_code 0 = .ok (.lload_n 0, 1) := by decide +kernel
theorem d16_1 : decode jdk_29_method_43_code 1 = .ok (.l2i, 1) := by decide +kernel
theorem d16_2 : decode jdk_29_method_43_code 2 = .ok (.i2l, 1) := by decide +kernel
theorem d16_3 : decode jdk_29_method_43_code 3 = .ok (.lload_n 0, 1) := by decide +kernel
theorem d16_4 : decode jdk_29_method_43_code 4 = .ok (.lcmp, 1) := by decide +kernel
theorem d16_5 : decode jdk_29_method_43_code 5 = .ok (.ifCond .eq 13, 3) := by decide +kernel
theorem d16_18 : decode jdk_29_method_43_code 18 = .ok (.lload_n 0, 1) := by decide +kernel
theorem d16_19 : decode jdk_29_method_43_code 19 = .ok (.l2i, 1) := by decide +kernel
theorem d16_20 : decode jdk_29_method_43_code 20 = .ok (.ireturn, 1) := by decide +kernel
theorem pn_java_2flang_2fMath_16 : plainFor (⟨"java/lang/Math", "toIntExact", "(J)I"⟩ : MethodName) = true := by decide +kernel
theorem ef_rmT (mM : MethodId) (x : Int64) : entryFrame mM #[(.long x)] 2 = mkF mM 0 #[.val (.long x), .second] [] := by first | (simp [entryFrame, mkF, argsToLocals, Value.category]; done) | rfl
set_option maxRecDepth 65536 in
set_option maxHeartbeats 40000000 in
theorem rmT (lL : Launch) (Z : State) (a0 : Array Value) (hw : ∀ d ∈ tables_1, d.before a0 Z = true) (ws : List Jvm.Cond) (x : Int64) (h0 : Heap) (n0 : Nat) (hx0 : (x.toInt32).toInt64 = x) :
    MetFree lL (⟨"java/lang/Math", "toIntExact", "(J)I"⟩ : MethodName) (head1 (Jvm.Cond.code (⟨"java/lang/Math", "toIntExact", "(J)I"⟩ : MethodName) jdk_29_method_43_code 2 (some .int) :: ws) ({ frames := 0, cells := 0, slots := 0, locals := 0 } : Room)) (fun as_ uU_ => as_ = #[(.long x)] ∧ Z.Warmed39 uU_.vm ∧ uU_.heap = h0) (fun _ _ _ _ _ => True) (fun _ uU_ oO_ uE_ => ∃ vV_ lL_, oO_ = .returned vV_ ∧ Qw (.int x.toInt32) h0 n0 vV_ uE_.heap lL_ ∧ FrameEnd uU_ oO_ uE_ lL_ ({ frames := 0, cells := 0, slots := 0, locals := 0 } : Room).cells ({ frames := 0, cells := 0, slots := 0, locals := 0 } : Room).slots) := by
  refine MetFree.of_bodySF pn_java_2flang_2fMath_16 hisR ?_
  intro pP eE sS mM args below meth cC s₁ Bd hml0 hP hK
  obtain ⟨rfl, hZ, hh⟩ := hP
  have hx := Bd.exec
  have hby := Bd.bytes
  have hml : cC.maxLocals = 2 := hml0
  have hown : sS.vm.findClass "java/lang/Math" = some mM.cls := findClass_of_methodNamed Bd.named
  have hnm := (name_of_methodNamed Bd.named Bd.method).1
  have hret := Bd.returns
  have hlk := BodyLoose.notSynchronized Bd
  have X0 : Stand pP lL eE ({ frames := 0, cells := 0, slots := 0, locals := 0 } : Room) sS mM #[(.long x)] below meth cC s₁ [] 0 0 := Stand.of_body Bd
  have e0 : s₁.heap = h0 := by rw [← hh, Bd.state]; rfl
  have N0 := Fr.nil n0
  show own_Go pP eE below sS (Qw (.int x.toInt32) h0 n0) 0 0 (s₁.setTop (entryFrame mM #[(.long x)] 2))
  refine own_st (A := s₁.setTop (mkF mM 0 #[.val (.long x), .second] [])) (fun tT_ kK_ => castTop (ef_rmT mM x) kK_) ?_
  refine own_st (A := s₁.setTop (mkF mM 1 #[.val (.long x), .second] [(.long x)])) (fun tT_ kK_ => XS.lloadN X0.here hx rfl (hb hby d16_0) rfl kK_) ?_
  refine own_st (A := s₁.setTop (mkF mM 2 #[.val (.long x), .second] [(.int ((x).toInt32))])) (fun tT_ kK_ => XS.l2i X0.here hx rfl (hb hby d16_1) rfl kK_) ?_
  refine own_st (A := s₁.setTop (mkF mM 3 #[.val (.long x), .second] [(.long ((((x).toInt32)).toInt64))])) (fun tT_ kK_ => XS.i2l X0.here hx rfl (hb hby d16_2) rfl kK_) ?_
  refine own_st (A := s₁.setTop (mkF mM 4 #[.val (.long x), .second] [(.long x), (.long ((((x).toInt32)).toInt64))])) (fun tT_ kK_ => XS.lloadN X0.here hx rfl (hb hby d16_3) rfl kK_) ?_
  refine own_st (A := s₁.setTop (mkF mM 5 #[.val (.long x), .second] [(.int (lcmpW ((((x).toInt32)).toInt64) x))])) (fun tT_ kK_ => XS.lcmp X0.here hx rfl (hb hby d16_4) rfl kK_) ?_
  refine own_st (A := s₁.setTop (mkF mM 18 #[.val (.long x), .second] [])) (fun tT_ kK_ => XS.ifYes X0.here hx rfl (pc0 := 5) (pc' := 18) rfl (hb hby d16_5) rfl ((if0 _ _).trans (teq ((lw_eq _ _).mpr hx0)).1) (by decide) (by decide) kK_) ?_
  refine own_st (A := s₁.setTop (mkF mM 19 #[.val (.long x), .second] [(.long x)])) (fun tT_ kK_ => XS.lloadN X0.here hx rfl (hb hby d16_18) rfl kK_) ?_
  refine own_st (A := s₁.setTop (mkF mM 20 #[.val (.long x), .second] [(.int ((x).toInt32))])) (fun tT_ kK_ => XS.l2i X0.here hx rfl (hb hby d16_19) rfl kK_) ?_
  exact own_retI X0 hx hlk hret (hb hby d16_20) ⟨rfl, N0, e0⟩ (by decide) (by decide)
theorem d15_0 : decode prog_22_method_4_code 0 = .ok (.aload_n 0, 1) := by decide +kernel
theorem d15_1 : decode prog_22_method_4_code 1 = .ok (.getfield 24, 3) := by decide +kernel
theorem d15_4 : decode prog_22_method_4_code 4 = .ok (.aload_n 0, 1) := by decide +kernel
theorem d15_5 : decode prog_22_method_4_code 5 = .ok (.getfield 32, 3) := by decide +kernel
theorem d15_8 : decode prog_22_method_4_code 8 = .ok (.i2l, 1) := by decide +kernel
theorem d15_9 : decode prog_22_method_4_code 9 = .ok (.ldiv, 1) := by decide +kernel
theorem d15_10 : decode prog_22_method_4_code 10 = .ok (.lstore_n 1, 1) := by decide +kernel
theorem d15_11 : decode prog_22_method_4_code 11 = .ok (.aload_n 0, 1) := by decide +kernel
theorem d15_12 : decode prog_22_method_4_code 12 = .ok (.getfield 24, 3) := by decide +kernel
theorem d15_15 : decode prog_22_method_4_code 15 = .ok (.aload_n 0, 1) := by decide +kernel
theorem d15_16 : decode prog_22_method_4_code 16 = .ok (.getfield 32, 3) := by decide +kernel
theorem d15_19 : decode prog_22_method_4_code 19 = .ok (.i2l, 1) := by decide +kernel
theorem d15_20 : decode prog_22_method_4_code 20 = .ok (.lrem, 1) := by decide +kernel
theorem d15_21 : decode prog_22_method_4_code 21 = .ok (.lconst 0, 1) := by decide +kernel
theorem d15_22 : decode prog_22_method_4_code 22 = .ok (.lcmp, 1) := by decide +kernel
theorem d15_23 : decode prog_22_method_4_code 23 = .ok (.ifCond .ne 7, 3) := by decide +kernel
theorem d15_26 : decode prog_22_method_4_code 26 = .ok (.lload_n 1, 1) := by decide +kernel
theorem d15_27 : decode prog_22_method_4_code 27 = .ok (.goto 6, 3) := by decide +kernel
theorem d15_33 : decode prog_22_method_4_code 33 = .ok (.invokestatic 35, 3) := by decide +kernel
theorem pd__28J_29I : parseMethodDescriptor "(J)I" = some ⟨[.long], some .int⟩ := by decide +kernel
theorem d15_36 : decode prog_22_method_4_code 36 = .ok (.ireturn, 1) := by decide +kernel
theorem d15_30 : decode prog_22_method_4_code 30 = .ok (.lload_n 1, 1) := by decide +kernel
theorem d15_31 : decode prog_22_method_4_code 31 = .ok (.lconst 1, 1) := by decide +kernel
theorem d15_32 : decode prog_22_method_4_code 32 = .ok (.ladd, 1) := by decide +kernel
theorem ef_rmC (mM : MethodId) (a : Addr) (rc : Int64) (pp : Int32) (r : Int32) : entryFrame mM #[(.ref a)] 3 = mkF mM 0 #[.val (.ref a), .unset, .unset] [] := by first | (simp [entryFrame, mkF, argsToLocals, Value.category]; done) | rfl
set_option maxRecDepth 65536 in
set_option maxHeartbeats 40000000 in
theorem rmC (lL : Launch) (Z : State) (a0 : Array Value) (hw : ∀ d ∈ tables_1, d.before a0 Z = true) (ws : List Jvm.Cond) (a : Addr) (rc : Int64) (pp : Int32) (r : Int32) (h0 : Heap) (n0 : Nat) (F_a_resultCount : Fld Z h0 a "com/example/vyasa/vyasa/Page" "resultCount" "J" (.long rc)) (F_a_perPage : Fld Z h0 a "com/example/vyasa/vyasa/Page" "perPage" "I" (.int pp)) (hz : ¬ ((pp).toInt64) = (0 : Int64)) (t1 : (lcmpW (rc - (rc / ((pp).toInt64)) * ((pp).toInt64)) (0 : Int64)) = (0 : Int32) → ((rc / ((pp).toInt64)).toInt32).toInt64 = (rc / ((pp).toInt64))) (t0 : ¬ (lcmpW (rc - (rc / ((pp).toInt64)) * ((pp).toInt64)) (0 : Int64)) = (0 : Int32) → (((rc / ((pp).toInt64)) + (1 : Int64)).toInt32).toInt64 = ((rc / ((pp).toInt64)) + (1 : Int64))) (c1 : (lcmpW (rc - (rc / ((pp).toInt64)) * ((pp).toInt64)) (0 : Int64)) = (0 : Int32) → r = (rc / ((pp).toInt64)).toInt32) (c0 : ¬ (lcmpW (rc - (rc / ((pp).toInt64)) * ((pp).toInt64)) (0 : Int64)) = (0 : Int32) → r = ((rc / ((pp).toInt64)) + (1 : Int64)).toInt32) :
    MetFree lL (⟨"com/example/vyasa/vyasa/Page", "pageCount", "()I"⟩ : MethodName) (head1 (Jvm.Cond.code (⟨"com/example/vyasa/vyasa/Page", "pageCount", "()I"⟩ : MethodName) prog_22_method_4_code 3 (some .int) :: ws) ({ frames := 1, cells := 0, slots := 0, locals := 13 } : Room)) (fun as_ uU_ => as_ = #[(.ref a)] ∧ Z.Warmed39 uU_.vm ∧ uU_.heap = h0) (fun _ _ _ _ _ => True) (fun _ uU_ oO_ uE_ => ∃ vV_ lL_, oO_ = .returned vV_ ∧ Qw (.int r) h0 n0 vV_ uE_.heap lL_ ∧ FrameEnd uU_ oO_ uE_ lL_ ({ frames := 1, cells := 0, slots := 0, locals := 13 } : Room).cells ({ frames := 1, cells := 0, slots := 0, locals := 13 } : Room).slots) := by
  refine MetFree.of_bodySF (plainFor_of_name pn_com_2fexample_2fvyasa_2fvyasa_2fPage) hisR ?_
  intro pP eE sS mM args below meth cC s₁ Bd hml0 hP hK
  obtain ⟨rfl, hZ, hh⟩ := hP
  have hx := Bd.exec
  have hby := Bd.bytes
  have hml : cC.maxLocals = 3 := hml0
  have hown : sS.vm.findClass "com/example/vyasa/vyasa/Page" = some mM.cls := findClass_of_methodNamed Bd.named
  have hnm := (name_of_methodNamed Bd.named Bd.method).1
  have hret := Bd.returns
  have hlk := BodyLoose.notSynchronized Bd
  have X0 : Stand pP lL eE ({ frames := 1, cells := 0, slots := 0, locals := 13 } : Room) sS mM #[(.ref a)] below meth cC s₁ [] 0 0 := Stand.of_body Bd
  have e0 : s₁.heap = h0 := by rw [← hh, Bd.state]; rfl
  have N0 := Fr.nil n0
  show own_Go pP eE below sS (Qw (.int r) h0 n0) 0 0 (s₁.setTop (entryFrame mM #[(.ref a)] 3))
  refine own_st (A := s₁.setTop (mkF mM 0 #[.val (.ref a), .unset, .unset] [])) (fun tT_ kK_ => castTop (ef_rmC mM a rc pp r) kK_) ?_
  refine own_st (A := s₁.setTop (mkF mM 1 #[.val (.ref a), .unset, .unset] [(.ref a)])) (fun tT_ kK_ => XS.aloadN X0.here hx rfl (hb hby d15_0) rfl rfl kK_) ?_
  obtain ⟨T43, X43, e43, st43⟩ := getF X0 hx hZ hown (host := "") (Or.inl (hw _ (List.mem_of_getElem? (i := 116) rfl))) Via.refl e0 F_a_resultCount (g := (mkF mM 1 #[.val (.ref a), .unset, .unset] [(.ref a)])) rfl rfl (hb hby d15_1)
  refine own_st (A := T43.setTop (mkF mM 4 #[.val (.ref a), .unset, .unset] [(.long rc)])) (fun tT_ kK_ => st43 tT_ kK_) ?_
  refine own_st (A := T43.setTop (mkF mM 5 #[.val (.ref a), .unset, .unset] [(.ref a), (.long rc)])) (fun tT_ kK_ => XS.aloadN X43.here hx rfl (hb hby d15_4) rfl rfl kK_) ?_
  obtain ⟨T44, X44, e44, st44⟩ := getF X43 hx hZ hown (host := "") (Or.inl (hw _ (List.mem_of_getElem? (i := 120) rfl))) Via.refl e43 F_a_perPage (g := (mkF mM 5 #[.val (.ref a), .unset, .unset] [(.ref a), (.long rc)])) rfl rfl (hb hby d15_5)
  refine own_st (A := T44.setTop (mkF mM 8 #[.val (.ref a), .unset, .unset] [(.int pp), (.long rc)])) (fun tT_ kK_ => st44 tT_ kK_) ?_
  refine own_st (A := T44.setTop (mkF mM 9 #[.val (.ref a), .unset, .unset] [(.long ((pp).toInt64)), (.long rc)])) (fun tT_ kK_ => XS.i2l X44.here hx rfl (hb hby d15_8) rfl kK_) ?_
  refine own_st (A := T44.setTop (mkF mM 10 #[.val (.ref a), .unset, .unset] [(.long (rc / ((pp).toInt64)))])) (fun tT_ kK_ => XS.ldiv X44.here hx rfl (hb hby d15_9) rfl hz kK_) ?_
  refine own_st (A := T44.setTop (mkF mM 11 #[.val (.ref a), .val (.long (rc / ((pp).toInt64))), .second] [])) (fun tT_ kK_ => XS.lstoreN X44.here hx rfl (hb hby d15_10) rfl (l' := #[.val (.ref a), .val (.long (rc / ((pp).toInt64))), .second]) rfl kK_) ?_
  refine own_st (A := T44.setTop (mkF mM 12 #[.val (.ref a), .val (.long (rc / ((pp).toInt64))), .second] [(.ref a)])) (fun tT_ kK_ => XS.aloadN X44.here hx rfl (hb hby d15_11) rfl rfl kK_) ?_
  obtain ⟨T45, X45, e45, st45⟩ := getF X44 hx hZ hown (host := "") (Or.inl (hw _ (List.mem_of_getElem? (i := 116) rfl))) Via.refl e44 F_a_resultCount (g := (mkF mM 12 #[.val (.ref a), .val (.long (rc / ((pp).toInt64))), .second] [(.ref a)])) rfl rfl (hb hby d15_12)
  refine own_st (A := T45.setTop (mkF mM 15 #[.val (.ref a), .val (.long (rc / ((pp).toInt64))), .second] [(.long rc)])) (fun tT_ kK_ => st45 tT_ kK_) ?_
  refine own_st (A := T45.setTop (mkF mM 16 #[.val (.ref a), .val (.long (rc / ((pp).toInt64))), .second] [(.ref a), (.long rc)])) (fun tT_ kK_ => XS.aloadN X45.here hx rfl (hb hby d15_15) rfl rfl kK_) ?_
  obtain ⟨T46, X46, e46, st46⟩ := getF X45 hx hZ hown (host := "") (Or.inl (hw _ (List.mem_of_getElem? (i := 120) rfl))) Via.refl e45 F_a_perPage (g := (mkF mM 16 #[.val (.ref a), .val (.long (rc / ((pp).toInt64))), .second] [(.ref a), (.long rc)])) rfl rfl (hb hby d15_16)
  refine own_st (A := T46.setTop (mkF mM 19 #[.val (.ref a), .val (.long (rc / ((pp).toInt64))), .second] [(.int pp), (.long rc)])) (fun tT_ kK_ => st46 tT_ kK_) ?_
  refine own_st (A := T46.setTop (mkF mM 20 #[.val (.ref a), .val (.long (rc / ((pp).toInt64))), .second] [(.long ((pp).toInt64)), (.long rc)])) (fun tT_ kK_ => XS.i2l X46.here hx rfl (hb hby d15_19) rfl kK_) ?_
  refine own_st (A := T46.setTop (mkF mM 21 #[.val (.ref a), .val (.long (rc / ((pp).toInt64))), .second] [(.long (rc - (rc / ((pp).toInt64)) * ((pp).toInt64)))])) (fun tT_ kK_ => XS.lrem X46.here hx rfl (hb hby d15_20) rfl hz kK_) ?_
  refine own_st (A := T46.setTop (mkF mM 22 #[.val (.ref a), .val (.long (rc / ((pp).toInt64))), .second] [(.long (0 : Int64)), (.long (rc - (rc / ((pp).toInt64)) * ((pp).toInt64)))])) (fun tT_ kK_ => XS.lconst X46.here hx rfl (hb hby d15_21) kK_) ?_
  refine own_st (A := T46.setTop (mkF mM 23 #[.val (.ref a), .val (.long (rc / ((pp).toInt64))), .second] [(.int (lcmpW (rc - (rc / ((pp).toInt64)) * ((pp).toInt64)) (0 : Int64)))])) (fun tT_ kK_ => XS.lcmp X46.here hx rfl (hb hby d15_22) rfl kK_) ?_
  by_cases hc23_47 : (lcmpW (rc - (rc / ((pp).toInt64)) * ((pp).toInt64)) (0 : Int64)) = (0 : Int32)
  · skip
    refine own_st (A := T46.setTop (mkF mM 26 #[.val (.ref a), .val (.long (rc / ((pp).toInt64))), .second] [])) (fun tT_ kK_ => XS.ifNo X46.here hx rfl (hb hby d15_23) rfl ((if0 _ _).trans (teq hc23_47).2) kK_) ?_
    refine own_st (A := T46.setTop (mkF mM 27 #[.val (.ref a), .val (.long (rc / ((pp).toInt64))), .second] [(.long (rc / ((pp).toInt64)))])) (fun tT_ kK_ => XS.lloadN X46.here hx rfl (hb hby d15_26) rfl kK_) ?_
    refine own_st (A := T46.setTop (mkF mM 33 #[.val (.ref a), .val (.long (rc / ((pp).toInt64))), .second] [(.long (rc / ((pp).toInt64)))])) (fun tT_ kK_ => XS.goto X46.here hx rfl (pc0 := 27) (pc' := 33) rfl (hb hby d15_27) (by decide) (by decide) kK_) ?_
    obtain ⟨_, _, ⟨T48, L48, k48, n48⟩, -, X48, ⟨Lc48, hQ48, l48, y48, z48⟩, st48⟩ := Jvm.LawKit.callS X46 hx (y := (⟨"java/lang/Math", "toIntExact", "(J)I"⟩ : MethodName)) hown (mvT hZ (hw _ (List.mem_of_getElem? (i := 127) rfl))) (mvT hZ (hw _ (List.mem_of_getElem? (i := 128) rfl))) (mvT hZ (hw _ (List.mem_of_getElem? (i := 67) rfl))) (mvT hZ (hw _ (List.mem_of_getElem? (i := 129) rfl))) (by decide) (backOf (W := 0) (rmT lL Z a0 hw [] (rc / ((pp).toInt64)) h0 n0 (t1 hc23_47)) hZ (hw _ (List.mem_of_getElem? (i := 129) rfl)) (hw _ (List.mem_of_getElem? (i := 67) rfl)) (by decide) (by decide)) (g := (mkF mM 33 #[.val (.ref a), .val (.long (rc / ((pp).toInt64))), .second] [(.long (rc / ((pp).toInt64)))])) rfl (by rw [hml]; rfl) (argsL := [(.long (rc / ((pp).toInt64)))]) (rest := []) (lenOf pd__28J_29I rfl) rfl (by show 2 * 0 + _ ≤ _; exact Nat.le_of_eq rfl) (hb hby d15_33) (fun _ _ => ⟨rfl, e46, (by decide : 0 + 0 ≤ _), (by decide : 0 + 0 ≤ _)⟩)
    dsimp only [Pt.U, Pt.locs, Pt.cells, Pt.slots] at X48 l48 y48 z48 st48 hQ48
    subst l48 y48 z48
    obtain ⟨rfl, N48q, e48⟩ := hQ48
    have N48 := Fr.app N0 N48q
    refine own_st (A := T48.setTop (mkF mM 36 #[.val (.ref a), .val (.long (rc / ((pp).toInt64))), .second] [(.int ((rc / ((pp).toInt64))).toInt32)])) (fun tT_ kK_ => st48 tT_ kK_) ?_
    exact own_retI X48 hx hlk hret (hb hby d15_36) (by rw [c1 hc23_47]; exact ⟨rfl, N48, e48⟩) (by decide) (by decide)
  · skip
    refine own_st (A := T46.setTop (mkF mM 30 #[.val (.ref a), .val (.long (rc / ((pp).toInt64))), .second] [])) (fun tT_ kK_ => XS.ifYes X46.here hx rfl (pc0 := 23) (pc' := 30) rfl (hb hby d15_23) rfl ((if0 _ _).trans (feq hc23_47).2) (by decide) (by decide) kK_) ?_
    refine own_st (A := T46.setTop (mkF mM 31 #[.val (.ref a), .val (.long (rc / ((pp).toInt64))), .second] [(.long (rc / ((pp).toInt64)))])) (fun tT_ kK_ => XS.lloadN X46.here hx rfl (hb hby d15_30) rfl kK_) ?_
    refine own_st (A := T46.setTop (mkF mM 32 #[.val (.ref a), .val (.long (rc / ((pp).toInt64))), .second] [(.long (1 : Int64)), (.long (rc / ((pp).toInt64)))])) (fun tT_ kK_ => XS.lconst X46.here hx rfl (hb hby d15_31) kK_) ?_
    refine own_st (A := T46.setTop (mkF mM 33 #[.val (.ref a), .val (.long (rc / ((pp).toInt64))), .second] [(.long ((rc / ((pp).toInt64)) + (1 : Int64)))])) (fun tT_ kK_ => XS.ladd X46.here hx rfl (hb hby d15_32) rfl kK_) ?_
    obtain ⟨_, _, ⟨T49, L49, k49, n49⟩, -, X49, ⟨Lc49, hQ49, l49, y49, z49⟩, st49⟩ := Jvm.LawKit.callS X46 hx (y := (⟨"java/lang/Math", "toIntExact", "(J)I"⟩ : MethodName)) hown (mvT hZ (hw _ (List.mem_of_getElem? (i := 127) rfl))) (mvT hZ (hw _ (List.mem_of_getElem? (i := 128) rfl))) (mvT hZ (hw _ (List.mem_of_getElem? (i := 67) rfl))) (mvT hZ (hw _ (List.mem_of_getElem? (i := 129) rfl))) (by decide) (backOf (W := 0) (rmT lL Z a0 hw [] ((rc / ((pp).toInt64)) + (1 : Int64)) h0 n0 (t0 hc23_47)) hZ (hw _ (List.mem_of_getElem? (i := 129) rfl)) (hw _ (List.mem_of_getElem? (i := 67) rfl)) (by decide) (by decide)) (g := (mkF mM 33 #[.val (.ref a), .val (.long (rc / ((pp).toInt64))), .second] [(.long ((rc / ((pp).toInt64)) + (1 : Int64)))])) rfl (by rw [hml]; rfl) (argsL := [(.long ((rc / ((pp).toInt64)) + (1 : Int64)))]) (rest := []) (lenOf pd__28J_29I rfl) rfl (by show 2 * 0 + _ ≤ _; exact Nat.le_of_eq rfl) (hb hby d15_33) (fun _ _ => ⟨rfl, e46, (by decide : 0 + 0 ≤ _), (by decide : 0 + 0 ≤ _)⟩)
    dsimp only [Pt.U, Pt.locs, Pt.cells, Pt.slots] at X49 l49 y49 z49 st49 hQ49
    subst l49 y49 z49
    obtain ⟨rfl, N49q, e49⟩ := hQ49
    have N49 := Fr.app N0 N49q
    refine own_st (A := T49.setTop (mkF mM 36 #[.val (.ref a), .val (.long (rc / ((pp).toInt64))), .second] [(.int (((rc / ((pp).toInt64)) + (1 : Int64))).toInt32)])) (fun tT_ kK_ => st49 tT_ kK_) ?_
    exact own_retI X49 hx hlk hret (hb hby d15_36) (by rw [c0 hc23_47]; exact ⟨rfl, N49, e49⟩) (by decide) (by decide)
theorem own_mul (q p : Int) (h1 : 0 ≤ q) (h2 : q ≤ 2147483647) (h3 : 0 ≤ p) (h4 : p ≤ 2147483647) : 0 ≤ q * p ∧ q * p ≤ 4611686014132420609 := by
  refine ⟨Int.mul_nonneg h1 h3, ?_⟩
  have := Int.mul_le_mul h2 h4 h3 (by omega : (0 : Int) ≤ 2147483647)
  omega
theorem own_div (q p r : Int) (hp : 1 ≤ p) (hr : 0 ≤ r) (hr2 : r < p) : (q * p + r) / p = q ∧ (q * p + r) % p = r := by
  have e : q * p + r = r + q * p := Int.add_comm ..
  rw [e]
  refine ⟨?_, ?_⟩
  · rw [Int.add_mul_ediv_right _ _ (by omega), Int.ediv_eq_zero_of_lt hr hr2]; omega
  · rw [Int.add_mul_emod_self_right, Int.emod_eq_of_lt hr hr2]
theorem own_page (pp q r : Int32) (hp : 1 ≤ pp.toInt) (hq : 0 ≤ q.toInt) (hr : 0 ≤ r.toInt) (hr2 : r.toInt < pp.toInt) : (¬ ((pp).toInt64) = (0 : Int64)) ∧ (((((q).toInt64) * ((pp).toInt64)) + ((r).toInt64)) / ((pp).toInt64)) = q.toInt64 ∧ ((lcmpW (((((q).toInt64) * ((pp).toInt64)) + ((r).toInt64)) - (((((q).toInt64) * ((pp).toInt64)) + ((r).toInt64)) / ((pp).toInt64)) * ((pp).toInt64)) (0 : Int64)) = (0 : Int32) ↔ r = 0) := by
  have rp := rng32 pp
  have rq := rng32 q
  have ep := c_i2l pp
  have eq := c_i2l q
  have er := c_i2l r
  obtain ⟨m1, m2⟩ := own_mul q.toInt pp.toInt hq (by omega) (by omega) (by omega)
  have a1 := c_lmul q.toInt64 pp.toInt64
  rw [eq, ep] at a1
  have r1 := rng64 (q.toInt64 * pp.toInt64)
  have a2 := c_ladd (q.toInt64 * pp.toInt64) r.toInt64
  have r2 := rng64 (((((q).toInt64) * ((pp).toInt64)) + ((r).toInt64)))
  have hrc : (((((q).toInt64) * ((pp).toInt64)) + ((r).toInt64))).toInt = q.toInt * pp.toInt + r.toInt := by omega
  obtain ⟨d1, d2⟩ := own_div q.toInt pp.toInt r.toInt hp hr hr2
  have z0 : (0 : Int64).toInt = 0 := by decide
  have n1 : pp.toInt64 ≠ -1 := fun h => by
    have : (-1 : Int64).toInt = -1 := by decide
    rw [h, this] at ep; omega
  have b1 := (c_ldiv (((((q).toInt64) * ((pp).toInt64)) + ((r).toInt64))) pp.toInt64 pp.toInt ep n1).1 (by omega)
  have b2 := (c_lrem (((((q).toInt64) * ((pp).toInt64)) + ((r).toInt64))) pp.toInt64 pp.toInt ep).1 (by omega)
  rw [hrc, d1] at b1
  rw [hrc, d2] at b2
  refine ⟨fun h => by rw [h, z0] at ep; omega, ?_, ?_⟩
  · rw [← Int64.toInt_inj, b1, eq]
  · rw [lw_eq, ← Int64.toInt_inj, b2, z0, ← Int32.toInt_inj]
    exact Iff.rfl
theorem own_back (q : Int32) : q.toInt64.toInt32 = q := by
  have a := c_l2i q.toInt64
  have e := c_i2l q
  have r := rng32 q
  have r2 := rng32 (q.toInt64.toInt32)
  rw [← Int32.toInt_inj]; omega
theorem own_next (q : Int32) (h : q.toInt < 2147483647) : ((q.toInt64 + (1 : Int64)).toInt32) = q + 1 ∧ ((q.toInt64 + (1 : Int64)).toInt32).toInt64 = q.toInt64 + (1 : Int64) := by
  have e := c_i2l q
  have o1 : (1 : Int64).toInt = 1 := by decide
  have o2 : (1 : Int32).toInt = 1 := by decide
  have a := c_ladd q.toInt64 1
  have r := rng32 q
  have r1 := rng64 (q.toInt64 + 1)
  have b := c_l2i (q.toInt64 + 1)
  have r2 := rng32 ((q.toInt64 + (1 : Int64)).toInt32)
  have c := c_iadd q 1
  have r3 := rng32 (q + 1)
  have d := c_i2l ((q.toInt64 + (1 : Int64)).toInt32)
  refine ⟨?_, ?_⟩
  · rw [← Int32.toInt_inj]; omega
  · rw [← Int64.toInt_inj]; omega
theorem pd__28Ljava_2futil_2fList_3bJII_29V : parseMethodDescriptor "(Ljava/util/List;JII)V" = some ⟨[(.object "java/util/List"), .long, .int, .int], none⟩ := by decide +kernel
theorem pd__28_29I : parseMethodDescriptor "()I" = some ⟨[], some .int⟩ := by decide +kernel
set_option maxRecDepth 65536 in
set_option maxHeartbeats 40000000 in
theorem J73 {pP : Program} {lL : Launch} {eE : Env} {sS : State} {mM : MethodId} {args : Array Value} {below : List Frame} {meth : Method} {cC : Code} {T0 : State} {locs : List Loc} {Z : State} {a0 : Array Value} {h0 : Heap} {n0 : Nat} (hw : ∀ d ∈ tables_1, d.before a0 Z = true) (X0 : Stand pP lL eE room_1 sS mM args below meth cC T0 locs 0 0) (hx : pP.tables.exec = Jvm.exec) (hZ : Z.Warmed39 sS.vm) (hby : cC.code = code) (hml : cC.maxLocals = 11) (hown : sS.vm.findClass "com/example/vyasa/vyasa/PagePageCountPinLaw" = some mM.cls) (hlk : meth.locks = false) (hret : meth.sig.returnType = ret) (e0 : T0.heap = h0) (N0 : Fr n0 locs) (x0 : Int32) (x1 : Int32) (x2 : Int32) (x3 : Int32) (pp : Int32) (q : Int32) (r : Int32) (rc : Int64) (ex : Int32) (dc : Addr) (kd : ClassId) (mo : Addr) (ee : Addr) (ma : Addr) (ml : Addr) (mr : Addr) (O : Old Z n0 h0) (Zn : n0 ≤ h0.size) (V_dc : Arv Z Z.heap dc kd (.object "java/lang/Object") 0 [] .null) (E_dc : Exa Z Z.heap dc "[Ljava/lang/Object;") (M_oa : own_Mr Z "[Ljava/lang/Object;" mo) (S_ee : Sta Z Z.heap "java/util/ArrayList" "EMPTY_ELEMENTDATA" "[Ljava/lang/Object;" (.ref ee)) (M_a : own_Mr Z "java/util/ArrayList" ma) (M_l : own_Mr Z "java/util/Collections$UnmodifiableList" ml) (M_r : own_Mr Z "java/util/Collections$UnmodifiableRandomAccessList" mr) (S_dc : Sta Z Z.heap "java/util/ArrayList" "DEFAULTCAPACITY_EMPTY_ELEMENTDATA" "[Ljava/lang/Object;" (.ref dc)) (hz : ¬ ((pp).toInt64) = (0 : Int64)) (t1 : (lcmpW (rc - (rc / ((pp).toInt64)) * ((pp).toInt64)) (0 : Int64)) = (0 : Int32) → ((rc / ((pp).toInt64)).toInt32).toInt64 = (rc / ((pp).toInt64))) (t0 : ¬ (lcmpW (rc - (rc / ((pp).toInt64)) * ((pp).toInt64)) (0 : Int64)) = (0 : Int32) → (((rc / ((pp).toInt64)) + (1 : Int64)).toInt32).toInt64 = ((rc / ((pp).toInt64)) + (1 : Int64))) (c1 : (lcmpW (rc - (rc / ((pp).toInt64)) * ((pp).toInt64)) (0 : Int64)) = (0 : Int32) → ex = (rc / ((pp).toInt64)).toInt32) (c0 : ¬ (lcmpW (rc - (rc / ((pp).toInt64)) * ((pp).toInt64)) (0 : Int64)) = (0 : Int32) → ex = ((rc / ((pp).toInt64)) + (1 : Int64)).toInt32) :
    own_Go pP eE below sS (QLaw n0) 24 128 (T0.setTop (mkF mM 73 #[.val (.int x0), .val (.int x1), .val (.int x2), .val (.int x3), .val (.int pp), .val (.int q), .val (.int r), .val (.long rc), .second, .val (.int ex), .unset] [])) := by
  obtain ⟨T50, h50, X50, e50, E50, A50, D50, -, st50⟩ := newO X0 hx hZ hown (hw _ (List.mem_of_getElem? (i := 1) rfl)) (hw _ (List.mem_of_getElem? (i := 2) rfl)) (hw _ (List.mem_of_getElem? (i := 3) rfl)) e0 (g := (mkF mM 73 #[.val (.int x0), .val (.int x1), .val (.int x2), .val (.int x3), .val (.int pp), .val (.int q), .val (.int r), .val (.long rc), .second, .val (.int ex), .unset] [])) rfl (hb hby at_73) (by decide) (by decide)
  obtain ⟨b50, g50⟩ : ∃ z, z = h0.size := ⟨_, rfl⟩
  rw [← g50] at A50 D50 st50
  have g_b50 : n0 ≤ b50 := Nat.le_trans Zn (Nat.le_of_eq g50.symm)
  have O := O.ext E50
  have Zn := Nat.le_trans Zn E50.1
  have E_b50 := A50
  have F_b50_rows : Fld Z h50 b50 "com/example/vyasa/vyasa/Page" "rows" "Ljava/util/List;" .null := D50 (Or.inr (hw _ (List.mem_of_getElem? (i := 115) rfl))) (ty := (.object "java/util/List")) (by decide)
  have F_b50_resultCount : Fld Z h50 b50 "com/example/vyasa/vyasa/Page" "resultCount" "J" (.long (0 : Int64)) := D50 (Or.inr (hw _ (List.mem_of_getElem? (i := 117) rfl))) (ty := .long) (by decide)
  have F_b50_page : Fld Z h50 b50 "com/example/vyasa/vyasa/Page" "page" "I" (.int (0 : Int32)) := D50 (Or.inr (hw _ (List.mem_of_getElem? (i := 119) rfl))) (ty := .int) (by decide)
  have F_b50_perPage : Fld Z h50 b50 "com/example/vyasa/vyasa/Page" "perPage" "I" (.int (0 : Int32)) := D50 (Or.inr (hw _ (List.mem_of_getElem? (i := 121) rfl))) (ty := .int) (by decide)
  refine own_st (A := T50.setTop (mkF mM 76 #[.val (.int x0), .val (.int x1), .val (.int x2), .val (.int x3), .val (.int pp), .val (.int q), .val (.int r), .val (.long rc), .second, .val (.int ex), .unset] [(.ref b50)])) (fun tT_ kK_ => st50 tT_ kK_) ?_
  refine own_st (A := T50.setTop (mkF mM 77 #[.val (.int x0), .val (.int x1), .val (.int x2), .val (.int x3), .val (.int pp), .val (.int q), .val (.int r), .val (.long rc), .second, .val (.int ex), .unset] [(.ref b50), (.ref b50)])) (fun tT_ kK_ => XS.dup X50.here hx rfl (hb hby at_76) rfl rfl kK_) ?_
  obtain ⟨T51, h51, X51, e51, E51, A51, D51, -, st51⟩ := newO X50 hx hZ hown (hw _ (List.mem_of_getElem? (i := 4) rfl)) (hw _ (List.mem_of_getElem? (i := 5) rfl)) (hw _ (List.mem_of_getElem? (i := 6) rfl)) e50 (g := (mkF mM 77 #[.val (.int x0), .val (.int x1), .val (.int x2), .val (.int x3), .val (.int pp), .val (.int q), .val (.int r), .val (.long rc), .second, .val (.int ex), .unset] [(.ref b50), (.ref b50)])) rfl (hb hby at_77) (by decide) (by decide)
  obtain ⟨b51, g51⟩ : ∃ z, z = h50.size := ⟨_, rfl⟩
  rw [← g51] at A51 D51 st51
  have ne_b50_b51 : b50 ≠ b51 := Nat.ne_of_lt (Nat.lt_of_lt_of_le E_b50.lt (Nat.le_of_eq g51.symm))
  have g_b51 : n0 ≤ b51 := Nat.le_trans Zn (Nat.le_of_eq g51.symm)
  have F_b50_rows := F_b50_rows.ext E51
  have F_b50_resultCount := F_b50_resultCount.ext E51
  have F_b50_page := F_b50_page.ext E51
  have F_b50_perPage := F_b50_perPage.ext E51
  have E_b50 := E_b50.ext E51
  have O := O.ext E51
  have Zn := Nat.le_trans Zn E51.1
  have E_b51 := A51
  have F_b51_modCount : Fld Z h51 b51 "java/util/AbstractList" "modCount" "I" (.int (0 : Int32)) := D51 (Or.inl (hw _ (List.mem_of_getElem? (i := 26) rfl))) (ty := .int) (by decide)
  have F_b51_elementData : Fld Z h51 b51 "java/util/ArrayList" "elementData" "[Ljava/lang/Object;" .null := D51 (Or.inl (hw _ (List.mem_of_getElem? (i := 29) rfl))) (ty := (.array (.object "java/lang/Object"))) (by decide)
  have F_b51_size : Fld Z h51 b51 "java/util/ArrayList" "size" "I" (.int (0 : Int32)) := D51 (Or.inl (hw _ (List.mem_of_getElem? (i := 48) rfl))) (ty := .int) (by decide)
  refine own_st (A := T51.setTop (mkF mM 80 #[.val (.int x0), .val (.int x1), .val (.int x2), .val (.int x3), .val (.int pp), .val (.int q), .val (.int r), .val (.long rc), .second, .val (.int ex), .unset] [(.ref b51), (.ref b50), (.ref b50)])) (fun tT_ kK_ => st51 tT_ kK_) ?_
  refine own_st (A := T51.setTop (mkF mM 81 #[.val (.int x0), .val (.int x1), .val (.int x2), .val (.int x3), .val (.int pp), .val (.int q), .val (.int r), .val (.long rc), .second, .val (.int ex), .unset] [(.ref b51), (.ref b51), (.ref b50), (.ref b50)])) (fun tT_ kK_ => XS.dup X51.here hx rfl (hb hby at_80) rfl rfl kK_) ?_
  obtain ⟨_, _, ⟨T52, L52, k52, n52⟩, -, X52, ⟨Lc52, hQ52, l52, y52, z52⟩, st52⟩ := X51.specialBack hx (y := (⟨"java/util/ArrayList", "<init>", "()V"⟩ : MethodName)) rfl hown (mvT hZ (hw _ (List.mem_of_getElem? (i := 7) rfl))) (mvT hZ (hw _ (List.mem_of_getElem? (i := 8) rfl))) (mvT hZ (hw _ (List.mem_of_getElem? (i := 9) rfl))) (by decide) (backOf (W := 3) (rmA0 lL Z a0 hw [] b51 dc h51 n0 g_b51 E_b51 F_b51_modCount F_b51_elementData F_b51_size O S_dc) hZ (hw _ (List.mem_of_getElem? (i := 9) rfl)) (hw _ (List.mem_of_getElem? (i := 6) rfl)) (by decide) (by decide)) (g := (mkF mM 81 #[.val (.int x0), .val (.int x1), .val (.int x2), .val (.int x3), .val (.int pp), .val (.int q), .val (.int r), .val (.long rc), .second, .val (.int ex), .unset] [(.ref b51), (.ref b51), (.ref b50), (.ref b50)])) rfl (by rw [hml]; rfl) (Steps.refl _) (a := b51) (argsL := []) (rest := [(.ref b51), (.ref b50), (.ref b50)]) (lenOf pd__28_29V rfl) rfl (by show 2 * 0 + _ ≤ _; exact Nat.le_of_eq rfl) (hb hby at_81) (fun _ _ => ⟨rfl, e51, (by decide : 2 + 0 ≤ _), (by decide : 7 + 0 ≤ _)⟩)
  dsimp only [Pt.U, Pt.locs, Pt.cells, Pt.slots] at X52 l52 y52 z52 st52 hQ52
  subst l52 y52 z52
  obtain ⟨rfl, N52q, K52, ob⟩ := hQ52
  have N52 := Fr.app N0 N52q
  have e52 : T52.heap = T52.heap := rfl
  refine own_st (A := T52.setTop (mkF mM 84 #[.val (.int x0), .val (.int x1), .val (.int x2), .val (.int x3), .val (.int pp), .val (.int q), .val (.int r), .val (.long rc), .second, .val (.int ex), .unset] [(.ref b51), (.ref b50), (.ref b50)])) (fun tT_ kK_ => st52.trans kK_) ?_
  have F_b50_rows := F_b50_rows.keep K52 (ninS ne_b50_b51 nin0)
  have F_b50_resultCount := F_b50_resultCount.keep K52 (ninS ne_b50_b51 nin0)
  have F_b50_page := F_b50_page.keep K52 (ninS ne_b50_b51 nin0)
  have F_b50_perPage := F_b50_perPage.keep K52 (ninS ne_b50_b51 nin0)
  have E_b50 := E_b50.keep K52
  have E_b51 := E_b51.keep K52
  have O := O.keep K52 (allS g_b51 all0)
  have Zn := Nat.le_trans Zn K52.1
  refine own_st (A := T52.setTop (mkF mM 86 #[.val (.int x0), .val (.int x1), .val (.int x2), .val (.int x3), .val (.int pp), .val (.int q), .val (.int r), .val (.long rc), .second, .val (.int ex), .unset] [(.long rc), (.ref b51), (.ref b50), (.ref b50)])) (fun tT_ kK_ => XS.lload X52.here hx rfl (hb hby at_84) rfl kK_) ?_
  refine own_st (A := T52.setTop (mkF mM 87 #[.val (.int x0), .val (.int x1), .val (.int x2), .val (.int x3), .val (.int pp), .val (.int q), .val (.int r), .val (.long rc), .second, .val (.int ex), .unset] [(.int x3), (.long rc), (.ref b51), (.ref b50), (.ref b50)])) (fun tT_ kK_ => XS.iloadN X52.here hx rfl (hb hby at_86) rfl kK_) ?_
  refine own_st (A := T52.setTop (mkF mM 89 #[.val (.int x0), .val (.int x1), .val (.int x2), .val (.int x3), .val (.int pp), .val (.int q), .val (.int r), .val (.long rc), .second, .val (.int ex), .unset] [(.int pp), (.int x3), (.long rc), (.ref b51), (.ref b50), (.ref b50)])) (fun tT_ kK_ => XS.iload X52.here hx rfl (hb hby at_87) rfl kK_) ?_
  obtain ⟨_, _, ⟨T53, L53, k53, n53⟩, -, X53, ⟨Lc53, hQ53, l53, y53, z53⟩, st53⟩ := X52.specialBack hx (y := (⟨"com/example/vyasa/vyasa/Page", "<init>", "(Ljava/util/List;JII)V"⟩ : MethodName)) rfl hown (mvT hZ (hw _ (List.mem_of_getElem? (i := 30) rfl))) (mvT hZ (hw _ (List.mem_of_getElem? (i := 31) rfl))) (mvT hZ (hw _ (List.mem_of_getElem? (i := 32) rfl))) (by decide) (backOf (W := 1) (rmPI lL Z a0 hw [] b50 b51 rc x3 pp dc kd mo ee ma ml mr T52.heap n0 g_b50 E_b50 F_b50_rows F_b50_resultCount F_b50_page F_b50_perPage O Zn V_dc E_dc M_oa S_ee M_a M_l M_r ob) hZ (hw _ (List.mem_of_getElem? (i := 32) rfl)) (hw _ (List.mem_of_getElem? (i := 3) rfl)) (by decide) (by decide)) (g := (mkF mM 89 #[.val (.int x0), .val (.int x1), .val (.int x2), .val (.int x3), .val (.int pp), .val (.int q), .val (.int r), .val (.long rc), .second, .val (.int ex), .unset] [(.int pp), (.int x3), (.long rc), (.ref b51), (.ref b50), (.ref b50)])) rfl (by rw [hml]; rfl) (Steps.refl _) (a := b50) (argsL := [(.ref b51), (.long rc), (.int x3), (.int pp)]) (rest := [(.ref b50)]) (lenOf pd__28Ljava_2futil_2fList_3bJII_29V rfl) rfl (by show 2 * 0 + _ ≤ _; exact Nat.le_of_eq rfl) (hb hby at_89) (fun _ _ => ⟨rfl, e52, (by decide : 2 + 3 ≤ _), (by decide : 7 + 5 ≤ _)⟩)
  dsimp only [Pt.U, Pt.locs, Pt.cells, Pt.slots] at X53 l53 y53 z53 st53 hQ53
  subst l53 y53 z53
  obtain ⟨rfl, N53q, K53, x53, y53, z53', u53⟩ := hQ53
  have N53 := Fr.app N52 N53q
  have e53 : T53.heap = T53.heap := rfl
  refine own_st (A := T53.setTop (mkF mM 92 #[.val (.int x0), .val (.int x1), .val (.int x2), .val (.int x3), .val (.int pp), .val (.int q), .val (.int r), .val (.long rc), .second, .val (.int ex), .unset] [(.ref b50)])) (fun tT_ kK_ => st53.trans kK_) ?_
  refine own_st (A := T53.setTop (mkF mM 94 #[.val (.int x0), .val (.int x1), .val (.int x2), .val (.int x3), .val (.int pp), .val (.int q), .val (.int r), .val (.long rc), .second, .val (.int ex), .val (.ref b50)] [])) (fun tT_ kK_ => XS.astore X53.here hx rfl (hb hby at_92) rfl rfl (l' := #[.val (.int x0), .val (.int x1), .val (.int x2), .val (.int x3), .val (.int pp), .val (.int q), .val (.int r), .val (.long rc), .second, .val (.int ex), .val (.ref b50)]) rfl kK_) ?_
  refine own_st (A := T53.setTop (mkF mM 96 #[.val (.int x0), .val (.int x1), .val (.int x2), .val (.int x3), .val (.int pp), .val (.int q), .val (.int r), .val (.long rc), .second, .val (.int ex), .val (.ref b50)] [(.ref b50)])) (fun tT_ kK_ => XS.aload X53.here hx rfl (hb hby at_94) rfl rfl kK_) ?_
  obtain ⟨cq54, kq54, q54a, q54b, q54c⟩ := isOf hZ e53 x53
  obtain ⟨_, _, ⟨T54, L54, k54, n54⟩, -, X54, ⟨Lc54, hQ54, l54, y54, z54⟩, st54⟩ := X53.virtualBack hx (y := (⟨"com/example/vyasa/vyasa/Page", "pageCount", "()I"⟩ : MethodName)) (z := (⟨"com/example/vyasa/vyasa/Page", "pageCount", "()I"⟩ : MethodName)) hown (mvT hZ (hw _ (List.mem_of_getElem? (i := 122) rfl))) (mvT hZ (hw _ (List.mem_of_getElem? (i := 123) rfl))) (notFace_of_selects (args := #[]) (mvT hZ (hw _ (List.mem_of_getElem? (i := 125) rfl)))) (mvT hZ (hw _ (List.mem_of_getElem? (i := 125) rfl))) (mvT hZ (hw _ (List.mem_of_getElem? (i := 124) rfl))) (by decide) (backOf (W := 0) (rmC lL Z a0 hw [] b50 rc pp ex T53.heap n0 y53 u53 hz t1 t0 c1 c0) hZ (hw _ (List.mem_of_getElem? (i := 126) rfl)) (hw _ (List.mem_of_getElem? (i := 3) rfl)) (by decide) (by decide)) q54a q54c (g := (mkF mM 96 #[.val (.int x0), .val (.int x1), .val (.int x2), .val (.int x3), .val (.int pp), .val (.int q), .val (.int r), .val (.long rc), .second, .val (.int ex), .val (.ref b50)] [(.ref b50)])) rfl (by rw [hml]; rfl) (Steps.refl _) (argsL := []) (rest := []) (lenOf pd__28_29I rfl) rfl (by show 2 * 0 + _ ≤ _; exact Nat.le_of_eq rfl) (hb hby at_96) (fun _ _ => ⟨rfl, e53, (by decide : 5 + 0 ≤ _), (by decide : 12 + 0 ≤ _)⟩)
  dsimp only [Pt.U, Pt.locs, Pt.cells, Pt.slots] at X54 l54 y54 z54 st54 hQ54
  subst l54 y54 z54
  obtain ⟨rfl, N54q, e54⟩ := hQ54
  have N54 := Fr.app N53 N54q
  refine own_st (A := T54.setTop (mkF mM 99 #[.val (.int x0), .val (.int x1), .val (.int x2), .val (.int x3), .val (.int pp), .val (.int q), .val (.int r), .val (.long rc), .second, .val (.int ex), .val (.ref b50)] [(.int ex)])) (fun tT_ kK_ => st54.trans kK_) ?_
  refine own_st (A := T54.setTop (mkF mM 101 #[.val (.int x0), .val (.int x1), .val (.int x2), .val (.int x3), .val (.int pp), .val (.int q), .val (.int r), .val (.long rc), .second, .val (.int ex), .val (.ref b50)] [(.int ex), (.int ex)])) (fun tT_ kK_ => XS.iload X54.here hx rfl (hb hby at_99) rfl kK_) ?_
  refine own_st (A := T54.setTop (mkF mM 104 #[.val (.int x0), .val (.int x1), .val (.int x2), .val (.int x3), .val (.int pp), .val (.int q), .val (.int r), .val (.long rc), .second, .val (.int ex), .val (.ref b50)] [])) (fun tT_ kK_ => XS.icmpNo X54.here hx rfl (hb hby at_101) rfl (teq (rfl : ex = ex)).2 kK_) ?_
  refine own_st (A := T54.setTop (mkF mM 105 #[.val (.int x0), .val (.int x1), .val (.int x2), .val (.int x3), .val (.int pp), .val (.int q), .val (.int r), .val (.long rc), .second, .val (.int ex), .val (.ref b50)] [(.int (1 : Int32))])) (fun tT_ kK_ => XS.iconst X54.here hx rfl (hb hby at_104) kK_) ?_
  refine own_st (A := T54.setTop (mkF mM 109 #[.val (.int x0), .val (.int x1), .val (.int x2), .val (.int x3), .val (.int pp), .val (.int q), .val (.int r), .val (.long rc), .second, .val (.int ex), .val (.ref b50)] [(.int (1 : Int32))])) (fun tT_ kK_ => XS.goto X54.here hx rfl (pc0 := 105) (pc' := 109) rfl (hb hby at_105) (by decide) (by decide) kK_) ?_
  exact own_retN X54 hx hlk (t := .boolean) hret (by simp) (hb hby at_109) ⟨rfl, N54⟩ (by decide) (by decide)
set_option maxRecDepth 65536 in
set_option maxHeartbeats 40000000 in
theorem J44 {pP : Program} {lL : Launch} {eE : Env} {sS : State} {mM : MethodId} {args : Array Value} {below : List Frame} {meth : Method} {cC : Code} {T0 : State} {locs : List Loc} {Z : State} {a0 : Array Value} {h0 : Heap} {n0 : Nat} (hw : ∀ d ∈ tables_1, d.before a0 Z = true) (X0 : Stand pP lL eE room_1 sS mM args below meth cC T0 locs 0 0) (hx : pP.tables.exec = Jvm.exec) (hZ : Z.Warmed39 sS.vm) (hby : cC.code = code) (hml : cC.maxLocals = 11) (hown : sS.vm.findClass "com/example/vyasa/vyasa/PagePageCountPinLaw" = some mM.cls) (hlk : meth.locks = false) (hret : meth.sig.returnType = ret) (e0 : T0.heap = h0) (N0 : Fr n0 locs) (x0 : Int32) (x1 : Int32) (x2 : Int32) (x3 : Int32) (pp : Int32) (q : Int32) (r : Int32) (dc : Addr) (kd : ClassId) (mo : Addr) (ee : Addr) (ma : Addr) (ml : Addr) (mr : Addr) (O : Old Z n0 h0) (Zn : n0 ≤ h0.size) (V_dc : Arv Z Z.heap dc kd (.object "java/lang/Object") 0 [] .null) (E_dc : Exa Z Z.heap dc "[Ljava/lang/Object;") (M_oa : own_Mr Z "[Ljava/lang/Object;" mo) (S_ee : Sta Z Z.heap "java/util/ArrayList" "EMPTY_ELEMENTDATA" "[Ljava/lang/Object;" (.ref ee)) (M_a : own_Mr Z "java/util/ArrayList" ma) (M_l : own_Mr Z "java/util/Collections$UnmodifiableList" ml) (M_r : own_Mr Z "java/util/Collections$UnmodifiableRandomAccessList" mr) (S_dc : Sta Z Z.heap "java/util/ArrayList" "DEFAULTCAPACITY_EMPTY_ELEMENTDATA" "[Ljava/lang/Object;" (.ref dc)) (hp : 1 ≤ pp.toInt) (hq : 0 ≤ q.toInt) (hr : 0 ≤ r.toInt) (hr2 : r.toInt < pp.toInt) (hm : ¬ r = (0 : Int32) → q.toInt < 2147483647) :
    own_Go pP eE below sS (QLaw n0) 24 128 (T0.setTop (mkF mM 44 #[.val (.int x0), .val (.int x1), .val (.int x2), .val (.int x3), .val (.int pp), .val (.int q), .val (.int r), .unset, .unset, .unset, .unset] [])) := by
  refine own_st (A := T0.setTop (mkF mM 46 #[.val (.int x0), .val (.int x1), .val (.int x2), .val (.int x3), .val (.int pp), .val (.int q), .val (.int r), .unset, .unset, .unset, .unset] [(.int q)])) (fun tT_ kK_ => XS.iload X0.here hx rfl (hb hby at_44) rfl kK_) ?_
  refine own_st (A := T0.setTop (mkF mM 47 #[.val (.int x0), .val (.int x1), .val (.int x2), .val (.int x3), .val (.int pp), .val (.int q), .val (.int r), .unset, .unset, .unset, .unset] [(.long ((q).toInt64))])) (fun tT_ kK_ => XS.i2l X0.here hx rfl (hb hby at_46) rfl kK_) ?_
  refine own_st (A := T0.setTop (mkF mM 49 #[.val (.int x0), .val (.int x1), .val (.int x2), .val (.int x3), .val (.int pp), .val (.int q), .val (.int r), .unset, .unset, .unset, .unset] [(.int pp), (.long ((q).toInt64))])) (fun tT_ kK_ => XS.iload X0.here hx rfl (hb hby at_47) rfl kK_) ?_
  refine own_st (A := T0.setTop (mkF mM 50 #[.val (.int x0), .val (.int x1), .val (.int x2), .val (.int x3), .val (.int pp), .val (.int q), .val (.int r), .unset, .unset, .unset, .unset] [(.long ((pp).toInt64)), (.long ((q).toInt64))])) (fun tT_ kK_ => XS.i2l X0.here hx rfl (hb hby at_49) rfl kK_) ?_
  refine own_st (A := T0.setTop (mkF mM 51 #[.val (.int x0), .val (.int x1), .val (.int x2), .val (.int x3), .val (.int pp), .val (.int q), .val (.int r), .unset, .unset, .unset, .unset] [(.long (((q).toInt64) * ((pp).toInt64)))])) (fun tT_ kK_ => XS.lmul X0.here hx rfl (hb hby at_50) rfl kK_) ?_
  refine own_st (A := T0.setTop (mkF mM 53 #[.val (.int x0), .val (.int x1), .val (.int x2), .val (.int x3), .val (.int pp), .val (.int q), .val (.int r), .unset, .unset, .unset, .unset] [(.int r), (.long (((q).toInt64) * ((pp).toInt64)))])) (fun tT_ kK_ => XS.iload X0.here hx rfl (hb hby at_51) rfl kK_) ?_
  refine own_st (A := T0.setTop (mkF mM 54 #[.val (.int x0), .val (.int x1), .val (.int x2), .val (.int x3), .val (.int pp), .val (.int q), .val (.int r), .unset, .unset, .unset, .unset] [(.long ((r).toInt64)), (.long (((q).toInt64) * ((pp).toInt64)))])) (fun tT_ kK_ => XS.i2l X0.here hx rfl (hb hby at_53) rfl kK_) ?_
  refine own_st (A := T0.setTop (mkF mM 55 #[.val (.int x0), .val (.int x1), .val (.int x2), .val (.int x3), .val (.int pp), .val (.int q), .val (.int r), .unset, .unset, .unset, .unset] [(.long ((((q).toInt64) * ((pp).toInt64)) + ((r).toInt64)))])) (fun tT_ kK_ => XS.ladd X0.here hx rfl (hb hby at_54) rfl kK_) ?_
  refine own_st (A := T0.setTop (mkF mM 57 #[.val (.int x0), .val (.int x1), .val (.int x2), .val (.int x3), .val (.int pp), .val (.int q), .val (.int r), .val (.long ((((q).toInt64) * ((pp).toInt64)) + ((r).toInt64))), .second, .unset, .unset] [])) (fun tT_ kK_ => XS.lstore X0.here hx rfl (hb hby at_55) rfl (l' := #[.val (.int x0), .val (.int x1), .val (.int x2), .val (.int x3), .val (.int pp), .val (.int q), .val (.int r), .val (.long ((((q).toInt64) * ((pp).toInt64)) + ((r).toInt64))), .second, .unset, .unset]) rfl kK_) ?_
  refine own_st (A := T0.setTop (mkF mM 59 #[.val (.int x0), .val (.int x1), .val (.int x2), .val (.int x3), .val (.int pp), .val (.int q), .val (.int r), .val (.long ((((q).toInt64) * ((pp).toInt64)) + ((r).toInt64))), .second, .unset, .unset] [(.int r)])) (fun tT_ kK_ => XS.iload X0.here hx rfl (hb hby at_57) rfl kK_) ?_
  by_cases hc59_55 : r = (0 : Int32)
  · skip
    refine own_st (A := T0.setTop (mkF mM 69 #[.val (.int x0), .val (.int x1), .val (.int x2), .val (.int x3), .val (.int pp), .val (.int q), .val (.int r), .val (.long ((((q).toInt64) * ((pp).toInt64)) + ((r).toInt64))), .second, .unset, .unset] [])) (fun tT_ kK_ => XS.ifYes X0.here hx rfl (pc0 := 59) (pc' := 69) rfl (hb hby at_59) rfl ((if0 _ _).trans (teq hc59_55).1) (by decide) (by decide) kK_) ?_
    refine own_st (A := T0.setTop (mkF mM 71 #[.val (.int x0), .val (.int x1), .val (.int x2), .val (.int x3), .val (.int pp), .val (.int q), .val (.int r), .val (.long ((((q).toInt64) * ((pp).toInt64)) + ((r).toInt64))), .second, .unset, .unset] [(.int q)])) (fun tT_ kK_ => XS.iload X0.here hx rfl (hb hby at_69) rfl kK_) ?_
    refine own_st (A := T0.setTop (mkF mM 73 #[.val (.int x0), .val (.int x1), .val (.int x2), .val (.int x3), .val (.int pp), .val (.int q), .val (.int r), .val (.long ((((q).toInt64) * ((pp).toInt64)) + ((r).toInt64))), .second, .val (.int q), .unset] [])) (fun tT_ kK_ => XS.istore X0.here hx rfl (hb hby at_71) rfl (l' := #[.val (.int x0), .val (.int x1), .val (.int x2), .val (.int x3), .val (.int pp), .val (.int q), .val (.int r), .val (.long ((((q).toInt64) * ((pp).toInt64)) + ((r).toInt64))), .second, .val (.int q), .unset]) rfl kK_) ?_
    have pg := own_page pp q r hp hq hr hr2
    exact J73 hw X0 hx hZ hby hml hown hlk hret e0 N0 x0 x1 x2 x3 pp q r _ _ dc kd mo ee ma ml mr O Zn V_dc E_dc M_oa S_ee M_a M_l M_r S_dc pg.1 (fun _ => by rw [pg.2.1, own_back]) (fun z => absurd (pg.2.2.mpr hc59_55) z) (fun _ => by rw [pg.2.1, own_back]) (fun z => absurd (pg.2.2.mpr hc59_55) z)
  · skip
    refine own_st (A := T0.setTop (mkF mM 62 #[.val (.int x0), .val (.int x1), .val (.int x2), .val (.int x3), .val (.int pp), .val (.int q), .val (.int r), .val (.long ((((q).toInt64) * ((pp).toInt64)) + ((r).toInt64))), .second, .unset, .unset] [])) (fun tT_ kK_ => XS.ifNo X0.here hx rfl (hb hby at_59) rfl ((if0 _ _).trans (feq hc59_55).1) kK_) ?_
    refine own_st (A := T0.setTop (mkF mM 64 #[.val (.int x0), .val (.int x1), .val (.int x2), .val (.int x3), .val (.int pp), .val (.int q), .val (.int r), .val (.long ((((q).toInt64) * ((pp).toInt64)) + ((r).toInt64))), .second, .unset, .unset] [(.int q)])) (fun tT_ kK_ => XS.iload X0.here hx rfl (hb hby at_62) rfl kK_) ?_
    refine own_st (A := T0.setTop (mkF mM 65 #[.val (.int x0), .val (.int x1), .val (.int x2), .val (.int x3), .val (.int pp), .val (.int q), .val (.int r), .val (.long ((((q).toInt64) * ((pp).toInt64)) + ((r).toInt64))), .second, .unset, .unset] [(.int (1 : Int32)), (.int q)])) (fun tT_ kK_ => XS.iconst X0.here hx rfl (hb hby at_64) kK_) ?_
    refine own_st (A := T0.setTop (mkF mM 66 #[.val (.int x0), .val (.int x1), .val (.int x2), .val (.int x3), .val (.int pp), .val (.int q), .val (.int r), .val (.long ((((q).toInt64) * ((pp).toInt64)) + ((r).toInt64))), .second, .unset, .unset] [(.int (q + (1 : Int32)))])) (fun tT_ kK_ => XS.iadd X0.here hx rfl (hb hby at_65) rfl kK_) ?_
    refine own_st (A := T0.setTop (mkF mM 71 #[.val (.int x0), .val (.int x1), .val (.int x2), .val (.int x3), .val (.int pp), .val (.int q), .val (.int r), .val (.long ((((q).toInt64) * ((pp).toInt64)) + ((r).toInt64))), .second, .unset, .unset] [(.int (q + (1 : Int32)))])) (fun tT_ kK_ => XS.goto X0.here hx rfl (pc0 := 66) (pc' := 71) rfl (hb hby at_66) (by decide) (by decide) kK_) ?_
    refine own_st (A := T0.setTop (mkF mM 73 #[.val (.int x0), .val (.int x1), .val (.int x2), .val (.int x3), .val (.int pp), .val (.int q), .val (.int r), .val (.long ((((q).toInt64) * ((pp).toInt64)) + ((r).toInt64))), .second, .val (.int (q + (1 : Int32))), .unset] [])) (fun tT_ kK_ => XS.istore X0.here hx rfl (hb hby at_71) rfl (l' := #[.val (.int x0), .val (.int x1), .val (.int x2), .val (.int x3), .val (.int pp), .val (.int q), .val (.int r), .val (.long ((((q).toInt64) * ((pp).toInt64)) + ((r).toInt64))), .second, .val (.int (q + (1 : Int32))), .unset]) rfl kK_) ?_
    have pg := own_page pp q r hp hq hr hr2
    exact J73 hw X0 hx hZ hby hml hown hlk hret e0 N0 x0 x1 x2 x3 pp q r _ _ dc kd mo ee ma ml mr O Zn V_dc E_dc M_oa S_ee M_a M_l M_r S_dc pg.1 (fun z => absurd (pg.2.2.mp z) hc59_55) (fun _ => by rw [pg.2.1]; exact (own_next q (hm hc59_55)).2) (fun z => absurd (pg.2.2.mp z) hc59_55) (fun _ => by rw [pg.2.1]; exact (own_next q (hm hc59_55)).1.symm)
theorem own_pos (x : Int32) : 0 ≤ (x &&& (2147483647 : Int32)).toInt := (c_and x (2147483647 : Int32) (by decide)).1
theorem own_nz {pp : Int32} (h : 1 ≤ pp.toInt) : ¬ pp = (0 : Int32) := fun q => by rw [q] at h; exact absurd h (by decide)
theorem own_rem (x pp : Int32) (h : 1 ≤ pp.toInt) : 0 ≤ ((x &&& (2147483647 : Int32)) % pp).toInt ∧ ((x &&& (2147483647 : Int32)) % pp).toInt < pp.toInt := by
  have a := (c_iremV (x &&& (2147483647 : Int32)) pp).1 (own_pos x) (by omega)
  exact ⟨a.1, a.2.1⟩
theorem own_max {q : Int32} (h : ¬ q = (2147483647 : Int32)) : q.toInt < 2147483647 := by
  have r := rng32 q
  have e : (2147483647 : Int32).toInt = 2147483647 := by decide
  rw [← Int32.toInt_inj, e] at h
  omega
theorem own_ge1 {x : Int32} (h0 : 0 ≤ x.toInt) (h : ¬ x = (0 : Int32)) : 1 ≤ x.toInt := by
  have e : (0 : Int32).toInt = 0 := by decide
  rw [← Int32.toInt_inj, e] at h
  omega
set_option maxRecDepth 65536 in
set_option maxHeartbeats 40000000 in
theorem J14 {pP : Program} {lL : Launch} {eE : Env} {sS : State} {mM : MethodId} {args : Array Value} {below : List Frame} {meth : Method} {cC : Code} {T0 : State} {locs : List Loc} {Z : State} {a0 : Array Value} {h0 : Heap} {n0 : Nat} (hw : ∀ d ∈ tables_1, d.before a0 Z = true) (X0 : Stand pP lL eE room_1 sS mM args below meth cC T0 locs 0 0) (hx : pP.tables.exec = Jvm.exec) (hZ : Z.Warmed39 sS.vm) (hby : cC.code = code) (hml : cC.maxLocals = 11) (hown : sS.vm.findClass "com/example/vyasa/vyasa/PagePageCountPinLaw" = some mM.cls) (hlk : meth.locks = false) (hret : meth.sig.returnType = ret) (e0 : T0.heap = h0) (N0 : Fr n0 locs) (x0 : Int32) (x1 : Int32) (x2 : Int32) (x3 : Int32) (pp : Int32) (dc : Addr) (kd : ClassId) (mo : Addr) (ee : Addr) (ma : Addr) (ml : Addr) (mr : Addr) (O : Old Z n0 h0) (Zn : n0 ≤ h0.size) (V_dc : Arv Z Z.heap dc kd (.object "java/lang/Object") 0 [] .null) (E_dc : Exa Z Z.heap dc "[Ljava/lang/Object;") (M_oa : own_Mr Z "[Ljava/lang/Object;" mo) (S_ee : Sta Z Z.heap "java/util/ArrayList" "EMPTY_ELEMENTDATA" "[Ljava/lang/Object;" (.ref ee)) (M_a : own_Mr Z "java/util/ArrayList" ma) (M_l : own_Mr Z "java/util/Collections$UnmodifiableList" ml) (M_r : own_Mr Z "java/util/Collections$UnmodifiableRandomAccessList" mr) (S_dc : Sta Z Z.heap "java/util/ArrayList" "DEFAULTCAPACITY_EMPTY_ELEMENTDATA" "[Ljava/lang/Object;" (.ref dc)) (hp : 1 ≤ pp.toInt) :
    own_Go pP eE below sS (QLaw n0) 24 128 (T0.setTop (mkF mM 14 #[.val (.int x0), .val (.int x1), .val (.int x2), .val (.int x3), .val (.int pp), .unset, .unset, .unset, .unset, .unset, .unset] [])) := by
  refine own_st (A := T0.setTop (mkF mM 15 #[.val (.int x0), .val (.int x1), .val (.int x2), .val (.int x3), .val (.int pp), .unset, .unset, .unset, .unset, .unset, .unset] [(.int x0)])) (fun tT_ kK_ => XS.iloadN X0.here hx rfl (hb hby at_14) rfl kK_) ?_
  refine own_st (A := T0.setTop (mkF mM 17 #[.val (.int x0), .val (.int x1), .val (.int x2), .val (.int x3), .val (.int pp), .unset, .unset, .unset, .unset, .unset, .unset] [(.int (2147483647 : Int32)), (.int x0)])) (fun tT_ kK_ => X0.ldcInt hx hown (mvT hZ (hw _ (List.mem_of_getElem? (i := 0) rfl))) (g := (mkF mM 15 #[.val (.int x0), .val (.int x1), .val (.int x2), .val (.int x3), .val (.int pp), .unset, .unset, .unset, .unset, .unset, .unset] [(.int x0)])) rfl (hb hby at_15) tT_ kK_) ?_
  refine own_st (A := T0.setTop (mkF mM 18 #[.val (.int x0), .val (.int x1), .val (.int x2), .val (.int x3), .val (.int pp), .unset, .unset, .unset, .unset, .unset, .unset] [(.int (x0 &&& (2147483647 : Int32)))])) (fun tT_ kK_ => XS.iand X0.here hx rfl (hb hby at_17) rfl kK_) ?_
  refine own_st (A := T0.setTop (mkF mM 20 #[.val (.int x0), .val (.int x1), .val (.int x2), .val (.int x3), .val (.int pp), .val (.int (x0 &&& (2147483647 : Int32))), .unset, .unset, .unset, .unset, .unset] [])) (fun tT_ kK_ => XS.istore X0.here hx rfl (hb hby at_18) rfl (l' := #[.val (.int x0), .val (.int x1), .val (.int x2), .val (.int x3), .val (.int pp), .val (.int (x0 &&& (2147483647 : Int32))), .unset, .unset, .unset, .unset, .unset]) rfl kK_) ?_
  refine own_st (A := T0.setTop (mkF mM 21 #[.val (.int x0), .val (.int x1), .val (.int x2), .val (.int x3), .val (.int pp), .val (.int (x0 &&& (2147483647 : Int32))), .unset, .unset, .unset, .unset, .unset] [(.int x2)])) (fun tT_ kK_ => XS.iloadN X0.here hx rfl (hb hby at_20) rfl kK_) ?_
  refine own_st (A := T0.setTop (mkF mM 23 #[.val (.int x0), .val (.int x1), .val (.int x2), .val (.int x3), .val (.int pp), .val (.int (x0 &&& (2147483647 : Int32))), .unset, .unset, .unset, .unset, .unset] [(.int (2147483647 : Int32)), (.int x2)])) (fun tT_ kK_ => X0.ldcInt hx hown (mvT hZ (hw _ (List.mem_of_getElem? (i := 0) rfl))) (g := (mkF mM 21 #[.val (.int x0), .val (.int x1), .val (.int x2), .val (.int x3), .val (.int pp), .val (.int (x0 &&& (2147483647 : Int32))), .unset, .unset, .unset, .unset, .unset] [(.int x2)])) rfl (hb hby at_21) tT_ kK_) ?_
  refine own_st (A := T0.setTop (mkF mM 24 #[.val (.int x0), .val (.int x1), .val (.int x2), .val (.int x3), .val (.int pp), .val (.int (x0 &&& (2147483647 : Int32))), .unset, .unset, .unset, .unset, .unset] [(.int (x2 &&& (2147483647 : Int32)))])) (fun tT_ kK_ => XS.iand X0.here hx rfl (hb hby at_23) rfl kK_) ?_
  refine own_st (A := T0.setTop (mkF mM 26 #[.val (.int x0), .val (.int x1), .val (.int x2), .val (.int x3), .val (.int pp), .val (.int (x0 &&& (2147483647 : Int32))), .unset, .unset, .unset, .unset, .unset] [(.int pp), (.int (x2 &&& (2147483647 : Int32)))])) (fun tT_ kK_ => XS.iload X0.here hx rfl (hb hby at_24) rfl kK_) ?_
  refine own_st (A := T0.setTop (mkF mM 27 #[.val (.int x0), .val (.int x1), .val (.int x2), .val (.int x3), .val (.int pp), .val (.int (x0 &&& (2147483647 : Int32))), .unset, .unset, .unset, .unset, .unset] [(.int ((x2 &&& (2147483647 : Int32)) % pp))])) (fun tT_ kK_ => iremM X0 hx rfl (hb hby at_26) rfl (own_nz hp) kK_) ?_
  refine own_st (A := T0.setTop (mkF mM 29 #[.val (.int x0), .val (.int x1), .val (.int x2), .val (.int x3), .val (.int pp), .val (.int (x0 &&& (2147483647 : Int32))), .val (.int ((x2 &&& (2147483647 : Int32)) % pp)), .unset, .unset, .unset, .unset] [])) (fun tT_ kK_ => XS.istore X0.here hx rfl (hb hby at_27) rfl (l' := #[.val (.int x0), .val (.int x1), .val (.int x2), .val (.int x3), .val (.int pp), .val (.int (x0 &&& (2147483647 : Int32))), .val (.int ((x2 &&& (2147483647 : Int32)) % pp)), .unset, .unset, .unset, .unset]) rfl kK_) ?_
  refine own_st (A := T0.setTop (mkF mM 31 #[.val (.int x0), .val (.int x1), .val (.int x2), .val (.int x3), .val (.int pp), .val (.int (x0 &&& (2147483647 : Int32))), .val (.int ((x2 &&& (2147483647 : Int32)) % pp)), .unset, .unset, .unset, .unset] [(.int (x0 &&& (2147483647 : Int32)))])) (fun tT_ kK_ => XS.iload X0.here hx rfl (hb hby at_29) rfl kK_) ?_
  refine own_st (A := T0.setTop (mkF mM 33 #[.val (.int x0), .val (.int x1), .val (.int x2), .val (.int x3), .val (.int pp), .val (.int (x0 &&& (2147483647 : Int32))), .val (.int ((x2 &&& (2147483647 : Int32)) % pp)), .unset, .unset, .unset, .unset] [(.int (2147483647 : Int32)), (.int (x0 &&& (2147483647 : Int32)))])) (fun tT_ kK_ => X0.ldcInt hx hown (mvT hZ (hw _ (List.mem_of_getElem? (i := 0) rfl))) (g := (mkF mM 31 #[.val (.int x0), .val (.int x1), .val (.int x2), .val (.int x3), .val (.int pp), .val (.int (x0 &&& (2147483647 : Int32))), .val (.int ((x2 &&& (2147483647 : Int32)) % pp)), .unset, .unset, .unset, .unset] [(.int (x0 &&& (2147483647 : Int32)))])) rfl (hb hby at_31) tT_ kK_) ?_
  by_cases hc33_56 : (x0 &&& (2147483647 : Int32)) = (2147483647 : Int32)
  · skip
    refine own_st (A := T0.setTop (mkF mM 36 #[.val (.int x0), .val (.int x1), .val (.int x2), .val (.int x3), .val (.int pp), .val (.int (x0 &&& (2147483647 : Int32))), .val (.int ((x2 &&& (2147483647 : Int32)) % pp)), .unset, .unset, .unset, .unset] [])) (fun tT_ kK_ => XS.icmpNo X0.here hx rfl (hb hby at_33) rfl (teq hc33_56).2 kK_) ?_
    refine own_st (A := T0.setTop (mkF mM 38 #[.val (.int x0), .val (.int x1), .val (.int x2), .val (.int x3), .val (.int pp), .val (.int (x0 &&& (2147483647 : Int32))), .val (.int ((x2 &&& (2147483647 : Int32)) % pp)), .unset, .unset, .unset, .unset] [(.int ((x2 &&& (2147483647 : Int32)) % pp))])) (fun tT_ kK_ => XS.iload X0.here hx rfl (hb hby at_36) rfl kK_) ?_
    by_cases hc38_57 : ((x2 &&& (2147483647 : Int32)) % pp) = (0 : Int32)
    · skip
      refine own_st (A := T0.setTop (mkF mM 44 #[.val (.int x0), .val (.int x1), .val (.int x2), .val (.int x3), .val (.int pp), .val (.int (x0 &&& (2147483647 : Int32))), .val (.int ((x2 &&& (2147483647 : Int32)) % pp)), .unset, .unset, .unset, .unset] [])) (fun tT_ kK_ => XS.ifYes X0.here hx rfl (pc0 := 38) (pc' := 44) rfl (hb hby at_38) rfl ((if0 _ _).trans (teq hc38_57).1) (by decide) (by decide) kK_) ?_
      exact J44 hw X0 hx hZ hby hml hown hlk hret e0 N0 x0 x1 x2 x3 pp _ _ dc kd mo ee ma ml mr O Zn V_dc E_dc M_oa S_ee M_a M_l M_r S_dc hp (own_pos x0) (own_rem x2 pp hp).1 (own_rem x2 pp hp).2 (fun z => absurd hc38_57 z)
    · skip
      refine own_st (A := T0.setTop (mkF mM 41 #[.val (.int x0), .val (.int x1), .val (.int x2), .val (.int x3), .val (.int pp), .val (.int (x0 &&& (2147483647 : Int32))), .val (.int ((x2 &&& (2147483647 : Int32)) % pp)), .unset, .unset, .unset, .unset] [])) (fun tT_ kK_ => XS.ifNo X0.here hx rfl (hb hby at_38) rfl ((if0 _ _).trans (feq hc38_57).1) kK_) ?_
      refine own_st (A := T0.setTop (mkF mM 42 #[.val (.int x0), .val (.int x1), .val (.int x2), .val (.int x3), .val (.int pp), .val (.int (x0 &&& (2147483647 : Int32))), .val (.int ((x2 &&& (2147483647 : Int32)) % pp)), .unset, .unset, .unset, .unset] [(.int (0 : Int32))])) (fun tT_ kK_ => XS.iconst X0.here hx rfl (hb hby at_41) kK_) ?_
      refine own_st (A := T0.setTop (mkF mM 44 #[.val (.int x0), .val (.int x1), .val (.int x2), .val (.int x3), .val (.int pp), .val (.int (x0 &&& (2147483647 : Int32))), .val (.int (0 : Int32)), .unset, .unset, .unset, .unset] [])) (fun tT_ kK_ => XS.istore X0.here hx rfl (hb hby at_42) rfl (l' := #[.val (.int x0), .val (.int x1), .val (.int x2), .val (.int x3), .val (.int pp), .val (.int (x0 &&& (2147483647 : Int32))), .val (.int (0 : Int32)), .unset, .unset, .unset, .unset]) rfl kK_) ?_
      exact J44 hw X0 hx hZ hby hml hown hlk hret e0 N0 x0 x1 x2 x3 pp _ _ dc kd mo ee ma ml mr O Zn V_dc E_dc M_oa S_ee M_a M_l M_r S_dc hp (own_pos x0) (by decide) (by show (0 : Int32).toInt < _; exact hp) (fun z => absurd rfl z)
  · skip
    refine own_st (A := T0.setTop (mkF mM 44 #[.val (.int x0), .val (.int x1), .val (.int x2), .val (.int x3), .val (.int pp), .val (.int (x0 &&& (2147483647 : Int32))), .val (.int ((x2 &&& (2147483647 : Int32)) % pp)), .unset, .unset, .unset, .unset] [])) (fun tT_ kK_ => XS.icmpYes X0.here hx rfl (pc0 := 33) (pc' := 44) rfl (hb hby at_33) rfl (feq hc33_56).2 (by decide) (by decide) kK_) ?_
    exact J44 hw X0 hx hZ hby hml hown hlk hret e0 N0 x0 x1 x2 x3 pp _ _ dc kd mo ee ma ml mr O Zn V_dc E_dc M_oa S_ee M_a M_l M_r S_dc hp (own_pos x0) (own_rem x2 pp hp).1 (own_rem x2 pp hp).2 (fun _ => own_max hc33_56)
theorem pn_com_2fexample_2fvyasa_2fvyasa_2fPagePageCountPinLaw : plainName "com/example/vyasa/vyasa/PagePageCountPinLaw" = true := by first | (simp [plainName, overriddenIn]; done) | decide +kernel
theorem ef_rm0 (mM : MethodId) (x0 : Int32) (x1 : Int32) (x2 : Int32) (x3 : Int32) (dc : Addr) (kd : ClassId) (mo : Addr) (ee : Addr) (ma : Addr) (ml : Addr) (mr : Addr) : entryFrame mM #[(.int x0), (.int x1), (.int x2), (.int x3)] maxLocals = mkF mM 0 #[.val (.int x0), .val (.int x1), .val (.int x2), .val (.int x3), .unset, .unset, .unset, .unset, .unset, .unset, .unset] [] := by first | (simp [entryFrame, mkF, argsToLocals, Value.category, maxLocals]; done) | rfl
set_option maxRecDepth 65536 in
set_option maxHeartbeats 40000000 in
theorem rm0 (lL : Launch) (Z : State) (a0 : Array Value) (hw : ∀ d ∈ tables_1, d.before a0 Z = true) (ws : List Jvm.Cond) (x0 : Int32) (x1 : Int32) (x2 : Int32) (x3 : Int32) (dc : Addr) (kd : ClassId) (mo : Addr) (ee : Addr) (ma : Addr) (ml : Addr) (mr : Addr) (h0 : Heap) (n0 : Nat) (O : Old Z n0 h0) (Zn : n0 ≤ h0.size) (V_dc : Arv Z Z.heap dc kd (.object "java/lang/Object") 0 [] .null) (E_dc : Exa Z Z.heap dc "[Ljava/lang/Object;") (M_oa : own_Mr Z "[Ljava/lang/Object;" mo) (S_ee : Sta Z Z.heap "java/util/ArrayList" "EMPTY_ELEMENTDATA" "[Ljava/lang/Object;" (.ref ee)) (M_a : own_Mr Z "java/util/ArrayList" ma) (M_l : own_Mr Z "java/util/Collections$UnmodifiableList" ml) (M_r : own_Mr Z "java/util/Collections$UnmodifiableRandomAccessList" mr) (S_dc : Sta Z Z.heap "java/util/ArrayList" "DEFAULTCAPACITY_EMPTY_ELEMENTDATA" "[Ljava/lang/Object;" (.ref dc)) :
    MetFree lL x (head1 (Jvm.Cond.code x code maxLocals ret :: ws) room_1) (fun as_ uU_ => as_ = #[(.int x0), (.int x1), (.int x2), (.int x3)] ∧ Z.Warmed39 uU_.vm ∧ uU_.heap = h0) (fun _ _ _ _ _ => True) (fun _ uU_ oO_ uE_ => ∃ vV_ lL_, oO_ = .returned vV_ ∧ (fun _ => QLaw) h0 n0 vV_ uE_.heap lL_ ∧ FrameEnd uU_ oO_ uE_ lL_ 24 128) := by
  refine MetFree.of_bodySF (plainFor_of_name pn_com_2fexample_2fvyasa_2fvyasa_2fPagePageCountPinLaw) hisR ?_
  intro pP eE sS mM args below meth cC s₁ Bd hml0 hP hK
  obtain ⟨rfl, hZ, hh⟩ := hP
  have hx := Bd.exec
  have hby := Bd.bytes
  have hml : cC.maxLocals = 11 := hml0
  have hown : sS.vm.findClass "com/example/vyasa/vyasa/PagePageCountPinLaw" = some mM.cls := findClass_of_methodNamed Bd.named
  have hnm := (name_of_methodNamed Bd.named Bd.method).1
  have hret := Bd.returns
  have hlk := BodyLoose.notSynchronized Bd
  have X0 : Stand pP lL eE room_1 sS mM #[(.int x0), (.int x1), (.int x2), (.int x3)] below meth cC s₁ [] 0 0 := Stand.of_body Bd
  have e0 : s₁.heap = h0 := by rw [← hh, Bd.state]; rfl
  have N0 := Fr.nil n0
  show own_Go pP eE below sS ((fun _ => QLaw) h0 n0) 24 128 (s₁.setTop (entryFrame mM #[(.int x0), (.int x1), (.int x2), (.int x3)] maxLocals))
  refine own_st (A := s₁.setTop (mkF mM 0 #[.val (.int x0), .val (.int x1), .val (.int x2), .val (.int x3), .unset, .unset, .unset, .unset, .unset, .unset, .unset] [])) (fun tT_ kK_ => castTop (ef_rm0 mM x0 x1 x2 x3 dc kd mo ee ma ml mr) kK_) ?_
  refine own_st (A := s₁.setTop (mkF mM 1 #[.val (.int x0), .val (.int x1), .val (.int x2), .val (.int x3), .unset, .unset, .unset, .unset, .unset, .unset, .unset] [(.int x1)])) (fun tT_ kK_ => XS.iloadN X0.here hx rfl (hb hby at_0) rfl kK_) ?_
  refine own_st (A := s₁.setTop (mkF mM 3 #[.val (.int x0), .val (.int x1), .val (.int x2), .val (.int x3), .unset, .unset, .unset, .unset, .unset, .unset, .unset] [(.int (2147483647 : Int32)), (.int x1)])) (fun tT_ kK_ => X0.ldcInt hx hown (mvT hZ (hw _ (List.mem_of_getElem? (i := 0) rfl))) (g := (mkF mM 1 #[.val (.int x0), .val (.int x1), .val (.int x2), .val (.int x3), .unset, .unset, .unset, .unset, .unset, .unset, .unset] [(.int x1)])) rfl (hb hby at_1) tT_ kK_) ?_
  refine own_st (A := s₁.setTop (mkF mM 4 #[.val (.int x0), .val (.int x1), .val (.int x2), .val (.int x3), .unset, .unset, .unset, .unset, .unset, .unset, .unset] [(.int (x1 &&& (2147483647 : Int32)))])) (fun tT_ kK_ => XS.iand X0.here hx rfl (hb hby at_3) rfl kK_) ?_
  refine own_st (A := s₁.setTop (mkF mM 6 #[.val (.int x0), .val (.int x1), .val (.int x2), .val (.int x3), .val (.int (x1 &&& (2147483647 : Int32))), .unset, .unset, .unset, .unset, .unset, .unset] [])) (fun tT_ kK_ => XS.istore X0.here hx rfl (hb hby at_4) rfl (l' := #[.val (.int x0), .val (.int x1), .val (.int x2), .val (.int x3), .val (.int (x1 &&& (2147483647 : Int32))), .unset, .unset, .unset, .unset, .unset, .unset]) rfl kK_) ?_
  refine own_st (A := s₁.setTop (mkF mM 8 #[.val (.int x0), .val (.int x1), .val (.int x2), .val (.int x3), .val (.int (x1 &&& (2147483647 : Int32))), .unset, .unset, .unset, .unset, .unset, .unset] [(.int (x1 &&& (2147483647 : Int32)))])) (fun tT_ kK_ => XS.iload X0.here hx rfl (hb hby at_6) rfl kK_) ?_
  by_cases hc8_58 : (x1 &&& (2147483647 : Int32)) = (0 : Int32)
  · skip
    refine own_st (A := s₁.setTop (mkF mM 11 #[.val (.int x0), .val (.int x1), .val (.int x2), .val (.int x3), .val (.int (x1 &&& (2147483647 : Int32))), .unset, .unset, .unset, .unset, .unset, .unset] [])) (fun tT_ kK_ => XS.ifNo X0.here hx rfl (hb hby at_8) rfl ((if0 _ _).trans (teq hc8_58).2) kK_) ?_
    refine own_st (A := s₁.setTop (mkF mM 12 #[.val (.int x0), .val (.int x1), .val (.int x2), .val (.int x3), .val (.int (x1 &&& (2147483647 : Int32))), .unset, .unset, .unset, .unset, .unset, .unset] [(.int (1 : Int32))])) (fun tT_ kK_ => XS.iconst X0.here hx rfl (hb hby at_11) kK_) ?_
    refine own_st (A := s₁.setTop (mkF mM 14 #[.val (.int x0), .val (.int x1), .val (.int x2), .val (.int x3), .val (.int (1 : Int32)), .unset, .unset, .unset, .unset, .unset, .unset] [])) (fun tT_ kK_ => XS.istore X0.here hx rfl (hb hby at_12) rfl (l' := #[.val (.int x0), .val (.int x1), .val (.int x2), .val (.int x3), .val (.int (1 : Int32)), .unset, .unset, .unset, .unset, .unset, .unset]) rfl kK_) ?_
    exact J14 hw X0 hx hZ hby hml hown hlk hret e0 N0 x0 x1 x2 x3 _ dc kd mo ee ma ml mr O Zn V_dc E_dc M_oa S_ee M_a M_l M_r S_dc (by decide)
  · skip
    refine own_st (A := s₁.setTop (mkF mM 14 #[.val (.int x0), .val (.int x1), .val (.int x2), .val (.int x3), .val (.int (x1 &&& (2147483647 : Int32))), .unset, .unset, .unset, .unset, .unset, .unset] [])) (fun tT_ kK_ => XS.ifYes X0.here hx rfl (pc0 := 8) (pc' := 14) rfl (hb hby at_8) rfl ((if0 _ _).trans (feq hc8_58).2) (by decide) (by decide) kK_) ?_
    exact J14 hw X0 hx hZ hby hml hown hlk hret e0 N0 x0 x1 x2 x3 _ dc kd mo ee ma ml mr O Zn V_dc E_dc M_oa S_ee M_a M_l M_r S_dc (own_ge1 (own_pos x1) hc8_58)
set_option maxRecDepth 65536 in
set_option maxHeartbeats 40000000 in
theorem comes_1 {Post : Tables → Env → Array Value → State → Outcome → State → Prop} (hpost : ∀ tb e args s v u, (limb_1_1.after args s (.returned v) u = true ∧ limb_1_2.after args s (.returned v) u = true ∧ True) → FrameEnd s (.returned v) u (Jvm.fieldLocs frame_1_writes args s ++ Jvm.arrayLocs frame_1_arrays args s ++ Jvm.staticLocs frame_1_statics s) 24 128 → Post tb e args s (.returned v) u) :
    ArmFor flags0 classFile x code maxLocals ret World_1 tables_1 room_1 Calls_1 rest_1 Pre_1 Post := by
  intro l hfl _ _ p e ha hc hk s m args below hf hA hF happ hP
  obtain ⟨hcalls, hrest, hpre⟩ := hP
  obtain ⟨-, -, -, hnamed, -, -, -, hat⟩ := (Spec.applies_iff hf).mp happ
  obtain ⟨hg, hn⟩ := and_e (Cond.before_iff.mp (show (Jvm.Cond.and given_1 narrow_1).before args s = true from hpre))
  obtain ⟨h1, hg1⟩ := and_e hg
  obtain ⟨w0, w1, w2, w3, rfl⟩ : ∃ w0 w1 w2 w3 : Value, args = #[w0, w1, w2, w3] := by
    have hs : args.size = 4 := by simpa [Cond.value, given_1] using h1
    obtain ⟨L⟩ := args
    match L, hs with
    | [w0, w1, w2, w3], _ => exact ⟨w0, w1, w2, w3, rfl⟩
  have hw := fun d (hd : d ∈ tables_1) => atoms_spec (ws := Jvm.Cond.code x code maxLocals ret :: tables_1) hat d (List.mem_cons_of_mem _ hd)
  have hfit : Fit s := fun {y c} hc i hi => by
    obtain ⟨ha, rfl⟩ := Array.getElem?_eq_some_iff.mp hc
    have q := List.all_eq_true.mp ((Array.all_eq_true_iff_forall_mem.mp hF) _ (Array.getElem_mem ha)) i (List.mem_range.mpr hi)
    simpa [Array.getElem?_eq_getElem hi] using q
  obtain ⟨g0, hg2⟩ := and_e hg1
  obtain ⟨i0, e0⟩ := is_v g0
  obtain rfl : w0 = (.int i0) := Option.some.inj e0
  obtain ⟨g1, hg3⟩ := and_e hg2
  obtain ⟨i1, e1⟩ := is_v g1
  obtain rfl : w1 = (.int i1) := Option.some.inj e1
  obtain ⟨g2, hg4⟩ := and_e hg3
  obtain ⟨i2, e2⟩ := is_v g2
  obtain rfl : w2 = (.int i2) := Option.some.inj e2
  have g3 := hg4
  obtain ⟨i3, e3⟩ := is_v g3
  obtain rfl : w3 = (.int i3) := Option.some.inj e3
  have hn : narrow_1.value _ s none s [] = some true := hn
  obtain ⟨hsets, -⟩ := atoms_of jdkStatics_1 (show (jdkStatics_1.foldr Jvm.Cond.and restOwn_1).before _ s = true from (by have q := hrest; rw [← rest_1_c_eq]; exact q))
  have j3 := Cond.before_iff.mp (hsets _ (List.mem_of_getElem? (i := 3) rfl))
  obtain ⟨ee, ev_ee⟩ := arr_v j3
  obtain ⟨cl_ee, ar_ee⟩ := Arr.start ev_ee j3
  have ln_ee := own_len ev_ee ar_ee (Cond.before_iff.mp (hsets _ (List.mem_of_getElem? (i := 5) rfl)))
  have ex_ee := Exa.start ev_ee (Cond.before_iff.mp (hsets _ (List.mem_of_getElem? (i := 4) rfl)))
  have S_ee := Sta.start ev_ee (Or.inl (hsets _ (List.mem_of_getElem? (i := 1) rfl)))
  have j6 := Cond.before_iff.mp (hsets _ (List.mem_of_getElem? (i := 6) rfl))
  obtain ⟨dc, ev_dc⟩ := arr_v j6
  obtain ⟨cl_dc, ar_dc⟩ := Arr.start ev_dc j6
  have ln_dc := own_len ev_dc ar_dc (Cond.before_iff.mp (hsets _ (List.mem_of_getElem? (i := 8) rfl)))
  have ex_dc := Exa.start ev_dc (Cond.before_iff.mp (hsets _ (List.mem_of_getElem? (i := 7) rfl)))
  have S_dc := Sta.start ev_dc (Or.inr ⟨(hw _ (List.mem_of_getElem? (i := 6) rfl)), (hsets _ (List.mem_of_getElem? (i := 2) rfl))⟩)
  have V_dc : Arv s s.heap dc cl_dc.cls (.object "java/lang/Object") 0 [] .null := Arv.start hfit ar_dc ln_dc.1 ln_dc.2 (by decide) rfl trivial
  obtain ⟨⟨mc1, mk1, mo, q11, q12, q13⟩, ⟨mc2, mk2, ma, q21, q22, q23⟩, ⟨mc3, mk3, ml, q31, q32, q33⟩, ⟨mc4, mk4, mr, q41, q42, q43⟩, -⟩ := hcalls
  obtain ⟨n, o, h1, h2, h3, _, L, rfl, ⟨rfl, N⟩, hq⟩ := rm0 l s _ hw tables_1 i0 i1 i2 i3 dc cl_dc.cls mo ee ma ml mr s.heap s.heap.size (Old.start s) (Nat.le_refl _) V_dc ex_dc ⟨mc1, mk1, q11, q12, q13.1⟩ S_ee ⟨mc2, mk2, q21, q22, q23.1⟩ ⟨mc3, mk3, q31, q32, q33.1⟩ ⟨mc4, mk4, q41, q42, q43.1⟩ S_dc p e ha hc hk s m _ below hf ((Spec.applies_iff_loose hf).mp happ).1 ⟨rfl, State.Warmed39.refl s, rfl⟩ trivial
  refine ⟨n, _, h1, h2, h3, hpost _ _ _ _ _ _ ⟨Cond.after_iff.mpr rfl, Cond.after_iff.mpr (eq_i res_at (Term.int_eval (1)) rfl), trivial⟩ ⟨hq.1, hq.2.1, (hq.2.2.sift fun y hy => Or.inr (N y hy)).mono (by decide) (by decide)⟩⟩
theorem main_1_1 : Claimed_1_1 := comes_1 fun _ _ _ _ _ _ h hF => ⟨h.1, hF⟩
theorem main_1_2 : Claimed_1_2 := comes_1 fun _ _ _ _ _ _ h hF => ⟨h.2.1, hF⟩
end Jvm.Pilot.@@N@@
namespace Jvm.Pilot.@@N@@
open Jvm Jvm.ClassFile Sem Op Lib Jvm.Free Jvm.Stand Jvm.Pilot.@@N@@.Jvm.D
/-! MADE BY PROGRAM (witnessworld.py) out of the Statement's table words and the real class files: 26 classes; the members and pool entries that the words name. The judged class is class 1, her method 1. -/
namespace start1
open Jvm.ClassFile
def u (s : String) : CpInfo := .utf8 (stringToUtf16 s)
/-- a pool by its gaps: so many unusable entries, then the entry; so many at the end -/
def gap : Nat → List CpInfo → List CpInfo
  | 0, r => r
  | n + 1, r => .unusable :: gap n r
def poolList (es : List (Nat × CpInfo)) (last : Nat) : List CpInfo := es.foldr (fun e r => gap e.1 (e.2 :: r)) (gap last [])
def pool (es : List (Nat × CpInfo)) (last : Nat) : Array CpInfo := ⟨poolList es last⟩
def fileOf (pool : Array CpInfo) (this : Nat) (attrs : Array Attribute := #[]) (ms : Array MethodInfo := #[]) (fl : Nat := 33) (sup : Nat := 0) (ifs : Array Nat := #[]) (fds : Array FieldInfo := #[]) : ClassFile where
  minorVersion := 0
  majorVersion := 65
  constantPool := pool
  accessFlags := fl
  thisClass := this
  superClass := sup
  interfaces := ifs
  fields := fds
  methods := ms
  attributes := attrs
def plain (name : String) (sup : Option ClassId) : Class where
  name := name
  kind := .ordinary
  loader := none
  accessFlags := 33
  super := sup
  interfaces := #[]
  cf := none
  fields := #[]
  methods := #[]
  instanceTypes := #[]
  staticTypes := #[]
  resolved := #[]
  callSites := []
  init := .initialized
  statics := none
  mirror := none

def pool0 : Array CpInfo := pool [(5, u "<init>"), (0, u "()V"), (1, .class_ 10), (1, u "java/lang/Object"), (0, u "getClass"), (0, u "()Ljava/lang/Class;")] 111

def k0c0 : Code := { maxStack := 0, maxLocals := 1, code := object_method_1_code, exceptionTable := #[], attributes := #[] }
def k0m0 : Method := { name := "<init>", desc := "()V", sig := { parameters := [], returnType := none }, accessFlags := 1, code := some k0c0 }
def k0m1 : Method := { name := "getClass", desc := "()Ljava/lang/Class;", sig := { parameters := [], returnType := some (.object "java/lang/Class") }, accessFlags := 273, code := none }
/-- java/lang/Object -/
def k0 : Class := { plain "java/lang/Object" none with
  accessFlags := 33
  interfaces := #[]
  cf := some (fileOf pool0 8 #[] #[{ accessFlags := 1, nameIndex := 5, descriptorIndex := 6, attributes := #[] }, { accessFlags := 273, nameIndex := 11, descriptorIndex := 12, attributes := #[] }] 33 0 #[] #[])
  fields := #[]
  methods := #[k0m0, k0m1]
  instanceTypes := #[]
  staticTypes := #[]
  resolved := Array.replicate 124 none
  statics := none }

def pool1 : Array CpInfo := pool [(2, .class_ 4), (0, .nameAndType 5 6), (0, u "java/lang/Object"), (0, u "<init>"), (0, u "()V"), (0, .integer 2147483647), (2, .class_ 11), (0, u "com/example/vyasa/vyasa/Page"), (0, .class_ 13), (0, u "java/util/ArrayList"), (0, .methodref 12 3), (0, .methodref 10 16), (0, .nameAndType 5 17), (0, u "(Ljava/util/List;JII)V"), (0, .methodref 10 19), (0, .nameAndType 20 21), (0, u "pageCount"), (0, u "()I"), (0, .class_ 23), (0, u "com/example/vyasa/vyasa/PagePageCountPinLaw"), (2, u "law"), (0, u "(IIII)Z")] 3

def k1m0 : Method := { name := "<init>", desc := "()V", sig := { parameters := [], returnType := none }, accessFlags := 1, code := none }
def k1c1 : Code := { maxStack := 7, maxLocals := 11, code := code, exceptionTable := #[], attributes := #[] }
def k1m1 : Method := { name := "law", desc := "(IIII)Z", sig := { parameters := [.int, .int, .int, .int], returnType := some .boolean }, accessFlags := 9, code := some k1c1 }
/-- com/example/vyasa/vyasa/PagePageCountPinLaw -/
def k1 : Class := { plain "com/example/vyasa/vyasa/PagePageCountPinLaw" (some 0) with
  accessFlags := 49
  interfaces := #[]
  cf := some (fileOf pool1 22 #[] #[{ accessFlags := 1, nameIndex := 5, descriptorIndex := 6, attributes := #[] }, { accessFlags := 9, nameIndex := 26, descriptorIndex := 27, attributes := #[] }] 49 2 #[] #[])
  fields := #[]
  methods := #[k1m0, k1m1]
  instanceTypes := #[]
  staticTypes := #[]
  resolved := Array.replicate 31 none
  statics := none }

def pool2 : Array CpInfo := pool [(1, .methodref 2 3), (0, .class_ 4), (0, .nameAndType 5 6), (0, u "java/lang/Object"), (0, u "<init>"), (0, u "()V"), (0, .class_ 8), (0, u "java/util/ArrayList"), (0, .methodref 7 10), (0, .nameAndType 5 11), (0, u "(Ljava/util/Collection;)V"), (0, .methodref 13 14), (0, .class_ 15), (0, .nameAndType 16 17), (0, u "java/util/Collections"), (0, u "unmodifiableList"), (0, u "(Ljava/util/List;)Ljava/util/List;"), (0, .fieldref 19 20), (0, .class_ 21), (0, .nameAndType 22 23), (0, u "com/example/vyasa/vyasa/Page"), (0, u "rows"), (0, u "Ljava/util/List;"), (0, .fieldref 19 25), (0, .nameAndType 26 27), (0, u "resultCount"), (0, u "J"), (0, .fieldref 19 29), (0, .nameAndType 30 31), (0, u "page"), (0, u "I"), (0, .fieldref 19 33), (0, .nameAndType 34 31), (0, u "perPage"), (0, .methodref 36 37), (0, .class_ 38), (0, .nameAndType 39 40), (0, u "java/lang/Math"), (0, u "toIntExact"), (0, u "(J)I"), (2, u "(Ljava/util/List;JII)V"), (6, u "pageCount"), (0, u "()I")] 6

def k2c0 : Code := { maxStack := 4, maxLocals := 6, code := prog_22_method_1_code, exceptionTable := #[], attributes := #[] }
def k2m0 : Method := { name := "<init>", desc := "(Ljava/util/List;JII)V", sig := { parameters := [(.object "java/util/List"), .long, .int, .int], returnType := none }, accessFlags := 0, code := some k2c0 }
def k2c1 : Code := { maxStack := 4, maxLocals := 3, code := prog_22_method_4_code, exceptionTable := #[], attributes := #[] }
def k2m1 : Method := { name := "pageCount", desc := "()I", sig := { parameters := [], returnType := some .int }, accessFlags := 1, code := some k2c1 }
/-- com/example/vyasa/vyasa/Page -/
def k2 : Class := { plain "com/example/vyasa/vyasa/Page" (some 0) with
  accessFlags := 33
  interfaces := #[]
  cf := some (fileOf pool2 19 #[] #[{ accessFlags := 0, nameIndex := 5, descriptorIndex := 43, attributes := #[] }, { accessFlags := 1, nameIndex := 50, descriptorIndex := 51, attributes := #[] }] 33 2 #[] #[{ accessFlags := 18, nameIndex := 22, descriptorIndex := 23, attributes := #[] }, { accessFlags := 18, nameIndex := 26, descriptorIndex := 27, attributes := #[] }, { accessFlags := 18, nameIndex := 30, descriptorIndex := 31, attributes := #[] }, { accessFlags := 18, nameIndex := 34, descriptorIndex := 31, attributes := #[] }])
  fields := #[{ name := "rows", type := (.object "java/util/List"), accessFlags := 18, slot := 0, constantValue := 0 }, { name := "resultCount", type := .long, accessFlags := 18, slot := 1, constantValue := 0 }, { name := "page", type := .int, accessFlags := 18, slot := 2, constantValue := 0 }, { name := "perPage", type := .int, accessFlags := 18, slot := 3, constantValue := 0 }]
  methods := #[k2m0, k2m1]
  instanceTypes := #[(.object "java/util/List"), .long, .int, .int]
  staticTypes := #[]
  resolved := Array.replicate 58 none
  statics := none }

def pool3 : Array CpInfo := pool [(8, .class_ 10), (1, u "java/lang/Iterable"), (24, .class_ 36), (0, u "java/lang/Object")] 25

/-- java/lang/Iterable -/
def k3 : Class := { plain "java/lang/Iterable" (some 0) with
  accessFlags := 1537
  interfaces := #[]
  cf := some (fileOf pool3 8 #[] #[] 1537 35 #[] #[])
  fields := #[]
  methods := #[]
  instanceTypes := #[]
  staticTypes := #[]
  resolved := Array.replicate 62 none
  statics := none }

def pool4 : Array CpInfo := pool [(10, .class_ 12), (1, u "java/util/Collection"), (0, u "toArray"), (46, .class_ 61), (0, u "java/lang/Object"), (0, .class_ 63), (0, u "java/lang/Iterable"), (6, u "()[Ljava/lang/Object;")] 44

def k4m0 : Method := { name := "toArray", desc := "()[Ljava/lang/Object;", sig := { parameters := [], returnType := some (.array (.object "java/lang/Object")) }, accessFlags := 1025, code := none }
/-- java/util/Collection -/
def k4 : Class := { plain "java/util/Collection" (some 0) with
  accessFlags := 1537
  interfaces := #[3]
  cf := some (fileOf pool4 10 #[] #[{ accessFlags := 1025, nameIndex := 13, descriptorIndex := 70, attributes := #[] }] 1537 60 #[62] #[])
  fields := #[]
  methods := #[k4m0]
  instanceTypes := #[]
  staticTypes := #[]
  resolved := Array.replicate 115 none
  statics := none }

def pool5 : Array CpInfo := pool [(1, .methodref 2 3), (0, .class_ 4), (0, .nameAndType 5 6), (0, u "java/lang/Object"), (0, u "<init>"), (0, u "()V"), (1, .class_ 10), (1, u "java/util/AbstractCollection"), (66, .class_ 78), (0, u "java/util/Collection")] 81

def k5c0 : Code := { maxStack := 1, maxLocals := 1, code := jdk_22_method_1_code, exceptionTable := #[], attributes := #[] }
def k5m0 : Method := { name := "<init>", desc := "()V", sig := { parameters := [], returnType := none }, accessFlags := 4, code := some k5c0 }
/-- java/util/AbstractCollection -/
def k5 : Class := { plain "java/util/AbstractCollection" (some 0) with
  accessFlags := 1057
  interfaces := #[4]
  cf := some (fileOf pool5 8 #[] #[{ accessFlags := 4, nameIndex := 5, descriptorIndex := 6, attributes := #[] }] 1057 2 #[77] #[])
  fields := #[]
  methods := #[k5m0]
  instanceTypes := #[]
  staticTypes := #[]
  resolved := Array.replicate 160 none
  statics := none }

def pool6 : Array CpInfo := pool [(8, .class_ 10), (1, u "java/util/SequencedCollection"), (15, .class_ 27), (0, u "java/lang/Object"), (0, .class_ 29), (0, u "java/util/Collection")] 27

/-- java/util/SequencedCollection -/
def k6 : Class := { plain "java/util/SequencedCollection" (some 0) with
  accessFlags := 1537
  interfaces := #[4]
  cf := some (fileOf pool6 8 #[] #[] 1537 26 #[28] #[])
  fields := #[]
  methods := #[]
  instanceTypes := #[]
  staticTypes := #[]
  resolved := Array.replicate 57 none
  statics := none }

def pool7 : Array CpInfo := pool [(8, .class_ 10), (1, u "java/util/List"), (92, .class_ 104), (0, u "java/lang/Object"), (15, .class_ 121), (0, u "java/util/SequencedCollection")] 129

/-- java/util/List -/
def k7 : Class := { plain "java/util/List" (some 0) with
  accessFlags := 1537
  interfaces := #[6]
  cf := some (fileOf pool7 8 #[] #[] 1537 103 #[120] #[])
  fields := #[]
  methods := #[]
  instanceTypes := #[]
  staticTypes := #[]
  resolved := Array.replicate 251 none
  statics := none }

def pool8 : Array CpInfo := pool [(1, .methodref 2 3), (0, .class_ 4), (0, .nameAndType 5 6), (0, u "java/util/AbstractCollection"), (0, u "<init>"), (0, u "()V"), (0, .fieldref 8 9), (0, .class_ 10), (0, .nameAndType 11 12), (0, u "java/util/AbstractList"), (0, u "modCount"), (0, u "I"), (64, .class_ 78), (0, u "java/util/AbstractList$Itr"), (3, .class_ 83), (0, u "java/util/AbstractList$ListItr"), (9, .class_ 94), (0, u "java/util/AbstractList$RandomAccessSubList"), (3, .class_ 99), (0, u "java/util/AbstractList$SubList"), (33, .class_ 134), (0, u "java/util/List"), (73, .class_ 209), (0, u "java/util/AbstractList$SubList$1"), (0, .class_ 211), (0, u "java/util/AbstractList$RandomAccessSpliterator")] 6

def k8c0 : Code := { maxStack := 2, maxLocals := 1, code := jdk_39_method_1_code, exceptionTable := #[], attributes := #[] }
def k8m0 : Method := { name := "<init>", desc := "()V", sig := { parameters := [], returnType := none }, accessFlags := 4, code := some k8c0 }
/-- java/util/AbstractList -/
def k8 : Class := { plain "java/util/AbstractList" (some 5) with
  accessFlags := 1057
  interfaces := #[7]
  cf := some (fileOf pool8 8 #[.nestMembers #[93, 98, 208, 210, 82, 77]] #[{ accessFlags := 4, nameIndex := 5, descriptorIndex := 6, attributes := #[] }] 1057 2 #[133] #[{ accessFlags := 132, nameIndex := 11, descriptorIndex := 12, attributes := #[] }])
  fields := #[{ name := "modCount", type := .int, accessFlags := 132, slot := 0, constantValue := 0 }]
  methods := #[k8m0]
  instanceTypes := #[.int]
  staticTypes := #[]
  resolved := Array.replicate 218 none
  statics := none }

def pool9 : Array CpInfo := pool [(1, .class_ 2), (0, u "java/util/RandomAccess"), (0, .class_ 4), (0, u "java/lang/Object")] 2

/-- java/util/RandomAccess -/
def k9 : Class := { plain "java/util/RandomAccess" (some 0) with
  accessFlags := 1537
  interfaces := #[]
  cf := some (fileOf pool9 1 #[] #[] 1537 3 #[] #[])
  fields := #[]
  methods := #[]
  instanceTypes := #[]
  staticTypes := #[]
  resolved := Array.replicate 7 none
  statics := none }

def pool10 : Array CpInfo := pool [(1, .class_ 2), (0, u "java/lang/Cloneable"), (0, .class_ 4), (0, u "java/lang/Object")] 2

/-- java/lang/Cloneable -/
def k10 : Class := { plain "java/lang/Cloneable" (some 0) with
  accessFlags := 1537
  interfaces := #[]
  cf := some (fileOf pool10 1 #[] #[] 1537 3 #[] #[])
  fields := #[]
  methods := #[]
  instanceTypes := #[]
  staticTypes := #[]
  resolved := Array.replicate 7 none
  statics := none }

def pool11 : Array CpInfo := pool [(1, .class_ 2), (0, u "java/io/Serializable"), (0, .class_ 4), (0, u "java/lang/Object")] 2

/-- java/io/Serializable -/
def k11 : Class := { plain "java/io/Serializable" (some 0) with
  accessFlags := 1537
  interfaces := #[]
  cf := some (fileOf pool11 1 #[] #[] 1537 3 #[] #[])
  fields := #[]
  methods := #[]
  instanceTypes := #[]
  staticTypes := #[]
  resolved := Array.replicate 7 none
  statics := none }

def pool12 : Array CpInfo := pool [(1, .methodref 2 3), (0, .class_ 4), (0, .nameAndType 5 6), (0, u "java/util/AbstractList"), (0, u "<init>"), (0, u "()V"), (2, .fieldref 10 11), (0, .class_ 12), (0, .nameAndType 13 14), (0, u "java/util/ArrayList"), (0, u "elementData"), (0, u "[Ljava/lang/Object;"), (0, .fieldref 10 16), (0, .nameAndType 17 14), (0, u "EMPTY_ELEMENTDATA"), (21, .fieldref 10 40), (0, .nameAndType 41 14), (0, u "DEFAULTCAPACITY_EMPTY_ELEMENTDATA"), (0, .interfaceMethodref 43 44), (0, .class_ 45), (0, .nameAndType 46 47), (0, u "java/util/Collection"), (0, u "toArray"), (0, u "()[Ljava/lang/Object;"), (0, .fieldref 10 49), (0, .nameAndType 50 51), (0, u "size"), (0, u "I"), (6, .class_ 60), (1, u "java/util/Arrays"), (0, u "copyOf"), (4, .methodref 58 67), (0, .nameAndType 61 68), (0, u "([Ljava/lang/Object;I)[Ljava/lang/Object;"), (79, .class_ 149), (0, u "java/util/List"), (112, .class_ 263), (0, u "java/util/ArrayList$ListItr"), (3, .class_ 268), (0, u "java/util/ArrayList$Itr"), (7, .class_ 277), (0, u "java/util/ArrayList$SubList"), (12, .class_ 291), (0, u "java/util/ArrayList$ArrayListSpliterator"), (37, .class_ 330), (0, u "java/util/RandomAccess"), (0, .class_ 332), (0, u "java/lang/Cloneable"), (0, .class_ 334), (0, u "java/io/Serializable"), (0, u "serialVersionUID"), (0, u "J"), (3, u "DEFAULT_CAPACITY"), (10, u "(Ljava/util/Collection;)V"), (148, .class_ 501), (0, u "java/util/ArrayList$SubList$2"), (0, .class_ 503), (0, u "java/util/ArrayList$SubList$1")] 5

def k12c0 : Code := { maxStack := 2, maxLocals := 1, code := jdk_38_method_2_code, exceptionTable := #[], attributes := #[] }
def k12m0 : Method := { name := "<init>", desc := "()V", sig := { parameters := [], returnType := none }, accessFlags := 1, code := some k12c0 }
def k12c1 : Code := { maxStack := 4, maxLocals := 3, code := jdk_38_method_3_code, exceptionTable := #[], attributes := #[] }
def k12m1 : Method := { name := "<init>", desc := "(Ljava/util/Collection;)V", sig := { parameters := [(.object "java/util/Collection")], returnType := none }, accessFlags := 1, code := some k12c1 }
def k12c2 : Code := { maxStack := 2, maxLocals := 1, code := jdk_38_method_16_code, exceptionTable := #[], attributes := #[] }
def k12m2 : Method := { name := "toArray", desc := "()[Ljava/lang/Object;", sig := { parameters := [], returnType := some (.array (.object "java/lang/Object")) }, accessFlags := 1, code := some k12c2 }
/-- java/util/ArrayList -/
def k12 : Class := { plain "java/util/ArrayList" (some 8) with
  accessFlags := 33
  interfaces := #[7, 9, 10, 11]
  cf := some (fileOf pool12 10 #[.nestMembers #[290, 276, 500, 502, 262, 267]] #[{ accessFlags := 1, nameIndex := 5, descriptorIndex := 6, attributes := #[] }, { accessFlags := 1, nameIndex := 5, descriptorIndex := 351, attributes := #[] }, { accessFlags := 1, nameIndex := 46, descriptorIndex := 47, attributes := #[] }] 33 2 #[148, 329, 331, 333] #[{ accessFlags := 26, nameIndex := 335, descriptorIndex := 336, attributes := #[] }, { accessFlags := 26, nameIndex := 340, descriptorIndex := 51, attributes := #[] }, { accessFlags := 26, nameIndex := 17, descriptorIndex := 14, attributes := #[] }, { accessFlags := 26, nameIndex := 41, descriptorIndex := 14, attributes := #[] }, { accessFlags := 128, nameIndex := 13, descriptorIndex := 14, attributes := #[] }, { accessFlags := 2, nameIndex := 50, descriptorIndex := 51, attributes := #[] }])
  fields := #[{ name := "serialVersionUID", type := .long, accessFlags := 26, slot := 0, constantValue := 0 }, { name := "DEFAULT_CAPACITY", type := .int, accessFlags := 26, slot := 1, constantValue := 0 }, { name := "EMPTY_ELEMENTDATA", type := (.array (.object "java/lang/Object")), accessFlags := 26, slot := 2, constantValue := 0 }, { name := "DEFAULTCAPACITY_EMPTY_ELEMENTDATA", type := (.array (.object "java/lang/Object")), accessFlags := 26, slot := 3, constantValue := 0 }, { name := "elementData", type := (.array (.object "java/lang/Object")), accessFlags := 128, slot := 1, constantValue := 0 }, { name := "size", type := .int, accessFlags := 2, slot := 2, constantValue := 0 }]
  methods := #[k12m0, k12m1, k12m2]
  instanceTypes := #[.int, (.array (.object "java/lang/Object")), .int]
  staticTypes := #[.long, .int, (.array (.object "java/lang/Object")), (.array (.object "java/lang/Object"))]
  resolved := Array.replicate 509 none
  mirror := some 2
  statics := some 0 }

def pool13 : Array CpInfo := pool [(2, .class_ 4), (1, u "java/lang/Object"), (0, u "<init>"), (0, u "()V"), (7, .class_ 16), (1, u "java/util/Arrays"), (57, .class_ 76), (1, u "java/util/Arrays$NaturalOrder"), (9, .methodref 2 87), (0, .nameAndType 88 89), (0, u "getClass"), (0, u "()Ljava/lang/Class;"), (20, .class_ 111), (0, u "[Ljava/lang/Object;"), (1, .class_ 115), (1, u "java/util/Arrays$LegacyMergeSort"), (1, u "Z"), (32, .methodref 151 152), (0, .class_ 153), (0, .nameAndType 154 155), (0, u "java/lang/System"), (0, u "arraycopy"), (0, u "(Ljava/lang/Object;ILjava/lang/Object;II)V"), (144, .methodref 14 301), (0, .nameAndType 302 303), (0, u "copyOf"), (0, u "([Ljava/lang/Object;ILjava/lang/Class;)[Ljava/lang/Object;"), (0, .methodref 305 306), (0, .class_ 307), (0, .nameAndType 308 309), (0, u "java/lang/Math"), (0, u "min"), (0, u "(II)I"), (65, .class_ 376), (0, u "java/util/Arrays$ArrayList"), (68, u "$assertionsDisabled"), (269, u "MIN_ARRAY_SORT_GRAN"), (0, u "I"), (2, u "INSERTIONSORT_THRESHOLD"), (140, u "([Ljava/lang/Object;I)[Ljava/lang/Object;"), (114, .class_ 976), (0, u "java/util/Arrays$ArrayItr")] 52

def k13m0 : Method := { name := "<init>", desc := "()V", sig := { parameters := [], returnType := none }, accessFlags := 2, code := none }
def k13c1 : Code := { maxStack := 3, maxLocals := 2, code := jdk_65_method_119_code, exceptionTable := #[], attributes := #[] }
def k13m1 : Method := { name := "copyOf", desc := "([Ljava/lang/Object;I)[Ljava/lang/Object;", sig := { parameters := [(.array (.object "java/lang/Object")), .int], returnType := some (.array (.object "java/lang/Object")) }, accessFlags := 9, code := some k13c1 }
def k13c2 : Code := { maxStack := 6, maxLocals := 4, code := jdk_65_method_120_code, exceptionTable := #[], attributes := #[] }
def k13m2 : Method := { name := "copyOf", desc := "([Ljava/lang/Object;ILjava/lang/Class;)[Ljava/lang/Object;", sig := { parameters := [(.array (.object "java/lang/Object")), .int, (.object "java/lang/Class")], returnType := some (.array (.object "java/lang/Object")) }, accessFlags := 9, code := some k13c2 }
/-- java/util/Arrays -/
def k13 : Class := { plain "java/util/Arrays" (some 0) with
  accessFlags := 49
  interfaces := #[]
  cf := some (fileOf pool13 14 #[.nestMembers #[975, 375, 113, 74]] #[{ accessFlags := 2, nameIndex := 5, descriptorIndex := 6, attributes := #[] }, { accessFlags := 9, nameIndex := 302, descriptorIndex := 860, attributes := #[] }, { accessFlags := 9, nameIndex := 302, descriptorIndex := 303, attributes := #[] }] 49 2 #[] #[{ accessFlags := 26, nameIndex := 715, descriptorIndex := 716, attributes := #[] }, { accessFlags := 26, nameIndex := 719, descriptorIndex := 716, attributes := #[] }, { accessFlags := 4120, nameIndex := 445, descriptorIndex := 117, attributes := #[] }])
  fields := #[{ name := "MIN_ARRAY_SORT_GRAN", type := .int, accessFlags := 26, slot := 0, constantValue := 0 }, { name := "INSERTIONSORT_THRESHOLD", type := .int, accessFlags := 26, slot := 1, constantValue := 0 }, { name := "$assertionsDisabled", type := .boolean, accessFlags := 4120, slot := 2, constantValue := 0 }]
  methods := #[k13m0, k13m1, k13m2]
  instanceTypes := #[]
  staticTypes := #[.int, .int, .boolean]
  resolved := Array.replicate 1029 none
  statics := none }

def pool14 : Array CpInfo := pool [(1, .class_ 2), (0, u "java/lang/Math"), (1, .class_ 6), (1, u "java/lang/Object"), (0, u "<init>"), (0, u "()V"), (89, .class_ 100), (1, u "java/lang/Math$RandomNumberGeneratorHolder"), (71, u "negativeZeroFloatBits"), (0, u "J"), (2, u "negativeZeroDoubleBits"), (24, u "min"), (43, u "$assertionsDisabled"), (0, u "Z"), (88, u "(II)I"), (2, u "twoToTheDoubleScaleDown"), (0, u "D"), (4, u "twoToTheDoubleScaleUp"), (9, u "E"), (3, u "PI"), (2, u "TAU"), (2, u "DEGREES_TO_RADIANS"), (0, u "RADIANS_TO_DEGREES"), (39, u "toIntExact"), (0, u "(J)I")] 53

def k14m0 : Method := { name := "<init>", desc := "()V", sig := { parameters := [], returnType := none }, accessFlags := 2, code := none }
def k14c1 : Code := { maxStack := 4, maxLocals := 2, code := jdk_29_method_43_code, exceptionTable := #[], attributes := #[] }
def k14m1 : Method := { name := "toIntExact", desc := "(J)I", sig := { parameters := [.long], returnType := some .int }, accessFlags := 9, code := some k14c1 }
def k14c2 : Code := { maxStack := 2, maxLocals := 2, code := jdk_29_method_69_code, exceptionTable := #[], attributes := #[] }
def k14m2 : Method := { name := "min", desc := "(II)I", sig := { parameters := [.int, .int], returnType := some .int }, accessFlags := 9, code := some k14c2 }
/-- java/lang/Math -/
def k14 : Class := { plain "java/lang/Math" (some 0) with
  accessFlags := 49
  interfaces := #[]
  cf := some (fileOf pool14 1 #[.nestMembers #[98]] #[{ accessFlags := 2, nameIndex := 7, descriptorIndex := 8, attributes := #[] }, { accessFlags := 9, nameIndex := 405, descriptorIndex := 406, attributes := #[] }, { accessFlags := 9, nameIndex := 201, descriptorIndex := 335, attributes := #[] }] 49 4 #[] #[{ accessFlags := 25, nameIndex := 354, descriptorIndex := 339, attributes := #[] }, { accessFlags := 25, nameIndex := 358, descriptorIndex := 339, attributes := #[] }, { accessFlags := 25, nameIndex := 361, descriptorIndex := 339, attributes := #[] }, { accessFlags := 26, nameIndex := 364, descriptorIndex := 339, attributes := #[] }, { accessFlags := 26, nameIndex := 365, descriptorIndex := 339, attributes := #[] }, { accessFlags := 26, nameIndex := 172, descriptorIndex := 173, attributes := #[] }, { accessFlags := 26, nameIndex := 176, descriptorIndex := 173, attributes := #[] }, { accessFlags := 8, nameIndex := 344, descriptorIndex := 339, attributes := #[] }, { accessFlags := 8, nameIndex := 338, descriptorIndex := 339, attributes := #[] }, { accessFlags := 4120, nameIndex := 245, descriptorIndex := 246, attributes := #[] }])
  fields := #[{ name := "E", type := .double, accessFlags := 25, slot := 0, constantValue := 0 }, { name := "PI", type := .double, accessFlags := 25, slot := 1, constantValue := 0 }, { name := "TAU", type := .double, accessFlags := 25, slot := 2, constantValue := 0 }, { name := "DEGREES_TO_RADIANS", type := .double, accessFlags := 26, slot := 3, constantValue := 0 }, { name := "RADIANS_TO_DEGREES", type := .double, accessFlags := 26, slot := 4, constantValue := 0 }, { name := "negativeZeroFloatBits", type := .long, accessFlags := 26, slot := 5, constantValue := 0 }, { name := "negativeZeroDoubleBits", type := .long, accessFlags := 26, slot := 6, constantValue := 0 }, { name := "twoToTheDoubleScaleUp", type := .double, accessFlags := 8, slot := 7, constantValue := 0 }, { name := "twoToTheDoubleScaleDown", type := .double, accessFlags := 8, slot := 8, constantValue := 0 }, { name := "$assertionsDisabled", type := .boolean, accessFlags := 4120, slot := 9, constantValue := 0 }]
  methods := #[k14m0, k14m1, k14m2]
  instanceTypes := #[]
  staticTypes := #[.double, .double, .double, .double, .double, .long, .long, .double, .double, .boolean]
  resolved := Array.replicate 460 none
  statics := none }

def pool15 : Array CpInfo := pool [(2, .class_ 4), (1, u "java/lang/Object"), (0, u "<init>"), (0, u "()V"), (1, .class_ 10), (1, u "java/lang/System"), (0, u "allowSecurityManager"), (0, u "I"), (16, u "cons"), (0, u "Ljava/io/Console;"), (77, .class_ 110), (1, u "java/lang/System$CallersHolder"), (43, u "initialErrStream"), (0, u "Ljava/io/PrintStream;"), (19, u "security"), (0, u "Ljava/lang/SecurityManager;"), (31, .class_ 209), (0, u "java/lang/System$1"), (7, u "props"), (0, u "Ljava/util/Properties;"), (2, u "lineSeparator"), (0, u "Ljava/lang/String;"), (96, .class_ 321), (1, u "java/lang/System$LoggerFinder"), (5, .class_ 328), (0, u "java/lang/System$Logger"), (67, u "err"), (2, u "out"), (91, u "notSupportedJnuEncoding"), (15, u "in"), (17, u "initialIn"), (0, u "Ljava/io/InputStream;"), (35, u "bootLayer"), (0, u "Ljava/lang/ModuleLayer;"), (99, .class_ 664), (0, u "java/lang/System$2"), (9, u "NEVER"), (2, u "MAYBE"), (49, u "arraycopy"), (0, u "(Ljava/lang/Object;ILjava/lang/Object;II)V"), (72, .class_ 802), (0, u "java/lang/System$Logger$Level")] 31

def k15m0 : Method := { name := "<init>", desc := "()V", sig := { parameters := [], returnType := none }, accessFlags := 2, code := none }
def k15m1 : Method := { name := "arraycopy", desc := "(Ljava/lang/Object;ILjava/lang/Object;II)V", sig := { parameters := [(.object "java/lang/Object"), .int, (.object "java/lang/Object"), .int, .int], returnType := none }, accessFlags := 265, code := none }
/-- java/lang/System -/
def k15 : Class := { plain "java/lang/System" (some 0) with
  accessFlags := 49
  interfaces := #[]
  cf := some (fileOf pool15 8 #[.nestMembers #[319, 327, 801, 108, 663, 208]] #[{ accessFlags := 2, nameIndex := 5, descriptorIndex := 6, attributes := #[] }, { accessFlags := 265, nameIndex := 727, descriptorIndex := 728, attributes := #[] }] 49 2 #[] #[{ accessFlags := 25, nameIndex := 507, descriptorIndex := 526, attributes := #[] }, { accessFlags := 25, nameIndex := 399, descriptorIndex := 155, attributes := #[] }, { accessFlags := 25, nameIndex := 396, descriptorIndex := 155, attributes := #[] }, { accessFlags := 10, nameIndex := 525, descriptorIndex := 526, attributes := #[] }, { accessFlags := 26, nameIndex := 674, descriptorIndex := 12, attributes := #[] }, { accessFlags := 26, nameIndex := 677, descriptorIndex := 12, attributes := #[] }, { accessFlags := 10, nameIndex := 11, descriptorIndex := 12, attributes := #[] }, { accessFlags := 74, nameIndex := 175, descriptorIndex := 176, attributes := #[] }, { accessFlags := 10, nameIndex := 491, descriptorIndex := 222, attributes := #[] }, { accessFlags := 74, nameIndex := 29, descriptorIndex := 30, attributes := #[] }, { accessFlags := 74, nameIndex := 154, descriptorIndex := 155, attributes := #[] }, { accessFlags := 10, nameIndex := 217, descriptorIndex := 218, attributes := #[] }, { accessFlags := 10, nameIndex := 221, descriptorIndex := 222, attributes := #[] }, { accessFlags := 8, nameIndex := 562, descriptorIndex := 563, attributes := #[] }])
  fields := #[{ name := "in", type := (.object "java/io/InputStream"), accessFlags := 25, slot := 0, constantValue := 0 }, { name := "out", type := (.object "java/io/PrintStream"), accessFlags := 25, slot := 1, constantValue := 0 }, { name := "err", type := (.object "java/io/PrintStream"), accessFlags := 25, slot := 2, constantValue := 0 }, { name := "initialIn", type := (.object "java/io/InputStream"), accessFlags := 10, slot := 3, constantValue := 0 }, { name := "NEVER", type := .int, accessFlags := 26, slot := 4, constantValue := 0 }, { name := "MAYBE", type := .int, accessFlags := 26, slot := 5, constantValue := 0 }, { name := "allowSecurityManager", type := .int, accessFlags := 10, slot := 6, constantValue := 0 }, { name := "security", type := (.object "java/lang/SecurityManager"), accessFlags := 74, slot := 7, constantValue := 0 }, { name := "notSupportedJnuEncoding", type := (.object "java/lang/String"), accessFlags := 10, slot := 8, constantValue := 0 }, { name := "cons", type := (.object "java/io/Console"), accessFlags := 74, slot := 9, constantValue := 0 }, { name := "initialErrStream", type := (.object "java/io/PrintStream"), accessFlags := 74, slot := 10, constantValue := 0 }, { name := "props", type := (.object "java/util/Properties"), accessFlags := 10, slot := 11, constantValue := 0 }, { name := "lineSeparator", type := (.object "java/lang/String"), accessFlags := 10, slot := 12, constantValue := 0 }, { name := "bootLayer", type := (.object "java/lang/ModuleLayer"), accessFlags := 8, slot := 13, constantValue := 0 }]
  methods := #[k15m0, k15m1]
  instanceTypes := #[]
  staticTypes := #[(.object "java/io/InputStream"), (.object "java/io/PrintStream"), (.object "java/io/PrintStream"), (.object "java/io/InputStream"), .int, .int, .int, (.object "java/lang/SecurityManager"), (.object "java/lang/String"), (.object "java/io/Console"), (.object "java/io/PrintStream"), (.object "java/util/Properties"), (.object "java/lang/String"), (.object "java/lang/ModuleLayer")]
  resolved := Array.replicate 834 none
  statics := none }

def pool16 : Array CpInfo := pool [(2, .class_ 4), (1, u "java/lang/Object"), (0, u "<init>"), (0, u "()V"), (1, .class_ 10), (1, u "java/util/List"), (2, .class_ 14), (0, u "java/util/RandomAccess"), (4, .class_ 20), (0, u "java/util/Collections"), (63, u "r"), (0, u "Ljava/util/Random;"), (67, u "(Ljava/util/List;)V"), (9, .nameAndType 164 165), (0, u "getClass"), (0, u "()Ljava/lang/Class;"), (0, .class_ 167), (0, u "java/util/Collections$UnmodifiableCollection"), (6, .class_ 175), (0, u "java/util/Collections$UnmodifiableSequencedCollection"), (6, .class_ 183), (0, u "java/util/Collections$UnmodifiableSet"), (6, .class_ 191), (0, u "java/util/Collections$UnmodifiableSequencedSet"), (6, .class_ 199), (0, u "java/util/Collections$UnmodifiableSortedSet"), (6, .class_ 207), (0, u "java/util/Collections$UnmodifiableNavigableSet"), (3, .interfaceMethodref 8 163), (0, .class_ 213), (0, u "java/util/Collections$UnmodifiableList"), (0, .interfaceMethodref 8 163), (0, .class_ 216), (0, u "java/util/Collections$UnmodifiableRandomAccessList"), (0, .methodref 215 218), (0, .nameAndType 5 153), (4, .class_ 224), (0, u "java/util/Collections$UnmodifiableMap"), (6, .class_ 232), (0, u "java/util/Collections$UnmodifiableSequencedMap"), (4, .class_ 238), (0, u "java/util/Collections$UnmodifiableSortedMap"), (6, .class_ 246), (0, u "java/util/Collections$UnmodifiableNavigableMap"), (3, .class_ 251), (0, u "java/util/Collections$SynchronizedCollection"), (4, .class_ 257), (0, u "java/util/Collections$SynchronizedSet"), (4, .class_ 263), (0, u "java/util/Collections$SynchronizedSortedSet"), (1, .class_ 266), (0, u "java/util/Collections$SynchronizedNavigableSet"), (1, .class_ 269), (0, u "java/util/Collections$SynchronizedRandomAccessList"), (1, .class_ 272), (0, u "java/util/Collections$SynchronizedList"), (5, .class_ 279), (0, u "java/util/Collections$SynchronizedMap"), (1, .class_ 282), (0, u "java/util/Collections$SynchronizedSortedMap"), (1, .class_ 285), (0, u "java/util/Collections$SynchronizedNavigableMap"), (1, .class_ 288), (0, u "java/util/Collections$CheckedCollection"), (11, .class_ 301), (0, u "java/util/Collections$CheckedQueue"), (3, .class_ 306), (0, u "java/util/Collections$CheckedSet"), (3, .class_ 311), (0, u "java/util/Collections$CheckedSortedSet"), (3, .class_ 316), (0, u "java/util/Collections$CheckedNavigableSet"), (3, .class_ 321), (0, u "java/util/Collections$CheckedRandomAccessList"), (3, .class_ 326), (0, u "java/util/Collections$CheckedList"), (1, .class_ 329), (0, u "java/util/Collections$CheckedMap"), (3, .class_ 334), (0, u "java/util/Collections$CheckedSortedMap"), (3, .class_ 339), (0, u "java/util/Collections$CheckedNavigableMap"), (4, .class_ 346), (1, u "java/util/Collections$EmptyIterator"), (3, .class_ 352), (1, u "java/util/Collections$EmptyListIterator"), (2, .class_ 357), (1, u "java/util/Collections$EmptyEnumeration"), (4, u "EMPTY_SET"), (0, u "Ljava/util/Set;"), (6, u "EMPTY_LIST"), (0, u "Ljava/util/List;"), (2, u "EMPTY_MAP"), (0, u "Ljava/util/Map;"), (4, .class_ 381), (0, u "java/util/Collections$SingletonSet"), (2, .class_ 385), (0, u "java/util/Collections$1"), (1, .class_ 388), (0, u "java/util/Collections$2"), (1, .class_ 391), (0, u "java/util/Collections$SingletonList"), (1, .class_ 394), (0, u "java/util/Collections$SingletonMap"), (22, .class_ 418), (0, u "java/util/Collections$CopiesList"), (4, .class_ 425), (1, u "java/util/Collections$ReverseComparator"), (8, .class_ 435), (0, u "java/util/Collections$ReverseComparator2"), (6, .class_ 443), (0, u "java/util/Collections$3"), (25, .class_ 470), (0, u "java/util/Collections$SetFromMap"), (2, .class_ 474), (0, u "java/util/Collections$SequencedSetFromMap"), (3, .class_ 479), (0, u "java/util/Collections$AsLIFOQueue"), (11, .class_ 492), (0, u "java/util/Collections$EmptySet"), (1, .class_ 495), (0, u "java/util/Collections$EmptyList"), (1, .class_ 498), (0, u "java/util/Collections$EmptyMap"), (1, u "BINARYSEARCH_THRESHOLD"), (0, u "I"), (2, u "REVERSE_THRESHOLD"), (1, u "SHUFFLE_THRESHOLD"), (1, u "FILL_THRESHOLD"), (1, u "ROTATE_THRESHOLD"), (1, u "COPY_THRESHOLD"), (1, u "REPLACEALL_THRESHOLD"), (1, u "INDEXOFSUBLIST_THRESHOLD"), (129, u "unmodifiableList"), (0, u "(Ljava/util/List;)Ljava/util/List;"), (202, .class_ 851), (0, u "java/util/Collections$CheckedMap$CheckedEntrySet"), (0, .class_ 853), (0, u "java/util/Collections$CheckedMap$CheckedEntrySet$CheckedEntry"), (0, .class_ 855), (0, u "java/util/Collections$CheckedMap$CheckedEntrySet$1"), (0, .class_ 857), (0, u "java/util/Collections$CheckedList$1"), (0, .class_ 859), (0, u "java/util/Collections$CheckedCollection$1"), (0, .class_ 861), (0, u "java/util/Collections$UnmodifiableNavigableMap$EmptyNavigableMap"), (0, .class_ 863), (0, u "java/util/Collections$UnmodifiableMap$UnmodifiableEntrySet"), (0, .class_ 865), (0, u "java/util/Collections$UnmodifiableMap$UnmodifiableEntrySet$UnmodifiableEntry"), (0, .class_ 867), (0, u "java/util/Collections$UnmodifiableMap$UnmodifiableEntrySet$UnmodifiableEntrySetSpliterator"), (0, .class_ 869), (0, u "java/util/Collections$UnmodifiableMap$UnmodifiableEntrySet$1"), (0, .class_ 871), (0, u "java/util/Collections$UnmodifiableList$1"), (0, .class_ 873), (0, u "java/util/Collections$UnmodifiableNavigableSet$EmptyNavigableSet"), (0, .class_ 875), (0, u "java/util/Collections$UnmodifiableCollection$1")] 57

def k16m0 : Method := { name := "<init>", desc := "()V", sig := { parameters := [], returnType := none }, accessFlags := 2, code := none }
def k16c1 : Code := { maxStack := 3, maxLocals := 1, code := jdk_79_method_35_code, exceptionTable := #[], attributes := #[] }
def k16m1 : Method := { name := "unmodifiableList", desc := "(Ljava/util/List;)Ljava/util/List;", sig := { parameters := [(.object "java/util/List")], returnType := some (.object "java/util/List") }, accessFlags := 9, code := some k16c1 }
/-- java/util/Collections -/
def k16 : Class := { plain "java/util/Collections" (some 0) with
  accessFlags := 33
  interfaces := #[]
  cf := some (fileOf pool16 19 #[.nestMembers #[478, 473, 469, 434, 423, 417, 393, 390, 380, 497, 494, 491, 355, 350, 344, 338, 333, 328, 850, 852, 854, 320, 325, 856, 315, 310, 305, 300, 287, 858, 284, 281, 278, 268, 271, 265, 262, 256, 250, 245, 860, 237, 231, 223, 862, 864, 866, 868, 215, 212, 870, 206, 872, 198, 190, 182, 174, 166, 874, 442, 387, 384]] #[{ accessFlags := 2, nameIndex := 5, descriptorIndex := 6, attributes := #[] }, { accessFlags := 9, nameIndex := 646, descriptorIndex := 647, attributes := #[] }] 33 2 #[] #[{ accessFlags := 26, nameIndex := 500, descriptorIndex := 501, attributes := #[] }, { accessFlags := 26, nameIndex := 504, descriptorIndex := 501, attributes := #[] }, { accessFlags := 26, nameIndex := 506, descriptorIndex := 501, attributes := #[] }, { accessFlags := 26, nameIndex := 508, descriptorIndex := 501, attributes := #[] }, { accessFlags := 26, nameIndex := 510, descriptorIndex := 501, attributes := #[] }, { accessFlags := 26, nameIndex := 512, descriptorIndex := 501, attributes := #[] }, { accessFlags := 26, nameIndex := 514, descriptorIndex := 501, attributes := #[] }, { accessFlags := 26, nameIndex := 516, descriptorIndex := 501, attributes := #[] }, { accessFlags := 10, nameIndex := 84, descriptorIndex := 85, attributes := #[] }, { accessFlags := 25, nameIndex := 362, descriptorIndex := 363, attributes := #[] }, { accessFlags := 25, nameIndex := 370, descriptorIndex := 371, attributes := #[] }, { accessFlags := 25, nameIndex := 374, descriptorIndex := 375, attributes := #[] }])
  fields := #[{ name := "BINARYSEARCH_THRESHOLD", type := .int, accessFlags := 26, slot := 0, constantValue := 0 }, { name := "REVERSE_THRESHOLD", type := .int, accessFlags := 26, slot := 1, constantValue := 0 }, { name := "SHUFFLE_THRESHOLD", type := .int, accessFlags := 26, slot := 2, constantValue := 0 }, { name := "FILL_THRESHOLD", type := .int, accessFlags := 26, slot := 3, constantValue := 0 }, { name := "ROTATE_THRESHOLD", type := .int, accessFlags := 26, slot := 4, constantValue := 0 }, { name := "COPY_THRESHOLD", type := .int, accessFlags := 26, slot := 5, constantValue := 0 }, { name := "REPLACEALL_THRESHOLD", type := .int, accessFlags := 26, slot := 6, constantValue := 0 }, { name := "INDEXOFSUBLIST_THRESHOLD", type := .int, accessFlags := 26, slot := 7, constantValue := 0 }, { name := "r", type := (.object "java/util/Random"), accessFlags := 10, slot := 8, constantValue := 0 }, { name := "EMPTY_SET", type := (.object "java/util/Set"), accessFlags := 25, slot := 9, constantValue := 0 }, { name := "EMPTY_LIST", type := (.object "java/util/List"), accessFlags := 25, slot := 10, constantValue := 0 }, { name := "EMPTY_MAP", type := (.object "java/util/Map"), accessFlags := 25, slot := 11, constantValue := 0 }]
  methods := #[k16m0, k16m1]
  instanceTypes := #[]
  staticTypes := #[.int, .int, .int, .int, .int, .int, .int, .int, (.object "java/util/Random"), (.object "java/util/Set"), (.object "java/util/List"), (.object "java/util/Map")]
  resolved := Array.replicate 933 none
  statics := none }

def pool17 : Array CpInfo := pool [(1, .methodref 2 3), (0, .class_ 4), (0, .nameAndType 5 6), (0, u "java/lang/Object"), (0, u "<init>"), (0, u "()V"), (3, .fieldref 11 12), (0, .class_ 13), (0, .nameAndType 14 15), (0, u "java/util/Collections$UnmodifiableCollection"), (0, u "c"), (0, u "Ljava/util/Collection;"), (1, .class_ 19), (1, u "java/util/Collection"), (51, .class_ 72), (0, u "java/io/Serializable"), (0, u "serialVersionUID"), (0, u "J"), (5, u "(Ljava/util/Collection;)V"), (51, .class_ 133), (0, u "java/util/Collections")] 2

def k17c0 : Code := { maxStack := 2, maxLocals := 2, code := jdk_119_method_1_code, exceptionTable := #[], attributes := #[] }
def k17m0 : Method := { name := "<init>", desc := "(Ljava/util/Collection;)V", sig := { parameters := [(.object "java/util/Collection")], returnType := none }, accessFlags := 0, code := some k17c0 }
/-- java/util/Collections$UnmodifiableCollection -/
def k17 : Class := { plain "java/util/Collections$UnmodifiableCollection" (some 0) with
  accessFlags := 32
  interfaces := #[4, 11]
  cf := some (fileOf pool17 11 #[.nestHost 132] #[{ accessFlags := 0, nameIndex := 5, descriptorIndex := 80, attributes := #[] }] 32 2 #[17, 71] #[{ accessFlags := 26, nameIndex := 73, descriptorIndex := 74, attributes := #[] }, { accessFlags := 16, nameIndex := 14, descriptorIndex := 15, attributes := #[] }])
  fields := #[{ name := "serialVersionUID", type := .long, accessFlags := 26, slot := 0, constantValue := 0 }, { name := "c", type := (.object "java/util/Collection"), accessFlags := 16, slot := 0, constantValue := 0 }]
  methods := #[k17m0]
  instanceTypes := #[(.object "java/util/Collection")]
  staticTypes := #[.long]
  resolved := Array.replicate 136 none
  statics := none }

def pool18 : Array CpInfo := pool [(1, .methodref 2 3), (0, .class_ 4), (0, .nameAndType 5 6), (0, u "java/util/Collections$UnmodifiableCollection"), (0, u "<init>"), (0, u "(Ljava/util/Collection;)V"), (0, .fieldref 8 9), (0, .class_ 10), (0, .nameAndType 11 12), (0, u "java/util/Collections$UnmodifiableList"), (0, u "list"), (0, u "Ljava/util/List;"), (1, .class_ 16), (1, u "java/util/List"), (37, u "(Ljava/util/List;)V"), (5, u "serialVersionUID"), (0, u "J"), (59, .class_ 122), (0, u "java/util/Collections")] 4

def k18c0 : Code := { maxStack := 2, maxLocals := 2, code := jdk_120_method_1_code, exceptionTable := #[], attributes := #[] }
def k18m0 : Method := { name := "<init>", desc := "(Ljava/util/List;)V", sig := { parameters := [(.object "java/util/List")], returnType := none }, accessFlags := 0, code := some k18c0 }
/-- java/util/Collections$UnmodifiableList -/
def k18 : Class := { plain "java/util/Collections$UnmodifiableList" (some 17) with
  accessFlags := 32
  interfaces := #[7]
  cf := some (fileOf pool18 8 #[.nestHost 121] #[{ accessFlags := 0, nameIndex := 5, descriptorIndex := 54, attributes := #[] }] 32 2 #[14] #[{ accessFlags := 26, nameIndex := 60, descriptorIndex := 61, attributes := #[] }, { accessFlags := 16, nameIndex := 11, descriptorIndex := 12, attributes := #[] }])
  fields := #[{ name := "serialVersionUID", type := .long, accessFlags := 26, slot := 0, constantValue := 0 }, { name := "list", type := (.object "java/util/List"), accessFlags := 16, slot := 1, constantValue := 0 }]
  methods := #[k18m0]
  instanceTypes := #[(.object "java/util/Collection"), (.object "java/util/List")]
  staticTypes := #[.long]
  resolved := Array.replicate 127 none
  mirror := some 3
  statics := none }

def pool19 : Array CpInfo := pool [(1, .methodref 2 3), (0, .class_ 4), (0, .nameAndType 5 6), (0, u "java/util/Collections$UnmodifiableList"), (0, u "<init>"), (0, u "(Ljava/util/List;)V"), (0, .class_ 8), (0, u "java/util/Collections$UnmodifiableRandomAccessList"), (11, .class_ 21), (0, u "java/util/RandomAccess"), (0, u "serialVersionUID"), (0, u "J"), (23, .class_ 48), (0, u "java/util/Collections")] 3

def k19c0 : Code := { maxStack := 2, maxLocals := 2, code := jdk_121_method_1_code, exceptionTable := #[], attributes := #[] }
def k19m0 : Method := { name := "<init>", desc := "(Ljava/util/List;)V", sig := { parameters := [(.object "java/util/List")], returnType := none }, accessFlags := 0, code := some k19c0 }
/-- java/util/Collections$UnmodifiableRandomAccessList -/
def k19 : Class := { plain "java/util/Collections$UnmodifiableRandomAccessList" (some 18) with
  accessFlags := 32
  interfaces := #[9]
  cf := some (fileOf pool19 7 #[.nestHost 47] #[{ accessFlags := 0, nameIndex := 5, descriptorIndex := 6, attributes := #[] }] 32 2 #[20] #[{ accessFlags := 26, nameIndex := 22, descriptorIndex := 23, attributes := #[] }])
  fields := #[{ name := "serialVersionUID", type := .long, accessFlags := 26, slot := 0, constantValue := 0 }]
  methods := #[k19m0]
  instanceTypes := #[(.object "java/util/Collection"), (.object "java/util/List")]
  staticTypes := #[.long]
  resolved := Array.replicate 52 none
  mirror := some 4
  statics := none }

def pool20 : Array CpInfo := pool [(1, u "java/lang/Class"), (0, .class_ 1), (0, u "java/lang/Object"), (0, .class_ 3)] 0

/-- java/lang/Class -/
def k20 : Class := { plain "java/lang/Class" (some 0) with
  accessFlags := 49
  interfaces := #[]
  cf := some (fileOf pool20 2 #[] #[] 49 4 #[] #[])
  fields := #[]
  methods := #[]
  instanceTypes := #[]
  staticTypes := #[]
  resolved := Array.replicate 5 none
  statics := none }

/-- the primitive byte -/
def k21 : Class := { plain "byte" none with kind := .primitive 'B', accessFlags := 0x411 }
/-- [B -/
def k22 : Class := { plain "[B" (some 0) with kind := .array 21 .byte, interfaces := #[10, 11], accessFlags := 1041 }

/-- the primitive int -/
def k23 : Class := { plain "int" none with kind := .primitive 'I', accessFlags := 0x411 }
/-- [I -/
def k24 : Class := { plain "[I" (some 0) with kind := .array 23 .int, interfaces := #[10, 11], accessFlags := 1041 }

/-- [Ljava/lang/Object; -/
def k25 : Class := { plain "[Ljava/lang/Object;" (some 0) with kind := .array 0 (.object "java/lang/Object"), interfaces := #[10, 11], accessFlags := 1041, mirror := some 1 }

def heap : Heap := #[{ cls := 12, slots := #[.long 0, .int 0, .ref 5, .ref 6], vm := .statics 12 },
  { cls := 20, slots := #[], vm := .mirror 25 },
  { cls := 20, slots := #[], vm := .mirror 12 },
  { cls := 20, slots := #[], vm := .mirror 18 },
  { cls := 20, slots := #[], vm := .mirror 19 },
  { cls := 25, slots := #[], vm := .none },
  { cls := 25, slots := #[], vm := .none }]
def classes : Array Class := #[k0, k1, k2, k3, k4, k5, k6, k7, k8, k9, k10, k11, k12, k13, k14, k15, k16, k17, k18, k19, k20, k21, k22, k23, k24, k25]
def interned : List (Array UInt16 × Addr) := []
def slotsUsed : Nat := 4
def theMethod : MethodId := ⟨1, 1⟩
def args0 : Array Value := #[.int 5, .int 6, .int 7, .int 8]
def aboutOver (below : List Frame) : State where
  vm := { classes := classes, interned := interned.toArray }
  heap := heap
  slotsUsed := slotsUsed
  threads := #[{ frames := .invoking theMethod args0 :: below }]
def below0 : List Frame := [.native { method := ⟨0, 0⟩, args := #[] }]
def about1 : State := aboutOver below0
def p0 : Program := .bare "" "" ""
def e0 : Env := launch0.env 0 0 0
theorem w_frames : about1.frames = Frame.invoking theMethod args0 :: below0 := rfl
set_option maxRecDepth 65536 in
theorem w_args : argsFit about1.vm theMethod args0 = true := by decide +kernel
set_option maxRecDepth 65536 in
theorem w_heap : heapFits about1 = true := by decide +kernel
set_option maxRecDepth 65536 in
theorem w_runnable : about1.curStatus? = some .runnable := by decide +kernel
set_option maxRecDepth 65536 in
theorem w_alone : about1.alone = true := by decide +kernel
set_option maxRecDepth 65536 in
theorem w_named : about1.methodNamed? x = some theMethod := by decide +kernel
set_option maxRecDepth 65536 in
theorem w_hears : about1.hears theMethod below0 = true := by decide +kernel
set_option maxRecDepth 65536 in
theorem w_ripe : about1.ripe theMethod args0 below0 = true := by decide +kernel
theorem w_running : about1.status = .running := rfl
set_option maxRecDepth 65536 in
theorem w_room : about1.hasRoom e0.platform room_1 = true :=
  launch0.hasRoom_least _ room_1 (by decide +kernel) (by decide +kernel) (by decide +kernel) (by decide +kernel) (by decide +kernel) (by decide +kernel)
theorem allAtoms_all (ts : List Jvm.Cond) (a : Array Jvm.Value) (st : Jvm.State) : (allAtoms ts).before a st = ts.all (fun c => c.before a st) := by
  induction ts with
  | nil => rfl
  | cons c t ih =>
    show (Jvm.Cond.and c (allAtoms t)).before a st = _
    rw [Jvm.Cond.before_and, ih, List.all_cons]
def words1 : List Jvm.Cond := Jvm.Cond.code x code maxLocals ret :: tables_1
/-- a 'code' word, met by the world's own term for the bytes: nothing is compared byte by byte -/
theorem code_word {y : MethodName} {bytes : ByteArray} {mx : Nat} {rt : Option FieldType} {a : Array Value} {s : State} {m : MethodId} {meth : Method} {c : Code} (h1 : s.methodNamed? y = some m) (h2 : s.vm.method? m = some meth) (h3 : meth.code = some c) (h4 : c.code = bytes)
    (h5 : (c.maxLocals == mx && c.exceptionTable.isEmpty && decide (c.maxStack ≤ mostOperands) && decide (meth.sig.returnType = rt) && !meth.locks && decide (parseMethodDescriptor y.desc = some meth.sig)) = true) : (Jvm.Cond.code y bytes mx rt).before a s = true := by
  simp only [Bool.and_eq_true, beq_iff_eq, Bool.not_eq_true', decide_eq_true_eq] at h5
  obtain ⟨⟨⟨⟨⟨g1, g2⟩, g3⟩, g4⟩, g5⟩, g6⟩ := h5
  simp [Cond.before, Cond.holds, Cond.value, h1, h2, h3, h4, g1, g2, g3, g4, g5, g6]
def isCode : Jvm.Cond → Bool
  | .code _ _ _ _ => true
  | _ => false
theorem all_split {L : List Jvm.Cond} {P : Jvm.Cond → Bool} (h1 : L.all (fun c => isCode c || P c) = true) (h2 : ∀ c ∈ L.filter isCode, P c = true) : L.all P = true := by
  refine List.all_eq_true.mpr fun c hc => ?_
  have h := List.all_eq_true.mp h1 c hc
  rcases Bool.eq_false_or_eq_true (isCode c) with hi | hi
  · exact h2 c (List.mem_filter.mpr ⟨hc, hi⟩)
  · simpa [hi] using h
set_option maxRecDepth 65536 in
theorem w_c0 : (Jvm.Cond.code x code maxLocals ret).before args0 about1 = true := code_word (m := ⟨1, 1⟩) (meth := k1m1) (c := k1c1) (by decide +kernel) rfl rfl rfl (by decide +kernel)
set_option maxRecDepth 65536 in
theorem w_c1 : (Jvm.Cond.code ({ cls := "java/util/ArrayList", name := "<init>", desc := "()V" } : Jvm.MethodName) jdk_38_method_2_code (1 : Nat) (Option.none : Option Jvm.ClassFile.FieldType)).before args0 about1 = true := code_word (m := ⟨12, 0⟩) (meth := k12m0) (c := k12c0) (by decide +kernel) rfl rfl rfl (by decide +kernel)
set_option maxRecDepth 65536 in
theorem w_c2 : (Jvm.Cond.code ({ cls := "java/util/AbstractList", name := "<init>", desc := "()V" } : Jvm.MethodName) jdk_39_method_1_code (1 : Nat) (Option.none : Option Jvm.ClassFile.FieldType)).before args0 about1 = true := code_word (m := ⟨8, 0⟩) (meth := k8m0) (c := k8c0) (by decide +kernel) rfl rfl rfl (by decide +kernel)
set_option maxRecDepth 65536 in
theorem w_c3 : (Jvm.Cond.code ({ cls := "java/util/AbstractCollection", name := "<init>", desc := "()V" } : Jvm.MethodName) jdk_22_method_1_code (1 : Nat) (Option.none : Option Jvm.ClassFile.FieldType)).before args0 about1 = true := code_word (m := ⟨5, 0⟩) (meth := k5m0) (c := k5c0) (by decide +kernel) rfl rfl rfl (by decide +kernel)
set_option maxRecDepth 65536 in
theorem w_c4 : (Jvm.Cond.code ({ cls := "java/lang/Object", name := "<init>", desc := "()V" } : Jvm.MethodName) object_method_1_code (1 : Nat) (Option.none : Option Jvm.ClassFile.FieldType)).before args0 about1 = true := code_word (m := ⟨0, 0⟩) (meth := k0m0) (c := k0c0) (by decide +kernel) rfl rfl rfl (by decide +kernel)
set_option maxRecDepth 65536 in
theorem w_c5 : (Jvm.Cond.code ({ cls := "com/example/vyasa/vyasa/Page", name := "<init>", desc := "(Ljava/util/List;JII)V" } : Jvm.MethodName) prog_22_method_1_code (6 : Nat) (Option.none : Option Jvm.ClassFile.FieldType)).before args0 about1 = true := code_word (m := ⟨2, 0⟩) (meth := k2m0) (c := k2c0) (by decide +kernel) rfl rfl rfl (by decide +kernel)
set_option maxRecDepth 65536 in
theorem w_c6 : (Jvm.Cond.code ({ cls := "java/util/ArrayList", name := "<init>", desc := "(Ljava/util/Collection;)V" } : Jvm.MethodName) jdk_38_method_3_code (3 : Nat) (Option.none : Option Jvm.ClassFile.FieldType)).before args0 about1 = true := code_word (m := ⟨12, 1⟩) (meth := k12m1) (c := k12c1) (by decide +kernel) rfl rfl rfl (by decide +kernel)
set_option maxRecDepth 65536 in
theorem w_c7 : (Jvm.Cond.code ({ cls := "java/util/ArrayList", name := "toArray", desc := "()[Ljava/lang/Object;" } : Jvm.MethodName) jdk_38_method_16_code (1 : Nat) (Option.some (Jvm.ClassFile.FieldType.array (Jvm.ClassFile.FieldType.object "java/lang/Object")))).before args0 about1 = true := code_word (m := ⟨12, 2⟩) (meth := k12m2) (c := k12c2) (by decide +kernel) rfl rfl rfl (by decide +kernel)
set_option maxRecDepth 65536 in
theorem w_c8 : (Jvm.Cond.code ({ cls := "java/util/Arrays", name := "copyOf", desc := "([Ljava/lang/Object;I)[Ljava/lang/Object;" } : Jvm.MethodName) jdk_65_method_119_code (2 : Nat) (Option.some (Jvm.ClassFile.FieldType.array (Jvm.ClassFile.FieldType.object "java/lang/Object")))).before args0 about1 = true := code_word (m := ⟨13, 1⟩) (meth := k13m1) (c := k13c1) (by decide +kernel) rfl rfl rfl (by decide +kernel)
set_option maxRecDepth 65536 in
theorem w_c9 : (Jvm.Cond.code ({ cls := "java/util/Arrays", name := "copyOf", desc := "([Ljava/lang/Object;ILjava/lang/Class;)[Ljava/lang/Object;" } : Jvm.MethodName) jdk_65_method_120_code (4 : Nat) (Option.some (Jvm.ClassFile.FieldType.array (Jvm.ClassFile.FieldType.object "java/lang/Object")))).before args0 about1 = true := code_word (m := ⟨13, 2⟩) (meth := k13m2) (c := k13c2) (by decide +kernel) rfl rfl rfl (by decide +kernel)
set_option maxRecDepth 65536 in
theorem w_c10 : (Jvm.Cond.code ({ cls := "java/lang/Math", name := "min", desc := "(II)I" } : Jvm.MethodName) jdk_29_method_69_code (2 : Nat) (Option.some Jvm.ClassFile.FieldType.int)).before args0 about1 = true := code_word (m := ⟨14, 2⟩) (meth := k14m2) (c := k14c2) (by decide +kernel) rfl rfl rfl (by decide +kernel)
set_option maxRecDepth 65536 in
theorem w_c11 : (Jvm.Cond.code ({ cls := "java/util/Collections", name := "unmodifiableList", desc := "(Ljava/util/List;)Ljava/util/List;" } : Jvm.MethodName) jdk_79_method_35_code (1 : Nat) (Option.some (Jvm.ClassFile.FieldType.object "java/util/List"))).before args0 about1 = true := code_word (m := ⟨16, 1⟩) (meth := k16m1) (c := k16c1) (by decide +kernel) rfl rfl rfl (by decide +kernel)
set_option maxRecDepth 65536 in
theorem w_c12 : (Jvm.Cond.code ({ cls := "java/util/Collections$UnmodifiableRandomAccessList", name := "<init>", desc := "(Ljava/util/List;)V" } : Jvm.MethodName) jdk_121_method_1_code (2 : Nat) (Option.none : Option Jvm.ClassFile.FieldType)).before args0 about1 = true := code_word (m := ⟨19, 0⟩) (meth := k19m0) (c := k19c0) (by decide +kernel) rfl rfl rfl (by decide +kernel)
set_option maxRecDepth 65536 in
theorem w_c13 : (Jvm.Cond.code ({ cls := "java/util/Collections$UnmodifiableList", name := "<init>", desc := "(Ljava/util/List;)V" } : Jvm.MethodName) jdk_120_method_1_code (2 : Nat) (Option.none : Option Jvm.ClassFile.FieldType)).before args0 about1 = true := code_word (m := ⟨18, 0⟩) (meth := k18m0) (c := k18c0) (by decide +kernel) rfl rfl rfl (by decide +kernel)
set_option maxRecDepth 65536 in
theorem w_c14 : (Jvm.Cond.code ({ cls := "java/util/Collections$UnmodifiableCollection", name := "<init>", desc := "(Ljava/util/Collection;)V" } : Jvm.MethodName) jdk_119_method_1_code (2 : Nat) (Option.none : Option Jvm.ClassFile.FieldType)).before args0 about1 = true := code_word (m := ⟨17, 0⟩) (meth := k17m0) (c := k17c0) (by decide +kernel) rfl rfl rfl (by decide +kernel)
set_option maxRecDepth 65536 in
theorem w_c15 : (Jvm.Cond.code ({ cls := "com/example/vyasa/vyasa/Page", name := "pageCount", desc := "()I" } : Jvm.MethodName) prog_22_method_4_code (3 : Nat) (Option.some Jvm.ClassFile.FieldType.int)).before args0 about1 = true := code_word (m := ⟨2, 1⟩) (meth := k2m1) (c := k2c1) (by decide +kernel) rfl rfl rfl (by decide +kernel)
set_option maxRecDepth 65536 in
theorem w_c16 : (Jvm.Cond.code ({ cls := "java/lang/Math", name := "toIntExact", desc := "(J)I" } : Jvm.MethodName) jdk_29_method_43_code (2 : Nat) (Option.some Jvm.ClassFile.FieldType.int)).before args0 about1 = true := code_word (m := ⟨14, 1⟩) (meth := k14m1) (c := k14c1) (by decide +kernel) rfl rfl rfl (by decide +kernel)
def codes1 : List Jvm.Cond := [Jvm.Cond.code x code maxLocals ret, Jvm.Cond.code ({ cls := "java/util/ArrayList", name := "<init>", desc := "()V" } : Jvm.MethodName) jdk_38_method_2_code (1 : Nat) (Option.none : Option Jvm.ClassFile.FieldType), Jvm.Cond.code ({ cls := "java/util/AbstractList", name := "<init>", desc := "()V" } : Jvm.MethodName) jdk_39_method_1_code (1 : Nat) (Option.none : Option Jvm.ClassFile.FieldType), Jvm.Cond.code ({ cls := "java/util/AbstractCollection", name := "<init>", desc := "()V" } : Jvm.MethodName) jdk_22_method_1_code (1 : Nat) (Option.none : Option Jvm.ClassFile.FieldType), Jvm.Cond.code ({ cls := "java/lang/Object", name := "<init>", desc := "()V" } : Jvm.MethodName) object_method_1_code (1 : Nat) (Option.none : Option Jvm.ClassFile.FieldType), Jvm.Cond.code ({ cls := "com/example/vyasa/vyasa/Page", name := "<init>", desc := "(Ljava/util/List;JII)V" } : Jvm.MethodName) prog_22_method_1_code (6 : Nat) (Option.none : Option Jvm.ClassFile.FieldType), Jvm.Cond.code ({ cls := "java/util/ArrayList", name := "<init>", desc := "(Ljava/util/Collection;)V" } : Jvm.MethodName) jdk_38_method_3_code (3 : Nat) (Option.none : Option Jvm.ClassFile.FieldType), Jvm.Cond.code ({ cls := "java/util/ArrayList", name := "toArray", desc := "()[Ljava/lang/Object;" } : Jvm.MethodName) jdk_38_method_16_code (1 : Nat) (Option.some (Jvm.ClassFile.FieldType.array (Jvm.ClassFile.FieldType.object "java/lang/Object"))), Jvm.Cond.code ({ cls := "java/util/Arrays", name := "copyOf", desc := "([Ljava/lang/Object;I)[Ljava/lang/Object;" } : Jvm.MethodName) jdk_65_method_119_code (2 : Nat) (Option.some (Jvm.ClassFile.FieldType.array (Jvm.ClassFile.FieldType.object "java/lang/Object"))), Jvm.Cond.code ({ cls := "java/util/Arrays", name := "copyOf", desc := "([Ljava/lang/Object;ILjava/lang/Class;)[Ljava/lang/Object;" } : Jvm.MethodName) jdk_65_method_120_code (4 : Nat) (Option.some (Jvm.ClassFile.FieldType.array (Jvm.ClassFile.FieldType.object "java/lang/Object"))), Jvm.Cond.code ({ cls := "java/lang/Math", name := "min", desc := "(II)I" } : Jvm.MethodName) jdk_29_method_69_code (2 : Nat) (Option.some Jvm.ClassFile.FieldType.int), Jvm.Cond.code ({ cls := "java/util/Collections", name := "unmodifiableList", desc := "(Ljava/util/List;)Ljava/util/List;" } : Jvm.MethodName) jdk_79_method_35_code (1 : Nat) (Option.some (Jvm.ClassFile.FieldType.object "java/util/List")), Jvm.Cond.code ({ cls := "java/util/Collections$UnmodifiableRandomAccessList", name := "<init>", desc := "(Ljava/util/List;)V" } : Jvm.MethodName) jdk_121_method_1_code (2 : Nat) (Option.none : Option Jvm.ClassFile.FieldType), Jvm.Cond.code ({ cls := "java/util/Collections$UnmodifiableList", name := "<init>", desc := "(Ljava/util/List;)V" } : Jvm.MethodName) jdk_120_method_1_code (2 : Nat) (Option.none : Option Jvm.ClassFile.FieldType), Jvm.Cond.code ({ cls := "java/util/Collections$UnmodifiableCollection", name := "<init>", desc := "(Ljava/util/Collection;)V" } : Jvm.MethodName) jdk_119_method_1_code (2 : Nat) (Option.none : Option Jvm.ClassFile.FieldType), Jvm.Cond.code ({ cls := "com/example/vyasa/vyasa/Page", name := "pageCount", desc := "()I" } : Jvm.MethodName) prog_22_method_4_code (3 : Nat) (Option.some Jvm.ClassFile.FieldType.int), Jvm.Cond.code ({ cls := "java/lang/Math", name := "toIntExact", desc := "(J)I" } : Jvm.MethodName) jdk_29_method_43_code (2 : Nat) (Option.some Jvm.ClassFile.FieldType.int)]
set_option maxRecDepth 65536 in
theorem codes_eq : words1.filter isCode = codes1 := rfl
theorem w_codes : ∀ c ∈ words1.filter isCode, c.before args0 about1 = true := by
  rw [codes_eq]
  intro c hc
  simp only [codes1, List.mem_cons, List.not_mem_nil, or_false] at hc
  rcases hc with rfl | rfl | rfl | rfl | rfl | rfl | rfl | rfl | rfl | rfl | rfl | rfl | rfl | rfl | rfl | rfl | rfl
  · exact w_c0
  · exact w_c1
  · exact w_c2
  · exact w_c3
  · exact w_c4
  · exact w_c5
  · exact w_c6
  · exact w_c7
  · exact w_c8
  · exact w_c9
  · exact w_c10
  · exact w_c11
  · exact w_c12
  · exact w_c13
  · exact w_c14
  · exact w_c15
  · exact w_c16
set_option maxRecDepth 65536 in
theorem w_t1 : (words1.take 24).all (fun c => isCode c || c.before args0 about1) = true := by decide +kernel
set_option maxRecDepth 65536 in
theorem w_t2 : ((words1.drop 24).take 24).all (fun c => isCode c || c.before args0 about1) = true := by decide +kernel
set_option maxRecDepth 65536 in
theorem w_t3 : (((words1.drop 24).drop 24).take 24).all (fun c => isCode c || c.before args0 about1) = true := by decide +kernel
set_option maxRecDepth 65536 in
theorem w_t4 : ((((words1.drop 24).drop 24).drop 24).take 24).all (fun c => isCode c || c.before args0 about1) = true := by decide +kernel
set_option maxRecDepth 65536 in
theorem w_t5 : (((((words1.drop 24).drop 24).drop 24).drop 24).take 24).all (fun c => isCode c || c.before args0 about1) = true := by decide +kernel
set_option maxRecDepth 65536 in
theorem w_t6 : (((((words1.drop 24).drop 24).drop 24).drop 24).drop 24).all (fun c => isCode c || c.before args0 about1) = true := by decide +kernel
theorem w_tables : (allAtoms (Jvm.Cond.code x code maxLocals ret :: tables_1)).before args0 about1 = true := by
  rw [allAtoms_all]
  show words1.all (fun c => c.before args0 about1) = true
  refine all_split ?_ w_codes
  rw [← List.take_append_drop 24 words1, List.all_append, w_t1, ← List.take_append_drop 24 (words1.drop 24), List.all_append, w_t2, ← List.take_append_drop 24 ((words1.drop 24).drop 24), List.all_append, w_t3, ← List.take_append_drop 24 (((words1.drop 24).drop 24).drop 24), List.all_append, w_t4, ← List.take_append_drop 24 ((((words1.drop 24).drop 24).drop 24).drop 24), List.all_append, w_t5, w_t6]
  rfl
set_option maxRecDepth 65536 in
theorem w_rest : rest_1_c.before args0 about1 = true := by decide +kernel
set_option maxRecDepth 65536 in
theorem w_case : (Jvm.Cond.and given_1 narrow_1).before args0 about1 = true := by decide +kernel
theorem w_applies : (headSpec (Jvm.Cond.code x code maxLocals ret :: tables_1) room_1).applies x e0.platform about1 = true :=
  (Spec.applies_iff w_frames).mpr ⟨w_running, w_runnable, w_alone, w_named, w_hears, w_ripe, w_room, w_tables⟩
theorem atStart : AtStart classFile x code maxLocals ret World_1 tables_1 room_1 Calls_1 rest_1 Pre_1 launch0 p0 e0 about1 theMethod args0 below0 :=
  ⟨lists_1, trivial, launch0.admits_env _ _ _, launch0.least_env, fairChoices_fair.cas, fairChoices_fair.clock, w_frames, w_args, w_heap, w_applies, ⟨⟨25, k25, 1, by decide +kernel, rfl, rfl, _, rfl, rfl⟩, ⟨⟨12, k12, 2, by decide +kernel, rfl, rfl, _, rfl, rfl⟩, ⟨⟨18, k18, 3, by decide +kernel, rfl, rfl, _, rfl, rfl⟩, ⟨⟨19, k19, 4, by decide +kernel, rfl, rfl, _, rfl, rfl⟩, trivial⟩⟩⟩⟩, w_rest, w_case⟩
end start1
theorem witness_1 : WitnessClaimed_1 := ⟨start1.p0, start1.e0, start1.about1, start1.theMethod, start1.args0, start1.below0, start1.atStart⟩
end Jvm.Pilot.@@N@@
