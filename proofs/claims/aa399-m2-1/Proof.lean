import JvmDerived
import JvmDerived.Pilot.@@N@@Statement
import JvmDerived.Pilot.@@N@@Code
set_option linter.unusedVariables false
set_option linter.unusedSimpArgs false
namespace Jvm.Pilot.@@N@@
open Jvm Jvm.ClassFile Sem Op Lib Jvm.Free Jvm.Stand Jvm.LawKit Jvm.RoadKit Bundle Jvm.Pilot.@@N@@.Jvm.D
section OwnGo
variable {p : Program} {l : Launch} {e : Env} {R : Room} {s : State} {m : MethodId} {args : Array Value} {below : List Frame} {meth : Method} {c : Code} {T : State} {locs : List Loc} {cells slots : Nat} {Q : Option Value → Heap → List Loc → Prop} {kc ks : Nat}
/-- from this state the body runs to its return, and Q holds of what it leaves -/
def own_Go (p : Program) (e : Env) (below : List Frame) (s : State) (Q : Option Value → Heap → List Loc → Prop) (kc ks : Nat) (S : State) : Prop :=
  ∃ s₂ o, Steps p.tables e below S s₂ ∧ s₂.status = .running ∧ Ended s₂ below o ∧ ∃ v L, o = .returned v ∧ Q v s₂.heap L ∧ FrameEnd s o s₂ L kc ks
theorem own_st {A B : State} (f : ∀ t, Steps p.tables e below A t → Steps p.tables e below B t) (h : own_Go p e below s Q kc ks A) : own_Go p e below s Q kc ks B := by
  obtain ⟨s₂, o, h1, h2⟩ := h
  exact ⟨s₂, o, f _ h1, h2⟩
theorem own_mono {S : State} {Q' : Option Value → Heap → List Loc → Prop} (h : own_Go p e below s Q kc ks S) (f : ∀ v h L, Q v h L → Q' v h L) : own_Go p e below s Q' kc ks S := by
  obtain ⟨s₂, o, h1, h2, h3, v, L, h4, h5, h6⟩ := h
  exact ⟨s₂, o, h1, h2, h3, v, L, h4, f _ _ _ h5, h6⟩
theorem own_retN (X : Stand p l e R s m args below meth c T locs cells slots) (hx : p.tables.exec = Jvm.exec) (hlk : meth.locks = false) {pc : Nat} {Ls : Array Slot} {z : Int32} {t : FieldType} {rest : List Value} (hret : meth.sig.returnType = some t) (ht : t = .boolean ∨ t = .byte ∨ t = .char ∨ t = .short)
    (hd : decode c.code pc = .ok (.ireturn, 1)) (hq : Q (some (.int (nar t z))) T.heap locs) (hc : cells ≤ kc) (hs : slots ≤ ks) : own_Go p e below s Q kc ks (T.setTop (mkF m pc Ls (.int z :: rest))) := by
  obtain ⟨fs, hr, hrun, hended, hW, hsame⟩ := X.leave (v := some (.int (nar t z))) (fun h => by rw [hret] at h; cases h) hlk
  exact ⟨_, _, retN X hx hret ht hd hr, hrun, hended, _, _, rfl, hq, ⟨_, rfl⟩, hW, hsame.mono hc hs⟩
theorem own_retI (X : Stand p l e R s m args below meth c T locs cells slots) (hx : p.tables.exec = Jvm.exec) (hlk : meth.locks = false) {pc : Nat} {Ls : Array Slot} {z : Int32} {rest : List Value} (hret : meth.sig.returnType = some .int)
    (hd : decode c.code pc = .ok (.ireturn, 1)) (hq : Q (some (.int z)) T.heap locs) (hc : cells ≤ kc) (hs : slots ≤ ks) : own_Go p e below s Q kc ks (T.setTop (mkF m pc Ls (.int z :: rest))) := by
  obtain ⟨fs, hr, hrun, hended, hW, hsame⟩ := X.leave (v := some (.int z)) (fun h => by rw [hret] at h; cases h) hlk
  exact ⟨_, _, retOut X hx hret rfl (Or.inl ⟨rfl, Or.inl rfl, z, rfl⟩) hd hr, hrun, hended, _, _, rfl, hq, ⟨_, rfl⟩, hW, hsame.mono hc hs⟩
theorem own_retJ (X : Stand p l e R s m args below meth c T locs cells slots) (hx : p.tables.exec = Jvm.exec) (hlk : meth.locks = false) {pc : Nat} {Ls : Array Slot} {z : Int64} {rest : List Value} (hret : meth.sig.returnType = some .long)
    (hd : decode c.code pc = .ok (.lreturn, 1)) (hq : Q (some (.long z)) T.heap locs) (hc : cells ≤ kc) (hs : slots ≤ ks) : own_Go p e below s Q kc ks (T.setTop (mkF m pc Ls (.long z :: rest))) := by
  obtain ⟨fs, hr, hrun, hended, hW, hsame⟩ := X.leave (v := some (.long z)) (fun h => by rw [hret] at h; cases h) hlk
  exact ⟨_, _, retOut X hx hret rfl (Or.inr (Or.inl ⟨rfl, rfl, z, rfl⟩)) hd hr, hrun, hended, _, _, rfl, hq, ⟨_, rfl⟩, hW, hsame.mono hc hs⟩
theorem own_retA (X : Stand p l e R s m args below meth c T locs cells slots) (hx : p.tables.exec = Jvm.exec) (hlk : meth.locks = false) {pc : Nat} {Ls : Array Slot} {w : Value} {t : FieldType} {rest : List Value} (hret : meth.sig.returnType = some t) (ht : t.isReference = true) (hw : w.isRef = true)
    (hd : decode c.code pc = .ok (.areturn, 1)) (hq : Q (some w) T.heap locs) (hc : cells ≤ kc) (hs : slots ≤ ks) : own_Go p e below s Q kc ks (T.setTop (mkF m pc Ls (w :: rest))) := by
  obtain ⟨fs, hr, hrun, hended, hW, hsame⟩ := X.leave (v := some w) (fun h => by rw [hret] at h; cases h) hlk
  exact ⟨_, _, retOut X hx hret (by rcases ref_cases hw with rfl | ⟨a, rfl⟩ <;> cases t <;> first | rfl | cases ht) (Or.inr (Or.inr (Or.inr (Or.inr ⟨rfl, ht, hw⟩)))) hd hr, hrun, hended, _, _, rfl, hq, ⟨_, rfl⟩, hW, hsame.mono hc hs⟩
theorem own_retV (X : Stand p l e R s m args below meth c T locs cells slots) (hx : p.tables.exec = Jvm.exec) (hlk : meth.locks = false) {pc : Nat} {Ls : Array Slot} (hret : meth.sig.returnType = none)
    (hd : decode c.code pc = .ok (.return_, 1)) (hq : Q none T.heap locs) (hc : cells ≤ kc) (hs : slots ≤ ks) : own_Go p e below s Q kc ks (T.setTop (mkF m pc Ls [])) := by
  obtain ⟨fs, hr, hrun, hended, hW, hsame⟩ := X.leave (v := none) (fun _ => rfl) hlk
  exact ⟨_, _, X.returnOut hx hret hd hr, hrun, hended, _, _, rfl, hq, ⟨_, rfl⟩, hW, hsame.mono hc hs⟩
end OwnGo
section OwnWords
variable {args : Array Value} {s : State} {t i : Term} {a b : Addr} {C n d : String} {k : Int32} {cl : Cell} {ty : FieldType}
theorem own_fldI (ev : t.eval args s none [] s = some (.ref a)) (h : (Jvm.Cond.eq (Term.field t C n d) (Term.int k)).value args s none s [] = some true) : Fld s s.heap a C n d (.int k) := by
  have e1 := fld_at (C := C) (n := n) (dd := d) ev
  have e2 := Term.int_eval (args := args) (first := s) (o := none) (idx := []) (s := s) k
  refine Fld.start ?_
  cases hv : s.fieldOf? a C n d with
  | none => rw [hv] at e1; simp [Jvm.Cond.value, e1] at h
  | some v => rw [hv] at e1; cases v <;> simp [Jvm.Cond.value, e1, e2] at h; rw [h]
theorem own_len (ev : t.eval args s none [] s = some (.ref a)) (A : Arr s s.heap a cl ty) (h : (Jvm.Cond.eq (Term.length t) (Term.int k)).value args s none s [] = some true) : cl.slots.size < 2 ^ 31 ∧ cl.slots.size.toInt32 = k := by
  have e2 := Term.int_eval (args := args) (first := s) (o := none) (idx := []) (s := s) k
  have e0 := A.fin (Vm.Alike.refl _)
  by_cases hl : cl.slots.size < 2 ^ 31
  · have e1 := len_f ev e0 hl
    simp [Jvm.Cond.value, e1, e2] at h
    exact ⟨hl, h⟩
  · have e1 : (Term.length t).eval args s none [] s = none := by simp [Term.eval, ev, e0]; omega
    simp [Jvm.Cond.value, e1] at h
theorem own_elem {v : Value} (ev : t.eval args s none [] s = some (.ref a)) (A : Arr s s.heap a cl ty) {u : Term} (eu : u.eval args s none [] s = some v) (hv : v.isRef = true) (h : (Jvm.Cond.eq (Term.elem t (Term.int k)) u).value args s none s [] = some true) : cl.slots[k.toNatClampNeg]? = some v := by
  have e2 := Term.int_eval (args := args) (first := s) (o := none) (idx := []) (s := s) k
  obtain ⟨x, y, hx, hy, -, -⟩ := cmp_v (Or.inl h)
  cases eu.symm.trans hy
  obtain ⟨-, q⟩ := elem_in hx ev e2 A.1
  have hk : x.isRef = true := by
    cases x <;> rcases ref_cases hv with rfl | ⟨z, rfl⟩ <;> simp [Jvm.Cond.value, hx, hy] at h ⊢ <;> rfl
  rw [q, gotT (eq_R hx hy hk hv) h]
theorem own_elemR (ev : t.eval args s none [] s = some (.ref a)) (A : Arr s s.heap a cl ty) {u : Term} (eu : u.eval args s none [] s = some (.ref b)) (h : (Jvm.Cond.eq (Term.elem t (Term.int k)) u).value args s none s [] = some true) : cl.slots[k.toNatClampNeg]? = some (.ref b) := own_elem ev A eu rfl h
theorem own_elemN (ev : t.eval args s none [] s = some (.ref a)) (A : Arr s s.heap a cl ty) (h : (Jvm.Cond.eq (Term.elem t (Term.int k)) .null).value args s none s [] = some true) : cl.slots[k.toNatClampNeg]? = some .null := own_elem ev A null_at rfl h
end OwnWords
section OwnMore
theorem own_privSel {s : State} {args : Array Value} {y z z' : MethodName} {C : String} (hs : (Jvm.Cond.selects C z' z).before args s = true) (e : z.cls = y.cls) (hpriv : s.PrivateAt y) (hinst : (Jvm.Cond.instanceMethod y).before args s = true) (hy : y.cls ≠ "java/lang/invoke/MethodHandle" ∧ y.cls ≠ "java/lang/invoke/VarHandle") : (Jvm.Cond.selects y.cls y y).before args s = true := by
  obtain ⟨c, r, m, -, -, h3, -, mk, h5, h6⟩ := Cond.selects_spec hs
  exact selects_self_of_private (e ▸ findClass_of_methodNamed h3) h5 h6 hpriv hinst hy
theorem own_nar_boolean {x : Int32} (h : nar .boolean x = x) : narrow .boolean (.int x) = .int x := congrArg Value.int h
theorem own_fits_boolean {x : Int32} (h : nar .boolean x = x) : fits .boolean (.int x) = true := h ▸ fits_nar_bool x
theorem own_nar_char {x : Int32} (h : nar .char x = x) : narrow .char (.int x) = .int x := congrArg Value.int h
theorem own_fits_char {x : Int32} (h : nar .char x = x) : fits .char (.int x) = true := h ▸ fits_nar_char x
theorem own_nar_ref {v : Value} {C : String} (h : v.isRef = true) : narrow (.object C) v = v := by rcases ref_cases h with rfl | ⟨a, rfl⟩ <;> rfl
theorem own_fits_ref {v : Value} {C : String} (h : v.isRef = true) : fits (.object C) v = true := by rcases ref_cases h with rfl | ⟨a, rfl⟩ <;> rfl
theorem own_c1 {v : Value} (h : v.isRef = true) : v.category = 1 := by rcases ref_cases h with rfl | ⟨a, rfl⟩ <;> rfl
theorem own_ext_of_keep {h h' : Heap} (K : Keep h h' []) : Ext h h' := ⟨K.1, fun a c q => K.2.1 a c q nin0⟩
theorem own_ext_refl (h : Heap) : Ext h h := ⟨Nat.le_refl _, fun _ _ q => q⟩
theorem own_ext_trans {h h' h'' : Heap} (E : Ext h h') (E' : Ext h' h'') : Ext h h'' := ⟨Nat.le_trans E.1 E'.1, fun a c q => E'.2 a c (E.2 a c q)⟩
end OwnMore
def QLaw (n0 : Nat) (v : Option Value) (h : Heap) (L : List Loc) : Prop := v = some (.int 1) ∧ Fr n0 L
def Opt (Z : State) (h : Heap) (a : Addr) (p i : Int32) : Prop := Exa Z h a "java/util/OptionalInt" ∧ Fld Z h a "java/util/OptionalInt" "isPresent" "Z" (.int p) ∧ Fld Z h a "java/util/OptionalInt" "value" "I" (.int i) ∧ nar .boolean p = p
def Bxi (Z : State) (h : Heap) (a : Addr) (i : Int32) : Prop := Exa Z h a "java/lang/Integer" ∧ Fld Z h a "java/lang/Integer" "value" "I" (.int i)
def Lim (Z : State) (h : Heap) (a : Addr) (p i q j : Int32) : Prop := ∃ o1 o2, Exa Z h a "com/example/gleanwork/gleanwork/server/OwnLimits" ∧ Fld Z h a "com/example/gleanwork/gleanwork/server/OwnLimits" "maxRunSeconds" "Ljava/util/OptionalInt;" (.ref o1) ∧ Fld Z h a "com/example/gleanwork/gleanwork/server/OwnLimits" "maxFailures" "Ljava/util/OptionalInt;" (.ref o2) ∧ Opt Z h o1 p i ∧ Opt Z h o2 q j
def Jb (Z : State) (h : Heap) (a : Addr) (r f : Int32) : Prop := Exa Z h a "com/example/gleanwork/gleanwork/server/Job" ∧ Fld Z h a "com/example/gleanwork/gleanwork/server/Job" "ownMaxRunSeconds" "I" (.int r) ∧ Fld Z h a "com/example/gleanwork/gleanwork/server/Job" "ownMaxFailures" "I" (.int f)
def Bx (Z : State) (h : Heap) (b : Int32) (w : Value) (k : Int32) : Prop := (b = 0 ∧ w = .null) ∨ (b = 1 ∧ ∃ a i, w = .ref a ∧ Bxi Z h a i ∧ ¬ i < k)
section OwnObj
variable {Z : State} {h h' : Heap} {a b : Addr} {p i q j r f : Int32} {ws : List Addr} {sl : Nat} {v w : Value}
theorem own_Opt_ext (o : Opt Z h a p i) (E : Ext h h') : Opt Z h' a p i := ⟨o.1.ext E, o.2.1.ext E, o.2.2.1.ext E, o.2.2.2⟩
theorem own_Opt_keep (o : Opt Z h a p i) (K : Keep h h' ws) (n : a ∉ ws) : Opt Z h' a p i := ⟨o.1.keep K, o.2.1.keep K n, o.2.2.1.keep K n, o.2.2.2⟩
theorem own_Opt_wr (o : Opt Z h a p i) (W : Wr h h' b sl v) (n : a ≠ b) : Opt Z h' a p i := ⟨o.1.wr W, o.2.1.other W (Or.inl n), o.2.2.1.other W (Or.inl n), o.2.2.2⟩
theorem own_Bxi_ext (o : Bxi Z h a i) (E : Ext h h') : Bxi Z h' a i := ⟨o.1.ext E, o.2.ext E⟩
theorem own_Lim_ext (o : Lim Z h a p i q j) (E : Ext h h') : Lim Z h' a p i q j := by
  obtain ⟨o1, o2, x1, x2, x3, x4, x5⟩ := o
  exact ⟨o1, o2, x1.ext E, x2.ext E, x3.ext E, own_Opt_ext x4 E, own_Opt_ext x5 E⟩
theorem own_Lim_keep (o : Lim Z h a p i q j) (K : Keep h h' [b]) (G : Exa Z h b "com/example/gleanwork/gleanwork/server/Job") : Lim Z h' a p i q j := by
  obtain ⟨o1, o2, x1, x2, x3, x4, x5⟩ := o
  have n1 : a ∉ [b] := ninS (Exa.ne x1 G (by decide)) nin0
  exact ⟨o1, o2, x1.keep K, x2.keep K n1, x3.keep K n1, own_Opt_keep x4 K (ninS (Exa.ne x4.1 G (by decide)) nin0), own_Opt_keep x5 K (ninS (Exa.ne x5.1 G (by decide)) nin0)⟩
theorem own_Lim_exa (o : Lim Z h a p i q j) : Exa Z h a "com/example/gleanwork/gleanwork/server/OwnLimits" := by
  obtain ⟨o1, o2, x1, -⟩ := o
  exact x1
theorem own_Jb_ext (o : Jb Z h a r f) (E : Ext h h') : Jb Z h' a r f := ⟨o.1.ext E, o.2.1.ext E, o.2.2.ext E⟩
theorem own_Bx_ext {k : Int32} (o : Bx Z h p w k) (E : Ext h h') : Bx Z h' p w k := by
  rcases o with o | ⟨o, a, i, x1, x2, x3⟩
  · exact Or.inl o
  · exact Or.inr ⟨o, a, i, x1, own_Bxi_ext x2 E, x3⟩
end OwnObj
def Q0 (h0 : Heap) (n0 : Nat) (v : Option Value) (h : Heap) (L : List Loc) : Prop := v = none ∧ Fr n0 L ∧ h = h0
def Qw (w : Value) (h0 : Heap) (n0 : Nat) (v : Option Value) (h : Heap) (L : List Loc) : Prop := v = some w ∧ Fr n0 L ∧ h = h0
def Qm (h0 : Heap) (n0 : Nat) (v : Option Value) (h : Heap) (L : List Loc) : Prop := ∃ r : Int32, v = some (.int r) ∧ Fr n0 L ∧ h = h0 ∧ ¬ r < 1
def QiI (Z : State) (a : Addr) (i : Int32) (h0 : Heap) (n0 : Nat) (v : Option Value) (h : Heap) (L : List Loc) : Prop := v = none ∧ Fr n0 L ∧ Keep h0 h [a] ∧ Bxi Z h a i
def QiO (Z : State) (a : Addr) (i : Int32) (h0 : Heap) (n0 : Nat) (v : Option Value) (h : Heap) (L : List Loc) : Prop := v = none ∧ Fr n0 L ∧ Keep h0 h [a] ∧ Opt Z h a 1 i
def QiL (Z : State) (a o1 o2 : Addr) (h0 : Heap) (n0 : Nat) (v : Option Value) (h : Heap) (L : List Loc) : Prop := v = none ∧ Fr n0 L ∧ Keep h0 h [a] ∧ Exa Z h a "com/example/gleanwork/gleanwork/server/OwnLimits" ∧ Fld Z h a "com/example/gleanwork/gleanwork/server/OwnLimits" "maxRunSeconds" "Ljava/util/OptionalInt;" (.ref o1) ∧ Fld Z h a "com/example/gleanwork/gleanwork/server/OwnLimits" "maxFailures" "Ljava/util/OptionalInt;" (.ref o2)
def QJ (Z : State) (a : Addr) (r f : Int32) (h0 : Heap) (n0 : Nat) (v : Option Value) (h : Heap) (L : List Loc) : Prop := v = none ∧ Fr n0 L ∧ Keep h0 h [a] ∧ Jb Z h a r f
def Qbox (Z : State) (i : Int32) (h0 : Heap) (n0 : Nat) (v : Option Value) (h : Heap) (L : List Loc) : Prop := ∃ b, v = some (.ref b) ∧ Fr n0 L ∧ Ext h0 h ∧ Bxi Z h b i
def Qopt (Z : State) (p : Int32) (k : Int32) (h0 : Heap) (n0 : Nat) (v : Option Value) (h : Heap) (L : List Loc) : Prop := ∃ b i, v = some (.ref b) ∧ Fr n0 L ∧ Ext h0 h ∧ Opt Z h b p i ∧ (¬ p = 0 → ¬ i < k)
def Qlim (Z : State) (p q : Int32) (h0 : Heap) (n0 : Nat) (v : Option Value) (h : Heap) (L : List Loc) : Prop := ∃ b i j, v = some (.ref b) ∧ Fr n0 L ∧ Ext h0 h ∧ Lim Z h b p i q j ∧ (¬ p = 0 → ¬ i < 0) ∧ (¬ q = 0 → ¬ j < 1)
theorem d7_0 : decode jdk_30_method_1_code 0 = .ok (.aload_n 0, 1) := by decide +kernel
theorem d7_1 : decode jdk_30_method_1_code 1 = .ok (.invokespecial 1, 3) := by decide +kernel
theorem d7_4 : decode jdk_30_method_1_code 4 = .ok (.return_, 1) := by decide +kernel
theorem pn_java_2flang_2fRecord : plainName "java/lang/Record" = true := by first | (simp [plainName, overriddenIn]; done) | decide +kernel
theorem ef_rmRec (mM : MethodId) (a : Addr) : entryFrame mM #[(.ref a)] 1 = mkF mM 0 #[.val (.ref a)] [] := by first | (simp [entryFrame, mkF, argsToLocals, Value.category]; done) | rfl
set_option maxRecDepth 65536 in
set_option maxHeartbeats 40000000 in
theorem rmRec (lL : Launch) (Z : State) (a0 : Array Value) (hw : ∀ d ∈ tables_1, d.before a0 Z = true) (ws : List Jvm.Cond) (a : Addr) (h0 : Heap) (n0 : Nat)  :
    MetFree lL (⟨"java/lang/Record", "<init>", "()V"⟩ : MethodName) (head1 (Jvm.Cond.code (⟨"java/lang/Record", "<init>", "()V"⟩ : MethodName) jdk_30_method_1_code 1 none :: ws) ({ frames := 1, cells := 0, slots := 0, locals := 12 } : Room)) (fun as_ uU_ => as_ = #[(.ref a)] ∧ Z.Warmed39 uU_.vm ∧ uU_.heap = h0) (fun _ _ _ _ _ => True) (fun _ uU_ oO_ uE_ => ∃ vV_ lL_, oO_ = .returned vV_ ∧ Q0 h0 n0 vV_ uE_.heap lL_ ∧ FrameEnd uU_ oO_ uE_ lL_ ({ frames := 1, cells := 0, slots := 0, locals := 12 } : Room).cells ({ frames := 1, cells := 0, slots := 0, locals := 12 } : Room).slots) := by
  refine MetFree.of_bodySF (plainFor_of_name pn_java_2flang_2fRecord) hisR ?_
  intro pP eE sS mM args below meth cC s₁ Bd hml0 hP hK
  obtain ⟨rfl, hZ, hh⟩ := hP
  have hx := Bd.exec
  have hby := Bd.bytes
  have hml : cC.maxLocals = 1 := hml0
  have hown : sS.vm.findClass "java/lang/Record" = some mM.cls := findClass_of_methodNamed Bd.named
  have hnm := (name_of_methodNamed Bd.named Bd.method).1
  have hret := Bd.returns
  have hlk := BodyLoose.notSynchronized Bd
  have X0 : Stand pP lL eE ({ frames := 1, cells := 0, slots := 0, locals := 12 } : Room) sS mM #[(.ref a)] below meth cC s₁ [] 0 0 := Stand.of_body Bd
  have e0 : s₁.heap = h0 := by rw [← hh, Bd.state]; rfl
  have N0 := Fr.nil n0
  show own_Go pP eE below sS (Q0 h0 n0) 0 0 (s₁.setTop (entryFrame mM #[(.ref a)] 1))
  refine own_st (A := s₁.setTop (mkF mM 0 #[.val (.ref a)] [])) (fun tT_ kK_ => castTop (ef_rmRec mM a) kK_) ?_
  refine own_st (A := s₁.setTop (mkF mM 1 #[.val (.ref a)] [(.ref a)])) (fun tT_ kK_ => XS.aloadN X0.here hx rfl (hb hby d7_0) rfl rfl kK_) ?_
  obtain ⟨T1, X1, e1, st1⟩ := initO X0 hx hZ hown (hw _ (List.mem_of_getElem? (i := 51) rfl)) (hw _ (List.mem_of_getElem? (i := 7) rfl)) (hw _ (List.mem_of_getElem? (i := 8) rfl)) e0 (g := (mkF mM 1 #[.val (.ref a)] [(.ref a)])) rfl (by rw [hml]; rfl) rfl (hb hby d7_1) (by decide) (W := 0) (by show 2 * 0 + _ ≤ _; exact Nat.le_of_eq rfl) (by decide)
  refine own_st (A := T1.setTop (mkF mM 4 #[.val (.ref a)] [])) (fun tT_ kK_ => st1 tT_ kK_) ?_
  exact own_retV X1 hx hlk hret (hb hby d7_4) ⟨rfl, N0, e1⟩ (by decide) (by decide)
theorem d24_0 : decode jdk_18_method_1_code 0 = .ok (.aload_n 0, 1) := by decide +kernel
theorem d24_1 : decode jdk_18_method_1_code 1 = .ok (.invokespecial 1, 3) := by decide +kernel
theorem d24_4 : decode jdk_18_method_1_code 4 = .ok (.return_, 1) := by decide +kernel
theorem pn_java_2flang_2fNumber : plainName "java/lang/Number" = true := by first | (simp [plainName, overriddenIn]; done) | decide +kernel
theorem ef_rmNum (mM : MethodId) (a : Addr) : entryFrame mM #[(.ref a)] 1 = mkF mM 0 #[.val (.ref a)] [] := by first | (simp [entryFrame, mkF, argsToLocals, Value.category]; done) | rfl
set_option maxRecDepth 65536 in
set_option maxHeartbeats 40000000 in
theorem rmNum (lL : Launch) (Z : State) (a0 : Array Value) (hw : ∀ d ∈ tables_1, d.before a0 Z = true) (ws : List Jvm.Cond) (a : Addr) (h0 : Heap) (n0 : Nat)  :
    MetFree lL (⟨"java/lang/Number", "<init>", "()V"⟩ : MethodName) (head1 (Jvm.Cond.code (⟨"java/lang/Number", "<init>", "()V"⟩ : MethodName) jdk_18_method_1_code 1 none :: ws) ({ frames := 1, cells := 0, slots := 0, locals := 12 } : Room)) (fun as_ uU_ => as_ = #[(.ref a)] ∧ Z.Warmed39 uU_.vm ∧ uU_.heap = h0) (fun _ _ _ _ _ => True) (fun _ uU_ oO_ uE_ => ∃ vV_ lL_, oO_ = .returned vV_ ∧ Q0 h0 n0 vV_ uE_.heap lL_ ∧ FrameEnd uU_ oO_ uE_ lL_ ({ frames := 1, cells := 0, slots := 0, locals := 12 } : Room).cells ({ frames := 1, cells := 0, slots := 0, locals := 12 } : Room).slots) := by
  refine MetFree.of_bodySF (plainFor_of_name pn_java_2flang_2fNumber) hisR ?_
  intro pP eE sS mM args below meth cC s₁ Bd hml0 hP hK
  obtain ⟨rfl, hZ, hh⟩ := hP
  have hx := Bd.exec
  have hby := Bd.bytes
  have hml : cC.maxLocals = 1 := hml0
  have hown : sS.vm.findClass "java/lang/Number" = some mM.cls := findClass_of_methodNamed Bd.named
  have hnm := (name_of_methodNamed Bd.named Bd.method).1
  have hret := Bd.returns
  have hlk := BodyLoose.notSynchronized Bd
  have X0 : Stand pP lL eE ({ frames := 1, cells := 0, slots := 0, locals := 12 } : Room) sS mM #[(.ref a)] below meth cC s₁ [] 0 0 := Stand.of_body Bd
  have e0 : s₁.heap = h0 := by rw [← hh, Bd.state]; rfl
  have N0 := Fr.nil n0
  show own_Go pP eE below sS (Q0 h0 n0) 0 0 (s₁.setTop (entryFrame mM #[(.ref a)] 1))
  refine own_st (A := s₁.setTop (mkF mM 0 #[.val (.ref a)] [])) (fun tT_ kK_ => castTop (ef_rmNum mM a) kK_) ?_
  refine own_st (A := s₁.setTop (mkF mM 1 #[.val (.ref a)] [(.ref a)])) (fun tT_ kK_ => XS.aloadN X0.here hx rfl (hb hby d24_0) rfl rfl kK_) ?_
  obtain ⟨T2, X2, e2, st2⟩ := initO X0 hx hZ hown (hw _ (List.mem_of_getElem? (i := 147) rfl)) (hw _ (List.mem_of_getElem? (i := 7) rfl)) (hw _ (List.mem_of_getElem? (i := 8) rfl)) e0 (g := (mkF mM 1 #[.val (.ref a)] [(.ref a)])) rfl (by rw [hml]; rfl) rfl (hb hby d24_1) (by decide) (W := 0) (by show 2 * 0 + _ ≤ _; exact Nat.le_of_eq rfl) (by decide)
  refine own_st (A := T2.setTop (mkF mM 4 #[.val (.ref a)] [])) (fun tT_ kK_ => st2 tT_ kK_) ?_
  exact own_retV X2 hx hlk hret (hb hby d24_4) ⟨rfl, N0, e2⟩ (by decide) (by decide)
theorem d23_0 : decode jdk_33_method_23_code 0 = .ok (.aload_n 0, 1) := by decide +kernel
theorem d23_1 : decode jdk_33_method_23_code 1 = .ok (.invokespecial 202, 3) := by decide +kernel
theorem pd__28_29V : parseMethodDescriptor "()V" = some ⟨[], none⟩ := by decide +kernel
theorem d23_4 : decode jdk_33_method_23_code 4 = .ok (.aload_n 0, 1) := by decide +kernel
theorem d23_5 : decode jdk_33_method_23_code 5 = .ok (.iload_n 1, 1) := by decide +kernel
theorem d23_6 : decode jdk_33_method_23_code 6 = .ok (.putfield 205, 3) := by decide +kernel
theorem d23_9 : decode jdk_33_method_23_code 9 = .ok (.return_, 1) := by decide +kernel
theorem pn_java_2flang_2fInteger : plainName "java/lang/Integer" = true := by first | (simp [plainName, overriddenIn]; done) | decide +kernel
theorem ef_rmII (mM : MethodId) (a : Addr) (i : Int32) : entryFrame mM #[(.ref a), (.int i)] 2 = mkF mM 0 #[.val (.ref a), .val (.int i)] [] := by first | (simp [entryFrame, mkF, argsToLocals, Value.category]; done) | rfl
set_option maxRecDepth 65536 in
set_option maxHeartbeats 40000000 in
theorem rmII (lL : Launch) (Z : State) (a0 : Array Value) (hw : ∀ d ∈ tables_1, d.before a0 Z = true) (ws : List Jvm.Cond) (a : Addr) (i : Int32) (h0 : Heap) (n0 : Nat) (g_a : n0 ≤ a) (E_a : Exa Z h0 a "java/lang/Integer") (F_a_value : Fld Z h0 a "java/lang/Integer" "value" "I" (.int (0 : Int32))) :
    MetFree lL (⟨"java/lang/Integer", "<init>", "(I)V"⟩ : MethodName) (head1 (Jvm.Cond.code (⟨"java/lang/Integer", "<init>", "(I)V"⟩ : MethodName) jdk_33_method_23_code 2 none :: ws) ({ frames := 2, cells := 0, slots := 0, locals := 24 } : Room)) (fun as_ uU_ => as_ = #[(.ref a), (.int i)] ∧ Z.Warmed39 uU_.vm ∧ uU_.heap = h0) (fun _ _ _ _ _ => True) (fun _ uU_ oO_ uE_ => ∃ vV_ lL_, oO_ = .returned vV_ ∧ QiI Z a i h0 n0 vV_ uE_.heap lL_ ∧ FrameEnd uU_ oO_ uE_ lL_ ({ frames := 2, cells := 0, slots := 0, locals := 24 } : Room).cells ({ frames := 2, cells := 0, slots := 0, locals := 24 } : Room).slots) := by
  refine MetFree.of_bodySF (plainFor_of_name pn_java_2flang_2fInteger) hisR ?_
  intro pP eE sS mM args below meth cC s₁ Bd hml0 hP hK
  obtain ⟨rfl, hZ, hh⟩ := hP
  have hx := Bd.exec
  have hby := Bd.bytes
  have hml : cC.maxLocals = 2 := hml0
  have hown : sS.vm.findClass "java/lang/Integer" = some mM.cls := findClass_of_methodNamed Bd.named
  have hnm := (name_of_methodNamed Bd.named Bd.method).1
  have hret := Bd.returns
  have hlk := BodyLoose.notSynchronized Bd
  have X0 : Stand pP lL eE ({ frames := 2, cells := 0, slots := 0, locals := 24 } : Room) sS mM #[(.ref a), (.int i)] below meth cC s₁ [] 0 0 := Stand.of_body Bd
  have e0 : s₁.heap = h0 := by rw [← hh, Bd.state]; rfl
  have N0 := Fr.nil n0
  show own_Go pP eE below sS (QiI Z a i h0 n0) 0 0 (s₁.setTop (entryFrame mM #[(.ref a), (.int i)] 2))
  refine own_st (A := s₁.setTop (mkF mM 0 #[.val (.ref a), .val (.int i)] [])) (fun tT_ kK_ => castTop (ef_rmII mM a i) kK_) ?_
  have Kp := Keep.refl h0 [a]
  refine own_st (A := s₁.setTop (mkF mM 1 #[.val (.ref a), .val (.int i)] [(.ref a)])) (fun tT_ kK_ => XS.aloadN X0.here hx rfl (hb hby d23_0) rfl rfl kK_) ?_
  obtain ⟨_, _, ⟨T3, L3, k3, n3⟩, -, X3, ⟨Lc3, hQ3, l3, y3, z3⟩, st3⟩ := X0.specialBack hx (y := (⟨"java/lang/Number", "<init>", "()V"⟩ : MethodName)) rfl hown (mvT hZ (hw _ (List.mem_of_getElem? (i := 141) rfl))) (mvT hZ (hw _ (List.mem_of_getElem? (i := 142) rfl))) (mvT hZ (hw _ (List.mem_of_getElem? (i := 146) rfl))) (by decide) (backOf (W := 0) (rmNum lL Z a0 hw [] a h0 n0 ) hZ (hw _ (List.mem_of_getElem? (i := 146) rfl)) (hw _ (List.mem_of_getElem? (i := 145) rfl)) (by decide) (by decide)) (g := (mkF mM 1 #[.val (.ref a), .val (.int i)] [(.ref a)])) rfl (by rw [hml]; rfl) (Steps.refl _) (a := a) (argsL := []) (rest := []) (lenOf pd__28_29V rfl) rfl (by show 2 * 0 + _ ≤ _; exact Nat.le_of_eq rfl) (hb hby d23_1) (fun _ _ => ⟨rfl, e0, (by decide : 0 + 0 ≤ _), (by decide : 0 + 0 ≤ _)⟩)
  dsimp only [Pt.U, Pt.locs, Pt.cells, Pt.slots] at X3 l3 y3 z3 st3 hQ3
  subst l3 y3 z3
  obtain ⟨rfl, N3q, e3⟩ := hQ3
  have N3 := Fr.app N0 N3q
  refine own_st (A := T3.setTop (mkF mM 4 #[.val (.ref a), .val (.int i)] [])) (fun tT_ kK_ => st3.trans kK_) ?_
  refine own_st (A := T3.setTop (mkF mM 5 #[.val (.ref a), .val (.int i)] [(.ref a)])) (fun tT_ kK_ => XS.aloadN X3.here hx rfl (hb hby d23_4) rfl rfl kK_) ?_
  refine own_st (A := T3.setTop (mkF mM 6 #[.val (.ref a), .val (.int i)] [(.int i), (.ref a)])) (fun tT_ kK_ => XS.iloadN X3.here hx rfl (hb hby d23_5) rfl kK_) ?_
  obtain ⟨T4, h4, X4, e4, W4, st4⟩ := putF X3 hx hZ hown (host := "") (Or.inl (hw _ (List.mem_of_getElem? (i := 116) rfl))) Via.refl e3 F_a_value E_a (Or.inr ⟨(hw _ (List.mem_of_getElem? (i := 117) rfl)), rfl, hnm⟩) (hw _ (List.mem_of_getElem? (i := 136) rfl)) (ty := .int) (by decide) rfl rfl (g := (mkF mM 6 #[.val (.ref a), .val (.int i)] [(.int i), (.ref a)])) rfl rfl (hb hby d23_6)
  have N4 := Fr.snoc X4 N3 g_a
  have F_a_value := F_a_value.same W4
  have E_a := E_a.wr W4
  have Kp := Kp.wr W4 (Or.inl (List.mem_of_getElem? (i := 0) rfl))
  refine own_st (A := T4.setTop (mkF mM 9 #[.val (.ref a), .val (.int i)] [])) (fun tT_ kK_ => st4 tT_ kK_) ?_
  exact own_retV X4 hx hlk hret (hb hby d23_9) (by rw [e4]; exact ⟨rfl, N4, Kp, E_a, F_a_value⟩) (by decide) (by decide)
theorem own_in256 {i : Int32} (h1 : ¬ i < (-128 : Int32)) (h2 : ¬ (127 : Int32) < i) : ¬ (i + (128 : Int32)) < 0 ∧ (i + (128 : Int32)) < 256 := by
  have a1 := c_iadd i 128
  have r := rng32 (i + 128)
  rw [Int32.lt_iff_toInt_lt] at h1 h2 ⊢
  rw [Int32.lt_iff_toInt_lt]
  have e1 : (128 : Int32).toInt = 128 := by decide
  have e2 : (-128 : Int32).toInt = -128 := by decide
  have e3 : (127 : Int32).toInt = 127 := by decide
  have e4 : (0 : Int32).toInt = 0 := by decide
  have e5 : (256 : Int32).toInt = 256 := by decide
  omega
theorem own_back (i : Int32) : (i + 128) - 128 = i := by
  have a1 := c_iadd i 128
  have a2 := c_isub (i + 128) 128
  have r := rng32 i
  have r2 := rng32 ((i + 128) - 128)
  rw [← Int32.toInt_inj]
  omega
theorem d17_0 : decode jdk_33_method_22_code 0 = .ok (.iload_n 0, 1) := by decide +kernel
theorem d17_1 : decode jdk_33_method_22_code 1 = .ok (.bipush (-128), 2) := by decide +kernel
theorem d17_3 : decode jdk_33_method_22_code 3 = .ok (.if_icmp .lt 20, 3) := by decide +kernel
theorem d17_23 : decode jdk_33_method_22_code 23 = .ok (.new 1, 3) := by decide +kernel
theorem d17_26 : decode jdk_33_method_22_code 26 = .ok (.dup, 1) := by decide +kernel
theorem d17_27 : decode jdk_33_method_22_code 27 = .ok (.iload_n 0, 1) := by decide +kernel
theorem d17_28 : decode jdk_33_method_22_code 28 = .ok (.invokespecial 199, 3) := by decide +kernel
theorem pd__28I_29V : parseMethodDescriptor "(I)V" = some ⟨[.int], none⟩ := by decide +kernel
theorem d17_31 : decode jdk_33_method_22_code 31 = .ok (.areturn, 1) := by decide +kernel
theorem d17_6 : decode jdk_33_method_22_code 6 = .ok (.iload_n 0, 1) := by decide +kernel
theorem d17_7 : decode jdk_33_method_22_code 7 = .ok (.getstatic 191, 3) := by decide +kernel
theorem d17_10 : decode jdk_33_method_22_code 10 = .ok (.if_icmp .gt 13, 3) := by decide +kernel
theorem d17_13 : decode jdk_33_method_22_code 13 = .ok (.getstatic 195, 3) := by decide +kernel
theorem d17_16 : decode jdk_33_method_22_code 16 = .ok (.iload_n 0, 1) := by decide +kernel
theorem d17_17 : decode jdk_33_method_22_code 17 = .ok (.sipush 128, 3) := by decide +kernel
theorem d17_20 : decode jdk_33_method_22_code 20 = .ok (.iadd, 1) := by decide +kernel
theorem d17_21 : decode jdk_33_method_22_code 21 = .ok (.aaload, 1) := by decide +kernel
theorem d17_22 : decode jdk_33_method_22_code 22 = .ok (.areturn, 1) := by decide +kernel
theorem ef_rmVal (mM : MethodId) (i : Int32) (ca : Addr) (cc : Cell) : entryFrame mM #[(.int i)] 1 = mkF mM 0 #[.val (.int i)] [] := by first | (simp [entryFrame, mkF, argsToLocals, Value.category]; done) | rfl
set_option maxRecDepth 65536 in
set_option maxHeartbeats 40000000 in
theorem rmVal (lL : Launch) (Z : State) (a0 : Array Value) (hw : ∀ d ∈ tables_1, d.before a0 Z = true) (ws : List Jvm.Cond) (i : Int32) (ca : Addr) (cc : Cell) (h0 : Heap) (n0 : Nat) (O : Old Z n0 h0) (Zn : n0 ≤ h0.size) (S_h : Sta Z Z.heap "java/lang/Integer$IntegerCache" "high" "I" (.int 127)) (S_c : Sta Z Z.heap "java/lang/Integer$IntegerCache" "cache" "[Ljava/lang/Integer;" (.ref ca)) (BX : Bxs Z ca cc "java/lang/Integer" "I" 256 (fun j => .int (j - 128))) :
    MetFree lL (⟨"java/lang/Integer", "valueOf", "(I)Ljava/lang/Integer;"⟩ : MethodName) (head1 (Jvm.Cond.code (⟨"java/lang/Integer", "valueOf", "(I)Ljava/lang/Integer;"⟩ : MethodName) jdk_33_method_22_code 1 (some (.object "java/lang/Integer")) :: ws) ({ frames := 3, cells := 1, slots := 1, locals := 38 } : Room)) (fun as_ uU_ => as_ = #[(.int i)] ∧ Z.Warmed39 uU_.vm ∧ uU_.heap = h0) (fun _ _ _ _ _ => True) (fun _ uU_ oO_ uE_ => ∃ vV_ lL_, oO_ = .returned vV_ ∧ Qbox Z i h0 n0 vV_ uE_.heap lL_ ∧ FrameEnd uU_ oO_ uE_ lL_ ({ frames := 3, cells := 1, slots := 1, locals := 38 } : Room).cells ({ frames := 3, cells := 1, slots := 1, locals := 38 } : Room).slots) := by
  refine MetFree.of_bodySF (plainFor_of_name pn_java_2flang_2fInteger) hisR ?_
  intro pP eE sS mM args below meth cC s₁ Bd hml0 hP hK
  obtain ⟨rfl, hZ, hh⟩ := hP
  have hx := Bd.exec
  have hby := Bd.bytes
  have hml : cC.maxLocals = 1 := hml0
  have hown : sS.vm.findClass "java/lang/Integer" = some mM.cls := findClass_of_methodNamed Bd.named
  have hnm := (name_of_methodNamed Bd.named Bd.method).1
  have hret := Bd.returns
  have hlk := BodyLoose.notSynchronized Bd
  have X0 : Stand pP lL eE ({ frames := 3, cells := 1, slots := 1, locals := 38 } : Room) sS mM #[(.int i)] below meth cC s₁ [] 0 0 := Stand.of_body Bd
  have e0 : s₁.heap = h0 := by rw [← hh, Bd.state]; rfl
  have N0 := Fr.nil n0
  show own_Go pP eE below sS (Qbox Z i h0 n0) 1 1 (s₁.setTop (entryFrame mM #[(.int i)] 1))
  refine own_st (A := s₁.setTop (mkF mM 0 #[.val (.int i)] [])) (fun tT_ kK_ => castTop (ef_rmVal mM i ca cc) kK_) ?_
  refine own_st (A := s₁.setTop (mkF mM 1 #[.val (.int i)] [(.int i)])) (fun tT_ kK_ => XS.iloadN X0.here hx rfl (hb hby d17_0) rfl kK_) ?_
  refine own_st (A := s₁.setTop (mkF mM 3 #[.val (.int i)] [(.int (-128 : Int32)), (.int i)])) (fun tT_ kK_ => XS.bipush X0.here hx rfl (hb hby d17_1) kK_) ?_
  by_cases hc3_5 : i < (-128 : Int32)
  · skip
    refine own_st (A := s₁.setTop (mkF mM 23 #[.val (.int i)] [])) (fun tT_ kK_ => XS.icmpYes X0.here hx rfl (pc0 := 3) (pc' := 23) rfl (hb hby d17_3) rfl (tlt hc3_5).1 (by decide) (by decide) kK_) ?_
    have Kp := Keep.refl h0 []
    obtain ⟨T6, h6, X6, e6, E6, A6, D6, -, st6⟩ := newO X0 hx hZ hown (hw _ (List.mem_of_getElem? (i := 135) rfl)) (hw _ (List.mem_of_getElem? (i := 136) rfl)) (hw _ (List.mem_of_getElem? (i := 102) rfl)) e0 (g := (mkF mM 23 #[.val (.int i)] [])) rfl (hb hby d17_23) (by decide) (by decide)
    obtain ⟨b6, g6⟩ : ∃ z, z = h0.size := ⟨_, rfl⟩
    rw [← g6] at A6 D6 st6
    have g_b6 : n0 ≤ b6 := Nat.le_trans Zn (Nat.le_of_eq g6.symm)
    have b_b6 : h0.size ≤ b6 := Nat.le_trans Kp.1 (Nat.le_of_eq g6.symm)
    have O := O.ext E6
    have Zn := Nat.le_trans Zn E6.1
    have Kp := Kp.ext E6
    have E_b6 := A6
    have F_b6_value : Fld Z h6 b6 "java/lang/Integer" "value" "I" (.int (0 : Int32)) := D6 (Or.inr (hw _ (List.mem_of_getElem? (i := 117) rfl))) (ty := .int) (by decide)
    refine own_st (A := T6.setTop (mkF mM 26 #[.val (.int i)] [(.ref b6)])) (fun tT_ kK_ => st6 tT_ kK_) ?_
    refine own_st (A := T6.setTop (mkF mM 27 #[.val (.int i)] [(.ref b6), (.ref b6)])) (fun tT_ kK_ => XS.dup X6.here hx rfl (hb hby d17_26) rfl rfl kK_) ?_
    refine own_st (A := T6.setTop (mkF mM 28 #[.val (.int i)] [(.int i), (.ref b6), (.ref b6)])) (fun tT_ kK_ => XS.iloadN X6.here hx rfl (hb hby d17_27) rfl kK_) ?_
    obtain ⟨_, _, ⟨T7, L7, k7, n7⟩, -, X7, ⟨Lc7, hQ7, l7, y7, z7⟩, st7⟩ := X6.specialBack hx (y := (⟨"java/lang/Integer", "<init>", "(I)V"⟩ : MethodName)) rfl hown (mvT hZ (hw _ (List.mem_of_getElem? (i := 137) rfl))) (mvT hZ (hw _ (List.mem_of_getElem? (i := 138) rfl))) (mvT hZ (hw _ (List.mem_of_getElem? (i := 140) rfl))) (by decide) (backOf (W := 1) (rmII lL Z a0 hw [] b6 i h6 n0 g_b6 E_b6 F_b6_value) hZ (hw _ (List.mem_of_getElem? (i := 140) rfl)) (hw _ (List.mem_of_getElem? (i := 102) rfl)) (by decide) (by decide)) (g := (mkF mM 28 #[.val (.int i)] [(.int i), (.ref b6), (.ref b6)])) rfl (by rw [hml]; rfl) (Steps.refl _) (a := b6) (argsL := [(.int i)]) (rest := [(.ref b6)]) (lenOf pd__28I_29V rfl) rfl (by show 2 * 0 + _ ≤ _; exact Nat.le_of_eq rfl) (hb hby d17_28) (fun _ _ => ⟨rfl, e6, (by decide : 1 + 0 ≤ _), (by decide : 1 + 0 ≤ _)⟩)
    dsimp only [Pt.U, Pt.locs, Pt.cells, Pt.slots] at X7 l7 y7 z7 st7 hQ7
    subst l7 y7 z7
    obtain ⟨rfl, N7q, K7, ob⟩ := hQ7
    have N7 := Fr.app N0 N7q
    have e7 : T7.heap = T7.heap := rfl
    refine own_st (A := T7.setTop (mkF mM 31 #[.val (.int i)] [(.ref b6)])) (fun tT_ kK_ => st7.trans kK_) ?_
    have E_b6 := E_b6.keep K7
    have O := O.keep K7 (allS g_b6 all0)
    have Zn := Nat.le_trans Zn K7.1
    have Kp := Kp.trans K7 (allS (Or.inr b_b6) all0)
    exact own_retA X7 hx hlk hret rfl rfl (hb hby d17_31) ⟨_, rfl, N7, own_ext_of_keep Kp, ob⟩ (by decide) (by decide)
  · skip
    refine own_st (A := s₁.setTop (mkF mM 6 #[.val (.int i)] [])) (fun tT_ kK_ => XS.icmpNo X0.here hx rfl (hb hby d17_3) rfl (flt hc3_5).1 kK_) ?_
    refine own_st (A := s₁.setTop (mkF mM 7 #[.val (.int i)] [(.int i)])) (fun tT_ kK_ => XS.iloadN X0.here hx rfl (hb hby d17_6) rfl kK_) ?_
    obtain ⟨T8, X8, e8, st8⟩ := getS2 X0 hx hZ hown (host := "") (Or.inl (hw _ (List.mem_of_getElem? (i := 104) rfl))) Via.refl e0 (S_h.ext O.2) (g := (mkF mM 7 #[.val (.int i)] [(.int i)])) rfl (hb hby d17_7)
    refine own_st (A := T8.setTop (mkF mM 10 #[.val (.int i)] [(.int (127 : Int32)), (.int i)])) (fun tT_ kK_ => st8 tT_ kK_) ?_
    by_cases hc10_9 : (127 : Int32) < i
    · skip
      refine own_st (A := T8.setTop (mkF mM 23 #[.val (.int i)] [])) (fun tT_ kK_ => XS.icmpYes X8.here hx rfl (pc0 := 10) (pc' := 23) rfl (hb hby d17_10) rfl (tlt hc10_9).2.2.1 (by decide) (by decide) kK_) ?_
      have Kp := Keep.refl h0 []
      obtain ⟨T10, h10, X10, e10, E10, A10, D10, -, st10⟩ := newO X8 hx hZ hown (hw _ (List.mem_of_getElem? (i := 135) rfl)) (hw _ (List.mem_of_getElem? (i := 136) rfl)) (hw _ (List.mem_of_getElem? (i := 102) rfl)) e8 (g := (mkF mM 23 #[.val (.int i)] [])) rfl (hb hby d17_23) (by decide) (by decide)
      obtain ⟨b10, g10⟩ : ∃ z, z = h0.size := ⟨_, rfl⟩
      rw [← g10] at A10 D10 st10
      have g_b10 : n0 ≤ b10 := Nat.le_trans Zn (Nat.le_of_eq g10.symm)
      have b_b10 : h0.size ≤ b10 := Nat.le_trans Kp.1 (Nat.le_of_eq g10.symm)
      have O := O.ext E10
      have Zn := Nat.le_trans Zn E10.1
      have Kp := Kp.ext E10
      have E_b10 := A10
      have F_b10_value : Fld Z h10 b10 "java/lang/Integer" "value" "I" (.int (0 : Int32)) := D10 (Or.inr (hw _ (List.mem_of_getElem? (i := 117) rfl))) (ty := .int) (by decide)
      refine own_st (A := T10.setTop (mkF mM 26 #[.val (.int i)] [(.ref b10)])) (fun tT_ kK_ => st10 tT_ kK_) ?_
      refine own_st (A := T10.setTop (mkF mM 27 #[.val (.int i)] [(.ref b10), (.ref b10)])) (fun tT_ kK_ => XS.dup X10.here hx rfl (hb hby d17_26) rfl rfl kK_) ?_
      refine own_st (A := T10.setTop (mkF mM 28 #[.val (.int i)] [(.int i), (.ref b10), (.ref b10)])) (fun tT_ kK_ => XS.iloadN X10.here hx rfl (hb hby d17_27) rfl kK_) ?_
      obtain ⟨_, _, ⟨T11, L11, k11, n11⟩, -, X11, ⟨Lc11, hQ11, l11, y11, z11⟩, st11⟩ := X10.specialBack hx (y := (⟨"java/lang/Integer", "<init>", "(I)V"⟩ : MethodName)) rfl hown (mvT hZ (hw _ (List.mem_of_getElem? (i := 137) rfl))) (mvT hZ (hw _ (List.mem_of_getElem? (i := 138) rfl))) (mvT hZ (hw _ (List.mem_of_getElem? (i := 140) rfl))) (by decide) (backOf (W := 1) (rmII lL Z a0 hw [] b10 i h10 n0 g_b10 E_b10 F_b10_value) hZ (hw _ (List.mem_of_getElem? (i := 140) rfl)) (hw _ (List.mem_of_getElem? (i := 102) rfl)) (by decide) (by decide)) (g := (mkF mM 28 #[.val (.int i)] [(.int i), (.ref b10), (.ref b10)])) rfl (by rw [hml]; rfl) (Steps.refl _) (a := b10) (argsL := [(.int i)]) (rest := [(.ref b10)]) (lenOf pd__28I_29V rfl) rfl (by show 2 * 0 + _ ≤ _; exact Nat.le_of_eq rfl) (hb hby d17_28) (fun _ _ => ⟨rfl, e10, (by decide : 1 + 0 ≤ _), (by decide : 1 + 0 ≤ _)⟩)
      dsimp only [Pt.U, Pt.locs, Pt.cells, Pt.slots] at X11 l11 y11 z11 st11 hQ11
      subst l11 y11 z11
      obtain ⟨rfl, N11q, K11, ob⟩ := hQ11
      have N11 := Fr.app N0 N11q
      have e11 : T11.heap = T11.heap := rfl
      refine own_st (A := T11.setTop (mkF mM 31 #[.val (.int i)] [(.ref b10)])) (fun tT_ kK_ => st11.trans kK_) ?_
      have E_b10 := E_b10.keep K11
      have O := O.keep K11 (allS g_b10 all0)
      have Zn := Nat.le_trans Zn K11.1
      have Kp := Kp.trans K11 (allS (Or.inr b_b10) all0)
      exact own_retA X11 hx hlk hret rfl rfl (hb hby d17_31) ⟨_, rfl, N11, own_ext_of_keep Kp, ob⟩ (by decide) (by decide)
    · skip
      refine own_st (A := T8.setTop (mkF mM 13 #[.val (.int i)] [])) (fun tT_ kK_ => XS.icmpNo X8.here hx rfl (hb hby d17_10) rfl (flt hc10_9).2.2.1 kK_) ?_
      obtain ⟨T12, X12, e12, st12⟩ := getS2 X8 hx hZ hown (host := "") (Or.inl (hw _ (List.mem_of_getElem? (i := 106) rfl))) Via.refl e8 (S_c.ext O.2) (g := (mkF mM 13 #[.val (.int i)] [])) rfl (hb hby d17_13)
      refine own_st (A := T12.setTop (mkF mM 16 #[.val (.int i)] [(.ref ca)])) (fun tT_ kK_ => st12 tT_ kK_) ?_
      refine own_st (A := T12.setTop (mkF mM 17 #[.val (.int i)] [(.int i), (.ref ca)])) (fun tT_ kK_ => XS.iloadN X12.here hx rfl (hb hby d17_16) rfl kK_) ?_
      refine own_st (A := T12.setTop (mkF mM 20 #[.val (.int i)] [(.int (128 : Int32)), (.int i), (.ref ca)])) (fun tT_ kK_ => XS.sipush X12.here hx rfl (hb hby d17_17) kK_) ?_
      refine own_st (A := T12.setTop (mkF mM 21 #[.val (.int i)] [(.int (i + (128 : Int32))), (.ref ca)])) (fun tT_ kK_ => XS.iadd X12.here hx rfl (hb hby d17_20) rfl kK_) ?_
      have hin := inb_of BX.2.1 (own_in256 hc3_5 hc10_9)
      obtain ⟨bx, at_bx, ex_bx, fd_bx⟩ := BX.2.2.2 _ hin
      dsimp only at fd_bx
      rw [own_back] at fd_bx
      refine own_st (A := T12.setTop (mkF mM 22 #[.val (.int i)] [(.ref bx)])) (fun tT_ kK_ => X12.aaload hx (j := (i + (128 : Int32))) (v := (.ref bx)) (by rw [e12]; exact (BX.1.ext O.2).1) (State.isArrayOf_alike hZ.alike (BX.1.ext O.2).2.1) rfl (BX.1.ext O.2).2.2 hin at_bx (g := (mkF mM 21 #[.val (.int i)] [(.int (i + (128 : Int32))), (.ref ca)])) rfl rfl (hb hby d17_21) tT_ kK_) ?_
      exact own_retA X12 hx hlk hret rfl rfl (hb hby d17_22) ⟨bx, rfl, N0, own_ext_of_keep (by rw [e12]; exact Keep.refl h0 []), (by rw [e12]; exact ex_bx.ext O.2), (by rw [e12]; exact fd_bx.ext O.2)⟩ (by decide) (by decide)
theorem d19_0 : decode jdk_33_method_27_code 0 = .ok (.aload_n 0, 1) := by decide +kernel
theorem d19_1 : decode jdk_33_method_27_code 1 = .ok (.getfield 205, 3) := by decide +kernel
theorem d19_4 : decode jdk_33_method_27_code 4 = .ok (.ireturn, 1) := by decide +kernel
theorem ef_rmIv (mM : MethodId) (a : Addr) (i : Int32) : entryFrame mM #[(.ref a)] 1 = mkF mM 0 #[.val (.ref a)] [] := by first | (simp [entryFrame, mkF, argsToLocals, Value.category]; done) | rfl
set_option maxRecDepth 65536 in
set_option maxHeartbeats 40000000 in
theorem rmIv (lL : Launch) (Z : State) (a0 : Array Value) (hw : ∀ d ∈ tables_1, d.before a0 Z = true) (ws : List Jvm.Cond) (a : Addr) (i : Int32) (h0 : Heap) (n0 : Nat) (ob : Bxi Z h0 a i) :
    MetFree lL (⟨"java/lang/Integer", "intValue", "()I"⟩ : MethodName) (head1 (Jvm.Cond.code (⟨"java/lang/Integer", "intValue", "()I"⟩ : MethodName) jdk_33_method_27_code 1 (some .int) :: ws) ({ frames := 0, cells := 0, slots := 0, locals := 0 } : Room)) (fun as_ uU_ => as_ = #[(.ref a)] ∧ Z.Warmed39 uU_.vm ∧ uU_.heap = h0) (fun _ _ _ _ _ => True) (fun _ uU_ oO_ uE_ => ∃ vV_ lL_, oO_ = .returned vV_ ∧ Qw (.int i) h0 n0 vV_ uE_.heap lL_ ∧ FrameEnd uU_ oO_ uE_ lL_ ({ frames := 0, cells := 0, slots := 0, locals := 0 } : Room).cells ({ frames := 0, cells := 0, slots := 0, locals := 0 } : Room).slots) := by
  refine MetFree.of_bodySF (plainFor_of_name pn_java_2flang_2fInteger) hisR ?_
  intro pP eE sS mM args below meth cC s₁ Bd hml0 hP hK
  obtain ⟨rfl, hZ, hh⟩ := hP
  have hx := Bd.exec
  have hby := Bd.bytes
  have hml : cC.maxLocals = 1 := hml0
  have hown : sS.vm.findClass "java/lang/Integer" = some mM.cls := findClass_of_methodNamed Bd.named
  have hnm := (name_of_methodNamed Bd.named Bd.method).1
  have hret := Bd.returns
  have hlk := BodyLoose.notSynchronized Bd
  have X0 : Stand pP lL eE ({ frames := 0, cells := 0, slots := 0, locals := 0 } : Room) sS mM #[(.ref a)] below meth cC s₁ [] 0 0 := Stand.of_body Bd
  have e0 : s₁.heap = h0 := by rw [← hh, Bd.state]; rfl
  have N0 := Fr.nil n0
  show own_Go pP eE below sS (Qw (.int i) h0 n0) 0 0 (s₁.setTop (entryFrame mM #[(.ref a)] 1))
  refine own_st (A := s₁.setTop (mkF mM 0 #[.val (.ref a)] [])) (fun tT_ kK_ => castTop (ef_rmIv mM a i) kK_) ?_
  refine own_st (A := s₁.setTop (mkF mM 1 #[.val (.ref a)] [(.ref a)])) (fun tT_ kK_ => XS.aloadN X0.here hx rfl (hb hby d19_0) rfl rfl kK_) ?_
  obtain ⟨T13, X13, e13, st13⟩ := getF X0 hx hZ hown (host := "") (Or.inl (hw _ (List.mem_of_getElem? (i := 116) rfl))) Via.refl e0 ob.2 (g := (mkF mM 1 #[.val (.ref a)] [(.ref a)])) rfl rfl (hb hby d19_1)
  refine own_st (A := T13.setTop (mkF mM 4 #[.val (.ref a)] [(.int i)])) (fun tT_ kK_ => st13 tT_ kK_) ?_
  exact own_retI X13 hx hlk hret (hb hby d19_4) ⟨rfl, N0, e13⟩ (by decide) (by decide)
theorem own_nlt1 : ¬ (1 : Int32) < 1 := by decide
theorem own_gt1 {x : Int32} (h : (1 : Int32) < x) : ¬ x < 1 := by rw [Int32.lt_iff_toInt_lt] at h ⊢; omega
theorem d18_0 : decode jdk_29_method_65_code 0 = .ok (.iload_n 0, 1) := by decide +kernel
theorem d18_1 : decode jdk_29_method_65_code 1 = .ok (.iload_n 1, 1) := by decide +kernel
theorem d18_2 : decode jdk_29_method_65_code 2 = .ok (.if_icmp .lt 7, 3) := by decide +kernel
theorem d18_9 : decode jdk_29_method_65_code 9 = .ok (.iload_n 1, 1) := by decide +kernel
theorem d18_10 : decode jdk_29_method_65_code 10 = .ok (.ireturn, 1) := by decide +kernel
theorem d18_5 : decode jdk_29_method_65_code 5 = .ok (.iload_n 0, 1) := by decide +kernel
theorem d18_6 : decode jdk_29_method_65_code 6 = .ok (.goto 4, 3) := by decide +kernel
theorem pn_java_2flang_2fMath_18 : plainFor (⟨"java/lang/Math", "max", "(II)I"⟩ : MethodName) = true := by decide +kernel
theorem ef_rmMax (mM : MethodId) (x : Int32) : entryFrame mM #[(.int (1 : Int32)), (.int x)] 2 = mkF mM 0 #[.val (.int (1 : Int32)), .val (.int x)] [] := by first | (simp [entryFrame, mkF, argsToLocals, Value.category]; done) | rfl
set_option maxRecDepth 65536 in
set_option maxHeartbeats 40000000 in
theorem rmMax (lL : Launch) (Z : State) (a0 : Array Value) (hw : ∀ d ∈ tables_1, d.before a0 Z = true) (ws : List Jvm.Cond) (x : Int32) (h0 : Heap) (n0 : Nat)  :
    MetFree lL (⟨"java/lang/Math", "max", "(II)I"⟩ : MethodName) (head1 (Jvm.Cond.code (⟨"java/lang/Math", "max", "(II)I"⟩ : MethodName) jdk_29_method_65_code 2 (some .int) :: ws) ({ frames := 0, cells := 0, slots := 0, locals := 0 } : Room)) (fun as_ uU_ => as_ = #[(.int (1 : Int32)), (.int x)] ∧ Z.Warmed39 uU_.vm ∧ uU_.heap = h0) (fun _ _ _ _ _ => True) (fun _ uU_ oO_ uE_ => ∃ vV_ lL_, oO_ = .returned vV_ ∧ Qm h0 n0 vV_ uE_.heap lL_ ∧ FrameEnd uU_ oO_ uE_ lL_ ({ frames := 0, cells := 0, slots := 0, locals := 0 } : Room).cells ({ frames := 0, cells := 0, slots := 0, locals := 0 } : Room).slots) := by
  refine MetFree.of_bodySF pn_java_2flang_2fMath_18 hisR ?_
  intro pP eE sS mM args below meth cC s₁ Bd hml0 hP hK
  obtain ⟨rfl, hZ, hh⟩ := hP
  have hx := Bd.exec
  have hby := Bd.bytes
  have hml : cC.maxLocals = 2 := hml0
  have hown : sS.vm.findClass "java/lang/Math" = some mM.cls := findClass_of_methodNamed Bd.named
  have hnm := (name_of_methodNamed Bd.named Bd.method).1
  have hret := Bd.returns
  have hlk := BodyLoose.notSynchronized Bd
  have X0 : Stand pP lL eE ({ frames := 0, cells := 0, slots := 0, locals := 0 } : Room) sS mM #[(.int (1 : Int32)), (.int x)] below meth cC s₁ [] 0 0 := Stand.of_body Bd
  have e0 : s₁.heap = h0 := by rw [← hh, Bd.state]; rfl
  have N0 := Fr.nil n0
  show own_Go pP eE below sS (Qm h0 n0) 0 0 (s₁.setTop (entryFrame mM #[(.int (1 : Int32)), (.int x)] 2))
  refine own_st (A := s₁.setTop (mkF mM 0 #[.val (.int (1 : Int32)), .val (.int x)] [])) (fun tT_ kK_ => castTop (ef_rmMax mM x) kK_) ?_
  refine own_st (A := s₁.setTop (mkF mM 1 #[.val (.int (1 : Int32)), .val (.int x)] [(.int (1 : Int32))])) (fun tT_ kK_ => XS.iloadN X0.here hx rfl (hb hby d18_0) rfl kK_) ?_
  refine own_st (A := s₁.setTop (mkF mM 2 #[.val (.int (1 : Int32)), .val (.int x)] [(.int x), (.int (1 : Int32))])) (fun tT_ kK_ => XS.iloadN X0.here hx rfl (hb hby d18_1) rfl kK_) ?_
  by_cases hc2_14 : (1 : Int32) < x
  · skip
    refine own_st (A := s₁.setTop (mkF mM 9 #[.val (.int (1 : Int32)), .val (.int x)] [])) (fun tT_ kK_ => XS.icmpYes X0.here hx rfl (pc0 := 2) (pc' := 9) rfl (hb hby d18_2) rfl (tlt hc2_14).1 (by decide) (by decide) kK_) ?_
    refine own_st (A := s₁.setTop (mkF mM 10 #[.val (.int (1 : Int32)), .val (.int x)] [(.int x)])) (fun tT_ kK_ => XS.iloadN X0.here hx rfl (hb hby d18_9) rfl kK_) ?_
    exact own_retI X0 hx hlk hret (hb hby d18_10) ⟨_, rfl, N0, e0, own_gt1 hc2_14⟩ (by decide) (by decide)
  · skip
    refine own_st (A := s₁.setTop (mkF mM 5 #[.val (.int (1 : Int32)), .val (.int x)] [])) (fun tT_ kK_ => XS.icmpNo X0.here hx rfl (hb hby d18_2) rfl (flt hc2_14).1 kK_) ?_
    refine own_st (A := s₁.setTop (mkF mM 6 #[.val (.int (1 : Int32)), .val (.int x)] [(.int (1 : Int32))])) (fun tT_ kK_ => XS.iloadN X0.here hx rfl (hb hby d18_5) rfl kK_) ?_
    refine own_st (A := s₁.setTop (mkF mM 10 #[.val (.int (1 : Int32)), .val (.int x)] [(.int (1 : Int32))])) (fun tT_ kK_ => XS.goto X0.here hx rfl (pc0 := 6) (pc' := 10) rfl (hb hby d18_6) (by decide) (by decide) kK_) ?_
    exact own_retI X0 hx hlk hret (hb hby d18_10) ⟨_, rfl, N0, e0, own_nlt1⟩ (by decide) (by decide)
theorem d5_0 : decode jdk_2649_method_2_code 0 = .ok (.getstatic 17, 3) := by decide +kernel
theorem d5_3 : decode jdk_2649_method_2_code 3 = .ok (.areturn, 1) := by decide +kernel
theorem pn_java_2futil_2fOptionalInt : plainName "java/util/OptionalInt" = true := by first | (simp [plainName, overriddenIn]; done) | decide +kernel
theorem ef_rmEm (mM : MethodId) (em : Addr) : entryFrame mM #[] 0 = mkF mM 0 #[] [] := by first | (simp [entryFrame, mkF, argsToLocals, Value.category]; done) | rfl
set_option maxRecDepth 65536 in
set_option maxHeartbeats 40000000 in
theorem rmEm (lL : Launch) (Z : State) (a0 : Array Value) (hw : ∀ d ∈ tables_1, d.before a0 Z = true) (ws : List Jvm.Cond) (em : Addr) (h0 : Heap) (n0 : Nat) (S_e : Sta Z h0 "java/util/OptionalInt" "EMPTY" "Ljava/util/OptionalInt;" (.ref em)) :
    MetFree lL (⟨"java/util/OptionalInt", "empty", "()Ljava/util/OptionalInt;"⟩ : MethodName) (head1 (Jvm.Cond.code (⟨"java/util/OptionalInt", "empty", "()Ljava/util/OptionalInt;"⟩ : MethodName) jdk_2649_method_2_code 0 (some (.object "java/util/OptionalInt")) :: ws) ({ frames := 0, cells := 0, slots := 0, locals := 0 } : Room)) (fun as_ uU_ => as_ = #[] ∧ Z.Warmed39 uU_.vm ∧ uU_.heap = h0) (fun _ _ _ _ _ => True) (fun _ uU_ oO_ uE_ => ∃ vV_ lL_, oO_ = .returned vV_ ∧ Qw (.ref em) h0 n0 vV_ uE_.heap lL_ ∧ FrameEnd uU_ oO_ uE_ lL_ ({ frames := 0, cells := 0, slots := 0, locals := 0 } : Room).cells ({ frames := 0, cells := 0, slots := 0, locals := 0 } : Room).slots) := by
  refine MetFree.of_bodySF (plainFor_of_name pn_java_2futil_2fOptionalInt) hisR ?_
  intro pP eE sS mM args below meth cC s₁ Bd hml0 hP hK
  obtain ⟨rfl, hZ, hh⟩ := hP
  have hx := Bd.exec
  have hby := Bd.bytes
  have hml : cC.maxLocals = 0 := hml0
  have hown : sS.vm.findClass "java/util/OptionalInt" = some mM.cls := findClass_of_methodNamed Bd.named
  have hnm := (name_of_methodNamed Bd.named Bd.method).1
  have hret := Bd.returns
  have hlk := BodyLoose.notSynchronized Bd
  have X0 : Stand pP lL eE ({ frames := 0, cells := 0, slots := 0, locals := 0 } : Room) sS mM #[] below meth cC s₁ [] 0 0 := Stand.of_body Bd
  have e0 : s₁.heap = h0 := by rw [← hh, Bd.state]; rfl
  have N0 := Fr.nil n0
  show own_Go pP eE below sS (Qw (.ref em) h0 n0) 0 0 (s₁.setTop (entryFrame mM #[] 0))
  refine own_st (A := s₁.setTop (mkF mM 0 #[] [])) (fun tT_ kK_ => castTop (ef_rmEm mM em) kK_) ?_
  obtain ⟨T15, X15, e15, st15⟩ := getS2 X0 hx hZ hown (host := "") (Or.inl (hw _ (List.mem_of_getElem? (i := 42) rfl))) Via.refl e0 S_e (g := (mkF mM 0 #[] [])) rfl (hb hby d5_0)
  refine own_st (A := T15.setTop (mkF mM 3 #[] [(.ref em)])) (fun tT_ kK_ => st15 tT_ kK_) ?_
  exact own_retA X15 hx hlk hret rfl rfl (hb hby d5_3) ⟨rfl, N0, e15⟩ (by decide) (by decide)
theorem d21_0 : decode jdk_2649_method_3_code 0 = .ok (.aload_n 0, 1) := by decide +kernel
theorem d21_1 : decode jdk_2649_method_3_code 1 = .ok (.invokespecial 1, 3) := by decide +kernel
theorem d21_4 : decode jdk_2649_method_3_code 4 = .ok (.aload_n 0, 1) := by decide +kernel
theorem d21_5 : decode jdk_2649_method_3_code 5 = .ok (.iconst 1, 1) := by decide +kernel
theorem d21_6 : decode jdk_2649_method_3_code 6 = .ok (.putfield 7, 3) := by decide +kernel
theorem d21_9 : decode jdk_2649_method_3_code 9 = .ok (.aload_n 0, 1) := by decide +kernel
theorem d21_10 : decode jdk_2649_method_3_code 10 = .ok (.iload_n 1, 1) := by decide +kernel
theorem d21_11 : decode jdk_2649_method_3_code 11 = .ok (.putfield 13, 3) := by decide +kernel
theorem d21_14 : decode jdk_2649_method_3_code 14 = .ok (.return_, 1) := by decide +kernel
theorem ef_rmOI (mM : MethodId) (a : Addr) (i : Int32) : entryFrame mM #[(.ref a), (.int i)] 2 = mkF mM 0 #[.val (.ref a), .val (.int i)] [] := by first | (simp [entryFrame, mkF, argsToLocals, Value.category]; done) | rfl
set_option maxRecDepth 65536 in
set_option maxHeartbeats 40000000 in
theorem rmOI (lL : Launch) (Z : State) (a0 : Array Value) (hw : ∀ d ∈ tables_1, d.before a0 Z = true) (ws : List Jvm.Cond) (a : Addr) (i : Int32) (h0 : Heap) (n0 : Nat) (g_a : n0 ≤ a) (E_a : Exa Z h0 a "java/util/OptionalInt") (F_a_isPresent : Fld Z h0 a "java/util/OptionalInt" "isPresent" "Z" (.int (0 : Int32))) (F_a_value : Fld Z h0 a "java/util/OptionalInt" "value" "I" (.int (0 : Int32))) :
    MetFree lL (⟨"java/util/OptionalInt", "<init>", "(I)V"⟩ : MethodName) (head1 (Jvm.Cond.code (⟨"java/util/OptionalInt", "<init>", "(I)V"⟩ : MethodName) jdk_2649_method_3_code 2 none :: ws) ({ frames := 1, cells := 0, slots := 0, locals := 12 } : Room)) (fun as_ uU_ => as_ = #[(.ref a), (.int i)] ∧ Z.Warmed39 uU_.vm ∧ uU_.heap = h0) (fun _ _ _ _ _ => True) (fun _ uU_ oO_ uE_ => ∃ vV_ lL_, oO_ = .returned vV_ ∧ QiO Z a i h0 n0 vV_ uE_.heap lL_ ∧ FrameEnd uU_ oO_ uE_ lL_ ({ frames := 1, cells := 0, slots := 0, locals := 12 } : Room).cells ({ frames := 1, cells := 0, slots := 0, locals := 12 } : Room).slots) := by
  refine MetFree.of_bodySF (plainFor_of_name pn_java_2futil_2fOptionalInt) hisR ?_
  intro pP eE sS mM args below meth cC s₁ Bd hml0 hP hK
  obtain ⟨rfl, hZ, hh⟩ := hP
  have hx := Bd.exec
  have hby := Bd.bytes
  have hml : cC.maxLocals = 2 := hml0
  have hown : sS.vm.findClass "java/util/OptionalInt" = some mM.cls := findClass_of_methodNamed Bd.named
  have hnm := (name_of_methodNamed Bd.named Bd.method).1
  have hret := Bd.returns
  have hlk := BodyLoose.notSynchronized Bd
  have X0 : Stand pP lL eE ({ frames := 1, cells := 0, slots := 0, locals := 12 } : Room) sS mM #[(.ref a), (.int i)] below meth cC s₁ [] 0 0 := Stand.of_body Bd
  have e0 : s₁.heap = h0 := by rw [← hh, Bd.state]; rfl
  have N0 := Fr.nil n0
  show own_Go pP eE below sS (QiO Z a i h0 n0) 0 0 (s₁.setTop (entryFrame mM #[(.ref a), (.int i)] 2))
  refine own_st (A := s₁.setTop (mkF mM 0 #[.val (.ref a), .val (.int i)] [])) (fun tT_ kK_ => castTop (ef_rmOI mM a i) kK_) ?_
  have Kp := Keep.refl h0 [a]
  refine own_st (A := s₁.setTop (mkF mM 1 #[.val (.ref a), .val (.int i)] [(.ref a)])) (fun tT_ kK_ => XS.aloadN X0.here hx rfl (hb hby d21_0) rfl rfl kK_) ?_
  obtain ⟨T16, X16, e16, st16⟩ := initO X0 hx hZ hown (hw _ (List.mem_of_getElem? (i := 127) rfl)) (hw _ (List.mem_of_getElem? (i := 7) rfl)) (hw _ (List.mem_of_getElem? (i := 8) rfl)) e0 (g := (mkF mM 1 #[.val (.ref a), .val (.int i)] [(.ref a)])) rfl (by rw [hml]; rfl) rfl (hb hby d21_1) (by decide) (W := 0) (by show 2 * 0 + _ ≤ _; exact Nat.le_of_eq rfl) (by decide)
  refine own_st (A := T16.setTop (mkF mM 4 #[.val (.ref a), .val (.int i)] [])) (fun tT_ kK_ => st16 tT_ kK_) ?_
  refine own_st (A := T16.setTop (mkF mM 5 #[.val (.ref a), .val (.int i)] [(.ref a)])) (fun tT_ kK_ => XS.aloadN X16.here hx rfl (hb hby d21_4) rfl rfl kK_) ?_
  refine own_st (A := T16.setTop (mkF mM 6 #[.val (.ref a), .val (.int i)] [(.int (1 : Int32)), (.ref a)])) (fun tT_ kK_ => XS.iconst X16.here hx rfl (hb hby d21_5) kK_) ?_
  obtain ⟨T17, h17, X17, e17, W17, st17⟩ := putFN X16 hx hZ hown (hw _ (List.mem_of_getElem? (i := 57) rfl)) Via.refl e16 F_a_isPresent E_a (Or.inr ⟨(hw _ (List.mem_of_getElem? (i := 58) rfl)), rfl, hnm⟩) (hw _ (List.mem_of_getElem? (i := 122) rfl)) (ty := .boolean) (v' := (.int (1 : Int32))) (by decide) rfl (by decide) (g := (mkF mM 6 #[.val (.ref a), .val (.int i)] [(.int (1 : Int32)), (.ref a)])) rfl rfl (hb hby d21_6)
  have N17 := Fr.snoc X17 N0 g_a
  have F_a_isPresent := F_a_isPresent.same W17
  have F_a_value := F_a_value.other W17 (Or.inr (slot_ne (Or.inr (hw _ (List.mem_of_getElem? (i := 129) rfl))) (Or.inr (hw _ (List.mem_of_getElem? (i := 58) rfl))) (by decide) (t := .int) (t' := .boolean) (by decide) (by decide)))
  have E_a := E_a.wr W17
  have Kp := Kp.wr W17 (Or.inl (List.mem_of_getElem? (i := 0) rfl))
  refine own_st (A := T17.setTop (mkF mM 9 #[.val (.ref a), .val (.int i)] [])) (fun tT_ kK_ => st17 tT_ kK_) ?_
  refine own_st (A := T17.setTop (mkF mM 10 #[.val (.ref a), .val (.int i)] [(.ref a)])) (fun tT_ kK_ => XS.aloadN X17.here hx rfl (hb hby d21_9) rfl rfl kK_) ?_
  refine own_st (A := T17.setTop (mkF mM 11 #[.val (.ref a), .val (.int i)] [(.int i), (.ref a)])) (fun tT_ kK_ => XS.iloadN X17.here hx rfl (hb hby d21_10) rfl kK_) ?_
  obtain ⟨T18, h18, X18, e18, W18, st18⟩ := putF X17 hx hZ hown (host := "") (Or.inl (hw _ (List.mem_of_getElem? (i := 128) rfl))) Via.refl e17 F_a_value E_a (Or.inr ⟨(hw _ (List.mem_of_getElem? (i := 129) rfl)), rfl, hnm⟩) (hw _ (List.mem_of_getElem? (i := 122) rfl)) (ty := .int) (by decide) rfl rfl (g := (mkF mM 11 #[.val (.ref a), .val (.int i)] [(.int i), (.ref a)])) rfl rfl (hb hby d21_11)
  have N18 := Fr.snoc X18 N17 g_a
  have F_a_isPresent := F_a_isPresent.other W18 (Or.inr (slot_ne (Or.inr (hw _ (List.mem_of_getElem? (i := 58) rfl))) (Or.inr (hw _ (List.mem_of_getElem? (i := 129) rfl))) (by decide) (t := .boolean) (t' := .int) (by decide) (by decide)))
  have F_a_value := F_a_value.same W18
  have E_a := E_a.wr W18
  have Kp := Kp.wr W18 (Or.inl (List.mem_of_getElem? (i := 0) rfl))
  refine own_st (A := T18.setTop (mkF mM 14 #[.val (.ref a), .val (.int i)] [])) (fun tT_ kK_ => st18 tT_ kK_) ?_
  exact own_retV X18 hx hlk hret (hb hby d21_14) (by rw [e18]; exact ⟨rfl, N18, Kp, E_a, F_a_isPresent, F_a_value, by decide⟩) (by decide) (by decide)
theorem d20_0 : decode jdk_2649_method_4_code 0 = .ok (.new 8, 3) := by decide +kernel
theorem d20_3 : decode jdk_2649_method_4_code 3 = .ok (.dup, 1) := by decide +kernel
theorem d20_4 : decode jdk_2649_method_4_code 4 = .ok (.iload_n 0, 1) := by decide +kernel
theorem d20_5 : decode jdk_2649_method_4_code 5 = .ok (.invokespecial 21, 3) := by decide +kernel
theorem d20_8 : decode jdk_2649_method_4_code 8 = .ok (.areturn, 1) := by decide +kernel
theorem ef_rmOf (mM : MethodId) (i : Int32) (k : Int32) : entryFrame mM #[(.int i)] 1 = mkF mM 0 #[.val (.int i)] [] := by first | (simp [entryFrame, mkF, argsToLocals, Value.category]; done) | rfl
set_option maxRecDepth 65536 in
set_option maxHeartbeats 40000000 in
theorem rmOf (lL : Launch) (Z : State) (a0 : Array Value) (hw : ∀ d ∈ tables_1, d.before a0 Z = true) (ws : List Jvm.Cond) (i : Int32) (k : Int32) (h0 : Heap) (n0 : Nat) (Zn : n0 ≤ h0.size) (hk : ¬ i < k) :
    MetFree lL (⟨"java/util/OptionalInt", "of", "(I)Ljava/util/OptionalInt;"⟩ : MethodName) (head1 (Jvm.Cond.code (⟨"java/util/OptionalInt", "of", "(I)Ljava/util/OptionalInt;"⟩ : MethodName) jdk_2649_method_4_code 1 (some (.object "java/util/OptionalInt")) :: ws) ({ frames := 2, cells := 1, slots := 2, locals := 26 } : Room)) (fun as_ uU_ => as_ = #[(.int i)] ∧ Z.Warmed39 uU_.vm ∧ uU_.heap = h0) (fun _ _ _ _ _ => True) (fun _ uU_ oO_ uE_ => ∃ vV_ lL_, oO_ = .returned vV_ ∧ Qopt Z 1 k h0 n0 vV_ uE_.heap lL_ ∧ FrameEnd uU_ oO_ uE_ lL_ ({ frames := 2, cells := 1, slots := 2, locals := 26 } : Room).cells ({ frames := 2, cells := 1, slots := 2, locals := 26 } : Room).slots) := by
  refine MetFree.of_bodySF (plainFor_of_name pn_java_2futil_2fOptionalInt) hisR ?_
  intro pP eE sS mM args below meth cC s₁ Bd hml0 hP hK
  obtain ⟨rfl, hZ, hh⟩ := hP
  have hx := Bd.exec
  have hby := Bd.bytes
  have hml : cC.maxLocals = 1 := hml0
  have hown : sS.vm.findClass "java/util/OptionalInt" = some mM.cls := findClass_of_methodNamed Bd.named
  have hnm := (name_of_methodNamed Bd.named Bd.method).1
  have hret := Bd.returns
  have hlk := BodyLoose.notSynchronized Bd
  have X0 : Stand pP lL eE ({ frames := 2, cells := 1, slots := 2, locals := 26 } : Room) sS mM #[(.int i)] below meth cC s₁ [] 0 0 := Stand.of_body Bd
  have e0 : s₁.heap = h0 := by rw [← hh, Bd.state]; rfl
  have N0 := Fr.nil n0
  show own_Go pP eE below sS (Qopt Z 1 k h0 n0) 1 2 (s₁.setTop (entryFrame mM #[(.int i)] 1))
  refine own_st (A := s₁.setTop (mkF mM 0 #[.val (.int i)] [])) (fun tT_ kK_ => castTop (ef_rmOf mM i k) kK_) ?_
  have Kp := Keep.refl h0 []
  obtain ⟨T19, h19, X19, e19, E19, A19, D19, -, st19⟩ := newO X0 hx hZ hown (hw _ (List.mem_of_getElem? (i := 121) rfl)) (hw _ (List.mem_of_getElem? (i := 122) rfl)) (hw _ (List.mem_of_getElem? (i := 40) rfl)) e0 (g := (mkF mM 0 #[.val (.int i)] [])) rfl (hb hby d20_0) (by decide) (by decide)
  obtain ⟨b19, g19⟩ : ∃ z, z = h0.size := ⟨_, rfl⟩
  rw [← g19] at A19 D19 st19
  have g_b19 : n0 ≤ b19 := Nat.le_trans Zn (Nat.le_of_eq g19.symm)
  have b_b19 : h0.size ≤ b19 := Nat.le_trans Kp.1 (Nat.le_of_eq g19.symm)
  have Zn := Nat.le_trans Zn E19.1
  have Kp := Kp.ext E19
  have E_b19 := A19
  have F_b19_isPresent : Fld Z h19 b19 "java/util/OptionalInt" "isPresent" "Z" (.int (0 : Int32)) := D19 (Or.inr (hw _ (List.mem_of_getElem? (i := 58) rfl))) (ty := .boolean) (by decide)
  have F_b19_value : Fld Z h19 b19 "java/util/OptionalInt" "value" "I" (.int (0 : Int32)) := D19 (Or.inr (hw _ (List.mem_of_getElem? (i := 129) rfl))) (ty := .int) (by decide)
  refine own_st (A := T19.setTop (mkF mM 3 #[.val (.int i)] [(.ref b19)])) (fun tT_ kK_ => st19 tT_ kK_) ?_
  refine own_st (A := T19.setTop (mkF mM 4 #[.val (.int i)] [(.ref b19), (.ref b19)])) (fun tT_ kK_ => XS.dup X19.here hx rfl (hb hby d20_3) rfl rfl kK_) ?_
  refine own_st (A := T19.setTop (mkF mM 5 #[.val (.int i)] [(.int i), (.ref b19), (.ref b19)])) (fun tT_ kK_ => XS.iloadN X19.here hx rfl (hb hby d20_4) rfl kK_) ?_
  obtain ⟨_, _, ⟨T20, L20, k20, n20⟩, -, X20, ⟨Lc20, hQ20, l20, y20, z20⟩, st20⟩ := X19.specialBack hx (y := (⟨"java/util/OptionalInt", "<init>", "(I)V"⟩ : MethodName)) rfl hown (mvT hZ (hw _ (List.mem_of_getElem? (i := 123) rfl))) (mvT hZ (hw _ (List.mem_of_getElem? (i := 124) rfl))) (mvT hZ (hw _ (List.mem_of_getElem? (i := 126) rfl))) (by decide) (backOf (W := 1) (rmOI lL Z a0 hw [] b19 i h19 n0 g_b19 E_b19 F_b19_isPresent F_b19_value) hZ (hw _ (List.mem_of_getElem? (i := 126) rfl)) (hw _ (List.mem_of_getElem? (i := 40) rfl)) (by decide) (by decide)) (g := (mkF mM 5 #[.val (.int i)] [(.int i), (.ref b19), (.ref b19)])) rfl (by rw [hml]; rfl) (Steps.refl _) (a := b19) (argsL := [(.int i)]) (rest := [(.ref b19)]) (lenOf pd__28I_29V rfl) rfl (by show 2 * 0 + _ ≤ _; exact Nat.le_of_eq rfl) (hb hby d20_5) (fun _ _ => ⟨rfl, e19, (by decide : 1 + 0 ≤ _), (by decide : 2 + 0 ≤ _)⟩)
  dsimp only [Pt.U, Pt.locs, Pt.cells, Pt.slots] at X20 l20 y20 z20 st20 hQ20
  subst l20 y20 z20
  obtain ⟨rfl, N20q, K20, ob⟩ := hQ20
  have N20 := Fr.app N0 N20q
  have e20 : T20.heap = T20.heap := rfl
  refine own_st (A := T20.setTop (mkF mM 8 #[.val (.int i)] [(.ref b19)])) (fun tT_ kK_ => st20.trans kK_) ?_
  have E_b19 := E_b19.keep K20
  have Zn := Nat.le_trans Zn K20.1
  have Kp := Kp.trans K20 (allS (Or.inr b_b19) all0)
  exact own_retA X20 hx hlk hret rfl rfl (hb hby d20_8) ⟨_, _, rfl, N20, own_ext_of_keep Kp, ob, fun _ => hk⟩ (by decide) (by decide)
theorem d8_0 : decode jdk_2649_method_6_code 0 = .ok (.aload_n 0, 1) := by decide +kernel
theorem d8_1 : decode jdk_2649_method_6_code 1 = .ok (.getfield 7, 3) := by decide +kernel
theorem d8_4 : decode jdk_2649_method_6_code 4 = .ok (.ireturn, 1) := by decide +kernel
theorem ef_rmIs (mM : MethodId) (a : Addr) (p : Int32) (i : Int32) : entryFrame mM #[(.ref a)] 1 = mkF mM 0 #[.val (.ref a)] [] := by first | (simp [entryFrame, mkF, argsToLocals, Value.category]; done) | rfl
set_option maxRecDepth 65536 in
set_option maxHeartbeats 40000000 in
theorem rmIs (lL : Launch) (Z : State) (a0 : Array Value) (hw : ∀ d ∈ tables_1, d.before a0 Z = true) (ws : List Jvm.Cond) (a : Addr) (p : Int32) (i : Int32) (h0 : Heap) (n0 : Nat) (ob : Opt Z h0 a p i) :
    MetFree lL (⟨"java/util/OptionalInt", "isPresent", "()Z"⟩ : MethodName) (head1 (Jvm.Cond.code (⟨"java/util/OptionalInt", "isPresent", "()Z"⟩ : MethodName) jdk_2649_method_6_code 1 (some .boolean) :: ws) ({ frames := 0, cells := 0, slots := 0, locals := 0 } : Room)) (fun as_ uU_ => as_ = #[(.ref a)] ∧ Z.Warmed39 uU_.vm ∧ uU_.heap = h0) (fun _ _ _ _ _ => True) (fun _ uU_ oO_ uE_ => ∃ vV_ lL_, oO_ = .returned vV_ ∧ Qw (.int p) h0 n0 vV_ uE_.heap lL_ ∧ FrameEnd uU_ oO_ uE_ lL_ ({ frames := 0, cells := 0, slots := 0, locals := 0 } : Room).cells ({ frames := 0, cells := 0, slots := 0, locals := 0 } : Room).slots) := by
  refine MetFree.of_bodySF (plainFor_of_name pn_java_2futil_2fOptionalInt) hisR ?_
  intro pP eE sS mM args below meth cC s₁ Bd hml0 hP hK
  obtain ⟨rfl, hZ, hh⟩ := hP
  have hx := Bd.exec
  have hby := Bd.bytes
  have hml : cC.maxLocals = 1 := hml0
  have hown : sS.vm.findClass "java/util/OptionalInt" = some mM.cls := findClass_of_methodNamed Bd.named
  have hnm := (name_of_methodNamed Bd.named Bd.method).1
  have hret := Bd.returns
  have hlk := BodyLoose.notSynchronized Bd
  have X0 : Stand pP lL eE ({ frames := 0, cells := 0, slots := 0, locals := 0 } : Room) sS mM #[(.ref a)] below meth cC s₁ [] 0 0 := Stand.of_body Bd
  have e0 : s₁.heap = h0 := by rw [← hh, Bd.state]; rfl
  have N0 := Fr.nil n0
  show own_Go pP eE below sS (Qw (.int p) h0 n0) 0 0 (s₁.setTop (entryFrame mM #[(.ref a)] 1))
  refine own_st (A := s₁.setTop (mkF mM 0 #[.val (.ref a)] [])) (fun tT_ kK_ => castTop (ef_rmIs mM a p i) kK_) ?_
  refine own_st (A := s₁.setTop (mkF mM 1 #[.val (.ref a)] [(.ref a)])) (fun tT_ kK_ => XS.aloadN X0.here hx rfl (hb hby d8_0) rfl rfl kK_) ?_
  obtain ⟨T21, X21, e21, st21⟩ := getF X0 hx hZ hown (host := "") (Or.inl (hw _ (List.mem_of_getElem? (i := 57) rfl))) Via.refl e0 ob.2.1 (g := (mkF mM 1 #[.val (.ref a)] [(.ref a)])) rfl rfl (hb hby d8_1)
  refine own_st (A := T21.setTop (mkF mM 4 #[.val (.ref a)] [(.int p)])) (fun tT_ kK_ => st21 tT_ kK_) ?_
  exact own_retN X21 hx hlk (t := .boolean) hret (by simp) (hb hby d8_4) (by rw [ob.2.2.2]; exact ⟨rfl, N0, e21⟩) (by decide) (by decide)
theorem d22_0 : decode jdk_2649_method_5_code 0 = .ok (.aload_n 0, 1) := by decide +kernel
theorem d22_1 : decode jdk_2649_method_5_code 1 = .ok (.getfield 7, 3) := by decide +kernel
theorem d22_4 : decode jdk_2649_method_5_code 4 = .ok (.ifCond .ne 13, 3) := by decide +kernel
theorem d22_17 : decode jdk_2649_method_5_code 17 = .ok (.aload_n 0, 1) := by decide +kernel
theorem d22_18 : decode jdk_2649_method_5_code 18 = .ok (.getfield 13, 3) := by decide +kernel
theorem d22_21 : decode jdk_2649_method_5_code 21 = .ok (.ireturn, 1) := by decide +kernel
theorem ef_rmGet (mM : MethodId) (a : Addr) (p : Int32) (i : Int32) : entryFrame mM #[(.ref a)] 1 = mkF mM 0 #[.val (.ref a)] [] := by first | (simp [entryFrame, mkF, argsToLocals, Value.category]; done) | rfl
set_option maxRecDepth 65536 in
set_option maxHeartbeats 40000000 in
theorem rmGet (lL : Launch) (Z : State) (a0 : Array Value) (hw : ∀ d ∈ tables_1, d.before a0 Z = true) (ws : List Jvm.Cond) (a : Addr) (p : Int32) (i : Int32) (h0 : Heap) (n0 : Nat) (ob : Opt Z h0 a p i) (hp : ¬ p = (0 : Int32)) :
    MetFree lL (⟨"java/util/OptionalInt", "getAsInt", "()I"⟩ : MethodName) (head1 (Jvm.Cond.code (⟨"java/util/OptionalInt", "getAsInt", "()I"⟩ : MethodName) jdk_2649_method_5_code 1 (some .int) :: ws) ({ frames := 0, cells := 0, slots := 0, locals := 0 } : Room)) (fun as_ uU_ => as_ = #[(.ref a)] ∧ Z.Warmed39 uU_.vm ∧ uU_.heap = h0) (fun _ _ _ _ _ => True) (fun _ uU_ oO_ uE_ => ∃ vV_ lL_, oO_ = .returned vV_ ∧ Qw (.int i) h0 n0 vV_ uE_.heap lL_ ∧ FrameEnd uU_ oO_ uE_ lL_ ({ frames := 0, cells := 0, slots := 0, locals := 0 } : Room).cells ({ frames := 0, cells := 0, slots := 0, locals := 0 } : Room).slots) := by
  refine MetFree.of_bodySF (plainFor_of_name pn_java_2futil_2fOptionalInt) hisR ?_
  intro pP eE sS mM args below meth cC s₁ Bd hml0 hP hK
  obtain ⟨rfl, hZ, hh⟩ := hP
  have hx := Bd.exec
  have hby := Bd.bytes
  have hml : cC.maxLocals = 1 := hml0
  have hown : sS.vm.findClass "java/util/OptionalInt" = some mM.cls := findClass_of_methodNamed Bd.named
  have hnm := (name_of_methodNamed Bd.named Bd.method).1
  have hret := Bd.returns
  have hlk := BodyLoose.notSynchronized Bd
  have X0 : Stand pP lL eE ({ frames := 0, cells := 0, slots := 0, locals := 0 } : Room) sS mM #[(.ref a)] below meth cC s₁ [] 0 0 := Stand.of_body Bd
  have e0 : s₁.heap = h0 := by rw [← hh, Bd.state]; rfl
  have N0 := Fr.nil n0
  show own_Go pP eE below sS (Qw (.int i) h0 n0) 0 0 (s₁.setTop (entryFrame mM #[(.ref a)] 1))
  refine own_st (A := s₁.setTop (mkF mM 0 #[.val (.ref a)] [])) (fun tT_ kK_ => castTop (ef_rmGet mM a p i) kK_) ?_
  refine own_st (A := s₁.setTop (mkF mM 1 #[.val (.ref a)] [(.ref a)])) (fun tT_ kK_ => XS.aloadN X0.here hx rfl (hb hby d22_0) rfl rfl kK_) ?_
  obtain ⟨T22, X22, e22, st22⟩ := getF X0 hx hZ hown (host := "") (Or.inl (hw _ (List.mem_of_getElem? (i := 57) rfl))) Via.refl e0 ob.2.1 (g := (mkF mM 1 #[.val (.ref a)] [(.ref a)])) rfl rfl (hb hby d22_1)
  refine own_st (A := T22.setTop (mkF mM 4 #[.val (.ref a)] [(.int p)])) (fun tT_ kK_ => st22 tT_ kK_) ?_
  refine own_st (A := T22.setTop (mkF mM 17 #[.val (.ref a)] [])) (fun tT_ kK_ => XS.ifYes X22.here hx rfl (pc0 := 4) (pc' := 17) rfl (hb hby d22_4) rfl ((if0 _ _).trans (feq hp).2) (by decide) (by decide) kK_) ?_
  refine own_st (A := T22.setTop (mkF mM 18 #[.val (.ref a)] [(.ref a)])) (fun tT_ kK_ => XS.aloadN X22.here hx rfl (hb hby d22_17) rfl rfl kK_) ?_
  obtain ⟨T23, X23, e23, st23⟩ := getF X22 hx hZ hown (host := "") (Or.inl (hw _ (List.mem_of_getElem? (i := 128) rfl))) Via.refl e22 ob.2.2.1 (g := (mkF mM 18 #[.val (.ref a)] [(.ref a)])) rfl rfl (hb hby d22_18)
  refine own_st (A := T23.setTop (mkF mM 21 #[.val (.ref a)] [(.int i)])) (fun tT_ kK_ => st23 tT_ kK_) ?_
  exact own_retI X23 hx hlk hret (hb hby d22_21) ⟨rfl, N0, e23⟩ (by decide) (by decide)
theorem d11_0 : decode jdk_2649_method_11_code 0 = .ok (.aload_n 0, 1) := by decide +kernel
theorem d11_1 : decode jdk_2649_method_11_code 1 = .ok (.getfield 7, 3) := by decide +kernel
theorem d11_4 : decode jdk_2649_method_11_code 4 = .ok (.ifCond .eq 10, 3) := by decide +kernel
theorem d11_14 : decode jdk_2649_method_11_code 14 = .ok (.iload_n 1, 1) := by decide +kernel
theorem d11_15 : decode jdk_2649_method_11_code 15 = .ok (.ireturn, 1) := by decide +kernel
theorem d11_7 : decode jdk_2649_method_11_code 7 = .ok (.aload_n 0, 1) := by decide +kernel
theorem d11_8 : decode jdk_2649_method_11_code 8 = .ok (.getfield 13, 3) := by decide +kernel
theorem d11_11 : decode jdk_2649_method_11_code 11 = .ok (.goto 4, 3) := by decide +kernel
theorem ef_rmOr (mM : MethodId) (a : Addr) (p : Int32) (i : Int32) (x : Int32) (r : Int32) : entryFrame mM #[(.ref a), (.int x)] 2 = mkF mM 0 #[.val (.ref a), .val (.int x)] [] := by first | (simp [entryFrame, mkF, argsToLocals, Value.category]; done) | rfl
set_option maxRecDepth 65536 in
set_option maxHeartbeats 40000000 in
theorem rmOr (lL : Launch) (Z : State) (a0 : Array Value) (hw : ∀ d ∈ tables_1, d.before a0 Z = true) (ws : List Jvm.Cond) (a : Addr) (p : Int32) (i : Int32) (x : Int32) (r : Int32) (h0 : Heap) (n0 : Nat) (ob : Opt Z h0 a p i) (r0 : p = (0 : Int32) → r = x) (r1 : ¬ p = (0 : Int32) → r = i) :
    MetFree lL (⟨"java/util/OptionalInt", "orElse", "(I)I"⟩ : MethodName) (head1 (Jvm.Cond.code (⟨"java/util/OptionalInt", "orElse", "(I)I"⟩ : MethodName) jdk_2649_method_11_code 2 (some .int) :: ws) ({ frames := 0, cells := 0, slots := 0, locals := 0 } : Room)) (fun as_ uU_ => as_ = #[(.ref a), (.int x)] ∧ Z.Warmed39 uU_.vm ∧ uU_.heap = h0) (fun _ _ _ _ _ => True) (fun _ uU_ oO_ uE_ => ∃ vV_ lL_, oO_ = .returned vV_ ∧ Qw (.int r) h0 n0 vV_ uE_.heap lL_ ∧ FrameEnd uU_ oO_ uE_ lL_ ({ frames := 0, cells := 0, slots := 0, locals := 0 } : Room).cells ({ frames := 0, cells := 0, slots := 0, locals := 0 } : Room).slots) := by
  refine MetFree.of_bodySF (plainFor_of_name pn_java_2futil_2fOptionalInt) hisR ?_
  intro pP eE sS mM args below meth cC s₁ Bd hml0 hP hK
  obtain ⟨rfl, hZ, hh⟩ := hP
  have hx := Bd.exec
  have hby := Bd.bytes
  have hml : cC.maxLocals = 2 := hml0
  have hown : sS.vm.findClass "java/util/OptionalInt" = some mM.cls := findClass_of_methodNamed Bd.named
  have hnm := (name_of_methodNamed Bd.named Bd.method).1
  have hret := Bd.returns
  have hlk := BodyLoose.notSynchronized Bd
  have X0 : Stand pP lL eE ({ frames := 0, cells := 0, slots := 0, locals := 0 } : Room) sS mM #[(.ref a), (.int x)] below meth cC s₁ [] 0 0 := Stand.of_body Bd
  have e0 : s₁.heap = h0 := by rw [← hh, Bd.state]; rfl
  have N0 := Fr.nil n0
  show own_Go pP eE below sS (Qw (.int r) h0 n0) 0 0 (s₁.setTop (entryFrame mM #[(.ref a), (.int x)] 2))
  refine own_st (A := s₁.setTop (mkF mM 0 #[.val (.ref a), .val (.int x)] [])) (fun tT_ kK_ => castTop (ef_rmOr mM a p i x r) kK_) ?_
  refine own_st (A := s₁.setTop (mkF mM 1 #[.val (.ref a), .val (.int x)] [(.ref a)])) (fun tT_ kK_ => XS.aloadN X0.here hx rfl (hb hby d11_0) rfl rfl kK_) ?_
  obtain ⟨T24, X24, e24, st24⟩ := getF X0 hx hZ hown (host := "") (Or.inl (hw _ (List.mem_of_getElem? (i := 57) rfl))) Via.refl e0 ob.2.1 (g := (mkF mM 1 #[.val (.ref a), .val (.int x)] [(.ref a)])) rfl rfl (hb hby d11_1)
  refine own_st (A := T24.setTop (mkF mM 4 #[.val (.ref a), .val (.int x)] [(.int p)])) (fun tT_ kK_ => st24 tT_ kK_) ?_
  by_cases hc4_25 : p = (0 : Int32)
  · skip
    refine own_st (A := T24.setTop (mkF mM 14 #[.val (.ref a), .val (.int x)] [])) (fun tT_ kK_ => XS.ifYes X24.here hx rfl (pc0 := 4) (pc' := 14) rfl (hb hby d11_4) rfl ((if0 _ _).trans (teq hc4_25).1) (by decide) (by decide) kK_) ?_
    refine own_st (A := T24.setTop (mkF mM 15 #[.val (.ref a), .val (.int x)] [(.int x)])) (fun tT_ kK_ => XS.iloadN X24.here hx rfl (hb hby d11_14) rfl kK_) ?_
    exact own_retI X24 hx hlk hret (hb hby d11_15) (by rw [r0 hc4_25]; exact ⟨rfl, N0, e24⟩) (by decide) (by decide)
  · skip
    refine own_st (A := T24.setTop (mkF mM 7 #[.val (.ref a), .val (.int x)] [])) (fun tT_ kK_ => XS.ifNo X24.here hx rfl (hb hby d11_4) rfl ((if0 _ _).trans (feq hc4_25).1) kK_) ?_
    refine own_st (A := T24.setTop (mkF mM 8 #[.val (.ref a), .val (.int x)] [(.ref a)])) (fun tT_ kK_ => XS.aloadN X24.here hx rfl (hb hby d11_7) rfl rfl kK_) ?_
    obtain ⟨T26, X26, e26, st26⟩ := getF X24 hx hZ hown (host := "") (Or.inl (hw _ (List.mem_of_getElem? (i := 128) rfl))) Via.refl e24 ob.2.2.1 (g := (mkF mM 8 #[.val (.ref a), .val (.int x)] [(.ref a)])) rfl rfl (hb hby d11_8)
    refine own_st (A := T26.setTop (mkF mM 11 #[.val (.ref a), .val (.int x)] [(.int i)])) (fun tT_ kK_ => st26 tT_ kK_) ?_
    refine own_st (A := T26.setTop (mkF mM 15 #[.val (.ref a), .val (.int x)] [(.int i)])) (fun tT_ kK_ => XS.goto X26.here hx rfl (pc0 := 11) (pc' := 15) rfl (hb hby d11_11) (by decide) (by decide) kK_) ?_
    exact own_retI X26 hx hlk hret (hb hby d11_15) (by rw [r1 hc4_25]; exact ⟨rfl, N0, e26⟩) (by decide) (by decide)
theorem d6_0 : decode prog_171_method_1_code 0 = .ok (.aload_n 0, 1) := by decide +kernel
theorem d6_1 : decode prog_171_method_1_code 1 = .ok (.invokespecial 1, 3) := by decide +kernel
theorem d6_4 : decode prog_171_method_1_code 4 = .ok (.aload_n 1, 1) := by decide +kernel
theorem d6_5 : decode prog_171_method_1_code 5 = .ok (.invokevirtual 7, 3) := by decide +kernel
theorem pd__28_29Z : parseMethodDescriptor "()Z" = some ⟨[], some .boolean⟩ := by decide +kernel
theorem d6_8 : decode prog_171_method_1_code 8 = .ok (.ifCond .eq 27, 3) := by decide +kernel
theorem d6_35 : decode prog_171_method_1_code 35 = .ok (.aload_n 2, 1) := by decide +kernel
theorem d6_36 : decode prog_171_method_1_code 36 = .ok (.invokevirtual 7, 3) := by decide +kernel
theorem d6_39 : decode prog_171_method_1_code 39 = .ok (.ifCond .eq 28, 3) := by decide +kernel
theorem d6_67 : decode prog_171_method_1_code 67 = .ok (.aload_n 0, 1) := by decide +kernel
theorem d6_68 : decode prog_171_method_1_code 68 = .ok (.aload_n 1, 1) := by decide +kernel
theorem d6_69 : decode prog_171_method_1_code 69 = .ok (.putfield 27, 3) := by decide +kernel
theorem d6_72 : decode prog_171_method_1_code 72 = .ok (.aload_n 0, 1) := by decide +kernel
theorem d6_73 : decode prog_171_method_1_code 73 = .ok (.aload_n 2, 1) := by decide +kernel
theorem d6_74 : decode prog_171_method_1_code 74 = .ok (.putfield 33, 3) := by decide +kernel
theorem d6_77 : decode prog_171_method_1_code 77 = .ok (.return_, 1) := by decide +kernel
theorem d6_42 : decode prog_171_method_1_code 42 = .ok (.aload_n 2, 1) := by decide +kernel
theorem d6_43 : decode prog_171_method_1_code 43 = .ok (.invokevirtual 13, 3) := by decide +kernel
theorem pd__28_29I : parseMethodDescriptor "()I" = some ⟨[], some .int⟩ := by decide +kernel
theorem d6_46 : decode prog_171_method_1_code 46 = .ok (.iconst 1, 1) := by decide +kernel
theorem d6_47 : decode prog_171_method_1_code 47 = .ok (.if_icmp .ge 20, 3) := by decide +kernel
theorem d6_11 : decode prog_171_method_1_code 11 = .ok (.aload_n 1, 1) := by decide +kernel
theorem d6_12 : decode prog_171_method_1_code 12 = .ok (.invokevirtual 13, 3) := by decide +kernel
theorem d6_15 : decode prog_171_method_1_code 15 = .ok (.ifCond .ge 20, 3) := by decide +kernel
theorem pn_com_2fexample_2fgleanwork_2fgleanwork_2fserver_2fOwnLimits : plainName "com/example/gleanwork/gleanwork/server/OwnLimits" = true := by first | (simp [plainName, overriddenIn]; done) | decide +kernel
theorem ef_rmLI (mM : MethodId) (a : Addr) (o1 : Addr) (o2 : Addr) (p1 : Int32) (i1 : Int32) (p2 : Int32) (i2 : Int32) : entryFrame mM #[(.ref a), (.ref o1), (.ref o2)] 3 = mkF mM 0 #[.val (.ref a), .val (.ref o1), .val (.ref o2)] [] := by first | (simp [entryFrame, mkF, argsToLocals, Value.category]; done) | rfl
set_option maxRecDepth 65536 in
set_option maxHeartbeats 40000000 in
theorem rmLI (lL : Launch) (Z : State) (a0 : Array Value) (hw : ∀ d ∈ tables_1, d.before a0 Z = true) (ws : List Jvm.Cond) (a : Addr) (o1 : Addr) (o2 : Addr) (p1 : Int32) (i1 : Int32) (p2 : Int32) (i2 : Int32) (h0 : Heap) (n0 : Nat) (g_a : n0 ≤ a) (E_a : Exa Z h0 a "com/example/gleanwork/gleanwork/server/OwnLimits") (F_a_maxRunSeconds : Fld Z h0 a "com/example/gleanwork/gleanwork/server/OwnLimits" "maxRunSeconds" "Ljava/util/OptionalInt;" .null) (F_a_maxFailures : Fld Z h0 a "com/example/gleanwork/gleanwork/server/OwnLimits" "maxFailures" "Ljava/util/OptionalInt;" .null) (b1 : Opt Z h0 o1 p1 i1) (b2 : Opt Z h0 o2 p2 i2) (m1 : ¬ p1 = (0 : Int32) → ¬ i1 < (0 : Int32)) (m2 : ¬ p2 = (0 : Int32) → ¬ i2 < (1 : Int32)) :
    MetFree lL (⟨"com/example/gleanwork/gleanwork/server/OwnLimits", "<init>", "(Ljava/util/OptionalInt;Ljava/util/OptionalInt;)V"⟩ : MethodName) (head1 (Jvm.Cond.code (⟨"com/example/gleanwork/gleanwork/server/OwnLimits", "<init>", "(Ljava/util/OptionalInt;Ljava/util/OptionalInt;)V"⟩ : MethodName) prog_171_method_1_code 3 none :: ws) ({ frames := 2, cells := 0, slots := 0, locals := 24 } : Room)) (fun as_ uU_ => as_ = #[(.ref a), (.ref o1), (.ref o2)] ∧ Z.Warmed39 uU_.vm ∧ uU_.heap = h0) (fun _ _ _ _ _ => True) (fun _ uU_ oO_ uE_ => ∃ vV_ lL_, oO_ = .returned vV_ ∧ QiL Z a o1 o2 h0 n0 vV_ uE_.heap lL_ ∧ FrameEnd uU_ oO_ uE_ lL_ ({ frames := 2, cells := 0, slots := 0, locals := 24 } : Room).cells ({ frames := 2, cells := 0, slots := 0, locals := 24 } : Room).slots) := by
  refine MetFree.of_bodySF (plainFor_of_name pn_com_2fexample_2fgleanwork_2fgleanwork_2fserver_2fOwnLimits) hisR ?_
  intro pP eE sS mM args below meth cC s₁ Bd hml0 hP hK
  obtain ⟨rfl, hZ, hh⟩ := hP
  have hx := Bd.exec
  have hby := Bd.bytes
  have hml : cC.maxLocals = 3 := hml0
  have hown : sS.vm.findClass "com/example/gleanwork/gleanwork/server/OwnLimits" = some mM.cls := findClass_of_methodNamed Bd.named
  have hnm := (name_of_methodNamed Bd.named Bd.method).1
  have hret := Bd.returns
  have hlk := BodyLoose.notSynchronized Bd
  have X0 : Stand pP lL eE ({ frames := 2, cells := 0, slots := 0, locals := 24 } : Room) sS mM #[(.ref a), (.ref o1), (.ref o2)] below meth cC s₁ [] 0 0 := Stand.of_body Bd
  have e0 : s₁.heap = h0 := by rw [← hh, Bd.state]; rfl
  have N0 := Fr.nil n0
  show own_Go pP eE below sS (QiL Z a o1 o2 h0 n0) 0 0 (s₁.setTop (entryFrame mM #[(.ref a), (.ref o1), (.ref o2)] 3))
  refine own_st (A := s₁.setTop (mkF mM 0 #[.val (.ref a), .val (.ref o1), .val (.ref o2)] [])) (fun tT_ kK_ => castTop (ef_rmLI mM a o1 o2 p1 i1 p2 i2) kK_) ?_
  have Kp := Keep.refl h0 [a]
  refine own_st (A := s₁.setTop (mkF mM 1 #[.val (.ref a), .val (.ref o1), .val (.ref o2)] [(.ref a)])) (fun tT_ kK_ => XS.aloadN X0.here hx rfl (hb hby d6_0) rfl rfl kK_) ?_
  obtain ⟨_, _, ⟨T27, L27, k27, n27⟩, -, X27, ⟨Lc27, hQ27, l27, y27, z27⟩, st27⟩ := X0.specialBack hx (y := (⟨"java/lang/Record", "<init>", "()V"⟩ : MethodName)) rfl hown (mvT hZ (hw _ (List.mem_of_getElem? (i := 46) rfl))) (mvT hZ (hw _ (List.mem_of_getElem? (i := 47) rfl))) (mvT hZ (hw _ (List.mem_of_getElem? (i := 50) rfl))) (by decide) (backOf (W := 0) (rmRec lL Z a0 hw [] a h0 n0 ) hZ (hw _ (List.mem_of_getElem? (i := 50) rfl)) (hw _ (List.mem_of_getElem? (i := 49) rfl)) (by decide) (by decide)) (g := (mkF mM 1 #[.val (.ref a), .val (.ref o1), .val (.ref o2)] [(.ref a)])) rfl (by rw [hml]; rfl) (Steps.refl _) (a := a) (argsL := []) (rest := []) (lenOf pd__28_29V rfl) rfl (by show 2 * 0 + _ ≤ _; exact Nat.le_of_eq rfl) (hb hby d6_1) (fun _ _ => ⟨rfl, e0, (by decide : 0 + 0 ≤ _), (by decide : 0 + 0 ≤ _)⟩)
  dsimp only [Pt.U, Pt.locs, Pt.cells, Pt.slots] at X27 l27 y27 z27 st27 hQ27
  subst l27 y27 z27
  obtain ⟨rfl, N27q, e27⟩ := hQ27
  have N27 := Fr.app N0 N27q
  refine own_st (A := T27.setTop (mkF mM 4 #[.val (.ref a), .val (.ref o1), .val (.ref o2)] [])) (fun tT_ kK_ => st27.trans kK_) ?_
  refine own_st (A := T27.setTop (mkF mM 5 #[.val (.ref a), .val (.ref o1), .val (.ref o2)] [(.ref o1)])) (fun tT_ kK_ => XS.aloadN X27.here hx rfl (hb hby d6_4) rfl rfl kK_) ?_
  obtain ⟨cq28, kq28, q28a, q28b, q28c⟩ := isOf hZ e27 b1.1
  obtain ⟨_, _, ⟨T28, L28, k28, n28⟩, -, X28, ⟨Lc28, hQ28, l28, y28, z28⟩, st28⟩ := X27.virtualBack hx (y := (⟨"java/util/OptionalInt", "isPresent", "()Z"⟩ : MethodName)) (z := (⟨"java/util/OptionalInt", "isPresent", "()Z"⟩ : MethodName)) hown (mvT hZ (hw _ (List.mem_of_getElem? (i := 52) rfl))) (mvT hZ (hw _ (List.mem_of_getElem? (i := 53) rfl))) (notFace_of_selects (args := #[]) (mvT hZ (hw _ (List.mem_of_getElem? (i := 55) rfl)))) (mvT hZ (hw _ (List.mem_of_getElem? (i := 55) rfl))) (mvT hZ (hw _ (List.mem_of_getElem? (i := 54) rfl))) (by decide) (backOf (W := 0) (rmIs lL Z a0 hw [] o1 p1 i1 h0 n0 b1) hZ (hw _ (List.mem_of_getElem? (i := 56) rfl)) (hw _ (List.mem_of_getElem? (i := 40) rfl)) (by decide) (by decide)) q28a q28c (g := (mkF mM 5 #[.val (.ref a), .val (.ref o1), .val (.ref o2)] [(.ref o1)])) rfl (by rw [hml]; rfl) (Steps.refl _) (argsL := []) (rest := []) (lenOf pd__28_29Z rfl) rfl (by show 2 * 0 + _ ≤ _; exact Nat.le_of_eq rfl) (hb hby d6_5) (fun _ _ => ⟨rfl, e27, (by decide : 0 + 0 ≤ _), (by decide : 0 + 0 ≤ _)⟩)
  dsimp only [Pt.U, Pt.locs, Pt.cells, Pt.slots] at X28 l28 y28 z28 st28 hQ28
  subst l28 y28 z28
  obtain ⟨rfl, N28q, e28⟩ := hQ28
  have N28 := Fr.app N27 N28q
  refine own_st (A := T28.setTop (mkF mM 8 #[.val (.ref a), .val (.ref o1), .val (.ref o2)] [(.int p1)])) (fun tT_ kK_ => st28.trans kK_) ?_
  by_cases hc8_29 : p1 = (0 : Int32)
  · skip
    refine own_st (A := T28.setTop (mkF mM 35 #[.val (.ref a), .val (.ref o1), .val (.ref o2)] [])) (fun tT_ kK_ => XS.ifYes X28.here hx rfl (pc0 := 8) (pc' := 35) rfl (hb hby d6_8) rfl ((if0 _ _).trans (teq hc8_29).1) (by decide) (by decide) kK_) ?_
    refine own_st (A := T28.setTop (mkF mM 36 #[.val (.ref a), .val (.ref o1), .val (.ref o2)] [(.ref o2)])) (fun tT_ kK_ => XS.aloadN X28.here hx rfl (hb hby d6_35) rfl rfl kK_) ?_
    obtain ⟨cq30, kq30, q30a, q30b, q30c⟩ := isOf hZ e28 b2.1
    obtain ⟨_, _, ⟨T30, L30, k30, n30⟩, -, X30, ⟨Lc30, hQ30, l30, y30, z30⟩, st30⟩ := X28.virtualBack hx (y := (⟨"java/util/OptionalInt", "isPresent", "()Z"⟩ : MethodName)) (z := (⟨"java/util/OptionalInt", "isPresent", "()Z"⟩ : MethodName)) hown (mvT hZ (hw _ (List.mem_of_getElem? (i := 52) rfl))) (mvT hZ (hw _ (List.mem_of_getElem? (i := 53) rfl))) (notFace_of_selects (args := #[]) (mvT hZ (hw _ (List.mem_of_getElem? (i := 55) rfl)))) (mvT hZ (hw _ (List.mem_of_getElem? (i := 55) rfl))) (mvT hZ (hw _ (List.mem_of_getElem? (i := 54) rfl))) (by decide) (backOf (W := 0) (rmIs lL Z a0 hw [] o2 p2 i2 h0 n0 b2) hZ (hw _ (List.mem_of_getElem? (i := 56) rfl)) (hw _ (List.mem_of_getElem? (i := 40) rfl)) (by decide) (by decide)) q30a q30c (g := (mkF mM 36 #[.val (.ref a), .val (.ref o1), .val (.ref o2)] [(.ref o2)])) rfl (by rw [hml]; rfl) (Steps.refl _) (argsL := []) (rest := []) (lenOf pd__28_29Z rfl) rfl (by show 2 * 0 + _ ≤ _; exact Nat.le_of_eq rfl) (hb hby d6_36) (fun _ _ => ⟨rfl, e28, (by decide : 0 + 0 ≤ _), (by decide : 0 + 0 ≤ _)⟩)
    dsimp only [Pt.U, Pt.locs, Pt.cells, Pt.slots] at X30 l30 y30 z30 st30 hQ30
    subst l30 y30 z30
    obtain ⟨rfl, N30q, e30⟩ := hQ30
    have N30 := Fr.app N28 N30q
    refine own_st (A := T30.setTop (mkF mM 39 #[.val (.ref a), .val (.ref o1), .val (.ref o2)] [(.int p2)])) (fun tT_ kK_ => st30.trans kK_) ?_
    by_cases hc39_31 : p2 = (0 : Int32)
    · skip
      refine own_st (A := T30.setTop (mkF mM 67 #[.val (.ref a), .val (.ref o1), .val (.ref o2)] [])) (fun tT_ kK_ => XS.ifYes X30.here hx rfl (pc0 := 39) (pc' := 67) rfl (hb hby d6_39) rfl ((if0 _ _).trans (teq hc39_31).1) (by decide) (by decide) kK_) ?_
      refine own_st (A := T30.setTop (mkF mM 68 #[.val (.ref a), .val (.ref o1), .val (.ref o2)] [(.ref a)])) (fun tT_ kK_ => XS.aloadN X30.here hx rfl (hb hby d6_67) rfl rfl kK_) ?_
      refine own_st (A := T30.setTop (mkF mM 69 #[.val (.ref a), .val (.ref o1), .val (.ref o2)] [(.ref o1), (.ref a)])) (fun tT_ kK_ => XS.aloadN X30.here hx rfl (hb hby d6_68) rfl rfl kK_) ?_
      obtain ⟨T32, h32, X32, e32, W32, st32⟩ := putF X30 hx hZ hown (host := "") (Or.inl (hw _ (List.mem_of_getElem? (i := 59) rfl))) Via.refl e30 F_a_maxRunSeconds E_a (Or.inr ⟨(hw _ (List.mem_of_getElem? (i := 60) rfl)), rfl, hnm⟩) (hw _ (List.mem_of_getElem? (i := 37) rfl)) (ty := (.object "java/util/OptionalInt")) (by decide) rfl rfl (g := (mkF mM 69 #[.val (.ref a), .val (.ref o1), .val (.ref o2)] [(.ref o1), (.ref a)])) rfl rfl (hb hby d6_69)
      have N32 := Fr.snoc X32 N30 g_a
      have F_a_maxRunSeconds := F_a_maxRunSeconds.same W32
      have F_a_maxFailures := F_a_maxFailures.other W32 (Or.inr (slot_ne (Or.inr (hw _ (List.mem_of_getElem? (i := 62) rfl))) (Or.inr (hw _ (List.mem_of_getElem? (i := 60) rfl))) (by decide) (t := (.object "java/util/OptionalInt")) (t' := (.object "java/util/OptionalInt")) (by decide) (by decide)))
      have E_a := E_a.wr W32
      have Kp := Kp.wr W32 (Or.inl (List.mem_of_getElem? (i := 0) rfl))
      refine own_st (A := T32.setTop (mkF mM 72 #[.val (.ref a), .val (.ref o1), .val (.ref o2)] [])) (fun tT_ kK_ => st32 tT_ kK_) ?_
      refine own_st (A := T32.setTop (mkF mM 73 #[.val (.ref a), .val (.ref o1), .val (.ref o2)] [(.ref a)])) (fun tT_ kK_ => XS.aloadN X32.here hx rfl (hb hby d6_72) rfl rfl kK_) ?_
      refine own_st (A := T32.setTop (mkF mM 74 #[.val (.ref a), .val (.ref o1), .val (.ref o2)] [(.ref o2), (.ref a)])) (fun tT_ kK_ => XS.aloadN X32.here hx rfl (hb hby d6_73) rfl rfl kK_) ?_
      obtain ⟨T33, h33, X33, e33, W33, st33⟩ := putF X32 hx hZ hown (host := "") (Or.inl (hw _ (List.mem_of_getElem? (i := 61) rfl))) Via.refl e32 F_a_maxFailures E_a (Or.inr ⟨(hw _ (List.mem_of_getElem? (i := 62) rfl)), rfl, hnm⟩) (hw _ (List.mem_of_getElem? (i := 37) rfl)) (ty := (.object "java/util/OptionalInt")) (by decide) rfl rfl (g := (mkF mM 74 #[.val (.ref a), .val (.ref o1), .val (.ref o2)] [(.ref o2), (.ref a)])) rfl rfl (hb hby d6_74)
      have N33 := Fr.snoc X33 N32 g_a
      have F_a_maxRunSeconds := F_a_maxRunSeconds.other W33 (Or.inr (slot_ne (Or.inr (hw _ (List.mem_of_getElem? (i := 60) rfl))) (Or.inr (hw _ (List.mem_of_getElem? (i := 62) rfl))) (by decide) (t := (.object "java/util/OptionalInt")) (t' := (.object "java/util/OptionalInt")) (by decide) (by decide)))
      have F_a_maxFailures := F_a_maxFailures.same W33
      have E_a := E_a.wr W33
      have Kp := Kp.wr W33 (Or.inl (List.mem_of_getElem? (i := 0) rfl))
      refine own_st (A := T33.setTop (mkF mM 77 #[.val (.ref a), .val (.ref o1), .val (.ref o2)] [])) (fun tT_ kK_ => st33 tT_ kK_) ?_
      exact own_retV X33 hx hlk hret (hb hby d6_77) (by rw [e33]; exact ⟨rfl, N33, Kp, E_a, F_a_maxRunSeconds, F_a_maxFailures⟩) (by decide) (by decide)
    · skip
      refine own_st (A := T30.setTop (mkF mM 42 #[.val (.ref a), .val (.ref o1), .val (.ref o2)] [])) (fun tT_ kK_ => XS.ifNo X30.here hx rfl (hb hby d6_39) rfl ((if0 _ _).trans (feq hc39_31).1) kK_) ?_
      refine own_st (A := T30.setTop (mkF mM 43 #[.val (.ref a), .val (.ref o1), .val (.ref o2)] [(.ref o2)])) (fun tT_ kK_ => XS.aloadN X30.here hx rfl (hb hby d6_42) rfl rfl kK_) ?_
      obtain ⟨cq34, kq34, q34a, q34b, q34c⟩ := isOf hZ e30 b2.1
      obtain ⟨_, _, ⟨T34, L34, k34, n34⟩, -, X34, ⟨Lc34, hQ34, l34, y34, z34⟩, st34⟩ := X30.virtualBack hx (y := (⟨"java/util/OptionalInt", "getAsInt", "()I"⟩ : MethodName)) (z := (⟨"java/util/OptionalInt", "getAsInt", "()I"⟩ : MethodName)) hown (mvT hZ (hw _ (List.mem_of_getElem? (i := 130) rfl))) (mvT hZ (hw _ (List.mem_of_getElem? (i := 131) rfl))) (notFace_of_selects (args := #[]) (mvT hZ (hw _ (List.mem_of_getElem? (i := 133) rfl)))) (mvT hZ (hw _ (List.mem_of_getElem? (i := 133) rfl))) (mvT hZ (hw _ (List.mem_of_getElem? (i := 132) rfl))) (by decide) (backOf (W := 0) (rmGet lL Z a0 hw [] o2 p2 i2 h0 n0 b2 hc39_31) hZ (hw _ (List.mem_of_getElem? (i := 134) rfl)) (hw _ (List.mem_of_getElem? (i := 40) rfl)) (by decide) (by decide)) q34a q34c (g := (mkF mM 43 #[.val (.ref a), .val (.ref o1), .val (.ref o2)] [(.ref o2)])) rfl (by rw [hml]; rfl) (Steps.refl _) (argsL := []) (rest := []) (lenOf pd__28_29I rfl) rfl (by show 2 * 0 + _ ≤ _; exact Nat.le_of_eq rfl) (hb hby d6_43) (fun _ _ => ⟨rfl, e30, (by decide : 0 + 0 ≤ _), (by decide : 0 + 0 ≤ _)⟩)
      dsimp only [Pt.U, Pt.locs, Pt.cells, Pt.slots] at X34 l34 y34 z34 st34 hQ34
      subst l34 y34 z34
      obtain ⟨rfl, N34q, e34⟩ := hQ34
      have N34 := Fr.app N30 N34q
      refine own_st (A := T34.setTop (mkF mM 46 #[.val (.ref a), .val (.ref o1), .val (.ref o2)] [(.int i2)])) (fun tT_ kK_ => st34.trans kK_) ?_
      refine own_st (A := T34.setTop (mkF mM 47 #[.val (.ref a), .val (.ref o1), .val (.ref o2)] [(.int (1 : Int32)), (.int i2)])) (fun tT_ kK_ => XS.iconst X34.here hx rfl (hb hby d6_46) kK_) ?_
      refine own_st (A := T34.setTop (mkF mM 67 #[.val (.ref a), .val (.ref o1), .val (.ref o2)] [])) (fun tT_ kK_ => XS.icmpYes X34.here hx rfl (pc0 := 47) (pc' := 67) rfl (hb hby d6_47) rfl (flt (m2 hc39_31)).2.1 (by decide) (by decide) kK_) ?_
      refine own_st (A := T34.setTop (mkF mM 68 #[.val (.ref a), .val (.ref o1), .val (.ref o2)] [(.ref a)])) (fun tT_ kK_ => XS.aloadN X34.here hx rfl (hb hby d6_67) rfl rfl kK_) ?_
      refine own_st (A := T34.setTop (mkF mM 69 #[.val (.ref a), .val (.ref o1), .val (.ref o2)] [(.ref o1), (.ref a)])) (fun tT_ kK_ => XS.aloadN X34.here hx rfl (hb hby d6_68) rfl rfl kK_) ?_
      obtain ⟨T35, h35, X35, e35, W35, st35⟩ := putF X34 hx hZ hown (host := "") (Or.inl (hw _ (List.mem_of_getElem? (i := 59) rfl))) Via.refl e34 F_a_maxRunSeconds E_a (Or.inr ⟨(hw _ (List.mem_of_getElem? (i := 60) rfl)), rfl, hnm⟩) (hw _ (List.mem_of_getElem? (i := 37) rfl)) (ty := (.object "java/util/OptionalInt")) (by decide) rfl rfl (g := (mkF mM 69 #[.val (.ref a), .val (.ref o1), .val (.ref o2)] [(.ref o1), (.ref a)])) rfl rfl (hb hby d6_69)
      have N35 := Fr.snoc X35 N34 g_a
      have F_a_maxRunSeconds := F_a_maxRunSeconds.same W35
      have F_a_maxFailures := F_a_maxFailures.other W35 (Or.inr (slot_ne (Or.inr (hw _ (List.mem_of_getElem? (i := 62) rfl))) (Or.inr (hw _ (List.mem_of_getElem? (i := 60) rfl))) (by decide) (t := (.object "java/util/OptionalInt")) (t' := (.object "java/util/OptionalInt")) (by decide) (by decide)))
      have E_a := E_a.wr W35
      have Kp := Kp.wr W35 (Or.inl (List.mem_of_getElem? (i := 0) rfl))
      refine own_st (A := T35.setTop (mkF mM 72 #[.val (.ref a), .val (.ref o1), .val (.ref o2)] [])) (fun tT_ kK_ => st35 tT_ kK_) ?_
      refine own_st (A := T35.setTop (mkF mM 73 #[.val (.ref a), .val (.ref o1), .val (.ref o2)] [(.ref a)])) (fun tT_ kK_ => XS.aloadN X35.here hx rfl (hb hby d6_72) rfl rfl kK_) ?_
      refine own_st (A := T35.setTop (mkF mM 74 #[.val (.ref a), .val (.ref o1), .val (.ref o2)] [(.ref o2), (.ref a)])) (fun tT_ kK_ => XS.aloadN X35.here hx rfl (hb hby d6_73) rfl rfl kK_) ?_
      obtain ⟨T36, h36, X36, e36, W36, st36⟩ := putF X35 hx hZ hown (host := "") (Or.inl (hw _ (List.mem_of_getElem? (i := 61) rfl))) Via.refl e35 F_a_maxFailures E_a (Or.inr ⟨(hw _ (List.mem_of_getElem? (i := 62) rfl)), rfl, hnm⟩) (hw _ (List.mem_of_getElem? (i := 37) rfl)) (ty := (.object "java/util/OptionalInt")) (by decide) rfl rfl (g := (mkF mM 74 #[.val (.ref a), .val (.ref o1), .val (.ref o2)] [(.ref o2), (.ref a)])) rfl rfl (hb hby d6_74)
      have N36 := Fr.snoc X36 N35 g_a
      have F_a_maxRunSeconds := F_a_maxRunSeconds.other W36 (Or.inr (slot_ne (Or.inr (hw _ (List.mem_of_getElem? (i := 60) rfl))) (Or.inr (hw _ (List.mem_of_getElem? (i := 62) rfl))) (by decide) (t := (.object "java/util/OptionalInt")) (t' := (.object "java/util/OptionalInt")) (by decide) (by decide)))
      have F_a_maxFailures := F_a_maxFailures.same W36
      have E_a := E_a.wr W36
      have Kp := Kp.wr W36 (Or.inl (List.mem_of_getElem? (i := 0) rfl))
      refine own_st (A := T36.setTop (mkF mM 77 #[.val (.ref a), .val (.ref o1), .val (.ref o2)] [])) (fun tT_ kK_ => st36 tT_ kK_) ?_
      exact own_retV X36 hx hlk hret (hb hby d6_77) (by rw [e36]; exact ⟨rfl, N36, Kp, E_a, F_a_maxRunSeconds, F_a_maxFailures⟩) (by decide) (by decide)
  · skip
    refine own_st (A := T28.setTop (mkF mM 11 #[.val (.ref a), .val (.ref o1), .val (.ref o2)] [])) (fun tT_ kK_ => XS.ifNo X28.here hx rfl (hb hby d6_8) rfl ((if0 _ _).trans (feq hc8_29).1) kK_) ?_
    refine own_st (A := T28.setTop (mkF mM 12 #[.val (.ref a), .val (.ref o1), .val (.ref o2)] [(.ref o1)])) (fun tT_ kK_ => XS.aloadN X28.here hx rfl (hb hby d6_11) rfl rfl kK_) ?_
    obtain ⟨cq37, kq37, q37a, q37b, q37c⟩ := isOf hZ e28 b1.1
    obtain ⟨_, _, ⟨T37, L37, k37, n37⟩, -, X37, ⟨Lc37, hQ37, l37, y37, z37⟩, st37⟩ := X28.virtualBack hx (y := (⟨"java/util/OptionalInt", "getAsInt", "()I"⟩ : MethodName)) (z := (⟨"java/util/OptionalInt", "getAsInt", "()I"⟩ : MethodName)) hown (mvT hZ (hw _ (List.mem_of_getElem? (i := 130) rfl))) (mvT hZ (hw _ (List.mem_of_getElem? (i := 131) rfl))) (notFace_of_selects (args := #[]) (mvT hZ (hw _ (List.mem_of_getElem? (i := 133) rfl)))) (mvT hZ (hw _ (List.mem_of_getElem? (i := 133) rfl))) (mvT hZ (hw _ (List.mem_of_getElem? (i := 132) rfl))) (by decide) (backOf (W := 0) (rmGet lL Z a0 hw [] o1 p1 i1 h0 n0 b1 hc8_29) hZ (hw _ (List.mem_of_getElem? (i := 134) rfl)) (hw _ (List.mem_of_getElem? (i := 40) rfl)) (by decide) (by decide)) q37a q37c (g := (mkF mM 12 #[.val (.ref a), .val (.ref o1), .val (.ref o2)] [(.ref o1)])) rfl (by rw [hml]; rfl) (Steps.refl _) (argsL := []) (rest := []) (lenOf pd__28_29I rfl) rfl (by show 2 * 0 + _ ≤ _; exact Nat.le_of_eq rfl) (hb hby d6_12) (fun _ _ => ⟨rfl, e28, (by decide : 0 + 0 ≤ _), (by decide : 0 + 0 ≤ _)⟩)
    dsimp only [Pt.U, Pt.locs, Pt.cells, Pt.slots] at X37 l37 y37 z37 st37 hQ37
    subst l37 y37 z37
    obtain ⟨rfl, N37q, e37⟩ := hQ37
    have N37 := Fr.app N28 N37q
    refine own_st (A := T37.setTop (mkF mM 15 #[.val (.ref a), .val (.ref o1), .val (.ref o2)] [(.int i1)])) (fun tT_ kK_ => st37.trans kK_) ?_
    refine own_st (A := T37.setTop (mkF mM 35 #[.val (.ref a), .val (.ref o1), .val (.ref o2)] [])) (fun tT_ kK_ => XS.ifYes X37.here hx rfl (pc0 := 15) (pc' := 35) rfl (hb hby d6_15) rfl ((if0 _ _).trans (flt (m1 hc8_29)).2.1) (by decide) (by decide) kK_) ?_
    refine own_st (A := T37.setTop (mkF mM 36 #[.val (.ref a), .val (.ref o1), .val (.ref o2)] [(.ref o2)])) (fun tT_ kK_ => XS.aloadN X37.here hx rfl (hb hby d6_35) rfl rfl kK_) ?_
    obtain ⟨cq38, kq38, q38a, q38b, q38c⟩ := isOf hZ e37 b2.1
    obtain ⟨_, _, ⟨T38, L38, k38, n38⟩, -, X38, ⟨Lc38, hQ38, l38, y38, z38⟩, st38⟩ := X37.virtualBack hx (y := (⟨"java/util/OptionalInt", "isPresent", "()Z"⟩ : MethodName)) (z := (⟨"java/util/OptionalInt", "isPresent", "()Z"⟩ : MethodName)) hown (mvT hZ (hw _ (List.mem_of_getElem? (i := 52) rfl))) (mvT hZ (hw _ (List.mem_of_getElem? (i := 53) rfl))) (notFace_of_selects (args := #[]) (mvT hZ (hw _ (List.mem_of_getElem? (i := 55) rfl)))) (mvT hZ (hw _ (List.mem_of_getElem? (i := 55) rfl))) (mvT hZ (hw _ (List.mem_of_getElem? (i := 54) rfl))) (by decide) (backOf (W := 0) (rmIs lL Z a0 hw [] o2 p2 i2 h0 n0 b2) hZ (hw _ (List.mem_of_getElem? (i := 56) rfl)) (hw _ (List.mem_of_getElem? (i := 40) rfl)) (by decide) (by decide)) q38a q38c (g := (mkF mM 36 #[.val (.ref a), .val (.ref o1), .val (.ref o2)] [(.ref o2)])) rfl (by rw [hml]; rfl) (Steps.refl _) (argsL := []) (rest := []) (lenOf pd__28_29Z rfl) rfl (by show 2 * 0 + _ ≤ _; exact Nat.le_of_eq rfl) (hb hby d6_36) (fun _ _ => ⟨rfl, e37, (by decide : 0 + 0 ≤ _), (by decide : 0 + 0 ≤ _)⟩)
    dsimp only [Pt.U, Pt.locs, Pt.cells, Pt.slots] at X38 l38 y38 z38 st38 hQ38
    subst l38 y38 z38
    obtain ⟨rfl, N38q, e38⟩ := hQ38
    have N38 := Fr.app N37 N38q
    refine own_st (A := T38.setTop (mkF mM 39 #[.val (.ref a), .val (.ref o1), .val (.ref o2)] [(.int p2)])) (fun tT_ kK_ => st38.trans kK_) ?_
    by_cases hc39_39 : p2 = (0 : Int32)
    · skip
      refine own_st (A := T38.setTop (mkF mM 67 #[.val (.ref a), .val (.ref o1), .val (.ref o2)] [])) (fun tT_ kK_ => XS.ifYes X38.here hx rfl (pc0 := 39) (pc' := 67) rfl (hb hby d6_39) rfl ((if0 _ _).trans (teq hc39_39).1) (by decide) (by decide) kK_) ?_
      refine own_st (A := T38.setTop (mkF mM 68 #[.val (.ref a), .val (.ref o1), .val (.ref o2)] [(.ref a)])) (fun tT_ kK_ => XS.aloadN X38.here hx rfl (hb hby d6_67) rfl rfl kK_) ?_
      refine own_st (A := T38.setTop (mkF mM 69 #[.val (.ref a), .val (.ref o1), .val (.ref o2)] [(.ref o1), (.ref a)])) (fun tT_ kK_ => XS.aloadN X38.here hx rfl (hb hby d6_68) rfl rfl kK_) ?_
      obtain ⟨T40, h40, X40, e40, W40, st40⟩ := putF X38 hx hZ hown (host := "") (Or.inl (hw _ (List.mem_of_getElem? (i := 59) rfl))) Via.refl e38 F_a_maxRunSeconds E_a (Or.inr ⟨(hw _ (List.mem_of_getElem? (i := 60) rfl)), rfl, hnm⟩) (hw _ (List.mem_of_getElem? (i := 37) rfl)) (ty := (.object "java/util/OptionalInt")) (by decide) rfl rfl (g := (mkF mM 69 #[.val (.ref a), .val (.ref o1), .val (.ref o2)] [(.ref o1), (.ref a)])) rfl rfl (hb hby d6_69)
      have N40 := Fr.snoc X40 N38 g_a
      have F_a_maxRunSeconds := F_a_maxRunSeconds.same W40
      have F_a_maxFailures := F_a_maxFailures.other W40 (Or.inr (slot_ne (Or.inr (hw _ (List.mem_of_getElem? (i := 62) rfl))) (Or.inr (hw _ (List.mem_of_getElem? (i := 60) rfl))) (by decide) (t := (.object "java/util/OptionalInt")) (t' := (.object "java/util/OptionalInt")) (by decide) (by decide)))
      have E_a := E_a.wr W40
      have Kp := Kp.wr W40 (Or.inl (List.mem_of_getElem? (i := 0) rfl))
      refine own_st (A := T40.setTop (mkF mM 72 #[.val (.ref a), .val (.ref o1), .val (.ref o2)] [])) (fun tT_ kK_ => st40 tT_ kK_) ?_
      refine own_st (A := T40.setTop (mkF mM 73 #[.val (.ref a), .val (.ref o1), .val (.ref o2)] [(.ref a)])) (fun tT_ kK_ => XS.aloadN X40.here hx rfl (hb hby d6_72) rfl rfl kK_) ?_
      refine own_st (A := T40.setTop (mkF mM 74 #[.val (.ref a), .val (.ref o1), .val (.ref o2)] [(.ref o2), (.ref a)])) (fun tT_ kK_ => XS.aloadN X40.here hx rfl (hb hby d6_73) rfl rfl kK_) ?_
      obtain ⟨T41, h41, X41, e41, W41, st41⟩ := putF X40 hx hZ hown (host := "") (Or.inl (hw _ (List.mem_of_getElem? (i := 61) rfl))) Via.refl e40 F_a_maxFailures E_a (Or.inr ⟨(hw _ (List.mem_of_getElem? (i := 62) rfl)), rfl, hnm⟩) (hw _ (List.mem_of_getElem? (i := 37) rfl)) (ty := (.object "java/util/OptionalInt")) (by decide) rfl rfl (g := (mkF mM 74 #[.val (.ref a), .val (.ref o1), .val (.ref o2)] [(.ref o2), (.ref a)])) rfl rfl (hb hby d6_74)
      have N41 := Fr.snoc X41 N40 g_a
      have F_a_maxRunSeconds := F_a_maxRunSeconds.other W41 (Or.inr (slot_ne (Or.inr (hw _ (List.mem_of_getElem? (i := 60) rfl))) (Or.inr (hw _ (List.mem_of_getElem? (i := 62) rfl))) (by decide) (t := (.object "java/util/OptionalInt")) (t' := (.object "java/util/OptionalInt")) (by decide) (by decide)))
      have F_a_maxFailures := F_a_maxFailures.same W41
      have E_a := E_a.wr W41
      have Kp := Kp.wr W41 (Or.inl (List.mem_of_getElem? (i := 0) rfl))
      refine own_st (A := T41.setTop (mkF mM 77 #[.val (.ref a), .val (.ref o1), .val (.ref o2)] [])) (fun tT_ kK_ => st41 tT_ kK_) ?_
      exact own_retV X41 hx hlk hret (hb hby d6_77) (by rw [e41]; exact ⟨rfl, N41, Kp, E_a, F_a_maxRunSeconds, F_a_maxFailures⟩) (by decide) (by decide)
    · skip
      refine own_st (A := T38.setTop (mkF mM 42 #[.val (.ref a), .val (.ref o1), .val (.ref o2)] [])) (fun tT_ kK_ => XS.ifNo X38.here hx rfl (hb hby d6_39) rfl ((if0 _ _).trans (feq hc39_39).1) kK_) ?_
      refine own_st (A := T38.setTop (mkF mM 43 #[.val (.ref a), .val (.ref o1), .val (.ref o2)] [(.ref o2)])) (fun tT_ kK_ => XS.aloadN X38.here hx rfl (hb hby d6_42) rfl rfl kK_) ?_
      obtain ⟨cq42, kq42, q42a, q42b, q42c⟩ := isOf hZ e38 b2.1
      obtain ⟨_, _, ⟨T42, L42, k42, n42⟩, -, X42, ⟨Lc42, hQ42, l42, y42, z42⟩, st42⟩ := X38.virtualBack hx (y := (⟨"java/util/OptionalInt", "getAsInt", "()I"⟩ : MethodName)) (z := (⟨"java/util/OptionalInt", "getAsInt", "()I"⟩ : MethodName)) hown (mvT hZ (hw _ (List.mem_of_getElem? (i := 130) rfl))) (mvT hZ (hw _ (List.mem_of_getElem? (i := 131) rfl))) (notFace_of_selects (args := #[]) (mvT hZ (hw _ (List.mem_of_getElem? (i := 133) rfl)))) (mvT hZ (hw _ (List.mem_of_getElem? (i := 133) rfl))) (mvT hZ (hw _ (List.mem_of_getElem? (i := 132) rfl))) (by decide) (backOf (W := 0) (rmGet lL Z a0 hw [] o2 p2 i2 h0 n0 b2 hc39_39) hZ (hw _ (List.mem_of_getElem? (i := 134) rfl)) (hw _ (List.mem_of_getElem? (i := 40) rfl)) (by decide) (by decide)) q42a q42c (g := (mkF mM 43 #[.val (.ref a), .val (.ref o1), .val (.ref o2)] [(.ref o2)])) rfl (by rw [hml]; rfl) (Steps.refl _) (argsL := []) (rest := []) (lenOf pd__28_29I rfl) rfl (by show 2 * 0 + _ ≤ _; exact Nat.le_of_eq rfl) (hb hby d6_43) (fun _ _ => ⟨rfl, e38, (by decide : 0 + 0 ≤ _), (by decide : 0 + 0 ≤ _)⟩)
      dsimp only [Pt.U, Pt.locs, Pt.cells, Pt.slots] at X42 l42 y42 z42 st42 hQ42
      subst l42 y42 z42
      obtain ⟨rfl, N42q, e42⟩ := hQ42
      have N42 := Fr.app N38 N42q
      refine own_st (A := T42.setTop (mkF mM 46 #[.val (.ref a), .val (.ref o1), .val (.ref o2)] [(.int i2)])) (fun tT_ kK_ => st42.trans kK_) ?_
      refine own_st (A := T42.setTop (mkF mM 47 #[.val (.ref a), .val (.ref o1), .val (.ref o2)] [(.int (1 : Int32)), (.int i2)])) (fun tT_ kK_ => XS.iconst X42.here hx rfl (hb hby d6_46) kK_) ?_
      refine own_st (A := T42.setTop (mkF mM 67 #[.val (.ref a), .val (.ref o1), .val (.ref o2)] [])) (fun tT_ kK_ => XS.icmpYes X42.here hx rfl (pc0 := 47) (pc' := 67) rfl (hb hby d6_47) rfl (flt (m2 hc39_39)).2.1 (by decide) (by decide) kK_) ?_
      refine own_st (A := T42.setTop (mkF mM 68 #[.val (.ref a), .val (.ref o1), .val (.ref o2)] [(.ref a)])) (fun tT_ kK_ => XS.aloadN X42.here hx rfl (hb hby d6_67) rfl rfl kK_) ?_
      refine own_st (A := T42.setTop (mkF mM 69 #[.val (.ref a), .val (.ref o1), .val (.ref o2)] [(.ref o1), (.ref a)])) (fun tT_ kK_ => XS.aloadN X42.here hx rfl (hb hby d6_68) rfl rfl kK_) ?_
      obtain ⟨T43, h43, X43, e43, W43, st43⟩ := putF X42 hx hZ hown (host := "") (Or.inl (hw _ (List.mem_of_getElem? (i := 59) rfl))) Via.refl e42 F_a_maxRunSeconds E_a (Or.inr ⟨(hw _ (List.mem_of_getElem? (i := 60) rfl)), rfl, hnm⟩) (hw _ (List.mem_of_getElem? (i := 37) rfl)) (ty := (.object "java/util/OptionalInt")) (by decide) rfl rfl (g := (mkF mM 69 #[.val (.ref a), .val (.ref o1), .val (.ref o2)] [(.ref o1), (.ref a)])) rfl rfl (hb hby d6_69)
      have N43 := Fr.snoc X43 N42 g_a
      have F_a_maxRunSeconds := F_a_maxRunSeconds.same W43
      have F_a_maxFailures := F_a_maxFailures.other W43 (Or.inr (slot_ne (Or.inr (hw _ (List.mem_of_getElem? (i := 62) rfl))) (Or.inr (hw _ (List.mem_of_getElem? (i := 60) rfl))) (by decide) (t := (.object "java/util/OptionalInt")) (t' := (.object "java/util/OptionalInt")) (by decide) (by decide)))
      have E_a := E_a.wr W43
      have Kp := Kp.wr W43 (Or.inl (List.mem_of_getElem? (i := 0) rfl))
      refine own_st (A := T43.setTop (mkF mM 72 #[.val (.ref a), .val (.ref o1), .val (.ref o2)] [])) (fun tT_ kK_ => st43 tT_ kK_) ?_
      refine own_st (A := T43.setTop (mkF mM 73 #[.val (.ref a), .val (.ref o1), .val (.ref o2)] [(.ref a)])) (fun tT_ kK_ => XS.aloadN X43.here hx rfl (hb hby d6_72) rfl rfl kK_) ?_
      refine own_st (A := T43.setTop (mkF mM 74 #[.val (.ref a), .val (.ref o1), .val (.ref o2)] [(.ref o2), (.ref a)])) (fun tT_ kK_ => XS.aloadN X43.here hx rfl (hb hby d6_73) rfl rfl kK_) ?_
      obtain ⟨T44, h44, X44, e44, W44, st44⟩ := putF X43 hx hZ hown (host := "") (Or.inl (hw _ (List.mem_of_getElem? (i := 61) rfl))) Via.refl e43 F_a_maxFailures E_a (Or.inr ⟨(hw _ (List.mem_of_getElem? (i := 62) rfl)), rfl, hnm⟩) (hw _ (List.mem_of_getElem? (i := 37) rfl)) (ty := (.object "java/util/OptionalInt")) (by decide) rfl rfl (g := (mkF mM 74 #[.val (.ref a), .val (.ref o1), .val (.ref o2)] [(.ref o2), (.ref a)])) rfl rfl (hb hby d6_74)
      have N44 := Fr.snoc X44 N43 g_a
      have F_a_maxRunSeconds := F_a_maxRunSeconds.other W44 (Or.inr (slot_ne (Or.inr (hw _ (List.mem_of_getElem? (i := 60) rfl))) (Or.inr (hw _ (List.mem_of_getElem? (i := 62) rfl))) (by decide) (t := (.object "java/util/OptionalInt")) (t' := (.object "java/util/OptionalInt")) (by decide) (by decide)))
      have F_a_maxFailures := F_a_maxFailures.same W44
      have E_a := E_a.wr W44
      have Kp := Kp.wr W44 (Or.inl (List.mem_of_getElem? (i := 0) rfl))
      refine own_st (A := T44.setTop (mkF mM 77 #[.val (.ref a), .val (.ref o1), .val (.ref o2)] [])) (fun tT_ kK_ => st44 tT_ kK_) ?_
      exact own_retV X44 hx hlk hret (hb hby d6_77) (by rw [e44]; exact ⟨rfl, N44, Kp, E_a, F_a_maxRunSeconds, F_a_maxFailures⟩) (by decide) (by decide)
theorem d4_0 : decode prog_171_method_4_code 0 = .ok (.new 28, 3) := by decide +kernel
theorem d4_3 : decode prog_171_method_4_code 3 = .ok (.dup, 1) := by decide +kernel
theorem d4_4 : decode prog_171_method_4_code 4 = .ok (.aload_n 0, 1) := by decide +kernel
theorem d4_5 : decode prog_171_method_4_code 5 = .ok (.ifnonnull 9, 3) := by decide +kernel
theorem d4_8 : decode prog_171_method_4_code 8 = .ok (.invokestatic 45, 3) := by decide +kernel
theorem pd__28_29Ljava_2futil_2fOptionalInt_3b : parseMethodDescriptor "()Ljava/util/OptionalInt;" = some ⟨[], some (.object "java/util/OptionalInt")⟩ := by decide +kernel
theorem d4_11 : decode prog_171_method_4_code 11 = .ok (.goto 10, 3) := by decide +kernel
theorem d4_21 : decode prog_171_method_4_code 21 = .ok (.aload_n 1, 1) := by decide +kernel
theorem d4_22 : decode prog_171_method_4_code 22 = .ok (.ifnonnull 9, 3) := by decide +kernel
theorem d4_25 : decode prog_171_method_4_code 25 = .ok (.invokestatic 45, 3) := by decide +kernel
theorem d4_28 : decode prog_171_method_4_code 28 = .ok (.goto 10, 3) := by decide +kernel
theorem d4_38 : decode prog_171_method_4_code 38 = .ok (.invokespecial 40, 3) := by decide +kernel
theorem pd__28Ljava_2futil_2fOptionalInt_3bLjava_2futil_2fOptionalInt_3b_29V : parseMethodDescriptor "(Ljava/util/OptionalInt;Ljava/util/OptionalInt;)V" = some ⟨[(.object "java/util/OptionalInt"), (.object "java/util/OptionalInt")], none⟩ := by decide +kernel
theorem d4_41 : decode prog_171_method_4_code 41 = .ok (.areturn, 1) := by decide +kernel
theorem ef_rmReq00 (mM : MethodId) (em : Addr) : entryFrame mM #[.null, .null] 2 = mkF mM 0 #[.val .null, .val .null] [] := by first | (simp [entryFrame, mkF, argsToLocals, Value.category]; done) | rfl
set_option maxRecDepth 65536 in
set_option maxHeartbeats 40000000 in
theorem rmReq00 (lL : Launch) (Z : State) (a0 : Array Value) (hw : ∀ d ∈ tables_1, d.before a0 Z = true) (ws : List Jvm.Cond) (em : Addr) (h0 : Heap) (n0 : Nat) (Zn : n0 ≤ h0.size) (O : Old Z n0 h0) (S_e : Sta Z Z.heap "java/util/OptionalInt" "EMPTY" "Ljava/util/OptionalInt;" (.ref em)) (oe : Opt Z Z.heap em 0 0) :
    MetFree lL (⟨"com/example/gleanwork/gleanwork/server/OwnLimits", "requested", "(Ljava/lang/Integer;Ljava/lang/Integer;)Lcom/example/gleanwork/gleanwork/server/OwnLimits;"⟩ : MethodName) (head1 (Jvm.Cond.code (⟨"com/example/gleanwork/gleanwork/server/OwnLimits", "requested", "(Ljava/lang/Integer;Ljava/lang/Integer;)Lcom/example/gleanwork/gleanwork/server/OwnLimits;"⟩ : MethodName) prog_171_method_4_code 2 (some (.object "com/example/gleanwork/gleanwork/server/OwnLimits")) :: ws) ({ frames := 3, cells := 3, slots := 6, locals := 39 } : Room)) (fun as_ uU_ => as_ = #[.null, .null] ∧ Z.Warmed39 uU_.vm ∧ uU_.heap = h0) (fun _ _ _ _ _ => True) (fun _ uU_ oO_ uE_ => ∃ vV_ lL_, oO_ = .returned vV_ ∧ Qlim Z 0 0 h0 n0 vV_ uE_.heap lL_ ∧ FrameEnd uU_ oO_ uE_ lL_ ({ frames := 3, cells := 3, slots := 6, locals := 39 } : Room).cells ({ frames := 3, cells := 3, slots := 6, locals := 39 } : Room).slots) := by
  refine MetFree.of_bodySF (plainFor_of_name pn_com_2fexample_2fgleanwork_2fgleanwork_2fserver_2fOwnLimits) hisR ?_
  intro pP eE sS mM args below meth cC s₁ Bd hml0 hP hK
  obtain ⟨rfl, hZ, hh⟩ := hP
  have hx := Bd.exec
  have hby := Bd.bytes
  have hml : cC.maxLocals = 2 := hml0
  have hown : sS.vm.findClass "com/example/gleanwork/gleanwork/server/OwnLimits" = some mM.cls := findClass_of_methodNamed Bd.named
  have hnm := (name_of_methodNamed Bd.named Bd.method).1
  have hret := Bd.returns
  have hlk := BodyLoose.notSynchronized Bd
  have X0 : Stand pP lL eE ({ frames := 3, cells := 3, slots := 6, locals := 39 } : Room) sS mM #[.null, .null] below meth cC s₁ [] 0 0 := Stand.of_body Bd
  have e0 : s₁.heap = h0 := by rw [← hh, Bd.state]; rfl
  have N0 := Fr.nil n0
  show own_Go pP eE below sS (Qlim Z 0 0 h0 n0) 3 6 (s₁.setTop (entryFrame mM #[.null, .null] 2))
  refine own_st (A := s₁.setTop (mkF mM 0 #[.val .null, .val .null] [])) (fun tT_ kK_ => castTop (ef_rmReq00 mM em) kK_) ?_
  have Kp := Keep.refl h0 []
  obtain ⟨T45, h45, X45, e45, E45, A45, D45, -, st45⟩ := newO X0 hx hZ hown (hw _ (List.mem_of_getElem? (i := 36) rfl)) (hw _ (List.mem_of_getElem? (i := 37) rfl)) (hw _ (List.mem_of_getElem? (i := 34) rfl)) e0 (g := (mkF mM 0 #[.val .null, .val .null] [])) rfl (hb hby d4_0) (by decide) (by decide)
  obtain ⟨b45, g45⟩ : ∃ z, z = h0.size := ⟨_, rfl⟩
  rw [← g45] at A45 D45 st45
  have g_b45 : n0 ≤ b45 := Nat.le_trans Zn (Nat.le_of_eq g45.symm)
  have b_b45 : h0.size ≤ b45 := Nat.le_trans Kp.1 (Nat.le_of_eq g45.symm)
  have O := O.ext E45
  have Zn := Nat.le_trans Zn E45.1
  have Kp := Kp.ext E45
  have E_b45 := A45
  have F_b45_maxRunSeconds : Fld Z h45 b45 "com/example/gleanwork/gleanwork/server/OwnLimits" "maxRunSeconds" "Ljava/util/OptionalInt;" .null := D45 (Or.inr (hw _ (List.mem_of_getElem? (i := 60) rfl))) (ty := (.object "java/util/OptionalInt")) (by decide)
  have F_b45_maxFailures : Fld Z h45 b45 "com/example/gleanwork/gleanwork/server/OwnLimits" "maxFailures" "Ljava/util/OptionalInt;" .null := D45 (Or.inr (hw _ (List.mem_of_getElem? (i := 62) rfl))) (ty := (.object "java/util/OptionalInt")) (by decide)
  refine own_st (A := T45.setTop (mkF mM 3 #[.val .null, .val .null] [(.ref b45)])) (fun tT_ kK_ => st45 tT_ kK_) ?_
  refine own_st (A := T45.setTop (mkF mM 4 #[.val .null, .val .null] [(.ref b45), (.ref b45)])) (fun tT_ kK_ => XS.dup X45.here hx rfl (hb hby d4_3) rfl rfl kK_) ?_
  refine own_st (A := T45.setTop (mkF mM 5 #[.val .null, .val .null] [.null, (.ref b45), (.ref b45)])) (fun tT_ kK_ => XS.aloadN X45.here hx rfl (hb hby d4_4) rfl rfl kK_) ?_
  refine own_st (A := T45.setTop (mkF mM 8 #[.val .null, .val .null] [(.ref b45), (.ref b45)])) (fun tT_ kK_ => XS.ifnonnullNo X45.here hx rfl (hb hby d4_5) rfl kK_) ?_
  obtain ⟨_, _, ⟨T46, L46, k46, n46⟩, -, X46, ⟨Lc46, hQ46, l46, y46, z46⟩, st46⟩ := Jvm.LawKit.callS X45 hx (y := (⟨"java/util/OptionalInt", "empty", "()Ljava/util/OptionalInt;"⟩ : MethodName)) hown (mvT hZ (hw _ (List.mem_of_getElem? (i := 38) rfl))) (mvT hZ (hw _ (List.mem_of_getElem? (i := 39) rfl))) (mvT hZ (hw _ (List.mem_of_getElem? (i := 40) rfl))) (mvT hZ (hw _ (List.mem_of_getElem? (i := 41) rfl))) (by decide) (backOf (W := 2) (rmEm lL Z a0 hw [] em h45 n0 (S_e.ext O.2)) hZ (hw _ (List.mem_of_getElem? (i := 41) rfl)) (hw _ (List.mem_of_getElem? (i := 40) rfl)) (by decide) (by decide)) (g := (mkF mM 8 #[.val .null, .val .null] [(.ref b45), (.ref b45)])) rfl (by rw [hml]; rfl) (argsL := []) (rest := [(.ref b45), (.ref b45)]) (lenOf pd__28_29Ljava_2futil_2fOptionalInt_3b rfl) rfl (by show 2 * 0 + _ ≤ _; exact Nat.le_of_eq rfl) (hb hby d4_8) (fun _ _ => ⟨rfl, e45, (by decide : 1 + 0 ≤ _), (by decide : 2 + 0 ≤ _)⟩)
  dsimp only [Pt.U, Pt.locs, Pt.cells, Pt.slots] at X46 l46 y46 z46 st46 hQ46
  subst l46 y46 z46
  obtain ⟨rfl, N46q, e46⟩ := hQ46
  have N46 := Fr.app N0 N46q
  refine own_st (A := T46.setTop (mkF mM 11 #[.val .null, .val .null] [(.ref em), (.ref b45), (.ref b45)])) (fun tT_ kK_ => st46 tT_ kK_) ?_
  have ob1 := own_Opt_ext oe O.2
  refine own_st (A := T46.setTop (mkF mM 21 #[.val .null, .val .null] [(.ref em), (.ref b45), (.ref b45)])) (fun tT_ kK_ => XS.goto X46.here hx rfl (pc0 := 11) (pc' := 21) rfl (hb hby d4_11) (by decide) (by decide) kK_) ?_
  refine own_st (A := T46.setTop (mkF mM 22 #[.val .null, .val .null] [.null, (.ref em), (.ref b45), (.ref b45)])) (fun tT_ kK_ => XS.aloadN X46.here hx rfl (hb hby d4_21) rfl rfl kK_) ?_
  refine own_st (A := T46.setTop (mkF mM 25 #[.val .null, .val .null] [(.ref em), (.ref b45), (.ref b45)])) (fun tT_ kK_ => XS.ifnonnullNo X46.here hx rfl (hb hby d4_22) rfl kK_) ?_
  obtain ⟨_, _, ⟨T47, L47, k47, n47⟩, -, X47, ⟨Lc47, hQ47, l47, y47, z47⟩, st47⟩ := Jvm.LawKit.callS X46 hx (y := (⟨"java/util/OptionalInt", "empty", "()Ljava/util/OptionalInt;"⟩ : MethodName)) hown (mvT hZ (hw _ (List.mem_of_getElem? (i := 38) rfl))) (mvT hZ (hw _ (List.mem_of_getElem? (i := 39) rfl))) (mvT hZ (hw _ (List.mem_of_getElem? (i := 40) rfl))) (mvT hZ (hw _ (List.mem_of_getElem? (i := 41) rfl))) (by decide) (backOf (W := 3) (rmEm lL Z a0 hw [] em h45 n0 (S_e.ext O.2)) hZ (hw _ (List.mem_of_getElem? (i := 41) rfl)) (hw _ (List.mem_of_getElem? (i := 40) rfl)) (by decide) (by decide)) (g := (mkF mM 25 #[.val .null, .val .null] [(.ref em), (.ref b45), (.ref b45)])) rfl (by rw [hml]; rfl) (argsL := []) (rest := [(.ref em), (.ref b45), (.ref b45)]) (lenOf pd__28_29Ljava_2futil_2fOptionalInt_3b rfl) rfl (by show 2 * 0 + _ ≤ _; exact Nat.le_of_eq rfl) (hb hby d4_25) (fun _ _ => ⟨rfl, e46, (by decide : 1 + 0 ≤ _), (by decide : 2 + 0 ≤ _)⟩)
  dsimp only [Pt.U, Pt.locs, Pt.cells, Pt.slots] at X47 l47 y47 z47 st47 hQ47
  subst l47 y47 z47
  obtain ⟨rfl, N47q, e47⟩ := hQ47
  have N47 := Fr.app N46 N47q
  refine own_st (A := T47.setTop (mkF mM 28 #[.val .null, .val .null] [(.ref em), (.ref em), (.ref b45), (.ref b45)])) (fun tT_ kK_ => st47 tT_ kK_) ?_
  have ob2 := own_Opt_ext oe O.2
  refine own_st (A := T47.setTop (mkF mM 38 #[.val .null, .val .null] [(.ref em), (.ref em), (.ref b45), (.ref b45)])) (fun tT_ kK_ => XS.goto X47.here hx rfl (pc0 := 28) (pc' := 38) rfl (hb hby d4_28) (by decide) (by decide) kK_) ?_
  obtain ⟨_, _, ⟨T48, L48, k48, n48⟩, -, X48, ⟨Lc48, hQ48, l48, y48, z48⟩, st48⟩ := X47.specialBack hx (y := (⟨"com/example/gleanwork/gleanwork/server/OwnLimits", "<init>", "(Ljava/util/OptionalInt;Ljava/util/OptionalInt;)V"⟩ : MethodName)) rfl hown (mvT hZ (hw _ (List.mem_of_getElem? (i := 43) rfl))) (mvT hZ (hw _ (List.mem_of_getElem? (i := 44) rfl))) (mvT hZ (hw _ (List.mem_of_getElem? (i := 45) rfl))) (by decide) (backOf (W := 1) (rmLI lL Z a0 hw [] b45 em em 0 0 0 0 h45 n0 g_b45 E_b45 F_b45_maxRunSeconds F_b45_maxFailures ob1 ob2 (fun q => absurd rfl q) (fun q => absurd rfl q)) hZ (hw _ (List.mem_of_getElem? (i := 45) rfl)) (hw _ (List.mem_of_getElem? (i := 34) rfl)) (by decide) (by decide)) (g := (mkF mM 38 #[.val .null, .val .null] [(.ref em), (.ref em), (.ref b45), (.ref b45)])) rfl (by rw [hml]; rfl) (Steps.refl _) (a := b45) (argsL := [(.ref em), (.ref em)]) (rest := [(.ref b45)]) (lenOf pd__28Ljava_2futil_2fOptionalInt_3bLjava_2futil_2fOptionalInt_3b_29V rfl) rfl (by show 2 * 0 + _ ≤ _; exact Nat.le_of_eq rfl) (hb hby d4_38) (fun _ _ => ⟨rfl, e47, (by decide : 1 + 0 ≤ _), (by decide : 2 + 0 ≤ _)⟩)
  dsimp only [Pt.U, Pt.locs, Pt.cells, Pt.slots] at X48 l48 y48 z48 st48 hQ48
  subst l48 y48 z48
  obtain ⟨rfl, N48q, K48, x48, y48, z48'⟩ := hQ48
  have N48 := Fr.app N47 N48q
  have e48 : T48.heap = T48.heap := rfl
  refine own_st (A := T48.setTop (mkF mM 41 #[.val .null, .val .null] [(.ref b45)])) (fun tT_ kK_ => st48.trans kK_) ?_
  have ob1 := own_Opt_keep ob1 K48 (ninS (Exa.ne ob1.1 E_b45 (by decide)) nin0)
  have ob2 := own_Opt_keep ob2 K48 (ninS (Exa.ne ob2.1 E_b45 (by decide)) nin0)
  have E_b45 := E_b45.keep K48
  have O := O.keep K48 (allS g_b45 all0)
  have Zn := Nat.le_trans Zn K48.1
  have Kp := Kp.trans K48 (allS (Or.inr b_b45) all0)
  exact own_retA X48 hx hlk hret rfl rfl (hb hby d4_41) ⟨_, _, _, rfl, N48, own_ext_of_keep Kp, ⟨_, _, x48, y48, z48', ob1, ob2⟩, (fun q => absurd rfl q), (fun q => absurd rfl q)⟩ (by decide) (by decide)
theorem d4_31 : decode prog_171_method_4_code 31 = .ok (.aload_n 1, 1) := by decide +kernel
theorem d4_32 : decode prog_171_method_4_code 32 = .ok (.invokevirtual 52, 3) := by decide +kernel
theorem d4_35 : decode prog_171_method_4_code 35 = .ok (.invokestatic 49, 3) := by decide +kernel
theorem pd__28I_29Ljava_2futil_2fOptionalInt_3b : parseMethodDescriptor "(I)Ljava/util/OptionalInt;" = some ⟨[.int], some (.object "java/util/OptionalInt")⟩ := by decide +kernel
theorem ef_rmReq01 (mM : MethodId) (em : Addr) (a2 : Addr) (v2 : Int32) : entryFrame mM #[.null, (.ref a2)] 2 = mkF mM 0 #[.val .null, .val (.ref a2)] [] := by first | (simp [entryFrame, mkF, argsToLocals, Value.category]; done) | rfl
set_option maxRecDepth 65536 in
set_option maxHeartbeats 40000000 in
theorem rmReq01 (lL : Launch) (Z : State) (a0 : Array Value) (hw : ∀ d ∈ tables_1, d.before a0 Z = true) (ws : List Jvm.Cond) (em : Addr) (a2 : Addr) (v2 : Int32) (h0 : Heap) (n0 : Nat) (Zn : n0 ≤ h0.size) (O : Old Z n0 h0) (S_e : Sta Z Z.heap "java/util/OptionalInt" "EMPTY" "Ljava/util/OptionalInt;" (.ref em)) (oe : Opt Z Z.heap em 0 0) (bx2 : Bxi Z h0 a2 v2) (l2 : ¬ v2 < (1 : Int32)) :
    MetFree lL (⟨"com/example/gleanwork/gleanwork/server/OwnLimits", "requested", "(Ljava/lang/Integer;Ljava/lang/Integer;)Lcom/example/gleanwork/gleanwork/server/OwnLimits;"⟩ : MethodName) (head1 (Jvm.Cond.code (⟨"com/example/gleanwork/gleanwork/server/OwnLimits", "requested", "(Ljava/lang/Integer;Ljava/lang/Integer;)Lcom/example/gleanwork/gleanwork/server/OwnLimits;"⟩ : MethodName) prog_171_method_4_code 2 (some (.object "com/example/gleanwork/gleanwork/server/OwnLimits")) :: ws) ({ frames := 3, cells := 3, slots := 6, locals := 41 } : Room)) (fun as_ uU_ => as_ = #[.null, (.ref a2)] ∧ Z.Warmed39 uU_.vm ∧ uU_.heap = h0) (fun _ _ _ _ _ => True) (fun _ uU_ oO_ uE_ => ∃ vV_ lL_, oO_ = .returned vV_ ∧ Qlim Z 0 1 h0 n0 vV_ uE_.heap lL_ ∧ FrameEnd uU_ oO_ uE_ lL_ ({ frames := 3, cells := 3, slots := 6, locals := 41 } : Room).cells ({ frames := 3, cells := 3, slots := 6, locals := 41 } : Room).slots) := by
  refine MetFree.of_bodySF (plainFor_of_name pn_com_2fexample_2fgleanwork_2fgleanwork_2fserver_2fOwnLimits) hisR ?_
  intro pP eE sS mM args below meth cC s₁ Bd hml0 hP hK
  obtain ⟨rfl, hZ, hh⟩ := hP
  have hx := Bd.exec
  have hby := Bd.bytes
  have hml : cC.maxLocals = 2 := hml0
  have hown : sS.vm.findClass "com/example/gleanwork/gleanwork/server/OwnLimits" = some mM.cls := findClass_of_methodNamed Bd.named
  have hnm := (name_of_methodNamed Bd.named Bd.method).1
  have hret := Bd.returns
  have hlk := BodyLoose.notSynchronized Bd
  have X0 : Stand pP lL eE ({ frames := 3, cells := 3, slots := 6, locals := 41 } : Room) sS mM #[.null, (.ref a2)] below meth cC s₁ [] 0 0 := Stand.of_body Bd
  have e0 : s₁.heap = h0 := by rw [← hh, Bd.state]; rfl
  have N0 := Fr.nil n0
  show own_Go pP eE below sS (Qlim Z 0 1 h0 n0) 3 6 (s₁.setTop (entryFrame mM #[.null, (.ref a2)] 2))
  refine own_st (A := s₁.setTop (mkF mM 0 #[.val .null, .val (.ref a2)] [])) (fun tT_ kK_ => castTop (ef_rmReq01 mM em a2 v2) kK_) ?_
  have Kp := Keep.refl h0 []
  obtain ⟨T49, h49, X49, e49, E49, A49, D49, -, st49⟩ := newO X0 hx hZ hown (hw _ (List.mem_of_getElem? (i := 36) rfl)) (hw _ (List.mem_of_getElem? (i := 37) rfl)) (hw _ (List.mem_of_getElem? (i := 34) rfl)) e0 (g := (mkF mM 0 #[.val .null, .val (.ref a2)] [])) rfl (hb hby d4_0) (by decide) (by decide)
  obtain ⟨b49, g49⟩ : ∃ z, z = h0.size := ⟨_, rfl⟩
  rw [← g49] at A49 D49 st49
  have g_b49 : n0 ≤ b49 := Nat.le_trans Zn (Nat.le_of_eq g49.symm)
  have b_b49 : h0.size ≤ b49 := Nat.le_trans Kp.1 (Nat.le_of_eq g49.symm)
  have bx2 := own_Bxi_ext bx2 E49
  have O := O.ext E49
  have Zn := Nat.le_trans Zn E49.1
  have Kp := Kp.ext E49
  have E_b49 := A49
  have F_b49_maxRunSeconds : Fld Z h49 b49 "com/example/gleanwork/gleanwork/server/OwnLimits" "maxRunSeconds" "Ljava/util/OptionalInt;" .null := D49 (Or.inr (hw _ (List.mem_of_getElem? (i := 60) rfl))) (ty := (.object "java/util/OptionalInt")) (by decide)
  have F_b49_maxFailures : Fld Z h49 b49 "com/example/gleanwork/gleanwork/server/OwnLimits" "maxFailures" "Ljava/util/OptionalInt;" .null := D49 (Or.inr (hw _ (List.mem_of_getElem? (i := 62) rfl))) (ty := (.object "java/util/OptionalInt")) (by decide)
  refine own_st (A := T49.setTop (mkF mM 3 #[.val .null, .val (.ref a2)] [(.ref b49)])) (fun tT_ kK_ => st49 tT_ kK_) ?_
  refine own_st (A := T49.setTop (mkF mM 4 #[.val .null, .val (.ref a2)] [(.ref b49), (.ref b49)])) (fun tT_ kK_ => XS.dup X49.here hx rfl (hb hby d4_3) rfl rfl kK_) ?_
  refine own_st (A := T49.setTop (mkF mM 5 #[.val .null, .val (.ref a2)] [.null, (.ref b49), (.ref b49)])) (fun tT_ kK_ => XS.aloadN X49.here hx rfl (hb hby d4_4) rfl rfl kK_) ?_
  refine own_st (A := T49.setTop (mkF mM 8 #[.val .null, .val (.ref a2)] [(.ref b49), (.ref b49)])) (fun tT_ kK_ => XS.ifnonnullNo X49.here hx rfl (hb hby d4_5) rfl kK_) ?_
  obtain ⟨_, _, ⟨T50, L50, k50, n50⟩, -, X50, ⟨Lc50, hQ50, l50, y50, z50⟩, st50⟩ := Jvm.LawKit.callS X49 hx (y := (⟨"java/util/OptionalInt", "empty", "()Ljava/util/OptionalInt;"⟩ : MethodName)) hown (mvT hZ (hw _ (List.mem_of_getElem? (i := 38) rfl))) (mvT hZ (hw _ (List.mem_of_getElem? (i := 39) rfl))) (mvT hZ (hw _ (List.mem_of_getElem? (i := 40) rfl))) (mvT hZ (hw _ (List.mem_of_getElem? (i := 41) rfl))) (by decide) (backOf (W := 2) (rmEm lL Z a0 hw [] em h49 n0 (S_e.ext O.2)) hZ (hw _ (List.mem_of_getElem? (i := 41) rfl)) (hw _ (List.mem_of_getElem? (i := 40) rfl)) (by decide) (by decide)) (g := (mkF mM 8 #[.val .null, .val (.ref a2)] [(.ref b49), (.ref b49)])) rfl (by rw [hml]; rfl) (argsL := []) (rest := [(.ref b49), (.ref b49)]) (lenOf pd__28_29Ljava_2futil_2fOptionalInt_3b rfl) rfl (by show 2 * 0 + _ ≤ _; exact Nat.le_of_eq rfl) (hb hby d4_8) (fun _ _ => ⟨rfl, e49, (by decide : 1 + 0 ≤ _), (by decide : 2 + 0 ≤ _)⟩)
  dsimp only [Pt.U, Pt.locs, Pt.cells, Pt.slots] at X50 l50 y50 z50 st50 hQ50
  subst l50 y50 z50
  obtain ⟨rfl, N50q, e50⟩ := hQ50
  have N50 := Fr.app N0 N50q
  refine own_st (A := T50.setTop (mkF mM 11 #[.val .null, .val (.ref a2)] [(.ref em), (.ref b49), (.ref b49)])) (fun tT_ kK_ => st50 tT_ kK_) ?_
  have ob1 := own_Opt_ext oe O.2
  refine own_st (A := T50.setTop (mkF mM 21 #[.val .null, .val (.ref a2)] [(.ref em), (.ref b49), (.ref b49)])) (fun tT_ kK_ => XS.goto X50.here hx rfl (pc0 := 11) (pc' := 21) rfl (hb hby d4_11) (by decide) (by decide) kK_) ?_
  refine own_st (A := T50.setTop (mkF mM 22 #[.val .null, .val (.ref a2)] [(.ref a2), (.ref em), (.ref b49), (.ref b49)])) (fun tT_ kK_ => XS.aloadN X50.here hx rfl (hb hby d4_21) rfl rfl kK_) ?_
  refine own_st (A := T50.setTop (mkF mM 31 #[.val .null, .val (.ref a2)] [(.ref em), (.ref b49), (.ref b49)])) (fun tT_ kK_ => XS.ifnonnullYes X50.here hx rfl (pc0 := 22) (pc' := 31) rfl (hb hby d4_22) rfl (by decide) (by decide) kK_) ?_
  refine own_st (A := T50.setTop (mkF mM 32 #[.val .null, .val (.ref a2)] [(.ref a2), (.ref em), (.ref b49), (.ref b49)])) (fun tT_ kK_ => XS.aloadN X50.here hx rfl (hb hby d4_31) rfl rfl kK_) ?_
  obtain ⟨cq51, kq51, q51a, q51b, q51c⟩ := isOf hZ e50 bx2.1
  obtain ⟨_, _, ⟨T51, L51, k51, n51⟩, -, X51, ⟨Lc51, hQ51, l51, y51, z51⟩, st51⟩ := X50.virtualBack hx (y := (⟨"java/lang/Integer", "intValue", "()I"⟩ : MethodName)) (z := (⟨"java/lang/Integer", "intValue", "()I"⟩ : MethodName)) hown (mvT hZ (hw _ (List.mem_of_getElem? (i := 111) rfl))) (mvT hZ (hw _ (List.mem_of_getElem? (i := 112) rfl))) (notFace_of_selects (args := #[]) (mvT hZ (hw _ (List.mem_of_getElem? (i := 114) rfl)))) (mvT hZ (hw _ (List.mem_of_getElem? (i := 114) rfl))) (mvT hZ (hw _ (List.mem_of_getElem? (i := 113) rfl))) (by decide) (backOf (W := 3) (rmIv lL Z a0 hw [] a2 v2 h49 n0 bx2) hZ (hw _ (List.mem_of_getElem? (i := 115) rfl)) (hw _ (List.mem_of_getElem? (i := 102) rfl)) (by decide) (by decide)) q51a q51c (g := (mkF mM 32 #[.val .null, .val (.ref a2)] [(.ref a2), (.ref em), (.ref b49), (.ref b49)])) rfl (by rw [hml]; rfl) (Steps.refl _) (argsL := []) (rest := [(.ref em), (.ref b49), (.ref b49)]) (lenOf pd__28_29I rfl) rfl (by show 2 * 0 + _ ≤ _; exact Nat.le_of_eq rfl) (hb hby d4_32) (fun _ _ => ⟨rfl, e50, (by decide : 1 + 0 ≤ _), (by decide : 2 + 0 ≤ _)⟩)
  dsimp only [Pt.U, Pt.locs, Pt.cells, Pt.slots] at X51 l51 y51 z51 st51 hQ51
  subst l51 y51 z51
  obtain ⟨rfl, N51q, e51⟩ := hQ51
  have N51 := Fr.app N50 N51q
  refine own_st (A := T51.setTop (mkF mM 35 #[.val .null, .val (.ref a2)] [(.int v2), (.ref em), (.ref b49), (.ref b49)])) (fun tT_ kK_ => st51.trans kK_) ?_
  obtain ⟨_, _, ⟨T52, L52, k52, n52⟩, -, X52, ⟨Lc52, hQ52, l52, y52, z52⟩, st52⟩ := Jvm.LawKit.callS X51 hx (y := (⟨"java/util/OptionalInt", "of", "(I)Ljava/util/OptionalInt;"⟩ : MethodName)) hown (mvT hZ (hw _ (List.mem_of_getElem? (i := 118) rfl))) (mvT hZ (hw _ (List.mem_of_getElem? (i := 119) rfl))) (mvT hZ (hw _ (List.mem_of_getElem? (i := 40) rfl))) (mvT hZ (hw _ (List.mem_of_getElem? (i := 120) rfl))) (by decide) (backOf (W := 3) (rmOf lL Z a0 hw [] v2 1 h49 n0 Zn l2) hZ (hw _ (List.mem_of_getElem? (i := 120) rfl)) (hw _ (List.mem_of_getElem? (i := 40) rfl)) (by decide) (by decide)) (g := (mkF mM 35 #[.val .null, .val (.ref a2)] [(.int v2), (.ref em), (.ref b49), (.ref b49)])) rfl (by rw [hml]; rfl) (argsL := [(.int v2)]) (rest := [(.ref em), (.ref b49), (.ref b49)]) (lenOf pd__28I_29Ljava_2futil_2fOptionalInt_3b rfl) rfl (by show 2 * 0 + _ ≤ _; exact Nat.le_of_eq rfl) (hb hby d4_35) (fun _ _ => ⟨rfl, e51, (by decide : 1 + 1 ≤ _), (by decide : 2 + 2 ≤ _)⟩)
  dsimp only [Pt.U, Pt.locs, Pt.cells, Pt.slots] at X52 l52 y52 z52 st52 hQ52
  subst l52 y52 z52
  obtain ⟨b52, i52, rfl, N52q, E52, ob52', hk52⟩ := hQ52
  have N52 := Fr.app N51 N52q
  have e52 : T52.heap = T52.heap := rfl
  refine own_st (A := T52.setTop (mkF mM 38 #[.val .null, .val (.ref a2)] [(.ref b52), (.ref em), (.ref b49), (.ref b49)])) (fun tT_ kK_ => st52 tT_ kK_) ?_
  have F_b49_maxRunSeconds := F_b49_maxRunSeconds.ext E52
  have F_b49_maxFailures := F_b49_maxFailures.ext E52
  have E_b49 := E_b49.ext E52
  have bx2 := own_Bxi_ext bx2 E52
  have ob1 := own_Opt_ext ob1 E52
  have O := O.ext E52
  have Zn := Nat.le_trans Zn E52.1
  have Kp := Kp.ext E52
  have ob2 := ob52'
  obtain ⟨_, _, ⟨T53, L53, k53, n53⟩, -, X53, ⟨Lc53, hQ53, l53, y53, z53⟩, st53⟩ := X52.specialBack hx (y := (⟨"com/example/gleanwork/gleanwork/server/OwnLimits", "<init>", "(Ljava/util/OptionalInt;Ljava/util/OptionalInt;)V"⟩ : MethodName)) rfl hown (mvT hZ (hw _ (List.mem_of_getElem? (i := 43) rfl))) (mvT hZ (hw _ (List.mem_of_getElem? (i := 44) rfl))) (mvT hZ (hw _ (List.mem_of_getElem? (i := 45) rfl))) (by decide) (backOf (W := 1) (rmLI lL Z a0 hw [] b49 em b52 0 0 1 i52 T52.heap n0 g_b49 E_b49 F_b49_maxRunSeconds F_b49_maxFailures ob1 ob2 (fun q => absurd rfl q) hk52) hZ (hw _ (List.mem_of_getElem? (i := 45) rfl)) (hw _ (List.mem_of_getElem? (i := 34) rfl)) (by decide) (by decide)) (g := (mkF mM 38 #[.val .null, .val (.ref a2)] [(.ref b52), (.ref em), (.ref b49), (.ref b49)])) rfl (by rw [hml]; rfl) (Steps.refl _) (a := b49) (argsL := [(.ref em), (.ref b52)]) (rest := [(.ref b49)]) (lenOf pd__28Ljava_2futil_2fOptionalInt_3bLjava_2futil_2fOptionalInt_3b_29V rfl) rfl (by show 2 * 0 + _ ≤ _; exact Nat.le_of_eq rfl) (hb hby d4_38) (fun _ _ => ⟨rfl, e52, (by decide : 2 + 0 ≤ _), (by decide : 4 + 0 ≤ _)⟩)
  dsimp only [Pt.U, Pt.locs, Pt.cells, Pt.slots] at X53 l53 y53 z53 st53 hQ53
  subst l53 y53 z53
  obtain ⟨rfl, N53q, K53, x53, y53, z53'⟩ := hQ53
  have N53 := Fr.app N52 N53q
  have e53 : T53.heap = T53.heap := rfl
  refine own_st (A := T53.setTop (mkF mM 41 #[.val .null, .val (.ref a2)] [(.ref b49)])) (fun tT_ kK_ => st53.trans kK_) ?_
  have ob1 := own_Opt_keep ob1 K53 (ninS (Exa.ne ob1.1 E_b49 (by decide)) nin0)
  have ob2 := own_Opt_keep ob2 K53 (ninS (Exa.ne ob2.1 E_b49 (by decide)) nin0)
  have E_b49 := E_b49.keep K53
  have O := O.keep K53 (allS g_b49 all0)
  have Zn := Nat.le_trans Zn K53.1
  have Kp := Kp.trans K53 (allS (Or.inr b_b49) all0)
  exact own_retA X53 hx hlk hret rfl rfl (hb hby d4_41) ⟨_, _, _, rfl, N53, own_ext_of_keep Kp, ⟨_, _, x53, y53, z53', ob1, ob2⟩, (fun q => absurd rfl q), hk52⟩ (by decide) (by decide)
theorem d4_14 : decode prog_171_method_4_code 14 = .ok (.aload_n 0, 1) := by decide +kernel
theorem d4_15 : decode prog_171_method_4_code 15 = .ok (.invokevirtual 52, 3) := by decide +kernel
theorem d4_18 : decode prog_171_method_4_code 18 = .ok (.invokestatic 49, 3) := by decide +kernel
theorem ef_rmReq10 (mM : MethodId) (em : Addr) (a1 : Addr) (v1 : Int32) : entryFrame mM #[(.ref a1), .null] 2 = mkF mM 0 #[.val (.ref a1), .val .null] [] := by first | (simp [entryFrame, mkF, argsToLocals, Value.category]; done) | rfl
set_option maxRecDepth 65536 in
set_option maxHeartbeats 40000000 in
theorem rmReq10 (lL : Launch) (Z : State) (a0 : Array Value) (hw : ∀ d ∈ tables_1, d.before a0 Z = true) (ws : List Jvm.Cond) (em : Addr) (a1 : Addr) (v1 : Int32) (h0 : Heap) (n0 : Nat) (Zn : n0 ≤ h0.size) (O : Old Z n0 h0) (S_e : Sta Z Z.heap "java/util/OptionalInt" "EMPTY" "Ljava/util/OptionalInt;" (.ref em)) (oe : Opt Z Z.heap em 0 0) (bx1 : Bxi Z h0 a1 v1) (l1 : ¬ v1 < (0 : Int32)) :
    MetFree lL (⟨"com/example/gleanwork/gleanwork/server/OwnLimits", "requested", "(Ljava/lang/Integer;Ljava/lang/Integer;)Lcom/example/gleanwork/gleanwork/server/OwnLimits;"⟩ : MethodName) (head1 (Jvm.Cond.code (⟨"com/example/gleanwork/gleanwork/server/OwnLimits", "requested", "(Ljava/lang/Integer;Ljava/lang/Integer;)Lcom/example/gleanwork/gleanwork/server/OwnLimits;"⟩ : MethodName) prog_171_method_4_code 2 (some (.object "com/example/gleanwork/gleanwork/server/OwnLimits")) :: ws) ({ frames := 3, cells := 3, slots := 6, locals := 40 } : Room)) (fun as_ uU_ => as_ = #[(.ref a1), .null] ∧ Z.Warmed39 uU_.vm ∧ uU_.heap = h0) (fun _ _ _ _ _ => True) (fun _ uU_ oO_ uE_ => ∃ vV_ lL_, oO_ = .returned vV_ ∧ Qlim Z 1 0 h0 n0 vV_ uE_.heap lL_ ∧ FrameEnd uU_ oO_ uE_ lL_ ({ frames := 3, cells := 3, slots := 6, locals := 40 } : Room).cells ({ frames := 3, cells := 3, slots := 6, locals := 40 } : Room).slots) := by
  refine MetFree.of_bodySF (plainFor_of_name pn_com_2fexample_2fgleanwork_2fgleanwork_2fserver_2fOwnLimits) hisR ?_
  intro pP eE sS mM args below meth cC s₁ Bd hml0 hP hK
  obtain ⟨rfl, hZ, hh⟩ := hP
  have hx := Bd.exec
  have hby := Bd.bytes
  have hml : cC.maxLocals = 2 := hml0
  have hown : sS.vm.findClass "com/example/gleanwork/gleanwork/server/OwnLimits" = some mM.cls := findClass_of_methodNamed Bd.named
  have hnm := (name_of_methodNamed Bd.named Bd.method).1
  have hret := Bd.returns
  have hlk := BodyLoose.notSynchronized Bd
  have X0 : Stand pP lL eE ({ frames := 3, cells := 3, slots := 6, locals := 40 } : Room) sS mM #[(.ref a1), .null] below meth cC s₁ [] 0 0 := Stand.of_body Bd
  have e0 : s₁.heap = h0 := by rw [← hh, Bd.state]; rfl
  have N0 := Fr.nil n0
  show own_Go pP eE below sS (Qlim Z 1 0 h0 n0) 3 6 (s₁.setTop (entryFrame mM #[(.ref a1), .null] 2))
  refine own_st (A := s₁.setTop (mkF mM 0 #[.val (.ref a1), .val .null] [])) (fun tT_ kK_ => castTop (ef_rmReq10 mM em a1 v1) kK_) ?_
  have Kp := Keep.refl h0 []
  obtain ⟨T54, h54, X54, e54, E54, A54, D54, -, st54⟩ := newO X0 hx hZ hown (hw _ (List.mem_of_getElem? (i := 36) rfl)) (hw _ (List.mem_of_getElem? (i := 37) rfl)) (hw _ (List.mem_of_getElem? (i := 34) rfl)) e0 (g := (mkF mM 0 #[.val (.ref a1), .val .null] [])) rfl (hb hby d4_0) (by decide) (by decide)
  obtain ⟨b54, g54⟩ : ∃ z, z = h0.size := ⟨_, rfl⟩
  rw [← g54] at A54 D54 st54
  have g_b54 : n0 ≤ b54 := Nat.le_trans Zn (Nat.le_of_eq g54.symm)
  have b_b54 : h0.size ≤ b54 := Nat.le_trans Kp.1 (Nat.le_of_eq g54.symm)
  have bx1 := own_Bxi_ext bx1 E54
  have O := O.ext E54
  have Zn := Nat.le_trans Zn E54.1
  have Kp := Kp.ext E54
  have E_b54 := A54
  have F_b54_maxRunSeconds : Fld Z h54 b54 "com/example/gleanwork/gleanwork/server/OwnLimits" "maxRunSeconds" "Ljava/util/OptionalInt;" .null := D54 (Or.inr (hw _ (List.mem_of_getElem? (i := 60) rfl))) (ty := (.object "java/util/OptionalInt")) (by decide)
  have F_b54_maxFailures : Fld Z h54 b54 "com/example/gleanwork/gleanwork/server/OwnLimits" "maxFailures" "Ljava/util/OptionalInt;" .null := D54 (Or.inr (hw _ (List.mem_of_getElem? (i := 62) rfl))) (ty := (.object "java/util/OptionalInt")) (by decide)
  refine own_st (A := T54.setTop (mkF mM 3 #[.val (.ref a1), .val .null] [(.ref b54)])) (fun tT_ kK_ => st54 tT_ kK_) ?_
  refine own_st (A := T54.setTop (mkF mM 4 #[.val (.ref a1), .val .null] [(.ref b54), (.ref b54)])) (fun tT_ kK_ => XS.dup X54.here hx rfl (hb hby d4_3) rfl rfl kK_) ?_
  refine own_st (A := T54.setTop (mkF mM 5 #[.val (.ref a1), .val .null] [(.ref a1), (.ref b54), (.ref b54)])) (fun tT_ kK_ => XS.aloadN X54.here hx rfl (hb hby d4_4) rfl rfl kK_) ?_
  refine own_st (A := T54.setTop (mkF mM 14 #[.val (.ref a1), .val .null] [(.ref b54), (.ref b54)])) (fun tT_ kK_ => XS.ifnonnullYes X54.here hx rfl (pc0 := 5) (pc' := 14) rfl (hb hby d4_5) rfl (by decide) (by decide) kK_) ?_
  refine own_st (A := T54.setTop (mkF mM 15 #[.val (.ref a1), .val .null] [(.ref a1), (.ref b54), (.ref b54)])) (fun tT_ kK_ => XS.aloadN X54.here hx rfl (hb hby d4_14) rfl rfl kK_) ?_
  obtain ⟨cq55, kq55, q55a, q55b, q55c⟩ := isOf hZ e54 bx1.1
  obtain ⟨_, _, ⟨T55, L55, k55, n55⟩, -, X55, ⟨Lc55, hQ55, l55, y55, z55⟩, st55⟩ := X54.virtualBack hx (y := (⟨"java/lang/Integer", "intValue", "()I"⟩ : MethodName)) (z := (⟨"java/lang/Integer", "intValue", "()I"⟩ : MethodName)) hown (mvT hZ (hw _ (List.mem_of_getElem? (i := 111) rfl))) (mvT hZ (hw _ (List.mem_of_getElem? (i := 112) rfl))) (notFace_of_selects (args := #[]) (mvT hZ (hw _ (List.mem_of_getElem? (i := 114) rfl)))) (mvT hZ (hw _ (List.mem_of_getElem? (i := 114) rfl))) (mvT hZ (hw _ (List.mem_of_getElem? (i := 113) rfl))) (by decide) (backOf (W := 2) (rmIv lL Z a0 hw [] a1 v1 h54 n0 bx1) hZ (hw _ (List.mem_of_getElem? (i := 115) rfl)) (hw _ (List.mem_of_getElem? (i := 102) rfl)) (by decide) (by decide)) q55a q55c (g := (mkF mM 15 #[.val (.ref a1), .val .null] [(.ref a1), (.ref b54), (.ref b54)])) rfl (by rw [hml]; rfl) (Steps.refl _) (argsL := []) (rest := [(.ref b54), (.ref b54)]) (lenOf pd__28_29I rfl) rfl (by show 2 * 0 + _ ≤ _; exact Nat.le_of_eq rfl) (hb hby d4_15) (fun _ _ => ⟨rfl, e54, (by decide : 1 + 0 ≤ _), (by decide : 2 + 0 ≤ _)⟩)
  dsimp only [Pt.U, Pt.locs, Pt.cells, Pt.slots] at X55 l55 y55 z55 st55 hQ55
  subst l55 y55 z55
  obtain ⟨rfl, N55q, e55⟩ := hQ55
  have N55 := Fr.app N0 N55q
  refine own_st (A := T55.setTop (mkF mM 18 #[.val (.ref a1), .val .null] [(.int v1), (.ref b54), (.ref b54)])) (fun tT_ kK_ => st55.trans kK_) ?_
  obtain ⟨_, _, ⟨T56, L56, k56, n56⟩, -, X56, ⟨Lc56, hQ56, l56, y56, z56⟩, st56⟩ := Jvm.LawKit.callS X55 hx (y := (⟨"java/util/OptionalInt", "of", "(I)Ljava/util/OptionalInt;"⟩ : MethodName)) hown (mvT hZ (hw _ (List.mem_of_getElem? (i := 118) rfl))) (mvT hZ (hw _ (List.mem_of_getElem? (i := 119) rfl))) (mvT hZ (hw _ (List.mem_of_getElem? (i := 40) rfl))) (mvT hZ (hw _ (List.mem_of_getElem? (i := 120) rfl))) (by decide) (backOf (W := 2) (rmOf lL Z a0 hw [] v1 0 h54 n0 Zn l1) hZ (hw _ (List.mem_of_getElem? (i := 120) rfl)) (hw _ (List.mem_of_getElem? (i := 40) rfl)) (by decide) (by decide)) (g := (mkF mM 18 #[.val (.ref a1), .val .null] [(.int v1), (.ref b54), (.ref b54)])) rfl (by rw [hml]; rfl) (argsL := [(.int v1)]) (rest := [(.ref b54), (.ref b54)]) (lenOf pd__28I_29Ljava_2futil_2fOptionalInt_3b rfl) rfl (by show 2 * 0 + _ ≤ _; exact Nat.le_of_eq rfl) (hb hby d4_18) (fun _ _ => ⟨rfl, e55, (by decide : 1 + 1 ≤ _), (by decide : 2 + 2 ≤ _)⟩)
  dsimp only [Pt.U, Pt.locs, Pt.cells, Pt.slots] at X56 l56 y56 z56 st56 hQ56
  subst l56 y56 z56
  obtain ⟨b56, i56, rfl, N56q, E56, ob56', hk56⟩ := hQ56
  have N56 := Fr.app N55 N56q
  have e56 : T56.heap = T56.heap := rfl
  refine own_st (A := T56.setTop (mkF mM 21 #[.val (.ref a1), .val .null] [(.ref b56), (.ref b54), (.ref b54)])) (fun tT_ kK_ => st56 tT_ kK_) ?_
  have F_b54_maxRunSeconds := F_b54_maxRunSeconds.ext E56
  have F_b54_maxFailures := F_b54_maxFailures.ext E56
  have E_b54 := E_b54.ext E56
  have bx1 := own_Bxi_ext bx1 E56
  have O := O.ext E56
  have Zn := Nat.le_trans Zn E56.1
  have Kp := Kp.ext E56
  have ob1 := ob56'
  refine own_st (A := T56.setTop (mkF mM 22 #[.val (.ref a1), .val .null] [.null, (.ref b56), (.ref b54), (.ref b54)])) (fun tT_ kK_ => XS.aloadN X56.here hx rfl (hb hby d4_21) rfl rfl kK_) ?_
  refine own_st (A := T56.setTop (mkF mM 25 #[.val (.ref a1), .val .null] [(.ref b56), (.ref b54), (.ref b54)])) (fun tT_ kK_ => XS.ifnonnullNo X56.here hx rfl (hb hby d4_22) rfl kK_) ?_
  obtain ⟨_, _, ⟨T57, L57, k57, n57⟩, -, X57, ⟨Lc57, hQ57, l57, y57, z57⟩, st57⟩ := Jvm.LawKit.callS X56 hx (y := (⟨"java/util/OptionalInt", "empty", "()Ljava/util/OptionalInt;"⟩ : MethodName)) hown (mvT hZ (hw _ (List.mem_of_getElem? (i := 38) rfl))) (mvT hZ (hw _ (List.mem_of_getElem? (i := 39) rfl))) (mvT hZ (hw _ (List.mem_of_getElem? (i := 40) rfl))) (mvT hZ (hw _ (List.mem_of_getElem? (i := 41) rfl))) (by decide) (backOf (W := 3) (rmEm lL Z a0 hw [] em T56.heap n0 (S_e.ext O.2)) hZ (hw _ (List.mem_of_getElem? (i := 41) rfl)) (hw _ (List.mem_of_getElem? (i := 40) rfl)) (by decide) (by decide)) (g := (mkF mM 25 #[.val (.ref a1), .val .null] [(.ref b56), (.ref b54), (.ref b54)])) rfl (by rw [hml]; rfl) (argsL := []) (rest := [(.ref b56), (.ref b54), (.ref b54)]) (lenOf pd__28_29Ljava_2futil_2fOptionalInt_3b rfl) rfl (by show 2 * 0 + _ ≤ _; exact Nat.le_of_eq rfl) (hb hby d4_25) (fun _ _ => ⟨rfl, e56, (by decide : 2 + 0 ≤ _), (by decide : 4 + 0 ≤ _)⟩)
  dsimp only [Pt.U, Pt.locs, Pt.cells, Pt.slots] at X57 l57 y57 z57 st57 hQ57
  subst l57 y57 z57
  obtain ⟨rfl, N57q, e57⟩ := hQ57
  have N57 := Fr.app N56 N57q
  refine own_st (A := T57.setTop (mkF mM 28 #[.val (.ref a1), .val .null] [(.ref em), (.ref b56), (.ref b54), (.ref b54)])) (fun tT_ kK_ => st57 tT_ kK_) ?_
  have ob2 := own_Opt_ext oe O.2
  refine own_st (A := T57.setTop (mkF mM 38 #[.val (.ref a1), .val .null] [(.ref em), (.ref b56), (.ref b54), (.ref b54)])) (fun tT_ kK_ => XS.goto X57.here hx rfl (pc0 := 28) (pc' := 38) rfl (hb hby d4_28) (by decide) (by decide) kK_) ?_
  obtain ⟨_, _, ⟨T58, L58, k58, n58⟩, -, X58, ⟨Lc58, hQ58, l58, y58, z58⟩, st58⟩ := X57.specialBack hx (y := (⟨"com/example/gleanwork/gleanwork/server/OwnLimits", "<init>", "(Ljava/util/OptionalInt;Ljava/util/OptionalInt;)V"⟩ : MethodName)) rfl hown (mvT hZ (hw _ (List.mem_of_getElem? (i := 43) rfl))) (mvT hZ (hw _ (List.mem_of_getElem? (i := 44) rfl))) (mvT hZ (hw _ (List.mem_of_getElem? (i := 45) rfl))) (by decide) (backOf (W := 1) (rmLI lL Z a0 hw [] b54 b56 em 1 i56 0 0 T56.heap n0 g_b54 E_b54 F_b54_maxRunSeconds F_b54_maxFailures ob1 ob2 hk56 (fun q => absurd rfl q)) hZ (hw _ (List.mem_of_getElem? (i := 45) rfl)) (hw _ (List.mem_of_getElem? (i := 34) rfl)) (by decide) (by decide)) (g := (mkF mM 38 #[.val (.ref a1), .val .null] [(.ref em), (.ref b56), (.ref b54), (.ref b54)])) rfl (by rw [hml]; rfl) (Steps.refl _) (a := b54) (argsL := [(.ref b56), (.ref em)]) (rest := [(.ref b54)]) (lenOf pd__28Ljava_2futil_2fOptionalInt_3bLjava_2futil_2fOptionalInt_3b_29V rfl) rfl (by show 2 * 0 + _ ≤ _; exact Nat.le_of_eq rfl) (hb hby d4_38) (fun _ _ => ⟨rfl, e57, (by decide : 2 + 0 ≤ _), (by decide : 4 + 0 ≤ _)⟩)
  dsimp only [Pt.U, Pt.locs, Pt.cells, Pt.slots] at X58 l58 y58 z58 st58 hQ58
  subst l58 y58 z58
  obtain ⟨rfl, N58q, K58, x58, y58, z58'⟩ := hQ58
  have N58 := Fr.app N57 N58q
  have e58 : T58.heap = T58.heap := rfl
  refine own_st (A := T58.setTop (mkF mM 41 #[.val (.ref a1), .val .null] [(.ref b54)])) (fun tT_ kK_ => st58.trans kK_) ?_
  have ob1 := own_Opt_keep ob1 K58 (ninS (Exa.ne ob1.1 E_b54 (by decide)) nin0)
  have ob2 := own_Opt_keep ob2 K58 (ninS (Exa.ne ob2.1 E_b54 (by decide)) nin0)
  have E_b54 := E_b54.keep K58
  have O := O.keep K58 (allS g_b54 all0)
  have Zn := Nat.le_trans Zn K58.1
  have Kp := Kp.trans K58 (allS (Or.inr b_b54) all0)
  exact own_retA X58 hx hlk hret rfl rfl (hb hby d4_41) ⟨_, _, _, rfl, N58, own_ext_of_keep Kp, ⟨_, _, x58, y58, z58', ob1, ob2⟩, hk56, (fun q => absurd rfl q)⟩ (by decide) (by decide)
theorem ef_rmReq11 (mM : MethodId) (em : Addr) (a1 : Addr) (v1 : Int32) (a2 : Addr) (v2 : Int32) : entryFrame mM #[(.ref a1), (.ref a2)] 2 = mkF mM 0 #[.val (.ref a1), .val (.ref a2)] [] := by first | (simp [entryFrame, mkF, argsToLocals, Value.category]; done) | rfl
set_option maxRecDepth 65536 in
set_option maxHeartbeats 40000000 in
theorem rmReq11 (lL : Launch) (Z : State) (a0 : Array Value) (hw : ∀ d ∈ tables_1, d.before a0 Z = true) (ws : List Jvm.Cond) (em : Addr) (a1 : Addr) (v1 : Int32) (a2 : Addr) (v2 : Int32) (h0 : Heap) (n0 : Nat) (Zn : n0 ≤ h0.size) (O : Old Z n0 h0) (S_e : Sta Z Z.heap "java/util/OptionalInt" "EMPTY" "Ljava/util/OptionalInt;" (.ref em)) (oe : Opt Z Z.heap em 0 0) (bx1 : Bxi Z h0 a1 v1) (l1 : ¬ v1 < (0 : Int32)) (bx2 : Bxi Z h0 a2 v2) (l2 : ¬ v2 < (1 : Int32)) :
    MetFree lL (⟨"com/example/gleanwork/gleanwork/server/OwnLimits", "requested", "(Ljava/lang/Integer;Ljava/lang/Integer;)Lcom/example/gleanwork/gleanwork/server/OwnLimits;"⟩ : MethodName) (head1 (Jvm.Cond.code (⟨"com/example/gleanwork/gleanwork/server/OwnLimits", "requested", "(Ljava/lang/Integer;Ljava/lang/Integer;)Lcom/example/gleanwork/gleanwork/server/OwnLimits;"⟩ : MethodName) prog_171_method_4_code 2 (some (.object "com/example/gleanwork/gleanwork/server/OwnLimits")) :: ws) ({ frames := 3, cells := 3, slots := 6, locals := 41 } : Room)) (fun as_ uU_ => as_ = #[(.ref a1), (.ref a2)] ∧ Z.Warmed39 uU_.vm ∧ uU_.heap = h0) (fun _ _ _ _ _ => True) (fun _ uU_ oO_ uE_ => ∃ vV_ lL_, oO_ = .returned vV_ ∧ Qlim Z 1 1 h0 n0 vV_ uE_.heap lL_ ∧ FrameEnd uU_ oO_ uE_ lL_ ({ frames := 3, cells := 3, slots := 6, locals := 41 } : Room).cells ({ frames := 3, cells := 3, slots := 6, locals := 41 } : Room).slots) := by
  refine MetFree.of_bodySF (plainFor_of_name pn_com_2fexample_2fgleanwork_2fgleanwork_2fserver_2fOwnLimits) hisR ?_
  intro pP eE sS mM args below meth cC s₁ Bd hml0 hP hK
  obtain ⟨rfl, hZ, hh⟩ := hP
  have hx := Bd.exec
  have hby := Bd.bytes
  have hml : cC.maxLocals = 2 := hml0
  have hown : sS.vm.findClass "com/example/gleanwork/gleanwork/server/OwnLimits" = some mM.cls := findClass_of_methodNamed Bd.named
  have hnm := (name_of_methodNamed Bd.named Bd.method).1
  have hret := Bd.returns
  have hlk := BodyLoose.notSynchronized Bd
  have X0 : Stand pP lL eE ({ frames := 3, cells := 3, slots := 6, locals := 41 } : Room) sS mM #[(.ref a1), (.ref a2)] below meth cC s₁ [] 0 0 := Stand.of_body Bd
  have e0 : s₁.heap = h0 := by rw [← hh, Bd.state]; rfl
  have N0 := Fr.nil n0
  show own_Go pP eE below sS (Qlim Z 1 1 h0 n0) 3 6 (s₁.setTop (entryFrame mM #[(.ref a1), (.ref a2)] 2))
  refine own_st (A := s₁.setTop (mkF mM 0 #[.val (.ref a1), .val (.ref a2)] [])) (fun tT_ kK_ => castTop (ef_rmReq11 mM em a1 v1 a2 v2) kK_) ?_
  have Kp := Keep.refl h0 []
  obtain ⟨T59, h59, X59, e59, E59, A59, D59, -, st59⟩ := newO X0 hx hZ hown (hw _ (List.mem_of_getElem? (i := 36) rfl)) (hw _ (List.mem_of_getElem? (i := 37) rfl)) (hw _ (List.mem_of_getElem? (i := 34) rfl)) e0 (g := (mkF mM 0 #[.val (.ref a1), .val (.ref a2)] [])) rfl (hb hby d4_0) (by decide) (by decide)
  obtain ⟨b59, g59⟩ : ∃ z, z = h0.size := ⟨_, rfl⟩
  rw [← g59] at A59 D59 st59
  have g_b59 : n0 ≤ b59 := Nat.le_trans Zn (Nat.le_of_eq g59.symm)
  have b_b59 : h0.size ≤ b59 := Nat.le_trans Kp.1 (Nat.le_of_eq g59.symm)
  have bx1 := own_Bxi_ext bx1 E59
  have bx2 := own_Bxi_ext bx2 E59
  have O := O.ext E59
  have Zn := Nat.le_trans Zn E59.1
  have Kp := Kp.ext E59
  have E_b59 := A59
  have F_b59_maxRunSeconds : Fld Z h59 b59 "com/example/gleanwork/gleanwork/server/OwnLimits" "maxRunSeconds" "Ljava/util/OptionalInt;" .null := D59 (Or.inr (hw _ (List.mem_of_getElem? (i := 60) rfl))) (ty := (.object "java/util/OptionalInt")) (by decide)
  have F_b59_maxFailures : Fld Z h59 b59 "com/example/gleanwork/gleanwork/server/OwnLimits" "maxFailures" "Ljava/util/OptionalInt;" .null := D59 (Or.inr (hw _ (List.mem_of_getElem? (i := 62) rfl))) (ty := (.object "java/util/OptionalInt")) (by decide)
  refine own_st (A := T59.setTop (mkF mM 3 #[.val (.ref a1), .val (.ref a2)] [(.ref b59)])) (fun tT_ kK_ => st59 tT_ kK_) ?_
  refine own_st (A := T59.setTop (mkF mM 4 #[.val (.ref a1), .val (.ref a2)] [(.ref b59), (.ref b59)])) (fun tT_ kK_ => XS.dup X59.here hx rfl (hb hby d4_3) rfl rfl kK_) ?_
  refine own_st (A := T59.setTop (mkF mM 5 #[.val (.ref a1), .val (.ref a2)] [(.ref a1), (.ref b59), (.ref b59)])) (fun tT_ kK_ => XS.aloadN X59.here hx rfl (hb hby d4_4) rfl rfl kK_) ?_
  refine own_st (A := T59.setTop (mkF mM 14 #[.val (.ref a1), .val (.ref a2)] [(.ref b59), (.ref b59)])) (fun tT_ kK_ => XS.ifnonnullYes X59.here hx rfl (pc0 := 5) (pc' := 14) rfl (hb hby d4_5) rfl (by decide) (by decide) kK_) ?_
  refine own_st (A := T59.setTop (mkF mM 15 #[.val (.ref a1), .val (.ref a2)] [(.ref a1), (.ref b59), (.ref b59)])) (fun tT_ kK_ => XS.aloadN X59.here hx rfl (hb hby d4_14) rfl rfl kK_) ?_
  obtain ⟨cq60, kq60, q60a, q60b, q60c⟩ := isOf hZ e59 bx1.1
  obtain ⟨_, _, ⟨T60, L60, k60, n60⟩, -, X60, ⟨Lc60, hQ60, l60, y60, z60⟩, st60⟩ := X59.virtualBack hx (y := (⟨"java/lang/Integer", "intValue", "()I"⟩ : MethodName)) (z := (⟨"java/lang/Integer", "intValue", "()I"⟩ : MethodName)) hown (mvT hZ (hw _ (List.mem_of_getElem? (i := 111) rfl))) (mvT hZ (hw _ (List.mem_of_getElem? (i := 112) rfl))) (notFace_of_selects (args := #[]) (mvT hZ (hw _ (List.mem_of_getElem? (i := 114) rfl)))) (mvT hZ (hw _ (List.mem_of_getElem? (i := 114) rfl))) (mvT hZ (hw _ (List.mem_of_getElem? (i := 113) rfl))) (by decide) (backOf (W := 2) (rmIv lL Z a0 hw [] a1 v1 h59 n0 bx1) hZ (hw _ (List.mem_of_getElem? (i := 115) rfl)) (hw _ (List.mem_of_getElem? (i := 102) rfl)) (by decide) (by decide)) q60a q60c (g := (mkF mM 15 #[.val (.ref a1), .val (.ref a2)] [(.ref a1), (.ref b59), (.ref b59)])) rfl (by rw [hml]; rfl) (Steps.refl _) (argsL := []) (rest := [(.ref b59), (.ref b59)]) (lenOf pd__28_29I rfl) rfl (by show 2 * 0 + _ ≤ _; exact Nat.le_of_eq rfl) (hb hby d4_15) (fun _ _ => ⟨rfl, e59, (by decide : 1 + 0 ≤ _), (by decide : 2 + 0 ≤ _)⟩)
  dsimp only [Pt.U, Pt.locs, Pt.cells, Pt.slots] at X60 l60 y60 z60 st60 hQ60
  subst l60 y60 z60
  obtain ⟨rfl, N60q, e60⟩ := hQ60
  have N60 := Fr.app N0 N60q
  refine own_st (A := T60.setTop (mkF mM 18 #[.val (.ref a1), .val (.ref a2)] [(.int v1), (.ref b59), (.ref b59)])) (fun tT_ kK_ => st60.trans kK_) ?_
  obtain ⟨_, _, ⟨T61, L61, k61, n61⟩, -, X61, ⟨Lc61, hQ61, l61, y61, z61⟩, st61⟩ := Jvm.LawKit.callS X60 hx (y := (⟨"java/util/OptionalInt", "of", "(I)Ljava/util/OptionalInt;"⟩ : MethodName)) hown (mvT hZ (hw _ (List.mem_of_getElem? (i := 118) rfl))) (mvT hZ (hw _ (List.mem_of_getElem? (i := 119) rfl))) (mvT hZ (hw _ (List.mem_of_getElem? (i := 40) rfl))) (mvT hZ (hw _ (List.mem_of_getElem? (i := 120) rfl))) (by decide) (backOf (W := 2) (rmOf lL Z a0 hw [] v1 0 h59 n0 Zn l1) hZ (hw _ (List.mem_of_getElem? (i := 120) rfl)) (hw _ (List.mem_of_getElem? (i := 40) rfl)) (by decide) (by decide)) (g := (mkF mM 18 #[.val (.ref a1), .val (.ref a2)] [(.int v1), (.ref b59), (.ref b59)])) rfl (by rw [hml]; rfl) (argsL := [(.int v1)]) (rest := [(.ref b59), (.ref b59)]) (lenOf pd__28I_29Ljava_2futil_2fOptionalInt_3b rfl) rfl (by show 2 * 0 + _ ≤ _; exact Nat.le_of_eq rfl) (hb hby d4_18) (fun _ _ => ⟨rfl, e60, (by decide : 1 + 1 ≤ _), (by decide : 2 + 2 ≤ _)⟩)
  dsimp only [Pt.U, Pt.locs, Pt.cells, Pt.slots] at X61 l61 y61 z61 st61 hQ61
  subst l61 y61 z61
  obtain ⟨b61, i61, rfl, N61q, E61, ob61', hk61⟩ := hQ61
  have N61 := Fr.app N60 N61q
  have e61 : T61.heap = T61.heap := rfl
  refine own_st (A := T61.setTop (mkF mM 21 #[.val (.ref a1), .val (.ref a2)] [(.ref b61), (.ref b59), (.ref b59)])) (fun tT_ kK_ => st61 tT_ kK_) ?_
  have F_b59_maxRunSeconds := F_b59_maxRunSeconds.ext E61
  have F_b59_maxFailures := F_b59_maxFailures.ext E61
  have E_b59 := E_b59.ext E61
  have bx1 := own_Bxi_ext bx1 E61
  have bx2 := own_Bxi_ext bx2 E61
  have O := O.ext E61
  have Zn := Nat.le_trans Zn E61.1
  have Kp := Kp.ext E61
  have ob1 := ob61'
  refine own_st (A := T61.setTop (mkF mM 22 #[.val (.ref a1), .val (.ref a2)] [(.ref a2), (.ref b61), (.ref b59), (.ref b59)])) (fun tT_ kK_ => XS.aloadN X61.here hx rfl (hb hby d4_21) rfl rfl kK_) ?_
  refine own_st (A := T61.setTop (mkF mM 31 #[.val (.ref a1), .val (.ref a2)] [(.ref b61), (.ref b59), (.ref b59)])) (fun tT_ kK_ => XS.ifnonnullYes X61.here hx rfl (pc0 := 22) (pc' := 31) rfl (hb hby d4_22) rfl (by decide) (by decide) kK_) ?_
  refine own_st (A := T61.setTop (mkF mM 32 #[.val (.ref a1), .val (.ref a2)] [(.ref a2), (.ref b61), (.ref b59), (.ref b59)])) (fun tT_ kK_ => XS.aloadN X61.here hx rfl (hb hby d4_31) rfl rfl kK_) ?_
  obtain ⟨cq62, kq62, q62a, q62b, q62c⟩ := isOf hZ e61 bx2.1
  obtain ⟨_, _, ⟨T62, L62, k62, n62⟩, -, X62, ⟨Lc62, hQ62, l62, y62, z62⟩, st62⟩ := X61.virtualBack hx (y := (⟨"java/lang/Integer", "intValue", "()I"⟩ : MethodName)) (z := (⟨"java/lang/Integer", "intValue", "()I"⟩ : MethodName)) hown (mvT hZ (hw _ (List.mem_of_getElem? (i := 111) rfl))) (mvT hZ (hw _ (List.mem_of_getElem? (i := 112) rfl))) (notFace_of_selects (args := #[]) (mvT hZ (hw _ (List.mem_of_getElem? (i := 114) rfl)))) (mvT hZ (hw _ (List.mem_of_getElem? (i := 114) rfl))) (mvT hZ (hw _ (List.mem_of_getElem? (i := 113) rfl))) (by decide) (backOf (W := 3) (rmIv lL Z a0 hw [] a2 v2 T61.heap n0 bx2) hZ (hw _ (List.mem_of_getElem? (i := 115) rfl)) (hw _ (List.mem_of_getElem? (i := 102) rfl)) (by decide) (by decide)) q62a q62c (g := (mkF mM 32 #[.val (.ref a1), .val (.ref a2)] [(.ref a2), (.ref b61), (.ref b59), (.ref b59)])) rfl (by rw [hml]; rfl) (Steps.refl _) (argsL := []) (rest := [(.ref b61), (.ref b59), (.ref b59)]) (lenOf pd__28_29I rfl) rfl (by show 2 * 0 + _ ≤ _; exact Nat.le_of_eq rfl) (hb hby d4_32) (fun _ _ => ⟨rfl, e61, (by decide : 2 + 0 ≤ _), (by decide : 4 + 0 ≤ _)⟩)
  dsimp only [Pt.U, Pt.locs, Pt.cells, Pt.slots] at X62 l62 y62 z62 st62 hQ62
  subst l62 y62 z62
  obtain ⟨rfl, N62q, e62⟩ := hQ62
  have N62 := Fr.app N61 N62q
  refine own_st (A := T62.setTop (mkF mM 35 #[.val (.ref a1), .val (.ref a2)] [(.int v2), (.ref b61), (.ref b59), (.ref b59)])) (fun tT_ kK_ => st62.trans kK_) ?_
  obtain ⟨_, _, ⟨T63, L63, k63, n63⟩, -, X63, ⟨Lc63, hQ63, l63, y63, z63⟩, st63⟩ := Jvm.LawKit.callS X62 hx (y := (⟨"java/util/OptionalInt", "of", "(I)Ljava/util/OptionalInt;"⟩ : MethodName)) hown (mvT hZ (hw _ (List.mem_of_getElem? (i := 118) rfl))) (mvT hZ (hw _ (List.mem_of_getElem? (i := 119) rfl))) (mvT hZ (hw _ (List.mem_of_getElem? (i := 40) rfl))) (mvT hZ (hw _ (List.mem_of_getElem? (i := 120) rfl))) (by decide) (backOf (W := 3) (rmOf lL Z a0 hw [] v2 1 T61.heap n0 Zn l2) hZ (hw _ (List.mem_of_getElem? (i := 120) rfl)) (hw _ (List.mem_of_getElem? (i := 40) rfl)) (by decide) (by decide)) (g := (mkF mM 35 #[.val (.ref a1), .val (.ref a2)] [(.int v2), (.ref b61), (.ref b59), (.ref b59)])) rfl (by rw [hml]; rfl) (argsL := [(.int v2)]) (rest := [(.ref b61), (.ref b59), (.ref b59)]) (lenOf pd__28I_29Ljava_2futil_2fOptionalInt_3b rfl) rfl (by show 2 * 0 + _ ≤ _; exact Nat.le_of_eq rfl) (hb hby d4_35) (fun _ _ => ⟨rfl, e62, (by decide : 2 + 1 ≤ _), (by decide : 4 + 2 ≤ _)⟩)
  dsimp only [Pt.U, Pt.locs, Pt.cells, Pt.slots] at X63 l63 y63 z63 st63 hQ63
  subst l63 y63 z63
  obtain ⟨b63, i63, rfl, N63q, E63, ob63', hk63⟩ := hQ63
  have N63 := Fr.app N62 N63q
  have e63 : T63.heap = T63.heap := rfl
  refine own_st (A := T63.setTop (mkF mM 38 #[.val (.ref a1), .val (.ref a2)] [(.ref b63), (.ref b61), (.ref b59), (.ref b59)])) (fun tT_ kK_ => st63 tT_ kK_) ?_
  have F_b59_maxRunSeconds := F_b59_maxRunSeconds.ext E63
  have F_b59_maxFailures := F_b59_maxFailures.ext E63
  have E_b59 := E_b59.ext E63
  have bx1 := own_Bxi_ext bx1 E63
  have bx2 := own_Bxi_ext bx2 E63
  have ob1 := own_Opt_ext ob1 E63
  have O := O.ext E63
  have Zn := Nat.le_trans Zn E63.1
  have Kp := Kp.ext E63
  have ob2 := ob63'
  obtain ⟨_, _, ⟨T64, L64, k64, n64⟩, -, X64, ⟨Lc64, hQ64, l64, y64, z64⟩, st64⟩ := X63.specialBack hx (y := (⟨"com/example/gleanwork/gleanwork/server/OwnLimits", "<init>", "(Ljava/util/OptionalInt;Ljava/util/OptionalInt;)V"⟩ : MethodName)) rfl hown (mvT hZ (hw _ (List.mem_of_getElem? (i := 43) rfl))) (mvT hZ (hw _ (List.mem_of_getElem? (i := 44) rfl))) (mvT hZ (hw _ (List.mem_of_getElem? (i := 45) rfl))) (by decide) (backOf (W := 1) (rmLI lL Z a0 hw [] b59 b61 b63 1 i61 1 i63 T63.heap n0 g_b59 E_b59 F_b59_maxRunSeconds F_b59_maxFailures ob1 ob2 hk61 hk63) hZ (hw _ (List.mem_of_getElem? (i := 45) rfl)) (hw _ (List.mem_of_getElem? (i := 34) rfl)) (by decide) (by decide)) (g := (mkF mM 38 #[.val (.ref a1), .val (.ref a2)] [(.ref b63), (.ref b61), (.ref b59), (.ref b59)])) rfl (by rw [hml]; rfl) (Steps.refl _) (a := b59) (argsL := [(.ref b61), (.ref b63)]) (rest := [(.ref b59)]) (lenOf pd__28Ljava_2futil_2fOptionalInt_3bLjava_2futil_2fOptionalInt_3b_29V rfl) rfl (by show 2 * 0 + _ ≤ _; exact Nat.le_of_eq rfl) (hb hby d4_38) (fun _ _ => ⟨rfl, e63, (by decide : 3 + 0 ≤ _), (by decide : 6 + 0 ≤ _)⟩)
  dsimp only [Pt.U, Pt.locs, Pt.cells, Pt.slots] at X64 l64 y64 z64 st64 hQ64
  subst l64 y64 z64
  obtain ⟨rfl, N64q, K64, x64, y64, z64'⟩ := hQ64
  have N64 := Fr.app N63 N64q
  have e64 : T64.heap = T64.heap := rfl
  refine own_st (A := T64.setTop (mkF mM 41 #[.val (.ref a1), .val (.ref a2)] [(.ref b59)])) (fun tT_ kK_ => st64.trans kK_) ?_
  have ob1 := own_Opt_keep ob1 K64 (ninS (Exa.ne ob1.1 E_b59 (by decide)) nin0)
  have ob2 := own_Opt_keep ob2 K64 (ninS (Exa.ne ob2.1 E_b59 (by decide)) nin0)
  have E_b59 := E_b59.keep K64
  have O := O.keep K64 (allS g_b59 all0)
  have Zn := Nat.le_trans Zn K64.1
  have Kp := Kp.trans K64 (allS (Or.inr b_b59) all0)
  exact own_retA X64 hx hlk hret rfl rfl (hb hby d4_41) ⟨_, _, _, rfl, N64, own_ext_of_keep Kp, ⟨_, _, x64, y64, z64', ob1, ob2⟩, hk61, hk63⟩ (by decide) (by decide)
theorem d15_0 : decode prog_171_method_3_code 0 = .ok (.iload_n 0, 1) := by decide +kernel
theorem d15_1 : decode prog_171_method_3_code 1 = .ok (.iconst (-1), 1) := by decide +kernel
theorem d15_2 : decode prog_171_method_3_code 2 = .ok (.if_icmp .ne 9, 3) := by decide +kernel
theorem d15_5 : decode prog_171_method_3_code 5 = .ok (.invokestatic 45, 3) := by decide +kernel
theorem d15_8 : decode prog_171_method_3_code 8 = .ok (.goto 7, 3) := by decide +kernel
theorem d15_15 : decode prog_171_method_3_code 15 = .ok (.areturn, 1) := by decide +kernel
theorem d15_11 : decode prog_171_method_3_code 11 = .ok (.iload_n 0, 1) := by decide +kernel
theorem d15_12 : decode prog_171_method_3_code 12 = .ok (.invokestatic 49, 3) := by decide +kernel
theorem ef_rmOn (mM : MethodId) (i : Int32) (k : Int32) (p : Int32) (em : Addr) : entryFrame mM #[(.int i)] 1 = mkF mM 0 #[.val (.int i)] [] := by first | (simp [entryFrame, mkF, argsToLocals, Value.category]; done) | rfl
set_option maxRecDepth 65536 in
set_option maxHeartbeats 40000000 in
theorem rmOn (lL : Launch) (Z : State) (a0 : Array Value) (hw : ∀ d ∈ tables_1, d.before a0 Z = true) (ws : List Jvm.Cond) (i : Int32) (k : Int32) (p : Int32) (em : Addr) (h0 : Heap) (n0 : Nat) (Zn : n0 ≤ h0.size) (O : Old Z n0 h0) (S_e : Sta Z Z.heap "java/util/OptionalInt" "EMPTY" "Ljava/util/OptionalInt;" (.ref em)) (oe : Opt Z Z.heap em 0 0) (n0' : i = (-1 : Int32) → p = 0) (n1' : ¬ i = (-1 : Int32) → p = 1) (lk : ¬ i = (-1 : Int32) → ¬ i < k) :
    MetFree lL (⟨"com/example/gleanwork/gleanwork/server/OwnLimits", "orNone", "(I)Ljava/util/OptionalInt;"⟩ : MethodName) (head1 (Jvm.Cond.code (⟨"com/example/gleanwork/gleanwork/server/OwnLimits", "orNone", "(I)Ljava/util/OptionalInt;"⟩ : MethodName) prog_171_method_3_code 1 (some (.object "java/util/OptionalInt")) :: ws) ({ frames := 3, cells := 1, slots := 2, locals := 38 } : Room)) (fun as_ uU_ => as_ = #[(.int i)] ∧ Z.Warmed39 uU_.vm ∧ uU_.heap = h0) (fun _ _ _ _ _ => True) (fun _ uU_ oO_ uE_ => ∃ vV_ lL_, oO_ = .returned vV_ ∧ Qopt Z p k h0 n0 vV_ uE_.heap lL_ ∧ FrameEnd uU_ oO_ uE_ lL_ ({ frames := 3, cells := 1, slots := 2, locals := 38 } : Room).cells ({ frames := 3, cells := 1, slots := 2, locals := 38 } : Room).slots) := by
  refine MetFree.of_bodySF (plainFor_of_name pn_com_2fexample_2fgleanwork_2fgleanwork_2fserver_2fOwnLimits) hisR ?_
  intro pP eE sS mM args below meth cC s₁ Bd hml0 hP hK
  obtain ⟨rfl, hZ, hh⟩ := hP
  have hx := Bd.exec
  have hby := Bd.bytes
  have hml : cC.maxLocals = 1 := hml0
  have hown : sS.vm.findClass "com/example/gleanwork/gleanwork/server/OwnLimits" = some mM.cls := findClass_of_methodNamed Bd.named
  have hnm := (name_of_methodNamed Bd.named Bd.method).1
  have hret := Bd.returns
  have hlk := BodyLoose.notSynchronized Bd
  have X0 : Stand pP lL eE ({ frames := 3, cells := 1, slots := 2, locals := 38 } : Room) sS mM #[(.int i)] below meth cC s₁ [] 0 0 := Stand.of_body Bd
  have e0 : s₁.heap = h0 := by rw [← hh, Bd.state]; rfl
  have N0 := Fr.nil n0
  show own_Go pP eE below sS (Qopt Z p k h0 n0) 1 2 (s₁.setTop (entryFrame mM #[(.int i)] 1))
  refine own_st (A := s₁.setTop (mkF mM 0 #[.val (.int i)] [])) (fun tT_ kK_ => castTop (ef_rmOn mM i k p em) kK_) ?_
  refine own_st (A := s₁.setTop (mkF mM 1 #[.val (.int i)] [(.int i)])) (fun tT_ kK_ => XS.iloadN X0.here hx rfl (hb hby d15_0) rfl kK_) ?_
  refine own_st (A := s₁.setTop (mkF mM 2 #[.val (.int i)] [(.int (-1 : Int32)), (.int i)])) (fun tT_ kK_ => XS.iconst X0.here hx rfl (hb hby d15_1) kK_) ?_
  by_cases hc2_65 : i = (-1 : Int32)
  · skip
    refine own_st (A := s₁.setTop (mkF mM 5 #[.val (.int i)] [])) (fun tT_ kK_ => XS.icmpNo X0.here hx rfl (hb hby d15_2) rfl (teq hc2_65).2 kK_) ?_
    obtain ⟨_, _, ⟨T66, L66, k66, n66⟩, -, X66, ⟨Lc66, hQ66, l66, y66, z66⟩, st66⟩ := Jvm.LawKit.callS X0 hx (y := (⟨"java/util/OptionalInt", "empty", "()Ljava/util/OptionalInt;"⟩ : MethodName)) hown (mvT hZ (hw _ (List.mem_of_getElem? (i := 38) rfl))) (mvT hZ (hw _ (List.mem_of_getElem? (i := 39) rfl))) (mvT hZ (hw _ (List.mem_of_getElem? (i := 40) rfl))) (mvT hZ (hw _ (List.mem_of_getElem? (i := 41) rfl))) (by decide) (backOf (W := 0) (rmEm lL Z a0 hw [] em h0 n0 (S_e.ext O.2)) hZ (hw _ (List.mem_of_getElem? (i := 41) rfl)) (hw _ (List.mem_of_getElem? (i := 40) rfl)) (by decide) (by decide)) (g := (mkF mM 5 #[.val (.int i)] [])) rfl (by rw [hml]; rfl) (argsL := []) (rest := []) (lenOf pd__28_29Ljava_2futil_2fOptionalInt_3b rfl) rfl (by show 2 * 0 + _ ≤ _; exact Nat.le_of_eq rfl) (hb hby d15_5) (fun _ _ => ⟨rfl, e0, (by decide : 0 + 0 ≤ _), (by decide : 0 + 0 ≤ _)⟩)
    dsimp only [Pt.U, Pt.locs, Pt.cells, Pt.slots] at X66 l66 y66 z66 st66 hQ66
    subst l66 y66 z66
    obtain ⟨rfl, N66q, e66⟩ := hQ66
    have N66 := Fr.app N0 N66q
    refine own_st (A := T66.setTop (mkF mM 8 #[.val (.int i)] [(.ref em)])) (fun tT_ kK_ => st66 tT_ kK_) ?_
    have ob1 := own_Opt_ext oe O.2
    refine own_st (A := T66.setTop (mkF mM 15 #[.val (.int i)] [(.ref em)])) (fun tT_ kK_ => XS.goto X66.here hx rfl (pc0 := 8) (pc' := 15) rfl (hb hby d15_8) (by decide) (by decide) kK_) ?_
    exact own_retA X66 hx hlk hret rfl rfl (hb hby d15_15) (by rw [(n0' hc2_65)]; exact ⟨_, _, rfl, N66, own_ext_of_keep (by rw [e66]; exact Keep.refl h0 []), (by rw [e66]; exact ob1), (fun q => absurd rfl q)⟩) (by decide) (by decide)
  · skip
    refine own_st (A := s₁.setTop (mkF mM 11 #[.val (.int i)] [])) (fun tT_ kK_ => XS.icmpYes X0.here hx rfl (pc0 := 2) (pc' := 11) rfl (hb hby d15_2) rfl (feq hc2_65).2 (by decide) (by decide) kK_) ?_
    refine own_st (A := s₁.setTop (mkF mM 12 #[.val (.int i)] [(.int i)])) (fun tT_ kK_ => XS.iloadN X0.here hx rfl (hb hby d15_11) rfl kK_) ?_
    obtain ⟨_, _, ⟨T67, L67, k67, n67⟩, -, X67, ⟨Lc67, hQ67, l67, y67, z67⟩, st67⟩ := Jvm.LawKit.callS X0 hx (y := (⟨"java/util/OptionalInt", "of", "(I)Ljava/util/OptionalInt;"⟩ : MethodName)) hown (mvT hZ (hw _ (List.mem_of_getElem? (i := 118) rfl))) (mvT hZ (hw _ (List.mem_of_getElem? (i := 119) rfl))) (mvT hZ (hw _ (List.mem_of_getElem? (i := 40) rfl))) (mvT hZ (hw _ (List.mem_of_getElem? (i := 120) rfl))) (by decide) (backOf (W := 0) (rmOf lL Z a0 hw [] i k h0 n0 Zn (lk hc2_65)) hZ (hw _ (List.mem_of_getElem? (i := 120) rfl)) (hw _ (List.mem_of_getElem? (i := 40) rfl)) (by decide) (by decide)) (g := (mkF mM 12 #[.val (.int i)] [(.int i)])) rfl (by rw [hml]; rfl) (argsL := [(.int i)]) (rest := []) (lenOf pd__28I_29Ljava_2futil_2fOptionalInt_3b rfl) rfl (by show 2 * 0 + _ ≤ _; exact Nat.le_of_eq rfl) (hb hby d15_12) (fun _ _ => ⟨rfl, e0, (by decide : 0 + 1 ≤ _), (by decide : 0 + 2 ≤ _)⟩)
    dsimp only [Pt.U, Pt.locs, Pt.cells, Pt.slots] at X67 l67 y67 z67 st67 hQ67
    subst l67 y67 z67
    obtain ⟨b67, i67, rfl, N67q, E67, ob1, hk67⟩ := hQ67
    have N67 := Fr.app N0 N67q
    have e67 : T67.heap = T67.heap := rfl
    refine own_st (A := T67.setTop (mkF mM 15 #[.val (.int i)] [(.ref b67)])) (fun tT_ kK_ => st67 tT_ kK_) ?_
    exact own_retA X67 hx hlk hret rfl rfl (hb hby d15_15) (by rw [(n1' hc2_65)]; exact ⟨_, _, rfl, N67, E67, ob1, hk67⟩) (by decide) (by decide)
theorem d14_0 : decode prog_171_method_2_code 0 = .ok (.new 28, 3) := by decide +kernel
theorem d14_3 : decode prog_171_method_2_code 3 = .ok (.dup, 1) := by decide +kernel
theorem d14_4 : decode prog_171_method_2_code 4 = .ok (.iload_n 0, 1) := by decide +kernel
theorem d14_5 : decode prog_171_method_2_code 5 = .ok (.invokestatic 36, 3) := by decide +kernel
theorem d14_8 : decode prog_171_method_2_code 8 = .ok (.iload_n 1, 1) := by decide +kernel
theorem d14_9 : decode prog_171_method_2_code 9 = .ok (.invokestatic 36, 3) := by decide +kernel
theorem d14_12 : decode prog_171_method_2_code 12 = .ok (.invokespecial 40, 3) := by decide +kernel
theorem d14_15 : decode prog_171_method_2_code 15 = .ok (.areturn, 1) := by decide +kernel
theorem ef_rmSt (mM : MethodId) (i1 : Int32) (i2 : Int32) (p1 : Int32) (p2 : Int32) (em : Addr) : entryFrame mM #[(.int i1), (.int i2)] 2 = mkF mM 0 #[.val (.int i1), .val (.int i2)] [] := by first | (simp [entryFrame, mkF, argsToLocals, Value.category]; done) | rfl
set_option maxRecDepth 65536 in
set_option maxHeartbeats 40000000 in
theorem rmSt (lL : Launch) (Z : State) (a0 : Array Value) (hw : ∀ d ∈ tables_1, d.before a0 Z = true) (ws : List Jvm.Cond) (i1 : Int32) (i2 : Int32) (p1 : Int32) (p2 : Int32) (em : Addr) (h0 : Heap) (n0 : Nat) (Zn : n0 ≤ h0.size) (O : Old Z n0 h0) (S_e : Sta Z Z.heap "java/util/OptionalInt" "EMPTY" "Ljava/util/OptionalInt;" (.ref em)) (oe : Opt Z Z.heap em 0 0) (n10 : i1 = (-1 : Int32) → p1 = 0) (n11 : ¬ i1 = (-1 : Int32) → p1 = 1) (lk1 : ¬ i1 = (-1 : Int32) → ¬ i1 < (0 : Int32)) (n20 : i2 = (-1 : Int32) → p2 = 0) (n21 : ¬ i2 = (-1 : Int32) → p2 = 1) (lk2 : ¬ i2 = (-1 : Int32) → ¬ i2 < (1 : Int32)) :
    MetFree lL (⟨"com/example/gleanwork/gleanwork/server/OwnLimits", "stored", "(II)Lcom/example/gleanwork/gleanwork/server/OwnLimits;"⟩ : MethodName) (head1 (Jvm.Cond.code (⟨"com/example/gleanwork/gleanwork/server/OwnLimits", "stored", "(II)Lcom/example/gleanwork/gleanwork/server/OwnLimits;"⟩ : MethodName) prog_171_method_2_code 2 (some (.object "com/example/gleanwork/gleanwork/server/OwnLimits")) :: ws) ({ frames := 4, cells := 3, slots := 6, locals := 53 } : Room)) (fun as_ uU_ => as_ = #[(.int i1), (.int i2)] ∧ Z.Warmed39 uU_.vm ∧ uU_.heap = h0) (fun _ _ _ _ _ => True) (fun _ uU_ oO_ uE_ => ∃ vV_ lL_, oO_ = .returned vV_ ∧ Qlim Z p1 p2 h0 n0 vV_ uE_.heap lL_ ∧ FrameEnd uU_ oO_ uE_ lL_ ({ frames := 4, cells := 3, slots := 6, locals := 53 } : Room).cells ({ frames := 4, cells := 3, slots := 6, locals := 53 } : Room).slots) := by
  refine MetFree.of_bodySF (plainFor_of_name pn_com_2fexample_2fgleanwork_2fgleanwork_2fserver_2fOwnLimits) hisR ?_
  intro pP eE sS mM args below meth cC s₁ Bd hml0 hP hK
  obtain ⟨rfl, hZ, hh⟩ := hP
  have hx := Bd.exec
  have hby := Bd.bytes
  have hml : cC.maxLocals = 2 := hml0
  have hown : sS.vm.findClass "com/example/gleanwork/gleanwork/server/OwnLimits" = some mM.cls := findClass_of_methodNamed Bd.named
  have hnm := (name_of_methodNamed Bd.named Bd.method).1
  have hret := Bd.returns
  have hlk := BodyLoose.notSynchronized Bd
  have X0 : Stand pP lL eE ({ frames := 4, cells := 3, slots := 6, locals := 53 } : Room) sS mM #[(.int i1), (.int i2)] below meth cC s₁ [] 0 0 := Stand.of_body Bd
  have e0 : s₁.heap = h0 := by rw [← hh, Bd.state]; rfl
  have N0 := Fr.nil n0
  show own_Go pP eE below sS (Qlim Z p1 p2 h0 n0) 3 6 (s₁.setTop (entryFrame mM #[(.int i1), (.int i2)] 2))
  refine own_st (A := s₁.setTop (mkF mM 0 #[.val (.int i1), .val (.int i2)] [])) (fun tT_ kK_ => castTop (ef_rmSt mM i1 i2 p1 p2 em) kK_) ?_
  have Kp := Keep.refl h0 []
  obtain ⟨T68, h68, X68, e68, E68, A68, D68, -, st68⟩ := newO X0 hx hZ hown (hw _ (List.mem_of_getElem? (i := 36) rfl)) (hw _ (List.mem_of_getElem? (i := 37) rfl)) (hw _ (List.mem_of_getElem? (i := 34) rfl)) e0 (g := (mkF mM 0 #[.val (.int i1), .val (.int i2)] [])) rfl (hb hby d14_0) (by decide) (by decide)
  obtain ⟨b68, g68⟩ : ∃ z, z = h0.size := ⟨_, rfl⟩
  rw [← g68] at A68 D68 st68
  have g_b68 : n0 ≤ b68 := Nat.le_trans Zn (Nat.le_of_eq g68.symm)
  have b_b68 : h0.size ≤ b68 := Nat.le_trans Kp.1 (Nat.le_of_eq g68.symm)
  have O := O.ext E68
  have Zn := Nat.le_trans Zn E68.1
  have Kp := Kp.ext E68
  have E_b68 := A68
  have F_b68_maxRunSeconds : Fld Z h68 b68 "com/example/gleanwork/gleanwork/server/OwnLimits" "maxRunSeconds" "Ljava/util/OptionalInt;" .null := D68 (Or.inr (hw _ (List.mem_of_getElem? (i := 60) rfl))) (ty := (.object "java/util/OptionalInt")) (by decide)
  have F_b68_maxFailures : Fld Z h68 b68 "com/example/gleanwork/gleanwork/server/OwnLimits" "maxFailures" "Ljava/util/OptionalInt;" .null := D68 (Or.inr (hw _ (List.mem_of_getElem? (i := 62) rfl))) (ty := (.object "java/util/OptionalInt")) (by decide)
  refine own_st (A := T68.setTop (mkF mM 3 #[.val (.int i1), .val (.int i2)] [(.ref b68)])) (fun tT_ kK_ => st68 tT_ kK_) ?_
  refine own_st (A := T68.setTop (mkF mM 4 #[.val (.int i1), .val (.int i2)] [(.ref b68), (.ref b68)])) (fun tT_ kK_ => XS.dup X68.here hx rfl (hb hby d14_3) rfl rfl kK_) ?_
  refine own_st (A := T68.setTop (mkF mM 5 #[.val (.int i1), .val (.int i2)] [(.int i1), (.ref b68), (.ref b68)])) (fun tT_ kK_ => XS.iloadN X68.here hx rfl (hb hby d14_4) rfl kK_) ?_
  obtain ⟨_, _, ⟨T69, L69, k69, n69⟩, -, X69, ⟨Lc69, hQ69, l69, y69, z69⟩, st69⟩ := Jvm.LawKit.callS X68 hx (y := (⟨"com/example/gleanwork/gleanwork/server/OwnLimits", "orNone", "(I)Ljava/util/OptionalInt;"⟩ : MethodName)) hown (mvT hZ (hw _ (List.mem_of_getElem? (i := 91) rfl))) (mvT hZ (hw _ (List.mem_of_getElem? (i := 92) rfl))) (mvT hZ (hw _ (List.mem_of_getElem? (i := 34) rfl))) (mvT hZ (hw _ (List.mem_of_getElem? (i := 93) rfl))) (by decide) (backOf (W := 2) (rmOn lL Z a0 hw [] i1 0 p1 em h68 n0 Zn O S_e oe n10 n11 lk1) hZ (hw _ (List.mem_of_getElem? (i := 93) rfl)) (hw _ (List.mem_of_getElem? (i := 34) rfl)) (by decide) (by decide)) (g := (mkF mM 5 #[.val (.int i1), .val (.int i2)] [(.int i1), (.ref b68), (.ref b68)])) rfl (by rw [hml]; rfl) (argsL := [(.int i1)]) (rest := [(.ref b68), (.ref b68)]) (lenOf pd__28I_29Ljava_2futil_2fOptionalInt_3b rfl) rfl (by show 2 * 0 + _ ≤ _; exact Nat.le_of_eq rfl) (hb hby d14_5) (fun _ _ => ⟨rfl, e68, (by decide : 1 + 1 ≤ _), (by decide : 2 + 2 ≤ _)⟩)
  dsimp only [Pt.U, Pt.locs, Pt.cells, Pt.slots] at X69 l69 y69 z69 st69 hQ69
  subst l69 y69 z69
  obtain ⟨b69, i69, rfl, N69q, E69, ob69', hk69⟩ := hQ69
  have N69 := Fr.app N0 N69q
  have e69 : T69.heap = T69.heap := rfl
  refine own_st (A := T69.setTop (mkF mM 8 #[.val (.int i1), .val (.int i2)] [(.ref b69), (.ref b68), (.ref b68)])) (fun tT_ kK_ => st69 tT_ kK_) ?_
  have F_b68_maxRunSeconds := F_b68_maxRunSeconds.ext E69
  have F_b68_maxFailures := F_b68_maxFailures.ext E69
  have E_b68 := E_b68.ext E69
  have O := O.ext E69
  have Zn := Nat.le_trans Zn E69.1
  have Kp := Kp.ext E69
  have ob1 := ob69'
  refine own_st (A := T69.setTop (mkF mM 9 #[.val (.int i1), .val (.int i2)] [(.int i2), (.ref b69), (.ref b68), (.ref b68)])) (fun tT_ kK_ => XS.iloadN X69.here hx rfl (hb hby d14_8) rfl kK_) ?_
  obtain ⟨_, _, ⟨T70, L70, k70, n70⟩, -, X70, ⟨Lc70, hQ70, l70, y70, z70⟩, st70⟩ := Jvm.LawKit.callS X69 hx (y := (⟨"com/example/gleanwork/gleanwork/server/OwnLimits", "orNone", "(I)Ljava/util/OptionalInt;"⟩ : MethodName)) hown (mvT hZ (hw _ (List.mem_of_getElem? (i := 91) rfl))) (mvT hZ (hw _ (List.mem_of_getElem? (i := 92) rfl))) (mvT hZ (hw _ (List.mem_of_getElem? (i := 34) rfl))) (mvT hZ (hw _ (List.mem_of_getElem? (i := 93) rfl))) (by decide) (backOf (W := 3) (rmOn lL Z a0 hw [] i2 1 p2 em T69.heap n0 Zn O S_e oe n20 n21 lk2) hZ (hw _ (List.mem_of_getElem? (i := 93) rfl)) (hw _ (List.mem_of_getElem? (i := 34) rfl)) (by decide) (by decide)) (g := (mkF mM 9 #[.val (.int i1), .val (.int i2)] [(.int i2), (.ref b69), (.ref b68), (.ref b68)])) rfl (by rw [hml]; rfl) (argsL := [(.int i2)]) (rest := [(.ref b69), (.ref b68), (.ref b68)]) (lenOf pd__28I_29Ljava_2futil_2fOptionalInt_3b rfl) rfl (by show 2 * 0 + _ ≤ _; exact Nat.le_of_eq rfl) (hb hby d14_9) (fun _ _ => ⟨rfl, e69, (by decide : 2 + 1 ≤ _), (by decide : 4 + 2 ≤ _)⟩)
  dsimp only [Pt.U, Pt.locs, Pt.cells, Pt.slots] at X70 l70 y70 z70 st70 hQ70
  subst l70 y70 z70
  obtain ⟨b70, i70, rfl, N70q, E70, ob70', hk70⟩ := hQ70
  have N70 := Fr.app N69 N70q
  have e70 : T70.heap = T70.heap := rfl
  refine own_st (A := T70.setTop (mkF mM 12 #[.val (.int i1), .val (.int i2)] [(.ref b70), (.ref b69), (.ref b68), (.ref b68)])) (fun tT_ kK_ => st70 tT_ kK_) ?_
  have F_b68_maxRunSeconds := F_b68_maxRunSeconds.ext E70
  have F_b68_maxFailures := F_b68_maxFailures.ext E70
  have E_b68 := E_b68.ext E70
  have ob1 := own_Opt_ext ob1 E70
  have O := O.ext E70
  have Zn := Nat.le_trans Zn E70.1
  have Kp := Kp.ext E70
  have ob2 := ob70'
  obtain ⟨_, _, ⟨T71, L71, k71, n71⟩, -, X71, ⟨Lc71, hQ71, l71, y71, z71⟩, st71⟩ := X70.specialBack hx (y := (⟨"com/example/gleanwork/gleanwork/server/OwnLimits", "<init>", "(Ljava/util/OptionalInt;Ljava/util/OptionalInt;)V"⟩ : MethodName)) rfl hown (mvT hZ (hw _ (List.mem_of_getElem? (i := 43) rfl))) (mvT hZ (hw _ (List.mem_of_getElem? (i := 44) rfl))) (mvT hZ (hw _ (List.mem_of_getElem? (i := 45) rfl))) (by decide) (backOf (W := 1) (rmLI lL Z a0 hw [] b68 b69 b70 p1 i69 p2 i70 T70.heap n0 g_b68 E_b68 F_b68_maxRunSeconds F_b68_maxFailures ob1 ob2 hk69 hk70) hZ (hw _ (List.mem_of_getElem? (i := 45) rfl)) (hw _ (List.mem_of_getElem? (i := 34) rfl)) (by decide) (by decide)) (g := (mkF mM 12 #[.val (.int i1), .val (.int i2)] [(.ref b70), (.ref b69), (.ref b68), (.ref b68)])) rfl (by rw [hml]; rfl) (Steps.refl _) (a := b68) (argsL := [(.ref b69), (.ref b70)]) (rest := [(.ref b68)]) (lenOf pd__28Ljava_2futil_2fOptionalInt_3bLjava_2futil_2fOptionalInt_3b_29V rfl) rfl (by show 2 * 0 + _ ≤ _; exact Nat.le_of_eq rfl) (hb hby d14_12) (fun _ _ => ⟨rfl, e70, (by decide : 3 + 0 ≤ _), (by decide : 6 + 0 ≤ _)⟩)
  dsimp only [Pt.U, Pt.locs, Pt.cells, Pt.slots] at X71 l71 y71 z71 st71 hQ71
  subst l71 y71 z71
  obtain ⟨rfl, N71q, K71, x71, y71, z71'⟩ := hQ71
  have N71 := Fr.app N70 N71q
  have e71 : T71.heap = T71.heap := rfl
  refine own_st (A := T71.setTop (mkF mM 15 #[.val (.int i1), .val (.int i2)] [(.ref b68)])) (fun tT_ kK_ => st71.trans kK_) ?_
  have ob1 := own_Opt_keep ob1 K71 (ninS (Exa.ne ob1.1 E_b68 (by decide)) nin0)
  have ob2 := own_Opt_keep ob2 K71 (ninS (Exa.ne ob2.1 E_b68 (by decide)) nin0)
  have E_b68 := E_b68.keep K71
  have O := O.keep K71 (allS g_b68 all0)
  have Zn := Nat.le_trans Zn K71.1
  have Kp := Kp.trans K71 (allS (Or.inr b_b68) all0)
  exact own_retA X71 hx hlk hret rfl rfl (hb hby d14_15) ⟨_, _, _, rfl, N71, own_ext_of_keep Kp, ⟨_, _, x71, y71, z71', ob1, ob2⟩, hk69, hk70⟩ (by decide) (by decide)
theorem d3_0 : decode prog_136_method_5_code 0 = .ok (.aload_n 0, 1) := by decide +kernel
theorem d3_1 : decode prog_136_method_5_code 1 = .ok (.getfield 27, 3) := by decide +kernel
theorem d3_4 : decode prog_136_method_5_code 4 = .ok (.iconst (-1), 1) := by decide +kernel
theorem d3_5 : decode prog_136_method_5_code 5 = .ok (.if_icmp .ne 11, 3) := by decide +kernel
theorem d3_8 : decode prog_136_method_5_code 8 = .ok (.aload_n 0, 1) := by decide +kernel
theorem d3_9 : decode prog_136_method_5_code 9 = .ok (.getfield 31, 3) := by decide +kernel
theorem d3_12 : decode prog_136_method_5_code 12 = .ok (.iconst (-1), 1) := by decide +kernel
theorem d3_13 : decode prog_136_method_5_code 13 = .ok (.if_icmp .eq 7, 3) := by decide +kernel
theorem d3_20 : decode prog_136_method_5_code 20 = .ok (.iconst 0, 1) := by decide +kernel
theorem d3_21 : decode prog_136_method_5_code 21 = .ok (.ireturn, 1) := by decide +kernel
theorem d3_16 : decode prog_136_method_5_code 16 = .ok (.iconst 1, 1) := by decide +kernel
theorem d3_17 : decode prog_136_method_5_code 17 = .ok (.goto 4, 3) := by decide +kernel
theorem pn_com_2fexample_2fgleanwork_2fgleanwork_2fserver_2fJob : plainName "com/example/gleanwork/gleanwork/server/Job" = true := by first | (simp [plainName, overriddenIn]; done) | decide +kernel
theorem ef_rmLm (mM : MethodId) (a : Addr) (r : Int32) (f : Int32) (c : Int32) : entryFrame mM #[(.ref a)] 1 = mkF mM 0 #[.val (.ref a)] [] := by first | (simp [entryFrame, mkF, argsToLocals, Value.category]; done) | rfl
set_option maxRecDepth 65536 in
set_option maxHeartbeats 40000000 in
theorem rmLm (lL : Launch) (Z : State) (a0 : Array Value) (hw : ∀ d ∈ tables_1, d.before a0 Z = true) (ws : List Jvm.Cond) (a : Addr) (r : Int32) (f : Int32) (c : Int32) (h0 : Heap) (n0 : Nat) (jb : Jb Z h0 a r f) (c0 : r = (-1 : Int32) → f = (-1 : Int32) → c = 0) (c1 : ¬ r = (-1 : Int32) → c = 1) (c2 : r = (-1 : Int32) → ¬ f = (-1 : Int32) → c = 1) :
    MetFree lL (⟨"com/example/gleanwork/gleanwork/server/Job", "limited", "()Z"⟩ : MethodName) (head1 (Jvm.Cond.code (⟨"com/example/gleanwork/gleanwork/server/Job", "limited", "()Z"⟩ : MethodName) prog_136_method_5_code 1 (some .boolean) :: ws) ({ frames := 0, cells := 0, slots := 0, locals := 0 } : Room)) (fun as_ uU_ => as_ = #[(.ref a)] ∧ Z.Warmed39 uU_.vm ∧ uU_.heap = h0) (fun _ _ _ _ _ => True) (fun _ uU_ oO_ uE_ => ∃ vV_ lL_, oO_ = .returned vV_ ∧ Qw (.int c) h0 n0 vV_ uE_.heap lL_ ∧ FrameEnd uU_ oO_ uE_ lL_ ({ frames := 0, cells := 0, slots := 0, locals := 0 } : Room).cells ({ frames := 0, cells := 0, slots := 0, locals := 0 } : Room).slots) := by
  refine MetFree.of_bodySF (plainFor_of_name pn_com_2fexample_2fgleanwork_2fgleanwork_2fserver_2fJob) hisR ?_
  intro pP eE sS mM args below meth cC s₁ Bd hml0 hP hK
  obtain ⟨rfl, hZ, hh⟩ := hP
  have hx := Bd.exec
  have hby := Bd.bytes
  have hml : cC.maxLocals = 1 := hml0
  have hown : sS.vm.findClass "com/example/gleanwork/gleanwork/server/Job" = some mM.cls := findClass_of_methodNamed Bd.named
  have hnm := (name_of_methodNamed Bd.named Bd.method).1
  have hret := Bd.returns
  have hlk := BodyLoose.notSynchronized Bd
  have X0 : Stand pP lL eE ({ frames := 0, cells := 0, slots := 0, locals := 0 } : Room) sS mM #[(.ref a)] below meth cC s₁ [] 0 0 := Stand.of_body Bd
  have e0 : s₁.heap = h0 := by rw [← hh, Bd.state]; rfl
  have N0 := Fr.nil n0
  show own_Go pP eE below sS (Qw (.int c) h0 n0) 0 0 (s₁.setTop (entryFrame mM #[(.ref a)] 1))
  refine own_st (A := s₁.setTop (mkF mM 0 #[.val (.ref a)] [])) (fun tT_ kK_ => castTop (ef_rmLm mM a r f c) kK_) ?_
  refine own_st (A := s₁.setTop (mkF mM 1 #[.val (.ref a)] [(.ref a)])) (fun tT_ kK_ => XS.aloadN X0.here hx rfl (hb hby d3_0) rfl rfl kK_) ?_
  obtain ⟨T72, X72, e72, st72⟩ := getF X0 hx hZ hown (host := "") (Or.inl (hw _ (List.mem_of_getElem? (i := 19) rfl))) Via.refl e0 jb.2.1 (g := (mkF mM 1 #[.val (.ref a)] [(.ref a)])) rfl rfl (hb hby d3_1)
  refine own_st (A := T72.setTop (mkF mM 4 #[.val (.ref a)] [(.int r)])) (fun tT_ kK_ => st72 tT_ kK_) ?_
  refine own_st (A := T72.setTop (mkF mM 5 #[.val (.ref a)] [(.int (-1 : Int32)), (.int r)])) (fun tT_ kK_ => XS.iconst X72.here hx rfl (hb hby d3_4) kK_) ?_
  by_cases hc5_73 : r = (-1 : Int32)
  · skip
    refine own_st (A := T72.setTop (mkF mM 8 #[.val (.ref a)] [])) (fun tT_ kK_ => XS.icmpNo X72.here hx rfl (hb hby d3_5) rfl (teq hc5_73).2 kK_) ?_
    refine own_st (A := T72.setTop (mkF mM 9 #[.val (.ref a)] [(.ref a)])) (fun tT_ kK_ => XS.aloadN X72.here hx rfl (hb hby d3_8) rfl rfl kK_) ?_
    obtain ⟨T74, X74, e74, st74⟩ := getF X72 hx hZ hown (host := "") (Or.inl (hw _ (List.mem_of_getElem? (i := 21) rfl))) Via.refl e72 jb.2.2 (g := (mkF mM 9 #[.val (.ref a)] [(.ref a)])) rfl rfl (hb hby d3_9)
    refine own_st (A := T74.setTop (mkF mM 12 #[.val (.ref a)] [(.int f)])) (fun tT_ kK_ => st74 tT_ kK_) ?_
    refine own_st (A := T74.setTop (mkF mM 13 #[.val (.ref a)] [(.int (-1 : Int32)), (.int f)])) (fun tT_ kK_ => XS.iconst X74.here hx rfl (hb hby d3_12) kK_) ?_
    by_cases hc13_75 : f = (-1 : Int32)
    · skip
      refine own_st (A := T74.setTop (mkF mM 20 #[.val (.ref a)] [])) (fun tT_ kK_ => XS.icmpYes X74.here hx rfl (pc0 := 13) (pc' := 20) rfl (hb hby d3_13) rfl (teq hc13_75).1 (by decide) (by decide) kK_) ?_
      refine own_st (A := T74.setTop (mkF mM 21 #[.val (.ref a)] [(.int (0 : Int32))])) (fun tT_ kK_ => XS.iconst X74.here hx rfl (hb hby d3_20) kK_) ?_
      exact own_retN X74 hx hlk (t := .boolean) hret (by simp) (hb hby d3_21) (by rw [c0 hc5_73 hc13_75]; exact ⟨rfl, N0, e74⟩) (by decide) (by decide)
    · skip
      refine own_st (A := T74.setTop (mkF mM 16 #[.val (.ref a)] [])) (fun tT_ kK_ => XS.icmpNo X74.here hx rfl (hb hby d3_13) rfl (feq hc13_75).1 kK_) ?_
      refine own_st (A := T74.setTop (mkF mM 17 #[.val (.ref a)] [(.int (1 : Int32))])) (fun tT_ kK_ => XS.iconst X74.here hx rfl (hb hby d3_16) kK_) ?_
      refine own_st (A := T74.setTop (mkF mM 21 #[.val (.ref a)] [(.int (1 : Int32))])) (fun tT_ kK_ => XS.goto X74.here hx rfl (pc0 := 17) (pc' := 21) rfl (hb hby d3_17) (by decide) (by decide) kK_) ?_
      exact own_retN X74 hx hlk (t := .boolean) hret (by simp) (hb hby d3_21) (by rw [c2 hc5_73 hc13_75]; exact ⟨rfl, N0, e74⟩) (by decide) (by decide)
  · skip
    refine own_st (A := T72.setTop (mkF mM 16 #[.val (.ref a)] [])) (fun tT_ kK_ => XS.icmpYes X72.here hx rfl (pc0 := 5) (pc' := 16) rfl (hb hby d3_5) rfl (feq hc5_73).2 (by decide) (by decide) kK_) ?_
    refine own_st (A := T72.setTop (mkF mM 17 #[.val (.ref a)] [(.int (1 : Int32))])) (fun tT_ kK_ => XS.iconst X72.here hx rfl (hb hby d3_16) kK_) ?_
    refine own_st (A := T72.setTop (mkF mM 21 #[.val (.ref a)] [(.int (1 : Int32))])) (fun tT_ kK_ => XS.goto X72.here hx rfl (pc0 := 17) (pc' := 21) rfl (hb hby d3_17) (by decide) (by decide) kK_) ?_
    exact own_retN X72 hx hlk (t := .boolean) hret (by simp) (hb hby d3_21) (by rw [c1 hc5_73]; exact ⟨rfl, N0, e72⟩) (by decide) (by decide)
theorem d13_0 : decode prog_136_method_4_code 0 = .ok (.aload_n 0, 1) := by decide +kernel
theorem d13_1 : decode prog_136_method_4_code 1 = .ok (.getfield 27, 3) := by decide +kernel
theorem d13_4 : decode prog_136_method_4_code 4 = .ok (.aload_n 0, 1) := by decide +kernel
theorem d13_5 : decode prog_136_method_4_code 5 = .ok (.getfield 31, 3) := by decide +kernel
theorem d13_8 : decode prog_136_method_4_code 8 = .ok (.invokestatic 61, 3) := by decide +kernel
theorem pd__28II_29Lcom_2fexample_2fgleanwork_2fgleanwork_2fserver_2fOwnLimits_3b : parseMethodDescriptor "(II)Lcom/example/gleanwork/gleanwork/server/OwnLimits;" = some ⟨[.int, .int], some (.object "com/example/gleanwork/gleanwork/server/OwnLimits")⟩ := by decide +kernel
theorem d13_11 : decode prog_136_method_4_code 11 = .ok (.areturn, 1) := by decide +kernel
theorem ef_rmOw (mM : MethodId) (a : Addr) (r : Int32) (f : Int32) (p1 : Int32) (p2 : Int32) (em : Addr) : entryFrame mM #[(.ref a)] 1 = mkF mM 0 #[.val (.ref a)] [] := by first | (simp [entryFrame, mkF, argsToLocals, Value.category]; done) | rfl
set_option maxRecDepth 65536 in
set_option maxHeartbeats 40000000 in
theorem rmOw (lL : Launch) (Z : State) (a0 : Array Value) (hw : ∀ d ∈ tables_1, d.before a0 Z = true) (ws : List Jvm.Cond) (a : Addr) (r : Int32) (f : Int32) (p1 : Int32) (p2 : Int32) (em : Addr) (h0 : Heap) (n0 : Nat) (jb : Jb Z h0 a r f) (Zn : n0 ≤ h0.size) (O : Old Z n0 h0) (S_e : Sta Z Z.heap "java/util/OptionalInt" "EMPTY" "Ljava/util/OptionalInt;" (.ref em)) (oe : Opt Z Z.heap em 0 0) (n10 : r = (-1 : Int32) → p1 = 0) (n11 : ¬ r = (-1 : Int32) → p1 = 1) (lk1 : ¬ r = (-1 : Int32) → ¬ r < (0 : Int32)) (n20 : f = (-1 : Int32) → p2 = 0) (n21 : ¬ f = (-1 : Int32) → p2 = 1) (lk2 : ¬ f = (-1 : Int32) → ¬ f < (1 : Int32)) :
    MetFree lL (⟨"com/example/gleanwork/gleanwork/server/Job", "ownLimits", "()Lcom/example/gleanwork/gleanwork/server/OwnLimits;"⟩ : MethodName) (head1 (Jvm.Cond.code (⟨"com/example/gleanwork/gleanwork/server/Job", "ownLimits", "()Lcom/example/gleanwork/gleanwork/server/OwnLimits;"⟩ : MethodName) prog_136_method_4_code 1 (some (.object "com/example/gleanwork/gleanwork/server/OwnLimits")) :: ws) ({ frames := 5, cells := 3, slots := 6, locals := 66 } : Room)) (fun as_ uU_ => as_ = #[(.ref a)] ∧ Z.Warmed39 uU_.vm ∧ uU_.heap = h0) (fun _ _ _ _ _ => True) (fun _ uU_ oO_ uE_ => ∃ vV_ lL_, oO_ = .returned vV_ ∧ Qlim Z p1 p2 h0 n0 vV_ uE_.heap lL_ ∧ FrameEnd uU_ oO_ uE_ lL_ ({ frames := 5, cells := 3, slots := 6, locals := 66 } : Room).cells ({ frames := 5, cells := 3, slots := 6, locals := 66 } : Room).slots) := by
  refine MetFree.of_bodySF (plainFor_of_name pn_com_2fexample_2fgleanwork_2fgleanwork_2fserver_2fJob) hisR ?_
  intro pP eE sS mM args below meth cC s₁ Bd hml0 hP hK
  obtain ⟨rfl, hZ, hh⟩ := hP
  have hx := Bd.exec
  have hby := Bd.bytes
  have hml : cC.maxLocals = 1 := hml0
  have hown : sS.vm.findClass "com/example/gleanwork/gleanwork/server/Job" = some mM.cls := findClass_of_methodNamed Bd.named
  have hnm := (name_of_methodNamed Bd.named Bd.method).1
  have hret := Bd.returns
  have hlk := BodyLoose.notSynchronized Bd
  have X0 : Stand pP lL eE ({ frames := 5, cells := 3, slots := 6, locals := 66 } : Room) sS mM #[(.ref a)] below meth cC s₁ [] 0 0 := Stand.of_body Bd
  have e0 : s₁.heap = h0 := by rw [← hh, Bd.state]; rfl
  have N0 := Fr.nil n0
  show own_Go pP eE below sS (Qlim Z p1 p2 h0 n0) 3 6 (s₁.setTop (entryFrame mM #[(.ref a)] 1))
  refine own_st (A := s₁.setTop (mkF mM 0 #[.val (.ref a)] [])) (fun tT_ kK_ => castTop (ef_rmOw mM a r f p1 p2 em) kK_) ?_
  refine own_st (A := s₁.setTop (mkF mM 1 #[.val (.ref a)] [(.ref a)])) (fun tT_ kK_ => XS.aloadN X0.here hx rfl (hb hby d13_0) rfl rfl kK_) ?_
  obtain ⟨T76, X76, e76, st76⟩ := getF X0 hx hZ hown (host := "") (Or.inl (hw _ (List.mem_of_getElem? (i := 19) rfl))) Via.refl e0 jb.2.1 (g := (mkF mM 1 #[.val (.ref a)] [(.ref a)])) rfl rfl (hb hby d13_1)
  refine own_st (A := T76.setTop (mkF mM 4 #[.val (.ref a)] [(.int r)])) (fun tT_ kK_ => st76 tT_ kK_) ?_
  refine own_st (A := T76.setTop (mkF mM 5 #[.val (.ref a)] [(.ref a), (.int r)])) (fun tT_ kK_ => XS.aloadN X76.here hx rfl (hb hby d13_4) rfl rfl kK_) ?_
  obtain ⟨T77, X77, e77, st77⟩ := getF X76 hx hZ hown (host := "") (Or.inl (hw _ (List.mem_of_getElem? (i := 21) rfl))) Via.refl e76 jb.2.2 (g := (mkF mM 5 #[.val (.ref a)] [(.ref a), (.int r)])) rfl rfl (hb hby d13_5)
  refine own_st (A := T77.setTop (mkF mM 8 #[.val (.ref a)] [(.int f), (.int r)])) (fun tT_ kK_ => st77 tT_ kK_) ?_
  obtain ⟨_, _, ⟨T78, L78, k78, n78⟩, -, X78, ⟨Lc78, hQ78, l78, y78, z78⟩, st78⟩ := Jvm.LawKit.callS X77 hx (y := (⟨"com/example/gleanwork/gleanwork/server/OwnLimits", "stored", "(II)Lcom/example/gleanwork/gleanwork/server/OwnLimits;"⟩ : MethodName)) hown (mvT hZ (hw _ (List.mem_of_getElem? (i := 88) rfl))) (mvT hZ (hw _ (List.mem_of_getElem? (i := 89) rfl))) (mvT hZ (hw _ (List.mem_of_getElem? (i := 34) rfl))) (mvT hZ (hw _ (List.mem_of_getElem? (i := 90) rfl))) (by decide) (backOf (W := 0) (rmSt lL Z a0 hw [] r f p1 p2 em h0 n0 Zn O S_e oe n10 n11 lk1 n20 n21 lk2) hZ (hw _ (List.mem_of_getElem? (i := 90) rfl)) (hw _ (List.mem_of_getElem? (i := 34) rfl)) (by decide) (by decide)) (g := (mkF mM 8 #[.val (.ref a)] [(.int f), (.int r)])) rfl (by rw [hml]; rfl) (argsL := [(.int r), (.int f)]) (rest := []) (lenOf pd__28II_29Lcom_2fexample_2fgleanwork_2fgleanwork_2fserver_2fOwnLimits_3b rfl) rfl (by show 2 * 0 + _ ≤ _; exact Nat.le_of_eq rfl) (hb hby d13_8) (fun _ _ => ⟨rfl, e77, (by decide : 0 + 3 ≤ _), (by decide : 0 + 6 ≤ _)⟩)
  dsimp only [Pt.U, Pt.locs, Pt.cells, Pt.slots] at X78 l78 y78 z78 st78 hQ78
  subst l78 y78 z78
  obtain ⟨b78, i78, j78, rfl, N78q, R78⟩ := hQ78
  have N78 := Fr.app N0 N78q
  have e78 : T78.heap = T78.heap := rfl
  refine own_st (A := T78.setTop (mkF mM 11 #[.val (.ref a)] [(.ref b78)])) (fun tT_ kK_ => st78 tT_ kK_) ?_
  exact own_retA X78 hx hlk hret rfl rfl (hb hby d13_11) ⟨_, _, _, rfl, N78, R78⟩ (by decide) (by decide)
theorem d10_0 : decode prog_171_method_13_code 0 = .ok (.aload_n 0, 1) := by decide +kernel
theorem d10_1 : decode prog_171_method_13_code 1 = .ok (.getfield 27, 3) := by decide +kernel
theorem d10_4 : decode prog_171_method_13_code 4 = .ok (.areturn, 1) := by decide +kernel
theorem ef_rmG1 (mM : MethodId) (a : Addr) (o : Addr) : entryFrame mM #[(.ref a)] 1 = mkF mM 0 #[.val (.ref a)] [] := by first | (simp [entryFrame, mkF, argsToLocals, Value.category]; done) | rfl
set_option maxRecDepth 65536 in
set_option maxHeartbeats 40000000 in
theorem rmG1 (lL : Launch) (Z : State) (a0 : Array Value) (hw : ∀ d ∈ tables_1, d.before a0 Z = true) (ws : List Jvm.Cond) (a : Addr) (o : Addr) (h0 : Heap) (n0 : Nat) (F : Fld Z h0 a "com/example/gleanwork/gleanwork/server/OwnLimits" "maxRunSeconds" "Ljava/util/OptionalInt;" (.ref o)) :
    MetFree lL (⟨"com/example/gleanwork/gleanwork/server/OwnLimits", "maxRunSeconds", "()Ljava/util/OptionalInt;"⟩ : MethodName) (head1 (Jvm.Cond.code (⟨"com/example/gleanwork/gleanwork/server/OwnLimits", "maxRunSeconds", "()Ljava/util/OptionalInt;"⟩ : MethodName) prog_171_method_13_code 1 (some (.object "java/util/OptionalInt")) :: ws) ({ frames := 0, cells := 0, slots := 0, locals := 0 } : Room)) (fun as_ uU_ => as_ = #[(.ref a)] ∧ Z.Warmed39 uU_.vm ∧ uU_.heap = h0) (fun _ _ _ _ _ => True) (fun _ uU_ oO_ uE_ => ∃ vV_ lL_, oO_ = .returned vV_ ∧ Qw (.ref o) h0 n0 vV_ uE_.heap lL_ ∧ FrameEnd uU_ oO_ uE_ lL_ ({ frames := 0, cells := 0, slots := 0, locals := 0 } : Room).cells ({ frames := 0, cells := 0, slots := 0, locals := 0 } : Room).slots) := by
  refine MetFree.of_bodySF (plainFor_of_name pn_com_2fexample_2fgleanwork_2fgleanwork_2fserver_2fOwnLimits) hisR ?_
  intro pP eE sS mM args below meth cC s₁ Bd hml0 hP hK
  obtain ⟨rfl, hZ, hh⟩ := hP
  have hx := Bd.exec
  have hby := Bd.bytes
  have hml : cC.maxLocals = 1 := hml0
  have hown : sS.vm.findClass "com/example/gleanwork/gleanwork/server/OwnLimits" = some mM.cls := findClass_of_methodNamed Bd.named
  have hnm := (name_of_methodNamed Bd.named Bd.method).1
  have hret := Bd.returns
  have hlk := BodyLoose.notSynchronized Bd
  have X0 : Stand pP lL eE ({ frames := 0, cells := 0, slots := 0, locals := 0 } : Room) sS mM #[(.ref a)] below meth cC s₁ [] 0 0 := Stand.of_body Bd
  have e0 : s₁.heap = h0 := by rw [← hh, Bd.state]; rfl
  have N0 := Fr.nil n0
  show own_Go pP eE below sS (Qw (.ref o) h0 n0) 0 0 (s₁.setTop (entryFrame mM #[(.ref a)] 1))
  refine own_st (A := s₁.setTop (mkF mM 0 #[.val (.ref a)] [])) (fun tT_ kK_ => castTop (ef_rmG1 mM a o) kK_) ?_
  refine own_st (A := s₁.setTop (mkF mM 1 #[.val (.ref a)] [(.ref a)])) (fun tT_ kK_ => XS.aloadN X0.here hx rfl (hb hby d10_0) rfl rfl kK_) ?_
  obtain ⟨T79, X79, e79, st79⟩ := getF X0 hx hZ hown (host := "") (Or.inl (hw _ (List.mem_of_getElem? (i := 59) rfl))) Via.refl e0 F (g := (mkF mM 1 #[.val (.ref a)] [(.ref a)])) rfl rfl (hb hby d10_1)
  refine own_st (A := T79.setTop (mkF mM 4 #[.val (.ref a)] [(.ref o)])) (fun tT_ kK_ => st79 tT_ kK_) ?_
  exact own_retA X79 hx hlk hret rfl rfl (hb hby d10_4) ⟨rfl, N0, e79⟩ (by decide) (by decide)
theorem d12_0 : decode prog_171_method_14_code 0 = .ok (.aload_n 0, 1) := by decide +kernel
theorem d12_1 : decode prog_171_method_14_code 1 = .ok (.getfield 33, 3) := by decide +kernel
theorem d12_4 : decode prog_171_method_14_code 4 = .ok (.areturn, 1) := by decide +kernel
theorem ef_rmG2 (mM : MethodId) (a : Addr) (o : Addr) : entryFrame mM #[(.ref a)] 1 = mkF mM 0 #[.val (.ref a)] [] := by first | (simp [entryFrame, mkF, argsToLocals, Value.category]; done) | rfl
set_option maxRecDepth 65536 in
set_option maxHeartbeats 40000000 in
theorem rmG2 (lL : Launch) (Z : State) (a0 : Array Value) (hw : ∀ d ∈ tables_1, d.before a0 Z = true) (ws : List Jvm.Cond) (a : Addr) (o : Addr) (h0 : Heap) (n0 : Nat) (F : Fld Z h0 a "com/example/gleanwork/gleanwork/server/OwnLimits" "maxFailures" "Ljava/util/OptionalInt;" (.ref o)) :
    MetFree lL (⟨"com/example/gleanwork/gleanwork/server/OwnLimits", "maxFailures", "()Ljava/util/OptionalInt;"⟩ : MethodName) (head1 (Jvm.Cond.code (⟨"com/example/gleanwork/gleanwork/server/OwnLimits", "maxFailures", "()Ljava/util/OptionalInt;"⟩ : MethodName) prog_171_method_14_code 1 (some (.object "java/util/OptionalInt")) :: ws) ({ frames := 0, cells := 0, slots := 0, locals := 0 } : Room)) (fun as_ uU_ => as_ = #[(.ref a)] ∧ Z.Warmed39 uU_.vm ∧ uU_.heap = h0) (fun _ _ _ _ _ => True) (fun _ uU_ oO_ uE_ => ∃ vV_ lL_, oO_ = .returned vV_ ∧ Qw (.ref o) h0 n0 vV_ uE_.heap lL_ ∧ FrameEnd uU_ oO_ uE_ lL_ ({ frames := 0, cells := 0, slots := 0, locals := 0 } : Room).cells ({ frames := 0, cells := 0, slots := 0, locals := 0 } : Room).slots) := by
  refine MetFree.of_bodySF (plainFor_of_name pn_com_2fexample_2fgleanwork_2fgleanwork_2fserver_2fOwnLimits) hisR ?_
  intro pP eE sS mM args below meth cC s₁ Bd hml0 hP hK
  obtain ⟨rfl, hZ, hh⟩ := hP
  have hx := Bd.exec
  have hby := Bd.bytes
  have hml : cC.maxLocals = 1 := hml0
  have hown : sS.vm.findClass "com/example/gleanwork/gleanwork/server/OwnLimits" = some mM.cls := findClass_of_methodNamed Bd.named
  have hnm := (name_of_methodNamed Bd.named Bd.method).1
  have hret := Bd.returns
  have hlk := BodyLoose.notSynchronized Bd
  have X0 : Stand pP lL eE ({ frames := 0, cells := 0, slots := 0, locals := 0 } : Room) sS mM #[(.ref a)] below meth cC s₁ [] 0 0 := Stand.of_body Bd
  have e0 : s₁.heap = h0 := by rw [← hh, Bd.state]; rfl
  have N0 := Fr.nil n0
  show own_Go pP eE below sS (Qw (.ref o) h0 n0) 0 0 (s₁.setTop (entryFrame mM #[(.ref a)] 1))
  refine own_st (A := s₁.setTop (mkF mM 0 #[.val (.ref a)] [])) (fun tT_ kK_ => castTop (ef_rmG2 mM a o) kK_) ?_
  refine own_st (A := s₁.setTop (mkF mM 1 #[.val (.ref a)] [(.ref a)])) (fun tT_ kK_ => XS.aloadN X0.here hx rfl (hb hby d12_0) rfl rfl kK_) ?_
  obtain ⟨T80, X80, e80, st80⟩ := getF X0 hx hZ hown (host := "") (Or.inl (hw _ (List.mem_of_getElem? (i := 61) rfl))) Via.refl e0 F (g := (mkF mM 1 #[.val (.ref a)] [(.ref a)])) rfl rfl (hb hby d12_1)
  refine own_st (A := T80.setTop (mkF mM 4 #[.val (.ref a)] [(.ref o)])) (fun tT_ kK_ => st80 tT_ kK_) ?_
  exact own_retA X80 hx hlk hret rfl rfl (hb hby d12_4) ⟨rfl, N0, e80⟩ (by decide) (by decide)
theorem d16_0 : decode prog_171_method_6_code 0 = .ok (.aload_n 0, 1) := by decide +kernel
theorem d16_1 : decode prog_171_method_6_code 1 = .ok (.getfield 27, 3) := by decide +kernel
theorem d16_4 : decode prog_171_method_6_code 4 = .ok (.invokevirtual 7, 3) := by decide +kernel
theorem d16_7 : decode prog_171_method_6_code 7 = .ok (.ifCond .ne 13, 3) := by decide +kernel
theorem d16_10 : decode prog_171_method_6_code 10 = .ok (.aload_n 0, 1) := by decide +kernel
theorem d16_11 : decode prog_171_method_6_code 11 = .ok (.getfield 33, 3) := by decide +kernel
theorem d16_14 : decode prog_171_method_6_code 14 = .ok (.invokevirtual 7, 3) := by decide +kernel
theorem d16_17 : decode prog_171_method_6_code 17 = .ok (.ifCond .eq 7, 3) := by decide +kernel
theorem d16_24 : decode prog_171_method_6_code 24 = .ok (.iconst 0, 1) := by decide +kernel
theorem d16_25 : decode prog_171_method_6_code 25 = .ok (.ireturn, 1) := by decide +kernel
theorem d16_20 : decode prog_171_method_6_code 20 = .ok (.iconst 1, 1) := by decide +kernel
theorem d16_21 : decode prog_171_method_6_code 21 = .ok (.goto 4, 3) := by decide +kernel
theorem ef_rmAn (mM : MethodId) (a : Addr) (p : Int32) (i : Int32) (q : Int32) (j : Int32) (c : Int32) : entryFrame mM #[(.ref a)] 1 = mkF mM 0 #[.val (.ref a)] [] := by first | (simp [entryFrame, mkF, argsToLocals, Value.category]; done) | rfl
set_option maxRecDepth 65536 in
set_option maxHeartbeats 40000000 in
theorem rmAn (lL : Launch) (Z : State) (a0 : Array Value) (hw : ∀ d ∈ tables_1, d.before a0 Z = true) (ws : List Jvm.Cond) (a : Addr) (p : Int32) (i : Int32) (q : Int32) (j : Int32) (c : Int32) (h0 : Heap) (n0 : Nat) (lm : Lim Z h0 a p i q j) (c0 : p = (0 : Int32) → q = (0 : Int32) → c = 0) (c1 : ¬ p = (0 : Int32) → c = 1) (c2 : p = (0 : Int32) → ¬ q = (0 : Int32) → c = 1) :
    MetFree lL (⟨"com/example/gleanwork/gleanwork/server/OwnLimits", "any", "()Z"⟩ : MethodName) (head1 (Jvm.Cond.code (⟨"com/example/gleanwork/gleanwork/server/OwnLimits", "any", "()Z"⟩ : MethodName) prog_171_method_6_code 1 (some .boolean) :: ws) ({ frames := 1, cells := 0, slots := 0, locals := 12 } : Room)) (fun as_ uU_ => as_ = #[(.ref a)] ∧ Z.Warmed39 uU_.vm ∧ uU_.heap = h0) (fun _ _ _ _ _ => True) (fun _ uU_ oO_ uE_ => ∃ vV_ lL_, oO_ = .returned vV_ ∧ Qw (.int c) h0 n0 vV_ uE_.heap lL_ ∧ FrameEnd uU_ oO_ uE_ lL_ ({ frames := 1, cells := 0, slots := 0, locals := 12 } : Room).cells ({ frames := 1, cells := 0, slots := 0, locals := 12 } : Room).slots) := by
  refine MetFree.of_bodySF (plainFor_of_name pn_com_2fexample_2fgleanwork_2fgleanwork_2fserver_2fOwnLimits) hisR ?_
  intro pP eE sS mM args below meth cC s₁ Bd hml0 hP hK
  obtain ⟨rfl, hZ, hh⟩ := hP
  have hx := Bd.exec
  have hby := Bd.bytes
  have hml : cC.maxLocals = 1 := hml0
  have hown : sS.vm.findClass "com/example/gleanwork/gleanwork/server/OwnLimits" = some mM.cls := findClass_of_methodNamed Bd.named
  have hnm := (name_of_methodNamed Bd.named Bd.method).1
  have hret := Bd.returns
  have hlk := BodyLoose.notSynchronized Bd
  have X0 : Stand pP lL eE ({ frames := 1, cells := 0, slots := 0, locals := 12 } : Room) sS mM #[(.ref a)] below meth cC s₁ [] 0 0 := Stand.of_body Bd
  have e0 : s₁.heap = h0 := by rw [← hh, Bd.state]; rfl
  have N0 := Fr.nil n0
  show own_Go pP eE below sS (Qw (.int c) h0 n0) 0 0 (s₁.setTop (entryFrame mM #[(.ref a)] 1))
  refine own_st (A := s₁.setTop (mkF mM 0 #[.val (.ref a)] [])) (fun tT_ kK_ => castTop (ef_rmAn mM a p i q j c) kK_) ?_
  obtain ⟨o1, o2, E_a, F_a_maxRunSeconds, F_a_maxFailures, b1, b2⟩ := lm
  refine own_st (A := s₁.setTop (mkF mM 1 #[.val (.ref a)] [(.ref a)])) (fun tT_ kK_ => XS.aloadN X0.here hx rfl (hb hby d16_0) rfl rfl kK_) ?_
  obtain ⟨T81, X81, e81, st81⟩ := getF X0 hx hZ hown (host := "") (Or.inl (hw _ (List.mem_of_getElem? (i := 59) rfl))) Via.refl e0 F_a_maxRunSeconds (g := (mkF mM 1 #[.val (.ref a)] [(.ref a)])) rfl rfl (hb hby d16_1)
  refine own_st (A := T81.setTop (mkF mM 4 #[.val (.ref a)] [(.ref o1)])) (fun tT_ kK_ => st81 tT_ kK_) ?_
  obtain ⟨cq82, kq82, q82a, q82b, q82c⟩ := isOf hZ e81 b1.1
  obtain ⟨_, _, ⟨T82, L82, k82, n82⟩, -, X82, ⟨Lc82, hQ82, l82, y82, z82⟩, st82⟩ := X81.virtualBack hx (y := (⟨"java/util/OptionalInt", "isPresent", "()Z"⟩ : MethodName)) (z := (⟨"java/util/OptionalInt", "isPresent", "()Z"⟩ : MethodName)) hown (mvT hZ (hw _ (List.mem_of_getElem? (i := 52) rfl))) (mvT hZ (hw _ (List.mem_of_getElem? (i := 53) rfl))) (notFace_of_selects (args := #[]) (mvT hZ (hw _ (List.mem_of_getElem? (i := 55) rfl)))) (mvT hZ (hw _ (List.mem_of_getElem? (i := 55) rfl))) (mvT hZ (hw _ (List.mem_of_getElem? (i := 54) rfl))) (by decide) (backOf (W := 0) (rmIs lL Z a0 hw [] o1 p i h0 n0 b1) hZ (hw _ (List.mem_of_getElem? (i := 56) rfl)) (hw _ (List.mem_of_getElem? (i := 40) rfl)) (by decide) (by decide)) q82a q82c (g := (mkF mM 4 #[.val (.ref a)] [(.ref o1)])) rfl (by rw [hml]; rfl) (Steps.refl _) (argsL := []) (rest := []) (lenOf pd__28_29Z rfl) rfl (by show 2 * 0 + _ ≤ _; exact Nat.le_of_eq rfl) (hb hby d16_4) (fun _ _ => ⟨rfl, e81, (by decide : 0 + 0 ≤ _), (by decide : 0 + 0 ≤ _)⟩)
  dsimp only [Pt.U, Pt.locs, Pt.cells, Pt.slots] at X82 l82 y82 z82 st82 hQ82
  subst l82 y82 z82
  obtain ⟨rfl, N82q, e82⟩ := hQ82
  have N82 := Fr.app N0 N82q
  refine own_st (A := T82.setTop (mkF mM 7 #[.val (.ref a)] [(.int p)])) (fun tT_ kK_ => st82.trans kK_) ?_
  by_cases hc7_83 : p = (0 : Int32)
  · skip
    refine own_st (A := T82.setTop (mkF mM 10 #[.val (.ref a)] [])) (fun tT_ kK_ => XS.ifNo X82.here hx rfl (hb hby d16_7) rfl ((if0 _ _).trans (teq hc7_83).2) kK_) ?_
    refine own_st (A := T82.setTop (mkF mM 11 #[.val (.ref a)] [(.ref a)])) (fun tT_ kK_ => XS.aloadN X82.here hx rfl (hb hby d16_10) rfl rfl kK_) ?_
    obtain ⟨T84, X84, e84, st84⟩ := getF X82 hx hZ hown (host := "") (Or.inl (hw _ (List.mem_of_getElem? (i := 61) rfl))) Via.refl e82 F_a_maxFailures (g := (mkF mM 11 #[.val (.ref a)] [(.ref a)])) rfl rfl (hb hby d16_11)
    refine own_st (A := T84.setTop (mkF mM 14 #[.val (.ref a)] [(.ref o2)])) (fun tT_ kK_ => st84 tT_ kK_) ?_
    obtain ⟨cq85, kq85, q85a, q85b, q85c⟩ := isOf hZ e84 b2.1
    obtain ⟨_, _, ⟨T85, L85, k85, n85⟩, -, X85, ⟨Lc85, hQ85, l85, y85, z85⟩, st85⟩ := X84.virtualBack hx (y := (⟨"java/util/OptionalInt", "isPresent", "()Z"⟩ : MethodName)) (z := (⟨"java/util/OptionalInt", "isPresent", "()Z"⟩ : MethodName)) hown (mvT hZ (hw _ (List.mem_of_getElem? (i := 52) rfl))) (mvT hZ (hw _ (List.mem_of_getElem? (i := 53) rfl))) (notFace_of_selects (args := #[]) (mvT hZ (hw _ (List.mem_of_getElem? (i := 55) rfl)))) (mvT hZ (hw _ (List.mem_of_getElem? (i := 55) rfl))) (mvT hZ (hw _ (List.mem_of_getElem? (i := 54) rfl))) (by decide) (backOf (W := 0) (rmIs lL Z a0 hw [] o2 q j h0 n0 b2) hZ (hw _ (List.mem_of_getElem? (i := 56) rfl)) (hw _ (List.mem_of_getElem? (i := 40) rfl)) (by decide) (by decide)) q85a q85c (g := (mkF mM 14 #[.val (.ref a)] [(.ref o2)])) rfl (by rw [hml]; rfl) (Steps.refl _) (argsL := []) (rest := []) (lenOf pd__28_29Z rfl) rfl (by show 2 * 0 + _ ≤ _; exact Nat.le_of_eq rfl) (hb hby d16_14) (fun _ _ => ⟨rfl, e84, (by decide : 0 + 0 ≤ _), (by decide : 0 + 0 ≤ _)⟩)
    dsimp only [Pt.U, Pt.locs, Pt.cells, Pt.slots] at X85 l85 y85 z85 st85 hQ85
    subst l85 y85 z85
    obtain ⟨rfl, N85q, e85⟩ := hQ85
    have N85 := Fr.app N82 N85q
    refine own_st (A := T85.setTop (mkF mM 17 #[.val (.ref a)] [(.int q)])) (fun tT_ kK_ => st85.trans kK_) ?_
    by_cases hc17_86 : q = (0 : Int32)
    · skip
      refine own_st (A := T85.setTop (mkF mM 24 #[.val (.ref a)] [])) (fun tT_ kK_ => XS.ifYes X85.here hx rfl (pc0 := 17) (pc' := 24) rfl (hb hby d16_17) rfl ((if0 _ _).trans (teq hc17_86).1) (by decide) (by decide) kK_) ?_
      refine own_st (A := T85.setTop (mkF mM 25 #[.val (.ref a)] [(.int (0 : Int32))])) (fun tT_ kK_ => XS.iconst X85.here hx rfl (hb hby d16_24) kK_) ?_
      exact own_retN X85 hx hlk (t := .boolean) hret (by simp) (hb hby d16_25) (by rw [c0 hc7_83 hc17_86]; exact ⟨rfl, N85, e85⟩) (by decide) (by decide)
    · skip
      refine own_st (A := T85.setTop (mkF mM 20 #[.val (.ref a)] [])) (fun tT_ kK_ => XS.ifNo X85.here hx rfl (hb hby d16_17) rfl ((if0 _ _).trans (feq hc17_86).1) kK_) ?_
      refine own_st (A := T85.setTop (mkF mM 21 #[.val (.ref a)] [(.int (1 : Int32))])) (fun tT_ kK_ => XS.iconst X85.here hx rfl (hb hby d16_20) kK_) ?_
      refine own_st (A := T85.setTop (mkF mM 25 #[.val (.ref a)] [(.int (1 : Int32))])) (fun tT_ kK_ => XS.goto X85.here hx rfl (pc0 := 21) (pc' := 25) rfl (hb hby d16_21) (by decide) (by decide) kK_) ?_
      exact own_retN X85 hx hlk (t := .boolean) hret (by simp) (hb hby d16_25) (by rw [c2 hc7_83 hc17_86]; exact ⟨rfl, N85, e85⟩) (by decide) (by decide)
  · skip
    refine own_st (A := T82.setTop (mkF mM 20 #[.val (.ref a)] [])) (fun tT_ kK_ => XS.ifYes X82.here hx rfl (pc0 := 7) (pc' := 20) rfl (hb hby d16_7) rfl ((if0 _ _).trans (feq hc7_83).2) (by decide) (by decide) kK_) ?_
    refine own_st (A := T82.setTop (mkF mM 21 #[.val (.ref a)] [(.int (1 : Int32))])) (fun tT_ kK_ => XS.iconst X82.here hx rfl (hb hby d16_20) kK_) ?_
    refine own_st (A := T82.setTop (mkF mM 25 #[.val (.ref a)] [(.int (1 : Int32))])) (fun tT_ kK_ => XS.goto X82.here hx rfl (pc0 := 21) (pc' := 25) rfl (hb hby d16_21) (by decide) (by decide) kK_) ?_
    exact own_retN X82 hx hlk (t := .boolean) hret (by simp) (hb hby d16_25) (by rw [c1 hc7_83]; exact ⟨rfl, N82, e82⟩) (by decide) (by decide)
theorem d9_0 : decode prog_136_method_6_code 0 = .ok (.aload_n 0, 1) := by decide +kernel
theorem d9_1 : decode prog_136_method_6_code 1 = .ok (.aload_n 1, 1) := by decide +kernel
theorem d9_2 : decode prog_136_method_6_code 2 = .ok (.invokevirtual 67, 3) := by decide +kernel
theorem d9_5 : decode prog_136_method_6_code 5 = .ok (.iconst (-1), 1) := by decide +kernel
theorem d9_6 : decode prog_136_method_6_code 6 = .ok (.invokevirtual 71, 3) := by decide +kernel
theorem pd__28I_29I : parseMethodDescriptor "(I)I" = some ⟨[.int], some .int⟩ := by decide +kernel
theorem d9_9 : decode prog_136_method_6_code 9 = .ok (.putfield 27, 3) := by decide +kernel
theorem d9_12 : decode prog_136_method_6_code 12 = .ok (.aload_n 0, 1) := by decide +kernel
theorem d9_13 : decode prog_136_method_6_code 13 = .ok (.aload_n 1, 1) := by decide +kernel
theorem d9_14 : decode prog_136_method_6_code 14 = .ok (.invokevirtual 77, 3) := by decide +kernel
theorem d9_17 : decode prog_136_method_6_code 17 = .ok (.iconst (-1), 1) := by decide +kernel
theorem d9_18 : decode prog_136_method_6_code 18 = .ok (.invokevirtual 71, 3) := by decide +kernel
theorem d9_21 : decode prog_136_method_6_code 21 = .ok (.putfield 31, 3) := by decide +kernel
theorem d9_24 : decode prog_136_method_6_code 24 = .ok (.return_, 1) := by decide +kernel
theorem ef_rmSe (mM : MethodId) (a : Addr) (r : Int32) (f : Int32) (lA : Addr) (p : Int32) (i : Int32) (q : Int32) (j : Int32) (r1 : Int32) (r2 : Int32) : entryFrame mM #[(.ref a), (.ref lA)] 2 = mkF mM 0 #[.val (.ref a), .val (.ref lA)] [] := by first | (simp [entryFrame, mkF, argsToLocals, Value.category]; done) | rfl
set_option maxRecDepth 65536 in
set_option maxHeartbeats 40000000 in
theorem rmSe (lL : Launch) (Z : State) (a0 : Array Value) (hw : ∀ d ∈ tables_1, d.before a0 Z = true) (ws : List Jvm.Cond) (a : Addr) (r : Int32) (f : Int32) (lA : Addr) (p : Int32) (i : Int32) (q : Int32) (j : Int32) (r1 : Int32) (r2 : Int32) (h0 : Heap) (n0 : Nat) (g_a : n0 ≤ a) (jb : Jb Z h0 a r f) (lm : Lim Z h0 lA p i q j) (t10 : p = (0 : Int32) → r1 = (-1 : Int32)) (t11 : ¬ p = (0 : Int32) → r1 = i) (t20 : q = (0 : Int32) → r2 = (-1 : Int32)) (t21 : ¬ q = (0 : Int32) → r2 = j) :
    MetFree lL (⟨"com/example/gleanwork/gleanwork/server/Job", "setOwnLimits", "(Lcom/example/gleanwork/gleanwork/server/OwnLimits;)V"⟩ : MethodName) (head1 (Jvm.Cond.code (⟨"com/example/gleanwork/gleanwork/server/Job", "setOwnLimits", "(Lcom/example/gleanwork/gleanwork/server/OwnLimits;)V"⟩ : MethodName) prog_136_method_6_code 2 none :: ws) ({ frames := 1, cells := 0, slots := 0, locals := 14 } : Room)) (fun as_ uU_ => as_ = #[(.ref a), (.ref lA)] ∧ Z.Warmed39 uU_.vm ∧ uU_.heap = h0) (fun _ _ _ _ _ => True) (fun _ uU_ oO_ uE_ => ∃ vV_ lL_, oO_ = .returned vV_ ∧ QJ Z a r1 r2 h0 n0 vV_ uE_.heap lL_ ∧ FrameEnd uU_ oO_ uE_ lL_ ({ frames := 1, cells := 0, slots := 0, locals := 14 } : Room).cells ({ frames := 1, cells := 0, slots := 0, locals := 14 } : Room).slots) := by
  refine MetFree.of_bodySF (plainFor_of_name pn_com_2fexample_2fgleanwork_2fgleanwork_2fserver_2fJob) hisR ?_
  intro pP eE sS mM args below meth cC s₁ Bd hml0 hP hK
  obtain ⟨rfl, hZ, hh⟩ := hP
  have hx := Bd.exec
  have hby := Bd.bytes
  have hml : cC.maxLocals = 2 := hml0
  have hown : sS.vm.findClass "com/example/gleanwork/gleanwork/server/Job" = some mM.cls := findClass_of_methodNamed Bd.named
  have hnm := (name_of_methodNamed Bd.named Bd.method).1
  have hret := Bd.returns
  have hlk := BodyLoose.notSynchronized Bd
  have X0 : Stand pP lL eE ({ frames := 1, cells := 0, slots := 0, locals := 14 } : Room) sS mM #[(.ref a), (.ref lA)] below meth cC s₁ [] 0 0 := Stand.of_body Bd
  have e0 : s₁.heap = h0 := by rw [← hh, Bd.state]; rfl
  have N0 := Fr.nil n0
  show own_Go pP eE below sS (QJ Z a r1 r2 h0 n0) 0 0 (s₁.setTop (entryFrame mM #[(.ref a), (.ref lA)] 2))
  refine own_st (A := s₁.setTop (mkF mM 0 #[.val (.ref a), .val (.ref lA)] [])) (fun tT_ kK_ => castTop (ef_rmSe mM a r f lA p i q j r1 r2) kK_) ?_
  obtain ⟨E_a, F_a_ownMaxRunSeconds, F_a_ownMaxFailures⟩ := jb
  obtain ⟨o1, o2, E_lA, F_lA_maxRunSeconds, F_lA_maxFailures, b1, b2⟩ := lm
  have Kp := Keep.refl h0 [a]
  refine own_st (A := s₁.setTop (mkF mM 1 #[.val (.ref a), .val (.ref lA)] [(.ref a)])) (fun tT_ kK_ => XS.aloadN X0.here hx rfl (hb hby d9_0) rfl rfl kK_) ?_
  refine own_st (A := s₁.setTop (mkF mM 2 #[.val (.ref a), .val (.ref lA)] [(.ref lA), (.ref a)])) (fun tT_ kK_ => XS.aloadN X0.here hx rfl (hb hby d9_1) rfl rfl kK_) ?_
  obtain ⟨cq87, kq87, q87a, q87b, q87c⟩ := isOf hZ e0 E_lA
  obtain ⟨_, _, ⟨T87, L87, k87, n87⟩, -, X87, ⟨Lc87, hQ87, l87, y87, z87⟩, st87⟩ := X0.virtualBack hx (y := (⟨"com/example/gleanwork/gleanwork/server/OwnLimits", "maxRunSeconds", "()Ljava/util/OptionalInt;"⟩ : MethodName)) (z := (⟨"com/example/gleanwork/gleanwork/server/OwnLimits", "maxRunSeconds", "()Ljava/util/OptionalInt;"⟩ : MethodName)) hown (mvT hZ (hw _ (List.mem_of_getElem? (i := 68) rfl))) (mvT hZ (hw _ (List.mem_of_getElem? (i := 69) rfl))) (notFace_of_selects (args := #[]) (mvT hZ (hw _ (List.mem_of_getElem? (i := 71) rfl)))) (mvT hZ (hw _ (List.mem_of_getElem? (i := 71) rfl))) (mvT hZ (hw _ (List.mem_of_getElem? (i := 70) rfl))) (by decide) (backOf (W := 1) (rmG1 lL Z a0 hw [] lA o1 h0 n0 F_lA_maxRunSeconds) hZ (hw _ (List.mem_of_getElem? (i := 72) rfl)) (hw _ (List.mem_of_getElem? (i := 34) rfl)) (by decide) (by decide)) q87a q87c (g := (mkF mM 2 #[.val (.ref a), .val (.ref lA)] [(.ref lA), (.ref a)])) rfl (by rw [hml]; rfl) (Steps.refl _) (argsL := []) (rest := [(.ref a)]) (lenOf pd__28_29Ljava_2futil_2fOptionalInt_3b rfl) rfl (by show 2 * 0 + _ ≤ _; exact Nat.le_of_eq rfl) (hb hby d9_2) (fun _ _ => ⟨rfl, e0, (by decide : 0 + 0 ≤ _), (by decide : 0 + 0 ≤ _)⟩)
  dsimp only [Pt.U, Pt.locs, Pt.cells, Pt.slots] at X87 l87 y87 z87 st87 hQ87
  subst l87 y87 z87
  obtain ⟨rfl, N87q, e87⟩ := hQ87
  have N87 := Fr.app N0 N87q
  refine own_st (A := T87.setTop (mkF mM 5 #[.val (.ref a), .val (.ref lA)] [(.ref o1), (.ref a)])) (fun tT_ kK_ => st87.trans kK_) ?_
  refine own_st (A := T87.setTop (mkF mM 6 #[.val (.ref a), .val (.ref lA)] [(.int (-1 : Int32)), (.ref o1), (.ref a)])) (fun tT_ kK_ => XS.iconst X87.here hx rfl (hb hby d9_5) kK_) ?_
  obtain ⟨cq88, kq88, q88a, q88b, q88c⟩ := isOf hZ e87 b1.1
  obtain ⟨_, _, ⟨T88, L88, k88, n88⟩, -, X88, ⟨Lc88, hQ88, l88, y88, z88⟩, st88⟩ := X87.virtualBack hx (y := (⟨"java/util/OptionalInt", "orElse", "(I)I"⟩ : MethodName)) (z := (⟨"java/util/OptionalInt", "orElse", "(I)I"⟩ : MethodName)) hown (mvT hZ (hw _ (List.mem_of_getElem? (i := 73) rfl))) (mvT hZ (hw _ (List.mem_of_getElem? (i := 74) rfl))) (notFace_of_selects (args := #[]) (mvT hZ (hw _ (List.mem_of_getElem? (i := 76) rfl)))) (mvT hZ (hw _ (List.mem_of_getElem? (i := 76) rfl))) (mvT hZ (hw _ (List.mem_of_getElem? (i := 75) rfl))) (by decide) (backOf (W := 1) (rmOr lL Z a0 hw [] o1 p i (-1 : Int32) r1 h0 n0 b1 t10 t11) hZ (hw _ (List.mem_of_getElem? (i := 77) rfl)) (hw _ (List.mem_of_getElem? (i := 40) rfl)) (by decide) (by decide)) q88a q88c (g := (mkF mM 6 #[.val (.ref a), .val (.ref lA)] [(.int (-1 : Int32)), (.ref o1), (.ref a)])) rfl (by rw [hml]; rfl) (Steps.refl _) (argsL := [(.int (-1 : Int32))]) (rest := [(.ref a)]) (lenOf pd__28I_29I rfl) rfl (by show 2 * 0 + _ ≤ _; exact Nat.le_of_eq rfl) (hb hby d9_6) (fun _ _ => ⟨rfl, e87, (by decide : 0 + 0 ≤ _), (by decide : 0 + 0 ≤ _)⟩)
  dsimp only [Pt.U, Pt.locs, Pt.cells, Pt.slots] at X88 l88 y88 z88 st88 hQ88
  subst l88 y88 z88
  obtain ⟨rfl, N88q, e88⟩ := hQ88
  have N88 := Fr.app N87 N88q
  refine own_st (A := T88.setTop (mkF mM 9 #[.val (.ref a), .val (.ref lA)] [(.int r1), (.ref a)])) (fun tT_ kK_ => st88.trans kK_) ?_
  obtain ⟨T89, h89, X89, e89, W89, st89⟩ := putF X88 hx hZ hown (host := "") (Or.inl (hw _ (List.mem_of_getElem? (i := 19) rfl))) Via.refl e88 F_a_ownMaxRunSeconds E_a (Or.inl (hw _ (List.mem_of_getElem? (i := 20) rfl))) (hw _ (List.mem_of_getElem? (i := 1) rfl)) (ty := .int) (by decide) rfl rfl (g := (mkF mM 9 #[.val (.ref a), .val (.ref lA)] [(.int r1), (.ref a)])) rfl rfl (hb hby d9_9)
  have N89 := Fr.snoc X89 N88 g_a
  have b1 := own_Opt_wr b1 W89 (Exa.ne b1.1 E_a (by decide))
  have b2 := own_Opt_wr b2 W89 (Exa.ne b2.1 E_a (by decide))
  have F_a_ownMaxRunSeconds := F_a_ownMaxRunSeconds.same W89
  have F_a_ownMaxFailures := F_a_ownMaxFailures.other W89 (Or.inr (slot_ne (Or.inl (hw _ (List.mem_of_getElem? (i := 22) rfl))) (Or.inl (hw _ (List.mem_of_getElem? (i := 20) rfl))) (by decide) (t := .int) (t' := .int) (by decide) (by decide)))
  have F_lA_maxRunSeconds := F_lA_maxRunSeconds.other W89 (Or.inl (Exa.ne E_lA E_a (by decide)))
  have F_lA_maxFailures := F_lA_maxFailures.other W89 (Or.inl (Exa.ne E_lA E_a (by decide)))
  have E_a := E_a.wr W89
  have E_lA := E_lA.wr W89
  have Kp := Kp.wr W89 (Or.inl (List.mem_of_getElem? (i := 0) rfl))
  refine own_st (A := T89.setTop (mkF mM 12 #[.val (.ref a), .val (.ref lA)] [])) (fun tT_ kK_ => st89 tT_ kK_) ?_
  refine own_st (A := T89.setTop (mkF mM 13 #[.val (.ref a), .val (.ref lA)] [(.ref a)])) (fun tT_ kK_ => XS.aloadN X89.here hx rfl (hb hby d9_12) rfl rfl kK_) ?_
  refine own_st (A := T89.setTop (mkF mM 14 #[.val (.ref a), .val (.ref lA)] [(.ref lA), (.ref a)])) (fun tT_ kK_ => XS.aloadN X89.here hx rfl (hb hby d9_13) rfl rfl kK_) ?_
  obtain ⟨cq90, kq90, q90a, q90b, q90c⟩ := isOf hZ e89 E_lA
  obtain ⟨_, _, ⟨T90, L90, k90, n90⟩, -, X90, ⟨Lc90, hQ90, l90, y90, z90⟩, st90⟩ := X89.virtualBack hx (y := (⟨"com/example/gleanwork/gleanwork/server/OwnLimits", "maxFailures", "()Ljava/util/OptionalInt;"⟩ : MethodName)) (z := (⟨"com/example/gleanwork/gleanwork/server/OwnLimits", "maxFailures", "()Ljava/util/OptionalInt;"⟩ : MethodName)) hown (mvT hZ (hw _ (List.mem_of_getElem? (i := 78) rfl))) (mvT hZ (hw _ (List.mem_of_getElem? (i := 79) rfl))) (notFace_of_selects (args := #[]) (mvT hZ (hw _ (List.mem_of_getElem? (i := 81) rfl)))) (mvT hZ (hw _ (List.mem_of_getElem? (i := 81) rfl))) (mvT hZ (hw _ (List.mem_of_getElem? (i := 80) rfl))) (by decide) (backOf (W := 1) (rmG2 lL Z a0 hw [] lA o2 h89 n0 F_lA_maxFailures) hZ (hw _ (List.mem_of_getElem? (i := 82) rfl)) (hw _ (List.mem_of_getElem? (i := 34) rfl)) (by decide) (by decide)) q90a q90c (g := (mkF mM 14 #[.val (.ref a), .val (.ref lA)] [(.ref lA), (.ref a)])) rfl (by rw [hml]; rfl) (Steps.refl _) (argsL := []) (rest := [(.ref a)]) (lenOf pd__28_29Ljava_2futil_2fOptionalInt_3b rfl) rfl (by show 2 * 0 + _ ≤ _; exact Nat.le_of_eq rfl) (hb hby d9_14) (fun _ _ => ⟨rfl, e89, (by decide : 0 + 0 ≤ _), (by decide : 0 + 0 ≤ _)⟩)
  dsimp only [Pt.U, Pt.locs, Pt.cells, Pt.slots] at X90 l90 y90 z90 st90 hQ90
  subst l90 y90 z90
  obtain ⟨rfl, N90q, e90⟩ := hQ90
  have N90 := Fr.app N89 N90q
  refine own_st (A := T90.setTop (mkF mM 17 #[.val (.ref a), .val (.ref lA)] [(.ref o2), (.ref a)])) (fun tT_ kK_ => st90.trans kK_) ?_
  refine own_st (A := T90.setTop (mkF mM 18 #[.val (.ref a), .val (.ref lA)] [(.int (-1 : Int32)), (.ref o2), (.ref a)])) (fun tT_ kK_ => XS.iconst X90.here hx rfl (hb hby d9_17) kK_) ?_
  obtain ⟨cq91, kq91, q91a, q91b, q91c⟩ := isOf hZ e90 b2.1
  obtain ⟨_, _, ⟨T91, L91, k91, n91⟩, -, X91, ⟨Lc91, hQ91, l91, y91, z91⟩, st91⟩ := X90.virtualBack hx (y := (⟨"java/util/OptionalInt", "orElse", "(I)I"⟩ : MethodName)) (z := (⟨"java/util/OptionalInt", "orElse", "(I)I"⟩ : MethodName)) hown (mvT hZ (hw _ (List.mem_of_getElem? (i := 73) rfl))) (mvT hZ (hw _ (List.mem_of_getElem? (i := 74) rfl))) (notFace_of_selects (args := #[]) (mvT hZ (hw _ (List.mem_of_getElem? (i := 76) rfl)))) (mvT hZ (hw _ (List.mem_of_getElem? (i := 76) rfl))) (mvT hZ (hw _ (List.mem_of_getElem? (i := 75) rfl))) (by decide) (backOf (W := 1) (rmOr lL Z a0 hw [] o2 q j (-1 : Int32) r2 h89 n0 b2 t20 t21) hZ (hw _ (List.mem_of_getElem? (i := 77) rfl)) (hw _ (List.mem_of_getElem? (i := 40) rfl)) (by decide) (by decide)) q91a q91c (g := (mkF mM 18 #[.val (.ref a), .val (.ref lA)] [(.int (-1 : Int32)), (.ref o2), (.ref a)])) rfl (by rw [hml]; rfl) (Steps.refl _) (argsL := [(.int (-1 : Int32))]) (rest := [(.ref a)]) (lenOf pd__28I_29I rfl) rfl (by show 2 * 0 + _ ≤ _; exact Nat.le_of_eq rfl) (hb hby d9_18) (fun _ _ => ⟨rfl, e90, (by decide : 0 + 0 ≤ _), (by decide : 0 + 0 ≤ _)⟩)
  dsimp only [Pt.U, Pt.locs, Pt.cells, Pt.slots] at X91 l91 y91 z91 st91 hQ91
  subst l91 y91 z91
  obtain ⟨rfl, N91q, e91⟩ := hQ91
  have N91 := Fr.app N90 N91q
  refine own_st (A := T91.setTop (mkF mM 21 #[.val (.ref a), .val (.ref lA)] [(.int r2), (.ref a)])) (fun tT_ kK_ => st91.trans kK_) ?_
  obtain ⟨T92, h92, X92, e92, W92, st92⟩ := putF X91 hx hZ hown (host := "") (Or.inl (hw _ (List.mem_of_getElem? (i := 21) rfl))) Via.refl e91 F_a_ownMaxFailures E_a (Or.inl (hw _ (List.mem_of_getElem? (i := 22) rfl))) (hw _ (List.mem_of_getElem? (i := 1) rfl)) (ty := .int) (by decide) rfl rfl (g := (mkF mM 21 #[.val (.ref a), .val (.ref lA)] [(.int r2), (.ref a)])) rfl rfl (hb hby d9_21)
  have N92 := Fr.snoc X92 N91 g_a
  have b1 := own_Opt_wr b1 W92 (Exa.ne b1.1 E_a (by decide))
  have b2 := own_Opt_wr b2 W92 (Exa.ne b2.1 E_a (by decide))
  have F_a_ownMaxRunSeconds := F_a_ownMaxRunSeconds.other W92 (Or.inr (slot_ne (Or.inl (hw _ (List.mem_of_getElem? (i := 20) rfl))) (Or.inl (hw _ (List.mem_of_getElem? (i := 22) rfl))) (by decide) (t := .int) (t' := .int) (by decide) (by decide)))
  have F_a_ownMaxFailures := F_a_ownMaxFailures.same W92
  have F_lA_maxRunSeconds := F_lA_maxRunSeconds.other W92 (Or.inl (Exa.ne E_lA E_a (by decide)))
  have F_lA_maxFailures := F_lA_maxFailures.other W92 (Or.inl (Exa.ne E_lA E_a (by decide)))
  have E_a := E_a.wr W92
  have E_lA := E_lA.wr W92
  have Kp := Kp.wr W92 (Or.inl (List.mem_of_getElem? (i := 0) rfl))
  refine own_st (A := T92.setTop (mkF mM 24 #[.val (.ref a), .val (.ref lA)] [])) (fun tT_ kK_ => st92 tT_ kK_) ?_
  exact own_retV X92 hx hlk hret (hb hby d9_24) (by rw [e92]; exact ⟨rfl, N92, Kp, E_a, F_a_ownMaxRunSeconds, F_a_ownMaxFailures⟩) (by decide) (by decide)
theorem d1_0 : decode prog_136_method_1_code 0 = .ok (.aload_n 0, 1) := by decide +kernel
theorem d1_1 : decode prog_136_method_1_code 1 = .ok (.invokespecial 1, 3) := by decide +kernel
theorem d1_4 : decode prog_136_method_1_code 4 = .ok (.aload_n 0, 1) := by decide +kernel
theorem d1_5 : decode prog_136_method_1_code 5 = .ok (.getstatic 7, 3) := by decide +kernel
theorem d1_8 : decode prog_136_method_1_code 8 = .ok (.putfield 13, 3) := by decide +kernel
theorem d1_11 : decode prog_136_method_1_code 11 = .ok (.aload_n 0, 1) := by decide +kernel
theorem d1_12 : decode prog_136_method_1_code 12 = .ok (.getstatic 18, 3) := by decide +kernel
theorem d1_15 : decode prog_136_method_1_code 15 = .ok (.putfield 24, 3) := by decide +kernel
theorem d1_18 : decode prog_136_method_1_code 18 = .ok (.aload_n 0, 1) := by decide +kernel
theorem d1_19 : decode prog_136_method_1_code 19 = .ok (.iconst (-1), 1) := by decide +kernel
theorem d1_20 : decode prog_136_method_1_code 20 = .ok (.putfield 27, 3) := by decide +kernel
theorem d1_23 : decode prog_136_method_1_code 23 = .ok (.aload_n 0, 1) := by decide +kernel
theorem d1_24 : decode prog_136_method_1_code 24 = .ok (.iconst (-1), 1) := by decide +kernel
theorem d1_25 : decode prog_136_method_1_code 25 = .ok (.putfield 31, 3) := by decide +kernel
theorem d1_28 : decode prog_136_method_1_code 28 = .ok (.aload_n 0, 1) := by decide +kernel
theorem d1_29 : decode prog_136_method_1_code 29 = .ok (.lload_n 1, 1) := by decide +kernel
theorem d1_30 : decode prog_136_method_1_code 30 = .ok (.putfield 34, 3) := by decide +kernel
theorem d1_33 : decode prog_136_method_1_code 33 = .ok (.aload_n 0, 1) := by decide +kernel
theorem d1_34 : decode prog_136_method_1_code 34 = .ok (.aload_n 3, 1) := by decide +kernel
theorem d1_35 : decode prog_136_method_1_code 35 = .ok (.putfield 38, 3) := by decide +kernel
theorem d1_38 : decode prog_136_method_1_code 38 = .ok (.return_, 1) := by decide +kernel
theorem ef_rmJI (mM : MethodId) (a : Addr) (nu : Int64) (fr : Addr) (nn : Addr) : entryFrame mM #[(.ref a), (.long nu), .null] 4 = mkF mM 0 #[.val (.ref a), .val (.long nu), .second, .val .null] [] := by first | (simp [entryFrame, mkF, argsToLocals, Value.category]; done) | rfl
set_option maxRecDepth 65536 in
set_option maxHeartbeats 40000000 in
theorem rmJI (lL : Launch) (Z : State) (a0 : Array Value) (hw : ∀ d ∈ tables_1, d.before a0 Z = true) (ws : List Jvm.Cond) (a : Addr) (nu : Int64) (fr : Addr) (nn : Addr) (h0 : Heap) (n0 : Nat) (g_a : n0 ≤ a) (E_a : Exa Z h0 a "com/example/gleanwork/gleanwork/server/Job") (F_a_status : Fld Z h0 a "com/example/gleanwork/gleanwork/server/Job" "status" "Lcom/example/gleanwork/gleanwork/job/JobStatus;" .null) (F_a_charged : Fld Z h0 a "com/example/gleanwork/gleanwork/server/Job" "charged" "Lcom/example/gleanwork/gleanwork/server/ChargedNodes;" .null) (F_a_ownMaxRunSeconds : Fld Z h0 a "com/example/gleanwork/gleanwork/server/Job" "ownMaxRunSeconds" "I" (.int (0 : Int32))) (F_a_ownMaxFailures : Fld Z h0 a "com/example/gleanwork/gleanwork/server/Job" "ownMaxFailures" "I" (.int (0 : Int32))) (F_a_number : Fld Z h0 a "com/example/gleanwork/gleanwork/server/Job" "number" "J" (.long (0 : Int64))) (F_a_spec : Fld Z h0 a "com/example/gleanwork/gleanwork/server/Job" "spec" "Lcom/example/gleanwork/gleanwork/job/JobSpec;" .null) (O : Old Z n0 h0) (S_f : Sta Z Z.heap "com/example/gleanwork/gleanwork/job/JobStatus" "FREE" "Lcom/example/gleanwork/gleanwork/job/JobStatus;" (.ref fr)) (S_n : Sta Z Z.heap "com/example/gleanwork/gleanwork/server/ChargedNodes" "NONE" "Lcom/example/gleanwork/gleanwork/server/ChargedNodes;" (.ref nn)) :
    MetFree lL (⟨"com/example/gleanwork/gleanwork/server/Job", "<init>", "(JLcom/example/gleanwork/gleanwork/job/JobSpec;)V"⟩ : MethodName) (head1 (Jvm.Cond.code (⟨"com/example/gleanwork/gleanwork/server/Job", "<init>", "(JLcom/example/gleanwork/gleanwork/job/JobSpec;)V"⟩ : MethodName) prog_136_method_1_code 4 none :: ws) ({ frames := 1, cells := 0, slots := 0, locals := 12 } : Room)) (fun as_ uU_ => as_ = #[(.ref a), (.long nu), .null] ∧ Z.Warmed39 uU_.vm ∧ uU_.heap = h0) (fun _ _ _ _ _ => True) (fun _ uU_ oO_ uE_ => ∃ vV_ lL_, oO_ = .returned vV_ ∧ QJ Z a (-1 : Int32) (-1 : Int32) h0 n0 vV_ uE_.heap lL_ ∧ FrameEnd uU_ oO_ uE_ lL_ ({ frames := 1, cells := 0, slots := 0, locals := 12 } : Room).cells ({ frames := 1, cells := 0, slots := 0, locals := 12 } : Room).slots) := by
  refine MetFree.of_bodySF (plainFor_of_name pn_com_2fexample_2fgleanwork_2fgleanwork_2fserver_2fJob) hisR ?_
  intro pP eE sS mM args below meth cC s₁ Bd hml0 hP hK
  obtain ⟨rfl, hZ, hh⟩ := hP
  have hx := Bd.exec
  have hby := Bd.bytes
  have hml : cC.maxLocals = 4 := hml0
  have hown : sS.vm.findClass "com/example/gleanwork/gleanwork/server/Job" = some mM.cls := findClass_of_methodNamed Bd.named
  have hnm := (name_of_methodNamed Bd.named Bd.method).1
  have hret := Bd.returns
  have hlk := BodyLoose.notSynchronized Bd
  have X0 : Stand pP lL eE ({ frames := 1, cells := 0, slots := 0, locals := 12 } : Room) sS mM #[(.ref a), (.long nu), .null] below meth cC s₁ [] 0 0 := Stand.of_body Bd
  have e0 : s₁.heap = h0 := by rw [← hh, Bd.state]; rfl
  have N0 := Fr.nil n0
  show own_Go pP eE below sS (QJ Z a (-1 : Int32) (-1 : Int32) h0 n0) 0 0 (s₁.setTop (entryFrame mM #[(.ref a), (.long nu), .null] 4))
  refine own_st (A := s₁.setTop (mkF mM 0 #[.val (.ref a), .val (.long nu), .second, .val .null] [])) (fun tT_ kK_ => castTop (ef_rmJI mM a nu fr nn) kK_) ?_
  have Kp := Keep.refl h0 [a]
  refine own_st (A := s₁.setTop (mkF mM 1 #[.val (.ref a), .val (.long nu), .second, .val .null] [(.ref a)])) (fun tT_ kK_ => XS.aloadN X0.here hx rfl (hb hby d1_0) rfl rfl kK_) ?_
  obtain ⟨T93, X93, e93, st93⟩ := initO X0 hx hZ hown (hw _ (List.mem_of_getElem? (i := 6) rfl)) (hw _ (List.mem_of_getElem? (i := 7) rfl)) (hw _ (List.mem_of_getElem? (i := 8) rfl)) e0 (g := (mkF mM 1 #[.val (.ref a), .val (.long nu), .second, .val .null] [(.ref a)])) rfl (by rw [hml]; rfl) rfl (hb hby d1_1) (by decide) (W := 0) (by show 2 * 0 + _ ≤ _; exact Nat.le_of_eq rfl) (by decide)
  refine own_st (A := T93.setTop (mkF mM 4 #[.val (.ref a), .val (.long nu), .second, .val .null] [])) (fun tT_ kK_ => st93 tT_ kK_) ?_
  refine own_st (A := T93.setTop (mkF mM 5 #[.val (.ref a), .val (.long nu), .second, .val .null] [(.ref a)])) (fun tT_ kK_ => XS.aloadN X93.here hx rfl (hb hby d1_4) rfl rfl kK_) ?_
  obtain ⟨T94, X94, e94, st94⟩ := getS2 X93 hx hZ hown (host := "") (Or.inl (hw _ (List.mem_of_getElem? (i := 9) rfl))) Via.refl e93 (S_f.ext O.2) (g := (mkF mM 5 #[.val (.ref a), .val (.long nu), .second, .val .null] [(.ref a)])) rfl (hb hby d1_5)
  refine own_st (A := T94.setTop (mkF mM 8 #[.val (.ref a), .val (.long nu), .second, .val .null] [(.ref fr), (.ref a)])) (fun tT_ kK_ => st94 tT_ kK_) ?_
  obtain ⟨T95, h95, X95, e95, W95, st95⟩ := putF X94 hx hZ hown (host := "") (Or.inl (hw _ (List.mem_of_getElem? (i := 12) rfl))) Via.refl e94 F_a_status E_a (Or.inl (hw _ (List.mem_of_getElem? (i := 13) rfl))) (hw _ (List.mem_of_getElem? (i := 1) rfl)) (ty := (.object "com/example/gleanwork/gleanwork/job/JobStatus")) (by decide) rfl rfl (g := (mkF mM 8 #[.val (.ref a), .val (.long nu), .second, .val .null] [(.ref fr), (.ref a)])) rfl rfl (hb hby d1_8)
  have N95 := Fr.snoc X95 N0 g_a
  have F_a_status := F_a_status.same W95
  have F_a_charged := F_a_charged.other W95 (Or.inr (slot_ne (Or.inl (hw _ (List.mem_of_getElem? (i := 18) rfl))) (Or.inl (hw _ (List.mem_of_getElem? (i := 13) rfl))) (by decide) (t := (.object "com/example/gleanwork/gleanwork/server/ChargedNodes")) (t' := (.object "com/example/gleanwork/gleanwork/job/JobStatus")) (by decide) (by decide)))
  have F_a_ownMaxRunSeconds := F_a_ownMaxRunSeconds.other W95 (Or.inr (slot_ne (Or.inl (hw _ (List.mem_of_getElem? (i := 20) rfl))) (Or.inl (hw _ (List.mem_of_getElem? (i := 13) rfl))) (by decide) (t := .int) (t' := (.object "com/example/gleanwork/gleanwork/job/JobStatus")) (by decide) (by decide)))
  have F_a_ownMaxFailures := F_a_ownMaxFailures.other W95 (Or.inr (slot_ne (Or.inl (hw _ (List.mem_of_getElem? (i := 22) rfl))) (Or.inl (hw _ (List.mem_of_getElem? (i := 13) rfl))) (by decide) (t := .int) (t' := (.object "com/example/gleanwork/gleanwork/job/JobStatus")) (by decide) (by decide)))
  have F_a_number := F_a_number.other W95 (Or.inr (slot_ne (Or.inr (hw _ (List.mem_of_getElem? (i := 24) rfl))) (Or.inl (hw _ (List.mem_of_getElem? (i := 13) rfl))) (by decide) (t := .long) (t' := (.object "com/example/gleanwork/gleanwork/job/JobStatus")) (by decide) (by decide)))
  have F_a_spec := F_a_spec.other W95 (Or.inr (slot_ne (Or.inr (hw _ (List.mem_of_getElem? (i := 26) rfl))) (Or.inl (hw _ (List.mem_of_getElem? (i := 13) rfl))) (by decide) (t := (.object "com/example/gleanwork/gleanwork/job/JobSpec")) (t' := (.object "com/example/gleanwork/gleanwork/job/JobStatus")) (by decide) (by decide)))
  have E_a := E_a.wr W95
  have O := O.wr W95 g_a
  have Kp := Kp.wr W95 (Or.inl (List.mem_of_getElem? (i := 0) rfl))
  refine own_st (A := T95.setTop (mkF mM 11 #[.val (.ref a), .val (.long nu), .second, .val .null] [])) (fun tT_ kK_ => st95 tT_ kK_) ?_
  refine own_st (A := T95.setTop (mkF mM 12 #[.val (.ref a), .val (.long nu), .second, .val .null] [(.ref a)])) (fun tT_ kK_ => XS.aloadN X95.here hx rfl (hb hby d1_11) rfl rfl kK_) ?_
  obtain ⟨T96, X96, e96, st96⟩ := getS2 X95 hx hZ hown (host := "") (Or.inl (hw _ (List.mem_of_getElem? (i := 14) rfl))) Via.refl e95 (S_n.ext O.2) (g := (mkF mM 12 #[.val (.ref a), .val (.long nu), .second, .val .null] [(.ref a)])) rfl (hb hby d1_12)
  refine own_st (A := T96.setTop (mkF mM 15 #[.val (.ref a), .val (.long nu), .second, .val .null] [(.ref nn), (.ref a)])) (fun tT_ kK_ => st96 tT_ kK_) ?_
  obtain ⟨T97, h97, X97, e97, W97, st97⟩ := putF X96 hx hZ hown (host := "") (Or.inl (hw _ (List.mem_of_getElem? (i := 17) rfl))) Via.refl e96 F_a_charged E_a (Or.inl (hw _ (List.mem_of_getElem? (i := 18) rfl))) (hw _ (List.mem_of_getElem? (i := 1) rfl)) (ty := (.object "com/example/gleanwork/gleanwork/server/ChargedNodes")) (by decide) rfl rfl (g := (mkF mM 15 #[.val (.ref a), .val (.long nu), .second, .val .null] [(.ref nn), (.ref a)])) rfl rfl (hb hby d1_15)
  have N97 := Fr.snoc X97 N95 g_a
  have F_a_status := F_a_status.other W97 (Or.inr (slot_ne (Or.inl (hw _ (List.mem_of_getElem? (i := 13) rfl))) (Or.inl (hw _ (List.mem_of_getElem? (i := 18) rfl))) (by decide) (t := (.object "com/example/gleanwork/gleanwork/job/JobStatus")) (t' := (.object "com/example/gleanwork/gleanwork/server/ChargedNodes")) (by decide) (by decide)))
  have F_a_charged := F_a_charged.same W97
  have F_a_ownMaxRunSeconds := F_a_ownMaxRunSeconds.other W97 (Or.inr (slot_ne (Or.inl (hw _ (List.mem_of_getElem? (i := 20) rfl))) (Or.inl (hw _ (List.mem_of_getElem? (i := 18) rfl))) (by decide) (t := .int) (t' := (.object "com/example/gleanwork/gleanwork/server/ChargedNodes")) (by decide) (by decide)))
  have F_a_ownMaxFailures := F_a_ownMaxFailures.other W97 (Or.inr (slot_ne (Or.inl (hw _ (List.mem_of_getElem? (i := 22) rfl))) (Or.inl (hw _ (List.mem_of_getElem? (i := 18) rfl))) (by decide) (t := .int) (t' := (.object "com/example/gleanwork/gleanwork/server/ChargedNodes")) (by decide) (by decide)))
  have F_a_number := F_a_number.other W97 (Or.inr (slot_ne (Or.inr (hw _ (List.mem_of_getElem? (i := 24) rfl))) (Or.inl (hw _ (List.mem_of_getElem? (i := 18) rfl))) (by decide) (t := .long) (t' := (.object "com/example/gleanwork/gleanwork/server/ChargedNodes")) (by decide) (by decide)))
  have F_a_spec := F_a_spec.other W97 (Or.inr (slot_ne (Or.inr (hw _ (List.mem_of_getElem? (i := 26) rfl))) (Or.inl (hw _ (List.mem_of_getElem? (i := 18) rfl))) (by decide) (t := (.object "com/example/gleanwork/gleanwork/job/JobSpec")) (t' := (.object "com/example/gleanwork/gleanwork/server/ChargedNodes")) (by decide) (by decide)))
  have E_a := E_a.wr W97
  have O := O.wr W97 g_a
  have Kp := Kp.wr W97 (Or.inl (List.mem_of_getElem? (i := 0) rfl))
  refine own_st (A := T97.setTop (mkF mM 18 #[.val (.ref a), .val (.long nu), .second, .val .null] [])) (fun tT_ kK_ => st97 tT_ kK_) ?_
  refine own_st (A := T97.setTop (mkF mM 19 #[.val (.ref a), .val (.long nu), .second, .val .null] [(.ref a)])) (fun tT_ kK_ => XS.aloadN X97.here hx rfl (hb hby d1_18) rfl rfl kK_) ?_
  refine own_st (A := T97.setTop (mkF mM 20 #[.val (.ref a), .val (.long nu), .second, .val .null] [(.int (-1 : Int32)), (.ref a)])) (fun tT_ kK_ => XS.iconst X97.here hx rfl (hb hby d1_19) kK_) ?_
  obtain ⟨T98, h98, X98, e98, W98, st98⟩ := putF X97 hx hZ hown (host := "") (Or.inl (hw _ (List.mem_of_getElem? (i := 19) rfl))) Via.refl e97 F_a_ownMaxRunSeconds E_a (Or.inl (hw _ (List.mem_of_getElem? (i := 20) rfl))) (hw _ (List.mem_of_getElem? (i := 1) rfl)) (ty := .int) (by decide) rfl rfl (g := (mkF mM 20 #[.val (.ref a), .val (.long nu), .second, .val .null] [(.int (-1 : Int32)), (.ref a)])) rfl rfl (hb hby d1_20)
  have N98 := Fr.snoc X98 N97 g_a
  have F_a_status := F_a_status.other W98 (Or.inr (slot_ne (Or.inl (hw _ (List.mem_of_getElem? (i := 13) rfl))) (Or.inl (hw _ (List.mem_of_getElem? (i := 20) rfl))) (by decide) (t := (.object "com/example/gleanwork/gleanwork/job/JobStatus")) (t' := .int) (by decide) (by decide)))
  have F_a_charged := F_a_charged.other W98 (Or.inr (slot_ne (Or.inl (hw _ (List.mem_of_getElem? (i := 18) rfl))) (Or.inl (hw _ (List.mem_of_getElem? (i := 20) rfl))) (by decide) (t := (.object "com/example/gleanwork/gleanwork/server/ChargedNodes")) (t' := .int) (by decide) (by decide)))
  have F_a_ownMaxRunSeconds := F_a_ownMaxRunSeconds.same W98
  have F_a_ownMaxFailures := F_a_ownMaxFailures.other W98 (Or.inr (slot_ne (Or.inl (hw _ (List.mem_of_getElem? (i := 22) rfl))) (Or.inl (hw _ (List.mem_of_getElem? (i := 20) rfl))) (by decide) (t := .int) (t' := .int) (by decide) (by decide)))
  have F_a_number := F_a_number.other W98 (Or.inr (slot_ne (Or.inr (hw _ (List.mem_of_getElem? (i := 24) rfl))) (Or.inl (hw _ (List.mem_of_getElem? (i := 20) rfl))) (by decide) (t := .long) (t' := .int) (by decide) (by decide)))
  have F_a_spec := F_a_spec.other W98 (Or.inr (slot_ne (Or.inr (hw _ (List.mem_of_getElem? (i := 26) rfl))) (Or.inl (hw _ (List.mem_of_getElem? (i := 20) rfl))) (by decide) (t := (.object "com/example/gleanwork/gleanwork/job/JobSpec")) (t' := .int) (by decide) (by decide)))
  have E_a := E_a.wr W98
  have O := O.wr W98 g_a
  have Kp := Kp.wr W98 (Or.inl (List.mem_of_getElem? (i := 0) rfl))
  refine own_st (A := T98.setTop (mkF mM 23 #[.val (.ref a), .val (.long nu), .second, .val .null] [])) (fun tT_ kK_ => st98 tT_ kK_) ?_
  refine own_st (A := T98.setTop (mkF mM 24 #[.val (.ref a), .val (.long nu), .second, .val .null] [(.ref a)])) (fun tT_ kK_ => XS.aloadN X98.here hx rfl (hb hby d1_23) rfl rfl kK_) ?_
  refine own_st (A := T98.setTop (mkF mM 25 #[.val (.ref a), .val (.long nu), .second, .val .null] [(.int (-1 : Int32)), (.ref a)])) (fun tT_ kK_ => XS.iconst X98.here hx rfl (hb hby d1_24) kK_) ?_
  obtain ⟨T99, h99, X99, e99, W99, st99⟩ := putF X98 hx hZ hown (host := "") (Or.inl (hw _ (List.mem_of_getElem? (i := 21) rfl))) Via.refl e98 F_a_ownMaxFailures E_a (Or.inl (hw _ (List.mem_of_getElem? (i := 22) rfl))) (hw _ (List.mem_of_getElem? (i := 1) rfl)) (ty := .int) (by decide) rfl rfl (g := (mkF mM 25 #[.val (.ref a), .val (.long nu), .second, .val .null] [(.int (-1 : Int32)), (.ref a)])) rfl rfl (hb hby d1_25)
  have N99 := Fr.snoc X99 N98 g_a
  have F_a_status := F_a_status.other W99 (Or.inr (slot_ne (Or.inl (hw _ (List.mem_of_getElem? (i := 13) rfl))) (Or.inl (hw _ (List.mem_of_getElem? (i := 22) rfl))) (by decide) (t := (.object "com/example/gleanwork/gleanwork/job/JobStatus")) (t' := .int) (by decide) (by decide)))
  have F_a_charged := F_a_charged.other W99 (Or.inr (slot_ne (Or.inl (hw _ (List.mem_of_getElem? (i := 18) rfl))) (Or.inl (hw _ (List.mem_of_getElem? (i := 22) rfl))) (by decide) (t := (.object "com/example/gleanwork/gleanwork/server/ChargedNodes")) (t' := .int) (by decide) (by decide)))
  have F_a_ownMaxRunSeconds := F_a_ownMaxRunSeconds.other W99 (Or.inr (slot_ne (Or.inl (hw _ (List.mem_of_getElem? (i := 20) rfl))) (Or.inl (hw _ (List.mem_of_getElem? (i := 22) rfl))) (by decide) (t := .int) (t' := .int) (by decide) (by decide)))
  have F_a_ownMaxFailures := F_a_ownMaxFailures.same W99
  have F_a_number := F_a_number.other W99 (Or.inr (slot_ne (Or.inr (hw _ (List.mem_of_getElem? (i := 24) rfl))) (Or.inl (hw _ (List.mem_of_getElem? (i := 22) rfl))) (by decide) (t := .long) (t' := .int) (by decide) (by decide)))
  have F_a_spec := F_a_spec.other W99 (Or.inr (slot_ne (Or.inr (hw _ (List.mem_of_getElem? (i := 26) rfl))) (Or.inl (hw _ (List.mem_of_getElem? (i := 22) rfl))) (by decide) (t := (.object "com/example/gleanwork/gleanwork/job/JobSpec")) (t' := .int) (by decide) (by decide)))
  have E_a := E_a.wr W99
  have O := O.wr W99 g_a
  have Kp := Kp.wr W99 (Or.inl (List.mem_of_getElem? (i := 0) rfl))
  refine own_st (A := T99.setTop (mkF mM 28 #[.val (.ref a), .val (.long nu), .second, .val .null] [])) (fun tT_ kK_ => st99 tT_ kK_) ?_
  refine own_st (A := T99.setTop (mkF mM 29 #[.val (.ref a), .val (.long nu), .second, .val .null] [(.ref a)])) (fun tT_ kK_ => XS.aloadN X99.here hx rfl (hb hby d1_28) rfl rfl kK_) ?_
  refine own_st (A := T99.setTop (mkF mM 30 #[.val (.ref a), .val (.long nu), .second, .val .null] [(.long nu), (.ref a)])) (fun tT_ kK_ => XS.lloadN X99.here hx rfl (hb hby d1_29) rfl kK_) ?_
  obtain ⟨T100, h100, X100, e100, W100, st100⟩ := putF X99 hx hZ hown (host := "") (Or.inl (hw _ (List.mem_of_getElem? (i := 23) rfl))) Via.refl e99 F_a_number E_a (Or.inr ⟨(hw _ (List.mem_of_getElem? (i := 24) rfl)), rfl, hnm⟩) (hw _ (List.mem_of_getElem? (i := 1) rfl)) (ty := .long) (by decide) rfl rfl (g := (mkF mM 30 #[.val (.ref a), .val (.long nu), .second, .val .null] [(.long nu), (.ref a)])) rfl rfl (hb hby d1_30)
  have N100 := Fr.snoc X100 N99 g_a
  have F_a_status := F_a_status.other W100 (Or.inr (slot_ne (Or.inl (hw _ (List.mem_of_getElem? (i := 13) rfl))) (Or.inr (hw _ (List.mem_of_getElem? (i := 24) rfl))) (by decide) (t := (.object "com/example/gleanwork/gleanwork/job/JobStatus")) (t' := .long) (by decide) (by decide)))
  have F_a_charged := F_a_charged.other W100 (Or.inr (slot_ne (Or.inl (hw _ (List.mem_of_getElem? (i := 18) rfl))) (Or.inr (hw _ (List.mem_of_getElem? (i := 24) rfl))) (by decide) (t := (.object "com/example/gleanwork/gleanwork/server/ChargedNodes")) (t' := .long) (by decide) (by decide)))
  have F_a_ownMaxRunSeconds := F_a_ownMaxRunSeconds.other W100 (Or.inr (slot_ne (Or.inl (hw _ (List.mem_of_getElem? (i := 20) rfl))) (Or.inr (hw _ (List.mem_of_getElem? (i := 24) rfl))) (by decide) (t := .int) (t' := .long) (by decide) (by decide)))
  have F_a_ownMaxFailures := F_a_ownMaxFailures.other W100 (Or.inr (slot_ne (Or.inl (hw _ (List.mem_of_getElem? (i := 22) rfl))) (Or.inr (hw _ (List.mem_of_getElem? (i := 24) rfl))) (by decide) (t := .int) (t' := .long) (by decide) (by decide)))
  have F_a_number := F_a_number.same W100
  have F_a_spec := F_a_spec.other W100 (Or.inr (slot_ne (Or.inr (hw _ (List.mem_of_getElem? (i := 26) rfl))) (Or.inr (hw _ (List.mem_of_getElem? (i := 24) rfl))) (by decide) (t := (.object "com/example/gleanwork/gleanwork/job/JobSpec")) (t' := .long) (by decide) (by decide)))
  have E_a := E_a.wr W100
  have O := O.wr W100 g_a
  have Kp := Kp.wr W100 (Or.inl (List.mem_of_getElem? (i := 0) rfl))
  refine own_st (A := T100.setTop (mkF mM 33 #[.val (.ref a), .val (.long nu), .second, .val .null] [])) (fun tT_ kK_ => st100 tT_ kK_) ?_
  refine own_st (A := T100.setTop (mkF mM 34 #[.val (.ref a), .val (.long nu), .second, .val .null] [(.ref a)])) (fun tT_ kK_ => XS.aloadN X100.here hx rfl (hb hby d1_33) rfl rfl kK_) ?_
  refine own_st (A := T100.setTop (mkF mM 35 #[.val (.ref a), .val (.long nu), .second, .val .null] [.null, (.ref a)])) (fun tT_ kK_ => XS.aloadN X100.here hx rfl (hb hby d1_34) rfl rfl kK_) ?_
  obtain ⟨T101, h101, X101, e101, W101, st101⟩ := putF X100 hx hZ hown (host := "") (Or.inl (hw _ (List.mem_of_getElem? (i := 25) rfl))) Via.refl e100 F_a_spec E_a (Or.inr ⟨(hw _ (List.mem_of_getElem? (i := 26) rfl)), rfl, hnm⟩) (hw _ (List.mem_of_getElem? (i := 1) rfl)) (ty := (.object "com/example/gleanwork/gleanwork/job/JobSpec")) (by decide) rfl rfl (g := (mkF mM 35 #[.val (.ref a), .val (.long nu), .second, .val .null] [.null, (.ref a)])) rfl rfl (hb hby d1_35)
  have N101 := Fr.snoc X101 N100 g_a
  have F_a_status := F_a_status.other W101 (Or.inr (slot_ne (Or.inl (hw _ (List.mem_of_getElem? (i := 13) rfl))) (Or.inr (hw _ (List.mem_of_getElem? (i := 26) rfl))) (by decide) (t := (.object "com/example/gleanwork/gleanwork/job/JobStatus")) (t' := (.object "com/example/gleanwork/gleanwork/job/JobSpec")) (by decide) (by decide)))
  have F_a_charged := F_a_charged.other W101 (Or.inr (slot_ne (Or.inl (hw _ (List.mem_of_getElem? (i := 18) rfl))) (Or.inr (hw _ (List.mem_of_getElem? (i := 26) rfl))) (by decide) (t := (.object "com/example/gleanwork/gleanwork/server/ChargedNodes")) (t' := (.object "com/example/gleanwork/gleanwork/job/JobSpec")) (by decide) (by decide)))
  have F_a_ownMaxRunSeconds := F_a_ownMaxRunSeconds.other W101 (Or.inr (slot_ne (Or.inl (hw _ (List.mem_of_getElem? (i := 20) rfl))) (Or.inr (hw _ (List.mem_of_getElem? (i := 26) rfl))) (by decide) (t := .int) (t' := (.object "com/example/gleanwork/gleanwork/job/JobSpec")) (by decide) (by decide)))
  have F_a_ownMaxFailures := F_a_ownMaxFailures.other W101 (Or.inr (slot_ne (Or.inl (hw _ (List.mem_of_getElem? (i := 22) rfl))) (Or.inr (hw _ (List.mem_of_getElem? (i := 26) rfl))) (by decide) (t := .int) (t' := (.object "com/example/gleanwork/gleanwork/job/JobSpec")) (by decide) (by decide)))
  have F_a_number := F_a_number.other W101 (Or.inr (slot_ne (Or.inr (hw _ (List.mem_of_getElem? (i := 24) rfl))) (Or.inr (hw _ (List.mem_of_getElem? (i := 26) rfl))) (by decide) (t := .long) (t' := (.object "com/example/gleanwork/gleanwork/job/JobSpec")) (by decide) (by decide)))
  have F_a_spec := F_a_spec.same W101
  have E_a := E_a.wr W101
  have O := O.wr W101 g_a
  have Kp := Kp.wr W101 (Or.inl (List.mem_of_getElem? (i := 0) rfl))
  refine own_st (A := T101.setTop (mkF mM 38 #[.val (.ref a), .val (.long nu), .second, .val .null] [])) (fun tT_ kK_ => st101 tT_ kK_) ?_
  exact own_retV X101 hx hlk hret (hb hby d1_38) (by rw [e101]; exact ⟨rfl, N101, Kp, E_a, F_a_ownMaxRunSeconds, F_a_ownMaxFailures⟩) (by decide) (by decide)
theorem own_c (b1 b2 : Int32) (d1 : b1 = 0 ∨ b1 = 1) (d2 : b2 = 0 ∨ b2 = 1) : ∃ c : Int32, (b1 = (0 : Int32) → b2 = (0 : Int32) → c = 0) ∧ (¬ b1 = (0 : Int32) → c = 1) ∧ (b1 = (0 : Int32) → ¬ b2 = (0 : Int32) → c = 1) := by
  rcases d1 with rfl | rfl <;> rcases d2 with rfl | rfl
  · exact ⟨0, fun _ _ => rfl, fun q => absurd rfl q, fun _ q => absurd rfl q⟩
  · exact ⟨1, fun _ q => absurd q (by decide), fun q => absurd rfl q, fun _ _ => rfl⟩
  · exact ⟨1, fun q => absurd q (by decide), fun _ => rfl, fun _ _ => rfl⟩
  · exact ⟨1, fun q => absurd q (by decide), fun _ => rfl, fun _ _ => rfl⟩
theorem own_r (b i k : Int32) (hk : k = 0 ∨ k = 1) (hi : ¬ b = (0 : Int32) → ¬ i < k) : ∃ r : Int32, (b = (0 : Int32) → r = (-1 : Int32)) ∧ (¬ b = (0 : Int32) → r = i) ∧ (r = (-1 : Int32) → b = 0) ∧ (¬ r = (-1 : Int32) → ¬ b = 0) ∧ (¬ r = (-1 : Int32) → ¬ r < k) := by
  by_cases q : b = (0 : Int32)
  · exact ⟨(-1 : Int32), fun _ => rfl, fun z => absurd q z, fun _ => q, fun z => absurd rfl z, fun z => absurd rfl z⟩
  · refine ⟨i, fun z => absurd z q, fun _ => rfl, fun z => ?_, fun _ => q, fun _ => hi q⟩
    subst z
    rcases hk with rfl | rfl
    · exact absurd (by decide) (hi q)
    · exact absurd (by decide) (hi q)
theorem own_p (b : Int32) (d : b = 0 ∨ b = 1) (h : ¬ b = (0 : Int32)) : b = 1 := d.elim (fun q => absurd q h) id
theorem pd__28Lcom_2fexample_2fgleanwork_2fgleanwork_2fserver_2fOwnLimits_3b_29V : parseMethodDescriptor "(Lcom/example/gleanwork/gleanwork/server/OwnLimits;)V" = some ⟨[(.object "com/example/gleanwork/gleanwork/server/OwnLimits")], none⟩ := by decide +kernel
theorem pd__28_29Lcom_2fexample_2fgleanwork_2fgleanwork_2fserver_2fOwnLimits_3b : parseMethodDescriptor "()Lcom/example/gleanwork/gleanwork/server/OwnLimits;" = some ⟨[], some (.object "com/example/gleanwork/gleanwork/server/OwnLimits")⟩ := by decide +kernel
set_option maxRecDepth 65536 in
set_option maxHeartbeats 40000000 in
theorem J181 {pP : Program} {lL : Launch} {eE : Env} {sS : State} {mM : MethodId} {args : Array Value} {below : List Frame} {meth : Method} {cC : Code} {T0 : State} {locs : List Loc} {Z : State} {a0 : Array Value} {h0 : Heap} {n0 : Nat} (hw : ∀ d ∈ tables_1, d.before a0 Z = true) (X0 : Stand pP lL eE room_1 sS mM args below meth cC T0 locs 11 31) (hx : pP.tables.exec = Jvm.exec) (hZ : Z.Warmed39 sS.vm) (hby : cC.code = code) (hml : cC.maxLocals = 22) (hown : sS.vm.findClass "com/example/gleanwork/gleanwork/server/JobLimitedPinLaw" = some mM.cls) (hlk : meth.locks = false) (hret : meth.sig.returnType = ret) (e0 : T0.heap = h0) (N0 : Fr n0 locs) (nu : Int64) (x2 : Int32) (x3 : Int32) (x4 : Int32) (x5 : Int32) (fl : Int32) (jo : Addr) (fr8 : Int32) (b1 : Int32) (b2 : Int32) (b3 : Int32) (b4 : Int32) (s13 : Slot) (s14 : Slot) (s15 : Slot) (s16 : Slot) (la : Addr) (lb : Addr) (em : Addr) (ca : Addr) (cc : Cell) (r : Int32) (f : Int32) (i1 : Int32) (j1 : Int32) (i2 : Int32) (j2 : Int32) (Zn : n0 ≤ h0.size) (O : Old Z n0 h0) (S_e : Sta Z Z.heap "java/util/OptionalInt" "EMPTY" "Ljava/util/OptionalInt;" (.ref em)) (oe : Opt Z Z.heap em 0 0) (S_h : Sta Z Z.heap "java/lang/Integer$IntegerCache" "high" "I" (.int 127)) (S_c : Sta Z Z.heap "java/lang/Integer$IntegerCache" "cache" "[Ljava/lang/Integer;" (.ref ca)) (BX : Bxs Z ca cc "java/lang/Integer" "I" 256 (fun j => .int (j - 128))) (g_jo : n0 ≤ jo) (jb : Jb Z h0 jo r f) (hf8 : fr8 = 1) (d1 : (b1 = 0 ∨ b1 = 1)) (d2 : (b2 = 0 ∨ b2 = 1)) (d3 : (b3 = 0 ∨ b3 = 1)) (d4 : (b4 = 0 ∨ b4 = 1)) (lma : Lim Z h0 la b1 i1 b2 j1) (ma1 : ¬ b1 = 0 → ¬ i1 < 0) (ma2 : ¬ b2 = 0 → ¬ j1 < 1) (lmb : Lim Z h0 lb b3 i2 b4 j2) (mb1 : ¬ b3 = 0 → ¬ i2 < 0) (mb2 : ¬ b4 = 0 → ¬ j2 < 1) :
    own_Go pP eE below sS (QLaw n0) 40 192 (T0.setTop (mkF mM 183 #[.val (.long nu), .second, .val (.int x2), .val (.int x3), .val (.int x4), .val (.int x5), .val (.int fl), .val (.ref jo), .val (.int fr8), .val (.int b1), .val (.int b2), .val (.int b3), .val (.int b4), s13, s14, s15, s16, .val (.ref la), .val (.ref lb), .unset, .unset, .unset] [])) := by
  obtain ⟨ca, ca0, ca1, ca2⟩ := own_c b1 b2 d1 d2
  obtain ⟨ra, ra0, ra1, ra2, ra3, ra4⟩ := own_r b1 i1 0 (Or.inl rfl) ma1
  obtain ⟨fa, fa0, fa1, fa2, fa3, fa4⟩ := own_r b2 j1 1 (Or.inr rfl) ma2
  obtain ⟨cb, cb0, cb1, cb2⟩ := own_c b3 b4 d3 d4
  obtain ⟨rb, rb0, rb1, rb2, rb3, rb4⟩ := own_r b3 i2 0 (Or.inl rfl) mb1
  obtain ⟨fb, fb0, fb1, fb2, fb3, fb4⟩ := own_r b4 j2 1 (Or.inr rfl) mb2
  refine own_st (A := T0.setTop (mkF mM 185 #[.val (.long nu), .second, .val (.int x2), .val (.int x3), .val (.int x4), .val (.int x5), .val (.int fl), .val (.ref jo), .val (.int fr8), .val (.int b1), .val (.int b2), .val (.int b3), .val (.int b4), s13, s14, s15, s16, .val (.ref la), .val (.ref lb), .unset, .unset, .unset] [(.ref jo)])) (fun tT_ kK_ => XS.aload X0.here hx rfl (hb hby at_183) rfl rfl kK_) ?_
  refine own_st (A := T0.setTop (mkF mM 187 #[.val (.long nu), .second, .val (.int x2), .val (.int x3), .val (.int x4), .val (.int x5), .val (.int fl), .val (.ref jo), .val (.int fr8), .val (.int b1), .val (.int b2), .val (.int b3), .val (.int b4), s13, s14, s15, s16, .val (.ref la), .val (.ref lb), .unset, .unset, .unset] [(.ref la), (.ref jo)])) (fun tT_ kK_ => XS.aload X0.here hx rfl (hb hby at_185) rfl rfl kK_) ?_
  obtain ⟨cq102, kq102, q102a, q102b, q102c⟩ := isOf hZ e0 jb.1
  obtain ⟨_, _, ⟨T102, L102, k102, n102⟩, -, X102, ⟨Lc102, hQ102, l102, y102, z102⟩, st102⟩ := X0.virtualBack hx (y := (⟨"com/example/gleanwork/gleanwork/server/Job", "setOwnLimits", "(Lcom/example/gleanwork/gleanwork/server/OwnLimits;)V"⟩ : MethodName)) (z := (⟨"com/example/gleanwork/gleanwork/server/Job", "setOwnLimits", "(Lcom/example/gleanwork/gleanwork/server/OwnLimits;)V"⟩ : MethodName)) hown (mvT hZ (hw _ (List.mem_of_getElem? (i := 63) rfl))) (mvT hZ (hw _ (List.mem_of_getElem? (i := 64) rfl))) (notFace_of_selects (args := #[]) (mvT hZ (hw _ (List.mem_of_getElem? (i := 66) rfl)))) (mvT hZ (hw _ (List.mem_of_getElem? (i := 66) rfl))) (mvT hZ (hw _ (List.mem_of_getElem? (i := 65) rfl))) (by decide) (backOf (W := 0) (rmSe lL Z a0 hw [] jo r f la b1 i1 b2 j1 ra fa h0 n0 g_jo jb lma ra0 ra1 fa0 fa1) hZ (hw _ (List.mem_of_getElem? (i := 67) rfl)) (hw _ (List.mem_of_getElem? (i := 2) rfl)) (by decide) (by decide)) q102a q102c (g := (mkF mM 187 #[.val (.long nu), .second, .val (.int x2), .val (.int x3), .val (.int x4), .val (.int x5), .val (.int fl), .val (.ref jo), .val (.int fr8), .val (.int b1), .val (.int b2), .val (.int b3), .val (.int b4), s13, s14, s15, s16, .val (.ref la), .val (.ref lb), .unset, .unset, .unset] [(.ref la), (.ref jo)])) rfl (by rw [hml]; rfl) (Steps.refl _) (argsL := [(.ref la)]) (rest := []) (lenOf pd__28Lcom_2fexample_2fgleanwork_2fgleanwork_2fserver_2fOwnLimits_3b_29V rfl) rfl (by show 2 * 0 + _ ≤ _; exact Nat.le_of_eq rfl) (hb hby at_187) (fun _ _ => ⟨rfl, e0, (by decide : 11 + 0 ≤ _), (by decide : 31 + 0 ≤ _)⟩)
  dsimp only [Pt.U, Pt.locs, Pt.cells, Pt.slots] at X102 l102 y102 z102 st102 hQ102
  subst l102 y102 z102
  obtain ⟨rfl, N102q, K102, jb102⟩ := hQ102
  have N102 := Fr.app N0 N102q
  have e102 : T102.heap = T102.heap := rfl
  refine own_st (A := T102.setTop (mkF mM 190 #[.val (.long nu), .second, .val (.int x2), .val (.int x3), .val (.int x4), .val (.int x5), .val (.int fl), .val (.ref jo), .val (.int fr8), .val (.int b1), .val (.int b2), .val (.int b3), .val (.int b4), s13, s14, s15, s16, .val (.ref la), .val (.ref lb), .unset, .unset, .unset] [])) (fun tT_ kK_ => st102.trans kK_) ?_
  have lma := own_Lim_keep lma K102 jb.1
  have lmb := own_Lim_keep lmb K102 jb.1
  have O := O.keep K102 (allS g_jo all0)
  have Zn := Nat.le_trans Zn K102.1
  have jb := jb102
  refine own_st (A := T102.setTop (mkF mM 192 #[.val (.long nu), .second, .val (.int x2), .val (.int x3), .val (.int x4), .val (.int x5), .val (.int fl), .val (.ref jo), .val (.int fr8), .val (.int b1), .val (.int b2), .val (.int b3), .val (.int b4), s13, s14, s15, s16, .val (.ref la), .val (.ref lb), .unset, .unset, .unset] [(.ref jo)])) (fun tT_ kK_ => XS.aload X102.here hx rfl (hb hby at_190) rfl rfl kK_) ?_
  obtain ⟨cq103, kq103, q103a, q103b, q103c⟩ := isOf hZ e102 jb.1
  obtain ⟨_, _, ⟨T103, L103, k103, n103⟩, -, X103, ⟨Lc103, hQ103, l103, y103, z103⟩, st103⟩ := X102.virtualBack hx (y := (⟨"com/example/gleanwork/gleanwork/server/Job", "limited", "()Z"⟩ : MethodName)) (z := (⟨"com/example/gleanwork/gleanwork/server/Job", "limited", "()Z"⟩ : MethodName)) hown (mvT hZ (hw _ (List.mem_of_getElem? (i := 27) rfl))) (mvT hZ (hw _ (List.mem_of_getElem? (i := 28) rfl))) (notFace_of_selects (args := #[]) (mvT hZ (hw _ (List.mem_of_getElem? (i := 30) rfl)))) (mvT hZ (hw _ (List.mem_of_getElem? (i := 30) rfl))) (mvT hZ (hw _ (List.mem_of_getElem? (i := 29) rfl))) (by decide) (backOf (W := 0) (rmLm lL Z a0 hw [] jo ra fa ca T102.heap n0 jb (fun q1 q2 => ca0 (ra2 q1) (fa2 q2)) (fun q => ca1 (ra3 q)) (fun q1 q2 => ca2 (ra2 q1) (fa3 q2))) hZ (hw _ (List.mem_of_getElem? (i := 31) rfl)) (hw _ (List.mem_of_getElem? (i := 2) rfl)) (by decide) (by decide)) q103a q103c (g := (mkF mM 192 #[.val (.long nu), .second, .val (.int x2), .val (.int x3), .val (.int x4), .val (.int x5), .val (.int fl), .val (.ref jo), .val (.int fr8), .val (.int b1), .val (.int b2), .val (.int b3), .val (.int b4), s13, s14, s15, s16, .val (.ref la), .val (.ref lb), .unset, .unset, .unset] [(.ref jo)])) rfl (by rw [hml]; rfl) (Steps.refl _) (argsL := []) (rest := []) (lenOf pd__28_29Z rfl) rfl (by show 2 * 0 + _ ≤ _; exact Nat.le_of_eq rfl) (hb hby at_192) (fun _ _ => ⟨rfl, e102, (by decide : 11 + 0 ≤ _), (by decide : 31 + 0 ≤ _)⟩)
  dsimp only [Pt.U, Pt.locs, Pt.cells, Pt.slots] at X103 l103 y103 z103 st103 hQ103
  subst l103 y103 z103
  obtain ⟨rfl, N103q, e103⟩ := hQ103
  have N103 := Fr.app N102 N103q
  refine own_st (A := T103.setTop (mkF mM 195 #[.val (.long nu), .second, .val (.int x2), .val (.int x3), .val (.int x4), .val (.int x5), .val (.int fl), .val (.ref jo), .val (.int fr8), .val (.int b1), .val (.int b2), .val (.int b3), .val (.int b4), s13, s14, s15, s16, .val (.ref la), .val (.ref lb), .unset, .unset, .unset] [(.int ca)])) (fun tT_ kK_ => st103.trans kK_) ?_
  refine own_st (A := T103.setTop (mkF mM 197 #[.val (.long nu), .second, .val (.int x2), .val (.int x3), .val (.int x4), .val (.int x5), .val (.int fl), .val (.ref jo), .val (.int fr8), .val (.int b1), .val (.int b2), .val (.int b3), .val (.int b4), s13, s14, s15, s16, .val (.ref la), .val (.ref lb), .val (.int ca), .unset, .unset] [])) (fun tT_ kK_ => XS.istore X103.here hx rfl (hb hby at_195) rfl (l' := #[.val (.long nu), .second, .val (.int x2), .val (.int x3), .val (.int x4), .val (.int x5), .val (.int fl), .val (.ref jo), .val (.int fr8), .val (.int b1), .val (.int b2), .val (.int b3), .val (.int b4), s13, s14, s15, s16, .val (.ref la), .val (.ref lb), .val (.int ca), .unset, .unset]) rfl kK_) ?_
  refine own_st (A := T103.setTop (mkF mM 199 #[.val (.long nu), .second, .val (.int x2), .val (.int x3), .val (.int x4), .val (.int x5), .val (.int fl), .val (.ref jo), .val (.int fr8), .val (.int b1), .val (.int b2), .val (.int b3), .val (.int b4), s13, s14, s15, s16, .val (.ref la), .val (.ref lb), .val (.int ca), .unset, .unset] [(.ref jo)])) (fun tT_ kK_ => XS.aload X103.here hx rfl (hb hby at_197) rfl rfl kK_) ?_
  obtain ⟨cq104, kq104, q104a, q104b, q104c⟩ := isOf hZ e103 jb.1
  obtain ⟨_, _, ⟨T104, L104, k104, n104⟩, -, X104, ⟨Lc104, hQ104, l104, y104, z104⟩, st104⟩ := X103.virtualBack hx (y := (⟨"com/example/gleanwork/gleanwork/server/Job", "ownLimits", "()Lcom/example/gleanwork/gleanwork/server/OwnLimits;"⟩ : MethodName)) (z := (⟨"com/example/gleanwork/gleanwork/server/Job", "ownLimits", "()Lcom/example/gleanwork/gleanwork/server/OwnLimits;"⟩ : MethodName)) hown (mvT hZ (hw _ (List.mem_of_getElem? (i := 83) rfl))) (mvT hZ (hw _ (List.mem_of_getElem? (i := 84) rfl))) (notFace_of_selects (args := #[]) (mvT hZ (hw _ (List.mem_of_getElem? (i := 86) rfl)))) (mvT hZ (hw _ (List.mem_of_getElem? (i := 86) rfl))) (mvT hZ (hw _ (List.mem_of_getElem? (i := 85) rfl))) (by decide) (backOf (W := 0) (rmOw lL Z a0 hw [] jo ra fa b1 b2 em T102.heap n0 jb Zn O S_e oe ra2 (fun q => own_p b1 d1 (ra3 q)) ra4 fa2 (fun q => own_p b2 d2 (fa3 q)) fa4) hZ (hw _ (List.mem_of_getElem? (i := 87) rfl)) (hw _ (List.mem_of_getElem? (i := 2) rfl)) (by decide) (by decide)) q104a q104c (g := (mkF mM 199 #[.val (.long nu), .second, .val (.int x2), .val (.int x3), .val (.int x4), .val (.int x5), .val (.int fl), .val (.ref jo), .val (.int fr8), .val (.int b1), .val (.int b2), .val (.int b3), .val (.int b4), s13, s14, s15, s16, .val (.ref la), .val (.ref lb), .val (.int ca), .unset, .unset] [(.ref jo)])) rfl (by rw [hml]; rfl) (Steps.refl _) (argsL := []) (rest := []) (lenOf pd__28_29Lcom_2fexample_2fgleanwork_2fgleanwork_2fserver_2fOwnLimits_3b rfl) rfl (by show 2 * 0 + _ ≤ _; exact Nat.le_of_eq rfl) (hb hby at_199) (fun _ _ => ⟨rfl, e103, (by decide : 11 + 3 ≤ _), (by decide : 31 + 6 ≤ _)⟩)
  dsimp only [Pt.U, Pt.locs, Pt.cells, Pt.slots] at X104 l104 y104 z104 st104 hQ104
  subst l104 y104 z104
  obtain ⟨b104, i104, j104, rfl, N104q, E104, lm104, -, -⟩ := hQ104
  have N104 := Fr.app N103 N104q
  have e104 : T104.heap = T104.heap := rfl
  refine own_st (A := T104.setTop (mkF mM 202 #[.val (.long nu), .second, .val (.int x2), .val (.int x3), .val (.int x4), .val (.int x5), .val (.int fl), .val (.ref jo), .val (.int fr8), .val (.int b1), .val (.int b2), .val (.int b3), .val (.int b4), s13, s14, s15, s16, .val (.ref la), .val (.ref lb), .val (.int ca), .unset, .unset] [(.ref b104)])) (fun tT_ kK_ => st104.trans kK_) ?_
  have lma := own_Lim_ext lma E104
  have lmb := own_Lim_ext lmb E104
  have O := O.ext E104
  have Zn := Nat.le_trans Zn E104.1
  have jb := own_Jb_ext jb E104
  obtain ⟨cq105, kq105, q105a, q105b, q105c⟩ := isOf hZ e104 (own_Lim_exa lm104)
  obtain ⟨_, _, ⟨T105, L105, k105, n105⟩, -, X105, ⟨Lc105, hQ105, l105, y105, z105⟩, st105⟩ := X104.virtualBack hx (y := (⟨"com/example/gleanwork/gleanwork/server/OwnLimits", "any", "()Z"⟩ : MethodName)) (z := (⟨"com/example/gleanwork/gleanwork/server/OwnLimits", "any", "()Z"⟩ : MethodName)) hown (mvT hZ (hw _ (List.mem_of_getElem? (i := 94) rfl))) (mvT hZ (hw _ (List.mem_of_getElem? (i := 95) rfl))) (notFace_of_selects (args := #[]) (mvT hZ (hw _ (List.mem_of_getElem? (i := 97) rfl)))) (mvT hZ (hw _ (List.mem_of_getElem? (i := 97) rfl))) (mvT hZ (hw _ (List.mem_of_getElem? (i := 96) rfl))) (by decide) (backOf (W := 0) (rmAn lL Z a0 hw [] b104 b1 i104 b2 j104 ca T104.heap n0 lm104 ca0 ca1 ca2) hZ (hw _ (List.mem_of_getElem? (i := 98) rfl)) (hw _ (List.mem_of_getElem? (i := 34) rfl)) (by decide) (by decide)) q105a q105c (g := (mkF mM 202 #[.val (.long nu), .second, .val (.int x2), .val (.int x3), .val (.int x4), .val (.int x5), .val (.int fl), .val (.ref jo), .val (.int fr8), .val (.int b1), .val (.int b2), .val (.int b3), .val (.int b4), s13, s14, s15, s16, .val (.ref la), .val (.ref lb), .val (.int ca), .unset, .unset] [(.ref b104)])) rfl (by rw [hml]; rfl) (Steps.refl _) (argsL := []) (rest := []) (lenOf pd__28_29Z rfl) rfl (by show 2 * 0 + _ ≤ _; exact Nat.le_of_eq rfl) (hb hby at_202) (fun _ _ => ⟨rfl, e104, (by decide : 14 + 0 ≤ _), (by decide : 37 + 0 ≤ _)⟩)
  dsimp only [Pt.U, Pt.locs, Pt.cells, Pt.slots] at X105 l105 y105 z105 st105 hQ105
  subst l105 y105 z105
  obtain ⟨rfl, N105q, e105⟩ := hQ105
  have N105 := Fr.app N104 N105q
  refine own_st (A := T105.setTop (mkF mM 205 #[.val (.long nu), .second, .val (.int x2), .val (.int x3), .val (.int x4), .val (.int x5), .val (.int fl), .val (.ref jo), .val (.int fr8), .val (.int b1), .val (.int b2), .val (.int b3), .val (.int b4), s13, s14, s15, s16, .val (.ref la), .val (.ref lb), .val (.int ca), .unset, .unset] [(.int ca)])) (fun tT_ kK_ => st105.trans kK_) ?_
  refine own_st (A := T105.setTop (mkF mM 207 #[.val (.long nu), .second, .val (.int x2), .val (.int x3), .val (.int x4), .val (.int x5), .val (.int fl), .val (.ref jo), .val (.int fr8), .val (.int b1), .val (.int b2), .val (.int b3), .val (.int b4), s13, s14, s15, s16, .val (.ref la), .val (.ref lb), .val (.int ca), .val (.int ca), .unset] [])) (fun tT_ kK_ => XS.istore X105.here hx rfl (hb hby at_205) rfl (l' := #[.val (.long nu), .second, .val (.int x2), .val (.int x3), .val (.int x4), .val (.int x5), .val (.int fl), .val (.ref jo), .val (.int fr8), .val (.int b1), .val (.int b2), .val (.int b3), .val (.int b4), s13, s14, s15, s16, .val (.ref la), .val (.ref lb), .val (.int ca), .val (.int ca), .unset]) rfl kK_) ?_
  refine own_st (A := T105.setTop (mkF mM 209 #[.val (.long nu), .second, .val (.int x2), .val (.int x3), .val (.int x4), .val (.int x5), .val (.int fl), .val (.ref jo), .val (.int fr8), .val (.int b1), .val (.int b2), .val (.int b3), .val (.int b4), s13, s14, s15, s16, .val (.ref la), .val (.ref lb), .val (.int ca), .val (.int ca), .unset] [(.ref jo)])) (fun tT_ kK_ => XS.aload X105.here hx rfl (hb hby at_207) rfl rfl kK_) ?_
  refine own_st (A := T105.setTop (mkF mM 211 #[.val (.long nu), .second, .val (.int x2), .val (.int x3), .val (.int x4), .val (.int x5), .val (.int fl), .val (.ref jo), .val (.int fr8), .val (.int b1), .val (.int b2), .val (.int b3), .val (.int b4), s13, s14, s15, s16, .val (.ref la), .val (.ref lb), .val (.int ca), .val (.int ca), .unset] [(.ref lb), (.ref jo)])) (fun tT_ kK_ => XS.aload X105.here hx rfl (hb hby at_209) rfl rfl kK_) ?_
  obtain ⟨cq106, kq106, q106a, q106b, q106c⟩ := isOf hZ e105 jb.1
  obtain ⟨_, _, ⟨T106, L106, k106, n106⟩, -, X106, ⟨Lc106, hQ106, l106, y106, z106⟩, st106⟩ := X105.virtualBack hx (y := (⟨"com/example/gleanwork/gleanwork/server/Job", "setOwnLimits", "(Lcom/example/gleanwork/gleanwork/server/OwnLimits;)V"⟩ : MethodName)) (z := (⟨"com/example/gleanwork/gleanwork/server/Job", "setOwnLimits", "(Lcom/example/gleanwork/gleanwork/server/OwnLimits;)V"⟩ : MethodName)) hown (mvT hZ (hw _ (List.mem_of_getElem? (i := 63) rfl))) (mvT hZ (hw _ (List.mem_of_getElem? (i := 64) rfl))) (notFace_of_selects (args := #[]) (mvT hZ (hw _ (List.mem_of_getElem? (i := 66) rfl)))) (mvT hZ (hw _ (List.mem_of_getElem? (i := 66) rfl))) (mvT hZ (hw _ (List.mem_of_getElem? (i := 65) rfl))) (by decide) (backOf (W := 0) (rmSe lL Z a0 hw [] jo ra fa lb b3 i2 b4 j2 rb fb T104.heap n0 g_jo jb lmb rb0 rb1 fb0 fb1) hZ (hw _ (List.mem_of_getElem? (i := 67) rfl)) (hw _ (List.mem_of_getElem? (i := 2) rfl)) (by decide) (by decide)) q106a q106c (g := (mkF mM 211 #[.val (.long nu), .second, .val (.int x2), .val (.int x3), .val (.int x4), .val (.int x5), .val (.int fl), .val (.ref jo), .val (.int fr8), .val (.int b1), .val (.int b2), .val (.int b3), .val (.int b4), s13, s14, s15, s16, .val (.ref la), .val (.ref lb), .val (.int ca), .val (.int ca), .unset] [(.ref lb), (.ref jo)])) rfl (by rw [hml]; rfl) (Steps.refl _) (argsL := [(.ref lb)]) (rest := []) (lenOf pd__28Lcom_2fexample_2fgleanwork_2fgleanwork_2fserver_2fOwnLimits_3b_29V rfl) rfl (by show 2 * 0 + _ ≤ _; exact Nat.le_of_eq rfl) (hb hby at_211) (fun _ _ => ⟨rfl, e105, (by decide : 14 + 0 ≤ _), (by decide : 37 + 0 ≤ _)⟩)
  dsimp only [Pt.U, Pt.locs, Pt.cells, Pt.slots] at X106 l106 y106 z106 st106 hQ106
  subst l106 y106 z106
  obtain ⟨rfl, N106q, K106, jb106⟩ := hQ106
  have N106 := Fr.app N105 N106q
  have e106 : T106.heap = T106.heap := rfl
  refine own_st (A := T106.setTop (mkF mM 214 #[.val (.long nu), .second, .val (.int x2), .val (.int x3), .val (.int x4), .val (.int x5), .val (.int fl), .val (.ref jo), .val (.int fr8), .val (.int b1), .val (.int b2), .val (.int b3), .val (.int b4), s13, s14, s15, s16, .val (.ref la), .val (.ref lb), .val (.int ca), .val (.int ca), .unset] [])) (fun tT_ kK_ => st106.trans kK_) ?_
  have lma := own_Lim_keep lma K106 jb.1
  have lmb := own_Lim_keep lmb K106 jb.1
  have O := O.keep K106 (allS g_jo all0)
  have Zn := Nat.le_trans Zn K106.1
  have jb := jb106
  refine own_st (A := T106.setTop (mkF mM 216 #[.val (.long nu), .second, .val (.int x2), .val (.int x3), .val (.int x4), .val (.int x5), .val (.int fl), .val (.ref jo), .val (.int fr8), .val (.int b1), .val (.int b2), .val (.int b3), .val (.int b4), s13, s14, s15, s16, .val (.ref la), .val (.ref lb), .val (.int ca), .val (.int ca), .unset] [(.ref jo)])) (fun tT_ kK_ => XS.aload X106.here hx rfl (hb hby at_214) rfl rfl kK_) ?_
  obtain ⟨cq107, kq107, q107a, q107b, q107c⟩ := isOf hZ e106 jb.1
  obtain ⟨_, _, ⟨T107, L107, k107, n107⟩, -, X107, ⟨Lc107, hQ107, l107, y107, z107⟩, st107⟩ := X106.virtualBack hx (y := (⟨"com/example/gleanwork/gleanwork/server/Job", "limited", "()Z"⟩ : MethodName)) (z := (⟨"com/example/gleanwork/gleanwork/server/Job", "limited", "()Z"⟩ : MethodName)) hown (mvT hZ (hw _ (List.mem_of_getElem? (i := 27) rfl))) (mvT hZ (hw _ (List.mem_of_getElem? (i := 28) rfl))) (notFace_of_selects (args := #[]) (mvT hZ (hw _ (List.mem_of_getElem? (i := 30) rfl)))) (mvT hZ (hw _ (List.mem_of_getElem? (i := 30) rfl))) (mvT hZ (hw _ (List.mem_of_getElem? (i := 29) rfl))) (by decide) (backOf (W := 0) (rmLm lL Z a0 hw [] jo rb fb cb T106.heap n0 jb (fun q1 q2 => cb0 (rb2 q1) (fb2 q2)) (fun q => cb1 (rb3 q)) (fun q1 q2 => cb2 (rb2 q1) (fb3 q2))) hZ (hw _ (List.mem_of_getElem? (i := 31) rfl)) (hw _ (List.mem_of_getElem? (i := 2) rfl)) (by decide) (by decide)) q107a q107c (g := (mkF mM 216 #[.val (.long nu), .second, .val (.int x2), .val (.int x3), .val (.int x4), .val (.int x5), .val (.int fl), .val (.ref jo), .val (.int fr8), .val (.int b1), .val (.int b2), .val (.int b3), .val (.int b4), s13, s14, s15, s16, .val (.ref la), .val (.ref lb), .val (.int ca), .val (.int ca), .unset] [(.ref jo)])) rfl (by rw [hml]; rfl) (Steps.refl _) (argsL := []) (rest := []) (lenOf pd__28_29Z rfl) rfl (by show 2 * 0 + _ ≤ _; exact Nat.le_of_eq rfl) (hb hby at_216) (fun _ _ => ⟨rfl, e106, (by decide : 14 + 0 ≤ _), (by decide : 37 + 0 ≤ _)⟩)
  dsimp only [Pt.U, Pt.locs, Pt.cells, Pt.slots] at X107 l107 y107 z107 st107 hQ107
  subst l107 y107 z107
  obtain ⟨rfl, N107q, e107⟩ := hQ107
  have N107 := Fr.app N106 N107q
  refine own_st (A := T107.setTop (mkF mM 219 #[.val (.long nu), .second, .val (.int x2), .val (.int x3), .val (.int x4), .val (.int x5), .val (.int fl), .val (.ref jo), .val (.int fr8), .val (.int b1), .val (.int b2), .val (.int b3), .val (.int b4), s13, s14, s15, s16, .val (.ref la), .val (.ref lb), .val (.int ca), .val (.int ca), .unset] [(.int cb)])) (fun tT_ kK_ => st107.trans kK_) ?_
  refine own_st (A := T107.setTop (mkF mM 221 #[.val (.long nu), .second, .val (.int x2), .val (.int x3), .val (.int x4), .val (.int x5), .val (.int fl), .val (.ref jo), .val (.int fr8), .val (.int b1), .val (.int b2), .val (.int b3), .val (.int b4), s13, s14, s15, s16, .val (.ref la), .val (.ref lb), .val (.int ca), .val (.int ca), .val (.int cb)] [])) (fun tT_ kK_ => XS.istore X107.here hx rfl (hb hby at_219) rfl (l' := #[.val (.long nu), .second, .val (.int x2), .val (.int x3), .val (.int x4), .val (.int x5), .val (.int fl), .val (.ref jo), .val (.int fr8), .val (.int b1), .val (.int b2), .val (.int b3), .val (.int b4), s13, s14, s15, s16, .val (.ref la), .val (.ref lb), .val (.int ca), .val (.int ca), .val (.int cb)]) rfl kK_) ?_
  refine own_st (A := T107.setTop (mkF mM 223 #[.val (.long nu), .second, .val (.int x2), .val (.int x3), .val (.int x4), .val (.int x5), .val (.int fl), .val (.ref jo), .val (.int fr8), .val (.int b1), .val (.int b2), .val (.int b3), .val (.int b4), s13, s14, s15, s16, .val (.ref la), .val (.ref lb), .val (.int ca), .val (.int ca), .val (.int cb)] [(.int fr8)])) (fun tT_ kK_ => XS.iload X107.here hx rfl (hb hby at_221) rfl kK_) ?_
  refine own_st (A := T107.setTop (mkF mM 226 #[.val (.long nu), .second, .val (.int x2), .val (.int x3), .val (.int x4), .val (.int x5), .val (.int fl), .val (.ref jo), .val (.int fr8), .val (.int b1), .val (.int b2), .val (.int b3), .val (.int b4), s13, s14, s15, s16, .val (.ref la), .val (.ref lb), .val (.int ca), .val (.int ca), .val (.int cb)] [])) (fun tT_ kK_ => XS.ifNo X107.here hx rfl (hb hby at_223) rfl ((if0 _ _).trans (feq (fun q => absurd (hf8.symm.trans q) (by decide))).1) kK_) ?_
  refine own_st (A := T107.setTop (mkF mM 228 #[.val (.long nu), .second, .val (.int x2), .val (.int x3), .val (.int x4), .val (.int x5), .val (.int fl), .val (.ref jo), .val (.int fr8), .val (.int b1), .val (.int b2), .val (.int b3), .val (.int b4), s13, s14, s15, s16, .val (.ref la), .val (.ref lb), .val (.int ca), .val (.int ca), .val (.int cb)] [(.int ca)])) (fun tT_ kK_ => XS.iload X107.here hx rfl (hb hby at_226) rfl kK_) ?_
  refine own_st (A := T107.setTop (mkF mM 230 #[.val (.long nu), .second, .val (.int x2), .val (.int x3), .val (.int x4), .val (.int x5), .val (.int fl), .val (.ref jo), .val (.int fr8), .val (.int b1), .val (.int b2), .val (.int b3), .val (.int b4), s13, s14, s15, s16, .val (.ref la), .val (.ref lb), .val (.int ca), .val (.int ca), .val (.int cb)] [(.int b1), (.int ca)])) (fun tT_ kK_ => XS.iload X107.here hx rfl (hb hby at_228) rfl kK_) ?_
  by_cases hc230_108 : b1 = (0 : Int32)
  · skip
    refine own_st (A := T107.setTop (mkF mM 233 #[.val (.long nu), .second, .val (.int x2), .val (.int x3), .val (.int x4), .val (.int x5), .val (.int fl), .val (.ref jo), .val (.int fr8), .val (.int b1), .val (.int b2), .val (.int b3), .val (.int b4), s13, s14, s15, s16, .val (.ref la), .val (.ref lb), .val (.int ca), .val (.int ca), .val (.int cb)] [(.int ca)])) (fun tT_ kK_ => XS.ifNo X107.here hx rfl (hb hby at_230) rfl ((if0 _ _).trans (teq hc230_108).2) kK_) ?_
    refine own_st (A := T107.setTop (mkF mM 235 #[.val (.long nu), .second, .val (.int x2), .val (.int x3), .val (.int x4), .val (.int x5), .val (.int fl), .val (.ref jo), .val (.int fr8), .val (.int b1), .val (.int b2), .val (.int b3), .val (.int b4), s13, s14, s15, s16, .val (.ref la), .val (.ref lb), .val (.int ca), .val (.int ca), .val (.int cb)] [(.int b2), (.int ca)])) (fun tT_ kK_ => XS.iload X107.here hx rfl (hb hby at_233) rfl kK_) ?_
    by_cases hc235_109 : b2 = (0 : Int32)
    · skip
      refine own_st (A := T107.setTop (mkF mM 242 #[.val (.long nu), .second, .val (.int x2), .val (.int x3), .val (.int x4), .val (.int x5), .val (.int fl), .val (.ref jo), .val (.int fr8), .val (.int b1), .val (.int b2), .val (.int b3), .val (.int b4), s13, s14, s15, s16, .val (.ref la), .val (.ref lb), .val (.int ca), .val (.int ca), .val (.int cb)] [(.int ca)])) (fun tT_ kK_ => XS.ifYes X107.here hx rfl (pc0 := 235) (pc' := 242) rfl (hb hby at_235) rfl ((if0 _ _).trans (teq hc235_109).1) (by decide) (by decide) kK_) ?_
      refine own_st (A := T107.setTop (mkF mM 243 #[.val (.long nu), .second, .val (.int x2), .val (.int x3), .val (.int x4), .val (.int x5), .val (.int fl), .val (.ref jo), .val (.int fr8), .val (.int b1), .val (.int b2), .val (.int b3), .val (.int b4), s13, s14, s15, s16, .val (.ref la), .val (.ref lb), .val (.int ca), .val (.int ca), .val (.int cb)] [(.int (0 : Int32)), (.int ca)])) (fun tT_ kK_ => XS.iconst X107.here hx rfl (hb hby at_242) kK_) ?_
      refine own_st (A := T107.setTop (mkF mM 246 #[.val (.long nu), .second, .val (.int x2), .val (.int x3), .val (.int x4), .val (.int x5), .val (.int fl), .val (.ref jo), .val (.int fr8), .val (.int b1), .val (.int b2), .val (.int b3), .val (.int b4), s13, s14, s15, s16, .val (.ref la), .val (.ref lb), .val (.int ca), .val (.int ca), .val (.int cb)] [])) (fun tT_ kK_ => XS.icmpNo X107.here hx rfl (hb hby at_243) rfl (teq (ca0 hc230_108 hc235_109)).2 kK_) ?_
      refine own_st (A := T107.setTop (mkF mM 248 #[.val (.long nu), .second, .val (.int x2), .val (.int x3), .val (.int x4), .val (.int x5), .val (.int fl), .val (.ref jo), .val (.int fr8), .val (.int b1), .val (.int b2), .val (.int b3), .val (.int b4), s13, s14, s15, s16, .val (.ref la), .val (.ref lb), .val (.int ca), .val (.int ca), .val (.int cb)] [(.int ca)])) (fun tT_ kK_ => XS.iload X107.here hx rfl (hb hby at_246) rfl kK_) ?_
      refine own_st (A := T107.setTop (mkF mM 250 #[.val (.long nu), .second, .val (.int x2), .val (.int x3), .val (.int x4), .val (.int x5), .val (.int fl), .val (.ref jo), .val (.int fr8), .val (.int b1), .val (.int b2), .val (.int b3), .val (.int b4), s13, s14, s15, s16, .val (.ref la), .val (.ref lb), .val (.int ca), .val (.int ca), .val (.int cb)] [(.int ca), (.int ca)])) (fun tT_ kK_ => XS.iload X107.here hx rfl (hb hby at_248) rfl kK_) ?_
      refine own_st (A := T107.setTop (mkF mM 253 #[.val (.long nu), .second, .val (.int x2), .val (.int x3), .val (.int x4), .val (.int x5), .val (.int fl), .val (.ref jo), .val (.int fr8), .val (.int b1), .val (.int b2), .val (.int b3), .val (.int b4), s13, s14, s15, s16, .val (.ref la), .val (.ref lb), .val (.int ca), .val (.int ca), .val (.int cb)] [])) (fun tT_ kK_ => XS.icmpNo X107.here hx rfl (hb hby at_250) rfl (teq (rfl : ca = ca)).2 kK_) ?_
      refine own_st (A := T107.setTop (mkF mM 255 #[.val (.long nu), .second, .val (.int x2), .val (.int x3), .val (.int x4), .val (.int x5), .val (.int fl), .val (.ref jo), .val (.int fr8), .val (.int b1), .val (.int b2), .val (.int b3), .val (.int b4), s13, s14, s15, s16, .val (.ref la), .val (.ref lb), .val (.int ca), .val (.int ca), .val (.int cb)] [(.int cb)])) (fun tT_ kK_ => XS.iload X107.here hx rfl (hb hby at_253) rfl kK_) ?_
      refine own_st (A := T107.setTop (mkF mM 257 #[.val (.long nu), .second, .val (.int x2), .val (.int x3), .val (.int x4), .val (.int x5), .val (.int fl), .val (.ref jo), .val (.int fr8), .val (.int b1), .val (.int b2), .val (.int b3), .val (.int b4), s13, s14, s15, s16, .val (.ref la), .val (.ref lb), .val (.int ca), .val (.int ca), .val (.int cb)] [(.int b3), (.int cb)])) (fun tT_ kK_ => XS.iload X107.here hx rfl (hb hby at_255) rfl kK_) ?_
      by_cases hc257_110 : b3 = (0 : Int32)
      · skip
        refine own_st (A := T107.setTop (mkF mM 260 #[.val (.long nu), .second, .val (.int x2), .val (.int x3), .val (.int x4), .val (.int x5), .val (.int fl), .val (.ref jo), .val (.int fr8), .val (.int b1), .val (.int b2), .val (.int b3), .val (.int b4), s13, s14, s15, s16, .val (.ref la), .val (.ref lb), .val (.int ca), .val (.int ca), .val (.int cb)] [(.int cb)])) (fun tT_ kK_ => XS.ifNo X107.here hx rfl (hb hby at_257) rfl ((if0 _ _).trans (teq hc257_110).2) kK_) ?_
        refine own_st (A := T107.setTop (mkF mM 262 #[.val (.long nu), .second, .val (.int x2), .val (.int x3), .val (.int x4), .val (.int x5), .val (.int fl), .val (.ref jo), .val (.int fr8), .val (.int b1), .val (.int b2), .val (.int b3), .val (.int b4), s13, s14, s15, s16, .val (.ref la), .val (.ref lb), .val (.int ca), .val (.int ca), .val (.int cb)] [(.int b4), (.int cb)])) (fun tT_ kK_ => XS.iload X107.here hx rfl (hb hby at_260) rfl kK_) ?_
        by_cases hc262_111 : b4 = (0 : Int32)
        · skip
          refine own_st (A := T107.setTop (mkF mM 269 #[.val (.long nu), .second, .val (.int x2), .val (.int x3), .val (.int x4), .val (.int x5), .val (.int fl), .val (.ref jo), .val (.int fr8), .val (.int b1), .val (.int b2), .val (.int b3), .val (.int b4), s13, s14, s15, s16, .val (.ref la), .val (.ref lb), .val (.int ca), .val (.int ca), .val (.int cb)] [(.int cb)])) (fun tT_ kK_ => XS.ifYes X107.here hx rfl (pc0 := 262) (pc' := 269) rfl (hb hby at_262) rfl ((if0 _ _).trans (teq hc262_111).1) (by decide) (by decide) kK_) ?_
          refine own_st (A := T107.setTop (mkF mM 270 #[.val (.long nu), .second, .val (.int x2), .val (.int x3), .val (.int x4), .val (.int x5), .val (.int fl), .val (.ref jo), .val (.int fr8), .val (.int b1), .val (.int b2), .val (.int b3), .val (.int b4), s13, s14, s15, s16, .val (.ref la), .val (.ref lb), .val (.int ca), .val (.int ca), .val (.int cb)] [(.int (0 : Int32)), (.int cb)])) (fun tT_ kK_ => XS.iconst X107.here hx rfl (hb hby at_269) kK_) ?_
          refine own_st (A := T107.setTop (mkF mM 273 #[.val (.long nu), .second, .val (.int x2), .val (.int x3), .val (.int x4), .val (.int x5), .val (.int fl), .val (.ref jo), .val (.int fr8), .val (.int b1), .val (.int b2), .val (.int b3), .val (.int b4), s13, s14, s15, s16, .val (.ref la), .val (.ref lb), .val (.int ca), .val (.int ca), .val (.int cb)] [])) (fun tT_ kK_ => XS.icmpNo X107.here hx rfl (hb hby at_270) rfl (teq (cb0 hc257_110 hc262_111)).2 kK_) ?_
          refine own_st (A := T107.setTop (mkF mM 274 #[.val (.long nu), .second, .val (.int x2), .val (.int x3), .val (.int x4), .val (.int x5), .val (.int fl), .val (.ref jo), .val (.int fr8), .val (.int b1), .val (.int b2), .val (.int b3), .val (.int b4), s13, s14, s15, s16, .val (.ref la), .val (.ref lb), .val (.int ca), .val (.int ca), .val (.int cb)] [(.int (1 : Int32))])) (fun tT_ kK_ => XS.iconst X107.here hx rfl (hb hby at_273) kK_) ?_
          refine own_st (A := T107.setTop (mkF mM 278 #[.val (.long nu), .second, .val (.int x2), .val (.int x3), .val (.int x4), .val (.int x5), .val (.int fl), .val (.ref jo), .val (.int fr8), .val (.int b1), .val (.int b2), .val (.int b3), .val (.int b4), s13, s14, s15, s16, .val (.ref la), .val (.ref lb), .val (.int ca), .val (.int ca), .val (.int cb)] [(.int (1 : Int32))])) (fun tT_ kK_ => XS.goto X107.here hx rfl (pc0 := 274) (pc' := 278) rfl (hb hby at_274) (by decide) (by decide) kK_) ?_
          exact own_retN X107 hx hlk (t := .boolean) hret (by simp) (hb hby at_278) ⟨rfl, N107⟩ (by decide) (by decide)
        · skip
          refine own_st (A := T107.setTop (mkF mM 265 #[.val (.long nu), .second, .val (.int x2), .val (.int x3), .val (.int x4), .val (.int x5), .val (.int fl), .val (.ref jo), .val (.int fr8), .val (.int b1), .val (.int b2), .val (.int b3), .val (.int b4), s13, s14, s15, s16, .val (.ref la), .val (.ref lb), .val (.int ca), .val (.int ca), .val (.int cb)] [(.int cb)])) (fun tT_ kK_ => XS.ifNo X107.here hx rfl (hb hby at_262) rfl ((if0 _ _).trans (feq hc262_111).1) kK_) ?_
          refine own_st (A := T107.setTop (mkF mM 266 #[.val (.long nu), .second, .val (.int x2), .val (.int x3), .val (.int x4), .val (.int x5), .val (.int fl), .val (.ref jo), .val (.int fr8), .val (.int b1), .val (.int b2), .val (.int b3), .val (.int b4), s13, s14, s15, s16, .val (.ref la), .val (.ref lb), .val (.int ca), .val (.int ca), .val (.int cb)] [(.int (1 : Int32)), (.int cb)])) (fun tT_ kK_ => XS.iconst X107.here hx rfl (hb hby at_265) kK_) ?_
          refine own_st (A := T107.setTop (mkF mM 270 #[.val (.long nu), .second, .val (.int x2), .val (.int x3), .val (.int x4), .val (.int x5), .val (.int fl), .val (.ref jo), .val (.int fr8), .val (.int b1), .val (.int b2), .val (.int b3), .val (.int b4), s13, s14, s15, s16, .val (.ref la), .val (.ref lb), .val (.int ca), .val (.int ca), .val (.int cb)] [(.int (1 : Int32)), (.int cb)])) (fun tT_ kK_ => XS.goto X107.here hx rfl (pc0 := 266) (pc' := 270) rfl (hb hby at_266) (by decide) (by decide) kK_) ?_
          refine own_st (A := T107.setTop (mkF mM 273 #[.val (.long nu), .second, .val (.int x2), .val (.int x3), .val (.int x4), .val (.int x5), .val (.int fl), .val (.ref jo), .val (.int fr8), .val (.int b1), .val (.int b2), .val (.int b3), .val (.int b4), s13, s14, s15, s16, .val (.ref la), .val (.ref lb), .val (.int ca), .val (.int ca), .val (.int cb)] [])) (fun tT_ kK_ => XS.icmpNo X107.here hx rfl (hb hby at_270) rfl (teq (cb2 hc257_110 hc262_111)).2 kK_) ?_
          refine own_st (A := T107.setTop (mkF mM 274 #[.val (.long nu), .second, .val (.int x2), .val (.int x3), .val (.int x4), .val (.int x5), .val (.int fl), .val (.ref jo), .val (.int fr8), .val (.int b1), .val (.int b2), .val (.int b3), .val (.int b4), s13, s14, s15, s16, .val (.ref la), .val (.ref lb), .val (.int ca), .val (.int ca), .val (.int cb)] [(.int (1 : Int32))])) (fun tT_ kK_ => XS.iconst X107.here hx rfl (hb hby at_273) kK_) ?_
          refine own_st (A := T107.setTop (mkF mM 278 #[.val (.long nu), .second, .val (.int x2), .val (.int x3), .val (.int x4), .val (.int x5), .val (.int fl), .val (.ref jo), .val (.int fr8), .val (.int b1), .val (.int b2), .val (.int b3), .val (.int b4), s13, s14, s15, s16, .val (.ref la), .val (.ref lb), .val (.int ca), .val (.int ca), .val (.int cb)] [(.int (1 : Int32))])) (fun tT_ kK_ => XS.goto X107.here hx rfl (pc0 := 274) (pc' := 278) rfl (hb hby at_274) (by decide) (by decide) kK_) ?_
          exact own_retN X107 hx hlk (t := .boolean) hret (by simp) (hb hby at_278) ⟨rfl, N107⟩ (by decide) (by decide)
      · skip
        refine own_st (A := T107.setTop (mkF mM 265 #[.val (.long nu), .second, .val (.int x2), .val (.int x3), .val (.int x4), .val (.int x5), .val (.int fl), .val (.ref jo), .val (.int fr8), .val (.int b1), .val (.int b2), .val (.int b3), .val (.int b4), s13, s14, s15, s16, .val (.ref la), .val (.ref lb), .val (.int ca), .val (.int ca), .val (.int cb)] [(.int cb)])) (fun tT_ kK_ => XS.ifYes X107.here hx rfl (pc0 := 257) (pc' := 265) rfl (hb hby at_257) rfl ((if0 _ _).trans (feq hc257_110).2) (by decide) (by decide) kK_) ?_
        refine own_st (A := T107.setTop (mkF mM 266 #[.val (.long nu), .second, .val (.int x2), .val (.int x3), .val (.int x4), .val (.int x5), .val (.int fl), .val (.ref jo), .val (.int fr8), .val (.int b1), .val (.int b2), .val (.int b3), .val (.int b4), s13, s14, s15, s16, .val (.ref la), .val (.ref lb), .val (.int ca), .val (.int ca), .val (.int cb)] [(.int (1 : Int32)), (.int cb)])) (fun tT_ kK_ => XS.iconst X107.here hx rfl (hb hby at_265) kK_) ?_
        refine own_st (A := T107.setTop (mkF mM 270 #[.val (.long nu), .second, .val (.int x2), .val (.int x3), .val (.int x4), .val (.int x5), .val (.int fl), .val (.ref jo), .val (.int fr8), .val (.int b1), .val (.int b2), .val (.int b3), .val (.int b4), s13, s14, s15, s16, .val (.ref la), .val (.ref lb), .val (.int ca), .val (.int ca), .val (.int cb)] [(.int (1 : Int32)), (.int cb)])) (fun tT_ kK_ => XS.goto X107.here hx rfl (pc0 := 266) (pc' := 270) rfl (hb hby at_266) (by decide) (by decide) kK_) ?_
        refine own_st (A := T107.setTop (mkF mM 273 #[.val (.long nu), .second, .val (.int x2), .val (.int x3), .val (.int x4), .val (.int x5), .val (.int fl), .val (.ref jo), .val (.int fr8), .val (.int b1), .val (.int b2), .val (.int b3), .val (.int b4), s13, s14, s15, s16, .val (.ref la), .val (.ref lb), .val (.int ca), .val (.int ca), .val (.int cb)] [])) (fun tT_ kK_ => XS.icmpNo X107.here hx rfl (hb hby at_270) rfl (teq (cb1 hc257_110)).2 kK_) ?_
        refine own_st (A := T107.setTop (mkF mM 274 #[.val (.long nu), .second, .val (.int x2), .val (.int x3), .val (.int x4), .val (.int x5), .val (.int fl), .val (.ref jo), .val (.int fr8), .val (.int b1), .val (.int b2), .val (.int b3), .val (.int b4), s13, s14, s15, s16, .val (.ref la), .val (.ref lb), .val (.int ca), .val (.int ca), .val (.int cb)] [(.int (1 : Int32))])) (fun tT_ kK_ => XS.iconst X107.here hx rfl (hb hby at_273) kK_) ?_
        refine own_st (A := T107.setTop (mkF mM 278 #[.val (.long nu), .second, .val (.int x2), .val (.int x3), .val (.int x4), .val (.int x5), .val (.int fl), .val (.ref jo), .val (.int fr8), .val (.int b1), .val (.int b2), .val (.int b3), .val (.int b4), s13, s14, s15, s16, .val (.ref la), .val (.ref lb), .val (.int ca), .val (.int ca), .val (.int cb)] [(.int (1 : Int32))])) (fun tT_ kK_ => XS.goto X107.here hx rfl (pc0 := 274) (pc' := 278) rfl (hb hby at_274) (by decide) (by decide) kK_) ?_
        exact own_retN X107 hx hlk (t := .boolean) hret (by simp) (hb hby at_278) ⟨rfl, N107⟩ (by decide) (by decide)
    · skip
      refine own_st (A := T107.setTop (mkF mM 238 #[.val (.long nu), .second, .val (.int x2), .val (.int x3), .val (.int x4), .val (.int x5), .val (.int fl), .val (.ref jo), .val (.int fr8), .val (.int b1), .val (.int b2), .val (.int b3), .val (.int b4), s13, s14, s15, s16, .val (.ref la), .val (.ref lb), .val (.int ca), .val (.int ca), .val (.int cb)] [(.int ca)])) (fun tT_ kK_ => XS.ifNo X107.here hx rfl (hb hby at_235) rfl ((if0 _ _).trans (feq hc235_109).1) kK_) ?_
      refine own_st (A := T107.setTop (mkF mM 239 #[.val (.long nu), .second, .val (.int x2), .val (.int x3), .val (.int x4), .val (.int x5), .val (.int fl), .val (.ref jo), .val (.int fr8), .val (.int b1), .val (.int b2), .val (.int b3), .val (.int b4), s13, s14, s15, s16, .val (.ref la), .val (.ref lb), .val (.int ca), .val (.int ca), .val (.int cb)] [(.int (1 : Int32)), (.int ca)])) (fun tT_ kK_ => XS.iconst X107.here hx rfl (hb hby at_238) kK_) ?_
      refine own_st (A := T107.setTop (mkF mM 243 #[.val (.long nu), .second, .val (.int x2), .val (.int x3), .val (.int x4), .val (.int x5), .val (.int fl), .val (.ref jo), .val (.int fr8), .val (.int b1), .val (.int b2), .val (.int b3), .val (.int b4), s13, s14, s15, s16, .val (.ref la), .val (.ref lb), .val (.int ca), .val (.int ca), .val (.int cb)] [(.int (1 : Int32)), (.int ca)])) (fun tT_ kK_ => XS.goto X107.here hx rfl (pc0 := 239) (pc' := 243) rfl (hb hby at_239) (by decide) (by decide) kK_) ?_
      refine own_st (A := T107.setTop (mkF mM 246 #[.val (.long nu), .second, .val (.int x2), .val (.int x3), .val (.int x4), .val (.int x5), .val (.int fl), .val (.ref jo), .val (.int fr8), .val (.int b1), .val (.int b2), .val (.int b3), .val (.int b4), s13, s14, s15, s16, .val (.ref la), .val (.ref lb), .val (.int ca), .val (.int ca), .val (.int cb)] [])) (fun tT_ kK_ => XS.icmpNo X107.here hx rfl (hb hby at_243) rfl (teq (ca2 hc230_108 hc235_109)).2 kK_) ?_
      refine own_st (A := T107.setTop (mkF mM 248 #[.val (.long nu), .second, .val (.int x2), .val (.int x3), .val (.int x4), .val (.int x5), .val (.int fl), .val (.ref jo), .val (.int fr8), .val (.int b1), .val (.int b2), .val (.int b3), .val (.int b4), s13, s14, s15, s16, .val (.ref la), .val (.ref lb), .val (.int ca), .val (.int ca), .val (.int cb)] [(.int ca)])) (fun tT_ kK_ => XS.iload X107.here hx rfl (hb hby at_246) rfl kK_) ?_
      refine own_st (A := T107.setTop (mkF mM 250 #[.val (.long nu), .second, .val (.int x2), .val (.int x3), .val (.int x4), .val (.int x5), .val (.int fl), .val (.ref jo), .val (.int fr8), .val (.int b1), .val (.int b2), .val (.int b3), .val (.int b4), s13, s14, s15, s16, .val (.ref la), .val (.ref lb), .val (.int ca), .val (.int ca), .val (.int cb)] [(.int ca), (.int ca)])) (fun tT_ kK_ => XS.iload X107.here hx rfl (hb hby at_248) rfl kK_) ?_
      refine own_st (A := T107.setTop (mkF mM 253 #[.val (.long nu), .second, .val (.int x2), .val (.int x3), .val (.int x4), .val (.int x5), .val (.int fl), .val (.ref jo), .val (.int fr8), .val (.int b1), .val (.int b2), .val (.int b3), .val (.int b4), s13, s14, s15, s16, .val (.ref la), .val (.ref lb), .val (.int ca), .val (.int ca), .val (.int cb)] [])) (fun tT_ kK_ => XS.icmpNo X107.here hx rfl (hb hby at_250) rfl (teq (rfl : ca = ca)).2 kK_) ?_
      refine own_st (A := T107.setTop (mkF mM 255 #[.val (.long nu), .second, .val (.int x2), .val (.int x3), .val (.int x4), .val (.int x5), .val (.int fl), .val (.ref jo), .val (.int fr8), .val (.int b1), .val (.int b2), .val (.int b3), .val (.int b4), s13, s14, s15, s16, .val (.ref la), .val (.ref lb), .val (.int ca), .val (.int ca), .val (.int cb)] [(.int cb)])) (fun tT_ kK_ => XS.iload X107.here hx rfl (hb hby at_253) rfl kK_) ?_
      refine own_st (A := T107.setTop (mkF mM 257 #[.val (.long nu), .second, .val (.int x2), .val (.int x3), .val (.int x4), .val (.int x5), .val (.int fl), .val (.ref jo), .val (.int fr8), .val (.int b1), .val (.int b2), .val (.int b3), .val (.int b4), s13, s14, s15, s16, .val (.ref la), .val (.ref lb), .val (.int ca), .val (.int ca), .val (.int cb)] [(.int b3), (.int cb)])) (fun tT_ kK_ => XS.iload X107.here hx rfl (hb hby at_255) rfl kK_) ?_
      by_cases hc257_112 : b3 = (0 : Int32)
      · skip
        refine own_st (A := T107.setTop (mkF mM 260 #[.val (.long nu), .second, .val (.int x2), .val (.int x3), .val (.int x4), .val (.int x5), .val (.int fl), .val (.ref jo), .val (.int fr8), .val (.int b1), .val (.int b2), .val (.int b3), .val (.int b4), s13, s14, s15, s16, .val (.ref la), .val (.ref lb), .val (.int ca), .val (.int ca), .val (.int cb)] [(.int cb)])) (fun tT_ kK_ => XS.ifNo X107.here hx rfl (hb hby at_257) rfl ((if0 _ _).trans (teq hc257_112).2) kK_) ?_
        refine own_st (A := T107.setTop (mkF mM 262 #[.val (.long nu), .second, .val (.int x2), .val (.int x3), .val (.int x4), .val (.int x5), .val (.int fl), .val (.ref jo), .val (.int fr8), .val (.int b1), .val (.int b2), .val (.int b3), .val (.int b4), s13, s14, s15, s16, .val (.ref la), .val (.ref lb), .val (.int ca), .val (.int ca), .val (.int cb)] [(.int b4), (.int cb)])) (fun tT_ kK_ => XS.iload X107.here hx rfl (hb hby at_260) rfl kK_) ?_
        by_cases hc262_113 : b4 = (0 : Int32)
        · skip
          refine own_st (A := T107.setTop (mkF mM 269 #[.val (.long nu), .second, .val (.int x2), .val (.int x3), .val (.int x4), .val (.int x5), .val (.int fl), .val (.ref jo), .val (.int fr8), .val (.int b1), .val (.int b2), .val (.int b3), .val (.int b4), s13, s14, s15, s16, .val (.ref la), .val (.ref lb), .val (.int ca), .val (.int ca), .val (.int cb)] [(.int cb)])) (fun tT_ kK_ => XS.ifYes X107.here hx rfl (pc0 := 262) (pc' := 269) rfl (hb hby at_262) rfl ((if0 _ _).trans (teq hc262_113).1) (by decide) (by decide) kK_) ?_
          refine own_st (A := T107.setTop (mkF mM 270 #[.val (.long nu), .second, .val (.int x2), .val (.int x3), .val (.int x4), .val (.int x5), .val (.int fl), .val (.ref jo), .val (.int fr8), .val (.int b1), .val (.int b2), .val (.int b3), .val (.int b4), s13, s14, s15, s16, .val (.ref la), .val (.ref lb), .val (.int ca), .val (.int ca), .val (.int cb)] [(.int (0 : Int32)), (.int cb)])) (fun tT_ kK_ => XS.iconst X107.here hx rfl (hb hby at_269) kK_) ?_
          refine own_st (A := T107.setTop (mkF mM 273 #[.val (.long nu), .second, .val (.int x2), .val (.int x3), .val (.int x4), .val (.int x5), .val (.int fl), .val (.ref jo), .val (.int fr8), .val (.int b1), .val (.int b2), .val (.int b3), .val (.int b4), s13, s14, s15, s16, .val (.ref la), .val (.ref lb), .val (.int ca), .val (.int ca), .val (.int cb)] [])) (fun tT_ kK_ => XS.icmpNo X107.here hx rfl (hb hby at_270) rfl (teq (cb0 hc257_112 hc262_113)).2 kK_) ?_
          refine own_st (A := T107.setTop (mkF mM 274 #[.val (.long nu), .second, .val (.int x2), .val (.int x3), .val (.int x4), .val (.int x5), .val (.int fl), .val (.ref jo), .val (.int fr8), .val (.int b1), .val (.int b2), .val (.int b3), .val (.int b4), s13, s14, s15, s16, .val (.ref la), .val (.ref lb), .val (.int ca), .val (.int ca), .val (.int cb)] [(.int (1 : Int32))])) (fun tT_ kK_ => XS.iconst X107.here hx rfl (hb hby at_273) kK_) ?_
          refine own_st (A := T107.setTop (mkF mM 278 #[.val (.long nu), .second, .val (.int x2), .val (.int x3), .val (.int x4), .val (.int x5), .val (.int fl), .val (.ref jo), .val (.int fr8), .val (.int b1), .val (.int b2), .val (.int b3), .val (.int b4), s13, s14, s15, s16, .val (.ref la), .val (.ref lb), .val (.int ca), .val (.int ca), .val (.int cb)] [(.int (1 : Int32))])) (fun tT_ kK_ => XS.goto X107.here hx rfl (pc0 := 274) (pc' := 278) rfl (hb hby at_274) (by decide) (by decide) kK_) ?_
          exact own_retN X107 hx hlk (t := .boolean) hret (by simp) (hb hby at_278) ⟨rfl, N107⟩ (by decide) (by decide)
        · skip
          refine own_st (A := T107.setTop (mkF mM 265 #[.val (.long nu), .second, .val (.int x2), .val (.int x3), .val (.int x4), .val (.int x5), .val (.int fl), .val (.ref jo), .val (.int fr8), .val (.int b1), .val (.int b2), .val (.int b3), .val (.int b4), s13, s14, s15, s16, .val (.ref la), .val (.ref lb), .val (.int ca), .val (.int ca), .val (.int cb)] [(.int cb)])) (fun tT_ kK_ => XS.ifNo X107.here hx rfl (hb hby at_262) rfl ((if0 _ _).trans (feq hc262_113).1) kK_) ?_
          refine own_st (A := T107.setTop (mkF mM 266 #[.val (.long nu), .second, .val (.int x2), .val (.int x3), .val (.int x4), .val (.int x5), .val (.int fl), .val (.ref jo), .val (.int fr8), .val (.int b1), .val (.int b2), .val (.int b3), .val (.int b4), s13, s14, s15, s16, .val (.ref la), .val (.ref lb), .val (.int ca), .val (.int ca), .val (.int cb)] [(.int (1 : Int32)), (.int cb)])) (fun tT_ kK_ => XS.iconst X107.here hx rfl (hb hby at_265) kK_) ?_
          refine own_st (A := T107.setTop (mkF mM 270 #[.val (.long nu), .second, .val (.int x2), .val (.int x3), .val (.int x4), .val (.int x5), .val (.int fl), .val (.ref jo), .val (.int fr8), .val (.int b1), .val (.int b2), .val (.int b3), .val (.int b4), s13, s14, s15, s16, .val (.ref la), .val (.ref lb), .val (.int ca), .val (.int ca), .val (.int cb)] [(.int (1 : Int32)), (.int cb)])) (fun tT_ kK_ => XS.goto X107.here hx rfl (pc0 := 266) (pc' := 270) rfl (hb hby at_266) (by decide) (by decide) kK_) ?_
          refine own_st (A := T107.setTop (mkF mM 273 #[.val (.long nu), .second, .val (.int x2), .val (.int x3), .val (.int x4), .val (.int x5), .val (.int fl), .val (.ref jo), .val (.int fr8), .val (.int b1), .val (.int b2), .val (.int b3), .val (.int b4), s13, s14, s15, s16, .val (.ref la), .val (.ref lb), .val (.int ca), .val (.int ca), .val (.int cb)] [])) (fun tT_ kK_ => XS.icmpNo X107.here hx rfl (hb hby at_270) rfl (teq (cb2 hc257_112 hc262_113)).2 kK_) ?_
          refine own_st (A := T107.setTop (mkF mM 274 #[.val (.long nu), .second, .val (.int x2), .val (.int x3), .val (.int x4), .val (.int x5), .val (.int fl), .val (.ref jo), .val (.int fr8), .val (.int b1), .val (.int b2), .val (.int b3), .val (.int b4), s13, s14, s15, s16, .val (.ref la), .val (.ref lb), .val (.int ca), .val (.int ca), .val (.int cb)] [(.int (1 : Int32))])) (fun tT_ kK_ => XS.iconst X107.here hx rfl (hb hby at_273) kK_) ?_
          refine own_st (A := T107.setTop (mkF mM 278 #[.val (.long nu), .second, .val (.int x2), .val (.int x3), .val (.int x4), .val (.int x5), .val (.int fl), .val (.ref jo), .val (.int fr8), .val (.int b1), .val (.int b2), .val (.int b3), .val (.int b4), s13, s14, s15, s16, .val (.ref la), .val (.ref lb), .val (.int ca), .val (.int ca), .val (.int cb)] [(.int (1 : Int32))])) (fun tT_ kK_ => XS.goto X107.here hx rfl (pc0 := 274) (pc' := 278) rfl (hb hby at_274) (by decide) (by decide) kK_) ?_
          exact own_retN X107 hx hlk (t := .boolean) hret (by simp) (hb hby at_278) ⟨rfl, N107⟩ (by decide) (by decide)
      · skip
        refine own_st (A := T107.setTop (mkF mM 265 #[.val (.long nu), .second, .val (.int x2), .val (.int x3), .val (.int x4), .val (.int x5), .val (.int fl), .val (.ref jo), .val (.int fr8), .val (.int b1), .val (.int b2), .val (.int b3), .val (.int b4), s13, s14, s15, s16, .val (.ref la), .val (.ref lb), .val (.int ca), .val (.int ca), .val (.int cb)] [(.int cb)])) (fun tT_ kK_ => XS.ifYes X107.here hx rfl (pc0 := 257) (pc' := 265) rfl (hb hby at_257) rfl ((if0 _ _).trans (feq hc257_112).2) (by decide) (by decide) kK_) ?_
        refine own_st (A := T107.setTop (mkF mM 266 #[.val (.long nu), .second, .val (.int x2), .val (.int x3), .val (.int x4), .val (.int x5), .val (.int fl), .val (.ref jo), .val (.int fr8), .val (.int b1), .val (.int b2), .val (.int b3), .val (.int b4), s13, s14, s15, s16, .val (.ref la), .val (.ref lb), .val (.int ca), .val (.int ca), .val (.int cb)] [(.int (1 : Int32)), (.int cb)])) (fun tT_ kK_ => XS.iconst X107.here hx rfl (hb hby at_265) kK_) ?_
        refine own_st (A := T107.setTop (mkF mM 270 #[.val (.long nu), .second, .val (.int x2), .val (.int x3), .val (.int x4), .val (.int x5), .val (.int fl), .val (.ref jo), .val (.int fr8), .val (.int b1), .val (.int b2), .val (.int b3), .val (.int b4), s13, s14, s15, s16, .val (.ref la), .val (.ref lb), .val (.int ca), .val (.int ca), .val (.int cb)] [(.int (1 : Int32)), (.int cb)])) (fun tT_ kK_ => XS.goto X107.here hx rfl (pc0 := 266) (pc' := 270) rfl (hb hby at_266) (by decide) (by decide) kK_) ?_
        refine own_st (A := T107.setTop (mkF mM 273 #[.val (.long nu), .second, .val (.int x2), .val (.int x3), .val (.int x4), .val (.int x5), .val (.int fl), .val (.ref jo), .val (.int fr8), .val (.int b1), .val (.int b2), .val (.int b3), .val (.int b4), s13, s14, s15, s16, .val (.ref la), .val (.ref lb), .val (.int ca), .val (.int ca), .val (.int cb)] [])) (fun tT_ kK_ => XS.icmpNo X107.here hx rfl (hb hby at_270) rfl (teq (cb1 hc257_112)).2 kK_) ?_
        refine own_st (A := T107.setTop (mkF mM 274 #[.val (.long nu), .second, .val (.int x2), .val (.int x3), .val (.int x4), .val (.int x5), .val (.int fl), .val (.ref jo), .val (.int fr8), .val (.int b1), .val (.int b2), .val (.int b3), .val (.int b4), s13, s14, s15, s16, .val (.ref la), .val (.ref lb), .val (.int ca), .val (.int ca), .val (.int cb)] [(.int (1 : Int32))])) (fun tT_ kK_ => XS.iconst X107.here hx rfl (hb hby at_273) kK_) ?_
        refine own_st (A := T107.setTop (mkF mM 278 #[.val (.long nu), .second, .val (.int x2), .val (.int x3), .val (.int x4), .val (.int x5), .val (.int fl), .val (.ref jo), .val (.int fr8), .val (.int b1), .val (.int b2), .val (.int b3), .val (.int b4), s13, s14, s15, s16, .val (.ref la), .val (.ref lb), .val (.int ca), .val (.int ca), .val (.int cb)] [(.int (1 : Int32))])) (fun tT_ kK_ => XS.goto X107.here hx rfl (pc0 := 274) (pc' := 278) rfl (hb hby at_274) (by decide) (by decide) kK_) ?_
        exact own_retN X107 hx hlk (t := .boolean) hret (by simp) (hb hby at_278) ⟨rfl, N107⟩ (by decide) (by decide)
  · skip
    refine own_st (A := T107.setTop (mkF mM 238 #[.val (.long nu), .second, .val (.int x2), .val (.int x3), .val (.int x4), .val (.int x5), .val (.int fl), .val (.ref jo), .val (.int fr8), .val (.int b1), .val (.int b2), .val (.int b3), .val (.int b4), s13, s14, s15, s16, .val (.ref la), .val (.ref lb), .val (.int ca), .val (.int ca), .val (.int cb)] [(.int ca)])) (fun tT_ kK_ => XS.ifYes X107.here hx rfl (pc0 := 230) (pc' := 238) rfl (hb hby at_230) rfl ((if0 _ _).trans (feq hc230_108).2) (by decide) (by decide) kK_) ?_
    refine own_st (A := T107.setTop (mkF mM 239 #[.val (.long nu), .second, .val (.int x2), .val (.int x3), .val (.int x4), .val (.int x5), .val (.int fl), .val (.ref jo), .val (.int fr8), .val (.int b1), .val (.int b2), .val (.int b3), .val (.int b4), s13, s14, s15, s16, .val (.ref la), .val (.ref lb), .val (.int ca), .val (.int ca), .val (.int cb)] [(.int (1 : Int32)), (.int ca)])) (fun tT_ kK_ => XS.iconst X107.here hx rfl (hb hby at_238) kK_) ?_
    refine own_st (A := T107.setTop (mkF mM 243 #[.val (.long nu), .second, .val (.int x2), .val (.int x3), .val (.int x4), .val (.int x5), .val (.int fl), .val (.ref jo), .val (.int fr8), .val (.int b1), .val (.int b2), .val (.int b3), .val (.int b4), s13, s14, s15, s16, .val (.ref la), .val (.ref lb), .val (.int ca), .val (.int ca), .val (.int cb)] [(.int (1 : Int32)), (.int ca)])) (fun tT_ kK_ => XS.goto X107.here hx rfl (pc0 := 239) (pc' := 243) rfl (hb hby at_239) (by decide) (by decide) kK_) ?_
    refine own_st (A := T107.setTop (mkF mM 246 #[.val (.long nu), .second, .val (.int x2), .val (.int x3), .val (.int x4), .val (.int x5), .val (.int fl), .val (.ref jo), .val (.int fr8), .val (.int b1), .val (.int b2), .val (.int b3), .val (.int b4), s13, s14, s15, s16, .val (.ref la), .val (.ref lb), .val (.int ca), .val (.int ca), .val (.int cb)] [])) (fun tT_ kK_ => XS.icmpNo X107.here hx rfl (hb hby at_243) rfl (teq (ca1 hc230_108)).2 kK_) ?_
    refine own_st (A := T107.setTop (mkF mM 248 #[.val (.long nu), .second, .val (.int x2), .val (.int x3), .val (.int x4), .val (.int x5), .val (.int fl), .val (.ref jo), .val (.int fr8), .val (.int b1), .val (.int b2), .val (.int b3), .val (.int b4), s13, s14, s15, s16, .val (.ref la), .val (.ref lb), .val (.int ca), .val (.int ca), .val (.int cb)] [(.int ca)])) (fun tT_ kK_ => XS.iload X107.here hx rfl (hb hby at_246) rfl kK_) ?_
    refine own_st (A := T107.setTop (mkF mM 250 #[.val (.long nu), .second, .val (.int x2), .val (.int x3), .val (.int x4), .val (.int x5), .val (.int fl), .val (.ref jo), .val (.int fr8), .val (.int b1), .val (.int b2), .val (.int b3), .val (.int b4), s13, s14, s15, s16, .val (.ref la), .val (.ref lb), .val (.int ca), .val (.int ca), .val (.int cb)] [(.int ca), (.int ca)])) (fun tT_ kK_ => XS.iload X107.here hx rfl (hb hby at_248) rfl kK_) ?_
    refine own_st (A := T107.setTop (mkF mM 253 #[.val (.long nu), .second, .val (.int x2), .val (.int x3), .val (.int x4), .val (.int x5), .val (.int fl), .val (.ref jo), .val (.int fr8), .val (.int b1), .val (.int b2), .val (.int b3), .val (.int b4), s13, s14, s15, s16, .val (.ref la), .val (.ref lb), .val (.int ca), .val (.int ca), .val (.int cb)] [])) (fun tT_ kK_ => XS.icmpNo X107.here hx rfl (hb hby at_250) rfl (teq (rfl : ca = ca)).2 kK_) ?_
    refine own_st (A := T107.setTop (mkF mM 255 #[.val (.long nu), .second, .val (.int x2), .val (.int x3), .val (.int x4), .val (.int x5), .val (.int fl), .val (.ref jo), .val (.int fr8), .val (.int b1), .val (.int b2), .val (.int b3), .val (.int b4), s13, s14, s15, s16, .val (.ref la), .val (.ref lb), .val (.int ca), .val (.int ca), .val (.int cb)] [(.int cb)])) (fun tT_ kK_ => XS.iload X107.here hx rfl (hb hby at_253) rfl kK_) ?_
    refine own_st (A := T107.setTop (mkF mM 257 #[.val (.long nu), .second, .val (.int x2), .val (.int x3), .val (.int x4), .val (.int x5), .val (.int fl), .val (.ref jo), .val (.int fr8), .val (.int b1), .val (.int b2), .val (.int b3), .val (.int b4), s13, s14, s15, s16, .val (.ref la), .val (.ref lb), .val (.int ca), .val (.int ca), .val (.int cb)] [(.int b3), (.int cb)])) (fun tT_ kK_ => XS.iload X107.here hx rfl (hb hby at_255) rfl kK_) ?_
    by_cases hc257_114 : b3 = (0 : Int32)
    · skip
      refine own_st (A := T107.setTop (mkF mM 260 #[.val (.long nu), .second, .val (.int x2), .val (.int x3), .val (.int x4), .val (.int x5), .val (.int fl), .val (.ref jo), .val (.int fr8), .val (.int b1), .val (.int b2), .val (.int b3), .val (.int b4), s13, s14, s15, s16, .val (.ref la), .val (.ref lb), .val (.int ca), .val (.int ca), .val (.int cb)] [(.int cb)])) (fun tT_ kK_ => XS.ifNo X107.here hx rfl (hb hby at_257) rfl ((if0 _ _).trans (teq hc257_114).2) kK_) ?_
      refine own_st (A := T107.setTop (mkF mM 262 #[.val (.long nu), .second, .val (.int x2), .val (.int x3), .val (.int x4), .val (.int x5), .val (.int fl), .val (.ref jo), .val (.int fr8), .val (.int b1), .val (.int b2), .val (.int b3), .val (.int b4), s13, s14, s15, s16, .val (.ref la), .val (.ref lb), .val (.int ca), .val (.int ca), .val (.int cb)] [(.int b4), (.int cb)])) (fun tT_ kK_ => XS.iload X107.here hx rfl (hb hby at_260) rfl kK_) ?_
      by_cases hc262_115 : b4 = (0 : Int32)
      · skip
        refine own_st (A := T107.setTop (mkF mM 269 #[.val (.long nu), .second, .val (.int x2), .val (.int x3), .val (.int x4), .val (.int x5), .val (.int fl), .val (.ref jo), .val (.int fr8), .val (.int b1), .val (.int b2), .val (.int b3), .val (.int b4), s13, s14, s15, s16, .val (.ref la), .val (.ref lb), .val (.int ca), .val (.int ca), .val (.int cb)] [(.int cb)])) (fun tT_ kK_ => XS.ifYes X107.here hx rfl (pc0 := 262) (pc' := 269) rfl (hb hby at_262) rfl ((if0 _ _).trans (teq hc262_115).1) (by decide) (by decide) kK_) ?_
        refine own_st (A := T107.setTop (mkF mM 270 #[.val (.long nu), .second, .val (.int x2), .val (.int x3), .val (.int x4), .val (.int x5), .val (.int fl), .val (.ref jo), .val (.int fr8), .val (.int b1), .val (.int b2), .val (.int b3), .val (.int b4), s13, s14, s15, s16, .val (.ref la), .val (.ref lb), .val (.int ca), .val (.int ca), .val (.int cb)] [(.int (0 : Int32)), (.int cb)])) (fun tT_ kK_ => XS.iconst X107.here hx rfl (hb hby at_269) kK_) ?_
        refine own_st (A := T107.setTop (mkF mM 273 #[.val (.long nu), .second, .val (.int x2), .val (.int x3), .val (.int x4), .val (.int x5), .val (.int fl), .val (.ref jo), .val (.int fr8), .val (.int b1), .val (.int b2), .val (.int b3), .val (.int b4), s13, s14, s15, s16, .val (.ref la), .val (.ref lb), .val (.int ca), .val (.int ca), .val (.int cb)] [])) (fun tT_ kK_ => XS.icmpNo X107.here hx rfl (hb hby at_270) rfl (teq (cb0 hc257_114 hc262_115)).2 kK_) ?_
        refine own_st (A := T107.setTop (mkF mM 274 #[.val (.long nu), .second, .val (.int x2), .val (.int x3), .val (.int x4), .val (.int x5), .val (.int fl), .val (.ref jo), .val (.int fr8), .val (.int b1), .val (.int b2), .val (.int b3), .val (.int b4), s13, s14, s15, s16, .val (.ref la), .val (.ref lb), .val (.int ca), .val (.int ca), .val (.int cb)] [(.int (1 : Int32))])) (fun tT_ kK_ => XS.iconst X107.here hx rfl (hb hby at_273) kK_) ?_
        refine own_st (A := T107.setTop (mkF mM 278 #[.val (.long nu), .second, .val (.int x2), .val (.int x3), .val (.int x4), .val (.int x5), .val (.int fl), .val (.ref jo), .val (.int fr8), .val (.int b1), .val (.int b2), .val (.int b3), .val (.int b4), s13, s14, s15, s16, .val (.ref la), .val (.ref lb), .val (.int ca), .val (.int ca), .val (.int cb)] [(.int (1 : Int32))])) (fun tT_ kK_ => XS.goto X107.here hx rfl (pc0 := 274) (pc' := 278) rfl (hb hby at_274) (by decide) (by decide) kK_) ?_
        exact own_retN X107 hx hlk (t := .boolean) hret (by simp) (hb hby at_278) ⟨rfl, N107⟩ (by decide) (by decide)
      · skip
        refine own_st (A := T107.setTop (mkF mM 265 #[.val (.long nu), .second, .val (.int x2), .val (.int x3), .val (.int x4), .val (.int x5), .val (.int fl), .val (.ref jo), .val (.int fr8), .val (.int b1), .val (.int b2), .val (.int b3), .val (.int b4), s13, s14, s15, s16, .val (.ref la), .val (.ref lb), .val (.int ca), .val (.int ca), .val (.int cb)] [(.int cb)])) (fun tT_ kK_ => XS.ifNo X107.here hx rfl (hb hby at_262) rfl ((if0 _ _).trans (feq hc262_115).1) kK_) ?_
        refine own_st (A := T107.setTop (mkF mM 266 #[.val (.long nu), .second, .val (.int x2), .val (.int x3), .val (.int x4), .val (.int x5), .val (.int fl), .val (.ref jo), .val (.int fr8), .val (.int b1), .val (.int b2), .val (.int b3), .val (.int b4), s13, s14, s15, s16, .val (.ref la), .val (.ref lb), .val (.int ca), .val (.int ca), .val (.int cb)] [(.int (1 : Int32)), (.int cb)])) (fun tT_ kK_ => XS.iconst X107.here hx rfl (hb hby at_265) kK_) ?_
        refine own_st (A := T107.setTop (mkF mM 270 #[.val (.long nu), .second, .val (.int x2), .val (.int x3), .val (.int x4), .val (.int x5), .val (.int fl), .val (.ref jo), .val (.int fr8), .val (.int b1), .val (.int b2), .val (.int b3), .val (.int b4), s13, s14, s15, s16, .val (.ref la), .val (.ref lb), .val (.int ca), .val (.int ca), .val (.int cb)] [(.int (1 : Int32)), (.int cb)])) (fun tT_ kK_ => XS.goto X107.here hx rfl (pc0 := 266) (pc' := 270) rfl (hb hby at_266) (by decide) (by decide) kK_) ?_
        refine own_st (A := T107.setTop (mkF mM 273 #[.val (.long nu), .second, .val (.int x2), .val (.int x3), .val (.int x4), .val (.int x5), .val (.int fl), .val (.ref jo), .val (.int fr8), .val (.int b1), .val (.int b2), .val (.int b3), .val (.int b4), s13, s14, s15, s16, .val (.ref la), .val (.ref lb), .val (.int ca), .val (.int ca), .val (.int cb)] [])) (fun tT_ kK_ => XS.icmpNo X107.here hx rfl (hb hby at_270) rfl (teq (cb2 hc257_114 hc262_115)).2 kK_) ?_
        refine own_st (A := T107.setTop (mkF mM 274 #[.val (.long nu), .second, .val (.int x2), .val (.int x3), .val (.int x4), .val (.int x5), .val (.int fl), .val (.ref jo), .val (.int fr8), .val (.int b1), .val (.int b2), .val (.int b3), .val (.int b4), s13, s14, s15, s16, .val (.ref la), .val (.ref lb), .val (.int ca), .val (.int ca), .val (.int cb)] [(.int (1 : Int32))])) (fun tT_ kK_ => XS.iconst X107.here hx rfl (hb hby at_273) kK_) ?_
        refine own_st (A := T107.setTop (mkF mM 278 #[.val (.long nu), .second, .val (.int x2), .val (.int x3), .val (.int x4), .val (.int x5), .val (.int fl), .val (.ref jo), .val (.int fr8), .val (.int b1), .val (.int b2), .val (.int b3), .val (.int b4), s13, s14, s15, s16, .val (.ref la), .val (.ref lb), .val (.int ca), .val (.int ca), .val (.int cb)] [(.int (1 : Int32))])) (fun tT_ kK_ => XS.goto X107.here hx rfl (pc0 := 274) (pc' := 278) rfl (hb hby at_274) (by decide) (by decide) kK_) ?_
        exact own_retN X107 hx hlk (t := .boolean) hret (by simp) (hb hby at_278) ⟨rfl, N107⟩ (by decide) (by decide)
    · skip
      refine own_st (A := T107.setTop (mkF mM 265 #[.val (.long nu), .second, .val (.int x2), .val (.int x3), .val (.int x4), .val (.int x5), .val (.int fl), .val (.ref jo), .val (.int fr8), .val (.int b1), .val (.int b2), .val (.int b3), .val (.int b4), s13, s14, s15, s16, .val (.ref la), .val (.ref lb), .val (.int ca), .val (.int ca), .val (.int cb)] [(.int cb)])) (fun tT_ kK_ => XS.ifYes X107.here hx rfl (pc0 := 257) (pc' := 265) rfl (hb hby at_257) rfl ((if0 _ _).trans (feq hc257_114).2) (by decide) (by decide) kK_) ?_
      refine own_st (A := T107.setTop (mkF mM 266 #[.val (.long nu), .second, .val (.int x2), .val (.int x3), .val (.int x4), .val (.int x5), .val (.int fl), .val (.ref jo), .val (.int fr8), .val (.int b1), .val (.int b2), .val (.int b3), .val (.int b4), s13, s14, s15, s16, .val (.ref la), .val (.ref lb), .val (.int ca), .val (.int ca), .val (.int cb)] [(.int (1 : Int32)), (.int cb)])) (fun tT_ kK_ => XS.iconst X107.here hx rfl (hb hby at_265) kK_) ?_
      refine own_st (A := T107.setTop (mkF mM 270 #[.val (.long nu), .second, .val (.int x2), .val (.int x3), .val (.int x4), .val (.int x5), .val (.int fl), .val (.ref jo), .val (.int fr8), .val (.int b1), .val (.int b2), .val (.int b3), .val (.int b4), s13, s14, s15, s16, .val (.ref la), .val (.ref lb), .val (.int ca), .val (.int ca), .val (.int cb)] [(.int (1 : Int32)), (.int cb)])) (fun tT_ kK_ => XS.goto X107.here hx rfl (pc0 := 266) (pc' := 270) rfl (hb hby at_266) (by decide) (by decide) kK_) ?_
      refine own_st (A := T107.setTop (mkF mM 273 #[.val (.long nu), .second, .val (.int x2), .val (.int x3), .val (.int x4), .val (.int x5), .val (.int fl), .val (.ref jo), .val (.int fr8), .val (.int b1), .val (.int b2), .val (.int b3), .val (.int b4), s13, s14, s15, s16, .val (.ref la), .val (.ref lb), .val (.int ca), .val (.int ca), .val (.int cb)] [])) (fun tT_ kK_ => XS.icmpNo X107.here hx rfl (hb hby at_270) rfl (teq (cb1 hc257_114)).2 kK_) ?_
      refine own_st (A := T107.setTop (mkF mM 274 #[.val (.long nu), .second, .val (.int x2), .val (.int x3), .val (.int x4), .val (.int x5), .val (.int fl), .val (.ref jo), .val (.int fr8), .val (.int b1), .val (.int b2), .val (.int b3), .val (.int b4), s13, s14, s15, s16, .val (.ref la), .val (.ref lb), .val (.int ca), .val (.int ca), .val (.int cb)] [(.int (1 : Int32))])) (fun tT_ kK_ => XS.iconst X107.here hx rfl (hb hby at_273) kK_) ?_
      refine own_st (A := T107.setTop (mkF mM 278 #[.val (.long nu), .second, .val (.int x2), .val (.int x3), .val (.int x4), .val (.int x5), .val (.int fl), .val (.ref jo), .val (.int fr8), .val (.int b1), .val (.int b2), .val (.int b3), .val (.int b4), s13, s14, s15, s16, .val (.ref la), .val (.ref lb), .val (.int ca), .val (.int ca), .val (.int cb)] [(.int (1 : Int32))])) (fun tT_ kK_ => XS.goto X107.here hx rfl (pc0 := 274) (pc' := 278) rfl (hb hby at_274) (by decide) (by decide) kK_) ?_
      exact own_retN X107 hx hlk (t := .boolean) hret (by simp) (hb hby at_278) ⟨rfl, N107⟩ (by decide) (by decide)
theorem pd__28Ljava_2flang_2fInteger_3bLjava_2flang_2fInteger_3b_29Lcom_2fexample_2fgleanwork_2fgleanwork_2fserver_2fOwnLimits_3b : parseMethodDescriptor "(Ljava/lang/Integer;Ljava/lang/Integer;)Lcom/example/gleanwork/gleanwork/server/OwnLimits;" = some ⟨[(.object "java/lang/Integer"), (.object "java/lang/Integer")], some (.object "com/example/gleanwork/gleanwork/server/OwnLimits")⟩ := by decide +kernel
set_option maxRecDepth 65536 in
set_option maxHeartbeats 40000000 in
theorem J172 {pP : Program} {lL : Launch} {eE : Env} {sS : State} {mM : MethodId} {args : Array Value} {below : List Frame} {meth : Method} {cC : Code} {T0 : State} {locs : List Loc} {Z : State} {a0 : Array Value} {h0 : Heap} {n0 : Nat} (hw : ∀ d ∈ tables_1, d.before a0 Z = true) (X0 : Stand pP lL eE room_1 sS mM args below meth cC T0 locs 8 25) (hx : pP.tables.exec = Jvm.exec) (hZ : Z.Warmed39 sS.vm) (hby : cC.code = code) (hml : cC.maxLocals = 22) (hown : sS.vm.findClass "com/example/gleanwork/gleanwork/server/JobLimitedPinLaw" = some mM.cls) (hlk : meth.locks = false) (hret : meth.sig.returnType = ret) (e0 : T0.heap = h0) (N0 : Fr n0 locs) (nu : Int64) (x2 : Int32) (x3 : Int32) (x4 : Int32) (x5 : Int32) (fl : Int32) (jo : Addr) (fr8 : Int32) (b1 : Int32) (b2 : Int32) (b3 : Int32) (b4 : Int32) (s13 : Slot) (s14 : Slot) (w3 : Value) (w4 : Value) (hr3 : w3.isRef = true) (hr4 : w4.isRef = true) (la : Addr) (em : Addr) (ca : Addr) (cc : Cell) (r : Int32) (f : Int32) (i1 : Int32) (j1 : Int32) (Zn : n0 ≤ h0.size) (O : Old Z n0 h0) (S_e : Sta Z Z.heap "java/util/OptionalInt" "EMPTY" "Ljava/util/OptionalInt;" (.ref em)) (oe : Opt Z Z.heap em 0 0) (S_h : Sta Z Z.heap "java/lang/Integer$IntegerCache" "high" "I" (.int 127)) (S_c : Sta Z Z.heap "java/lang/Integer$IntegerCache" "cache" "[Ljava/lang/Integer;" (.ref ca)) (BX : Bxs Z ca cc "java/lang/Integer" "I" 256 (fun j => .int (j - 128))) (g_jo : n0 ≤ jo) (jb : Jb Z h0 jo r f) (hf8 : fr8 = 1) (d1 : (b1 = 0 ∨ b1 = 1)) (d2 : (b2 = 0 ∨ b2 = 1)) (d3 : (b3 = 0 ∨ b3 = 1)) (d4 : (b4 = 0 ∨ b4 = 1)) (lma : Lim Z h0 la b1 i1 b2 j1) (ma1 : ¬ b1 = 0 → ¬ i1 < 0) (ma2 : ¬ b2 = 0 → ¬ j1 < 1) (bx3 : Bx Z h0 b3 w3 0) (bx4 : Bx Z h0 b4 w4 1) :
    own_Go pP eE below sS (QLaw n0) 40 192 (T0.setTop (mkF mM 172 #[.val (.long nu), .second, .val (.int x2), .val (.int x3), .val (.int x4), .val (.int x5), .val (.int fl), .val (.ref jo), .val (.int fr8), .val (.int b1), .val (.int b2), .val (.int b3), .val (.int b4), s13, s14, .val w3, .val w4, .unset, .unset, .unset, .unset, .unset] [(.ref la)])) := by
  refine own_st (A := T0.setTop (mkF mM 174 #[.val (.long nu), .second, .val (.int x2), .val (.int x3), .val (.int x4), .val (.int x5), .val (.int fl), .val (.ref jo), .val (.int fr8), .val (.int b1), .val (.int b2), .val (.int b3), .val (.int b4), s13, s14, .val w3, .val w4, .val (.ref la), .unset, .unset, .unset, .unset] [])) (fun tT_ kK_ => XS.astore X0.here hx rfl (hb hby at_172) rfl rfl (l' := #[.val (.long nu), .second, .val (.int x2), .val (.int x3), .val (.int x4), .val (.int x5), .val (.int fl), .val (.ref jo), .val (.int fr8), .val (.int b1), .val (.int b2), .val (.int b3), .val (.int b4), s13, s14, .val w3, .val w4, .val (.ref la), .unset, .unset, .unset, .unset]) rfl kK_) ?_
  rcases bx3 with ⟨z3, rfl⟩ | ⟨z3, a3, i3, rfl, ob3, l3⟩
  · skip
    rcases bx4 with ⟨z4, rfl⟩ | ⟨z4, a4, i4, rfl, ob4, l4⟩
    · skip
      refine own_st (A := T0.setTop (mkF mM 176 #[.val (.long nu), .second, .val (.int x2), .val (.int x3), .val (.int x4), .val (.int x5), .val (.int fl), .val (.ref jo), .val (.int fr8), .val (.int b1), .val (.int b2), .val (.int b3), .val (.int b4), s13, s14, .val .null, .val .null, .val (.ref la), .unset, .unset, .unset, .unset] [.null])) (fun tT_ kK_ => XS.aload X0.here hx rfl (hb hby at_174) rfl rfl kK_) ?_
      refine own_st (A := T0.setTop (mkF mM 178 #[.val (.long nu), .second, .val (.int x2), .val (.int x3), .val (.int x4), .val (.int x5), .val (.int fl), .val (.ref jo), .val (.int fr8), .val (.int b1), .val (.int b2), .val (.int b3), .val (.int b4), s13, s14, .val .null, .val .null, .val (.ref la), .unset, .unset, .unset, .unset] [.null, .null])) (fun tT_ kK_ => XS.aload X0.here hx rfl (hb hby at_176) rfl rfl kK_) ?_
      obtain ⟨_, _, ⟨T116, L116, k116, n116⟩, -, X116, ⟨Lc116, hQ116, l116, y116, z116⟩, st116⟩ := Jvm.LawKit.callS X0 hx (y := (⟨"com/example/gleanwork/gleanwork/server/OwnLimits", "requested", "(Ljava/lang/Integer;Ljava/lang/Integer;)Lcom/example/gleanwork/gleanwork/server/OwnLimits;"⟩ : MethodName)) hown (mvT hZ (hw _ (List.mem_of_getElem? (i := 32) rfl))) (mvT hZ (hw _ (List.mem_of_getElem? (i := 33) rfl))) (mvT hZ (hw _ (List.mem_of_getElem? (i := 34) rfl))) (mvT hZ (hw _ (List.mem_of_getElem? (i := 35) rfl))) (by decide) (backOf (W := 0) (rmReq00 lL Z a0 hw [] em h0 n0 Zn O S_e oe) hZ (hw _ (List.mem_of_getElem? (i := 35) rfl)) (hw _ (List.mem_of_getElem? (i := 34) rfl)) (by decide) (by decide)) (g := (mkF mM 178 #[.val (.long nu), .second, .val (.int x2), .val (.int x3), .val (.int x4), .val (.int x5), .val (.int fl), .val (.ref jo), .val (.int fr8), .val (.int b1), .val (.int b2), .val (.int b3), .val (.int b4), s13, s14, .val .null, .val .null, .val (.ref la), .unset, .unset, .unset, .unset] [.null, .null])) rfl (by rw [hml]; rfl) (argsL := [.null, .null]) (rest := []) (lenOf pd__28Ljava_2flang_2fInteger_3bLjava_2flang_2fInteger_3b_29Lcom_2fexample_2fgleanwork_2fgleanwork_2fserver_2fOwnLimits_3b rfl) rfl (by show 2 * 0 + _ ≤ _; exact Nat.le_of_eq rfl) (hb hby at_178) (fun _ _ => ⟨rfl, e0, (by decide : 8 + 3 ≤ _), (by decide : 25 + 6 ≤ _)⟩)
      dsimp only [Pt.U, Pt.locs, Pt.cells, Pt.slots] at X116 l116 y116 z116 st116 hQ116
      subst l116 y116 z116
      obtain ⟨b116, i116, j116, rfl, N116q, E116, lm116, m1161, m1162⟩ := hQ116
      have N116 := Fr.app N0 N116q
      have e116 : T116.heap = T116.heap := rfl
      refine own_st (A := T116.setTop (mkF mM 181 #[.val (.long nu), .second, .val (.int x2), .val (.int x3), .val (.int x4), .val (.int x5), .val (.int fl), .val (.ref jo), .val (.int fr8), .val (.int b1), .val (.int b2), .val (.int b3), .val (.int b4), s13, s14, .val .null, .val .null, .val (.ref la), .unset, .unset, .unset, .unset] [(.ref b116)])) (fun tT_ kK_ => st116 tT_ kK_) ?_
      have lma := own_Lim_ext lma E116
      have O := O.ext E116
      have Zn := Nat.le_trans Zn E116.1
      have jb := own_Jb_ext jb E116
      refine own_st (A := T116.setTop (mkF mM 183 #[.val (.long nu), .second, .val (.int x2), .val (.int x3), .val (.int x4), .val (.int x5), .val (.int fl), .val (.ref jo), .val (.int fr8), .val (.int b1), .val (.int b2), .val (.int b3), .val (.int b4), s13, s14, .val .null, .val .null, .val (.ref la), .val (.ref b116), .unset, .unset, .unset] [])) (fun tT_ kK_ => XS.astore X116.here hx rfl (hb hby at_181) rfl rfl (l' := #[.val (.long nu), .second, .val (.int x2), .val (.int x3), .val (.int x4), .val (.int x5), .val (.int fl), .val (.ref jo), .val (.int fr8), .val (.int b1), .val (.int b2), .val (.int b3), .val (.int b4), s13, s14, .val .null, .val .null, .val (.ref la), .val (.ref b116), .unset, .unset, .unset]) rfl kK_) ?_
      exact J181 hw (X116.more (by decide) (by decide)) hx hZ hby hml hown hlk hret e116 N116 nu x2 x3 x4 x5 fl jo fr8 b1 b2 b3 b4 s13 s14 _ _ la b116 em ca cc r f i1 j1 _ _ Zn O S_e oe S_h S_c BX g_jo jb hf8 d1 d2 d3 d4 lma ma1 ma2 (by rw [z3, z4]; exact lm116) (by rw [z3]; exact m1161) (by rw [z4]; exact m1162)
    · skip
      refine own_st (A := T0.setTop (mkF mM 176 #[.val (.long nu), .second, .val (.int x2), .val (.int x3), .val (.int x4), .val (.int x5), .val (.int fl), .val (.ref jo), .val (.int fr8), .val (.int b1), .val (.int b2), .val (.int b3), .val (.int b4), s13, s14, .val .null, .val (.ref a4), .val (.ref la), .unset, .unset, .unset, .unset] [.null])) (fun tT_ kK_ => XS.aload X0.here hx rfl (hb hby at_174) rfl rfl kK_) ?_
      refine own_st (A := T0.setTop (mkF mM 178 #[.val (.long nu), .second, .val (.int x2), .val (.int x3), .val (.int x4), .val (.int x5), .val (.int fl), .val (.ref jo), .val (.int fr8), .val (.int b1), .val (.int b2), .val (.int b3), .val (.int b4), s13, s14, .val .null, .val (.ref a4), .val (.ref la), .unset, .unset, .unset, .unset] [(.ref a4), .null])) (fun tT_ kK_ => XS.aload X0.here hx rfl (hb hby at_176) rfl rfl kK_) ?_
      obtain ⟨_, _, ⟨T117, L117, k117, n117⟩, -, X117, ⟨Lc117, hQ117, l117, y117, z117⟩, st117⟩ := Jvm.LawKit.callS X0 hx (y := (⟨"com/example/gleanwork/gleanwork/server/OwnLimits", "requested", "(Ljava/lang/Integer;Ljava/lang/Integer;)Lcom/example/gleanwork/gleanwork/server/OwnLimits;"⟩ : MethodName)) hown (mvT hZ (hw _ (List.mem_of_getElem? (i := 32) rfl))) (mvT hZ (hw _ (List.mem_of_getElem? (i := 33) rfl))) (mvT hZ (hw _ (List.mem_of_getElem? (i := 34) rfl))) (mvT hZ (hw _ (List.mem_of_getElem? (i := 35) rfl))) (by decide) (backOf (W := 0) (rmReq01 lL Z a0 hw [] em a4 i4 h0 n0 Zn O S_e oe ob4 l4) hZ (hw _ (List.mem_of_getElem? (i := 35) rfl)) (hw _ (List.mem_of_getElem? (i := 34) rfl)) (by decide) (by decide)) (g := (mkF mM 178 #[.val (.long nu), .second, .val (.int x2), .val (.int x3), .val (.int x4), .val (.int x5), .val (.int fl), .val (.ref jo), .val (.int fr8), .val (.int b1), .val (.int b2), .val (.int b3), .val (.int b4), s13, s14, .val .null, .val (.ref a4), .val (.ref la), .unset, .unset, .unset, .unset] [(.ref a4), .null])) rfl (by rw [hml]; rfl) (argsL := [.null, (.ref a4)]) (rest := []) (lenOf pd__28Ljava_2flang_2fInteger_3bLjava_2flang_2fInteger_3b_29Lcom_2fexample_2fgleanwork_2fgleanwork_2fserver_2fOwnLimits_3b rfl) rfl (by show 2 * 0 + _ ≤ _; exact Nat.le_of_eq rfl) (hb hby at_178) (fun _ _ => ⟨rfl, e0, (by decide : 8 + 3 ≤ _), (by decide : 25 + 6 ≤ _)⟩)
      dsimp only [Pt.U, Pt.locs, Pt.cells, Pt.slots] at X117 l117 y117 z117 st117 hQ117
      subst l117 y117 z117
      obtain ⟨b117, i117, j117, rfl, N117q, E117, lm117, m1171, m1172⟩ := hQ117
      have N117 := Fr.app N0 N117q
      have e117 : T117.heap = T117.heap := rfl
      refine own_st (A := T117.setTop (mkF mM 181 #[.val (.long nu), .second, .val (.int x2), .val (.int x3), .val (.int x4), .val (.int x5), .val (.int fl), .val (.ref jo), .val (.int fr8), .val (.int b1), .val (.int b2), .val (.int b3), .val (.int b4), s13, s14, .val .null, .val (.ref a4), .val (.ref la), .unset, .unset, .unset, .unset] [(.ref b117)])) (fun tT_ kK_ => st117 tT_ kK_) ?_
      have lma := own_Lim_ext lma E117
      have O := O.ext E117
      have Zn := Nat.le_trans Zn E117.1
      have jb := own_Jb_ext jb E117
      refine own_st (A := T117.setTop (mkF mM 183 #[.val (.long nu), .second, .val (.int x2), .val (.int x3), .val (.int x4), .val (.int x5), .val (.int fl), .val (.ref jo), .val (.int fr8), .val (.int b1), .val (.int b2), .val (.int b3), .val (.int b4), s13, s14, .val .null, .val (.ref a4), .val (.ref la), .val (.ref b117), .unset, .unset, .unset] [])) (fun tT_ kK_ => XS.astore X117.here hx rfl (hb hby at_181) rfl rfl (l' := #[.val (.long nu), .second, .val (.int x2), .val (.int x3), .val (.int x4), .val (.int x5), .val (.int fl), .val (.ref jo), .val (.int fr8), .val (.int b1), .val (.int b2), .val (.int b3), .val (.int b4), s13, s14, .val .null, .val (.ref a4), .val (.ref la), .val (.ref b117), .unset, .unset, .unset]) rfl kK_) ?_
      exact J181 hw (X117.more (by decide) (by decide)) hx hZ hby hml hown hlk hret e117 N117 nu x2 x3 x4 x5 fl jo fr8 b1 b2 b3 b4 s13 s14 _ _ la b117 em ca cc r f i1 j1 _ _ Zn O S_e oe S_h S_c BX g_jo jb hf8 d1 d2 d3 d4 lma ma1 ma2 (by rw [z3, z4]; exact lm117) (by rw [z3]; exact m1171) (by rw [z4]; exact m1172)
  · skip
    rcases bx4 with ⟨z4, rfl⟩ | ⟨z4, a4, i4, rfl, ob4, l4⟩
    · skip
      refine own_st (A := T0.setTop (mkF mM 176 #[.val (.long nu), .second, .val (.int x2), .val (.int x3), .val (.int x4), .val (.int x5), .val (.int fl), .val (.ref jo), .val (.int fr8), .val (.int b1), .val (.int b2), .val (.int b3), .val (.int b4), s13, s14, .val (.ref a3), .val .null, .val (.ref la), .unset, .unset, .unset, .unset] [(.ref a3)])) (fun tT_ kK_ => XS.aload X0.here hx rfl (hb hby at_174) rfl rfl kK_) ?_
      refine own_st (A := T0.setTop (mkF mM 178 #[.val (.long nu), .second, .val (.int x2), .val (.int x3), .val (.int x4), .val (.int x5), .val (.int fl), .val (.ref jo), .val (.int fr8), .val (.int b1), .val (.int b2), .val (.int b3), .val (.int b4), s13, s14, .val (.ref a3), .val .null, .val (.ref la), .unset, .unset, .unset, .unset] [.null, (.ref a3)])) (fun tT_ kK_ => XS.aload X0.here hx rfl (hb hby at_176) rfl rfl kK_) ?_
      obtain ⟨_, _, ⟨T118, L118, k118, n118⟩, -, X118, ⟨Lc118, hQ118, l118, y118, z118⟩, st118⟩ := Jvm.LawKit.callS X0 hx (y := (⟨"com/example/gleanwork/gleanwork/server/OwnLimits", "requested", "(Ljava/lang/Integer;Ljava/lang/Integer;)Lcom/example/gleanwork/gleanwork/server/OwnLimits;"⟩ : MethodName)) hown (mvT hZ (hw _ (List.mem_of_getElem? (i := 32) rfl))) (mvT hZ (hw _ (List.mem_of_getElem? (i := 33) rfl))) (mvT hZ (hw _ (List.mem_of_getElem? (i := 34) rfl))) (mvT hZ (hw _ (List.mem_of_getElem? (i := 35) rfl))) (by decide) (backOf (W := 0) (rmReq10 lL Z a0 hw [] em a3 i3 h0 n0 Zn O S_e oe ob3 l3) hZ (hw _ (List.mem_of_getElem? (i := 35) rfl)) (hw _ (List.mem_of_getElem? (i := 34) rfl)) (by decide) (by decide)) (g := (mkF mM 178 #[.val (.long nu), .second, .val (.int x2), .val (.int x3), .val (.int x4), .val (.int x5), .val (.int fl), .val (.ref jo), .val (.int fr8), .val (.int b1), .val (.int b2), .val (.int b3), .val (.int b4), s13, s14, .val (.ref a3), .val .null, .val (.ref la), .unset, .unset, .unset, .unset] [.null, (.ref a3)])) rfl (by rw [hml]; rfl) (argsL := [(.ref a3), .null]) (rest := []) (lenOf pd__28Ljava_2flang_2fInteger_3bLjava_2flang_2fInteger_3b_29Lcom_2fexample_2fgleanwork_2fgleanwork_2fserver_2fOwnLimits_3b rfl) rfl (by show 2 * 0 + _ ≤ _; exact Nat.le_of_eq rfl) (hb hby at_178) (fun _ _ => ⟨rfl, e0, (by decide : 8 + 3 ≤ _), (by decide : 25 + 6 ≤ _)⟩)
      dsimp only [Pt.U, Pt.locs, Pt.cells, Pt.slots] at X118 l118 y118 z118 st118 hQ118
      subst l118 y118 z118
      obtain ⟨b118, i118, j118, rfl, N118q, E118, lm118, m1181, m1182⟩ := hQ118
      have N118 := Fr.app N0 N118q
      have e118 : T118.heap = T118.heap := rfl
      refine own_st (A := T118.setTop (mkF mM 181 #[.val (.long nu), .second, .val (.int x2), .val (.int x3), .val (.int x4), .val (.int x5), .val (.int fl), .val (.ref jo), .val (.int fr8), .val (.int b1), .val (.int b2), .val (.int b3), .val (.int b4), s13, s14, .val (.ref a3), .val .null, .val (.ref la), .unset, .unset, .unset, .unset] [(.ref b118)])) (fun tT_ kK_ => st118 tT_ kK_) ?_
      have lma := own_Lim_ext lma E118
      have O := O.ext E118
      have Zn := Nat.le_trans Zn E118.1
      have jb := own_Jb_ext jb E118
      refine own_st (A := T118.setTop (mkF mM 183 #[.val (.long nu), .second, .val (.int x2), .val (.int x3), .val (.int x4), .val (.int x5), .val (.int fl), .val (.ref jo), .val (.int fr8), .val (.int b1), .val (.int b2), .val (.int b3), .val (.int b4), s13, s14, .val (.ref a3), .val .null, .val (.ref la), .val (.ref b118), .unset, .unset, .unset] [])) (fun tT_ kK_ => XS.astore X118.here hx rfl (hb hby at_181) rfl rfl (l' := #[.val (.long nu), .second, .val (.int x2), .val (.int x3), .val (.int x4), .val (.int x5), .val (.int fl), .val (.ref jo), .val (.int fr8), .val (.int b1), .val (.int b2), .val (.int b3), .val (.int b4), s13, s14, .val (.ref a3), .val .null, .val (.ref la), .val (.ref b118), .unset, .unset, .unset]) rfl kK_) ?_
      exact J181 hw (X118.more (by decide) (by decide)) hx hZ hby hml hown hlk hret e118 N118 nu x2 x3 x4 x5 fl jo fr8 b1 b2 b3 b4 s13 s14 _ _ la b118 em ca cc r f i1 j1 _ _ Zn O S_e oe S_h S_c BX g_jo jb hf8 d1 d2 d3 d4 lma ma1 ma2 (by rw [z3, z4]; exact lm118) (by rw [z3]; exact m1181) (by rw [z4]; exact m1182)
    · skip
      refine own_st (A := T0.setTop (mkF mM 176 #[.val (.long nu), .second, .val (.int x2), .val (.int x3), .val (.int x4), .val (.int x5), .val (.int fl), .val (.ref jo), .val (.int fr8), .val (.int b1), .val (.int b2), .val (.int b3), .val (.int b4), s13, s14, .val (.ref a3), .val (.ref a4), .val (.ref la), .unset, .unset, .unset, .unset] [(.ref a3)])) (fun tT_ kK_ => XS.aload X0.here hx rfl (hb hby at_174) rfl rfl kK_) ?_
      refine own_st (A := T0.setTop (mkF mM 178 #[.val (.long nu), .second, .val (.int x2), .val (.int x3), .val (.int x4), .val (.int x5), .val (.int fl), .val (.ref jo), .val (.int fr8), .val (.int b1), .val (.int b2), .val (.int b3), .val (.int b4), s13, s14, .val (.ref a3), .val (.ref a4), .val (.ref la), .unset, .unset, .unset, .unset] [(.ref a4), (.ref a3)])) (fun tT_ kK_ => XS.aload X0.here hx rfl (hb hby at_176) rfl rfl kK_) ?_
      obtain ⟨_, _, ⟨T119, L119, k119, n119⟩, -, X119, ⟨Lc119, hQ119, l119, y119, z119⟩, st119⟩ := Jvm.LawKit.callS X0 hx (y := (⟨"com/example/gleanwork/gleanwork/server/OwnLimits", "requested", "(Ljava/lang/Integer;Ljava/lang/Integer;)Lcom/example/gleanwork/gleanwork/server/OwnLimits;"⟩ : MethodName)) hown (mvT hZ (hw _ (List.mem_of_getElem? (i := 32) rfl))) (mvT hZ (hw _ (List.mem_of_getElem? (i := 33) rfl))) (mvT hZ (hw _ (List.mem_of_getElem? (i := 34) rfl))) (mvT hZ (hw _ (List.mem_of_getElem? (i := 35) rfl))) (by decide) (backOf (W := 0) (rmReq11 lL Z a0 hw [] em a3 i3 a4 i4 h0 n0 Zn O S_e oe ob3 l3 ob4 l4) hZ (hw _ (List.mem_of_getElem? (i := 35) rfl)) (hw _ (List.mem_of_getElem? (i := 34) rfl)) (by decide) (by decide)) (g := (mkF mM 178 #[.val (.long nu), .second, .val (.int x2), .val (.int x3), .val (.int x4), .val (.int x5), .val (.int fl), .val (.ref jo), .val (.int fr8), .val (.int b1), .val (.int b2), .val (.int b3), .val (.int b4), s13, s14, .val (.ref a3), .val (.ref a4), .val (.ref la), .unset, .unset, .unset, .unset] [(.ref a4), (.ref a3)])) rfl (by rw [hml]; rfl) (argsL := [(.ref a3), (.ref a4)]) (rest := []) (lenOf pd__28Ljava_2flang_2fInteger_3bLjava_2flang_2fInteger_3b_29Lcom_2fexample_2fgleanwork_2fgleanwork_2fserver_2fOwnLimits_3b rfl) rfl (by show 2 * 0 + _ ≤ _; exact Nat.le_of_eq rfl) (hb hby at_178) (fun _ _ => ⟨rfl, e0, (by decide : 8 + 3 ≤ _), (by decide : 25 + 6 ≤ _)⟩)
      dsimp only [Pt.U, Pt.locs, Pt.cells, Pt.slots] at X119 l119 y119 z119 st119 hQ119
      subst l119 y119 z119
      obtain ⟨b119, i119, j119, rfl, N119q, E119, lm119, m1191, m1192⟩ := hQ119
      have N119 := Fr.app N0 N119q
      have e119 : T119.heap = T119.heap := rfl
      refine own_st (A := T119.setTop (mkF mM 181 #[.val (.long nu), .second, .val (.int x2), .val (.int x3), .val (.int x4), .val (.int x5), .val (.int fl), .val (.ref jo), .val (.int fr8), .val (.int b1), .val (.int b2), .val (.int b3), .val (.int b4), s13, s14, .val (.ref a3), .val (.ref a4), .val (.ref la), .unset, .unset, .unset, .unset] [(.ref b119)])) (fun tT_ kK_ => st119 tT_ kK_) ?_
      have lma := own_Lim_ext lma E119
      have O := O.ext E119
      have Zn := Nat.le_trans Zn E119.1
      have jb := own_Jb_ext jb E119
      refine own_st (A := T119.setTop (mkF mM 183 #[.val (.long nu), .second, .val (.int x2), .val (.int x3), .val (.int x4), .val (.int x5), .val (.int fl), .val (.ref jo), .val (.int fr8), .val (.int b1), .val (.int b2), .val (.int b3), .val (.int b4), s13, s14, .val (.ref a3), .val (.ref a4), .val (.ref la), .val (.ref b119), .unset, .unset, .unset] [])) (fun tT_ kK_ => XS.astore X119.here hx rfl (hb hby at_181) rfl rfl (l' := #[.val (.long nu), .second, .val (.int x2), .val (.int x3), .val (.int x4), .val (.int x5), .val (.int fl), .val (.ref jo), .val (.int fr8), .val (.int b1), .val (.int b2), .val (.int b3), .val (.int b4), s13, s14, .val (.ref a3), .val (.ref a4), .val (.ref la), .val (.ref b119), .unset, .unset, .unset]) rfl kK_) ?_
      exact J181 hw (X119.more (by decide) (by decide)) hx hZ hby hml hown hlk hret e119 N119 nu x2 x3 x4 x5 fl jo fr8 b1 b2 b3 b4 s13 s14 _ _ la b119 em ca cc r f i1 j1 _ _ Zn O S_e oe S_h S_c BX g_jo jb hf8 d1 d2 d3 d4 lma ma1 ma2 (by rw [z3, z4]; exact lm119) (by rw [z3]; exact m1191) (by rw [z4]; exact m1192)
set_option maxRecDepth 65536 in
set_option maxHeartbeats 40000000 in
theorem J163 {pP : Program} {lL : Launch} {eE : Env} {sS : State} {mM : MethodId} {args : Array Value} {below : List Frame} {meth : Method} {cC : Code} {T0 : State} {locs : List Loc} {Z : State} {a0 : Array Value} {h0 : Heap} {n0 : Nat} (hw : ∀ d ∈ tables_1, d.before a0 Z = true) (X0 : Stand pP lL eE room_1 sS mM args below meth cC T0 locs 5 19) (hx : pP.tables.exec = Jvm.exec) (hZ : Z.Warmed39 sS.vm) (hby : cC.code = code) (hml : cC.maxLocals = 22) (hown : sS.vm.findClass "com/example/gleanwork/gleanwork/server/JobLimitedPinLaw" = some mM.cls) (hlk : meth.locks = false) (hret : meth.sig.returnType = ret) (e0 : T0.heap = h0) (N0 : Fr n0 locs) (nu : Int64) (x2 : Int32) (x3 : Int32) (x4 : Int32) (x5 : Int32) (fl : Int32) (jo : Addr) (fr8 : Int32) (b1 : Int32) (b2 : Int32) (b3 : Int32) (b4 : Int32) (w1 : Value) (w2 : Value) (w3 : Value) (w4 : Value) (hr1 : w1.isRef = true) (hr2 : w2.isRef = true) (hr3 : w3.isRef = true) (hr4 : w4.isRef = true) (em : Addr) (ca : Addr) (cc : Cell) (r : Int32) (f : Int32) (Zn : n0 ≤ h0.size) (O : Old Z n0 h0) (S_e : Sta Z Z.heap "java/util/OptionalInt" "EMPTY" "Ljava/util/OptionalInt;" (.ref em)) (oe : Opt Z Z.heap em 0 0) (S_h : Sta Z Z.heap "java/lang/Integer$IntegerCache" "high" "I" (.int 127)) (S_c : Sta Z Z.heap "java/lang/Integer$IntegerCache" "cache" "[Ljava/lang/Integer;" (.ref ca)) (BX : Bxs Z ca cc "java/lang/Integer" "I" 256 (fun j => .int (j - 128))) (g_jo : n0 ≤ jo) (jb : Jb Z h0 jo r f) (hf8 : fr8 = 1) (d1 : (b1 = 0 ∨ b1 = 1)) (d2 : (b2 = 0 ∨ b2 = 1)) (d3 : (b3 = 0 ∨ b3 = 1)) (d4 : (b4 = 0 ∨ b4 = 1)) (bx1 : Bx Z h0 b1 w1 0) (bx2 : Bx Z h0 b2 w2 1) (bx3 : Bx Z h0 b3 w3 0) (bx4 : Bx Z h0 b4 w4 1) :
    own_Go pP eE below sS (QLaw n0) 40 192 (T0.setTop (mkF mM 163 #[.val (.long nu), .second, .val (.int x2), .val (.int x3), .val (.int x4), .val (.int x5), .val (.int fl), .val (.ref jo), .val (.int fr8), .val (.int b1), .val (.int b2), .val (.int b3), .val (.int b4), .val w1, .val w2, .val w3, .unset, .unset, .unset, .unset, .unset, .unset] [w4])) := by
  refine own_st (A := T0.setTop (mkF mM 165 #[.val (.long nu), .second, .val (.int x2), .val (.int x3), .val (.int x4), .val (.int x5), .val (.int fl), .val (.ref jo), .val (.int fr8), .val (.int b1), .val (.int b2), .val (.int b3), .val (.int b4), .val w1, .val w2, .val w3, .val w4, .unset, .unset, .unset, .unset, .unset] [])) (fun tT_ kK_ => XS.astore X0.here hx rfl (hb hby at_163) rfl hr4 (l' := #[.val (.long nu), .second, .val (.int x2), .val (.int x3), .val (.int x4), .val (.int x5), .val (.int fl), .val (.ref jo), .val (.int fr8), .val (.int b1), .val (.int b2), .val (.int b3), .val (.int b4), .val w1, .val w2, .val w3, .val w4, .unset, .unset, .unset, .unset, .unset]) (by rcases ref_cases hr4 with hq | ⟨aq, hq⟩ <;> subst hq <;> rfl) kK_) ?_
  rcases bx1 with ⟨z1, rfl⟩ | ⟨z1, a1, i1, rfl, ob1, l1⟩
  · skip
    rcases bx2 with ⟨z2, rfl⟩ | ⟨z2, a2, i2, rfl, ob2, l2⟩
    · skip
      refine own_st (A := T0.setTop (mkF mM 167 #[.val (.long nu), .second, .val (.int x2), .val (.int x3), .val (.int x4), .val (.int x5), .val (.int fl), .val (.ref jo), .val (.int fr8), .val (.int b1), .val (.int b2), .val (.int b3), .val (.int b4), .val .null, .val .null, .val w3, .val w4, .unset, .unset, .unset, .unset, .unset] [.null])) (fun tT_ kK_ => XS.aload X0.here hx rfl (hb hby at_165) rfl rfl kK_) ?_
      refine own_st (A := T0.setTop (mkF mM 169 #[.val (.long nu), .second, .val (.int x2), .val (.int x3), .val (.int x4), .val (.int x5), .val (.int fl), .val (.ref jo), .val (.int fr8), .val (.int b1), .val (.int b2), .val (.int b3), .val (.int b4), .val .null, .val .null, .val w3, .val w4, .unset, .unset, .unset, .unset, .unset] [.null, .null])) (fun tT_ kK_ => XS.aload X0.here hx rfl (hb hby at_167) rfl rfl kK_) ?_
      obtain ⟨_, _, ⟨T120, L120, k120, n120⟩, -, X120, ⟨Lc120, hQ120, l120, y120, z120⟩, st120⟩ := Jvm.LawKit.callS X0 hx (y := (⟨"com/example/gleanwork/gleanwork/server/OwnLimits", "requested", "(Ljava/lang/Integer;Ljava/lang/Integer;)Lcom/example/gleanwork/gleanwork/server/OwnLimits;"⟩ : MethodName)) hown (mvT hZ (hw _ (List.mem_of_getElem? (i := 32) rfl))) (mvT hZ (hw _ (List.mem_of_getElem? (i := 33) rfl))) (mvT hZ (hw _ (List.mem_of_getElem? (i := 34) rfl))) (mvT hZ (hw _ (List.mem_of_getElem? (i := 35) rfl))) (by decide) (backOf (W := 0) (rmReq00 lL Z a0 hw [] em h0 n0 Zn O S_e oe) hZ (hw _ (List.mem_of_getElem? (i := 35) rfl)) (hw _ (List.mem_of_getElem? (i := 34) rfl)) (by decide) (by decide)) (g := (mkF mM 169 #[.val (.long nu), .second, .val (.int x2), .val (.int x3), .val (.int x4), .val (.int x5), .val (.int fl), .val (.ref jo), .val (.int fr8), .val (.int b1), .val (.int b2), .val (.int b3), .val (.int b4), .val .null, .val .null, .val w3, .val w4, .unset, .unset, .unset, .unset, .unset] [.null, .null])) rfl (by rw [hml]; rfl) (argsL := [.null, .null]) (rest := []) (lenOf pd__28Ljava_2flang_2fInteger_3bLjava_2flang_2fInteger_3b_29Lcom_2fexample_2fgleanwork_2fgleanwork_2fserver_2fOwnLimits_3b rfl) rfl (by show 2 * 0 + _ ≤ _; exact Nat.le_of_eq rfl) (hb hby at_169) (fun _ _ => ⟨rfl, e0, (by decide : 5 + 3 ≤ _), (by decide : 19 + 6 ≤ _)⟩)
      dsimp only [Pt.U, Pt.locs, Pt.cells, Pt.slots] at X120 l120 y120 z120 st120 hQ120
      subst l120 y120 z120
      obtain ⟨b120, i120, j120, rfl, N120q, E120, lm120, m1201, m1202⟩ := hQ120
      have N120 := Fr.app N0 N120q
      have e120 : T120.heap = T120.heap := rfl
      refine own_st (A := T120.setTop (mkF mM 172 #[.val (.long nu), .second, .val (.int x2), .val (.int x3), .val (.int x4), .val (.int x5), .val (.int fl), .val (.ref jo), .val (.int fr8), .val (.int b1), .val (.int b2), .val (.int b3), .val (.int b4), .val .null, .val .null, .val w3, .val w4, .unset, .unset, .unset, .unset, .unset] [(.ref b120)])) (fun tT_ kK_ => st120 tT_ kK_) ?_
      have bx3 := own_Bx_ext bx3 E120
      have bx4 := own_Bx_ext bx4 E120
      have O := O.ext E120
      have Zn := Nat.le_trans Zn E120.1
      have jb := own_Jb_ext jb E120
      exact J172 hw (X120.more (by decide) (by decide)) hx hZ hby hml hown hlk hret e120 N120 nu x2 x3 x4 x5 fl jo fr8 b1 b2 b3 b4 _ _ w3 w4 hr3 hr4 b120 em ca cc r f _ _ Zn O S_e oe S_h S_c BX g_jo jb hf8 d1 d2 d3 d4 (by rw [z1, z2]; exact lm120) (by rw [z1]; exact m1201) (by rw [z2]; exact m1202) bx3 bx4
    · skip
      refine own_st (A := T0.setTop (mkF mM 167 #[.val (.long nu), .second, .val (.int x2), .val (.int x3), .val (.int x4), .val (.int x5), .val (.int fl), .val (.ref jo), .val (.int fr8), .val (.int b1), .val (.int b2), .val (.int b3), .val (.int b4), .val .null, .val (.ref a2), .val w3, .val w4, .unset, .unset, .unset, .unset, .unset] [.null])) (fun tT_ kK_ => XS.aload X0.here hx rfl (hb hby at_165) rfl rfl kK_) ?_
      refine own_st (A := T0.setTop (mkF mM 169 #[.val (.long nu), .second, .val (.int x2), .val (.int x3), .val (.int x4), .val (.int x5), .val (.int fl), .val (.ref jo), .val (.int fr8), .val (.int b1), .val (.int b2), .val (.int b3), .val (.int b4), .val .null, .val (.ref a2), .val w3, .val w4, .unset, .unset, .unset, .unset, .unset] [(.ref a2), .null])) (fun tT_ kK_ => XS.aload X0.here hx rfl (hb hby at_167) rfl rfl kK_) ?_
      obtain ⟨_, _, ⟨T121, L121, k121, n121⟩, -, X121, ⟨Lc121, hQ121, l121, y121, z121⟩, st121⟩ := Jvm.LawKit.callS X0 hx (y := (⟨"com/example/gleanwork/gleanwork/server/OwnLimits", "requested", "(Ljava/lang/Integer;Ljava/lang/Integer;)Lcom/example/gleanwork/gleanwork/server/OwnLimits;"⟩ : MethodName)) hown (mvT hZ (hw _ (List.mem_of_getElem? (i := 32) rfl))) (mvT hZ (hw _ (List.mem_of_getElem? (i := 33) rfl))) (mvT hZ (hw _ (List.mem_of_getElem? (i := 34) rfl))) (mvT hZ (hw _ (List.mem_of_getElem? (i := 35) rfl))) (by decide) (backOf (W := 0) (rmReq01 lL Z a0 hw [] em a2 i2 h0 n0 Zn O S_e oe ob2 l2) hZ (hw _ (List.mem_of_getElem? (i := 35) rfl)) (hw _ (List.mem_of_getElem? (i := 34) rfl)) (by decide) (by decide)) (g := (mkF mM 169 #[.val (.long nu), .second, .val (.int x2), .val (.int x3), .val (.int x4), .val (.int x5), .val (.int fl), .val (.ref jo), .val (.int fr8), .val (.int b1), .val (.int b2), .val (.int b3), .val (.int b4), .val .null, .val (.ref a2), .val w3, .val w4, .unset, .unset, .unset, .unset, .unset] [(.ref a2), .null])) rfl (by rw [hml]; rfl) (argsL := [.null, (.ref a2)]) (rest := []) (lenOf pd__28Ljava_2flang_2fInteger_3bLjava_2flang_2fInteger_3b_29Lcom_2fexample_2fgleanwork_2fgleanwork_2fserver_2fOwnLimits_3b rfl) rfl (by show 2 * 0 + _ ≤ _; exact Nat.le_of_eq rfl) (hb hby at_169) (fun _ _ => ⟨rfl, e0, (by decide : 5 + 3 ≤ _), (by decide : 19 + 6 ≤ _)⟩)
      dsimp only [Pt.U, Pt.locs, Pt.cells, Pt.slots] at X121 l121 y121 z121 st121 hQ121
      subst l121 y121 z121
      obtain ⟨b121, i121, j121, rfl, N121q, E121, lm121, m1211, m1212⟩ := hQ121
      have N121 := Fr.app N0 N121q
      have e121 : T121.heap = T121.heap := rfl
      refine own_st (A := T121.setTop (mkF mM 172 #[.val (.long nu), .second, .val (.int x2), .val (.int x3), .val (.int x4), .val (.int x5), .val (.int fl), .val (.ref jo), .val (.int fr8), .val (.int b1), .val (.int b2), .val (.int b3), .val (.int b4), .val .null, .val (.ref a2), .val w3, .val w4, .unset, .unset, .unset, .unset, .unset] [(.ref b121)])) (fun tT_ kK_ => st121 tT_ kK_) ?_
      have bx3 := own_Bx_ext bx3 E121
      have bx4 := own_Bx_ext bx4 E121
      have O := O.ext E121
      have Zn := Nat.le_trans Zn E121.1
      have jb := own_Jb_ext jb E121
      exact J172 hw (X121.more (by decide) (by decide)) hx hZ hby hml hown hlk hret e121 N121 nu x2 x3 x4 x5 fl jo fr8 b1 b2 b3 b4 _ _ w3 w4 hr3 hr4 b121 em ca cc r f _ _ Zn O S_e oe S_h S_c BX g_jo jb hf8 d1 d2 d3 d4 (by rw [z1, z2]; exact lm121) (by rw [z1]; exact m1211) (by rw [z2]; exact m1212) bx3 bx4
  · skip
    rcases bx2 with ⟨z2, rfl⟩ | ⟨z2, a2, i2, rfl, ob2, l2⟩
    · skip
      refine own_st (A := T0.setTop (mkF mM 167 #[.val (.long nu), .second, .val (.int x2), .val (.int x3), .val (.int x4), .val (.int x5), .val (.int fl), .val (.ref jo), .val (.int fr8), .val (.int b1), .val (.int b2), .val (.int b3), .val (.int b4), .val (.ref a1), .val .null, .val w3, .val w4, .unset, .unset, .unset, .unset, .unset] [(.ref a1)])) (fun tT_ kK_ => XS.aload X0.here hx rfl (hb hby at_165) rfl rfl kK_) ?_
      refine own_st (A := T0.setTop (mkF mM 169 #[.val (.long nu), .second, .val (.int x2), .val (.int x3), .val (.int x4), .val (.int x5), .val (.int fl), .val (.ref jo), .val (.int fr8), .val (.int b1), .val (.int b2), .val (.int b3), .val (.int b4), .val (.ref a1), .val .null, .val w3, .val w4, .unset, .unset, .unset, .unset, .unset] [.null, (.ref a1)])) (fun tT_ kK_ => XS.aload X0.here hx rfl (hb hby at_167) rfl rfl kK_) ?_
      obtain ⟨_, _, ⟨T122, L122, k122, n122⟩, -, X122, ⟨Lc122, hQ122, l122, y122, z122⟩, st122⟩ := Jvm.LawKit.callS X0 hx (y := (⟨"com/example/gleanwork/gleanwork/server/OwnLimits", "requested", "(Ljava/lang/Integer;Ljava/lang/Integer;)Lcom/example/gleanwork/gleanwork/server/OwnLimits;"⟩ : MethodName)) hown (mvT hZ (hw _ (List.mem_of_getElem? (i := 32) rfl))) (mvT hZ (hw _ (List.mem_of_getElem? (i := 33) rfl))) (mvT hZ (hw _ (List.mem_of_getElem? (i := 34) rfl))) (mvT hZ (hw _ (List.mem_of_getElem? (i := 35) rfl))) (by decide) (backOf (W := 0) (rmReq10 lL Z a0 hw [] em a1 i1 h0 n0 Zn O S_e oe ob1 l1) hZ (hw _ (List.mem_of_getElem? (i := 35) rfl)) (hw _ (List.mem_of_getElem? (i := 34) rfl)) (by decide) (by decide)) (g := (mkF mM 169 #[.val (.long nu), .second, .val (.int x2), .val (.int x3), .val (.int x4), .val (.int x5), .val (.int fl), .val (.ref jo), .val (.int fr8), .val (.int b1), .val (.int b2), .val (.int b3), .val (.int b4), .val (.ref a1), .val .null, .val w3, .val w4, .unset, .unset, .unset, .unset, .unset] [.null, (.ref a1)])) rfl (by rw [hml]; rfl) (argsL := [(.ref a1), .null]) (rest := []) (lenOf pd__28Ljava_2flang_2fInteger_3bLjava_2flang_2fInteger_3b_29Lcom_2fexample_2fgleanwork_2fgleanwork_2fserver_2fOwnLimits_3b rfl) rfl (by show 2 * 0 + _ ≤ _; exact Nat.le_of_eq rfl) (hb hby at_169) (fun _ _ => ⟨rfl, e0, (by decide : 5 + 3 ≤ _), (by decide : 19 + 6 ≤ _)⟩)
      dsimp only [Pt.U, Pt.locs, Pt.cells, Pt.slots] at X122 l122 y122 z122 st122 hQ122
      subst l122 y122 z122
      obtain ⟨b122, i122, j122, rfl, N122q, E122, lm122, m1221, m1222⟩ := hQ122
      have N122 := Fr.app N0 N122q
      have e122 : T122.heap = T122.heap := rfl
      refine own_st (A := T122.setTop (mkF mM 172 #[.val (.long nu), .second, .val (.int x2), .val (.int x3), .val (.int x4), .val (.int x5), .val (.int fl), .val (.ref jo), .val (.int fr8), .val (.int b1), .val (.int b2), .val (.int b3), .val (.int b4), .val (.ref a1), .val .null, .val w3, .val w4, .unset, .unset, .unset, .unset, .unset] [(.ref b122)])) (fun tT_ kK_ => st122 tT_ kK_) ?_
      have bx3 := own_Bx_ext bx3 E122
      have bx4 := own_Bx_ext bx4 E122
      have O := O.ext E122
      have Zn := Nat.le_trans Zn E122.1
      have jb := own_Jb_ext jb E122
      exact J172 hw (X122.more (by decide) (by decide)) hx hZ hby hml hown hlk hret e122 N122 nu x2 x3 x4 x5 fl jo fr8 b1 b2 b3 b4 _ _ w3 w4 hr3 hr4 b122 em ca cc r f _ _ Zn O S_e oe S_h S_c BX g_jo jb hf8 d1 d2 d3 d4 (by rw [z1, z2]; exact lm122) (by rw [z1]; exact m1221) (by rw [z2]; exact m1222) bx3 bx4
    · skip
      refine own_st (A := T0.setTop (mkF mM 167 #[.val (.long nu), .second, .val (.int x2), .val (.int x3), .val (.int x4), .val (.int x5), .val (.int fl), .val (.ref jo), .val (.int fr8), .val (.int b1), .val (.int b2), .val (.int b3), .val (.int b4), .val (.ref a1), .val (.ref a2), .val w3, .val w4, .unset, .unset, .unset, .unset, .unset] [(.ref a1)])) (fun tT_ kK_ => XS.aload X0.here hx rfl (hb hby at_165) rfl rfl kK_) ?_
      refine own_st (A := T0.setTop (mkF mM 169 #[.val (.long nu), .second, .val (.int x2), .val (.int x3), .val (.int x4), .val (.int x5), .val (.int fl), .val (.ref jo), .val (.int fr8), .val (.int b1), .val (.int b2), .val (.int b3), .val (.int b4), .val (.ref a1), .val (.ref a2), .val w3, .val w4, .unset, .unset, .unset, .unset, .unset] [(.ref a2), (.ref a1)])) (fun tT_ kK_ => XS.aload X0.here hx rfl (hb hby at_167) rfl rfl kK_) ?_
      obtain ⟨_, _, ⟨T123, L123, k123, n123⟩, -, X123, ⟨Lc123, hQ123, l123, y123, z123⟩, st123⟩ := Jvm.LawKit.callS X0 hx (y := (⟨"com/example/gleanwork/gleanwork/server/OwnLimits", "requested", "(Ljava/lang/Integer;Ljava/lang/Integer;)Lcom/example/gleanwork/gleanwork/server/OwnLimits;"⟩ : MethodName)) hown (mvT hZ (hw _ (List.mem_of_getElem? (i := 32) rfl))) (mvT hZ (hw _ (List.mem_of_getElem? (i := 33) rfl))) (mvT hZ (hw _ (List.mem_of_getElem? (i := 34) rfl))) (mvT hZ (hw _ (List.mem_of_getElem? (i := 35) rfl))) (by decide) (backOf (W := 0) (rmReq11 lL Z a0 hw [] em a1 i1 a2 i2 h0 n0 Zn O S_e oe ob1 l1 ob2 l2) hZ (hw _ (List.mem_of_getElem? (i := 35) rfl)) (hw _ (List.mem_of_getElem? (i := 34) rfl)) (by decide) (by decide)) (g := (mkF mM 169 #[.val (.long nu), .second, .val (.int x2), .val (.int x3), .val (.int x4), .val (.int x5), .val (.int fl), .val (.ref jo), .val (.int fr8), .val (.int b1), .val (.int b2), .val (.int b3), .val (.int b4), .val (.ref a1), .val (.ref a2), .val w3, .val w4, .unset, .unset, .unset, .unset, .unset] [(.ref a2), (.ref a1)])) rfl (by rw [hml]; rfl) (argsL := [(.ref a1), (.ref a2)]) (rest := []) (lenOf pd__28Ljava_2flang_2fInteger_3bLjava_2flang_2fInteger_3b_29Lcom_2fexample_2fgleanwork_2fgleanwork_2fserver_2fOwnLimits_3b rfl) rfl (by show 2 * 0 + _ ≤ _; exact Nat.le_of_eq rfl) (hb hby at_169) (fun _ _ => ⟨rfl, e0, (by decide : 5 + 3 ≤ _), (by decide : 19 + 6 ≤ _)⟩)
      dsimp only [Pt.U, Pt.locs, Pt.cells, Pt.slots] at X123 l123 y123 z123 st123 hQ123
      subst l123 y123 z123
      obtain ⟨b123, i123, j123, rfl, N123q, E123, lm123, m1231, m1232⟩ := hQ123
      have N123 := Fr.app N0 N123q
      have e123 : T123.heap = T123.heap := rfl
      refine own_st (A := T123.setTop (mkF mM 172 #[.val (.long nu), .second, .val (.int x2), .val (.int x3), .val (.int x4), .val (.int x5), .val (.int fl), .val (.ref jo), .val (.int fr8), .val (.int b1), .val (.int b2), .val (.int b3), .val (.int b4), .val (.ref a1), .val (.ref a2), .val w3, .val w4, .unset, .unset, .unset, .unset, .unset] [(.ref b123)])) (fun tT_ kK_ => st123 tT_ kK_) ?_
      have bx3 := own_Bx_ext bx3 E123
      have bx4 := own_Bx_ext bx4 E123
      have O := O.ext E123
      have Zn := Nat.le_trans Zn E123.1
      have jb := own_Jb_ext jb E123
      exact J172 hw (X123.more (by decide) (by decide)) hx hZ hby hml hown hlk hret e123 N123 nu x2 x3 x4 x5 fl jo fr8 b1 b2 b3 b4 _ _ w3 w4 hr3 hr4 b123 em ca cc r f _ _ Zn O S_e oe S_h S_c BX g_jo jb hf8 d1 d2 d3 d4 (by rw [z1, z2]; exact lm123) (by rw [z1]; exact m1231) (by rw [z2]; exact m1232) bx3 bx4
theorem own_nn (x : Int32) : ¬ (x &&& (2147483647 : Int32)) < 0 := by
  have a := c_and x (2147483647 : Int32) (by decide)
  rw [Int32.lt_iff_toInt_lt]
  have e4 : (0 : Int32).toInt = 0 := by decide
  omega
theorem pd__28II_29I : parseMethodDescriptor "(II)I" = some ⟨[.int, .int], some .int⟩ := by decide +kernel
theorem pd__28I_29Ljava_2flang_2fInteger_3b : parseMethodDescriptor "(I)Ljava/lang/Integer;" = some ⟨[.int], some (.object "java/lang/Integer")⟩ := by decide +kernel
set_option maxRecDepth 65536 in
set_option maxHeartbeats 40000000 in
theorem J140 {pP : Program} {lL : Launch} {eE : Env} {sS : State} {mM : MethodId} {args : Array Value} {below : List Frame} {meth : Method} {cC : Code} {T0 : State} {locs : List Loc} {Z : State} {a0 : Array Value} {h0 : Heap} {n0 : Nat} (hw : ∀ d ∈ tables_1, d.before a0 Z = true) (X0 : Stand pP lL eE room_1 sS mM args below meth cC T0 locs 4 18) (hx : pP.tables.exec = Jvm.exec) (hZ : Z.Warmed39 sS.vm) (hby : cC.code = code) (hml : cC.maxLocals = 22) (hown : sS.vm.findClass "com/example/gleanwork/gleanwork/server/JobLimitedPinLaw" = some mM.cls) (hlk : meth.locks = false) (hret : meth.sig.returnType = ret) (e0 : T0.heap = h0) (N0 : Fr n0 locs) (nu : Int64) (x2 : Int32) (x3 : Int32) (x4 : Int32) (x5 : Int32) (fl : Int32) (jo : Addr) (fr8 : Int32) (b1 : Int32) (b2 : Int32) (b3 : Int32) (b4 : Int32) (w1 : Value) (w2 : Value) (w3 : Value) (hr1 : w1.isRef = true) (hr2 : w2.isRef = true) (hr3 : w3.isRef = true) (em : Addr) (ca : Addr) (cc : Cell) (r : Int32) (f : Int32) (Zn : n0 ≤ h0.size) (O : Old Z n0 h0) (S_e : Sta Z Z.heap "java/util/OptionalInt" "EMPTY" "Ljava/util/OptionalInt;" (.ref em)) (oe : Opt Z Z.heap em 0 0) (S_h : Sta Z Z.heap "java/lang/Integer$IntegerCache" "high" "I" (.int 127)) (S_c : Sta Z Z.heap "java/lang/Integer$IntegerCache" "cache" "[Ljava/lang/Integer;" (.ref ca)) (BX : Bxs Z ca cc "java/lang/Integer" "I" 256 (fun j => .int (j - 128))) (g_jo : n0 ≤ jo) (jb : Jb Z h0 jo r f) (hf8 : fr8 = 1) (d1 : (b1 = 0 ∨ b1 = 1)) (d2 : (b2 = 0 ∨ b2 = 1)) (d3 : (b3 = 0 ∨ b3 = 1)) (d4 : (b4 = 0 ∨ b4 = 1)) (bx1 : Bx Z h0 b1 w1 0) (bx2 : Bx Z h0 b2 w2 1) (bx3 : Bx Z h0 b3 w3 0) :
    own_Go pP eE below sS (QLaw n0) 40 192 (T0.setTop (mkF mM 140 #[.val (.long nu), .second, .val (.int x2), .val (.int x3), .val (.int x4), .val (.int x5), .val (.int fl), .val (.ref jo), .val (.int fr8), .val (.int b1), .val (.int b2), .val (.int b3), .val (.int b4), .val w1, .val w2, .unset, .unset, .unset, .unset, .unset, .unset, .unset] [w3])) := by
  refine own_st (A := T0.setTop (mkF mM 142 #[.val (.long nu), .second, .val (.int x2), .val (.int x3), .val (.int x4), .val (.int x5), .val (.int fl), .val (.ref jo), .val (.int fr8), .val (.int b1), .val (.int b2), .val (.int b3), .val (.int b4), .val w1, .val w2, .val w3, .unset, .unset, .unset, .unset, .unset, .unset] [])) (fun tT_ kK_ => XS.astore X0.here hx rfl (hb hby at_140) rfl hr3 (l' := #[.val (.long nu), .second, .val (.int x2), .val (.int x3), .val (.int x4), .val (.int x5), .val (.int fl), .val (.ref jo), .val (.int fr8), .val (.int b1), .val (.int b2), .val (.int b3), .val (.int b4), .val w1, .val w2, .val w3, .unset, .unset, .unset, .unset, .unset, .unset]) (by rcases ref_cases hr3 with hq | ⟨aq, hq⟩ <;> subst hq <;> rfl) kK_) ?_
  refine own_st (A := T0.setTop (mkF mM 144 #[.val (.long nu), .second, .val (.int x2), .val (.int x3), .val (.int x4), .val (.int x5), .val (.int fl), .val (.ref jo), .val (.int fr8), .val (.int b1), .val (.int b2), .val (.int b3), .val (.int b4), .val w1, .val w2, .val w3, .unset, .unset, .unset, .unset, .unset, .unset] [(.int b4)])) (fun tT_ kK_ => XS.iload X0.here hx rfl (hb hby at_142) rfl kK_) ?_
  by_cases hc144_124 : b4 = (0 : Int32)
  · skip
    refine own_st (A := T0.setTop (mkF mM 162 #[.val (.long nu), .second, .val (.int x2), .val (.int x3), .val (.int x4), .val (.int x5), .val (.int fl), .val (.ref jo), .val (.int fr8), .val (.int b1), .val (.int b2), .val (.int b3), .val (.int b4), .val w1, .val w2, .val w3, .unset, .unset, .unset, .unset, .unset, .unset] [])) (fun tT_ kK_ => XS.ifYes X0.here hx rfl (pc0 := 144) (pc' := 162) rfl (hb hby at_144) rfl ((if0 _ _).trans (teq hc144_124).1) (by decide) (by decide) kK_) ?_
    refine own_st (A := T0.setTop (mkF mM 163 #[.val (.long nu), .second, .val (.int x2), .val (.int x3), .val (.int x4), .val (.int x5), .val (.int fl), .val (.ref jo), .val (.int fr8), .val (.int b1), .val (.int b2), .val (.int b3), .val (.int b4), .val w1, .val w2, .val w3, .unset, .unset, .unset, .unset, .unset, .unset] [.null])) (fun tT_ kK_ => XS.aconstNull X0.here hx rfl (hb hby at_162) kK_) ?_
    exact J163 hw (X0.more (by decide) (by decide)) hx hZ hby hml hown hlk hret e0 N0 nu x2 x3 x4 x5 fl jo fr8 b1 b2 b3 b4 w1 w2 w3 .null hr1 hr2 hr3 rfl em ca cc r f Zn O S_e oe S_h S_c BX g_jo jb hf8 d1 d2 d3 d4 bx1 bx2 bx3 (Or.inl ⟨hc144_124, rfl⟩)
  · skip
    refine own_st (A := T0.setTop (mkF mM 147 #[.val (.long nu), .second, .val (.int x2), .val (.int x3), .val (.int x4), .val (.int x5), .val (.int fl), .val (.ref jo), .val (.int fr8), .val (.int b1), .val (.int b2), .val (.int b3), .val (.int b4), .val w1, .val w2, .val w3, .unset, .unset, .unset, .unset, .unset, .unset] [])) (fun tT_ kK_ => XS.ifNo X0.here hx rfl (hb hby at_144) rfl ((if0 _ _).trans (feq hc144_124).1) kK_) ?_
    refine own_st (A := T0.setTop (mkF mM 148 #[.val (.long nu), .second, .val (.int x2), .val (.int x3), .val (.int x4), .val (.int x5), .val (.int fl), .val (.ref jo), .val (.int fr8), .val (.int b1), .val (.int b2), .val (.int b3), .val (.int b4), .val w1, .val w2, .val w3, .unset, .unset, .unset, .unset, .unset, .unset] [(.int (1 : Int32))])) (fun tT_ kK_ => XS.iconst X0.here hx rfl (hb hby at_147) kK_) ?_
    refine own_st (A := T0.setTop (mkF mM 150 #[.val (.long nu), .second, .val (.int x2), .val (.int x3), .val (.int x4), .val (.int x5), .val (.int fl), .val (.ref jo), .val (.int fr8), .val (.int b1), .val (.int b2), .val (.int b3), .val (.int b4), .val w1, .val w2, .val w3, .unset, .unset, .unset, .unset, .unset, .unset] [(.int x5), (.int (1 : Int32))])) (fun tT_ kK_ => XS.iload X0.here hx rfl (hb hby at_148) rfl kK_) ?_
    refine own_st (A := T0.setTop (mkF mM 152 #[.val (.long nu), .second, .val (.int x2), .val (.int x3), .val (.int x4), .val (.int x5), .val (.int fl), .val (.ref jo), .val (.int fr8), .val (.int b1), .val (.int b2), .val (.int b3), .val (.int b4), .val w1, .val w2, .val w3, .unset, .unset, .unset, .unset, .unset, .unset] [(.int (2147483647 : Int32)), (.int x5), (.int (1 : Int32))])) (fun tT_ kK_ => X0.ldcInt hx hown (mvT hZ (hw _ (List.mem_of_getElem? (i := 99) rfl))) (g := (mkF mM 150 #[.val (.long nu), .second, .val (.int x2), .val (.int x3), .val (.int x4), .val (.int x5), .val (.int fl), .val (.ref jo), .val (.int fr8), .val (.int b1), .val (.int b2), .val (.int b3), .val (.int b4), .val w1, .val w2, .val w3, .unset, .unset, .unset, .unset, .unset, .unset] [(.int x5), (.int (1 : Int32))])) rfl (hb hby at_150) tT_ kK_) ?_
    refine own_st (A := T0.setTop (mkF mM 153 #[.val (.long nu), .second, .val (.int x2), .val (.int x3), .val (.int x4), .val (.int x5), .val (.int fl), .val (.ref jo), .val (.int fr8), .val (.int b1), .val (.int b2), .val (.int b3), .val (.int b4), .val w1, .val w2, .val w3, .unset, .unset, .unset, .unset, .unset, .unset] [(.int (x5 &&& (2147483647 : Int32))), (.int (1 : Int32))])) (fun tT_ kK_ => XS.iand X0.here hx rfl (hb hby at_152) rfl kK_) ?_
    obtain ⟨_, _, ⟨T125, L125, k125, n125⟩, -, X125, ⟨Lc125, hQ125, l125, y125, z125⟩, st125⟩ := Jvm.LawKit.callS X0 hx (y := (⟨"java/lang/Math", "max", "(II)I"⟩ : MethodName)) hown (mvT hZ (hw _ (List.mem_of_getElem? (i := 107) rfl))) (mvT hZ (hw _ (List.mem_of_getElem? (i := 108) rfl))) (mvT hZ (hw _ (List.mem_of_getElem? (i := 109) rfl))) (mvT hZ (hw _ (List.mem_of_getElem? (i := 110) rfl))) (by decide) (backOf (W := 0) (rmMax lL Z a0 hw [] (x5 &&& (2147483647 : Int32)) h0 n0 ) hZ (hw _ (List.mem_of_getElem? (i := 110) rfl)) (hw _ (List.mem_of_getElem? (i := 109) rfl)) (by decide) (by decide)) (g := (mkF mM 153 #[.val (.long nu), .second, .val (.int x2), .val (.int x3), .val (.int x4), .val (.int x5), .val (.int fl), .val (.ref jo), .val (.int fr8), .val (.int b1), .val (.int b2), .val (.int b3), .val (.int b4), .val w1, .val w2, .val w3, .unset, .unset, .unset, .unset, .unset, .unset] [(.int (x5 &&& (2147483647 : Int32))), (.int (1 : Int32))])) rfl (by rw [hml]; rfl) (argsL := [(.int (1 : Int32)), (.int (x5 &&& (2147483647 : Int32)))]) (rest := []) (lenOf pd__28II_29I rfl) rfl (by show 2 * 0 + _ ≤ _; exact Nat.le_of_eq rfl) (hb hby at_153) (fun _ _ => ⟨rfl, e0, (by decide : 4 + 0 ≤ _), (by decide : 18 + 0 ≤ _)⟩)
    dsimp only [Pt.U, Pt.locs, Pt.cells, Pt.slots] at X125 l125 y125 z125 st125 hQ125
    subst l125 y125 z125
    obtain ⟨r125, rfl, N125q, e125, g125⟩ := hQ125
    have N125 := Fr.app N0 N125q
    refine own_st (A := T125.setTop (mkF mM 156 #[.val (.long nu), .second, .val (.int x2), .val (.int x3), .val (.int x4), .val (.int x5), .val (.int fl), .val (.ref jo), .val (.int fr8), .val (.int b1), .val (.int b2), .val (.int b3), .val (.int b4), .val w1, .val w2, .val w3, .unset, .unset, .unset, .unset, .unset, .unset] [(.int r125)])) (fun tT_ kK_ => st125 tT_ kK_) ?_
    obtain ⟨_, _, ⟨T126, L126, k126, n126⟩, -, X126, ⟨Lc126, hQ126, l126, y126, z126⟩, st126⟩ := Jvm.LawKit.callS X125 hx (y := (⟨"java/lang/Integer", "valueOf", "(I)Ljava/lang/Integer;"⟩ : MethodName)) hown (mvT hZ (hw _ (List.mem_of_getElem? (i := 100) rfl))) (mvT hZ (hw _ (List.mem_of_getElem? (i := 101) rfl))) (mvT hZ (hw _ (List.mem_of_getElem? (i := 102) rfl))) (mvT hZ (hw _ (List.mem_of_getElem? (i := 103) rfl))) (by decide) (backOf (W := 0) (rmVal lL Z a0 hw [] r125 ca cc h0 n0 O Zn S_h S_c BX) hZ (hw _ (List.mem_of_getElem? (i := 103) rfl)) (hw _ (List.mem_of_getElem? (i := 102) rfl)) (by decide) (by decide)) (g := (mkF mM 156 #[.val (.long nu), .second, .val (.int x2), .val (.int x3), .val (.int x4), .val (.int x5), .val (.int fl), .val (.ref jo), .val (.int fr8), .val (.int b1), .val (.int b2), .val (.int b3), .val (.int b4), .val w1, .val w2, .val w3, .unset, .unset, .unset, .unset, .unset, .unset] [(.int r125)])) rfl (by rw [hml]; rfl) (argsL := [(.int r125)]) (rest := []) (lenOf pd__28I_29Ljava_2flang_2fInteger_3b rfl) rfl (by show 2 * 0 + _ ≤ _; exact Nat.le_of_eq rfl) (hb hby at_156) (fun _ _ => ⟨rfl, e125, (by decide : 4 + 1 ≤ _), (by decide : 18 + 1 ≤ _)⟩)
    dsimp only [Pt.U, Pt.locs, Pt.cells, Pt.slots] at X126 l126 y126 z126 st126 hQ126
    subst l126 y126 z126
    obtain ⟨b126, rfl, N126q, E126, ob126⟩ := hQ126
    have N126 := Fr.app N125 N126q
    have e126 : T126.heap = T126.heap := rfl
    refine own_st (A := T126.setTop (mkF mM 159 #[.val (.long nu), .second, .val (.int x2), .val (.int x3), .val (.int x4), .val (.int x5), .val (.int fl), .val (.ref jo), .val (.int fr8), .val (.int b1), .val (.int b2), .val (.int b3), .val (.int b4), .val w1, .val w2, .val w3, .unset, .unset, .unset, .unset, .unset, .unset] [(.ref b126)])) (fun tT_ kK_ => st126 tT_ kK_) ?_
    have bx1 := own_Bx_ext bx1 E126
    have bx2 := own_Bx_ext bx2 E126
    have bx3 := own_Bx_ext bx3 E126
    have O := O.ext E126
    have Zn := Nat.le_trans Zn E126.1
    have jb := own_Jb_ext jb E126
    refine own_st (A := T126.setTop (mkF mM 163 #[.val (.long nu), .second, .val (.int x2), .val (.int x3), .val (.int x4), .val (.int x5), .val (.int fl), .val (.ref jo), .val (.int fr8), .val (.int b1), .val (.int b2), .val (.int b3), .val (.int b4), .val w1, .val w2, .val w3, .unset, .unset, .unset, .unset, .unset, .unset] [(.ref b126)])) (fun tT_ kK_ => XS.goto X126.here hx rfl (pc0 := 159) (pc' := 163) rfl (hb hby at_159) (by decide) (by decide) kK_) ?_
    exact J163 hw (X126.more (by decide) (by decide)) hx hZ hby hml hown hlk hret e126 N126 nu x2 x3 x4 x5 fl jo fr8 b1 b2 b3 b4 w1 w2 w3 (.ref b126) hr1 hr2 hr3 rfl em ca cc r f Zn O S_e oe S_h S_c BX g_jo jb hf8 d1 d2 d3 d4 bx1 bx2 bx3 (Or.inr ⟨own_p b4 d4 hc144_124, _, _, rfl, ob126, g125⟩)
set_option maxRecDepth 65536 in
set_option maxHeartbeats 40000000 in
theorem J121 {pP : Program} {lL : Launch} {eE : Env} {sS : State} {mM : MethodId} {args : Array Value} {below : List Frame} {meth : Method} {cC : Code} {T0 : State} {locs : List Loc} {Z : State} {a0 : Array Value} {h0 : Heap} {n0 : Nat} (hw : ∀ d ∈ tables_1, d.before a0 Z = true) (X0 : Stand pP lL eE room_1 sS mM args below meth cC T0 locs 3 17) (hx : pP.tables.exec = Jvm.exec) (hZ : Z.Warmed39 sS.vm) (hby : cC.code = code) (hml : cC.maxLocals = 22) (hown : sS.vm.findClass "com/example/gleanwork/gleanwork/server/JobLimitedPinLaw" = some mM.cls) (hlk : meth.locks = false) (hret : meth.sig.returnType = ret) (e0 : T0.heap = h0) (N0 : Fr n0 locs) (nu : Int64) (x2 : Int32) (x3 : Int32) (x4 : Int32) (x5 : Int32) (fl : Int32) (jo : Addr) (fr8 : Int32) (b1 : Int32) (b2 : Int32) (b3 : Int32) (b4 : Int32) (w1 : Value) (w2 : Value) (hr1 : w1.isRef = true) (hr2 : w2.isRef = true) (em : Addr) (ca : Addr) (cc : Cell) (r : Int32) (f : Int32) (Zn : n0 ≤ h0.size) (O : Old Z n0 h0) (S_e : Sta Z Z.heap "java/util/OptionalInt" "EMPTY" "Ljava/util/OptionalInt;" (.ref em)) (oe : Opt Z Z.heap em 0 0) (S_h : Sta Z Z.heap "java/lang/Integer$IntegerCache" "high" "I" (.int 127)) (S_c : Sta Z Z.heap "java/lang/Integer$IntegerCache" "cache" "[Ljava/lang/Integer;" (.ref ca)) (BX : Bxs Z ca cc "java/lang/Integer" "I" 256 (fun j => .int (j - 128))) (g_jo : n0 ≤ jo) (jb : Jb Z h0 jo r f) (hf8 : fr8 = 1) (d1 : (b1 = 0 ∨ b1 = 1)) (d2 : (b2 = 0 ∨ b2 = 1)) (d3 : (b3 = 0 ∨ b3 = 1)) (d4 : (b4 = 0 ∨ b4 = 1)) (bx1 : Bx Z h0 b1 w1 0) (bx2 : Bx Z h0 b2 w2 1) :
    own_Go pP eE below sS (QLaw n0) 40 192 (T0.setTop (mkF mM 121 #[.val (.long nu), .second, .val (.int x2), .val (.int x3), .val (.int x4), .val (.int x5), .val (.int fl), .val (.ref jo), .val (.int fr8), .val (.int b1), .val (.int b2), .val (.int b3), .val (.int b4), .val w1, .unset, .unset, .unset, .unset, .unset, .unset, .unset, .unset] [w2])) := by
  refine own_st (A := T0.setTop (mkF mM 123 #[.val (.long nu), .second, .val (.int x2), .val (.int x3), .val (.int x4), .val (.int x5), .val (.int fl), .val (.ref jo), .val (.int fr8), .val (.int b1), .val (.int b2), .val (.int b3), .val (.int b4), .val w1, .val w2, .unset, .unset, .unset, .unset, .unset, .unset, .unset] [])) (fun tT_ kK_ => XS.astore X0.here hx rfl (hb hby at_121) rfl hr2 (l' := #[.val (.long nu), .second, .val (.int x2), .val (.int x3), .val (.int x4), .val (.int x5), .val (.int fl), .val (.ref jo), .val (.int fr8), .val (.int b1), .val (.int b2), .val (.int b3), .val (.int b4), .val w1, .val w2, .unset, .unset, .unset, .unset, .unset, .unset, .unset]) (by rcases ref_cases hr2 with hq | ⟨aq, hq⟩ <;> subst hq <;> rfl) kK_) ?_
  refine own_st (A := T0.setTop (mkF mM 125 #[.val (.long nu), .second, .val (.int x2), .val (.int x3), .val (.int x4), .val (.int x5), .val (.int fl), .val (.ref jo), .val (.int fr8), .val (.int b1), .val (.int b2), .val (.int b3), .val (.int b4), .val w1, .val w2, .unset, .unset, .unset, .unset, .unset, .unset, .unset] [(.int b3)])) (fun tT_ kK_ => XS.iload X0.here hx rfl (hb hby at_123) rfl kK_) ?_
  by_cases hc125_127 : b3 = (0 : Int32)
  · skip
    refine own_st (A := T0.setTop (mkF mM 139 #[.val (.long nu), .second, .val (.int x2), .val (.int x3), .val (.int x4), .val (.int x5), .val (.int fl), .val (.ref jo), .val (.int fr8), .val (.int b1), .val (.int b2), .val (.int b3), .val (.int b4), .val w1, .val w2, .unset, .unset, .unset, .unset, .unset, .unset, .unset] [])) (fun tT_ kK_ => XS.ifYes X0.here hx rfl (pc0 := 125) (pc' := 139) rfl (hb hby at_125) rfl ((if0 _ _).trans (teq hc125_127).1) (by decide) (by decide) kK_) ?_
    refine own_st (A := T0.setTop (mkF mM 140 #[.val (.long nu), .second, .val (.int x2), .val (.int x3), .val (.int x4), .val (.int x5), .val (.int fl), .val (.ref jo), .val (.int fr8), .val (.int b1), .val (.int b2), .val (.int b3), .val (.int b4), .val w1, .val w2, .unset, .unset, .unset, .unset, .unset, .unset, .unset] [.null])) (fun tT_ kK_ => XS.aconstNull X0.here hx rfl (hb hby at_139) kK_) ?_
    exact J140 hw (X0.more (by decide) (by decide)) hx hZ hby hml hown hlk hret e0 N0 nu x2 x3 x4 x5 fl jo fr8 b1 b2 b3 b4 w1 w2 .null hr1 hr2 rfl em ca cc r f Zn O S_e oe S_h S_c BX g_jo jb hf8 d1 d2 d3 d4 bx1 bx2 (Or.inl ⟨hc125_127, rfl⟩)
  · skip
    refine own_st (A := T0.setTop (mkF mM 128 #[.val (.long nu), .second, .val (.int x2), .val (.int x3), .val (.int x4), .val (.int x5), .val (.int fl), .val (.ref jo), .val (.int fr8), .val (.int b1), .val (.int b2), .val (.int b3), .val (.int b4), .val w1, .val w2, .unset, .unset, .unset, .unset, .unset, .unset, .unset] [])) (fun tT_ kK_ => XS.ifNo X0.here hx rfl (hb hby at_125) rfl ((if0 _ _).trans (feq hc125_127).1) kK_) ?_
    refine own_st (A := T0.setTop (mkF mM 130 #[.val (.long nu), .second, .val (.int x2), .val (.int x3), .val (.int x4), .val (.int x5), .val (.int fl), .val (.ref jo), .val (.int fr8), .val (.int b1), .val (.int b2), .val (.int b3), .val (.int b4), .val w1, .val w2, .unset, .unset, .unset, .unset, .unset, .unset, .unset] [(.int x4)])) (fun tT_ kK_ => XS.iload X0.here hx rfl (hb hby at_128) rfl kK_) ?_
    refine own_st (A := T0.setTop (mkF mM 132 #[.val (.long nu), .second, .val (.int x2), .val (.int x3), .val (.int x4), .val (.int x5), .val (.int fl), .val (.ref jo), .val (.int fr8), .val (.int b1), .val (.int b2), .val (.int b3), .val (.int b4), .val w1, .val w2, .unset, .unset, .unset, .unset, .unset, .unset, .unset] [(.int (2147483647 : Int32)), (.int x4)])) (fun tT_ kK_ => X0.ldcInt hx hown (mvT hZ (hw _ (List.mem_of_getElem? (i := 99) rfl))) (g := (mkF mM 130 #[.val (.long nu), .second, .val (.int x2), .val (.int x3), .val (.int x4), .val (.int x5), .val (.int fl), .val (.ref jo), .val (.int fr8), .val (.int b1), .val (.int b2), .val (.int b3), .val (.int b4), .val w1, .val w2, .unset, .unset, .unset, .unset, .unset, .unset, .unset] [(.int x4)])) rfl (hb hby at_130) tT_ kK_) ?_
    refine own_st (A := T0.setTop (mkF mM 133 #[.val (.long nu), .second, .val (.int x2), .val (.int x3), .val (.int x4), .val (.int x5), .val (.int fl), .val (.ref jo), .val (.int fr8), .val (.int b1), .val (.int b2), .val (.int b3), .val (.int b4), .val w1, .val w2, .unset, .unset, .unset, .unset, .unset, .unset, .unset] [(.int (x4 &&& (2147483647 : Int32)))])) (fun tT_ kK_ => XS.iand X0.here hx rfl (hb hby at_132) rfl kK_) ?_
    obtain ⟨_, _, ⟨T128, L128, k128, n128⟩, -, X128, ⟨Lc128, hQ128, l128, y128, z128⟩, st128⟩ := Jvm.LawKit.callS X0 hx (y := (⟨"java/lang/Integer", "valueOf", "(I)Ljava/lang/Integer;"⟩ : MethodName)) hown (mvT hZ (hw _ (List.mem_of_getElem? (i := 100) rfl))) (mvT hZ (hw _ (List.mem_of_getElem? (i := 101) rfl))) (mvT hZ (hw _ (List.mem_of_getElem? (i := 102) rfl))) (mvT hZ (hw _ (List.mem_of_getElem? (i := 103) rfl))) (by decide) (backOf (W := 0) (rmVal lL Z a0 hw [] (x4 &&& (2147483647 : Int32)) ca cc h0 n0 O Zn S_h S_c BX) hZ (hw _ (List.mem_of_getElem? (i := 103) rfl)) (hw _ (List.mem_of_getElem? (i := 102) rfl)) (by decide) (by decide)) (g := (mkF mM 133 #[.val (.long nu), .second, .val (.int x2), .val (.int x3), .val (.int x4), .val (.int x5), .val (.int fl), .val (.ref jo), .val (.int fr8), .val (.int b1), .val (.int b2), .val (.int b3), .val (.int b4), .val w1, .val w2, .unset, .unset, .unset, .unset, .unset, .unset, .unset] [(.int (x4 &&& (2147483647 : Int32)))])) rfl (by rw [hml]; rfl) (argsL := [(.int (x4 &&& (2147483647 : Int32)))]) (rest := []) (lenOf pd__28I_29Ljava_2flang_2fInteger_3b rfl) rfl (by show 2 * 0 + _ ≤ _; exact Nat.le_of_eq rfl) (hb hby at_133) (fun _ _ => ⟨rfl, e0, (by decide : 3 + 1 ≤ _), (by decide : 17 + 1 ≤ _)⟩)
    dsimp only [Pt.U, Pt.locs, Pt.cells, Pt.slots] at X128 l128 y128 z128 st128 hQ128
    subst l128 y128 z128
    obtain ⟨b128, rfl, N128q, E128, ob128⟩ := hQ128
    have N128 := Fr.app N0 N128q
    have e128 : T128.heap = T128.heap := rfl
    refine own_st (A := T128.setTop (mkF mM 136 #[.val (.long nu), .second, .val (.int x2), .val (.int x3), .val (.int x4), .val (.int x5), .val (.int fl), .val (.ref jo), .val (.int fr8), .val (.int b1), .val (.int b2), .val (.int b3), .val (.int b4), .val w1, .val w2, .unset, .unset, .unset, .unset, .unset, .unset, .unset] [(.ref b128)])) (fun tT_ kK_ => st128 tT_ kK_) ?_
    have bx1 := own_Bx_ext bx1 E128
    have bx2 := own_Bx_ext bx2 E128
    have O := O.ext E128
    have Zn := Nat.le_trans Zn E128.1
    have jb := own_Jb_ext jb E128
    refine own_st (A := T128.setTop (mkF mM 140 #[.val (.long nu), .second, .val (.int x2), .val (.int x3), .val (.int x4), .val (.int x5), .val (.int fl), .val (.ref jo), .val (.int fr8), .val (.int b1), .val (.int b2), .val (.int b3), .val (.int b4), .val w1, .val w2, .unset, .unset, .unset, .unset, .unset, .unset, .unset] [(.ref b128)])) (fun tT_ kK_ => XS.goto X128.here hx rfl (pc0 := 136) (pc' := 140) rfl (hb hby at_136) (by decide) (by decide) kK_) ?_
    exact J140 hw (X128.more (by decide) (by decide)) hx hZ hby hml hown hlk hret e128 N128 nu x2 x3 x4 x5 fl jo fr8 b1 b2 b3 b4 w1 w2 (.ref b128) hr1 hr2 rfl em ca cc r f Zn O S_e oe S_h S_c BX g_jo jb hf8 d1 d2 d3 d4 bx1 bx2 (Or.inr ⟨own_p b3 d3 hc125_127, _, _, rfl, ob128, (own_nn _)⟩)
set_option maxRecDepth 65536 in
set_option maxHeartbeats 40000000 in
theorem J99 {pP : Program} {lL : Launch} {eE : Env} {sS : State} {mM : MethodId} {args : Array Value} {below : List Frame} {meth : Method} {cC : Code} {T0 : State} {locs : List Loc} {Z : State} {a0 : Array Value} {h0 : Heap} {n0 : Nat} (hw : ∀ d ∈ tables_1, d.before a0 Z = true) (X0 : Stand pP lL eE room_1 sS mM args below meth cC T0 locs 2 16) (hx : pP.tables.exec = Jvm.exec) (hZ : Z.Warmed39 sS.vm) (hby : cC.code = code) (hml : cC.maxLocals = 22) (hown : sS.vm.findClass "com/example/gleanwork/gleanwork/server/JobLimitedPinLaw" = some mM.cls) (hlk : meth.locks = false) (hret : meth.sig.returnType = ret) (e0 : T0.heap = h0) (N0 : Fr n0 locs) (nu : Int64) (x2 : Int32) (x3 : Int32) (x4 : Int32) (x5 : Int32) (fl : Int32) (jo : Addr) (fr8 : Int32) (b1 : Int32) (b2 : Int32) (b3 : Int32) (b4 : Int32) (w1 : Value) (hr1 : w1.isRef = true) (em : Addr) (ca : Addr) (cc : Cell) (r : Int32) (f : Int32) (Zn : n0 ≤ h0.size) (O : Old Z n0 h0) (S_e : Sta Z Z.heap "java/util/OptionalInt" "EMPTY" "Ljava/util/OptionalInt;" (.ref em)) (oe : Opt Z Z.heap em 0 0) (S_h : Sta Z Z.heap "java/lang/Integer$IntegerCache" "high" "I" (.int 127)) (S_c : Sta Z Z.heap "java/lang/Integer$IntegerCache" "cache" "[Ljava/lang/Integer;" (.ref ca)) (BX : Bxs Z ca cc "java/lang/Integer" "I" 256 (fun j => .int (j - 128))) (g_jo : n0 ≤ jo) (jb : Jb Z h0 jo r f) (hf8 : fr8 = 1) (d1 : (b1 = 0 ∨ b1 = 1)) (d2 : (b2 = 0 ∨ b2 = 1)) (d3 : (b3 = 0 ∨ b3 = 1)) (d4 : (b4 = 0 ∨ b4 = 1)) (bx1 : Bx Z h0 b1 w1 0) :
    own_Go pP eE below sS (QLaw n0) 40 192 (T0.setTop (mkF mM 99 #[.val (.long nu), .second, .val (.int x2), .val (.int x3), .val (.int x4), .val (.int x5), .val (.int fl), .val (.ref jo), .val (.int fr8), .val (.int b1), .val (.int b2), .val (.int b3), .val (.int b4), .unset, .unset, .unset, .unset, .unset, .unset, .unset, .unset, .unset] [w1])) := by
  refine own_st (A := T0.setTop (mkF mM 101 #[.val (.long nu), .second, .val (.int x2), .val (.int x3), .val (.int x4), .val (.int x5), .val (.int fl), .val (.ref jo), .val (.int fr8), .val (.int b1), .val (.int b2), .val (.int b3), .val (.int b4), .val w1, .unset, .unset, .unset, .unset, .unset, .unset, .unset, .unset] [])) (fun tT_ kK_ => XS.astore X0.here hx rfl (hb hby at_99) rfl hr1 (l' := #[.val (.long nu), .second, .val (.int x2), .val (.int x3), .val (.int x4), .val (.int x5), .val (.int fl), .val (.ref jo), .val (.int fr8), .val (.int b1), .val (.int b2), .val (.int b3), .val (.int b4), .val w1, .unset, .unset, .unset, .unset, .unset, .unset, .unset, .unset]) (by rcases ref_cases hr1 with hq | ⟨aq, hq⟩ <;> subst hq <;> rfl) kK_) ?_
  refine own_st (A := T0.setTop (mkF mM 103 #[.val (.long nu), .second, .val (.int x2), .val (.int x3), .val (.int x4), .val (.int x5), .val (.int fl), .val (.ref jo), .val (.int fr8), .val (.int b1), .val (.int b2), .val (.int b3), .val (.int b4), .val w1, .unset, .unset, .unset, .unset, .unset, .unset, .unset, .unset] [(.int b2)])) (fun tT_ kK_ => XS.iload X0.here hx rfl (hb hby at_101) rfl kK_) ?_
  by_cases hc103_129 : b2 = (0 : Int32)
  · skip
    refine own_st (A := T0.setTop (mkF mM 120 #[.val (.long nu), .second, .val (.int x2), .val (.int x3), .val (.int x4), .val (.int x5), .val (.int fl), .val (.ref jo), .val (.int fr8), .val (.int b1), .val (.int b2), .val (.int b3), .val (.int b4), .val w1, .unset, .unset, .unset, .unset, .unset, .unset, .unset, .unset] [])) (fun tT_ kK_ => XS.ifYes X0.here hx rfl (pc0 := 103) (pc' := 120) rfl (hb hby at_103) rfl ((if0 _ _).trans (teq hc103_129).1) (by decide) (by decide) kK_) ?_
    refine own_st (A := T0.setTop (mkF mM 121 #[.val (.long nu), .second, .val (.int x2), .val (.int x3), .val (.int x4), .val (.int x5), .val (.int fl), .val (.ref jo), .val (.int fr8), .val (.int b1), .val (.int b2), .val (.int b3), .val (.int b4), .val w1, .unset, .unset, .unset, .unset, .unset, .unset, .unset, .unset] [.null])) (fun tT_ kK_ => XS.aconstNull X0.here hx rfl (hb hby at_120) kK_) ?_
    exact J121 hw (X0.more (by decide) (by decide)) hx hZ hby hml hown hlk hret e0 N0 nu x2 x3 x4 x5 fl jo fr8 b1 b2 b3 b4 w1 .null hr1 rfl em ca cc r f Zn O S_e oe S_h S_c BX g_jo jb hf8 d1 d2 d3 d4 bx1 (Or.inl ⟨hc103_129, rfl⟩)
  · skip
    refine own_st (A := T0.setTop (mkF mM 106 #[.val (.long nu), .second, .val (.int x2), .val (.int x3), .val (.int x4), .val (.int x5), .val (.int fl), .val (.ref jo), .val (.int fr8), .val (.int b1), .val (.int b2), .val (.int b3), .val (.int b4), .val w1, .unset, .unset, .unset, .unset, .unset, .unset, .unset, .unset] [])) (fun tT_ kK_ => XS.ifNo X0.here hx rfl (hb hby at_103) rfl ((if0 _ _).trans (feq hc103_129).1) kK_) ?_
    refine own_st (A := T0.setTop (mkF mM 107 #[.val (.long nu), .second, .val (.int x2), .val (.int x3), .val (.int x4), .val (.int x5), .val (.int fl), .val (.ref jo), .val (.int fr8), .val (.int b1), .val (.int b2), .val (.int b3), .val (.int b4), .val w1, .unset, .unset, .unset, .unset, .unset, .unset, .unset, .unset] [(.int (1 : Int32))])) (fun tT_ kK_ => XS.iconst X0.here hx rfl (hb hby at_106) kK_) ?_
    refine own_st (A := T0.setTop (mkF mM 108 #[.val (.long nu), .second, .val (.int x2), .val (.int x3), .val (.int x4), .val (.int x5), .val (.int fl), .val (.ref jo), .val (.int fr8), .val (.int b1), .val (.int b2), .val (.int b3), .val (.int b4), .val w1, .unset, .unset, .unset, .unset, .unset, .unset, .unset, .unset] [(.int x3), (.int (1 : Int32))])) (fun tT_ kK_ => XS.iloadN X0.here hx rfl (hb hby at_107) rfl kK_) ?_
    refine own_st (A := T0.setTop (mkF mM 110 #[.val (.long nu), .second, .val (.int x2), .val (.int x3), .val (.int x4), .val (.int x5), .val (.int fl), .val (.ref jo), .val (.int fr8), .val (.int b1), .val (.int b2), .val (.int b3), .val (.int b4), .val w1, .unset, .unset, .unset, .unset, .unset, .unset, .unset, .unset] [(.int (2147483647 : Int32)), (.int x3), (.int (1 : Int32))])) (fun tT_ kK_ => X0.ldcInt hx hown (mvT hZ (hw _ (List.mem_of_getElem? (i := 99) rfl))) (g := (mkF mM 108 #[.val (.long nu), .second, .val (.int x2), .val (.int x3), .val (.int x4), .val (.int x5), .val (.int fl), .val (.ref jo), .val (.int fr8), .val (.int b1), .val (.int b2), .val (.int b3), .val (.int b4), .val w1, .unset, .unset, .unset, .unset, .unset, .unset, .unset, .unset] [(.int x3), (.int (1 : Int32))])) rfl (hb hby at_108) tT_ kK_) ?_
    refine own_st (A := T0.setTop (mkF mM 111 #[.val (.long nu), .second, .val (.int x2), .val (.int x3), .val (.int x4), .val (.int x5), .val (.int fl), .val (.ref jo), .val (.int fr8), .val (.int b1), .val (.int b2), .val (.int b3), .val (.int b4), .val w1, .unset, .unset, .unset, .unset, .unset, .unset, .unset, .unset] [(.int (x3 &&& (2147483647 : Int32))), (.int (1 : Int32))])) (fun tT_ kK_ => XS.iand X0.here hx rfl (hb hby at_110) rfl kK_) ?_
    obtain ⟨_, _, ⟨T130, L130, k130, n130⟩, -, X130, ⟨Lc130, hQ130, l130, y130, z130⟩, st130⟩ := Jvm.LawKit.callS X0 hx (y := (⟨"java/lang/Math", "max", "(II)I"⟩ : MethodName)) hown (mvT hZ (hw _ (List.mem_of_getElem? (i := 107) rfl))) (mvT hZ (hw _ (List.mem_of_getElem? (i := 108) rfl))) (mvT hZ (hw _ (List.mem_of_getElem? (i := 109) rfl))) (mvT hZ (hw _ (List.mem_of_getElem? (i := 110) rfl))) (by decide) (backOf (W := 0) (rmMax lL Z a0 hw [] (x3 &&& (2147483647 : Int32)) h0 n0 ) hZ (hw _ (List.mem_of_getElem? (i := 110) rfl)) (hw _ (List.mem_of_getElem? (i := 109) rfl)) (by decide) (by decide)) (g := (mkF mM 111 #[.val (.long nu), .second, .val (.int x2), .val (.int x3), .val (.int x4), .val (.int x5), .val (.int fl), .val (.ref jo), .val (.int fr8), .val (.int b1), .val (.int b2), .val (.int b3), .val (.int b4), .val w1, .unset, .unset, .unset, .unset, .unset, .unset, .unset, .unset] [(.int (x3 &&& (2147483647 : Int32))), (.int (1 : Int32))])) rfl (by rw [hml]; rfl) (argsL := [(.int (1 : Int32)), (.int (x3 &&& (2147483647 : Int32)))]) (rest := []) (lenOf pd__28II_29I rfl) rfl (by show 2 * 0 + _ ≤ _; exact Nat.le_of_eq rfl) (hb hby at_111) (fun _ _ => ⟨rfl, e0, (by decide : 2 + 0 ≤ _), (by decide : 16 + 0 ≤ _)⟩)
    dsimp only [Pt.U, Pt.locs, Pt.cells, Pt.slots] at X130 l130 y130 z130 st130 hQ130
    subst l130 y130 z130
    obtain ⟨r130, rfl, N130q, e130, g130⟩ := hQ130
    have N130 := Fr.app N0 N130q
    refine own_st (A := T130.setTop (mkF mM 114 #[.val (.long nu), .second, .val (.int x2), .val (.int x3), .val (.int x4), .val (.int x5), .val (.int fl), .val (.ref jo), .val (.int fr8), .val (.int b1), .val (.int b2), .val (.int b3), .val (.int b4), .val w1, .unset, .unset, .unset, .unset, .unset, .unset, .unset, .unset] [(.int r130)])) (fun tT_ kK_ => st130 tT_ kK_) ?_
    obtain ⟨_, _, ⟨T131, L131, k131, n131⟩, -, X131, ⟨Lc131, hQ131, l131, y131, z131⟩, st131⟩ := Jvm.LawKit.callS X130 hx (y := (⟨"java/lang/Integer", "valueOf", "(I)Ljava/lang/Integer;"⟩ : MethodName)) hown (mvT hZ (hw _ (List.mem_of_getElem? (i := 100) rfl))) (mvT hZ (hw _ (List.mem_of_getElem? (i := 101) rfl))) (mvT hZ (hw _ (List.mem_of_getElem? (i := 102) rfl))) (mvT hZ (hw _ (List.mem_of_getElem? (i := 103) rfl))) (by decide) (backOf (W := 0) (rmVal lL Z a0 hw [] r130 ca cc h0 n0 O Zn S_h S_c BX) hZ (hw _ (List.mem_of_getElem? (i := 103) rfl)) (hw _ (List.mem_of_getElem? (i := 102) rfl)) (by decide) (by decide)) (g := (mkF mM 114 #[.val (.long nu), .second, .val (.int x2), .val (.int x3), .val (.int x4), .val (.int x5), .val (.int fl), .val (.ref jo), .val (.int fr8), .val (.int b1), .val (.int b2), .val (.int b3), .val (.int b4), .val w1, .unset, .unset, .unset, .unset, .unset, .unset, .unset, .unset] [(.int r130)])) rfl (by rw [hml]; rfl) (argsL := [(.int r130)]) (rest := []) (lenOf pd__28I_29Ljava_2flang_2fInteger_3b rfl) rfl (by show 2 * 0 + _ ≤ _; exact Nat.le_of_eq rfl) (hb hby at_114) (fun _ _ => ⟨rfl, e130, (by decide : 2 + 1 ≤ _), (by decide : 16 + 1 ≤ _)⟩)
    dsimp only [Pt.U, Pt.locs, Pt.cells, Pt.slots] at X131 l131 y131 z131 st131 hQ131
    subst l131 y131 z131
    obtain ⟨b131, rfl, N131q, E131, ob131⟩ := hQ131
    have N131 := Fr.app N130 N131q
    have e131 : T131.heap = T131.heap := rfl
    refine own_st (A := T131.setTop (mkF mM 117 #[.val (.long nu), .second, .val (.int x2), .val (.int x3), .val (.int x4), .val (.int x5), .val (.int fl), .val (.ref jo), .val (.int fr8), .val (.int b1), .val (.int b2), .val (.int b3), .val (.int b4), .val w1, .unset, .unset, .unset, .unset, .unset, .unset, .unset, .unset] [(.ref b131)])) (fun tT_ kK_ => st131 tT_ kK_) ?_
    have bx1 := own_Bx_ext bx1 E131
    have O := O.ext E131
    have Zn := Nat.le_trans Zn E131.1
    have jb := own_Jb_ext jb E131
    refine own_st (A := T131.setTop (mkF mM 121 #[.val (.long nu), .second, .val (.int x2), .val (.int x3), .val (.int x4), .val (.int x5), .val (.int fl), .val (.ref jo), .val (.int fr8), .val (.int b1), .val (.int b2), .val (.int b3), .val (.int b4), .val w1, .unset, .unset, .unset, .unset, .unset, .unset, .unset, .unset] [(.ref b131)])) (fun tT_ kK_ => XS.goto X131.here hx rfl (pc0 := 117) (pc' := 121) rfl (hb hby at_117) (by decide) (by decide) kK_) ?_
    exact J121 hw (X131.more (by decide) (by decide)) hx hZ hby hml hown hlk hret e131 N131 nu x2 x3 x4 x5 fl jo fr8 b1 b2 b3 b4 w1 (.ref b131) hr1 rfl em ca cc r f Zn O S_e oe S_h S_c BX g_jo jb hf8 d1 d2 d3 d4 bx1 (Or.inr ⟨own_p b2 d2 hc103_129, _, _, rfl, ob131, g130⟩)
set_option maxRecDepth 65536 in
set_option maxHeartbeats 40000000 in
theorem J83 {pP : Program} {lL : Launch} {eE : Env} {sS : State} {mM : MethodId} {args : Array Value} {below : List Frame} {meth : Method} {cC : Code} {T0 : State} {locs : List Loc} {Z : State} {a0 : Array Value} {h0 : Heap} {n0 : Nat} (hw : ∀ d ∈ tables_1, d.before a0 Z = true) (X0 : Stand pP lL eE room_1 sS mM args below meth cC T0 locs 1 15) (hx : pP.tables.exec = Jvm.exec) (hZ : Z.Warmed39 sS.vm) (hby : cC.code = code) (hml : cC.maxLocals = 22) (hown : sS.vm.findClass "com/example/gleanwork/gleanwork/server/JobLimitedPinLaw" = some mM.cls) (hlk : meth.locks = false) (hret : meth.sig.returnType = ret) (e0 : T0.heap = h0) (N0 : Fr n0 locs) (nu : Int64) (x2 : Int32) (x3 : Int32) (x4 : Int32) (x5 : Int32) (fl : Int32) (jo : Addr) (fr8 : Int32) (b1 : Int32) (b2 : Int32) (b3 : Int32) (b4 : Int32) (em : Addr) (ca : Addr) (cc : Cell) (r : Int32) (f : Int32) (Zn : n0 ≤ h0.size) (O : Old Z n0 h0) (S_e : Sta Z Z.heap "java/util/OptionalInt" "EMPTY" "Ljava/util/OptionalInt;" (.ref em)) (oe : Opt Z Z.heap em 0 0) (S_h : Sta Z Z.heap "java/lang/Integer$IntegerCache" "high" "I" (.int 127)) (S_c : Sta Z Z.heap "java/lang/Integer$IntegerCache" "cache" "[Ljava/lang/Integer;" (.ref ca)) (BX : Bxs Z ca cc "java/lang/Integer" "I" 256 (fun j => .int (j - 128))) (g_jo : n0 ≤ jo) (jb : Jb Z h0 jo r f) (hf8 : fr8 = 1) (d1 : (b1 = 0 ∨ b1 = 1)) (d2 : (b2 = 0 ∨ b2 = 1)) (d3 : (b3 = 0 ∨ b3 = 1)) (d4 : (b4 = 0 ∨ b4 = 1)) :
    own_Go pP eE below sS (QLaw n0) 40 192 (T0.setTop (mkF mM 83 #[.val (.long nu), .second, .val (.int x2), .val (.int x3), .val (.int x4), .val (.int x5), .val (.int fl), .val (.ref jo), .val (.int fr8), .val (.int b1), .val (.int b2), .val (.int b3), .val (.int b4), .unset, .unset, .unset, .unset, .unset, .unset, .unset, .unset, .unset] [])) := by
  refine own_st (A := T0.setTop (mkF mM 85 #[.val (.long nu), .second, .val (.int x2), .val (.int x3), .val (.int x4), .val (.int x5), .val (.int fl), .val (.ref jo), .val (.int fr8), .val (.int b1), .val (.int b2), .val (.int b3), .val (.int b4), .unset, .unset, .unset, .unset, .unset, .unset, .unset, .unset, .unset] [(.int b1)])) (fun tT_ kK_ => XS.iload X0.here hx rfl (hb hby at_83) rfl kK_) ?_
  by_cases hc85_132 : b1 = (0 : Int32)
  · skip
    refine own_st (A := T0.setTop (mkF mM 98 #[.val (.long nu), .second, .val (.int x2), .val (.int x3), .val (.int x4), .val (.int x5), .val (.int fl), .val (.ref jo), .val (.int fr8), .val (.int b1), .val (.int b2), .val (.int b3), .val (.int b4), .unset, .unset, .unset, .unset, .unset, .unset, .unset, .unset, .unset] [])) (fun tT_ kK_ => XS.ifYes X0.here hx rfl (pc0 := 85) (pc' := 98) rfl (hb hby at_85) rfl ((if0 _ _).trans (teq hc85_132).1) (by decide) (by decide) kK_) ?_
    refine own_st (A := T0.setTop (mkF mM 99 #[.val (.long nu), .second, .val (.int x2), .val (.int x3), .val (.int x4), .val (.int x5), .val (.int fl), .val (.ref jo), .val (.int fr8), .val (.int b1), .val (.int b2), .val (.int b3), .val (.int b4), .unset, .unset, .unset, .unset, .unset, .unset, .unset, .unset, .unset] [.null])) (fun tT_ kK_ => XS.aconstNull X0.here hx rfl (hb hby at_98) kK_) ?_
    exact J99 hw (X0.more (by decide) (by decide)) hx hZ hby hml hown hlk hret e0 N0 nu x2 x3 x4 x5 fl jo fr8 b1 b2 b3 b4  .null  rfl em ca cc r f Zn O S_e oe S_h S_c BX g_jo jb hf8 d1 d2 d3 d4  (Or.inl ⟨hc85_132, rfl⟩)
  · skip
    refine own_st (A := T0.setTop (mkF mM 88 #[.val (.long nu), .second, .val (.int x2), .val (.int x3), .val (.int x4), .val (.int x5), .val (.int fl), .val (.ref jo), .val (.int fr8), .val (.int b1), .val (.int b2), .val (.int b3), .val (.int b4), .unset, .unset, .unset, .unset, .unset, .unset, .unset, .unset, .unset] [])) (fun tT_ kK_ => XS.ifNo X0.here hx rfl (hb hby at_85) rfl ((if0 _ _).trans (feq hc85_132).1) kK_) ?_
    refine own_st (A := T0.setTop (mkF mM 89 #[.val (.long nu), .second, .val (.int x2), .val (.int x3), .val (.int x4), .val (.int x5), .val (.int fl), .val (.ref jo), .val (.int fr8), .val (.int b1), .val (.int b2), .val (.int b3), .val (.int b4), .unset, .unset, .unset, .unset, .unset, .unset, .unset, .unset, .unset] [(.int x2)])) (fun tT_ kK_ => XS.iloadN X0.here hx rfl (hb hby at_88) rfl kK_) ?_
    refine own_st (A := T0.setTop (mkF mM 91 #[.val (.long nu), .second, .val (.int x2), .val (.int x3), .val (.int x4), .val (.int x5), .val (.int fl), .val (.ref jo), .val (.int fr8), .val (.int b1), .val (.int b2), .val (.int b3), .val (.int b4), .unset, .unset, .unset, .unset, .unset, .unset, .unset, .unset, .unset] [(.int (2147483647 : Int32)), (.int x2)])) (fun tT_ kK_ => X0.ldcInt hx hown (mvT hZ (hw _ (List.mem_of_getElem? (i := 99) rfl))) (g := (mkF mM 89 #[.val (.long nu), .second, .val (.int x2), .val (.int x3), .val (.int x4), .val (.int x5), .val (.int fl), .val (.ref jo), .val (.int fr8), .val (.int b1), .val (.int b2), .val (.int b3), .val (.int b4), .unset, .unset, .unset, .unset, .unset, .unset, .unset, .unset, .unset] [(.int x2)])) rfl (hb hby at_89) tT_ kK_) ?_
    refine own_st (A := T0.setTop (mkF mM 92 #[.val (.long nu), .second, .val (.int x2), .val (.int x3), .val (.int x4), .val (.int x5), .val (.int fl), .val (.ref jo), .val (.int fr8), .val (.int b1), .val (.int b2), .val (.int b3), .val (.int b4), .unset, .unset, .unset, .unset, .unset, .unset, .unset, .unset, .unset] [(.int (x2 &&& (2147483647 : Int32)))])) (fun tT_ kK_ => XS.iand X0.here hx rfl (hb hby at_91) rfl kK_) ?_
    obtain ⟨_, _, ⟨T133, L133, k133, n133⟩, -, X133, ⟨Lc133, hQ133, l133, y133, z133⟩, st133⟩ := Jvm.LawKit.callS X0 hx (y := (⟨"java/lang/Integer", "valueOf", "(I)Ljava/lang/Integer;"⟩ : MethodName)) hown (mvT hZ (hw _ (List.mem_of_getElem? (i := 100) rfl))) (mvT hZ (hw _ (List.mem_of_getElem? (i := 101) rfl))) (mvT hZ (hw _ (List.mem_of_getElem? (i := 102) rfl))) (mvT hZ (hw _ (List.mem_of_getElem? (i := 103) rfl))) (by decide) (backOf (W := 0) (rmVal lL Z a0 hw [] (x2 &&& (2147483647 : Int32)) ca cc h0 n0 O Zn S_h S_c BX) hZ (hw _ (List.mem_of_getElem? (i := 103) rfl)) (hw _ (List.mem_of_getElem? (i := 102) rfl)) (by decide) (by decide)) (g := (mkF mM 92 #[.val (.long nu), .second, .val (.int x2), .val (.int x3), .val (.int x4), .val (.int x5), .val (.int fl), .val (.ref jo), .val (.int fr8), .val (.int b1), .val (.int b2), .val (.int b3), .val (.int b4), .unset, .unset, .unset, .unset, .unset, .unset, .unset, .unset, .unset] [(.int (x2 &&& (2147483647 : Int32)))])) rfl (by rw [hml]; rfl) (argsL := [(.int (x2 &&& (2147483647 : Int32)))]) (rest := []) (lenOf pd__28I_29Ljava_2flang_2fInteger_3b rfl) rfl (by show 2 * 0 + _ ≤ _; exact Nat.le_of_eq rfl) (hb hby at_92) (fun _ _ => ⟨rfl, e0, (by decide : 1 + 1 ≤ _), (by decide : 15 + 1 ≤ _)⟩)
    dsimp only [Pt.U, Pt.locs, Pt.cells, Pt.slots] at X133 l133 y133 z133 st133 hQ133
    subst l133 y133 z133
    obtain ⟨b133, rfl, N133q, E133, ob133⟩ := hQ133
    have N133 := Fr.app N0 N133q
    have e133 : T133.heap = T133.heap := rfl
    refine own_st (A := T133.setTop (mkF mM 95 #[.val (.long nu), .second, .val (.int x2), .val (.int x3), .val (.int x4), .val (.int x5), .val (.int fl), .val (.ref jo), .val (.int fr8), .val (.int b1), .val (.int b2), .val (.int b3), .val (.int b4), .unset, .unset, .unset, .unset, .unset, .unset, .unset, .unset, .unset] [(.ref b133)])) (fun tT_ kK_ => st133 tT_ kK_) ?_
    have O := O.ext E133
    have Zn := Nat.le_trans Zn E133.1
    have jb := own_Jb_ext jb E133
    refine own_st (A := T133.setTop (mkF mM 99 #[.val (.long nu), .second, .val (.int x2), .val (.int x3), .val (.int x4), .val (.int x5), .val (.int fl), .val (.ref jo), .val (.int fr8), .val (.int b1), .val (.int b2), .val (.int b3), .val (.int b4), .unset, .unset, .unset, .unset, .unset, .unset, .unset, .unset, .unset] [(.ref b133)])) (fun tT_ kK_ => XS.goto X133.here hx rfl (pc0 := 95) (pc' := 99) rfl (hb hby at_95) (by decide) (by decide) kK_) ?_
    exact J99 hw (X133.more (by decide) (by decide)) hx hZ hby hml hown hlk hret e133 N133 nu x2 x3 x4 x5 fl jo fr8 b1 b2 b3 b4  (.ref b133)  rfl em ca cc r f Zn O S_e oe S_h S_c BX g_jo jb hf8 d1 d2 d3 d4  (Or.inr ⟨own_p b1 d1 hc85_132, _, _, rfl, ob133, (own_nn _)⟩)
set_option maxRecDepth 65536 in
set_option maxHeartbeats 40000000 in
theorem J26 {pP : Program} {lL : Launch} {eE : Env} {sS : State} {mM : MethodId} {args : Array Value} {below : List Frame} {meth : Method} {cC : Code} {T0 : State} {locs : List Loc} {Z : State} {a0 : Array Value} {h0 : Heap} {n0 : Nat} (hw : ∀ d ∈ tables_1, d.before a0 Z = true) (X0 : Stand pP lL eE room_1 sS mM args below meth cC T0 locs 1 15) (hx : pP.tables.exec = Jvm.exec) (hZ : Z.Warmed39 sS.vm) (hby : cC.code = code) (hml : cC.maxLocals = 22) (hown : sS.vm.findClass "com/example/gleanwork/gleanwork/server/JobLimitedPinLaw" = some mM.cls) (hlk : meth.locks = false) (hret : meth.sig.returnType = ret) (e0 : T0.heap = h0) (N0 : Fr n0 locs) (nu : Int64) (x2 : Int32) (x3 : Int32) (x4 : Int32) (x5 : Int32) (fl : Int32) (jo : Addr) (fr8 : Int32) (em : Addr) (ca : Addr) (cc : Cell) (r : Int32) (f : Int32) (Zn : n0 ≤ h0.size) (O : Old Z n0 h0) (S_e : Sta Z Z.heap "java/util/OptionalInt" "EMPTY" "Ljava/util/OptionalInt;" (.ref em)) (oe : Opt Z Z.heap em 0 0) (S_h : Sta Z Z.heap "java/lang/Integer$IntegerCache" "high" "I" (.int 127)) (S_c : Sta Z Z.heap "java/lang/Integer$IntegerCache" "cache" "[Ljava/lang/Integer;" (.ref ca)) (BX : Bxs Z ca cc "java/lang/Integer" "I" 256 (fun j => .int (j - 128))) (g_jo : n0 ≤ jo) (jb : Jb Z h0 jo r f) (hf8 : fr8 = 1) :
    own_Go pP eE below sS (QLaw n0) 40 192 (T0.setTop (mkF mM 26 #[.val (.long nu), .second, .val (.int x2), .val (.int x3), .val (.int x4), .val (.int x5), .val (.int fl), .val (.ref jo), .val (.int fr8), .unset, .unset, .unset, .unset, .unset, .unset, .unset, .unset, .unset, .unset, .unset, .unset, .unset] [])) := by
  refine own_st (A := T0.setTop (mkF mM 28 #[.val (.long nu), .second, .val (.int x2), .val (.int x3), .val (.int x4), .val (.int x5), .val (.int fl), .val (.ref jo), .val (.int fr8), .unset, .unset, .unset, .unset, .unset, .unset, .unset, .unset, .unset, .unset, .unset, .unset, .unset] [(.int fl)])) (fun tT_ kK_ => XS.iload X0.here hx rfl (hb hby at_26) rfl kK_) ?_
  refine own_st (A := T0.setTop (mkF mM 29 #[.val (.long nu), .second, .val (.int x2), .val (.int x3), .val (.int x4), .val (.int x5), .val (.int fl), .val (.ref jo), .val (.int fr8), .unset, .unset, .unset, .unset, .unset, .unset, .unset, .unset, .unset, .unset, .unset, .unset, .unset] [(.int (1 : Int32)), (.int fl)])) (fun tT_ kK_ => XS.iconst X0.here hx rfl (hb hby at_28) kK_) ?_
  refine own_st (A := T0.setTop (mkF mM 30 #[.val (.long nu), .second, .val (.int x2), .val (.int x3), .val (.int x4), .val (.int x5), .val (.int fl), .val (.ref jo), .val (.int fr8), .unset, .unset, .unset, .unset, .unset, .unset, .unset, .unset, .unset, .unset, .unset, .unset, .unset] [(.int (fl &&& (1 : Int32)))])) (fun tT_ kK_ => XS.iand X0.here hx rfl (hb hby at_29) rfl kK_) ?_
  by_cases hc30_134 : (fl &&& (1 : Int32)) = (0 : Int32)
  · skip
    refine own_st (A := T0.setTop (mkF mM 37 #[.val (.long nu), .second, .val (.int x2), .val (.int x3), .val (.int x4), .val (.int x5), .val (.int fl), .val (.ref jo), .val (.int fr8), .unset, .unset, .unset, .unset, .unset, .unset, .unset, .unset, .unset, .unset, .unset, .unset, .unset] [])) (fun tT_ kK_ => XS.ifYes X0.here hx rfl (pc0 := 30) (pc' := 37) rfl (hb hby at_30) rfl ((if0 _ _).trans (teq hc30_134).1) (by decide) (by decide) kK_) ?_
    refine own_st (A := T0.setTop (mkF mM 38 #[.val (.long nu), .second, .val (.int x2), .val (.int x3), .val (.int x4), .val (.int x5), .val (.int fl), .val (.ref jo), .val (.int fr8), .unset, .unset, .unset, .unset, .unset, .unset, .unset, .unset, .unset, .unset, .unset, .unset, .unset] [(.int (0 : Int32))])) (fun tT_ kK_ => XS.iconst X0.here hx rfl (hb hby at_37) kK_) ?_
    refine own_st (A := T0.setTop (mkF mM 40 #[.val (.long nu), .second, .val (.int x2), .val (.int x3), .val (.int x4), .val (.int x5), .val (.int fl), .val (.ref jo), .val (.int fr8), .val (.int (0 : Int32)), .unset, .unset, .unset, .unset, .unset, .unset, .unset, .unset, .unset, .unset, .unset, .unset] [])) (fun tT_ kK_ => XS.istore X0.here hx rfl (hb hby at_38) rfl (l' := #[.val (.long nu), .second, .val (.int x2), .val (.int x3), .val (.int x4), .val (.int x5), .val (.int fl), .val (.ref jo), .val (.int fr8), .val (.int (0 : Int32)), .unset, .unset, .unset, .unset, .unset, .unset, .unset, .unset, .unset, .unset, .unset, .unset]) rfl kK_) ?_
    refine own_st (A := T0.setTop (mkF mM 42 #[.val (.long nu), .second, .val (.int x2), .val (.int x3), .val (.int x4), .val (.int x5), .val (.int fl), .val (.ref jo), .val (.int fr8), .val (.int (0 : Int32)), .unset, .unset, .unset, .unset, .unset, .unset, .unset, .unset, .unset, .unset, .unset, .unset] [(.int fl)])) (fun tT_ kK_ => XS.iload X0.here hx rfl (hb hby at_40) rfl kK_) ?_
    refine own_st (A := T0.setTop (mkF mM 43 #[.val (.long nu), .second, .val (.int x2), .val (.int x3), .val (.int x4), .val (.int x5), .val (.int fl), .val (.ref jo), .val (.int fr8), .val (.int (0 : Int32)), .unset, .unset, .unset, .unset, .unset, .unset, .unset, .unset, .unset, .unset, .unset, .unset] [(.int (2 : Int32)), (.int fl)])) (fun tT_ kK_ => XS.iconst X0.here hx rfl (hb hby at_42) kK_) ?_
    refine own_st (A := T0.setTop (mkF mM 44 #[.val (.long nu), .second, .val (.int x2), .val (.int x3), .val (.int x4), .val (.int x5), .val (.int fl), .val (.ref jo), .val (.int fr8), .val (.int (0 : Int32)), .unset, .unset, .unset, .unset, .unset, .unset, .unset, .unset, .unset, .unset, .unset, .unset] [(.int (fl &&& (2 : Int32)))])) (fun tT_ kK_ => XS.iand X0.here hx rfl (hb hby at_43) rfl kK_) ?_
    by_cases hc44_135 : (fl &&& (2 : Int32)) = (0 : Int32)
    · skip
      refine own_st (A := T0.setTop (mkF mM 51 #[.val (.long nu), .second, .val (.int x2), .val (.int x3), .val (.int x4), .val (.int x5), .val (.int fl), .val (.ref jo), .val (.int fr8), .val (.int (0 : Int32)), .unset, .unset, .unset, .unset, .unset, .unset, .unset, .unset, .unset, .unset, .unset, .unset] [])) (fun tT_ kK_ => XS.ifYes X0.here hx rfl (pc0 := 44) (pc' := 51) rfl (hb hby at_44) rfl ((if0 _ _).trans (teq hc44_135).1) (by decide) (by decide) kK_) ?_
      refine own_st (A := T0.setTop (mkF mM 52 #[.val (.long nu), .second, .val (.int x2), .val (.int x3), .val (.int x4), .val (.int x5), .val (.int fl), .val (.ref jo), .val (.int fr8), .val (.int (0 : Int32)), .unset, .unset, .unset, .unset, .unset, .unset, .unset, .unset, .unset, .unset, .unset, .unset] [(.int (0 : Int32))])) (fun tT_ kK_ => XS.iconst X0.here hx rfl (hb hby at_51) kK_) ?_
      refine own_st (A := T0.setTop (mkF mM 54 #[.val (.long nu), .second, .val (.int x2), .val (.int x3), .val (.int x4), .val (.int x5), .val (.int fl), .val (.ref jo), .val (.int fr8), .val (.int (0 : Int32)), .val (.int (0 : Int32)), .unset, .unset, .unset, .unset, .unset, .unset, .unset, .unset, .unset, .unset, .unset] [])) (fun tT_ kK_ => XS.istore X0.here hx rfl (hb hby at_52) rfl (l' := #[.val (.long nu), .second, .val (.int x2), .val (.int x3), .val (.int x4), .val (.int x5), .val (.int fl), .val (.ref jo), .val (.int fr8), .val (.int (0 : Int32)), .val (.int (0 : Int32)), .unset, .unset, .unset, .unset, .unset, .unset, .unset, .unset, .unset, .unset, .unset]) rfl kK_) ?_
      refine own_st (A := T0.setTop (mkF mM 56 #[.val (.long nu), .second, .val (.int x2), .val (.int x3), .val (.int x4), .val (.int x5), .val (.int fl), .val (.ref jo), .val (.int fr8), .val (.int (0 : Int32)), .val (.int (0 : Int32)), .unset, .unset, .unset, .unset, .unset, .unset, .unset, .unset, .unset, .unset, .unset] [(.int fl)])) (fun tT_ kK_ => XS.iload X0.here hx rfl (hb hby at_54) rfl kK_) ?_
      refine own_st (A := T0.setTop (mkF mM 57 #[.val (.long nu), .second, .val (.int x2), .val (.int x3), .val (.int x4), .val (.int x5), .val (.int fl), .val (.ref jo), .val (.int fr8), .val (.int (0 : Int32)), .val (.int (0 : Int32)), .unset, .unset, .unset, .unset, .unset, .unset, .unset, .unset, .unset, .unset, .unset] [(.int (4 : Int32)), (.int fl)])) (fun tT_ kK_ => XS.iconst X0.here hx rfl (hb hby at_56) kK_) ?_
      refine own_st (A := T0.setTop (mkF mM 58 #[.val (.long nu), .second, .val (.int x2), .val (.int x3), .val (.int x4), .val (.int x5), .val (.int fl), .val (.ref jo), .val (.int fr8), .val (.int (0 : Int32)), .val (.int (0 : Int32)), .unset, .unset, .unset, .unset, .unset, .unset, .unset, .unset, .unset, .unset, .unset] [(.int (fl &&& (4 : Int32)))])) (fun tT_ kK_ => XS.iand X0.here hx rfl (hb hby at_57) rfl kK_) ?_
      by_cases hc58_136 : (fl &&& (4 : Int32)) = (0 : Int32)
      · skip
        refine own_st (A := T0.setTop (mkF mM 65 #[.val (.long nu), .second, .val (.int x2), .val (.int x3), .val (.int x4), .val (.int x5), .val (.int fl), .val (.ref jo), .val (.int fr8), .val (.int (0 : Int32)), .val (.int (0 : Int32)), .unset, .unset, .unset, .unset, .unset, .unset, .unset, .unset, .unset, .unset, .unset] [])) (fun tT_ kK_ => XS.ifYes X0.here hx rfl (pc0 := 58) (pc' := 65) rfl (hb hby at_58) rfl ((if0 _ _).trans (teq hc58_136).1) (by decide) (by decide) kK_) ?_
        refine own_st (A := T0.setTop (mkF mM 66 #[.val (.long nu), .second, .val (.int x2), .val (.int x3), .val (.int x4), .val (.int x5), .val (.int fl), .val (.ref jo), .val (.int fr8), .val (.int (0 : Int32)), .val (.int (0 : Int32)), .unset, .unset, .unset, .unset, .unset, .unset, .unset, .unset, .unset, .unset, .unset] [(.int (0 : Int32))])) (fun tT_ kK_ => XS.iconst X0.here hx rfl (hb hby at_65) kK_) ?_
        refine own_st (A := T0.setTop (mkF mM 68 #[.val (.long nu), .second, .val (.int x2), .val (.int x3), .val (.int x4), .val (.int x5), .val (.int fl), .val (.ref jo), .val (.int fr8), .val (.int (0 : Int32)), .val (.int (0 : Int32)), .val (.int (0 : Int32)), .unset, .unset, .unset, .unset, .unset, .unset, .unset, .unset, .unset, .unset] [])) (fun tT_ kK_ => XS.istore X0.here hx rfl (hb hby at_66) rfl (l' := #[.val (.long nu), .second, .val (.int x2), .val (.int x3), .val (.int x4), .val (.int x5), .val (.int fl), .val (.ref jo), .val (.int fr8), .val (.int (0 : Int32)), .val (.int (0 : Int32)), .val (.int (0 : Int32)), .unset, .unset, .unset, .unset, .unset, .unset, .unset, .unset, .unset, .unset]) rfl kK_) ?_
        refine own_st (A := T0.setTop (mkF mM 70 #[.val (.long nu), .second, .val (.int x2), .val (.int x3), .val (.int x4), .val (.int x5), .val (.int fl), .val (.ref jo), .val (.int fr8), .val (.int (0 : Int32)), .val (.int (0 : Int32)), .val (.int (0 : Int32)), .unset, .unset, .unset, .unset, .unset, .unset, .unset, .unset, .unset, .unset] [(.int fl)])) (fun tT_ kK_ => XS.iload X0.here hx rfl (hb hby at_68) rfl kK_) ?_
        refine own_st (A := T0.setTop (mkF mM 72 #[.val (.long nu), .second, .val (.int x2), .val (.int x3), .val (.int x4), .val (.int x5), .val (.int fl), .val (.ref jo), .val (.int fr8), .val (.int (0 : Int32)), .val (.int (0 : Int32)), .val (.int (0 : Int32)), .unset, .unset, .unset, .unset, .unset, .unset, .unset, .unset, .unset, .unset] [(.int (8 : Int32)), (.int fl)])) (fun tT_ kK_ => XS.bipush X0.here hx rfl (hb hby at_70) kK_) ?_
        refine own_st (A := T0.setTop (mkF mM 73 #[.val (.long nu), .second, .val (.int x2), .val (.int x3), .val (.int x4), .val (.int x5), .val (.int fl), .val (.ref jo), .val (.int fr8), .val (.int (0 : Int32)), .val (.int (0 : Int32)), .val (.int (0 : Int32)), .unset, .unset, .unset, .unset, .unset, .unset, .unset, .unset, .unset, .unset] [(.int (fl &&& (8 : Int32)))])) (fun tT_ kK_ => XS.iand X0.here hx rfl (hb hby at_72) rfl kK_) ?_
        by_cases hc73_137 : (fl &&& (8 : Int32)) = (0 : Int32)
        · skip
          refine own_st (A := T0.setTop (mkF mM 80 #[.val (.long nu), .second, .val (.int x2), .val (.int x3), .val (.int x4), .val (.int x5), .val (.int fl), .val (.ref jo), .val (.int fr8), .val (.int (0 : Int32)), .val (.int (0 : Int32)), .val (.int (0 : Int32)), .unset, .unset, .unset, .unset, .unset, .unset, .unset, .unset, .unset, .unset] [])) (fun tT_ kK_ => XS.ifYes X0.here hx rfl (pc0 := 73) (pc' := 80) rfl (hb hby at_73) rfl ((if0 _ _).trans (teq hc73_137).1) (by decide) (by decide) kK_) ?_
          refine own_st (A := T0.setTop (mkF mM 81 #[.val (.long nu), .second, .val (.int x2), .val (.int x3), .val (.int x4), .val (.int x5), .val (.int fl), .val (.ref jo), .val (.int fr8), .val (.int (0 : Int32)), .val (.int (0 : Int32)), .val (.int (0 : Int32)), .unset, .unset, .unset, .unset, .unset, .unset, .unset, .unset, .unset, .unset] [(.int (0 : Int32))])) (fun tT_ kK_ => XS.iconst X0.here hx rfl (hb hby at_80) kK_) ?_
          refine own_st (A := T0.setTop (mkF mM 83 #[.val (.long nu), .second, .val (.int x2), .val (.int x3), .val (.int x4), .val (.int x5), .val (.int fl), .val (.ref jo), .val (.int fr8), .val (.int (0 : Int32)), .val (.int (0 : Int32)), .val (.int (0 : Int32)), .val (.int (0 : Int32)), .unset, .unset, .unset, .unset, .unset, .unset, .unset, .unset, .unset] [])) (fun tT_ kK_ => XS.istore X0.here hx rfl (hb hby at_81) rfl (l' := #[.val (.long nu), .second, .val (.int x2), .val (.int x3), .val (.int x4), .val (.int x5), .val (.int fl), .val (.ref jo), .val (.int fr8), .val (.int (0 : Int32)), .val (.int (0 : Int32)), .val (.int (0 : Int32)), .val (.int (0 : Int32)), .unset, .unset, .unset, .unset, .unset, .unset, .unset, .unset, .unset]) rfl kK_) ?_
          exact J83 hw X0 hx hZ hby hml hown hlk hret e0 N0 nu x2 x3 x4 x5 fl jo fr8 0 0 0 0 em ca cc r f Zn O S_e oe S_h S_c BX g_jo jb hf8 (Or.inl rfl) (Or.inl rfl) (Or.inl rfl) (Or.inl rfl)
        · skip
          refine own_st (A := T0.setTop (mkF mM 76 #[.val (.long nu), .second, .val (.int x2), .val (.int x3), .val (.int x4), .val (.int x5), .val (.int fl), .val (.ref jo), .val (.int fr8), .val (.int (0 : Int32)), .val (.int (0 : Int32)), .val (.int (0 : Int32)), .unset, .unset, .unset, .unset, .unset, .unset, .unset, .unset, .unset, .unset] [])) (fun tT_ kK_ => XS.ifNo X0.here hx rfl (hb hby at_73) rfl ((if0 _ _).trans (feq hc73_137).1) kK_) ?_
          refine own_st (A := T0.setTop (mkF mM 77 #[.val (.long nu), .second, .val (.int x2), .val (.int x3), .val (.int x4), .val (.int x5), .val (.int fl), .val (.ref jo), .val (.int fr8), .val (.int (0 : Int32)), .val (.int (0 : Int32)), .val (.int (0 : Int32)), .unset, .unset, .unset, .unset, .unset, .unset, .unset, .unset, .unset, .unset] [(.int (1 : Int32))])) (fun tT_ kK_ => XS.iconst X0.here hx rfl (hb hby at_76) kK_) ?_
          refine own_st (A := T0.setTop (mkF mM 81 #[.val (.long nu), .second, .val (.int x2), .val (.int x3), .val (.int x4), .val (.int x5), .val (.int fl), .val (.ref jo), .val (.int fr8), .val (.int (0 : Int32)), .val (.int (0 : Int32)), .val (.int (0 : Int32)), .unset, .unset, .unset, .unset, .unset, .unset, .unset, .unset, .unset, .unset] [(.int (1 : Int32))])) (fun tT_ kK_ => XS.goto X0.here hx rfl (pc0 := 77) (pc' := 81) rfl (hb hby at_77) (by decide) (by decide) kK_) ?_
          refine own_st (A := T0.setTop (mkF mM 83 #[.val (.long nu), .second, .val (.int x2), .val (.int x3), .val (.int x4), .val (.int x5), .val (.int fl), .val (.ref jo), .val (.int fr8), .val (.int (0 : Int32)), .val (.int (0 : Int32)), .val (.int (0 : Int32)), .val (.int (1 : Int32)), .unset, .unset, .unset, .unset, .unset, .unset, .unset, .unset, .unset] [])) (fun tT_ kK_ => XS.istore X0.here hx rfl (hb hby at_81) rfl (l' := #[.val (.long nu), .second, .val (.int x2), .val (.int x3), .val (.int x4), .val (.int x5), .val (.int fl), .val (.ref jo), .val (.int fr8), .val (.int (0 : Int32)), .val (.int (0 : Int32)), .val (.int (0 : Int32)), .val (.int (1 : Int32)), .unset, .unset, .unset, .unset, .unset, .unset, .unset, .unset, .unset]) rfl kK_) ?_
          exact J83 hw X0 hx hZ hby hml hown hlk hret e0 N0 nu x2 x3 x4 x5 fl jo fr8 0 0 0 1 em ca cc r f Zn O S_e oe S_h S_c BX g_jo jb hf8 (Or.inl rfl) (Or.inl rfl) (Or.inl rfl) (Or.inr rfl)
      · skip
        refine own_st (A := T0.setTop (mkF mM 61 #[.val (.long nu), .second, .val (.int x2), .val (.int x3), .val (.int x4), .val (.int x5), .val (.int fl), .val (.ref jo), .val (.int fr8), .val (.int (0 : Int32)), .val (.int (0 : Int32)), .unset, .unset, .unset, .unset, .unset, .unset, .unset, .unset, .unset, .unset, .unset] [])) (fun tT_ kK_ => XS.ifNo X0.here hx rfl (hb hby at_58) rfl ((if0 _ _).trans (feq hc58_136).1) kK_) ?_
        refine own_st (A := T0.setTop (mkF mM 62 #[.val (.long nu), .second, .val (.int x2), .val (.int x3), .val (.int x4), .val (.int x5), .val (.int fl), .val (.ref jo), .val (.int fr8), .val (.int (0 : Int32)), .val (.int (0 : Int32)), .unset, .unset, .unset, .unset, .unset, .unset, .unset, .unset, .unset, .unset, .unset] [(.int (1 : Int32))])) (fun tT_ kK_ => XS.iconst X0.here hx rfl (hb hby at_61) kK_) ?_
        refine own_st (A := T0.setTop (mkF mM 66 #[.val (.long nu), .second, .val (.int x2), .val (.int x3), .val (.int x4), .val (.int x5), .val (.int fl), .val (.ref jo), .val (.int fr8), .val (.int (0 : Int32)), .val (.int (0 : Int32)), .unset, .unset, .unset, .unset, .unset, .unset, .unset, .unset, .unset, .unset, .unset] [(.int (1 : Int32))])) (fun tT_ kK_ => XS.goto X0.here hx rfl (pc0 := 62) (pc' := 66) rfl (hb hby at_62) (by decide) (by decide) kK_) ?_
        refine own_st (A := T0.setTop (mkF mM 68 #[.val (.long nu), .second, .val (.int x2), .val (.int x3), .val (.int x4), .val (.int x5), .val (.int fl), .val (.ref jo), .val (.int fr8), .val (.int (0 : Int32)), .val (.int (0 : Int32)), .val (.int (1 : Int32)), .unset, .unset, .unset, .unset, .unset, .unset, .unset, .unset, .unset, .unset] [])) (fun tT_ kK_ => XS.istore X0.here hx rfl (hb hby at_66) rfl (l' := #[.val (.long nu), .second, .val (.int x2), .val (.int x3), .val (.int x4), .val (.int x5), .val (.int fl), .val (.ref jo), .val (.int fr8), .val (.int (0 : Int32)), .val (.int (0 : Int32)), .val (.int (1 : Int32)), .unset, .unset, .unset, .unset, .unset, .unset, .unset, .unset, .unset, .unset]) rfl kK_) ?_
        refine own_st (A := T0.setTop (mkF mM 70 #[.val (.long nu), .second, .val (.int x2), .val (.int x3), .val (.int x4), .val (.int x5), .val (.int fl), .val (.ref jo), .val (.int fr8), .val (.int (0 : Int32)), .val (.int (0 : Int32)), .val (.int (1 : Int32)), .unset, .unset, .unset, .unset, .unset, .unset, .unset, .unset, .unset, .unset] [(.int fl)])) (fun tT_ kK_ => XS.iload X0.here hx rfl (hb hby at_68) rfl kK_) ?_
        refine own_st (A := T0.setTop (mkF mM 72 #[.val (.long nu), .second, .val (.int x2), .val (.int x3), .val (.int x4), .val (.int x5), .val (.int fl), .val (.ref jo), .val (.int fr8), .val (.int (0 : Int32)), .val (.int (0 : Int32)), .val (.int (1 : Int32)), .unset, .unset, .unset, .unset, .unset, .unset, .unset, .unset, .unset, .unset] [(.int (8 : Int32)), (.int fl)])) (fun tT_ kK_ => XS.bipush X0.here hx rfl (hb hby at_70) kK_) ?_
        refine own_st (A := T0.setTop (mkF mM 73 #[.val (.long nu), .second, .val (.int x2), .val (.int x3), .val (.int x4), .val (.int x5), .val (.int fl), .val (.ref jo), .val (.int fr8), .val (.int (0 : Int32)), .val (.int (0 : Int32)), .val (.int (1 : Int32)), .unset, .unset, .unset, .unset, .unset, .unset, .unset, .unset, .unset, .unset] [(.int (fl &&& (8 : Int32)))])) (fun tT_ kK_ => XS.iand X0.here hx rfl (hb hby at_72) rfl kK_) ?_
        by_cases hc73_138 : (fl &&& (8 : Int32)) = (0 : Int32)
        · skip
          refine own_st (A := T0.setTop (mkF mM 80 #[.val (.long nu), .second, .val (.int x2), .val (.int x3), .val (.int x4), .val (.int x5), .val (.int fl), .val (.ref jo), .val (.int fr8), .val (.int (0 : Int32)), .val (.int (0 : Int32)), .val (.int (1 : Int32)), .unset, .unset, .unset, .unset, .unset, .unset, .unset, .unset, .unset, .unset] [])) (fun tT_ kK_ => XS.ifYes X0.here hx rfl (pc0 := 73) (pc' := 80) rfl (hb hby at_73) rfl ((if0 _ _).trans (teq hc73_138).1) (by decide) (by decide) kK_) ?_
          refine own_st (A := T0.setTop (mkF mM 81 #[.val (.long nu), .second, .val (.int x2), .val (.int x3), .val (.int x4), .val (.int x5), .val (.int fl), .val (.ref jo), .val (.int fr8), .val (.int (0 : Int32)), .val (.int (0 : Int32)), .val (.int (1 : Int32)), .unset, .unset, .unset, .unset, .unset, .unset, .unset, .unset, .unset, .unset] [(.int (0 : Int32))])) (fun tT_ kK_ => XS.iconst X0.here hx rfl (hb hby at_80) kK_) ?_
          refine own_st (A := T0.setTop (mkF mM 83 #[.val (.long nu), .second, .val (.int x2), .val (.int x3), .val (.int x4), .val (.int x5), .val (.int fl), .val (.ref jo), .val (.int fr8), .val (.int (0 : Int32)), .val (.int (0 : Int32)), .val (.int (1 : Int32)), .val (.int (0 : Int32)), .unset, .unset, .unset, .unset, .unset, .unset, .unset, .unset, .unset] [])) (fun tT_ kK_ => XS.istore X0.here hx rfl (hb hby at_81) rfl (l' := #[.val (.long nu), .second, .val (.int x2), .val (.int x3), .val (.int x4), .val (.int x5), .val (.int fl), .val (.ref jo), .val (.int fr8), .val (.int (0 : Int32)), .val (.int (0 : Int32)), .val (.int (1 : Int32)), .val (.int (0 : Int32)), .unset, .unset, .unset, .unset, .unset, .unset, .unset, .unset, .unset]) rfl kK_) ?_
          exact J83 hw X0 hx hZ hby hml hown hlk hret e0 N0 nu x2 x3 x4 x5 fl jo fr8 0 0 1 0 em ca cc r f Zn O S_e oe S_h S_c BX g_jo jb hf8 (Or.inl rfl) (Or.inl rfl) (Or.inr rfl) (Or.inl rfl)
        · skip
          refine own_st (A := T0.setTop (mkF mM 76 #[.val (.long nu), .second, .val (.int x2), .val (.int x3), .val (.int x4), .val (.int x5), .val (.int fl), .val (.ref jo), .val (.int fr8), .val (.int (0 : Int32)), .val (.int (0 : Int32)), .val (.int (1 : Int32)), .unset, .unset, .unset, .unset, .unset, .unset, .unset, .unset, .unset, .unset] [])) (fun tT_ kK_ => XS.ifNo X0.here hx rfl (hb hby at_73) rfl ((if0 _ _).trans (feq hc73_138).1) kK_) ?_
          refine own_st (A := T0.setTop (mkF mM 77 #[.val (.long nu), .second, .val (.int x2), .val (.int x3), .val (.int x4), .val (.int x5), .val (.int fl), .val (.ref jo), .val (.int fr8), .val (.int (0 : Int32)), .val (.int (0 : Int32)), .val (.int (1 : Int32)), .unset, .unset, .unset, .unset, .unset, .unset, .unset, .unset, .unset, .unset] [(.int (1 : Int32))])) (fun tT_ kK_ => XS.iconst X0.here hx rfl (hb hby at_76) kK_) ?_
          refine own_st (A := T0.setTop (mkF mM 81 #[.val (.long nu), .second, .val (.int x2), .val (.int x3), .val (.int x4), .val (.int x5), .val (.int fl), .val (.ref jo), .val (.int fr8), .val (.int (0 : Int32)), .val (.int (0 : Int32)), .val (.int (1 : Int32)), .unset, .unset, .unset, .unset, .unset, .unset, .unset, .unset, .unset, .unset] [(.int (1 : Int32))])) (fun tT_ kK_ => XS.goto X0.here hx rfl (pc0 := 77) (pc' := 81) rfl (hb hby at_77) (by decide) (by decide) kK_) ?_
          refine own_st (A := T0.setTop (mkF mM 83 #[.val (.long nu), .second, .val (.int x2), .val (.int x3), .val (.int x4), .val (.int x5), .val (.int fl), .val (.ref jo), .val (.int fr8), .val (.int (0 : Int32)), .val (.int (0 : Int32)), .val (.int (1 : Int32)), .val (.int (1 : Int32)), .unset, .unset, .unset, .unset, .unset, .unset, .unset, .unset, .unset] [])) (fun tT_ kK_ => XS.istore X0.here hx rfl (hb hby at_81) rfl (l' := #[.val (.long nu), .second, .val (.int x2), .val (.int x3), .val (.int x4), .val (.int x5), .val (.int fl), .val (.ref jo), .val (.int fr8), .val (.int (0 : Int32)), .val (.int (0 : Int32)), .val (.int (1 : Int32)), .val (.int (1 : Int32)), .unset, .unset, .unset, .unset, .unset, .unset, .unset, .unset, .unset]) rfl kK_) ?_
          exact J83 hw X0 hx hZ hby hml hown hlk hret e0 N0 nu x2 x3 x4 x5 fl jo fr8 0 0 1 1 em ca cc r f Zn O S_e oe S_h S_c BX g_jo jb hf8 (Or.inl rfl) (Or.inl rfl) (Or.inr rfl) (Or.inr rfl)
    · skip
      refine own_st (A := T0.setTop (mkF mM 47 #[.val (.long nu), .second, .val (.int x2), .val (.int x3), .val (.int x4), .val (.int x5), .val (.int fl), .val (.ref jo), .val (.int fr8), .val (.int (0 : Int32)), .unset, .unset, .unset, .unset, .unset, .unset, .unset, .unset, .unset, .unset, .unset, .unset] [])) (fun tT_ kK_ => XS.ifNo X0.here hx rfl (hb hby at_44) rfl ((if0 _ _).trans (feq hc44_135).1) kK_) ?_
      refine own_st (A := T0.setTop (mkF mM 48 #[.val (.long nu), .second, .val (.int x2), .val (.int x3), .val (.int x4), .val (.int x5), .val (.int fl), .val (.ref jo), .val (.int fr8), .val (.int (0 : Int32)), .unset, .unset, .unset, .unset, .unset, .unset, .unset, .unset, .unset, .unset, .unset, .unset] [(.int (1 : Int32))])) (fun tT_ kK_ => XS.iconst X0.here hx rfl (hb hby at_47) kK_) ?_
      refine own_st (A := T0.setTop (mkF mM 52 #[.val (.long nu), .second, .val (.int x2), .val (.int x3), .val (.int x4), .val (.int x5), .val (.int fl), .val (.ref jo), .val (.int fr8), .val (.int (0 : Int32)), .unset, .unset, .unset, .unset, .unset, .unset, .unset, .unset, .unset, .unset, .unset, .unset] [(.int (1 : Int32))])) (fun tT_ kK_ => XS.goto X0.here hx rfl (pc0 := 48) (pc' := 52) rfl (hb hby at_48) (by decide) (by decide) kK_) ?_
      refine own_st (A := T0.setTop (mkF mM 54 #[.val (.long nu), .second, .val (.int x2), .val (.int x3), .val (.int x4), .val (.int x5), .val (.int fl), .val (.ref jo), .val (.int fr8), .val (.int (0 : Int32)), .val (.int (1 : Int32)), .unset, .unset, .unset, .unset, .unset, .unset, .unset, .unset, .unset, .unset, .unset] [])) (fun tT_ kK_ => XS.istore X0.here hx rfl (hb hby at_52) rfl (l' := #[.val (.long nu), .second, .val (.int x2), .val (.int x3), .val (.int x4), .val (.int x5), .val (.int fl), .val (.ref jo), .val (.int fr8), .val (.int (0 : Int32)), .val (.int (1 : Int32)), .unset, .unset, .unset, .unset, .unset, .unset, .unset, .unset, .unset, .unset, .unset]) rfl kK_) ?_
      refine own_st (A := T0.setTop (mkF mM 56 #[.val (.long nu), .second, .val (.int x2), .val (.int x3), .val (.int x4), .val (.int x5), .val (.int fl), .val (.ref jo), .val (.int fr8), .val (.int (0 : Int32)), .val (.int (1 : Int32)), .unset, .unset, .unset, .unset, .unset, .unset, .unset, .unset, .unset, .unset, .unset] [(.int fl)])) (fun tT_ kK_ => XS.iload X0.here hx rfl (hb hby at_54) rfl kK_) ?_
      refine own_st (A := T0.setTop (mkF mM 57 #[.val (.long nu), .second, .val (.int x2), .val (.int x3), .val (.int x4), .val (.int x5), .val (.int fl), .val (.ref jo), .val (.int fr8), .val (.int (0 : Int32)), .val (.int (1 : Int32)), .unset, .unset, .unset, .unset, .unset, .unset, .unset, .unset, .unset, .unset, .unset] [(.int (4 : Int32)), (.int fl)])) (fun tT_ kK_ => XS.iconst X0.here hx rfl (hb hby at_56) kK_) ?_
      refine own_st (A := T0.setTop (mkF mM 58 #[.val (.long nu), .second, .val (.int x2), .val (.int x3), .val (.int x4), .val (.int x5), .val (.int fl), .val (.ref jo), .val (.int fr8), .val (.int (0 : Int32)), .val (.int (1 : Int32)), .unset, .unset, .unset, .unset, .unset, .unset, .unset, .unset, .unset, .unset, .unset] [(.int (fl &&& (4 : Int32)))])) (fun tT_ kK_ => XS.iand X0.here hx rfl (hb hby at_57) rfl kK_) ?_
      by_cases hc58_139 : (fl &&& (4 : Int32)) = (0 : Int32)
      · skip
        refine own_st (A := T0.setTop (mkF mM 65 #[.val (.long nu), .second, .val (.int x2), .val (.int x3), .val (.int x4), .val (.int x5), .val (.int fl), .val (.ref jo), .val (.int fr8), .val (.int (0 : Int32)), .val (.int (1 : Int32)), .unset, .unset, .unset, .unset, .unset, .unset, .unset, .unset, .unset, .unset, .unset] [])) (fun tT_ kK_ => XS.ifYes X0.here hx rfl (pc0 := 58) (pc' := 65) rfl (hb hby at_58) rfl ((if0 _ _).trans (teq hc58_139).1) (by decide) (by decide) kK_) ?_
        refine own_st (A := T0.setTop (mkF mM 66 #[.val (.long nu), .second, .val (.int x2), .val (.int x3), .val (.int x4), .val (.int x5), .val (.int fl), .val (.ref jo), .val (.int fr8), .val (.int (0 : Int32)), .val (.int (1 : Int32)), .unset, .unset, .unset, .unset, .unset, .unset, .unset, .unset, .unset, .unset, .unset] [(.int (0 : Int32))])) (fun tT_ kK_ => XS.iconst X0.here hx rfl (hb hby at_65) kK_) ?_
        refine own_st (A := T0.setTop (mkF mM 68 #[.val (.long nu), .second, .val (.int x2), .val (.int x3), .val (.int x4), .val (.int x5), .val (.int fl), .val (.ref jo), .val (.int fr8), .val (.int (0 : Int32)), .val (.int (1 : Int32)), .val (.int (0 : Int32)), .unset, .unset, .unset, .unset, .unset, .unset, .unset, .unset, .unset, .unset] [])) (fun tT_ kK_ => XS.istore X0.here hx rfl (hb hby at_66) rfl (l' := #[.val (.long nu), .second, .val (.int x2), .val (.int x3), .val (.int x4), .val (.int x5), .val (.int fl), .val (.ref jo), .val (.int fr8), .val (.int (0 : Int32)), .val (.int (1 : Int32)), .val (.int (0 : Int32)), .unset, .unset, .unset, .unset, .unset, .unset, .unset, .unset, .unset, .unset]) rfl kK_) ?_
        refine own_st (A := T0.setTop (mkF mM 70 #[.val (.long nu), .second, .val (.int x2), .val (.int x3), .val (.int x4), .val (.int x5), .val (.int fl), .val (.ref jo), .val (.int fr8), .val (.int (0 : Int32)), .val (.int (1 : Int32)), .val (.int (0 : Int32)), .unset, .unset, .unset, .unset, .unset, .unset, .unset, .unset, .unset, .unset] [(.int fl)])) (fun tT_ kK_ => XS.iload X0.here hx rfl (hb hby at_68) rfl kK_) ?_
        refine own_st (A := T0.setTop (mkF mM 72 #[.val (.long nu), .second, .val (.int x2), .val (.int x3), .val (.int x4), .val (.int x5), .val (.int fl), .val (.ref jo), .val (.int fr8), .val (.int (0 : Int32)), .val (.int (1 : Int32)), .val (.int (0 : Int32)), .unset, .unset, .unset, .unset, .unset, .unset, .unset, .unset, .unset, .unset] [(.int (8 : Int32)), (.int fl)])) (fun tT_ kK_ => XS.bipush X0.here hx rfl (hb hby at_70) kK_) ?_
        refine own_st (A := T0.setTop (mkF mM 73 #[.val (.long nu), .second, .val (.int x2), .val (.int x3), .val (.int x4), .val (.int x5), .val (.int fl), .val (.ref jo), .val (.int fr8), .val (.int (0 : Int32)), .val (.int (1 : Int32)), .val (.int (0 : Int32)), .unset, .unset, .unset, .unset, .unset, .unset, .unset, .unset, .unset, .unset] [(.int (fl &&& (8 : Int32)))])) (fun tT_ kK_ => XS.iand X0.here hx rfl (hb hby at_72) rfl kK_) ?_
        by_cases hc73_140 : (fl &&& (8 : Int32)) = (0 : Int32)
        · skip
          refine own_st (A := T0.setTop (mkF mM 80 #[.val (.long nu), .second, .val (.int x2), .val (.int x3), .val (.int x4), .val (.int x5), .val (.int fl), .val (.ref jo), .val (.int fr8), .val (.int (0 : Int32)), .val (.int (1 : Int32)), .val (.int (0 : Int32)), .unset, .unset, .unset, .unset, .unset, .unset, .unset, .unset, .unset, .unset] [])) (fun tT_ kK_ => XS.ifYes X0.here hx rfl (pc0 := 73) (pc' := 80) rfl (hb hby at_73) rfl ((if0 _ _).trans (teq hc73_140).1) (by decide) (by decide) kK_) ?_
          refine own_st (A := T0.setTop (mkF mM 81 #[.val (.long nu), .second, .val (.int x2), .val (.int x3), .val (.int x4), .val (.int x5), .val (.int fl), .val (.ref jo), .val (.int fr8), .val (.int (0 : Int32)), .val (.int (1 : Int32)), .val (.int (0 : Int32)), .unset, .unset, .unset, .unset, .unset, .unset, .unset, .unset, .unset, .unset] [(.int (0 : Int32))])) (fun tT_ kK_ => XS.iconst X0.here hx rfl (hb hby at_80) kK_) ?_
          refine own_st (A := T0.setTop (mkF mM 83 #[.val (.long nu), .second, .val (.int x2), .val (.int x3), .val (.int x4), .val (.int x5), .val (.int fl), .val (.ref jo), .val (.int fr8), .val (.int (0 : Int32)), .val (.int (1 : Int32)), .val (.int (0 : Int32)), .val (.int (0 : Int32)), .unset, .unset, .unset, .unset, .unset, .unset, .unset, .unset, .unset] [])) (fun tT_ kK_ => XS.istore X0.here hx rfl (hb hby at_81) rfl (l' := #[.val (.long nu), .second, .val (.int x2), .val (.int x3), .val (.int x4), .val (.int x5), .val (.int fl), .val (.ref jo), .val (.int fr8), .val (.int (0 : Int32)), .val (.int (1 : Int32)), .val (.int (0 : Int32)), .val (.int (0 : Int32)), .unset, .unset, .unset, .unset, .unset, .unset, .unset, .unset, .unset]) rfl kK_) ?_
          exact J83 hw X0 hx hZ hby hml hown hlk hret e0 N0 nu x2 x3 x4 x5 fl jo fr8 0 1 0 0 em ca cc r f Zn O S_e oe S_h S_c BX g_jo jb hf8 (Or.inl rfl) (Or.inr rfl) (Or.inl rfl) (Or.inl rfl)
        · skip
          refine own_st (A := T0.setTop (mkF mM 76 #[.val (.long nu), .second, .val (.int x2), .val (.int x3), .val (.int x4), .val (.int x5), .val (.int fl), .val (.ref jo), .val (.int fr8), .val (.int (0 : Int32)), .val (.int (1 : Int32)), .val (.int (0 : Int32)), .unset, .unset, .unset, .unset, .unset, .unset, .unset, .unset, .unset, .unset] [])) (fun tT_ kK_ => XS.ifNo X0.here hx rfl (hb hby at_73) rfl ((if0 _ _).trans (feq hc73_140).1) kK_) ?_
          refine own_st (A := T0.setTop (mkF mM 77 #[.val (.long nu), .second, .val (.int x2), .val (.int x3), .val (.int x4), .val (.int x5), .val (.int fl), .val (.ref jo), .val (.int fr8), .val (.int (0 : Int32)), .val (.int (1 : Int32)), .val (.int (0 : Int32)), .unset, .unset, .unset, .unset, .unset, .unset, .unset, .unset, .unset, .unset] [(.int (1 : Int32))])) (fun tT_ kK_ => XS.iconst X0.here hx rfl (hb hby at_76) kK_) ?_
          refine own_st (A := T0.setTop (mkF mM 81 #[.val (.long nu), .second, .val (.int x2), .val (.int x3), .val (.int x4), .val (.int x5), .val (.int fl), .val (.ref jo), .val (.int fr8), .val (.int (0 : Int32)), .val (.int (1 : Int32)), .val (.int (0 : Int32)), .unset, .unset, .unset, .unset, .unset, .unset, .unset, .unset, .unset, .unset] [(.int (1 : Int32))])) (fun tT_ kK_ => XS.goto X0.here hx rfl (pc0 := 77) (pc' := 81) rfl (hb hby at_77) (by decide) (by decide) kK_) ?_
          refine own_st (A := T0.setTop (mkF mM 83 #[.val (.long nu), .second, .val (.int x2), .val (.int x3), .val (.int x4), .val (.int x5), .val (.int fl), .val (.ref jo), .val (.int fr8), .val (.int (0 : Int32)), .val (.int (1 : Int32)), .val (.int (0 : Int32)), .val (.int (1 : Int32)), .unset, .unset, .unset, .unset, .unset, .unset, .unset, .unset, .unset] [])) (fun tT_ kK_ => XS.istore X0.here hx rfl (hb hby at_81) rfl (l' := #[.val (.long nu), .second, .val (.int x2), .val (.int x3), .val (.int x4), .val (.int x5), .val (.int fl), .val (.ref jo), .val (.int fr8), .val (.int (0 : Int32)), .val (.int (1 : Int32)), .val (.int (0 : Int32)), .val (.int (1 : Int32)), .unset, .unset, .unset, .unset, .unset, .unset, .unset, .unset, .unset]) rfl kK_) ?_
          exact J83 hw X0 hx hZ hby hml hown hlk hret e0 N0 nu x2 x3 x4 x5 fl jo fr8 0 1 0 1 em ca cc r f Zn O S_e oe S_h S_c BX g_jo jb hf8 (Or.inl rfl) (Or.inr rfl) (Or.inl rfl) (Or.inr rfl)
      · skip
        refine own_st (A := T0.setTop (mkF mM 61 #[.val (.long nu), .second, .val (.int x2), .val (.int x3), .val (.int x4), .val (.int x5), .val (.int fl), .val (.ref jo), .val (.int fr8), .val (.int (0 : Int32)), .val (.int (1 : Int32)), .unset, .unset, .unset, .unset, .unset, .unset, .unset, .unset, .unset, .unset, .unset] [])) (fun tT_ kK_ => XS.ifNo X0.here hx rfl (hb hby at_58) rfl ((if0 _ _).trans (feq hc58_139).1) kK_) ?_
        refine own_st (A := T0.setTop (mkF mM 62 #[.val (.long nu), .second, .val (.int x2), .val (.int x3), .val (.int x4), .val (.int x5), .val (.int fl), .val (.ref jo), .val (.int fr8), .val (.int (0 : Int32)), .val (.int (1 : Int32)), .unset, .unset, .unset, .unset, .unset, .unset, .unset, .unset, .unset, .unset, .unset] [(.int (1 : Int32))])) (fun tT_ kK_ => XS.iconst X0.here hx rfl (hb hby at_61) kK_) ?_
        refine own_st (A := T0.setTop (mkF mM 66 #[.val (.long nu), .second, .val (.int x2), .val (.int x3), .val (.int x4), .val (.int x5), .val (.int fl), .val (.ref jo), .val (.int fr8), .val (.int (0 : Int32)), .val (.int (1 : Int32)), .unset, .unset, .unset, .unset, .unset, .unset, .unset, .unset, .unset, .unset, .unset] [(.int (1 : Int32))])) (fun tT_ kK_ => XS.goto X0.here hx rfl (pc0 := 62) (pc' := 66) rfl (hb hby at_62) (by decide) (by decide) kK_) ?_
        refine own_st (A := T0.setTop (mkF mM 68 #[.val (.long nu), .second, .val (.int x2), .val (.int x3), .val (.int x4), .val (.int x5), .val (.int fl), .val (.ref jo), .val (.int fr8), .val (.int (0 : Int32)), .val (.int (1 : Int32)), .val (.int (1 : Int32)), .unset, .unset, .unset, .unset, .unset, .unset, .unset, .unset, .unset, .unset] [])) (fun tT_ kK_ => XS.istore X0.here hx rfl (hb hby at_66) rfl (l' := #[.val (.long nu), .second, .val (.int x2), .val (.int x3), .val (.int x4), .val (.int x5), .val (.int fl), .val (.ref jo), .val (.int fr8), .val (.int (0 : Int32)), .val (.int (1 : Int32)), .val (.int (1 : Int32)), .unset, .unset, .unset, .unset, .unset, .unset, .unset, .unset, .unset, .unset]) rfl kK_) ?_
        refine own_st (A := T0.setTop (mkF mM 70 #[.val (.long nu), .second, .val (.int x2), .val (.int x3), .val (.int x4), .val (.int x5), .val (.int fl), .val (.ref jo), .val (.int fr8), .val (.int (0 : Int32)), .val (.int (1 : Int32)), .val (.int (1 : Int32)), .unset, .unset, .unset, .unset, .unset, .unset, .unset, .unset, .unset, .unset] [(.int fl)])) (fun tT_ kK_ => XS.iload X0.here hx rfl (hb hby at_68) rfl kK_) ?_
        refine own_st (A := T0.setTop (mkF mM 72 #[.val (.long nu), .second, .val (.int x2), .val (.int x3), .val (.int x4), .val (.int x5), .val (.int fl), .val (.ref jo), .val (.int fr8), .val (.int (0 : Int32)), .val (.int (1 : Int32)), .val (.int (1 : Int32)), .unset, .unset, .unset, .unset, .unset, .unset, .unset, .unset, .unset, .unset] [(.int (8 : Int32)), (.int fl)])) (fun tT_ kK_ => XS.bipush X0.here hx rfl (hb hby at_70) kK_) ?_
        refine own_st (A := T0.setTop (mkF mM 73 #[.val (.long nu), .second, .val (.int x2), .val (.int x3), .val (.int x4), .val (.int x5), .val (.int fl), .val (.ref jo), .val (.int fr8), .val (.int (0 : Int32)), .val (.int (1 : Int32)), .val (.int (1 : Int32)), .unset, .unset, .unset, .unset, .unset, .unset, .unset, .unset, .unset, .unset] [(.int (fl &&& (8 : Int32)))])) (fun tT_ kK_ => XS.iand X0.here hx rfl (hb hby at_72) rfl kK_) ?_
        by_cases hc73_141 : (fl &&& (8 : Int32)) = (0 : Int32)
        · skip
          refine own_st (A := T0.setTop (mkF mM 80 #[.val (.long nu), .second, .val (.int x2), .val (.int x3), .val (.int x4), .val (.int x5), .val (.int fl), .val (.ref jo), .val (.int fr8), .val (.int (0 : Int32)), .val (.int (1 : Int32)), .val (.int (1 : Int32)), .unset, .unset, .unset, .unset, .unset, .unset, .unset, .unset, .unset, .unset] [])) (fun tT_ kK_ => XS.ifYes X0.here hx rfl (pc0 := 73) (pc' := 80) rfl (hb hby at_73) rfl ((if0 _ _).trans (teq hc73_141).1) (by decide) (by decide) kK_) ?_
          refine own_st (A := T0.setTop (mkF mM 81 #[.val (.long nu), .second, .val (.int x2), .val (.int x3), .val (.int x4), .val (.int x5), .val (.int fl), .val (.ref jo), .val (.int fr8), .val (.int (0 : Int32)), .val (.int (1 : Int32)), .val (.int (1 : Int32)), .unset, .unset, .unset, .unset, .unset, .unset, .unset, .unset, .unset, .unset] [(.int (0 : Int32))])) (fun tT_ kK_ => XS.iconst X0.here hx rfl (hb hby at_80) kK_) ?_
          refine own_st (A := T0.setTop (mkF mM 83 #[.val (.long nu), .second, .val (.int x2), .val (.int x3), .val (.int x4), .val (.int x5), .val (.int fl), .val (.ref jo), .val (.int fr8), .val (.int (0 : Int32)), .val (.int (1 : Int32)), .val (.int (1 : Int32)), .val (.int (0 : Int32)), .unset, .unset, .unset, .unset, .unset, .unset, .unset, .unset, .unset] [])) (fun tT_ kK_ => XS.istore X0.here hx rfl (hb hby at_81) rfl (l' := #[.val (.long nu), .second, .val (.int x2), .val (.int x3), .val (.int x4), .val (.int x5), .val (.int fl), .val (.ref jo), .val (.int fr8), .val (.int (0 : Int32)), .val (.int (1 : Int32)), .val (.int (1 : Int32)), .val (.int (0 : Int32)), .unset, .unset, .unset, .unset, .unset, .unset, .unset, .unset, .unset]) rfl kK_) ?_
          exact J83 hw X0 hx hZ hby hml hown hlk hret e0 N0 nu x2 x3 x4 x5 fl jo fr8 0 1 1 0 em ca cc r f Zn O S_e oe S_h S_c BX g_jo jb hf8 (Or.inl rfl) (Or.inr rfl) (Or.inr rfl) (Or.inl rfl)
        · skip
          refine own_st (A := T0.setTop (mkF mM 76 #[.val (.long nu), .second, .val (.int x2), .val (.int x3), .val (.int x4), .val (.int x5), .val (.int fl), .val (.ref jo), .val (.int fr8), .val (.int (0 : Int32)), .val (.int (1 : Int32)), .val (.int (1 : Int32)), .unset, .unset, .unset, .unset, .unset, .unset, .unset, .unset, .unset, .unset] [])) (fun tT_ kK_ => XS.ifNo X0.here hx rfl (hb hby at_73) rfl ((if0 _ _).trans (feq hc73_141).1) kK_) ?_
          refine own_st (A := T0.setTop (mkF mM 77 #[.val (.long nu), .second, .val (.int x2), .val (.int x3), .val (.int x4), .val (.int x5), .val (.int fl), .val (.ref jo), .val (.int fr8), .val (.int (0 : Int32)), .val (.int (1 : Int32)), .val (.int (1 : Int32)), .unset, .unset, .unset, .unset, .unset, .unset, .unset, .unset, .unset, .unset] [(.int (1 : Int32))])) (fun tT_ kK_ => XS.iconst X0.here hx rfl (hb hby at_76) kK_) ?_
          refine own_st (A := T0.setTop (mkF mM 81 #[.val (.long nu), .second, .val (.int x2), .val (.int x3), .val (.int x4), .val (.int x5), .val (.int fl), .val (.ref jo), .val (.int fr8), .val (.int (0 : Int32)), .val (.int (1 : Int32)), .val (.int (1 : Int32)), .unset, .unset, .unset, .unset, .unset, .unset, .unset, .unset, .unset, .unset] [(.int (1 : Int32))])) (fun tT_ kK_ => XS.goto X0.here hx rfl (pc0 := 77) (pc' := 81) rfl (hb hby at_77) (by decide) (by decide) kK_) ?_
          refine own_st (A := T0.setTop (mkF mM 83 #[.val (.long nu), .second, .val (.int x2), .val (.int x3), .val (.int x4), .val (.int x5), .val (.int fl), .val (.ref jo), .val (.int fr8), .val (.int (0 : Int32)), .val (.int (1 : Int32)), .val (.int (1 : Int32)), .val (.int (1 : Int32)), .unset, .unset, .unset, .unset, .unset, .unset, .unset, .unset, .unset] [])) (fun tT_ kK_ => XS.istore X0.here hx rfl (hb hby at_81) rfl (l' := #[.val (.long nu), .second, .val (.int x2), .val (.int x3), .val (.int x4), .val (.int x5), .val (.int fl), .val (.ref jo), .val (.int fr8), .val (.int (0 : Int32)), .val (.int (1 : Int32)), .val (.int (1 : Int32)), .val (.int (1 : Int32)), .unset, .unset, .unset, .unset, .unset, .unset, .unset, .unset, .unset]) rfl kK_) ?_
          exact J83 hw X0 hx hZ hby hml hown hlk hret e0 N0 nu x2 x3 x4 x5 fl jo fr8 0 1 1 1 em ca cc r f Zn O S_e oe S_h S_c BX g_jo jb hf8 (Or.inl rfl) (Or.inr rfl) (Or.inr rfl) (Or.inr rfl)
  · skip
    refine own_st (A := T0.setTop (mkF mM 33 #[.val (.long nu), .second, .val (.int x2), .val (.int x3), .val (.int x4), .val (.int x5), .val (.int fl), .val (.ref jo), .val (.int fr8), .unset, .unset, .unset, .unset, .unset, .unset, .unset, .unset, .unset, .unset, .unset, .unset, .unset] [])) (fun tT_ kK_ => XS.ifNo X0.here hx rfl (hb hby at_30) rfl ((if0 _ _).trans (feq hc30_134).1) kK_) ?_
    refine own_st (A := T0.setTop (mkF mM 34 #[.val (.long nu), .second, .val (.int x2), .val (.int x3), .val (.int x4), .val (.int x5), .val (.int fl), .val (.ref jo), .val (.int fr8), .unset, .unset, .unset, .unset, .unset, .unset, .unset, .unset, .unset, .unset, .unset, .unset, .unset] [(.int (1 : Int32))])) (fun tT_ kK_ => XS.iconst X0.here hx rfl (hb hby at_33) kK_) ?_
    refine own_st (A := T0.setTop (mkF mM 38 #[.val (.long nu), .second, .val (.int x2), .val (.int x3), .val (.int x4), .val (.int x5), .val (.int fl), .val (.ref jo), .val (.int fr8), .unset, .unset, .unset, .unset, .unset, .unset, .unset, .unset, .unset, .unset, .unset, .unset, .unset] [(.int (1 : Int32))])) (fun tT_ kK_ => XS.goto X0.here hx rfl (pc0 := 34) (pc' := 38) rfl (hb hby at_34) (by decide) (by decide) kK_) ?_
    refine own_st (A := T0.setTop (mkF mM 40 #[.val (.long nu), .second, .val (.int x2), .val (.int x3), .val (.int x4), .val (.int x5), .val (.int fl), .val (.ref jo), .val (.int fr8), .val (.int (1 : Int32)), .unset, .unset, .unset, .unset, .unset, .unset, .unset, .unset, .unset, .unset, .unset, .unset] [])) (fun tT_ kK_ => XS.istore X0.here hx rfl (hb hby at_38) rfl (l' := #[.val (.long nu), .second, .val (.int x2), .val (.int x3), .val (.int x4), .val (.int x5), .val (.int fl), .val (.ref jo), .val (.int fr8), .val (.int (1 : Int32)), .unset, .unset, .unset, .unset, .unset, .unset, .unset, .unset, .unset, .unset, .unset, .unset]) rfl kK_) ?_
    refine own_st (A := T0.setTop (mkF mM 42 #[.val (.long nu), .second, .val (.int x2), .val (.int x3), .val (.int x4), .val (.int x5), .val (.int fl), .val (.ref jo), .val (.int fr8), .val (.int (1 : Int32)), .unset, .unset, .unset, .unset, .unset, .unset, .unset, .unset, .unset, .unset, .unset, .unset] [(.int fl)])) (fun tT_ kK_ => XS.iload X0.here hx rfl (hb hby at_40) rfl kK_) ?_
    refine own_st (A := T0.setTop (mkF mM 43 #[.val (.long nu), .second, .val (.int x2), .val (.int x3), .val (.int x4), .val (.int x5), .val (.int fl), .val (.ref jo), .val (.int fr8), .val (.int (1 : Int32)), .unset, .unset, .unset, .unset, .unset, .unset, .unset, .unset, .unset, .unset, .unset, .unset] [(.int (2 : Int32)), (.int fl)])) (fun tT_ kK_ => XS.iconst X0.here hx rfl (hb hby at_42) kK_) ?_
    refine own_st (A := T0.setTop (mkF mM 44 #[.val (.long nu), .second, .val (.int x2), .val (.int x3), .val (.int x4), .val (.int x5), .val (.int fl), .val (.ref jo), .val (.int fr8), .val (.int (1 : Int32)), .unset, .unset, .unset, .unset, .unset, .unset, .unset, .unset, .unset, .unset, .unset, .unset] [(.int (fl &&& (2 : Int32)))])) (fun tT_ kK_ => XS.iand X0.here hx rfl (hb hby at_43) rfl kK_) ?_
    by_cases hc44_142 : (fl &&& (2 : Int32)) = (0 : Int32)
    · skip
      refine own_st (A := T0.setTop (mkF mM 51 #[.val (.long nu), .second, .val (.int x2), .val (.int x3), .val (.int x4), .val (.int x5), .val (.int fl), .val (.ref jo), .val (.int fr8), .val (.int (1 : Int32)), .unset, .unset, .unset, .unset, .unset, .unset, .unset, .unset, .unset, .unset, .unset, .unset] [])) (fun tT_ kK_ => XS.ifYes X0.here hx rfl (pc0 := 44) (pc' := 51) rfl (hb hby at_44) rfl ((if0 _ _).trans (teq hc44_142).1) (by decide) (by decide) kK_) ?_
      refine own_st (A := T0.setTop (mkF mM 52 #[.val (.long nu), .second, .val (.int x2), .val (.int x3), .val (.int x4), .val (.int x5), .val (.int fl), .val (.ref jo), .val (.int fr8), .val (.int (1 : Int32)), .unset, .unset, .unset, .unset, .unset, .unset, .unset, .unset, .unset, .unset, .unset, .unset] [(.int (0 : Int32))])) (fun tT_ kK_ => XS.iconst X0.here hx rfl (hb hby at_51) kK_) ?_
      refine own_st (A := T0.setTop (mkF mM 54 #[.val (.long nu), .second, .val (.int x2), .val (.int x3), .val (.int x4), .val (.int x5), .val (.int fl), .val (.ref jo), .val (.int fr8), .val (.int (1 : Int32)), .val (.int (0 : Int32)), .unset, .unset, .unset, .unset, .unset, .unset, .unset, .unset, .unset, .unset, .unset] [])) (fun tT_ kK_ => XS.istore X0.here hx rfl (hb hby at_52) rfl (l' := #[.val (.long nu), .second, .val (.int x2), .val (.int x3), .val (.int x4), .val (.int x5), .val (.int fl), .val (.ref jo), .val (.int fr8), .val (.int (1 : Int32)), .val (.int (0 : Int32)), .unset, .unset, .unset, .unset, .unset, .unset, .unset, .unset, .unset, .unset, .unset]) rfl kK_) ?_
      refine own_st (A := T0.setTop (mkF mM 56 #[.val (.long nu), .second, .val (.int x2), .val (.int x3), .val (.int x4), .val (.int x5), .val (.int fl), .val (.ref jo), .val (.int fr8), .val (.int (1 : Int32)), .val (.int (0 : Int32)), .unset, .unset, .unset, .unset, .unset, .unset, .unset, .unset, .unset, .unset, .unset] [(.int fl)])) (fun tT_ kK_ => XS.iload X0.here hx rfl (hb hby at_54) rfl kK_) ?_
      refine own_st (A := T0.setTop (mkF mM 57 #[.val (.long nu), .second, .val (.int x2), .val (.int x3), .val (.int x4), .val (.int x5), .val (.int fl), .val (.ref jo), .val (.int fr8), .val (.int (1 : Int32)), .val (.int (0 : Int32)), .unset, .unset, .unset, .unset, .unset, .unset, .unset, .unset, .unset, .unset, .unset] [(.int (4 : Int32)), (.int fl)])) (fun tT_ kK_ => XS.iconst X0.here hx rfl (hb hby at_56) kK_) ?_
      refine own_st (A := T0.setTop (mkF mM 58 #[.val (.long nu), .second, .val (.int x2), .val (.int x3), .val (.int x4), .val (.int x5), .val (.int fl), .val (.ref jo), .val (.int fr8), .val (.int (1 : Int32)), .val (.int (0 : Int32)), .unset, .unset, .unset, .unset, .unset, .unset, .unset, .unset, .unset, .unset, .unset] [(.int (fl &&& (4 : Int32)))])) (fun tT_ kK_ => XS.iand X0.here hx rfl (hb hby at_57) rfl kK_) ?_
      by_cases hc58_143 : (fl &&& (4 : Int32)) = (0 : Int32)
      · skip
        refine own_st (A := T0.setTop (mkF mM 65 #[.val (.long nu), .second, .val (.int x2), .val (.int x3), .val (.int x4), .val (.int x5), .val (.int fl), .val (.ref jo), .val (.int fr8), .val (.int (1 : Int32)), .val (.int (0 : Int32)), .unset, .unset, .unset, .unset, .unset, .unset, .unset, .unset, .unset, .unset, .unset] [])) (fun tT_ kK_ => XS.ifYes X0.here hx rfl (pc0 := 58) (pc' := 65) rfl (hb hby at_58) rfl ((if0 _ _).trans (teq hc58_143).1) (by decide) (by decide) kK_) ?_
        refine own_st (A := T0.setTop (mkF mM 66 #[.val (.long nu), .second, .val (.int x2), .val (.int x3), .val (.int x4), .val (.int x5), .val (.int fl), .val (.ref jo), .val (.int fr8), .val (.int (1 : Int32)), .val (.int (0 : Int32)), .unset, .unset, .unset, .unset, .unset, .unset, .unset, .unset, .unset, .unset, .unset] [(.int (0 : Int32))])) (fun tT_ kK_ => XS.iconst X0.here hx rfl (hb hby at_65) kK_) ?_
        refine own_st (A := T0.setTop (mkF mM 68 #[.val (.long nu), .second, .val (.int x2), .val (.int x3), .val (.int x4), .val (.int x5), .val (.int fl), .val (.ref jo), .val (.int fr8), .val (.int (1 : Int32)), .val (.int (0 : Int32)), .val (.int (0 : Int32)), .unset, .unset, .unset, .unset, .unset, .unset, .unset, .unset, .unset, .unset] [])) (fun tT_ kK_ => XS.istore X0.here hx rfl (hb hby at_66) rfl (l' := #[.val (.long nu), .second, .val (.int x2), .val (.int x3), .val (.int x4), .val (.int x5), .val (.int fl), .val (.ref jo), .val (.int fr8), .val (.int (1 : Int32)), .val (.int (0 : Int32)), .val (.int (0 : Int32)), .unset, .unset, .unset, .unset, .unset, .unset, .unset, .unset, .unset, .unset]) rfl kK_) ?_
        refine own_st (A := T0.setTop (mkF mM 70 #[.val (.long nu), .second, .val (.int x2), .val (.int x3), .val (.int x4), .val (.int x5), .val (.int fl), .val (.ref jo), .val (.int fr8), .val (.int (1 : Int32)), .val (.int (0 : Int32)), .val (.int (0 : Int32)), .unset, .unset, .unset, .unset, .unset, .unset, .unset, .unset, .unset, .unset] [(.int fl)])) (fun tT_ kK_ => XS.iload X0.here hx rfl (hb hby at_68) rfl kK_) ?_
        refine own_st (A := T0.setTop (mkF mM 72 #[.val (.long nu), .second, .val (.int x2), .val (.int x3), .val (.int x4), .val (.int x5), .val (.int fl), .val (.ref jo), .val (.int fr8), .val (.int (1 : Int32)), .val (.int (0 : Int32)), .val (.int (0 : Int32)), .unset, .unset, .unset, .unset, .unset, .unset, .unset, .unset, .unset, .unset] [(.int (8 : Int32)), (.int fl)])) (fun tT_ kK_ => XS.bipush X0.here hx rfl (hb hby at_70) kK_) ?_
        refine own_st (A := T0.setTop (mkF mM 73 #[.val (.long nu), .second, .val (.int x2), .val (.int x3), .val (.int x4), .val (.int x5), .val (.int fl), .val (.ref jo), .val (.int fr8), .val (.int (1 : Int32)), .val (.int (0 : Int32)), .val (.int (0 : Int32)), .unset, .unset, .unset, .unset, .unset, .unset, .unset, .unset, .unset, .unset] [(.int (fl &&& (8 : Int32)))])) (fun tT_ kK_ => XS.iand X0.here hx rfl (hb hby at_72) rfl kK_) ?_
        by_cases hc73_144 : (fl &&& (8 : Int32)) = (0 : Int32)
        · skip
          refine own_st (A := T0.setTop (mkF mM 80 #[.val (.long nu), .second, .val (.int x2), .val (.int x3), .val (.int x4), .val (.int x5), .val (.int fl), .val (.ref jo), .val (.int fr8), .val (.int (1 : Int32)), .val (.int (0 : Int32)), .val (.int (0 : Int32)), .unset, .unset, .unset, .unset, .unset, .unset, .unset, .unset, .unset, .unset] [])) (fun tT_ kK_ => XS.ifYes X0.here hx rfl (pc0 := 73) (pc' := 80) rfl (hb hby at_73) rfl ((if0 _ _).trans (teq hc73_144).1) (by decide) (by decide) kK_) ?_
          refine own_st (A := T0.setTop (mkF mM 81 #[.val (.long nu), .second, .val (.int x2), .val (.int x3), .val (.int x4), .val (.int x5), .val (.int fl), .val (.ref jo), .val (.int fr8), .val (.int (1 : Int32)), .val (.int (0 : Int32)), .val (.int (0 : Int32)), .unset, .unset, .unset, .unset, .unset, .unset, .unset, .unset, .unset, .unset] [(.int (0 : Int32))])) (fun tT_ kK_ => XS.iconst X0.here hx rfl (hb hby at_80) kK_) ?_
          refine own_st (A := T0.setTop (mkF mM 83 #[.val (.long nu), .second, .val (.int x2), .val (.int x3), .val (.int x4), .val (.int x5), .val (.int fl), .val (.ref jo), .val (.int fr8), .val (.int (1 : Int32)), .val (.int (0 : Int32)), .val (.int (0 : Int32)), .val (.int (0 : Int32)), .unset, .unset, .unset, .unset, .unset, .unset, .unset, .unset, .unset] [])) (fun tT_ kK_ => XS.istore X0.here hx rfl (hb hby at_81) rfl (l' := #[.val (.long nu), .second, .val (.int x2), .val (.int x3), .val (.int x4), .val (.int x5), .val (.int fl), .val (.ref jo), .val (.int fr8), .val (.int (1 : Int32)), .val (.int (0 : Int32)), .val (.int (0 : Int32)), .val (.int (0 : Int32)), .unset, .unset, .unset, .unset, .unset, .unset, .unset, .unset, .unset]) rfl kK_) ?_
          exact J83 hw X0 hx hZ hby hml hown hlk hret e0 N0 nu x2 x3 x4 x5 fl jo fr8 1 0 0 0 em ca cc r f Zn O S_e oe S_h S_c BX g_jo jb hf8 (Or.inr rfl) (Or.inl rfl) (Or.inl rfl) (Or.inl rfl)
        · skip
          refine own_st (A := T0.setTop (mkF mM 76 #[.val (.long nu), .second, .val (.int x2), .val (.int x3), .val (.int x4), .val (.int x5), .val (.int fl), .val (.ref jo), .val (.int fr8), .val (.int (1 : Int32)), .val (.int (0 : Int32)), .val (.int (0 : Int32)), .unset, .unset, .unset, .unset, .unset, .unset, .unset, .unset, .unset, .unset] [])) (fun tT_ kK_ => XS.ifNo X0.here hx rfl (hb hby at_73) rfl ((if0 _ _).trans (feq hc73_144).1) kK_) ?_
          refine own_st (A := T0.setTop (mkF mM 77 #[.val (.long nu), .second, .val (.int x2), .val (.int x3), .val (.int x4), .val (.int x5), .val (.int fl), .val (.ref jo), .val (.int fr8), .val (.int (1 : Int32)), .val (.int (0 : Int32)), .val (.int (0 : Int32)), .unset, .unset, .unset, .unset, .unset, .unset, .unset, .unset, .unset, .unset] [(.int (1 : Int32))])) (fun tT_ kK_ => XS.iconst X0.here hx rfl (hb hby at_76) kK_) ?_
          refine own_st (A := T0.setTop (mkF mM 81 #[.val (.long nu), .second, .val (.int x2), .val (.int x3), .val (.int x4), .val (.int x5), .val (.int fl), .val (.ref jo), .val (.int fr8), .val (.int (1 : Int32)), .val (.int (0 : Int32)), .val (.int (0 : Int32)), .unset, .unset, .unset, .unset, .unset, .unset, .unset, .unset, .unset, .unset] [(.int (1 : Int32))])) (fun tT_ kK_ => XS.goto X0.here hx rfl (pc0 := 77) (pc' := 81) rfl (hb hby at_77) (by decide) (by decide) kK_) ?_
          refine own_st (A := T0.setTop (mkF mM 83 #[.val (.long nu), .second, .val (.int x2), .val (.int x3), .val (.int x4), .val (.int x5), .val (.int fl), .val (.ref jo), .val (.int fr8), .val (.int (1 : Int32)), .val (.int (0 : Int32)), .val (.int (0 : Int32)), .val (.int (1 : Int32)), .unset, .unset, .unset, .unset, .unset, .unset, .unset, .unset, .unset] [])) (fun tT_ kK_ => XS.istore X0.here hx rfl (hb hby at_81) rfl (l' := #[.val (.long nu), .second, .val (.int x2), .val (.int x3), .val (.int x4), .val (.int x5), .val (.int fl), .val (.ref jo), .val (.int fr8), .val (.int (1 : Int32)), .val (.int (0 : Int32)), .val (.int (0 : Int32)), .val (.int (1 : Int32)), .unset, .unset, .unset, .unset, .unset, .unset, .unset, .unset, .unset]) rfl kK_) ?_
          exact J83 hw X0 hx hZ hby hml hown hlk hret e0 N0 nu x2 x3 x4 x5 fl jo fr8 1 0 0 1 em ca cc r f Zn O S_e oe S_h S_c BX g_jo jb hf8 (Or.inr rfl) (Or.inl rfl) (Or.inl rfl) (Or.inr rfl)
      · skip
        refine own_st (A := T0.setTop (mkF mM 61 #[.val (.long nu), .second, .val (.int x2), .val (.int x3), .val (.int x4), .val (.int x5), .val (.int fl), .val (.ref jo), .val (.int fr8), .val (.int (1 : Int32)), .val (.int (0 : Int32)), .unset, .unset, .unset, .unset, .unset, .unset, .unset, .unset, .unset, .unset, .unset] [])) (fun tT_ kK_ => XS.ifNo X0.here hx rfl (hb hby at_58) rfl ((if0 _ _).trans (feq hc58_143).1) kK_) ?_
        refine own_st (A := T0.setTop (mkF mM 62 #[.val (.long nu), .second, .val (.int x2), .val (.int x3), .val (.int x4), .val (.int x5), .val (.int fl), .val (.ref jo), .val (.int fr8), .val (.int (1 : Int32)), .val (.int (0 : Int32)), .unset, .unset, .unset, .unset, .unset, .unset, .unset, .unset, .unset, .unset, .unset] [(.int (1 : Int32))])) (fun tT_ kK_ => XS.iconst X0.here hx rfl (hb hby at_61) kK_) ?_
        refine own_st (A := T0.setTop (mkF mM 66 #[.val (.long nu), .second, .val (.int x2), .val (.int x3), .val (.int x4), .val (.int x5), .val (.int fl), .val (.ref jo), .val (.int fr8), .val (.int (1 : Int32)), .val (.int (0 : Int32)), .unset, .unset, .unset, .unset, .unset, .unset, .unset, .unset, .unset, .unset, .unset] [(.int (1 : Int32))])) (fun tT_ kK_ => XS.goto X0.here hx rfl (pc0 := 62) (pc' := 66) rfl (hb hby at_62) (by decide) (by decide) kK_) ?_
        refine own_st (A := T0.setTop (mkF mM 68 #[.val (.long nu), .second, .val (.int x2), .val (.int x3), .val (.int x4), .val (.int x5), .val (.int fl), .val (.ref jo), .val (.int fr8), .val (.int (1 : Int32)), .val (.int (0 : Int32)), .val (.int (1 : Int32)), .unset, .unset, .unset, .unset, .unset, .unset, .unset, .unset, .unset, .unset] [])) (fun tT_ kK_ => XS.istore X0.here hx rfl (hb hby at_66) rfl (l' := #[.val (.long nu), .second, .val (.int x2), .val (.int x3), .val (.int x4), .val (.int x5), .val (.int fl), .val (.ref jo), .val (.int fr8), .val (.int (1 : Int32)), .val (.int (0 : Int32)), .val (.int (1 : Int32)), .unset, .unset, .unset, .unset, .unset, .unset, .unset, .unset, .unset, .unset]) rfl kK_) ?_
        refine own_st (A := T0.setTop (mkF mM 70 #[.val (.long nu), .second, .val (.int x2), .val (.int x3), .val (.int x4), .val (.int x5), .val (.int fl), .val (.ref jo), .val (.int fr8), .val (.int (1 : Int32)), .val (.int (0 : Int32)), .val (.int (1 : Int32)), .unset, .unset, .unset, .unset, .unset, .unset, .unset, .unset, .unset, .unset] [(.int fl)])) (fun tT_ kK_ => XS.iload X0.here hx rfl (hb hby at_68) rfl kK_) ?_
        refine own_st (A := T0.setTop (mkF mM 72 #[.val (.long nu), .second, .val (.int x2), .val (.int x3), .val (.int x4), .val (.int x5), .val (.int fl), .val (.ref jo), .val (.int fr8), .val (.int (1 : Int32)), .val (.int (0 : Int32)), .val (.int (1 : Int32)), .unset, .unset, .unset, .unset, .unset, .unset, .unset, .unset, .unset, .unset] [(.int (8 : Int32)), (.int fl)])) (fun tT_ kK_ => XS.bipush X0.here hx rfl (hb hby at_70) kK_) ?_
        refine own_st (A := T0.setTop (mkF mM 73 #[.val (.long nu), .second, .val (.int x2), .val (.int x3), .val (.int x4), .val (.int x5), .val (.int fl), .val (.ref jo), .val (.int fr8), .val (.int (1 : Int32)), .val (.int (0 : Int32)), .val (.int (1 : Int32)), .unset, .unset, .unset, .unset, .unset, .unset, .unset, .unset, .unset, .unset] [(.int (fl &&& (8 : Int32)))])) (fun tT_ kK_ => XS.iand X0.here hx rfl (hb hby at_72) rfl kK_) ?_
        by_cases hc73_145 : (fl &&& (8 : Int32)) = (0 : Int32)
        · skip
          refine own_st (A := T0.setTop (mkF mM 80 #[.val (.long nu), .second, .val (.int x2), .val (.int x3), .val (.int x4), .val (.int x5), .val (.int fl), .val (.ref jo), .val (.int fr8), .val (.int (1 : Int32)), .val (.int (0 : Int32)), .val (.int (1 : Int32)), .unset, .unset, .unset, .unset, .unset, .unset, .unset, .unset, .unset, .unset] [])) (fun tT_ kK_ => XS.ifYes X0.here hx rfl (pc0 := 73) (pc' := 80) rfl (hb hby at_73) rfl ((if0 _ _).trans (teq hc73_145).1) (by decide) (by decide) kK_) ?_
          refine own_st (A := T0.setTop (mkF mM 81 #[.val (.long nu), .second, .val (.int x2), .val (.int x3), .val (.int x4), .val (.int x5), .val (.int fl), .val (.ref jo), .val (.int fr8), .val (.int (1 : Int32)), .val (.int (0 : Int32)), .val (.int (1 : Int32)), .unset, .unset, .unset, .unset, .unset, .unset, .unset, .unset, .unset, .unset] [(.int (0 : Int32))])) (fun tT_ kK_ => XS.iconst X0.here hx rfl (hb hby at_80) kK_) ?_
          refine own_st (A := T0.setTop (mkF mM 83 #[.val (.long nu), .second, .val (.int x2), .val (.int x3), .val (.int x4), .val (.int x5), .val (.int fl), .val (.ref jo), .val (.int fr8), .val (.int (1 : Int32)), .val (.int (0 : Int32)), .val (.int (1 : Int32)), .val (.int (0 : Int32)), .unset, .unset, .unset, .unset, .unset, .unset, .unset, .unset, .unset] [])) (fun tT_ kK_ => XS.istore X0.here hx rfl (hb hby at_81) rfl (l' := #[.val (.long nu), .second, .val (.int x2), .val (.int x3), .val (.int x4), .val (.int x5), .val (.int fl), .val (.ref jo), .val (.int fr8), .val (.int (1 : Int32)), .val (.int (0 : Int32)), .val (.int (1 : Int32)), .val (.int (0 : Int32)), .unset, .unset, .unset, .unset, .unset, .unset, .unset, .unset, .unset]) rfl kK_) ?_
          exact J83 hw X0 hx hZ hby hml hown hlk hret e0 N0 nu x2 x3 x4 x5 fl jo fr8 1 0 1 0 em ca cc r f Zn O S_e oe S_h S_c BX g_jo jb hf8 (Or.inr rfl) (Or.inl rfl) (Or.inr rfl) (Or.inl rfl)
        · skip
          refine own_st (A := T0.setTop (mkF mM 76 #[.val (.long nu), .second, .val (.int x2), .val (.int x3), .val (.int x4), .val (.int x5), .val (.int fl), .val (.ref jo), .val (.int fr8), .val (.int (1 : Int32)), .val (.int (0 : Int32)), .val (.int (1 : Int32)), .unset, .unset, .unset, .unset, .unset, .unset, .unset, .unset, .unset, .unset] [])) (fun tT_ kK_ => XS.ifNo X0.here hx rfl (hb hby at_73) rfl ((if0 _ _).trans (feq hc73_145).1) kK_) ?_
          refine own_st (A := T0.setTop (mkF mM 77 #[.val (.long nu), .second, .val (.int x2), .val (.int x3), .val (.int x4), .val (.int x5), .val (.int fl), .val (.ref jo), .val (.int fr8), .val (.int (1 : Int32)), .val (.int (0 : Int32)), .val (.int (1 : Int32)), .unset, .unset, .unset, .unset, .unset, .unset, .unset, .unset, .unset, .unset] [(.int (1 : Int32))])) (fun tT_ kK_ => XS.iconst X0.here hx rfl (hb hby at_76) kK_) ?_
          refine own_st (A := T0.setTop (mkF mM 81 #[.val (.long nu), .second, .val (.int x2), .val (.int x3), .val (.int x4), .val (.int x5), .val (.int fl), .val (.ref jo), .val (.int fr8), .val (.int (1 : Int32)), .val (.int (0 : Int32)), .val (.int (1 : Int32)), .unset, .unset, .unset, .unset, .unset, .unset, .unset, .unset, .unset, .unset] [(.int (1 : Int32))])) (fun tT_ kK_ => XS.goto X0.here hx rfl (pc0 := 77) (pc' := 81) rfl (hb hby at_77) (by decide) (by decide) kK_) ?_
          refine own_st (A := T0.setTop (mkF mM 83 #[.val (.long nu), .second, .val (.int x2), .val (.int x3), .val (.int x4), .val (.int x5), .val (.int fl), .val (.ref jo), .val (.int fr8), .val (.int (1 : Int32)), .val (.int (0 : Int32)), .val (.int (1 : Int32)), .val (.int (1 : Int32)), .unset, .unset, .unset, .unset, .unset, .unset, .unset, .unset, .unset] [])) (fun tT_ kK_ => XS.istore X0.here hx rfl (hb hby at_81) rfl (l' := #[.val (.long nu), .second, .val (.int x2), .val (.int x3), .val (.int x4), .val (.int x5), .val (.int fl), .val (.ref jo), .val (.int fr8), .val (.int (1 : Int32)), .val (.int (0 : Int32)), .val (.int (1 : Int32)), .val (.int (1 : Int32)), .unset, .unset, .unset, .unset, .unset, .unset, .unset, .unset, .unset]) rfl kK_) ?_
          exact J83 hw X0 hx hZ hby hml hown hlk hret e0 N0 nu x2 x3 x4 x5 fl jo fr8 1 0 1 1 em ca cc r f Zn O S_e oe S_h S_c BX g_jo jb hf8 (Or.inr rfl) (Or.inl rfl) (Or.inr rfl) (Or.inr rfl)
    · skip
      refine own_st (A := T0.setTop (mkF mM 47 #[.val (.long nu), .second, .val (.int x2), .val (.int x3), .val (.int x4), .val (.int x5), .val (.int fl), .val (.ref jo), .val (.int fr8), .val (.int (1 : Int32)), .unset, .unset, .unset, .unset, .unset, .unset, .unset, .unset, .unset, .unset, .unset, .unset] [])) (fun tT_ kK_ => XS.ifNo X0.here hx rfl (hb hby at_44) rfl ((if0 _ _).trans (feq hc44_142).1) kK_) ?_
      refine own_st (A := T0.setTop (mkF mM 48 #[.val (.long nu), .second, .val (.int x2), .val (.int x3), .val (.int x4), .val (.int x5), .val (.int fl), .val (.ref jo), .val (.int fr8), .val (.int (1 : Int32)), .unset, .unset, .unset, .unset, .unset, .unset, .unset, .unset, .unset, .unset, .unset, .unset] [(.int (1 : Int32))])) (fun tT_ kK_ => XS.iconst X0.here hx rfl (hb hby at_47) kK_) ?_
      refine own_st (A := T0.setTop (mkF mM 52 #[.val (.long nu), .second, .val (.int x2), .val (.int x3), .val (.int x4), .val (.int x5), .val (.int fl), .val (.ref jo), .val (.int fr8), .val (.int (1 : Int32)), .unset, .unset, .unset, .unset, .unset, .unset, .unset, .unset, .unset, .unset, .unset, .unset] [(.int (1 : Int32))])) (fun tT_ kK_ => XS.goto X0.here hx rfl (pc0 := 48) (pc' := 52) rfl (hb hby at_48) (by decide) (by decide) kK_) ?_
      refine own_st (A := T0.setTop (mkF mM 54 #[.val (.long nu), .second, .val (.int x2), .val (.int x3), .val (.int x4), .val (.int x5), .val (.int fl), .val (.ref jo), .val (.int fr8), .val (.int (1 : Int32)), .val (.int (1 : Int32)), .unset, .unset, .unset, .unset, .unset, .unset, .unset, .unset, .unset, .unset, .unset] [])) (fun tT_ kK_ => XS.istore X0.here hx rfl (hb hby at_52) rfl (l' := #[.val (.long nu), .second, .val (.int x2), .val (.int x3), .val (.int x4), .val (.int x5), .val (.int fl), .val (.ref jo), .val (.int fr8), .val (.int (1 : Int32)), .val (.int (1 : Int32)), .unset, .unset, .unset, .unset, .unset, .unset, .unset, .unset, .unset, .unset, .unset]) rfl kK_) ?_
      refine own_st (A := T0.setTop (mkF mM 56 #[.val (.long nu), .second, .val (.int x2), .val (.int x3), .val (.int x4), .val (.int x5), .val (.int fl), .val (.ref jo), .val (.int fr8), .val (.int (1 : Int32)), .val (.int (1 : Int32)), .unset, .unset, .unset, .unset, .unset, .unset, .unset, .unset, .unset, .unset, .unset] [(.int fl)])) (fun tT_ kK_ => XS.iload X0.here hx rfl (hb hby at_54) rfl kK_) ?_
      refine own_st (A := T0.setTop (mkF mM 57 #[.val (.long nu), .second, .val (.int x2), .val (.int x3), .val (.int x4), .val (.int x5), .val (.int fl), .val (.ref jo), .val (.int fr8), .val (.int (1 : Int32)), .val (.int (1 : Int32)), .unset, .unset, .unset, .unset, .unset, .unset, .unset, .unset, .unset, .unset, .unset] [(.int (4 : Int32)), (.int fl)])) (fun tT_ kK_ => XS.iconst X0.here hx rfl (hb hby at_56) kK_) ?_
      refine own_st (A := T0.setTop (mkF mM 58 #[.val (.long nu), .second, .val (.int x2), .val (.int x3), .val (.int x4), .val (.int x5), .val (.int fl), .val (.ref jo), .val (.int fr8), .val (.int (1 : Int32)), .val (.int (1 : Int32)), .unset, .unset, .unset, .unset, .unset, .unset, .unset, .unset, .unset, .unset, .unset] [(.int (fl &&& (4 : Int32)))])) (fun tT_ kK_ => XS.iand X0.here hx rfl (hb hby at_57) rfl kK_) ?_
      by_cases hc58_146 : (fl &&& (4 : Int32)) = (0 : Int32)
      · skip
        refine own_st (A := T0.setTop (mkF mM 65 #[.val (.long nu), .second, .val (.int x2), .val (.int x3), .val (.int x4), .val (.int x5), .val (.int fl), .val (.ref jo), .val (.int fr8), .val (.int (1 : Int32)), .val (.int (1 : Int32)), .unset, .unset, .unset, .unset, .unset, .unset, .unset, .unset, .unset, .unset, .unset] [])) (fun tT_ kK_ => XS.ifYes X0.here hx rfl (pc0 := 58) (pc' := 65) rfl (hb hby at_58) rfl ((if0 _ _).trans (teq hc58_146).1) (by decide) (by decide) kK_) ?_
        refine own_st (A := T0.setTop (mkF mM 66 #[.val (.long nu), .second, .val (.int x2), .val (.int x3), .val (.int x4), .val (.int x5), .val (.int fl), .val (.ref jo), .val (.int fr8), .val (.int (1 : Int32)), .val (.int (1 : Int32)), .unset, .unset, .unset, .unset, .unset, .unset, .unset, .unset, .unset, .unset, .unset] [(.int (0 : Int32))])) (fun tT_ kK_ => XS.iconst X0.here hx rfl (hb hby at_65) kK_) ?_
        refine own_st (A := T0.setTop (mkF mM 68 #[.val (.long nu), .second, .val (.int x2), .val (.int x3), .val (.int x4), .val (.int x5), .val (.int fl), .val (.ref jo), .val (.int fr8), .val (.int (1 : Int32)), .val (.int (1 : Int32)), .val (.int (0 : Int32)), .unset, .unset, .unset, .unset, .unset, .unset, .unset, .unset, .unset, .unset] [])) (fun tT_ kK_ => XS.istore X0.here hx rfl (hb hby at_66) rfl (l' := #[.val (.long nu), .second, .val (.int x2), .val (.int x3), .val (.int x4), .val (.int x5), .val (.int fl), .val (.ref jo), .val (.int fr8), .val (.int (1 : Int32)), .val (.int (1 : Int32)), .val (.int (0 : Int32)), .unset, .unset, .unset, .unset, .unset, .unset, .unset, .unset, .unset, .unset]) rfl kK_) ?_
        refine own_st (A := T0.setTop (mkF mM 70 #[.val (.long nu), .second, .val (.int x2), .val (.int x3), .val (.int x4), .val (.int x5), .val (.int fl), .val (.ref jo), .val (.int fr8), .val (.int (1 : Int32)), .val (.int (1 : Int32)), .val (.int (0 : Int32)), .unset, .unset, .unset, .unset, .unset, .unset, .unset, .unset, .unset, .unset] [(.int fl)])) (fun tT_ kK_ => XS.iload X0.here hx rfl (hb hby at_68) rfl kK_) ?_
        refine own_st (A := T0.setTop (mkF mM 72 #[.val (.long nu), .second, .val (.int x2), .val (.int x3), .val (.int x4), .val (.int x5), .val (.int fl), .val (.ref jo), .val (.int fr8), .val (.int (1 : Int32)), .val (.int (1 : Int32)), .val (.int (0 : Int32)), .unset, .unset, .unset, .unset, .unset, .unset, .unset, .unset, .unset, .unset] [(.int (8 : Int32)), (.int fl)])) (fun tT_ kK_ => XS.bipush X0.here hx rfl (hb hby at_70) kK_) ?_
        refine own_st (A := T0.setTop (mkF mM 73 #[.val (.long nu), .second, .val (.int x2), .val (.int x3), .val (.int x4), .val (.int x5), .val (.int fl), .val (.ref jo), .val (.int fr8), .val (.int (1 : Int32)), .val (.int (1 : Int32)), .val (.int (0 : Int32)), .unset, .unset, .unset, .unset, .unset, .unset, .unset, .unset, .unset, .unset] [(.int (fl &&& (8 : Int32)))])) (fun tT_ kK_ => XS.iand X0.here hx rfl (hb hby at_72) rfl kK_) ?_
        by_cases hc73_147 : (fl &&& (8 : Int32)) = (0 : Int32)
        · skip
          refine own_st (A := T0.setTop (mkF mM 80 #[.val (.long nu), .second, .val (.int x2), .val (.int x3), .val (.int x4), .val (.int x5), .val (.int fl), .val (.ref jo), .val (.int fr8), .val (.int (1 : Int32)), .val (.int (1 : Int32)), .val (.int (0 : Int32)), .unset, .unset, .unset, .unset, .unset, .unset, .unset, .unset, .unset, .unset] [])) (fun tT_ kK_ => XS.ifYes X0.here hx rfl (pc0 := 73) (pc' := 80) rfl (hb hby at_73) rfl ((if0 _ _).trans (teq hc73_147).1) (by decide) (by decide) kK_) ?_
          refine own_st (A := T0.setTop (mkF mM 81 #[.val (.long nu), .second, .val (.int x2), .val (.int x3), .val (.int x4), .val (.int x5), .val (.int fl), .val (.ref jo), .val (.int fr8), .val (.int (1 : Int32)), .val (.int (1 : Int32)), .val (.int (0 : Int32)), .unset, .unset, .unset, .unset, .unset, .unset, .unset, .unset, .unset, .unset] [(.int (0 : Int32))])) (fun tT_ kK_ => XS.iconst X0.here hx rfl (hb hby at_80) kK_) ?_
          refine own_st (A := T0.setTop (mkF mM 83 #[.val (.long nu), .second, .val (.int x2), .val (.int x3), .val (.int x4), .val (.int x5), .val (.int fl), .val (.ref jo), .val (.int fr8), .val (.int (1 : Int32)), .val (.int (1 : Int32)), .val (.int (0 : Int32)), .val (.int (0 : Int32)), .unset, .unset, .unset, .unset, .unset, .unset, .unset, .unset, .unset] [])) (fun tT_ kK_ => XS.istore X0.here hx rfl (hb hby at_81) rfl (l' := #[.val (.long nu), .second, .val (.int x2), .val (.int x3), .val (.int x4), .val (.int x5), .val (.int fl), .val (.ref jo), .val (.int fr8), .val (.int (1 : Int32)), .val (.int (1 : Int32)), .val (.int (0 : Int32)), .val (.int (0 : Int32)), .unset, .unset, .unset, .unset, .unset, .unset, .unset, .unset, .unset]) rfl kK_) ?_
          exact J83 hw X0 hx hZ hby hml hown hlk hret e0 N0 nu x2 x3 x4 x5 fl jo fr8 1 1 0 0 em ca cc r f Zn O S_e oe S_h S_c BX g_jo jb hf8 (Or.inr rfl) (Or.inr rfl) (Or.inl rfl) (Or.inl rfl)
        · skip
          refine own_st (A := T0.setTop (mkF mM 76 #[.val (.long nu), .second, .val (.int x2), .val (.int x3), .val (.int x4), .val (.int x5), .val (.int fl), .val (.ref jo), .val (.int fr8), .val (.int (1 : Int32)), .val (.int (1 : Int32)), .val (.int (0 : Int32)), .unset, .unset, .unset, .unset, .unset, .unset, .unset, .unset, .unset, .unset] [])) (fun tT_ kK_ => XS.ifNo X0.here hx rfl (hb hby at_73) rfl ((if0 _ _).trans (feq hc73_147).1) kK_) ?_
          refine own_st (A := T0.setTop (mkF mM 77 #[.val (.long nu), .second, .val (.int x2), .val (.int x3), .val (.int x4), .val (.int x5), .val (.int fl), .val (.ref jo), .val (.int fr8), .val (.int (1 : Int32)), .val (.int (1 : Int32)), .val (.int (0 : Int32)), .unset, .unset, .unset, .unset, .unset, .unset, .unset, .unset, .unset, .unset] [(.int (1 : Int32))])) (fun tT_ kK_ => XS.iconst X0.here hx rfl (hb hby at_76) kK_) ?_
          refine own_st (A := T0.setTop (mkF mM 81 #[.val (.long nu), .second, .val (.int x2), .val (.int x3), .val (.int x4), .val (.int x5), .val (.int fl), .val (.ref jo), .val (.int fr8), .val (.int (1 : Int32)), .val (.int (1 : Int32)), .val (.int (0 : Int32)), .unset, .unset, .unset, .unset, .unset, .unset, .unset, .unset, .unset, .unset] [(.int (1 : Int32))])) (fun tT_ kK_ => XS.goto X0.here hx rfl (pc0 := 77) (pc' := 81) rfl (hb hby at_77) (by decide) (by decide) kK_) ?_
          refine own_st (A := T0.setTop (mkF mM 83 #[.val (.long nu), .second, .val (.int x2), .val (.int x3), .val (.int x4), .val (.int x5), .val (.int fl), .val (.ref jo), .val (.int fr8), .val (.int (1 : Int32)), .val (.int (1 : Int32)), .val (.int (0 : Int32)), .val (.int (1 : Int32)), .unset, .unset, .unset, .unset, .unset, .unset, .unset, .unset, .unset] [])) (fun tT_ kK_ => XS.istore X0.here hx rfl (hb hby at_81) rfl (l' := #[.val (.long nu), .second, .val (.int x2), .val (.int x3), .val (.int x4), .val (.int x5), .val (.int fl), .val (.ref jo), .val (.int fr8), .val (.int (1 : Int32)), .val (.int (1 : Int32)), .val (.int (0 : Int32)), .val (.int (1 : Int32)), .unset, .unset, .unset, .unset, .unset, .unset, .unset, .unset, .unset]) rfl kK_) ?_
          exact J83 hw X0 hx hZ hby hml hown hlk hret e0 N0 nu x2 x3 x4 x5 fl jo fr8 1 1 0 1 em ca cc r f Zn O S_e oe S_h S_c BX g_jo jb hf8 (Or.inr rfl) (Or.inr rfl) (Or.inl rfl) (Or.inr rfl)
      · skip
        refine own_st (A := T0.setTop (mkF mM 61 #[.val (.long nu), .second, .val (.int x2), .val (.int x3), .val (.int x4), .val (.int x5), .val (.int fl), .val (.ref jo), .val (.int fr8), .val (.int (1 : Int32)), .val (.int (1 : Int32)), .unset, .unset, .unset, .unset, .unset, .unset, .unset, .unset, .unset, .unset, .unset] [])) (fun tT_ kK_ => XS.ifNo X0.here hx rfl (hb hby at_58) rfl ((if0 _ _).trans (feq hc58_146).1) kK_) ?_
        refine own_st (A := T0.setTop (mkF mM 62 #[.val (.long nu), .second, .val (.int x2), .val (.int x3), .val (.int x4), .val (.int x5), .val (.int fl), .val (.ref jo), .val (.int fr8), .val (.int (1 : Int32)), .val (.int (1 : Int32)), .unset, .unset, .unset, .unset, .unset, .unset, .unset, .unset, .unset, .unset, .unset] [(.int (1 : Int32))])) (fun tT_ kK_ => XS.iconst X0.here hx rfl (hb hby at_61) kK_) ?_
        refine own_st (A := T0.setTop (mkF mM 66 #[.val (.long nu), .second, .val (.int x2), .val (.int x3), .val (.int x4), .val (.int x5), .val (.int fl), .val (.ref jo), .val (.int fr8), .val (.int (1 : Int32)), .val (.int (1 : Int32)), .unset, .unset, .unset, .unset, .unset, .unset, .unset, .unset, .unset, .unset, .unset] [(.int (1 : Int32))])) (fun tT_ kK_ => XS.goto X0.here hx rfl (pc0 := 62) (pc' := 66) rfl (hb hby at_62) (by decide) (by decide) kK_) ?_
        refine own_st (A := T0.setTop (mkF mM 68 #[.val (.long nu), .second, .val (.int x2), .val (.int x3), .val (.int x4), .val (.int x5), .val (.int fl), .val (.ref jo), .val (.int fr8), .val (.int (1 : Int32)), .val (.int (1 : Int32)), .val (.int (1 : Int32)), .unset, .unset, .unset, .unset, .unset, .unset, .unset, .unset, .unset, .unset] [])) (fun tT_ kK_ => XS.istore X0.here hx rfl (hb hby at_66) rfl (l' := #[.val (.long nu), .second, .val (.int x2), .val (.int x3), .val (.int x4), .val (.int x5), .val (.int fl), .val (.ref jo), .val (.int fr8), .val (.int (1 : Int32)), .val (.int (1 : Int32)), .val (.int (1 : Int32)), .unset, .unset, .unset, .unset, .unset, .unset, .unset, .unset, .unset, .unset]) rfl kK_) ?_
        refine own_st (A := T0.setTop (mkF mM 70 #[.val (.long nu), .second, .val (.int x2), .val (.int x3), .val (.int x4), .val (.int x5), .val (.int fl), .val (.ref jo), .val (.int fr8), .val (.int (1 : Int32)), .val (.int (1 : Int32)), .val (.int (1 : Int32)), .unset, .unset, .unset, .unset, .unset, .unset, .unset, .unset, .unset, .unset] [(.int fl)])) (fun tT_ kK_ => XS.iload X0.here hx rfl (hb hby at_68) rfl kK_) ?_
        refine own_st (A := T0.setTop (mkF mM 72 #[.val (.long nu), .second, .val (.int x2), .val (.int x3), .val (.int x4), .val (.int x5), .val (.int fl), .val (.ref jo), .val (.int fr8), .val (.int (1 : Int32)), .val (.int (1 : Int32)), .val (.int (1 : Int32)), .unset, .unset, .unset, .unset, .unset, .unset, .unset, .unset, .unset, .unset] [(.int (8 : Int32)), (.int fl)])) (fun tT_ kK_ => XS.bipush X0.here hx rfl (hb hby at_70) kK_) ?_
        refine own_st (A := T0.setTop (mkF mM 73 #[.val (.long nu), .second, .val (.int x2), .val (.int x3), .val (.int x4), .val (.int x5), .val (.int fl), .val (.ref jo), .val (.int fr8), .val (.int (1 : Int32)), .val (.int (1 : Int32)), .val (.int (1 : Int32)), .unset, .unset, .unset, .unset, .unset, .unset, .unset, .unset, .unset, .unset] [(.int (fl &&& (8 : Int32)))])) (fun tT_ kK_ => XS.iand X0.here hx rfl (hb hby at_72) rfl kK_) ?_
        by_cases hc73_148 : (fl &&& (8 : Int32)) = (0 : Int32)
        · skip
          refine own_st (A := T0.setTop (mkF mM 80 #[.val (.long nu), .second, .val (.int x2), .val (.int x3), .val (.int x4), .val (.int x5), .val (.int fl), .val (.ref jo), .val (.int fr8), .val (.int (1 : Int32)), .val (.int (1 : Int32)), .val (.int (1 : Int32)), .unset, .unset, .unset, .unset, .unset, .unset, .unset, .unset, .unset, .unset] [])) (fun tT_ kK_ => XS.ifYes X0.here hx rfl (pc0 := 73) (pc' := 80) rfl (hb hby at_73) rfl ((if0 _ _).trans (teq hc73_148).1) (by decide) (by decide) kK_) ?_
          refine own_st (A := T0.setTop (mkF mM 81 #[.val (.long nu), .second, .val (.int x2), .val (.int x3), .val (.int x4), .val (.int x5), .val (.int fl), .val (.ref jo), .val (.int fr8), .val (.int (1 : Int32)), .val (.int (1 : Int32)), .val (.int (1 : Int32)), .unset, .unset, .unset, .unset, .unset, .unset, .unset, .unset, .unset, .unset] [(.int (0 : Int32))])) (fun tT_ kK_ => XS.iconst X0.here hx rfl (hb hby at_80) kK_) ?_
          refine own_st (A := T0.setTop (mkF mM 83 #[.val (.long nu), .second, .val (.int x2), .val (.int x3), .val (.int x4), .val (.int x5), .val (.int fl), .val (.ref jo), .val (.int fr8), .val (.int (1 : Int32)), .val (.int (1 : Int32)), .val (.int (1 : Int32)), .val (.int (0 : Int32)), .unset, .unset, .unset, .unset, .unset, .unset, .unset, .unset, .unset] [])) (fun tT_ kK_ => XS.istore X0.here hx rfl (hb hby at_81) rfl (l' := #[.val (.long nu), .second, .val (.int x2), .val (.int x3), .val (.int x4), .val (.int x5), .val (.int fl), .val (.ref jo), .val (.int fr8), .val (.int (1 : Int32)), .val (.int (1 : Int32)), .val (.int (1 : Int32)), .val (.int (0 : Int32)), .unset, .unset, .unset, .unset, .unset, .unset, .unset, .unset, .unset]) rfl kK_) ?_
          exact J83 hw X0 hx hZ hby hml hown hlk hret e0 N0 nu x2 x3 x4 x5 fl jo fr8 1 1 1 0 em ca cc r f Zn O S_e oe S_h S_c BX g_jo jb hf8 (Or.inr rfl) (Or.inr rfl) (Or.inr rfl) (Or.inl rfl)
        · skip
          refine own_st (A := T0.setTop (mkF mM 76 #[.val (.long nu), .second, .val (.int x2), .val (.int x3), .val (.int x4), .val (.int x5), .val (.int fl), .val (.ref jo), .val (.int fr8), .val (.int (1 : Int32)), .val (.int (1 : Int32)), .val (.int (1 : Int32)), .unset, .unset, .unset, .unset, .unset, .unset, .unset, .unset, .unset, .unset] [])) (fun tT_ kK_ => XS.ifNo X0.here hx rfl (hb hby at_73) rfl ((if0 _ _).trans (feq hc73_148).1) kK_) ?_
          refine own_st (A := T0.setTop (mkF mM 77 #[.val (.long nu), .second, .val (.int x2), .val (.int x3), .val (.int x4), .val (.int x5), .val (.int fl), .val (.ref jo), .val (.int fr8), .val (.int (1 : Int32)), .val (.int (1 : Int32)), .val (.int (1 : Int32)), .unset, .unset, .unset, .unset, .unset, .unset, .unset, .unset, .unset, .unset] [(.int (1 : Int32))])) (fun tT_ kK_ => XS.iconst X0.here hx rfl (hb hby at_76) kK_) ?_
          refine own_st (A := T0.setTop (mkF mM 81 #[.val (.long nu), .second, .val (.int x2), .val (.int x3), .val (.int x4), .val (.int x5), .val (.int fl), .val (.ref jo), .val (.int fr8), .val (.int (1 : Int32)), .val (.int (1 : Int32)), .val (.int (1 : Int32)), .unset, .unset, .unset, .unset, .unset, .unset, .unset, .unset, .unset, .unset] [(.int (1 : Int32))])) (fun tT_ kK_ => XS.goto X0.here hx rfl (pc0 := 77) (pc' := 81) rfl (hb hby at_77) (by decide) (by decide) kK_) ?_
          refine own_st (A := T0.setTop (mkF mM 83 #[.val (.long nu), .second, .val (.int x2), .val (.int x3), .val (.int x4), .val (.int x5), .val (.int fl), .val (.ref jo), .val (.int fr8), .val (.int (1 : Int32)), .val (.int (1 : Int32)), .val (.int (1 : Int32)), .val (.int (1 : Int32)), .unset, .unset, .unset, .unset, .unset, .unset, .unset, .unset, .unset] [])) (fun tT_ kK_ => XS.istore X0.here hx rfl (hb hby at_81) rfl (l' := #[.val (.long nu), .second, .val (.int x2), .val (.int x3), .val (.int x4), .val (.int x5), .val (.int fl), .val (.ref jo), .val (.int fr8), .val (.int (1 : Int32)), .val (.int (1 : Int32)), .val (.int (1 : Int32)), .val (.int (1 : Int32)), .unset, .unset, .unset, .unset, .unset, .unset, .unset, .unset, .unset]) rfl kK_) ?_
          exact J83 hw X0 hx hZ hby hml hown hlk hret e0 N0 nu x2 x3 x4 x5 fl jo fr8 1 1 1 1 em ca cc r f Zn O S_e oe S_h S_c BX g_jo jb hf8 (Or.inr rfl) (Or.inr rfl) (Or.inr rfl) (Or.inr rfl)
theorem pd__28JLcom_2fexample_2fgleanwork_2fgleanwork_2fjob_2fJobSpec_3b_29V : parseMethodDescriptor "(JLcom/example/gleanwork/gleanwork/job/JobSpec;)V" = some ⟨[.long, (.object "com/example/gleanwork/gleanwork/job/JobSpec")], none⟩ := by decide +kernel
theorem pn_com_2fexample_2fgleanwork_2fgleanwork_2fserver_2fJobLimitedPinLaw : plainName "com/example/gleanwork/gleanwork/server/JobLimitedPinLaw" = true := by first | (simp [plainName, overriddenIn]; done) | decide +kernel
theorem ef_rm0 (mM : MethodId) (nu : Int64) (x2 : Int32) (x3 : Int32) (x4 : Int32) (x5 : Int32) (fl : Int32) (fr : Addr) (nn : Addr) (em : Addr) (ca : Addr) (cc : Cell) : entryFrame mM #[(.long nu), (.int x2), (.int x3), (.int x4), (.int x5), (.int fl)] maxLocals = mkF mM 0 #[.val (.long nu), .second, .val (.int x2), .val (.int x3), .val (.int x4), .val (.int x5), .val (.int fl), .unset, .unset, .unset, .unset, .unset, .unset, .unset, .unset, .unset, .unset, .unset, .unset, .unset, .unset, .unset] [] := by first | (simp [entryFrame, mkF, argsToLocals, Value.category, maxLocals]; done) | rfl
set_option maxRecDepth 65536 in
set_option maxHeartbeats 40000000 in
theorem rm0 (lL : Launch) (Z : State) (a0 : Array Value) (hw : ∀ d ∈ tables_1, d.before a0 Z = true) (ws : List Jvm.Cond) (nu : Int64) (x2 : Int32) (x3 : Int32) (x4 : Int32) (x5 : Int32) (fl : Int32) (fr : Addr) (nn : Addr) (em : Addr) (ca : Addr) (cc : Cell) (h0 : Heap) (n0 : Nat) (Zn : n0 ≤ h0.size) (O : Old Z n0 h0) (S_e : Sta Z Z.heap "java/util/OptionalInt" "EMPTY" "Ljava/util/OptionalInt;" (.ref em)) (oe : Opt Z Z.heap em 0 0) (S_h : Sta Z Z.heap "java/lang/Integer$IntegerCache" "high" "I" (.int 127)) (S_c : Sta Z Z.heap "java/lang/Integer$IntegerCache" "cache" "[Ljava/lang/Integer;" (.ref ca)) (BX : Bxs Z ca cc "java/lang/Integer" "I" 256 (fun j => .int (j - 128))) (S_f : Sta Z Z.heap "com/example/gleanwork/gleanwork/job/JobStatus" "FREE" "Lcom/example/gleanwork/gleanwork/job/JobStatus;" (.ref fr)) (S_n : Sta Z Z.heap "com/example/gleanwork/gleanwork/server/ChargedNodes" "NONE" "Lcom/example/gleanwork/gleanwork/server/ChargedNodes;" (.ref nn)) :
    MetFree lL x (head1 (Jvm.Cond.code x code maxLocals ret :: ws) room_1) (fun as_ uU_ => as_ = #[(.long nu), (.int x2), (.int x3), (.int x4), (.int x5), (.int fl)] ∧ Z.Warmed39 uU_.vm ∧ uU_.heap = h0) (fun _ _ _ _ _ => True) (fun _ uU_ oO_ uE_ => ∃ vV_ lL_, oO_ = .returned vV_ ∧ (fun _ => QLaw) h0 n0 vV_ uE_.heap lL_ ∧ FrameEnd uU_ oO_ uE_ lL_ 40 192) := by
  refine MetFree.of_bodySF (plainFor_of_name pn_com_2fexample_2fgleanwork_2fgleanwork_2fserver_2fJobLimitedPinLaw) hisR ?_
  intro pP eE sS mM args below meth cC s₁ Bd hml0 hP hK
  obtain ⟨rfl, hZ, hh⟩ := hP
  have hx := Bd.exec
  have hby := Bd.bytes
  have hml : cC.maxLocals = 22 := hml0
  have hown : sS.vm.findClass "com/example/gleanwork/gleanwork/server/JobLimitedPinLaw" = some mM.cls := findClass_of_methodNamed Bd.named
  have hnm := (name_of_methodNamed Bd.named Bd.method).1
  have hret := Bd.returns
  have hlk := BodyLoose.notSynchronized Bd
  have X0 : Stand pP lL eE room_1 sS mM #[(.long nu), (.int x2), (.int x3), (.int x4), (.int x5), (.int fl)] below meth cC s₁ [] 0 0 := Stand.of_body Bd
  have e0 : s₁.heap = h0 := by rw [← hh, Bd.state]; rfl
  have N0 := Fr.nil n0
  show own_Go pP eE below sS ((fun _ => QLaw) h0 n0) 40 192 (s₁.setTop (entryFrame mM #[(.long nu), (.int x2), (.int x3), (.int x4), (.int x5), (.int fl)] maxLocals))
  refine own_st (A := s₁.setTop (mkF mM 0 #[.val (.long nu), .second, .val (.int x2), .val (.int x3), .val (.int x4), .val (.int x5), .val (.int fl), .unset, .unset, .unset, .unset, .unset, .unset, .unset, .unset, .unset, .unset, .unset, .unset, .unset, .unset, .unset] [])) (fun tT_ kK_ => castTop (ef_rm0 mM nu x2 x3 x4 x5 fl fr nn em ca cc) kK_) ?_
  obtain ⟨T149, h149, X149, e149, E149, A149, D149, -, st149⟩ := newO X0 hx hZ hown (hw _ (List.mem_of_getElem? (i := 0) rfl)) (hw _ (List.mem_of_getElem? (i := 1) rfl)) (hw _ (List.mem_of_getElem? (i := 2) rfl)) e0 (g := (mkF mM 0 #[.val (.long nu), .second, .val (.int x2), .val (.int x3), .val (.int x4), .val (.int x5), .val (.int fl), .unset, .unset, .unset, .unset, .unset, .unset, .unset, .unset, .unset, .unset, .unset, .unset, .unset, .unset, .unset] [])) rfl (hb hby at_0) (by decide) (by decide)
  obtain ⟨b149, g149⟩ : ∃ z, z = h0.size := ⟨_, rfl⟩
  rw [← g149] at A149 D149 st149
  have g_b149 : n0 ≤ b149 := Nat.le_trans Zn (Nat.le_of_eq g149.symm)
  have O := O.ext E149
  have Zn := Nat.le_trans Zn E149.1
  have E_b149 := A149
  have F_b149_status : Fld Z h149 b149 "com/example/gleanwork/gleanwork/server/Job" "status" "Lcom/example/gleanwork/gleanwork/job/JobStatus;" .null := D149 (Or.inl (hw _ (List.mem_of_getElem? (i := 13) rfl))) (ty := (.object "com/example/gleanwork/gleanwork/job/JobStatus")) (by decide)
  have F_b149_charged : Fld Z h149 b149 "com/example/gleanwork/gleanwork/server/Job" "charged" "Lcom/example/gleanwork/gleanwork/server/ChargedNodes;" .null := D149 (Or.inl (hw _ (List.mem_of_getElem? (i := 18) rfl))) (ty := (.object "com/example/gleanwork/gleanwork/server/ChargedNodes")) (by decide)
  have F_b149_ownMaxRunSeconds : Fld Z h149 b149 "com/example/gleanwork/gleanwork/server/Job" "ownMaxRunSeconds" "I" (.int (0 : Int32)) := D149 (Or.inl (hw _ (List.mem_of_getElem? (i := 20) rfl))) (ty := .int) (by decide)
  have F_b149_ownMaxFailures : Fld Z h149 b149 "com/example/gleanwork/gleanwork/server/Job" "ownMaxFailures" "I" (.int (0 : Int32)) := D149 (Or.inl (hw _ (List.mem_of_getElem? (i := 22) rfl))) (ty := .int) (by decide)
  have F_b149_number : Fld Z h149 b149 "com/example/gleanwork/gleanwork/server/Job" "number" "J" (.long (0 : Int64)) := D149 (Or.inr (hw _ (List.mem_of_getElem? (i := 24) rfl))) (ty := .long) (by decide)
  have F_b149_spec : Fld Z h149 b149 "com/example/gleanwork/gleanwork/server/Job" "spec" "Lcom/example/gleanwork/gleanwork/job/JobSpec;" .null := D149 (Or.inr (hw _ (List.mem_of_getElem? (i := 26) rfl))) (ty := (.object "com/example/gleanwork/gleanwork/job/JobSpec")) (by decide)
  refine own_st (A := T149.setTop (mkF mM 3 #[.val (.long nu), .second, .val (.int x2), .val (.int x3), .val (.int x4), .val (.int x5), .val (.int fl), .unset, .unset, .unset, .unset, .unset, .unset, .unset, .unset, .unset, .unset, .unset, .unset, .unset, .unset, .unset] [(.ref b149)])) (fun tT_ kK_ => st149 tT_ kK_) ?_
  refine own_st (A := T149.setTop (mkF mM 4 #[.val (.long nu), .second, .val (.int x2), .val (.int x3), .val (.int x4), .val (.int x5), .val (.int fl), .unset, .unset, .unset, .unset, .unset, .unset, .unset, .unset, .unset, .unset, .unset, .unset, .unset, .unset, .unset] [(.ref b149), (.ref b149)])) (fun tT_ kK_ => XS.dup X149.here hx rfl (hb hby at_3) rfl rfl kK_) ?_
  refine own_st (A := T149.setTop (mkF mM 5 #[.val (.long nu), .second, .val (.int x2), .val (.int x3), .val (.int x4), .val (.int x5), .val (.int fl), .unset, .unset, .unset, .unset, .unset, .unset, .unset, .unset, .unset, .unset, .unset, .unset, .unset, .unset, .unset] [(.long nu), (.ref b149), (.ref b149)])) (fun tT_ kK_ => XS.lloadN X149.here hx rfl (hb hby at_4) rfl kK_) ?_
  refine own_st (A := T149.setTop (mkF mM 6 #[.val (.long nu), .second, .val (.int x2), .val (.int x3), .val (.int x4), .val (.int x5), .val (.int fl), .unset, .unset, .unset, .unset, .unset, .unset, .unset, .unset, .unset, .unset, .unset, .unset, .unset, .unset, .unset] [.null, (.long nu), (.ref b149), (.ref b149)])) (fun tT_ kK_ => XS.aconstNull X149.here hx rfl (hb hby at_5) kK_) ?_
  obtain ⟨_, _, ⟨T150, L150, k150, n150⟩, -, X150, ⟨Lc150, hQ150, l150, y150, z150⟩, st150⟩ := X149.specialBack hx (y := (⟨"com/example/gleanwork/gleanwork/server/Job", "<init>", "(JLcom/example/gleanwork/gleanwork/job/JobSpec;)V"⟩ : MethodName)) rfl hown (mvT hZ (hw _ (List.mem_of_getElem? (i := 3) rfl))) (mvT hZ (hw _ (List.mem_of_getElem? (i := 4) rfl))) (mvT hZ (hw _ (List.mem_of_getElem? (i := 5) rfl))) (by decide) (backOf (W := 1) (rmJI lL Z a0 hw [] b149 nu fr nn h149 n0 g_b149 E_b149 F_b149_status F_b149_charged F_b149_ownMaxRunSeconds F_b149_ownMaxFailures F_b149_number F_b149_spec O S_f S_n) hZ (hw _ (List.mem_of_getElem? (i := 5) rfl)) (hw _ (List.mem_of_getElem? (i := 2) rfl)) (by decide) (by decide)) (g := (mkF mM 6 #[.val (.long nu), .second, .val (.int x2), .val (.int x3), .val (.int x4), .val (.int x5), .val (.int fl), .unset, .unset, .unset, .unset, .unset, .unset, .unset, .unset, .unset, .unset, .unset, .unset, .unset, .unset, .unset] [.null, (.long nu), (.ref b149), (.ref b149)])) rfl (by rw [hml]; rfl) (Steps.refl _) (a := b149) (argsL := [(.long nu), .null]) (rest := [(.ref b149)]) (lenOf pd__28JLcom_2fexample_2fgleanwork_2fgleanwork_2fjob_2fJobSpec_3b_29V rfl) rfl (by show 2 * 0 + _ ≤ _; exact Nat.le_of_eq rfl) (hb hby at_6) (fun _ _ => ⟨rfl, e149, (by decide : 1 + 0 ≤ _), (by decide : 15 + 0 ≤ _)⟩)
  dsimp only [Pt.U, Pt.locs, Pt.cells, Pt.slots] at X150 l150 y150 z150 st150 hQ150
  subst l150 y150 z150
  obtain ⟨rfl, N150q, K150, jb⟩ := hQ150
  have N150 := Fr.app N0 N150q
  have e150 : T150.heap = T150.heap := rfl
  refine own_st (A := T150.setTop (mkF mM 9 #[.val (.long nu), .second, .val (.int x2), .val (.int x3), .val (.int x4), .val (.int x5), .val (.int fl), .unset, .unset, .unset, .unset, .unset, .unset, .unset, .unset, .unset, .unset, .unset, .unset, .unset, .unset, .unset] [(.ref b149)])) (fun tT_ kK_ => st150.trans kK_) ?_
  have E_b149 := E_b149.keep K150
  have O := O.keep K150 (allS g_b149 all0)
  have Zn := Nat.le_trans Zn K150.1
  refine own_st (A := T150.setTop (mkF mM 11 #[.val (.long nu), .second, .val (.int x2), .val (.int x3), .val (.int x4), .val (.int x5), .val (.int fl), .val (.ref b149), .unset, .unset, .unset, .unset, .unset, .unset, .unset, .unset, .unset, .unset, .unset, .unset, .unset, .unset] [])) (fun tT_ kK_ => XS.astore X150.here hx rfl (hb hby at_9) rfl rfl (l' := #[.val (.long nu), .second, .val (.int x2), .val (.int x3), .val (.int x4), .val (.int x5), .val (.int fl), .val (.ref b149), .unset, .unset, .unset, .unset, .unset, .unset, .unset, .unset, .unset, .unset, .unset, .unset, .unset, .unset]) rfl kK_) ?_
  refine own_st (A := T150.setTop (mkF mM 13 #[.val (.long nu), .second, .val (.int x2), .val (.int x3), .val (.int x4), .val (.int x5), .val (.int fl), .val (.ref b149), .unset, .unset, .unset, .unset, .unset, .unset, .unset, .unset, .unset, .unset, .unset, .unset, .unset, .unset] [(.ref b149)])) (fun tT_ kK_ => XS.aload X150.here hx rfl (hb hby at_11) rfl rfl kK_) ?_
  obtain ⟨cq151, kq151, q151a, q151b, q151c⟩ := isOf hZ e150 jb.1
  obtain ⟨_, _, ⟨T151, L151, k151, n151⟩, -, X151, ⟨Lc151, hQ151, l151, y151, z151⟩, st151⟩ := X150.virtualBack hx (y := (⟨"com/example/gleanwork/gleanwork/server/Job", "limited", "()Z"⟩ : MethodName)) (z := (⟨"com/example/gleanwork/gleanwork/server/Job", "limited", "()Z"⟩ : MethodName)) hown (mvT hZ (hw _ (List.mem_of_getElem? (i := 27) rfl))) (mvT hZ (hw _ (List.mem_of_getElem? (i := 28) rfl))) (notFace_of_selects (args := #[]) (mvT hZ (hw _ (List.mem_of_getElem? (i := 30) rfl)))) (mvT hZ (hw _ (List.mem_of_getElem? (i := 30) rfl))) (mvT hZ (hw _ (List.mem_of_getElem? (i := 29) rfl))) (by decide) (backOf (W := 0) (rmLm lL Z a0 hw [] b149 (-1 : Int32) (-1 : Int32) 0 T150.heap n0 jb (fun _ _ => rfl) (fun q => absurd rfl q) (fun _ q => absurd rfl q)) hZ (hw _ (List.mem_of_getElem? (i := 31) rfl)) (hw _ (List.mem_of_getElem? (i := 2) rfl)) (by decide) (by decide)) q151a q151c (g := (mkF mM 13 #[.val (.long nu), .second, .val (.int x2), .val (.int x3), .val (.int x4), .val (.int x5), .val (.int fl), .val (.ref b149), .unset, .unset, .unset, .unset, .unset, .unset, .unset, .unset, .unset, .unset, .unset, .unset, .unset, .unset] [(.ref b149)])) rfl (by rw [hml]; rfl) (Steps.refl _) (argsL := []) (rest := []) (lenOf pd__28_29Z rfl) rfl (by show 2 * 0 + _ ≤ _; exact Nat.le_of_eq rfl) (hb hby at_13) (fun _ _ => ⟨rfl, e150, (by decide : 1 + 0 ≤ _), (by decide : 15 + 0 ≤ _)⟩)
  dsimp only [Pt.U, Pt.locs, Pt.cells, Pt.slots] at X151 l151 y151 z151 st151 hQ151
  subst l151 y151 z151
  obtain ⟨rfl, N151q, e151⟩ := hQ151
  have N151 := Fr.app N150 N151q
  refine own_st (A := T151.setTop (mkF mM 16 #[.val (.long nu), .second, .val (.int x2), .val (.int x3), .val (.int x4), .val (.int x5), .val (.int fl), .val (.ref b149), .unset, .unset, .unset, .unset, .unset, .unset, .unset, .unset, .unset, .unset, .unset, .unset, .unset, .unset] [(.int (0 : Int32))])) (fun tT_ kK_ => st151.trans kK_) ?_
  refine own_st (A := T151.setTop (mkF mM 19 #[.val (.long nu), .second, .val (.int x2), .val (.int x3), .val (.int x4), .val (.int x5), .val (.int fl), .val (.ref b149), .unset, .unset, .unset, .unset, .unset, .unset, .unset, .unset, .unset, .unset, .unset, .unset, .unset, .unset] [])) (fun tT_ kK_ => XS.ifNo X151.here hx rfl (hb hby at_16) rfl ((if0 _ _).trans (teq (by decide : ((0 : Int32) = (0 : Int32)))).2) kK_) ?_
  refine own_st (A := T151.setTop (mkF mM 20 #[.val (.long nu), .second, .val (.int x2), .val (.int x3), .val (.int x4), .val (.int x5), .val (.int fl), .val (.ref b149), .unset, .unset, .unset, .unset, .unset, .unset, .unset, .unset, .unset, .unset, .unset, .unset, .unset, .unset] [(.int (1 : Int32))])) (fun tT_ kK_ => XS.iconst X151.here hx rfl (hb hby at_19) kK_) ?_
  refine own_st (A := T151.setTop (mkF mM 24 #[.val (.long nu), .second, .val (.int x2), .val (.int x3), .val (.int x4), .val (.int x5), .val (.int fl), .val (.ref b149), .unset, .unset, .unset, .unset, .unset, .unset, .unset, .unset, .unset, .unset, .unset, .unset, .unset, .unset] [(.int (1 : Int32))])) (fun tT_ kK_ => XS.goto X151.here hx rfl (pc0 := 20) (pc' := 24) rfl (hb hby at_20) (by decide) (by decide) kK_) ?_
  refine own_st (A := T151.setTop (mkF mM 26 #[.val (.long nu), .second, .val (.int x2), .val (.int x3), .val (.int x4), .val (.int x5), .val (.int fl), .val (.ref b149), .val (.int (1 : Int32)), .unset, .unset, .unset, .unset, .unset, .unset, .unset, .unset, .unset, .unset, .unset, .unset, .unset] [])) (fun tT_ kK_ => XS.istore X151.here hx rfl (hb hby at_24) rfl (l' := #[.val (.long nu), .second, .val (.int x2), .val (.int x3), .val (.int x4), .val (.int x5), .val (.int fl), .val (.ref b149), .val (.int (1 : Int32)), .unset, .unset, .unset, .unset, .unset, .unset, .unset, .unset, .unset, .unset, .unset, .unset, .unset]) rfl kK_) ?_
  exact J26 hw X151 hx hZ hby hml hown hlk hret e151 N151 nu x2 x3 x4 x5 fl b149 1 em ca cc _ _ Zn O S_e oe S_h S_c BX g_b149 jb rfl
theorem own_sub {args : Array Value} {s : State} {t : Term} {idx : List Nat} {j : Int32} (h : t.eval args s none idx s = some (.int j)) : (Term.sub t (Term.int 128)).eval args s none idx s = some (.int (j - 128)) := by simp [Term.eval, h]
set_option maxRecDepth 65536 in
set_option maxHeartbeats 40000000 in
theorem comes_1 {Post : Tables → Env → Array Value → State → Outcome → State → Prop} (hpost : ∀ tb e args s v u, (limb_1_1.after args s (.returned v) u = true ∧ limb_1_2.after args s (.returned v) u = true ∧ True) → FrameEnd s (.returned v) u (Jvm.fieldLocs frame_1_writes args s ++ Jvm.arrayLocs frame_1_arrays args s ++ Jvm.staticLocs frame_1_statics s) 40 192 → Post tb e args s (.returned v) u) :
    ArmFor flags0 classFile x code maxLocals ret World_1 tables_1 room_1 Calls_1 rest_1 Pre_1 Post := by
  intro l hfl _ _ p e ha hc hk s m args below hf hA hF happ hP
  obtain ⟨hcalls, hrest, hpre⟩ := hP
  obtain ⟨-, -, -, hnamed, -, -, -, hat⟩ := (Spec.applies_iff hf).mp happ
  obtain ⟨hg, hn⟩ := and_e (Cond.before_iff.mp (show (Jvm.Cond.and given_1 narrow_1).before args s = true from hpre))
  obtain ⟨h1, hg1⟩ := and_e hg
  obtain ⟨w0, w1, w2, w3, w4, w5, rfl⟩ : ∃ w0 w1 w2 w3 w4 w5 : Value, args = #[w0, w1, w2, w3, w4, w5] := by
    have hs : args.size = 6 := by simpa [Cond.value, given_1] using h1
    obtain ⟨L⟩ := args
    match L, hs with
    | [w0, w1, w2, w3, w4, w5], _ => exact ⟨w0, w1, w2, w3, w4, w5, rfl⟩
  have hw := fun d (hd : d ∈ tables_1) => atoms_spec (ws := Jvm.Cond.code x code maxLocals ret :: tables_1) hat d (List.mem_cons_of_mem _ hd)
  have hfit : Fit s := fun {y c} hc i hi => by
    obtain ⟨ha, rfl⟩ := Array.getElem?_eq_some_iff.mp hc
    have q := List.all_eq_true.mp ((Array.all_eq_true_iff_forall_mem.mp hF) _ (Array.getElem_mem ha)) i (List.mem_range.mpr hi)
    simpa [Array.getElem?_eq_getElem hi] using q
  obtain ⟨g0, hg2⟩ := and_e hg1
  obtain ⟨i0, e0⟩ := isL_v g0
  obtain rfl : w0 = (.long i0) := Option.some.inj e0
  obtain ⟨g1, hg3⟩ := and_e hg2
  obtain ⟨i1, e1⟩ := is_v g1
  obtain rfl : w1 = (.int i1) := Option.some.inj e1
  obtain ⟨g2, hg4⟩ := and_e hg3
  obtain ⟨i2, e2⟩ := is_v g2
  obtain rfl : w2 = (.int i2) := Option.some.inj e2
  obtain ⟨g3, hg5⟩ := and_e hg4
  obtain ⟨i3, e3⟩ := is_v g3
  obtain rfl : w3 = (.int i3) := Option.some.inj e3
  obtain ⟨g4, hg6⟩ := and_e hg5
  obtain ⟨i4, e4⟩ := is_v g4
  obtain rfl : w4 = (.int i4) := Option.some.inj e4
  have g5 := hg6
  obtain ⟨i5, e5⟩ := is_v g5
  obtain rfl : w5 = (.int i5) := Option.some.inj e5
  have hn : narrow_1.value _ s none s [] = some true := hn
  obtain ⟨c0, hn⟩ := and_e hn
  have c1 := hn
  obtain ⟨a_FREE, ev_FREE⟩ := exa_v c0
  have st_FREE := Sta.start ev_FREE (Or.inr ⟨(hw _ (List.mem_of_getElem? (i := 10) rfl)), (hw _ (List.mem_of_getElem? (i := 11) rfl))⟩)
  have ex_FREE := Exa.start ev_FREE c0
  obtain ⟨a_NONE, ev_NONE⟩ := exa_v c1
  have st_NONE := Sta.start ev_NONE (Or.inr ⟨(hw _ (List.mem_of_getElem? (i := 15) rfl)), (hw _ (List.mem_of_getElem? (i := 16) rfl))⟩)
  have ex_NONE := Exa.start ev_NONE c1
  obtain ⟨hsets, -⟩ := atoms_of jdkStatics_1 (show (jdkStatics_1.foldr Jvm.Cond.and restOwn_1).before _ s = true from (by have q := hrest; rw [← rest_1_c_eq]; exact q))
  have j2 := Cond.before_iff.mp (hsets _ (List.mem_of_getElem? (i := 2) rfl))
  obtain ⟨em, ev_em⟩ := exa_v j2
  have S_e := Sta.start ev_em (Or.inl (hsets _ (List.mem_of_getElem? (i := 1) rfl)))
  have oe : Opt s s.heap em 0 0 := ⟨Exa.start ev_em j2, own_fldI ev_em (Cond.before_iff.mp (hsets _ (List.mem_of_getElem? (i := 3) rfl))), own_fldI ev_em (Cond.before_iff.mp (hsets _ (List.mem_of_getElem? (i := 4) rfl))), by decide⟩
  have S_h : Sta s s.heap _ _ _ (.int 127) := Sta.start (eqv_i (Term.int_eval 127) (Cond.before_iff.mp (hsets _ (List.mem_of_getElem? (i := 8) rfl)))) (Or.inl (hsets _ (List.mem_of_getElem? (i := 6) rfl)))
  have j9 := Cond.before_iff.mp (hsets _ (List.mem_of_getElem? (i := 9) rfl))
  obtain ⟨ca, ev_ca⟩ := arr_v j9
  obtain ⟨cc, ar_ca⟩ := Arr.start ev_ca j9
  have ln_ca := own_len ev_ca ar_ca (Cond.before_iff.mp (hsets _ (List.mem_of_getElem? (i := 11) rfl)))
  have S_c := Sta.start ev_ca (Or.inr ⟨(hw _ (List.mem_of_getElem? (i := 105) rfl)), (hsets _ (List.mem_of_getElem? (i := 7) rfl))⟩)
  have BX : Bxs s ca cc "java/lang/Integer" "I" 256 (fun j => .int (j - 128)) := Bxs.start (fun idx => ev_ca) ar_ca ln_ca.1 ln_ca.2 (by decide) (Cond.before_iff.mp (hsets _ (List.mem_of_getElem? (i := 12) rfl))) (fun X j hj h => eqv_i (own_sub (idx_at hj)) h)
  obtain ⟨n, o, h1, h2, h3, _, L, rfl, ⟨rfl, N⟩, hq⟩ := rm0 l s _ hw tables_1 i0 i1 i2 i3 i4 i5 a_FREE a_NONE em ca cc s.heap s.heap.size (Nat.le_refl _) (Old.start s) S_e oe S_h S_c BX st_FREE st_NONE p e ha hc hk s m _ below hf ((Spec.applies_iff_loose hf).mp happ).1 ⟨rfl, State.Warmed39.refl s, rfl⟩ trivial
  refine ⟨n, _, h1, h2, h3, hpost _ _ _ _ _ _ ⟨Cond.after_iff.mpr rfl, Cond.after_iff.mpr (eq_i res_at (Term.int_eval (1)) rfl), trivial⟩ ⟨hq.1, hq.2.1, (hq.2.2.sift fun y hy => Or.inr (N y hy)).mono (by decide) (by decide)⟩⟩
theorem main_1_1 : Claimed_1_1 := comes_1 fun _ _ _ _ _ _ h hF => ⟨h.1, hF⟩
theorem main_1_2 : Claimed_1_2 := comes_1 fun _ _ _ _ _ _ h hF => ⟨h.2.1, hF⟩
end Jvm.Pilot.@@N@@
namespace Jvm.Pilot.@@N@@
open Jvm Jvm.ClassFile Sem Op Lib Jvm.Free Jvm.Stand Jvm.Pilot.@@N@@.Jvm.D
/-! MADE BY PROGRAM (witnessworld.py) out of the Statement's table words and the real class files: 23 classes; the members and pool entries that the words name. The judged class is class 1, her method 1. -/
namespace start1
open Jvm.ClassFile
def u (s : String) : CpInfo := .utf8 (stringToUtf16 s)
/-- a pool by its gaps: so many unusable entries, then the entry; so many at the end -/
def gap : Nat → List CpInfo → List CpInfo
  | 0, r => r
  | n + 1, r => .unusable :: gap n r
def poolList (es : List (Nat × CpInfo)) (last : Nat) : List CpInfo := es.foldr (fun e r => gap e.1 (e.2 :: r)) (gap last [])
def pool (es : List (Nat × CpInfo)) (last : Nat) : Array CpInfo := ⟨poolList es last⟩
def fileOf (pool : Array CpInfo) (this : Nat) (attrs : Array Attribute := #[]) (ms : Array MethodInfo := #[]) (fl : Nat := 33) (sup : Nat := 0) (ifs : Array Nat := #[]) (fds : Array FieldInfo := #[]) : ClassFile where
  minorVersion := 0
  majorVersion := 65
  constantPool := pool
  accessFlags := fl
  thisClass := this
  superClass := sup
  interfaces := ifs
  fields := fds
  methods := ms
  attributes := attrs
def plain (name : String) (sup : Option ClassId) : Class where
  name := name
  kind := .ordinary
  loader := none
  accessFlags := 33
  super := sup
  interfaces := #[]
  cf := none
  fields := #[]
  methods := #[]
  instanceTypes := #[]
  staticTypes := #[]
  resolved := #[]
  callSites := []
  init := .initialized
  statics := none
  mirror := none

def pool0 : Array CpInfo := pool [(5, u "<init>"), (0, u "()V"), (1, .class_ 10), (1, u "java/lang/Object")] 113

def k0c0 : Code := { maxStack := 0, maxLocals := 1, code := object_method_1_code, exceptionTable := #[], attributes := #[] }
def k0m0 : Method := { name := "<init>", desc := "()V", sig := { parameters := [], returnType := none }, accessFlags := 1, code := some k0c0 }
/-- java/lang/Object -/
def k0 : Class := { plain "java/lang/Object" none with
  accessFlags := 33
  interfaces := #[]
  cf := some (fileOf pool0 8 #[] #[{ accessFlags := 1, nameIndex := 5, descriptorIndex := 6, attributes := #[] }] 33 0 #[] #[])
  fields := #[]
  methods := #[k0m0]
  instanceTypes := #[]
  staticTypes := #[]
  resolved := Array.replicate 124 none
  statics := none }

def pool1 : Array CpInfo := pool [(2, .class_ 4), (1, u "java/lang/Object"), (0, u "<init>"), (0, u "()V"), (0, .class_ 8), (0, u "com/example/gleanwork/gleanwork/server/Job"), (0, .methodref 7 10), (0, .nameAndType 5 11), (0, u "(JLcom/example/gleanwork/gleanwork/job/JobSpec;)V"), (0, .methodref 7 13), (0, .nameAndType 14 15), (0, u "limited"), (0, u "()Z"), (0, .integer 2147483647), (0, .methodref 18 19), (0, .class_ 20), (0, .nameAndType 21 22), (0, u "java/lang/Integer"), (0, u "valueOf"), (0, u "(I)Ljava/lang/Integer;"), (0, .methodref 24 25), (0, .class_ 26), (0, .nameAndType 27 28), (0, u "java/lang/Math"), (0, u "max"), (0, u "(II)I"), (0, .methodref 30 31), (0, .class_ 32), (0, .nameAndType 33 34), (0, u "com/example/gleanwork/gleanwork/server/OwnLimits"), (0, u "requested"), (0, u "(Ljava/lang/Integer;Ljava/lang/Integer;)Lcom/example/gleanwork/gleanwork/server/OwnLimits;"), (0, .methodref 7 36), (0, .nameAndType 37 38), (0, u "setOwnLimits"), (0, u "(Lcom/example/gleanwork/gleanwork/server/OwnLimits;)V"), (0, .methodref 7 40), (0, .nameAndType 41 42), (0, u "ownLimits"), (0, u "()Lcom/example/gleanwork/gleanwork/server/OwnLimits;"), (0, .methodref 30 44), (0, .nameAndType 45 15), (0, u "any"), (0, .class_ 47), (0, u "com/example/gleanwork/gleanwork/server/JobLimitedPinLaw"), (2, u "law"), (0, u "(JIIIII)Z")] 3

def k1m0 : Method := { name := "<init>", desc := "()V", sig := { parameters := [], returnType := none }, accessFlags := 1, code := none }
def k1c1 : Code := { maxStack := 5, maxLocals := 22, code := code, exceptionTable := #[], attributes := #[] }
def k1m1 : Method := { name := "law", desc := "(JIIIII)Z", sig := { parameters := [.long, .int, .int, .int, .int, .int], returnType := some .boolean }, accessFlags := 9, code := some k1c1 }
/-- com/example/gleanwork/gleanwork/server/JobLimitedPinLaw -/
def k1 : Class := { plain "com/example/gleanwork/gleanwork/server/JobLimitedPinLaw" (some 0) with
  accessFlags := 49
  interfaces := #[]
  cf := some (fileOf pool1 46 #[] #[{ accessFlags := 1, nameIndex := 5, descriptorIndex := 6, attributes := #[] }, { accessFlags := 9, nameIndex := 50, descriptorIndex := 51, attributes := #[] }] 49 2 #[] #[])
  fields := #[]
  methods := #[k1m0, k1m1]
  instanceTypes := #[]
  staticTypes := #[]
  resolved := Array.replicate 55 none
  statics := none }

def pool2 : Array CpInfo := pool [(1, .methodref 2 3), (0, .class_ 4), (0, .nameAndType 5 6), (0, u "java/lang/Object"), (0, u "<init>"), (0, u "()V"), (0, .fieldref 8 9), (0, .class_ 10), (0, .nameAndType 11 12), (0, u "com/example/gleanwork/gleanwork/job/JobStatus"), (0, u "FREE"), (0, u "Lcom/example/gleanwork/gleanwork/job/JobStatus;"), (0, .fieldref 14 15), (0, .class_ 16), (0, .nameAndType 17 12), (0, u "com/example/gleanwork/gleanwork/server/Job"), (0, u "status"), (0, .fieldref 19 20), (0, .class_ 21), (0, .nameAndType 22 23), (0, u "com/example/gleanwork/gleanwork/server/ChargedNodes"), (0, u "NONE"), (0, u "Lcom/example/gleanwork/gleanwork/server/ChargedNodes;"), (0, .fieldref 14 25), (0, .nameAndType 26 23), (0, u "charged"), (0, .fieldref 14 28), (0, .nameAndType 29 30), (0, u "ownMaxRunSeconds"), (0, u "I"), (0, .fieldref 14 32), (0, .nameAndType 33 30), (0, u "ownMaxFailures"), (0, .fieldref 14 35), (0, .nameAndType 36 37), (0, u "number"), (0, u "J"), (0, .fieldref 14 39), (0, .nameAndType 40 41), (0, u "spec"), (0, u "Lcom/example/gleanwork/gleanwork/job/JobSpec;"), (19, .methodref 62 63), (0, .class_ 64), (0, .nameAndType 65 66), (0, u "com/example/gleanwork/gleanwork/server/OwnLimits"), (0, u "stored"), (0, u "(II)Lcom/example/gleanwork/gleanwork/server/OwnLimits;"), (0, .methodref 62 68), (0, .nameAndType 69 70), (0, u "maxRunSeconds"), (0, u "()Ljava/util/OptionalInt;"), (0, .methodref 72 73), (0, .class_ 74), (0, .nameAndType 75 76), (0, u "java/util/OptionalInt"), (0, u "orElse"), (0, u "(I)I"), (0, .methodref 62 78), (0, .nameAndType 79 70), (0, u "maxFailures"), (6, u "UNSET"), (2, u "waitsFor"), (0, u "Lcom/example/gleanwork/gleanwork/server/Job$Input;"), (0, u "recordedIn"), (0, u "entry"), (0, u "Lcom/example/gleanwork/gleanwork/schedule/Scheduler$Entry;"), (2, u "run"), (0, u "Lcom/example/gleanwork/gleanwork/server/Job$Run;"), (0, u "runs"), (0, u "failures"), (0, u "lost"), (0, u "failuresBeforeRelease"), (0, u "deleted"), (0, u "Z"), (0, u "(JLcom/example/gleanwork/gleanwork/job/JobSpec;)V"), (3, u "ownLimits"), (0, u "()Lcom/example/gleanwork/gleanwork/server/OwnLimits;"), (0, u "limited"), (0, u "()Z"), (1, u "setOwnLimits"), (0, u "(Lcom/example/gleanwork/gleanwork/server/OwnLimits;)V"), (5, .class_ 121), (0, u "com/example/gleanwork/gleanwork/server/Job$Type"), (0, .class_ 123), (0, u "com/example/gleanwork/gleanwork/server/Job$Ask"), (0, .class_ 125), (0, u "com/example/gleanwork/gleanwork/server/Job$AtWork"), (0, .class_ 127), (0, u "com/example/gleanwork/gleanwork/server/Job$Run"), (0, .class_ 129), (0, u "com/example/gleanwork/gleanwork/server/Job$Input")] 14

def k2c0 : Code := { maxStack := 3, maxLocals := 4, code := prog_136_method_1_code, exceptionTable := #[], attributes := #[] }
def k2m0 : Method := { name := "<init>", desc := "(JLcom/example/gleanwork/gleanwork/job/JobSpec;)V", sig := { parameters := [.long, (.object "com/example/gleanwork/gleanwork/job/JobSpec")], returnType := none }, accessFlags := 0, code := some k2c0 }
def k2c1 : Code := { maxStack := 2, maxLocals := 1, code := prog_136_method_4_code, exceptionTable := #[], attributes := #[] }
def k2m1 : Method := { name := "ownLimits", desc := "()Lcom/example/gleanwork/gleanwork/server/OwnLimits;", sig := { parameters := [], returnType := some (.object "com/example/gleanwork/gleanwork/server/OwnLimits") }, accessFlags := 0, code := some k2c1 }
def k2c2 : Code := { maxStack := 2, maxLocals := 1, code := prog_136_method_5_code, exceptionTable := #[], attributes := #[] }
def k2m2 : Method := { name := "limited", desc := "()Z", sig := { parameters := [], returnType := some .boolean }, accessFlags := 0, code := some k2c2 }
def k2c3 : Code := { maxStack := 3, maxLocals := 2, code := prog_136_method_6_code, exceptionTable := #[], attributes := #[] }
def k2m3 : Method := { name := "setOwnLimits", desc := "(Lcom/example/gleanwork/gleanwork/server/OwnLimits;)V", sig := { parameters := [(.object "com/example/gleanwork/gleanwork/server/OwnLimits")], returnType := none }, accessFlags := 0, code := some k2c3 }
/-- com/example/gleanwork/gleanwork/server/Job -/
def k2 : Class := { plain "com/example/gleanwork/gleanwork/server/Job" (some 0) with
  accessFlags := 48
  interfaces := #[]
  cf := some (fileOf pool2 14 #[.nestMembers #[120, 122, 124, 126, 128]] #[{ accessFlags := 0, nameIndex := 5, descriptorIndex := 104, attributes := #[] }, { accessFlags := 0, nameIndex := 108, descriptorIndex := 109, attributes := #[] }, { accessFlags := 0, nameIndex := 110, descriptorIndex := 111, attributes := #[] }, { accessFlags := 0, nameIndex := 113, descriptorIndex := 114, attributes := #[] }] 48 2 #[] #[{ accessFlags := 24, nameIndex := 86, descriptorIndex := 30, attributes := #[] }, { accessFlags := 16, nameIndex := 36, descriptorIndex := 37, attributes := #[] }, { accessFlags := 0, nameIndex := 89, descriptorIndex := 90, attributes := #[] }, { accessFlags := 16, nameIndex := 40, descriptorIndex := 41, attributes := #[] }, { accessFlags := 0, nameIndex := 17, descriptorIndex := 12, attributes := #[] }, { accessFlags := 0, nameIndex := 91, descriptorIndex := 37, attributes := #[] }, { accessFlags := 0, nameIndex := 92, descriptorIndex := 93, attributes := #[] }, { accessFlags := 0, nameIndex := 96, descriptorIndex := 97, attributes := #[] }, { accessFlags := 0, nameIndex := 98, descriptorIndex := 30, attributes := #[] }, { accessFlags := 0, nameIndex := 99, descriptorIndex := 30, attributes := #[] }, { accessFlags := 0, nameIndex := 100, descriptorIndex := 30, attributes := #[] }, { accessFlags := 0, nameIndex := 101, descriptorIndex := 30, attributes := #[] }, { accessFlags := 0, nameIndex := 26, descriptorIndex := 23, attributes := #[] }, { accessFlags := 0, nameIndex := 29, descriptorIndex := 30, attributes := #[] }, { accessFlags := 0, nameIndex := 33, descriptorIndex := 30, attributes := #[] }, { accessFlags := 0, nameIndex := 102, descriptorIndex := 103, attributes := #[] }])
  fields := #[{ name := "UNSET", type := .int, accessFlags := 24, slot := 0, constantValue := 0 }, { name := "number", type := .long, accessFlags := 16, slot := 0, constantValue := 0 }, { name := "waitsFor", type := (.object "com/example/gleanwork/gleanwork/server/Job$Input"), accessFlags := 0, slot := 1, constantValue := 0 }, { name := "spec", type := (.object "com/example/gleanwork/gleanwork/job/JobSpec"), accessFlags := 16, slot := 2, constantValue := 0 }, { name := "status", type := (.object "com/example/gleanwork/gleanwork/job/JobStatus"), accessFlags := 0, slot := 3, constantValue := 0 }, { name := "recordedIn", type := .long, accessFlags := 0, slot := 4, constantValue := 0 }, { name := "entry", type := (.object "com/example/gleanwork/gleanwork/schedule/Scheduler$Entry"), accessFlags := 0, slot := 5, constantValue := 0 }, { name := "run", type := (.object "com/example/gleanwork/gleanwork/server/Job$Run"), accessFlags := 0, slot := 6, constantValue := 0 }, { name := "runs", type := .int, accessFlags := 0, slot := 7, constantValue := 0 }, { name := "failures", type := .int, accessFlags := 0, slot := 8, constantValue := 0 }, { name := "lost", type := .int, accessFlags := 0, slot := 9, constantValue := 0 }, { name := "failuresBeforeRelease", type := .int, accessFlags := 0, slot := 10, constantValue := 0 }, { name := "charged", type := (.object "com/example/gleanwork/gleanwork/server/ChargedNodes"), accessFlags := 0, slot := 11, constantValue := 0 }, { name := "ownMaxRunSeconds", type := .int, accessFlags := 0, slot := 12, constantValue := 0 }, { name := "ownMaxFailures", type := .int, accessFlags := 0, slot := 13, constantValue := 0 }, { name := "deleted", type := .boolean, accessFlags := 0, slot := 14, constantValue := 0 }]
  methods := #[k2m0, k2m1, k2m2, k2m3]
  instanceTypes := #[.long, (.object "com/example/gleanwork/gleanwork/server/Job$Input"), (.object "com/example/gleanwork/gleanwork/job/JobSpec"), (.object "com/example/gleanwork/gleanwork/job/JobStatus"), .long, (.object "com/example/gleanwork/gleanwork/schedule/Scheduler$Entry"), (.object "com/example/gleanwork/gleanwork/server/Job$Run"), .int, .int, .int, .int, (.object "com/example/gleanwork/gleanwork/server/ChargedNodes"), .int, .int, .boolean]
  staticTypes := #[.int]
  resolved := Array.replicate 144 none
  statics := none }

def pool3 : Array CpInfo := pool [(1, .class_ 2), (0, u "java/lang/constant/Constable"), (0, .class_ 4), (0, u "java/lang/Object")] 6

/-- java/lang/constant/Constable -/
def k3 : Class := { plain "java/lang/constant/Constable" (some 0) with
  accessFlags := 1537
  interfaces := #[]
  cf := some (fileOf pool3 1 #[] #[] 1537 3 #[] #[])
  fields := #[]
  methods := #[]
  instanceTypes := #[]
  staticTypes := #[]
  resolved := Array.replicate 11 none
  statics := none }

def pool4 : Array CpInfo := pool [(1, .class_ 2), (0, u "java/lang/Comparable"), (0, .class_ 4), (0, u "java/lang/Object")] 7

/-- java/lang/Comparable -/
def k4 : Class := { plain "java/lang/Comparable" (some 0) with
  accessFlags := 1537
  interfaces := #[]
  cf := some (fileOf pool4 1 #[] #[] 1537 3 #[] #[])
  fields := #[]
  methods := #[]
  instanceTypes := #[]
  staticTypes := #[]
  resolved := Array.replicate 12 none
  statics := none }

def pool5 : Array CpInfo := pool [(1, .class_ 2), (0, u "java/io/Serializable"), (0, .class_ 4), (0, u "java/lang/Object")] 2

/-- java/io/Serializable -/
def k5 : Class := { plain "java/io/Serializable" (some 0) with
  accessFlags := 1537
  interfaces := #[]
  cf := some (fileOf pool5 1 #[] #[] 1537 3 #[] #[])
  fields := #[]
  methods := #[]
  instanceTypes := #[]
  staticTypes := #[]
  resolved := Array.replicate 7 none
  statics := none }

def pool6 : Array CpInfo := pool [(2, .class_ 4), (1, u "java/lang/Enum"), (0, u "name"), (0, u "Ljava/lang/String;"), (2, u "ordinal"), (0, u "I"), (1, .class_ 14), (1, u "java/lang/Object"), (4, u "hash"), (86, .class_ 108), (1, u "java/lang/Enum$EnumDesc"), (2, .class_ 112), (0, u "java/lang/constant/Constable"), (0, .class_ 114), (0, u "java/lang/Comparable"), (0, .class_ 116), (0, u "java/io/Serializable")] 87

/-- java/lang/Enum -/
def k6 : Class := { plain "java/lang/Enum" (some 0) with
  accessFlags := 1057
  interfaces := #[3, 4, 5]
  cf := some (fileOf pool6 2 #[.nestMembers #[106]] #[] 1057 12 #[111, 113, 115] #[{ accessFlags := 18, nameIndex := 5, descriptorIndex := 6, attributes := #[] }, { accessFlags := 18, nameIndex := 9, descriptorIndex := 10, attributes := #[] }, { accessFlags := 2, nameIndex := 19, descriptorIndex := 10, attributes := #[] }])
  fields := #[{ name := "name", type := (.object "java/lang/String"), accessFlags := 18, slot := 0, constantValue := 0 }, { name := "ordinal", type := .int, accessFlags := 18, slot := 1, constantValue := 0 }, { name := "hash", type := .int, accessFlags := 2, slot := 2, constantValue := 0 }]
  methods := #[]
  instanceTypes := #[(.object "java/lang/String"), .int, .int]
  staticTypes := #[]
  resolved := Array.replicate 204 none
  statics := none }

def pool7 : Array CpInfo := pool [(1, .class_ 2), (0, u "com/example/gleanwork/gleanwork/job/JobStatus"), (2, u "FREE"), (0, u "Lcom/example/gleanwork/gleanwork/job/JobStatus;"), (2, u "WORKING"), (2, u "DONE"), (2, u "BLOCKED"), (2, u "AUTOBLOCKED"), (2, u "$VALUES"), (0, u "[Lcom/example/gleanwork/gleanwork/job/JobStatus;"), (6, .class_ 31), (1, u "java/lang/Enum")] 27

/-- com/example/gleanwork/gleanwork/job/JobStatus -/
def k7 : Class := { plain "com/example/gleanwork/gleanwork/job/JobStatus" (some 6) with
  accessFlags := 16433
  interfaces := #[]
  cf := some (fileOf pool7 1 #[] #[] 16433 29 #[] #[{ accessFlags := 16409, nameIndex := 5, descriptorIndex := 6, attributes := #[] }, { accessFlags := 16409, nameIndex := 9, descriptorIndex := 6, attributes := #[] }, { accessFlags := 16409, nameIndex := 12, descriptorIndex := 6, attributes := #[] }, { accessFlags := 16409, nameIndex := 15, descriptorIndex := 6, attributes := #[] }, { accessFlags := 16409, nameIndex := 18, descriptorIndex := 6, attributes := #[] }, { accessFlags := 4122, nameIndex := 21, descriptorIndex := 22, attributes := #[] }])
  fields := #[{ name := "FREE", type := (.object "com/example/gleanwork/gleanwork/job/JobStatus"), accessFlags := 16409, slot := 0, constantValue := 0 }, { name := "WORKING", type := (.object "com/example/gleanwork/gleanwork/job/JobStatus"), accessFlags := 16409, slot := 1, constantValue := 0 }, { name := "DONE", type := (.object "com/example/gleanwork/gleanwork/job/JobStatus"), accessFlags := 16409, slot := 2, constantValue := 0 }, { name := "BLOCKED", type := (.object "com/example/gleanwork/gleanwork/job/JobStatus"), accessFlags := 16409, slot := 3, constantValue := 0 }, { name := "AUTOBLOCKED", type := (.object "com/example/gleanwork/gleanwork/job/JobStatus"), accessFlags := 16409, slot := 4, constantValue := 0 }, { name := "$VALUES", type := (.array (.object "com/example/gleanwork/gleanwork/job/JobStatus")), accessFlags := 4122, slot := 5, constantValue := 0 }]
  methods := #[]
  instanceTypes := #[(.object "java/lang/String"), .int, .int]
  staticTypes := #[(.object "com/example/gleanwork/gleanwork/job/JobStatus"), (.object "com/example/gleanwork/gleanwork/job/JobStatus"), (.object "com/example/gleanwork/gleanwork/job/JobStatus"), (.object "com/example/gleanwork/gleanwork/job/JobStatus"), (.object "com/example/gleanwork/gleanwork/job/JobStatus"), (.array (.object "com/example/gleanwork/gleanwork/job/JobStatus"))]
  resolved := Array.replicate 59 none
  statics := some 0 }

def pool8 : Array CpInfo := pool [(1, .methodref 2 3), (0, .class_ 4), (0, .nameAndType 5 6), (0, u "java/lang/Object"), (0, u "<init>"), (0, u "()V"), (0, .class_ 8), (0, u "java/lang/Record")] 13

def k8c0 : Code := { maxStack := 1, maxLocals := 1, code := jdk_30_method_1_code, exceptionTable := #[], attributes := #[] }
def k8m0 : Method := { name := "<init>", desc := "()V", sig := { parameters := [], returnType := none }, accessFlags := 4, code := some k8c0 }
/-- java/lang/Record -/
def k8 : Class := { plain "java/lang/Record" (some 0) with
  accessFlags := 1057
  interfaces := #[]
  cf := some (fileOf pool8 7 #[] #[{ accessFlags := 4, nameIndex := 5, descriptorIndex := 6, attributes := #[] }] 1057 2 #[] #[])
  fields := #[]
  methods := #[k8m0]
  instanceTypes := #[]
  staticTypes := #[]
  resolved := Array.replicate 22 none
  statics := none }

def pool9 : Array CpInfo := pool [(2, .class_ 4), (1, u "java/lang/Record"), (9, .class_ 16), (1, u "com/example/gleanwork/gleanwork/server/ChargedNodes"), (0, u "failed"), (0, u "Ljava/util/List;"), (2, u "lost"), (2, u "losses"), (0, u "I"), (63, u "NONE"), (0, u "Lcom/example/gleanwork/gleanwork/server/ChargedNodes;")] 57

/-- com/example/gleanwork/gleanwork/server/ChargedNodes -/
def k9 : Class := { plain "com/example/gleanwork/gleanwork/server/ChargedNodes" (some 8) with
  accessFlags := 48
  interfaces := #[]
  cf := some (fileOf pool9 14 #[] #[] 48 2 #[] #[{ accessFlags := 18, nameIndex := 17, descriptorIndex := 18, attributes := #[] }, { accessFlags := 18, nameIndex := 21, descriptorIndex := 18, attributes := #[] }, { accessFlags := 18, nameIndex := 24, descriptorIndex := 25, attributes := #[] }, { accessFlags := 24, nameIndex := 89, descriptorIndex := 90, attributes := #[] }])
  fields := #[{ name := "failed", type := (.object "java/util/List"), accessFlags := 18, slot := 0, constantValue := 0 }, { name := "lost", type := (.object "java/util/List"), accessFlags := 18, slot := 1, constantValue := 0 }, { name := "losses", type := .int, accessFlags := 18, slot := 2, constantValue := 0 }, { name := "NONE", type := (.object "com/example/gleanwork/gleanwork/server/ChargedNodes"), accessFlags := 24, slot := 0, constantValue := 0 }]
  methods := #[]
  instanceTypes := #[(.object "java/util/List"), (.object "java/util/List"), .int]
  staticTypes := #[(.object "com/example/gleanwork/gleanwork/server/ChargedNodes")]
  resolved := Array.replicate 148 none
  statics := some 1 }

def pool10 : Array CpInfo := pool [(1, .methodref 2 3), (0, .class_ 4), (0, .nameAndType 5 6), (0, u "java/lang/Record"), (0, u "<init>"), (0, u "()V"), (0, .methodref 8 9), (0, .class_ 10), (0, .nameAndType 11 12), (0, u "java/util/OptionalInt"), (0, u "isPresent"), (0, u "()Z"), (0, .methodref 8 14), (0, .nameAndType 15 16), (0, u "getAsInt"), (0, u "()I"), (10, .fieldref 28 29), (0, .class_ 30), (0, .nameAndType 31 32), (0, u "com/example/gleanwork/gleanwork/server/OwnLimits"), (0, u "maxRunSeconds"), (0, u "Ljava/util/OptionalInt;"), (0, .fieldref 28 34), (0, .nameAndType 35 32), (0, u "maxFailures"), (0, .methodref 28 37), (0, .nameAndType 38 39), (0, u "orNone"), (0, u "(I)Ljava/util/OptionalInt;"), (0, .methodref 28 41), (0, .nameAndType 5 42), (0, u "(Ljava/util/OptionalInt;Ljava/util/OptionalInt;)V"), (2, .methodref 8 46), (0, .nameAndType 47 48), (0, u "empty"), (0, u "()Ljava/util/OptionalInt;"), (0, .methodref 8 50), (0, .nameAndType 51 39), (0, u "of"), (0, .methodref 53 54), (0, .class_ 55), (0, .nameAndType 56 16), (0, u "java/lang/Integer"), (0, u "intValue"), (39, u "NONE"), (0, u "Lcom/example/gleanwork/gleanwork/server/OwnLimits;"), (4, u "stored"), (0, u "(II)Lcom/example/gleanwork/gleanwork/server/OwnLimits;"), (0, u "requested"), (0, u "(Ljava/lang/Integer;Ljava/lang/Integer;)Lcom/example/gleanwork/gleanwork/server/OwnLimits;"), (2, u "any")] 38

def k10c0 : Code := { maxStack := 3, maxLocals := 3, code := prog_171_method_1_code, exceptionTable := #[], attributes := #[] }
def k10m0 : Method := { name := "<init>", desc := "(Ljava/util/OptionalInt;Ljava/util/OptionalInt;)V", sig := { parameters := [(.object "java/util/OptionalInt"), (.object "java/util/OptionalInt")], returnType := none }, accessFlags := 1, code := some k10c0 }
def k10c1 : Code := { maxStack := 4, maxLocals := 2, code := prog_171_method_2_code, exceptionTable := #[], attributes := #[] }
def k10m1 : Method := { name := "stored", desc := "(II)Lcom/example/gleanwork/gleanwork/server/OwnLimits;", sig := { parameters := [.int, .int], returnType := some (.object "com/example/gleanwork/gleanwork/server/OwnLimits") }, accessFlags := 8, code := some k10c1 }
def k10c2 : Code := { maxStack := 2, maxLocals := 1, code := prog_171_method_3_code, exceptionTable := #[], attributes := #[] }
def k10m2 : Method := { name := "orNone", desc := "(I)Ljava/util/OptionalInt;", sig := { parameters := [.int], returnType := some (.object "java/util/OptionalInt") }, accessFlags := 10, code := some k10c2 }
def k10c3 : Code := { maxStack := 4, maxLocals := 2, code := prog_171_method_4_code, exceptionTable := #[], attributes := #[] }
def k10m3 : Method := { name := "requested", desc := "(Ljava/lang/Integer;Ljava/lang/Integer;)Lcom/example/gleanwork/gleanwork/server/OwnLimits;", sig := { parameters := [(.object "java/lang/Integer"), (.object "java/lang/Integer")], returnType := some (.object "com/example/gleanwork/gleanwork/server/OwnLimits") }, accessFlags := 8, code := some k10c3 }
def k10c4 : Code := { maxStack := 1, maxLocals := 1, code := prog_171_method_6_code, exceptionTable := #[], attributes := #[] }
def k10m4 : Method := { name := "any", desc := "()Z", sig := { parameters := [], returnType := some .boolean }, accessFlags := 0, code := some k10c4 }
def k10c5 : Code := { maxStack := 1, maxLocals := 1, code := prog_171_method_13_code, exceptionTable := #[], attributes := #[] }
def k10m5 : Method := { name := "maxRunSeconds", desc := "()Ljava/util/OptionalInt;", sig := { parameters := [], returnType := some (.object "java/util/OptionalInt") }, accessFlags := 1, code := some k10c5 }
def k10c6 : Code := { maxStack := 1, maxLocals := 1, code := prog_171_method_14_code, exceptionTable := #[], attributes := #[] }
def k10m6 : Method := { name := "maxFailures", desc := "()Ljava/util/OptionalInt;", sig := { parameters := [], returnType := some (.object "java/util/OptionalInt") }, accessFlags := 1, code := some k10c6 }
/-- com/example/gleanwork/gleanwork/server/OwnLimits -/
def k10 : Class := { plain "com/example/gleanwork/gleanwork/server/OwnLimits" (some 8) with
  accessFlags := 48
  interfaces := #[]
  cf := some (fileOf pool10 28 #[] #[{ accessFlags := 1, nameIndex := 5, descriptorIndex := 42, attributes := #[] }, { accessFlags := 8, nameIndex := 102, descriptorIndex := 103, attributes := #[] }, { accessFlags := 10, nameIndex := 38, descriptorIndex := 39, attributes := #[] }, { accessFlags := 8, nameIndex := 104, descriptorIndex := 105, attributes := #[] }, { accessFlags := 0, nameIndex := 108, descriptorIndex := 12, attributes := #[] }, { accessFlags := 1, nameIndex := 31, descriptorIndex := 48, attributes := #[] }, { accessFlags := 1, nameIndex := 35, descriptorIndex := 48, attributes := #[] }] 48 2 #[] #[{ accessFlags := 18, nameIndex := 31, descriptorIndex := 32, attributes := #[] }, { accessFlags := 18, nameIndex := 35, descriptorIndex := 32, attributes := #[] }, { accessFlags := 24, nameIndex := 96, descriptorIndex := 97, attributes := #[] }])
  fields := #[{ name := "maxRunSeconds", type := (.object "java/util/OptionalInt"), accessFlags := 18, slot := 0, constantValue := 0 }, { name := "maxFailures", type := (.object "java/util/OptionalInt"), accessFlags := 18, slot := 1, constantValue := 0 }, { name := "NONE", type := (.object "com/example/gleanwork/gleanwork/server/OwnLimits"), accessFlags := 24, slot := 0, constantValue := 0 }]
  methods := #[k10m0, k10m1, k10m2, k10m3, k10m4, k10m5, k10m6]
  instanceTypes := #[(.object "java/util/OptionalInt"), (.object "java/util/OptionalInt")]
  staticTypes := #[(.object "com/example/gleanwork/gleanwork/server/OwnLimits")]
  resolved := Array.replicate 147 none
  statics := none }

def pool11 : Array CpInfo := pool [(1, .methodref 2 3), (0, .class_ 4), (0, .nameAndType 5 6), (0, u "java/lang/Object"), (0, u "<init>"), (0, u "()V"), (0, .fieldref 8 9), (0, .class_ 10), (0, .nameAndType 11 12), (0, u "java/util/OptionalInt"), (0, u "isPresent"), (0, u "Z"), (0, .fieldref 8 14), (0, .nameAndType 15 16), (0, u "value"), (0, u "I"), (0, .fieldref 8 18), (0, .nameAndType 19 20), (0, u "EMPTY"), (0, u "Ljava/util/OptionalInt;"), (0, .methodref 8 22), (0, .nameAndType 5 23), (0, u "(I)V"), (21, u "of"), (3, u "empty"), (5, u "getAsInt"), (0, u "()I"), (13, u "(I)I"), (25, u "()Ljava/util/OptionalInt;"), (0, u "(I)Ljava/util/OptionalInt;"), (1, u "()Z"), (10, u "orElse")] 25

def k11m0 : Method := { name := "<init>", desc := "()V", sig := { parameters := [], returnType := none }, accessFlags := 2, code := none }
def k11c1 : Code := { maxStack := 1, maxLocals := 0, code := jdk_2649_method_2_code, exceptionTable := #[], attributes := #[] }
def k11m1 : Method := { name := "empty", desc := "()Ljava/util/OptionalInt;", sig := { parameters := [], returnType := some (.object "java/util/OptionalInt") }, accessFlags := 9, code := some k11c1 }
def k11c2 : Code := { maxStack := 2, maxLocals := 2, code := jdk_2649_method_3_code, exceptionTable := #[], attributes := #[] }
def k11m2 : Method := { name := "<init>", desc := "(I)V", sig := { parameters := [.int], returnType := none }, accessFlags := 2, code := some k11c2 }
def k11c3 : Code := { maxStack := 3, maxLocals := 1, code := jdk_2649_method_4_code, exceptionTable := #[], attributes := #[] }
def k11m3 : Method := { name := "of", desc := "(I)Ljava/util/OptionalInt;", sig := { parameters := [.int], returnType := some (.object "java/util/OptionalInt") }, accessFlags := 9, code := some k11c3 }
def k11c4 : Code := { maxStack := 3, maxLocals := 1, code := jdk_2649_method_5_code, exceptionTable := #[], attributes := #[] }
def k11m4 : Method := { name := "getAsInt", desc := "()I", sig := { parameters := [], returnType := some .int }, accessFlags := 1, code := some k11c4 }
def k11c5 : Code := { maxStack := 1, maxLocals := 1, code := jdk_2649_method_6_code, exceptionTable := #[], attributes := #[] }
def k11m5 : Method := { name := "isPresent", desc := "()Z", sig := { parameters := [], returnType := some .boolean }, accessFlags := 1, code := some k11c5 }
def k11c6 : Code := { maxStack := 1, maxLocals := 2, code := jdk_2649_method_11_code, exceptionTable := #[], attributes := #[] }
def k11m6 : Method := { name := "orElse", desc := "(I)I", sig := { parameters := [.int], returnType := some .int }, accessFlags := 1, code := some k11c6 }
/-- java/util/OptionalInt -/
def k11 : Class := { plain "java/util/OptionalInt" (some 0) with
  accessFlags := 49
  interfaces := #[]
  cf := some (fileOf pool11 8 #[] #[{ accessFlags := 2, nameIndex := 5, descriptorIndex := 6, attributes := #[] }, { accessFlags := 9, nameIndex := 49, descriptorIndex := 96, attributes := #[] }, { accessFlags := 2, nameIndex := 5, descriptorIndex := 23, attributes := #[] }, { accessFlags := 9, nameIndex := 45, descriptorIndex := 97, attributes := #[] }, { accessFlags := 1, nameIndex := 55, descriptorIndex := 56, attributes := #[] }, { accessFlags := 1, nameIndex := 11, descriptorIndex := 99, attributes := #[] }, { accessFlags := 1, nameIndex := 110, descriptorIndex := 70, attributes := #[] }] 49 2 #[] #[{ accessFlags := 26, nameIndex := 19, descriptorIndex := 20, attributes := #[] }, { accessFlags := 18, nameIndex := 11, descriptorIndex := 12, attributes := #[] }, { accessFlags := 18, nameIndex := 15, descriptorIndex := 16, attributes := #[] }])
  fields := #[{ name := "EMPTY", type := (.object "java/util/OptionalInt"), accessFlags := 26, slot := 0, constantValue := 0 }, { name := "isPresent", type := .boolean, accessFlags := 18, slot := 0, constantValue := 0 }, { name := "value", type := .int, accessFlags := 18, slot := 1, constantValue := 0 }]
  methods := #[k11m0, k11m1, k11m2, k11m3, k11m4, k11m5, k11m6]
  instanceTypes := #[.boolean, .int]
  staticTypes := #[(.object "java/util/OptionalInt")]
  resolved := Array.replicate 136 none
  statics := some 2 }

def pool12 : Array CpInfo := pool [(1, .methodref 2 3), (0, .class_ 4), (0, .nameAndType 5 6), (0, u "java/lang/Object"), (0, u "<init>"), (0, u "()V"), (1, .class_ 10), (1, u "java/lang/Number"), (2, .class_ 14), (0, u "java/io/Serializable"), (0, u "serialVersionUID"), (0, u "J")] 20

def k12c0 : Code := { maxStack := 1, maxLocals := 1, code := jdk_18_method_1_code, exceptionTable := #[], attributes := #[] }
def k12m0 : Method := { name := "<init>", desc := "()V", sig := { parameters := [], returnType := none }, accessFlags := 1, code := some k12c0 }
/-- java/lang/Number -/
def k12 : Class := { plain "java/lang/Number" (some 0) with
  accessFlags := 1057
  interfaces := #[5]
  cf := some (fileOf pool12 8 #[] #[{ accessFlags := 1, nameIndex := 5, descriptorIndex := 6, attributes := #[] }] 1057 2 #[13] #[{ accessFlags := 26, nameIndex := 15, descriptorIndex := 16, attributes := #[] }])
  fields := #[{ name := "serialVersionUID", type := .long, accessFlags := 26, slot := 0, constantValue := 0 }]
  methods := #[k12m0]
  instanceTypes := #[]
  staticTypes := #[.long]
  resolved := Array.replicate 37 none
  statics := none }

def pool13 : Array CpInfo := pool [(1, .class_ 2), (0, u "java/lang/constant/ConstantDesc"), (0, .class_ 4), (0, u "java/lang/Object")] 32

/-- java/lang/constant/ConstantDesc -/
def k13 : Class := { plain "java/lang/constant/ConstantDesc" (some 0) with
  accessFlags := 1537
  interfaces := #[]
  cf := some (fileOf pool13 1 #[] #[] 1537 3 #[] #[])
  fields := #[]
  methods := #[]
  instanceTypes := #[]
  staticTypes := #[]
  resolved := Array.replicate 37 none
  statics := none }

def pool14 : Array CpInfo := pool [(1, .class_ 2), (0, u "java/lang/Integer"), (16, u "digits"), (0, u "[C"), (46, u "<init>"), (17, u "DigitOnes"), (0, u "[B"), (2, u "DigitTens"), (10, .nameAndType 67 101), (0, u "()V"), (19, u "()I"), (65, u "valueOf"), (0, u "(I)Ljava/lang/Integer;"), (0, .class_ 190), (0, u "java/lang/Integer$IntegerCache"), (0, .fieldref 189 192), (0, .nameAndType 193 194), (0, u "high"), (0, u "I"), (0, .fieldref 189 196), (0, .nameAndType 197 198), (0, u "cache"), (0, u "[Ljava/lang/Integer;"), (0, .methodref 1 200), (0, .nameAndType 67 201), (0, u "(I)V"), (0, .methodref 203 100), (0, .class_ 204), (0, u "java/lang/Number"), (0, .fieldref 1 206), (0, .nameAndType 207 194), (0, u "value"), (5, u "intValue"), (88, u "TYPE"), (0, u "Ljava/lang/Class;"), (0, .class_ 305), (0, u "java/lang/Comparable"), (0, .class_ 307), (0, u "java/lang/constant/Constable"), (0, .class_ 309), (0, u "java/lang/constant/ConstantDesc"), (0, u "MIN_VALUE"), (1, u "MAX_VALUE"), (3, u "SIZE"), (1, u "BYTES"), (1, u "serialVersionUID"), (0, u "J")] 131

def k14c0 : Code := { maxStack := 3, maxLocals := 1, code := jdk_33_method_22_code, exceptionTable := #[], attributes := #[] }
def k14m0 : Method := { name := "valueOf", desc := "(I)Ljava/lang/Integer;", sig := { parameters := [.int], returnType := some (.object "java/lang/Integer") }, accessFlags := 9, code := some k14c0 }
def k14c1 : Code := { maxStack := 2, maxLocals := 2, code := jdk_33_method_23_code, exceptionTable := #[], attributes := #[] }
def k14m1 : Method := { name := "<init>", desc := "(I)V", sig := { parameters := [.int], returnType := none }, accessFlags := 1, code := some k14c1 }
def k14c2 : Code := { maxStack := 1, maxLocals := 1, code := jdk_33_method_27_code, exceptionTable := #[], attributes := #[] }
def k14m2 : Method := { name := "intValue", desc := "()I", sig := { parameters := [], returnType := some .int }, accessFlags := 1, code := some k14c2 }
/-- java/lang/Integer -/
def k14 : Class := { plain "java/lang/Integer" (some 12) with
  accessFlags := 49
  interfaces := #[4, 3, 13]
  cf := some (fileOf pool14 1 #[.nestMembers #[189]] #[{ accessFlags := 9, nameIndex := 187, descriptorIndex := 188, attributes := #[] }, { accessFlags := 1, nameIndex := 67, descriptorIndex := 201, attributes := #[] }, { accessFlags := 1, nameIndex := 213, descriptorIndex := 121, attributes := #[] }] 49 203 #[304, 306, 308] #[{ accessFlags := 25, nameIndex := 310, descriptorIndex := 194, attributes := #[] }, { accessFlags := 25, nameIndex := 312, descriptorIndex := 194, attributes := #[] }, { accessFlags := 25, nameIndex := 302, descriptorIndex := 303, attributes := #[] }, { accessFlags := 24, nameIndex := 19, descriptorIndex := 20, attributes := #[] }, { accessFlags := 24, nameIndex := 89, descriptorIndex := 86, attributes := #[] }, { accessFlags := 24, nameIndex := 85, descriptorIndex := 86, attributes := #[] }, { accessFlags := 18, nameIndex := 207, descriptorIndex := 194, attributes := #[] }, { accessFlags := 25, nameIndex := 316, descriptorIndex := 194, attributes := #[] }, { accessFlags := 25, nameIndex := 318, descriptorIndex := 194, attributes := #[] }, { accessFlags := 26, nameIndex := 320, descriptorIndex := 321, attributes := #[] }])
  fields := #[{ name := "MIN_VALUE", type := .int, accessFlags := 25, slot := 0, constantValue := 0 }, { name := "MAX_VALUE", type := .int, accessFlags := 25, slot := 1, constantValue := 0 }, { name := "TYPE", type := (.object "java/lang/Class"), accessFlags := 25, slot := 2, constantValue := 0 }, { name := "digits", type := (.array .char), accessFlags := 24, slot := 3, constantValue := 0 }, { name := "DigitTens", type := (.array .byte), accessFlags := 24, slot := 4, constantValue := 0 }, { name := "DigitOnes", type := (.array .byte), accessFlags := 24, slot := 5, constantValue := 0 }, { name := "value", type := .int, accessFlags := 18, slot := 0, constantValue := 0 }, { name := "SIZE", type := .int, accessFlags := 25, slot := 6, constantValue := 0 }, { name := "BYTES", type := .int, accessFlags := 25, slot := 7, constantValue := 0 }, { name := "serialVersionUID", type := .long, accessFlags := 26, slot := 8, constantValue := 0 }]
  methods := #[k14m0, k14m1, k14m2]
  instanceTypes := #[.int]
  staticTypes := #[.int, .int, (.object "java/lang/Class"), (.array .char), (.array .byte), (.array .byte), .int, .int, .long]
  resolved := Array.replicate 453 none
  statics := none }

def pool15 : Array CpInfo := pool [(2, .class_ 4), (1, u "java/lang/Object"), (0, u "<init>"), (0, u "()V"), (0, .class_ 8), (0, u "java/lang/Integer"), (7, .class_ 18), (1, u "java/lang/Integer$IntegerCache"), (0, u "$assertionsDisabled"), (0, u "Z"), (26, u "high"), (0, u "I"), (8, u "archivedCache"), (0, u "[Ljava/lang/Integer;"), (12, u "cache"), (0, u "low")] 27

def k15m0 : Method := { name := "<init>", desc := "()V", sig := { parameters := [], returnType := none }, accessFlags := 2, code := none }
/-- java/lang/Integer$IntegerCache -/
def k15 : Class := { plain "java/lang/Integer$IntegerCache" (some 0) with
  accessFlags := 48
  interfaces := #[]
  cf := some (fileOf pool15 16 #[.nestHost 7] #[{ accessFlags := 2, nameIndex := 5, descriptorIndex := 6, attributes := #[] }] 48 2 #[] #[{ accessFlags := 24, nameIndex := 72, descriptorIndex := 48, attributes := #[] }, { accessFlags := 24, nameIndex := 47, descriptorIndex := 48, attributes := #[] }, { accessFlags := 24, nameIndex := 71, descriptorIndex := 58, attributes := #[] }, { accessFlags := 8, nameIndex := 57, descriptorIndex := 58, attributes := #[] }, { accessFlags := 4120, nameIndex := 19, descriptorIndex := 20, attributes := #[] }])
  fields := #[{ name := "low", type := .int, accessFlags := 24, slot := 0, constantValue := 0 }, { name := "high", type := .int, accessFlags := 24, slot := 1, constantValue := 0 }, { name := "cache", type := (.array (.object "java/lang/Integer")), accessFlags := 24, slot := 2, constantValue := 0 }, { name := "archivedCache", type := (.array (.object "java/lang/Integer")), accessFlags := 8, slot := 3, constantValue := 0 }, { name := "$assertionsDisabled", type := .boolean, accessFlags := 4120, slot := 4, constantValue := 0 }]
  methods := #[k15m0]
  instanceTypes := #[]
  staticTypes := #[.int, .int, (.array (.object "java/lang/Integer")), (.array (.object "java/lang/Integer")), .boolean]
  resolved := Array.replicate 100 none
  statics := some 3 }

def pool16 : Array CpInfo := pool [(1, .class_ 2), (0, u "java/lang/Math"), (1, .class_ 6), (1, u "java/lang/Object"), (0, u "<init>"), (0, u "()V"), (89, .class_ 100), (1, u "java/lang/Math$RandomNumberGeneratorHolder"), (71, u "negativeZeroFloatBits"), (0, u "J"), (2, u "negativeZeroDoubleBits"), (21, u "max"), (46, u "$assertionsDisabled"), (0, u "Z"), (88, u "(II)I"), (2, u "twoToTheDoubleScaleDown"), (0, u "D"), (4, u "twoToTheDoubleScaleUp"), (9, u "E"), (3, u "PI"), (2, u "TAU"), (2, u "DEGREES_TO_RADIANS"), (0, u "RADIANS_TO_DEGREES")] 94

def k16m0 : Method := { name := "<init>", desc := "()V", sig := { parameters := [], returnType := none }, accessFlags := 2, code := none }
def k16c1 : Code := { maxStack := 2, maxLocals := 2, code := jdk_29_method_65_code, exceptionTable := #[], attributes := #[] }
def k16m1 : Method := { name := "max", desc := "(II)I", sig := { parameters := [.int, .int], returnType := some .int }, accessFlags := 9, code := some k16c1 }
/-- java/lang/Math -/
def k16 : Class := { plain "java/lang/Math" (some 0) with
  accessFlags := 49
  interfaces := #[]
  cf := some (fileOf pool16 1 #[.nestMembers #[98]] #[{ accessFlags := 2, nameIndex := 7, descriptorIndex := 8, attributes := #[] }, { accessFlags := 9, nameIndex := 198, descriptorIndex := 335, attributes := #[] }] 49 4 #[] #[{ accessFlags := 25, nameIndex := 354, descriptorIndex := 339, attributes := #[] }, { accessFlags := 25, nameIndex := 358, descriptorIndex := 339, attributes := #[] }, { accessFlags := 25, nameIndex := 361, descriptorIndex := 339, attributes := #[] }, { accessFlags := 26, nameIndex := 364, descriptorIndex := 339, attributes := #[] }, { accessFlags := 26, nameIndex := 365, descriptorIndex := 339, attributes := #[] }, { accessFlags := 26, nameIndex := 172, descriptorIndex := 173, attributes := #[] }, { accessFlags := 26, nameIndex := 176, descriptorIndex := 173, attributes := #[] }, { accessFlags := 8, nameIndex := 344, descriptorIndex := 339, attributes := #[] }, { accessFlags := 8, nameIndex := 338, descriptorIndex := 339, attributes := #[] }, { accessFlags := 4120, nameIndex := 245, descriptorIndex := 246, attributes := #[] }])
  fields := #[{ name := "E", type := .double, accessFlags := 25, slot := 0, constantValue := 0 }, { name := "PI", type := .double, accessFlags := 25, slot := 1, constantValue := 0 }, { name := "TAU", type := .double, accessFlags := 25, slot := 2, constantValue := 0 }, { name := "DEGREES_TO_RADIANS", type := .double, accessFlags := 26, slot := 3, constantValue := 0 }, { name := "RADIANS_TO_DEGREES", type := .double, accessFlags := 26, slot := 4, constantValue := 0 }, { name := "negativeZeroFloatBits", type := .long, accessFlags := 26, slot := 5, constantValue := 0 }, { name := "negativeZeroDoubleBits", type := .long, accessFlags := 26, slot := 6, constantValue := 0 }, { name := "twoToTheDoubleScaleUp", type := .double, accessFlags := 8, slot := 7, constantValue := 0 }, { name := "twoToTheDoubleScaleDown", type := .double, accessFlags := 8, slot := 8, constantValue := 0 }, { name := "$assertionsDisabled", type := .boolean, accessFlags := 4120, slot := 9, constantValue := 0 }]
  methods := #[k16m0, k16m1]
  instanceTypes := #[]
  staticTypes := #[.double, .double, .double, .double, .double, .long, .long, .double, .double, .boolean]
  resolved := Array.replicate 460 none
  statics := none }

def pool17 : Array CpInfo := pool [(1, u "java/lang/Cloneable"), (0, .class_ 1), (0, u "java/lang/Object"), (0, .class_ 3)] 3

/-- java/lang/Cloneable -/
def k17 : Class := { plain "java/lang/Cloneable" (some 0) with
  accessFlags := 1537
  interfaces := #[]
  cf := some (fileOf pool17 2 #[] #[] 1537 4 #[] #[])
  fields := #[]
  methods := #[]
  instanceTypes := #[]
  staticTypes := #[]
  resolved := Array.replicate 8 none
  statics := none }

/-- the primitive byte -/
def k18 : Class := { plain "byte" none with kind := .primitive 'B', accessFlags := 0x411 }
/-- [B -/
def k19 : Class := { plain "[B" (some 0) with kind := .array 18 .byte, interfaces := #[17, 5], accessFlags := 1041 }

/-- the primitive int -/
def k20 : Class := { plain "int" none with kind := .primitive 'I', accessFlags := 0x411 }
/-- [I -/
def k21 : Class := { plain "[I" (some 0) with kind := .array 20 .int, interfaces := #[17, 5], accessFlags := 1041 }

/-- [Ljava/lang/Integer; -/
def k22 : Class := { plain "[Ljava/lang/Integer;" (some 0) with kind := .array 14 (.object "java/lang/Integer"), interfaces := #[17, 5], accessFlags := 1041 }

def heap : Heap := #[{ cls := 7, slots := #[.ref 261, .null, .null, .null, .null, .null], vm := .statics 7 },
  { cls := 9, slots := #[.ref 262], vm := .statics 9 },
  { cls := 11, slots := #[.ref 263], vm := .statics 11 },
  { cls := 15, slots := #[.int 0, .int 127, .ref 4, .null, .int 0], vm := .statics 15 },
  { cls := 22, slots := #[.ref 5, .ref 6, .ref 7, .ref 8, .ref 9, .ref 10, .ref 11, .ref 12, .ref 13, .ref 14, .ref 15, .ref 16, .ref 17, .ref 18, .ref 19, .ref 20, .ref 21, .ref 22, .ref 23, .ref 24, .ref 25, .ref 26, .ref 27, .ref 28, .ref 29, .ref 30, .ref 31, .ref 32, .ref 33, .ref 34, .ref 35, .ref 36, .ref 37, .ref 38, .ref 39, .ref 40, .ref 41, .ref 42, .ref 43, .ref 44, .ref 45, .ref 46, .ref 47, .ref 48, .ref 49, .ref 50, .ref 51, .ref 52, .ref 53, .ref 54, .ref 55, .ref 56, .ref 57, .ref 58, .ref 59, .ref 60, .ref 61, .ref 62, .ref 63, .ref 64, .ref 65, .ref 66, .ref 67, .ref 68, .ref 69, .ref 70, .ref 71, .ref 72, .ref 73, .ref 74, .ref 75, .ref 76, .ref 77, .ref 78, .ref 79, .ref 80, .ref 81, .ref 82, .ref 83, .ref 84, .ref 85, .ref 86, .ref 87, .ref 88, .ref 89, .ref 90, .ref 91, .ref 92, .ref 93, .ref 94, .ref 95, .ref 96, .ref 97, .ref 98, .ref 99, .ref 100, .ref 101, .ref 102, .ref 103, .ref 104, .ref 105, .ref 106, .ref 107, .ref 108, .ref 109, .ref 110, .ref 111, .ref 112, .ref 113, .ref 114, .ref 115, .ref 116, .ref 117, .ref 118, .ref 119, .ref 120, .ref 121, .ref 122, .ref 123, .ref 124, .ref 125, .ref 126, .ref 127, .ref 128, .ref 129, .ref 130, .ref 131, .ref 132, .ref 133, .ref 134, .ref 135, .ref 136, .ref 137, .ref 138, .ref 139, .ref 140, .ref 141, .ref 142, .ref 143, .ref 144, .ref 145, .ref 146, .ref 147, .ref 148, .ref 149, .ref 150, .ref 151, .ref 152, .ref 153, .ref 154, .ref 155, .ref 156, .ref 157, .ref 158, .ref 159, .ref 160, .ref 161, .ref 162, .ref 163, .ref 164, .ref 165, .ref 166, .ref 167, .ref 168, .ref 169, .ref 170, .ref 171, .ref 172, .ref 173, .ref 174, .ref 175, .ref 176, .ref 177, .ref 178, .ref 179, .ref 180, .ref 181, .ref 182, .ref 183, .ref 184, .ref 185, .ref 186, .ref 187, .ref 188, .ref 189, .ref 190, .ref 191, .ref 192, .ref 193, .ref 194, .ref 195, .ref 196, .ref 197, .ref 198, .ref 199, .ref 200, .ref 201, .ref 202, .ref 203, .ref 204, .ref 205, .ref 206, .ref 207, .ref 208, .ref 209, .ref 210, .ref 211, .ref 212, .ref 213, .ref 214, .ref 215, .ref 216, .ref 217, .ref 218, .ref 219, .ref 220, .ref 221, .ref 222, .ref 223, .ref 224, .ref 225, .ref 226, .ref 227, .ref 228, .ref 229, .ref 230, .ref 231, .ref 232, .ref 233, .ref 234, .ref 235, .ref 236, .ref 237, .ref 238, .ref 239, .ref 240, .ref 241, .ref 242, .ref 243, .ref 244, .ref 245, .ref 246, .ref 247, .ref 248, .ref 249, .ref 250, .ref 251, .ref 252, .ref 253, .ref 254, .ref 255, .ref 256, .ref 257, .ref 258, .ref 259, .ref 260], vm := .none },
  { cls := 14, slots := #[.int (-128)], vm := .none },
  { cls := 14, slots := #[.int (-127)], vm := .none },
  { cls := 14, slots := #[.int (-126)], vm := .none },
  { cls := 14, slots := #[.int (-125)], vm := .none },
  { cls := 14, slots := #[.int (-124)], vm := .none },
  { cls := 14, slots := #[.int (-123)], vm := .none },
  { cls := 14, slots := #[.int (-122)], vm := .none },
  { cls := 14, slots := #[.int (-121)], vm := .none },
  { cls := 14, slots := #[.int (-120)], vm := .none },
  { cls := 14, slots := #[.int (-119)], vm := .none },
  { cls := 14, slots := #[.int (-118)], vm := .none },
  { cls := 14, slots := #[.int (-117)], vm := .none },
  { cls := 14, slots := #[.int (-116)], vm := .none },
  { cls := 14, slots := #[.int (-115)], vm := .none },
  { cls := 14, slots := #[.int (-114)], vm := .none },
  { cls := 14, slots := #[.int (-113)], vm := .none },
  { cls := 14, slots := #[.int (-112)], vm := .none },
  { cls := 14, slots := #[.int (-111)], vm := .none },
  { cls := 14, slots := #[.int (-110)], vm := .none },
  { cls := 14, slots := #[.int (-109)], vm := .none },
  { cls := 14, slots := #[.int (-108)], vm := .none },
  { cls := 14, slots := #[.int (-107)], vm := .none },
  { cls := 14, slots := #[.int (-106)], vm := .none },
  { cls := 14, slots := #[.int (-105)], vm := .none },
  { cls := 14, slots := #[.int (-104)], vm := .none },
  { cls := 14, slots := #[.int (-103)], vm := .none },
  { cls := 14, slots := #[.int (-102)], vm := .none },
  { cls := 14, slots := #[.int (-101)], vm := .none },
  { cls := 14, slots := #[.int (-100)], vm := .none },
  { cls := 14, slots := #[.int (-99)], vm := .none },
  { cls := 14, slots := #[.int (-98)], vm := .none },
  { cls := 14, slots := #[.int (-97)], vm := .none },
  { cls := 14, slots := #[.int (-96)], vm := .none },
  { cls := 14, slots := #[.int (-95)], vm := .none },
  { cls := 14, slots := #[.int (-94)], vm := .none },
  { cls := 14, slots := #[.int (-93)], vm := .none },
  { cls := 14, slots := #[.int (-92)], vm := .none },
  { cls := 14, slots := #[.int (-91)], vm := .none },
  { cls := 14, slots := #[.int (-90)], vm := .none },
  { cls := 14, slots := #[.int (-89)], vm := .none },
  { cls := 14, slots := #[.int (-88)], vm := .none },
  { cls := 14, slots := #[.int (-87)], vm := .none },
  { cls := 14, slots := #[.int (-86)], vm := .none },
  { cls := 14, slots := #[.int (-85)], vm := .none },
  { cls := 14, slots := #[.int (-84)], vm := .none },
  { cls := 14, slots := #[.int (-83)], vm := .none },
  { cls := 14, slots := #[.int (-82)], vm := .none },
  { cls := 14, slots := #[.int (-81)], vm := .none },
  { cls := 14, slots := #[.int (-80)], vm := .none },
  { cls := 14, slots := #[.int (-79)], vm := .none },
  { cls := 14, slots := #[.int (-78)], vm := .none },
  { cls := 14, slots := #[.int (-77)], vm := .none },
  { cls := 14, slots := #[.int (-76)], vm := .none },
  { cls := 14, slots := #[.int (-75)], vm := .none },
  { cls := 14, slots := #[.int (-74)], vm := .none },
  { cls := 14, slots := #[.int (-73)], vm := .none },
  { cls := 14, slots := #[.int (-72)], vm := .none },
  { cls := 14, slots := #[.int (-71)], vm := .none },
  { cls := 14, slots := #[.int (-70)], vm := .none },
  { cls := 14, slots := #[.int (-69)], vm := .none },
  { cls := 14, slots := #[.int (-68)], vm := .none },
  { cls := 14, slots := #[.int (-67)], vm := .none },
  { cls := 14, slots := #[.int (-66)], vm := .none },
  { cls := 14, slots := #[.int (-65)], vm := .none },
  { cls := 14, slots := #[.int (-64)], vm := .none },
  { cls := 14, slots := #[.int (-63)], vm := .none },
  { cls := 14, slots := #[.int (-62)], vm := .none },
  { cls := 14, slots := #[.int (-61)], vm := .none },
  { cls := 14, slots := #[.int (-60)], vm := .none },
  { cls := 14, slots := #[.int (-59)], vm := .none },
  { cls := 14, slots := #[.int (-58)], vm := .none },
  { cls := 14, slots := #[.int (-57)], vm := .none },
  { cls := 14, slots := #[.int (-56)], vm := .none },
  { cls := 14, slots := #[.int (-55)], vm := .none },
  { cls := 14, slots := #[.int (-54)], vm := .none },
  { cls := 14, slots := #[.int (-53)], vm := .none },
  { cls := 14, slots := #[.int (-52)], vm := .none },
  { cls := 14, slots := #[.int (-51)], vm := .none },
  { cls := 14, slots := #[.int (-50)], vm := .none },
  { cls := 14, slots := #[.int (-49)], vm := .none },
  { cls := 14, slots := #[.int (-48)], vm := .none },
  { cls := 14, slots := #[.int (-47)], vm := .none },
  { cls := 14, slots := #[.int (-46)], vm := .none },
  { cls := 14, slots := #[.int (-45)], vm := .none },
  { cls := 14, slots := #[.int (-44)], vm := .none },
  { cls := 14, slots := #[.int (-43)], vm := .none },
  { cls := 14, slots := #[.int (-42)], vm := .none },
  { cls := 14, slots := #[.int (-41)], vm := .none },
  { cls := 14, slots := #[.int (-40)], vm := .none },
  { cls := 14, slots := #[.int (-39)], vm := .none },
  { cls := 14, slots := #[.int (-38)], vm := .none },
  { cls := 14, slots := #[.int (-37)], vm := .none },
  { cls := 14, slots := #[.int (-36)], vm := .none },
  { cls := 14, slots := #[.int (-35)], vm := .none },
  { cls := 14, slots := #[.int (-34)], vm := .none },
  { cls := 14, slots := #[.int (-33)], vm := .none },
  { cls := 14, slots := #[.int (-32)], vm := .none },
  { cls := 14, slots := #[.int (-31)], vm := .none },
  { cls := 14, slots := #[.int (-30)], vm := .none },
  { cls := 14, slots := #[.int (-29)], vm := .none },
  { cls := 14, slots := #[.int (-28)], vm := .none },
  { cls := 14, slots := #[.int (-27)], vm := .none },
  { cls := 14, slots := #[.int (-26)], vm := .none },
  { cls := 14, slots := #[.int (-25)], vm := .none },
  { cls := 14, slots := #[.int (-24)], vm := .none },
  { cls := 14, slots := #[.int (-23)], vm := .none },
  { cls := 14, slots := #[.int (-22)], vm := .none },
  { cls := 14, slots := #[.int (-21)], vm := .none },
  { cls := 14, slots := #[.int (-20)], vm := .none },
  { cls := 14, slots := #[.int (-19)], vm := .none },
  { cls := 14, slots := #[.int (-18)], vm := .none },
  { cls := 14, slots := #[.int (-17)], vm := .none },
  { cls := 14, slots := #[.int (-16)], vm := .none },
  { cls := 14, slots := #[.int (-15)], vm := .none },
  { cls := 14, slots := #[.int (-14)], vm := .none },
  { cls := 14, slots := #[.int (-13)], vm := .none },
  { cls := 14, slots := #[.int (-12)], vm := .none },
  { cls := 14, slots := #[.int (-11)], vm := .none },
  { cls := 14, slots := #[.int (-10)], vm := .none },
  { cls := 14, slots := #[.int (-9)], vm := .none },
  { cls := 14, slots := #[.int (-8)], vm := .none },
  { cls := 14, slots := #[.int (-7)], vm := .none },
  { cls := 14, slots := #[.int (-6)], vm := .none },
  { cls := 14, slots := #[.int (-5)], vm := .none },
  { cls := 14, slots := #[.int (-4)], vm := .none },
  { cls := 14, slots := #[.int (-3)], vm := .none },
  { cls := 14, slots := #[.int (-2)], vm := .none },
  { cls := 14, slots := #[.int (-1)], vm := .none },
  { cls := 14, slots := #[.int 0], vm := .none },
  { cls := 14, slots := #[.int 1], vm := .none },
  { cls := 14, slots := #[.int 2], vm := .none },
  { cls := 14, slots := #[.int 3], vm := .none },
  { cls := 14, slots := #[.int 4], vm := .none },
  { cls := 14, slots := #[.int 5], vm := .none },
  { cls := 14, slots := #[.int 6], vm := .none },
  { cls := 14, slots := #[.int 7], vm := .none },
  { cls := 14, slots := #[.int 8], vm := .none },
  { cls := 14, slots := #[.int 9], vm := .none },
  { cls := 14, slots := #[.int 10], vm := .none },
  { cls := 14, slots := #[.int 11], vm := .none },
  { cls := 14, slots := #[.int 12], vm := .none },
  { cls := 14, slots := #[.int 13], vm := .none },
  { cls := 14, slots := #[.int 14], vm := .none },
  { cls := 14, slots := #[.int 15], vm := .none },
  { cls := 14, slots := #[.int 16], vm := .none },
  { cls := 14, slots := #[.int 17], vm := .none },
  { cls := 14, slots := #[.int 18], vm := .none },
  { cls := 14, slots := #[.int 19], vm := .none },
  { cls := 14, slots := #[.int 20], vm := .none },
  { cls := 14, slots := #[.int 21], vm := .none },
  { cls := 14, slots := #[.int 22], vm := .none },
  { cls := 14, slots := #[.int 23], vm := .none },
  { cls := 14, slots := #[.int 24], vm := .none },
  { cls := 14, slots := #[.int 25], vm := .none },
  { cls := 14, slots := #[.int 26], vm := .none },
  { cls := 14, slots := #[.int 27], vm := .none },
  { cls := 14, slots := #[.int 28], vm := .none },
  { cls := 14, slots := #[.int 29], vm := .none },
  { cls := 14, slots := #[.int 30], vm := .none },
  { cls := 14, slots := #[.int 31], vm := .none },
  { cls := 14, slots := #[.int 32], vm := .none },
  { cls := 14, slots := #[.int 33], vm := .none },
  { cls := 14, slots := #[.int 34], vm := .none },
  { cls := 14, slots := #[.int 35], vm := .none },
  { cls := 14, slots := #[.int 36], vm := .none },
  { cls := 14, slots := #[.int 37], vm := .none },
  { cls := 14, slots := #[.int 38], vm := .none },
  { cls := 14, slots := #[.int 39], vm := .none },
  { cls := 14, slots := #[.int 40], vm := .none },
  { cls := 14, slots := #[.int 41], vm := .none },
  { cls := 14, slots := #[.int 42], vm := .none },
  { cls := 14, slots := #[.int 43], vm := .none },
  { cls := 14, slots := #[.int 44], vm := .none },
  { cls := 14, slots := #[.int 45], vm := .none },
  { cls := 14, slots := #[.int 46], vm := .none },
  { cls := 14, slots := #[.int 47], vm := .none },
  { cls := 14, slots := #[.int 48], vm := .none },
  { cls := 14, slots := #[.int 49], vm := .none },
  { cls := 14, slots := #[.int 50], vm := .none },
  { cls := 14, slots := #[.int 51], vm := .none },
  { cls := 14, slots := #[.int 52], vm := .none },
  { cls := 14, slots := #[.int 53], vm := .none },
  { cls := 14, slots := #[.int 54], vm := .none },
  { cls := 14, slots := #[.int 55], vm := .none },
  { cls := 14, slots := #[.int 56], vm := .none },
  { cls := 14, slots := #[.int 57], vm := .none },
  { cls := 14, slots := #[.int 58], vm := .none },
  { cls := 14, slots := #[.int 59], vm := .none },
  { cls := 14, slots := #[.int 60], vm := .none },
  { cls := 14, slots := #[.int 61], vm := .none },
  { cls := 14, slots := #[.int 62], vm := .none },
  { cls := 14, slots := #[.int 63], vm := .none },
  { cls := 14, slots := #[.int 64], vm := .none },
  { cls := 14, slots := #[.int 65], vm := .none },
  { cls := 14, slots := #[.int 66], vm := .none },
  { cls := 14, slots := #[.int 67], vm := .none },
  { cls := 14, slots := #[.int 68], vm := .none },
  { cls := 14, slots := #[.int 69], vm := .none },
  { cls := 14, slots := #[.int 70], vm := .none },
  { cls := 14, slots := #[.int 71], vm := .none },
  { cls := 14, slots := #[.int 72], vm := .none },
  { cls := 14, slots := #[.int 73], vm := .none },
  { cls := 14, slots := #[.int 74], vm := .none },
  { cls := 14, slots := #[.int 75], vm := .none },
  { cls := 14, slots := #[.int 76], vm := .none },
  { cls := 14, slots := #[.int 77], vm := .none },
  { cls := 14, slots := #[.int 78], vm := .none },
  { cls := 14, slots := #[.int 79], vm := .none },
  { cls := 14, slots := #[.int 80], vm := .none },
  { cls := 14, slots := #[.int 81], vm := .none },
  { cls := 14, slots := #[.int 82], vm := .none },
  { cls := 14, slots := #[.int 83], vm := .none },
  { cls := 14, slots := #[.int 84], vm := .none },
  { cls := 14, slots := #[.int 85], vm := .none },
  { cls := 14, slots := #[.int 86], vm := .none },
  { cls := 14, slots := #[.int 87], vm := .none },
  { cls := 14, slots := #[.int 88], vm := .none },
  { cls := 14, slots := #[.int 89], vm := .none },
  { cls := 14, slots := #[.int 90], vm := .none },
  { cls := 14, slots := #[.int 91], vm := .none },
  { cls := 14, slots := #[.int 92], vm := .none },
  { cls := 14, slots := #[.int 93], vm := .none },
  { cls := 14, slots := #[.int 94], vm := .none },
  { cls := 14, slots := #[.int 95], vm := .none },
  { cls := 14, slots := #[.int 96], vm := .none },
  { cls := 14, slots := #[.int 97], vm := .none },
  { cls := 14, slots := #[.int 98], vm := .none },
  { cls := 14, slots := #[.int 99], vm := .none },
  { cls := 14, slots := #[.int 100], vm := .none },
  { cls := 14, slots := #[.int 101], vm := .none },
  { cls := 14, slots := #[.int 102], vm := .none },
  { cls := 14, slots := #[.int 103], vm := .none },
  { cls := 14, slots := #[.int 104], vm := .none },
  { cls := 14, slots := #[.int 105], vm := .none },
  { cls := 14, slots := #[.int 106], vm := .none },
  { cls := 14, slots := #[.int 107], vm := .none },
  { cls := 14, slots := #[.int 108], vm := .none },
  { cls := 14, slots := #[.int 109], vm := .none },
  { cls := 14, slots := #[.int 110], vm := .none },
  { cls := 14, slots := #[.int 111], vm := .none },
  { cls := 14, slots := #[.int 112], vm := .none },
  { cls := 14, slots := #[.int 113], vm := .none },
  { cls := 14, slots := #[.int 114], vm := .none },
  { cls := 14, slots := #[.int 115], vm := .none },
  { cls := 14, slots := #[.int 116], vm := .none },
  { cls := 14, slots := #[.int 117], vm := .none },
  { cls := 14, slots := #[.int 118], vm := .none },
  { cls := 14, slots := #[.int 119], vm := .none },
  { cls := 14, slots := #[.int 120], vm := .none },
  { cls := 14, slots := #[.int 121], vm := .none },
  { cls := 14, slots := #[.int 122], vm := .none },
  { cls := 14, slots := #[.int 123], vm := .none },
  { cls := 14, slots := #[.int 124], vm := .none },
  { cls := 14, slots := #[.int 125], vm := .none },
  { cls := 14, slots := #[.int 126], vm := .none },
  { cls := 14, slots := #[.int 127], vm := .none },
  { cls := 7, slots := #[.null, .int 0, .int 0], vm := .none },
  { cls := 9, slots := #[.null, .null, .int 0], vm := .none },
  { cls := 11, slots := #[.int 0, .int 0], vm := .none }]
def classes : Array Class := #[k0, k1, k2, k3, k4, k5, k6, k7, k8, k9, k10, k11, k12, k13, k14, k15, k16, k17, k18, k19, k20, k21, k22]
def interned : List (Array UInt16 × Addr) := []
def slotsUsed : Nat := 533
def theMethod : MethodId := ⟨1, 1⟩
def args0 : Array Value := #[.long 5, .int 5, .int 6, .int 7, .int 8, .int 9]
def aboutOver (below : List Frame) : State where
  vm := { classes := classes, interned := interned.toArray }
  heap := heap
  slotsUsed := slotsUsed
  threads := #[{ frames := .invoking theMethod args0 :: below }]
def below0 : List Frame := [.native { method := ⟨0, 0⟩, args := #[] }]
def about1 : State := aboutOver below0
def p0 : Program := .bare "" "" ""
def e0 : Env := launch0.env 0 0 0
theorem w_frames : about1.frames = Frame.invoking theMethod args0 :: below0 := rfl
set_option maxRecDepth 65536 in
theorem w_args : argsFit about1.vm theMethod args0 = true := by decide +kernel
set_option maxRecDepth 65536 in
theorem w_heap : heapFits about1 = true := by decide +kernel
set_option maxRecDepth 65536 in
theorem w_runnable : about1.curStatus? = some .runnable := by decide +kernel
set_option maxRecDepth 65536 in
theorem w_alone : about1.alone = true := by decide +kernel
set_option maxRecDepth 65536 in
theorem w_named : about1.methodNamed? x = some theMethod := by decide +kernel
set_option maxRecDepth 65536 in
theorem w_hears : about1.hears theMethod below0 = true := by decide +kernel
set_option maxRecDepth 65536 in
theorem w_ripe : about1.ripe theMethod args0 below0 = true := by decide +kernel
theorem w_running : about1.status = .running := rfl
set_option maxRecDepth 65536 in
theorem w_room : about1.hasRoom e0.platform room_1 = true :=
  launch0.hasRoom_least _ room_1 (by decide +kernel) (by decide +kernel) (by decide +kernel) (by decide +kernel) (by decide +kernel) (by decide +kernel)
theorem allAtoms_all (ts : List Jvm.Cond) (a : Array Jvm.Value) (st : Jvm.State) : (allAtoms ts).before a st = ts.all (fun c => c.before a st) := by
  induction ts with
  | nil => rfl
  | cons c t ih =>
    show (Jvm.Cond.and c (allAtoms t)).before a st = _
    rw [Jvm.Cond.before_and, ih, List.all_cons]
def words1 : List Jvm.Cond := Jvm.Cond.code x code maxLocals ret :: tables_1
/-- a 'code' word, met by the world's own term for the bytes: nothing is compared byte by byte -/
theorem code_word {y : MethodName} {bytes : ByteArray} {mx : Nat} {rt : Option FieldType} {a : Array Value} {s : State} {m : MethodId} {meth : Method} {c : Code} (h1 : s.methodNamed? y = some m) (h2 : s.vm.method? m = some meth) (h3 : meth.code = some c) (h4 : c.code = bytes)
    (h5 : (c.maxLocals == mx && c.exceptionTable.isEmpty && decide (c.maxStack ≤ mostOperands) && decide (meth.sig.returnType = rt) && !meth.locks && decide (parseMethodDescriptor y.desc = some meth.sig)) = true) : (Jvm.Cond.code y bytes mx rt).before a s = true := by
  simp only [Bool.and_eq_true, beq_iff_eq, Bool.not_eq_true', decide_eq_true_eq] at h5
  obtain ⟨⟨⟨⟨⟨g1, g2⟩, g3⟩, g4⟩, g5⟩, g6⟩ := h5
  simp [Cond.before, Cond.holds, Cond.value, h1, h2, h3, h4, g1, g2, g3, g4, g5, g6]
def isCode : Jvm.Cond → Bool
  | .code _ _ _ _ => true
  | _ => false
theorem all_split {L : List Jvm.Cond} {P : Jvm.Cond → Bool} (h1 : L.all (fun c => isCode c || P c) = true) (h2 : ∀ c ∈ L.filter isCode, P c = true) : L.all P = true := by
  refine List.all_eq_true.mpr fun c hc => ?_
  have h := List.all_eq_true.mp h1 c hc
  rcases Bool.eq_false_or_eq_true (isCode c) with hi | hi
  · exact h2 c (List.mem_filter.mpr ⟨hc, hi⟩)
  · simpa [hi] using h
set_option maxRecDepth 65536 in
theorem w_c0 : (Jvm.Cond.code x code maxLocals ret).before args0 about1 = true := code_word (m := ⟨1, 1⟩) (meth := k1m1) (c := k1c1) (by decide +kernel) rfl rfl rfl (by decide +kernel)
set_option maxRecDepth 65536 in
theorem w_c1 : (Jvm.Cond.code ({ cls := "com/example/gleanwork/gleanwork/server/Job", name := "<init>", desc := "(JLcom/example/gleanwork/gleanwork/job/JobSpec;)V" } : Jvm.MethodName) prog_136_method_1_code (4 : Nat) (Option.none : Option Jvm.ClassFile.FieldType)).before args0 about1 = true := code_word (m := ⟨2, 0⟩) (meth := k2m0) (c := k2c0) (by decide +kernel) rfl rfl rfl (by decide +kernel)
set_option maxRecDepth 65536 in
theorem w_c2 : (Jvm.Cond.code ({ cls := "java/lang/Object", name := "<init>", desc := "()V" } : Jvm.MethodName) object_method_1_code (1 : Nat) (Option.none : Option Jvm.ClassFile.FieldType)).before args0 about1 = true := code_word (m := ⟨0, 0⟩) (meth := k0m0) (c := k0c0) (by decide +kernel) rfl rfl rfl (by decide +kernel)
set_option maxRecDepth 65536 in
theorem w_c3 : (Jvm.Cond.code ({ cls := "com/example/gleanwork/gleanwork/server/Job", name := "limited", desc := "()Z" } : Jvm.MethodName) prog_136_method_5_code (1 : Nat) (Option.some Jvm.ClassFile.FieldType.boolean)).before args0 about1 = true := code_word (m := ⟨2, 2⟩) (meth := k2m2) (c := k2c2) (by decide +kernel) rfl rfl rfl (by decide +kernel)
set_option maxRecDepth 65536 in
theorem w_c4 : (Jvm.Cond.code ({ cls := "com/example/gleanwork/gleanwork/server/OwnLimits", name := "requested", desc := "(Ljava/lang/Integer;Ljava/lang/Integer;)Lcom/example/gleanwork/gleanwork/server/OwnLimits;" } : Jvm.MethodName) prog_171_method_4_code (2 : Nat) (Option.some (Jvm.ClassFile.FieldType.object "com/example/gleanwork/gleanwork/server/OwnLimits"))).before args0 about1 = true := code_word (m := ⟨10, 3⟩) (meth := k10m3) (c := k10c3) (by decide +kernel) rfl rfl rfl (by decide +kernel)
set_option maxRecDepth 65536 in
theorem w_c5 : (Jvm.Cond.code ({ cls := "java/util/OptionalInt", name := "empty", desc := "()Ljava/util/OptionalInt;" } : Jvm.MethodName) jdk_2649_method_2_code (0 : Nat) (Option.some (Jvm.ClassFile.FieldType.object "java/util/OptionalInt"))).before args0 about1 = true := code_word (m := ⟨11, 1⟩) (meth := k11m1) (c := k11c1) (by decide +kernel) rfl rfl rfl (by decide +kernel)
set_option maxRecDepth 65536 in
theorem w_c6 : (Jvm.Cond.code ({ cls := "com/example/gleanwork/gleanwork/server/OwnLimits", name := "<init>", desc := "(Ljava/util/OptionalInt;Ljava/util/OptionalInt;)V" } : Jvm.MethodName) prog_171_method_1_code (3 : Nat) (Option.none : Option Jvm.ClassFile.FieldType)).before args0 about1 = true := code_word (m := ⟨10, 0⟩) (meth := k10m0) (c := k10c0) (by decide +kernel) rfl rfl rfl (by decide +kernel)
set_option maxRecDepth 65536 in
theorem w_c7 : (Jvm.Cond.code ({ cls := "java/lang/Record", name := "<init>", desc := "()V" } : Jvm.MethodName) jdk_30_method_1_code (1 : Nat) (Option.none : Option Jvm.ClassFile.FieldType)).before args0 about1 = true := code_word (m := ⟨8, 0⟩) (meth := k8m0) (c := k8c0) (by decide +kernel) rfl rfl rfl (by decide +kernel)
set_option maxRecDepth 65536 in
theorem w_c8 : (Jvm.Cond.code ({ cls := "java/util/OptionalInt", name := "isPresent", desc := "()Z" } : Jvm.MethodName) jdk_2649_method_6_code (1 : Nat) (Option.some Jvm.ClassFile.FieldType.boolean)).before args0 about1 = true := code_word (m := ⟨11, 5⟩) (meth := k11m5) (c := k11c5) (by decide +kernel) rfl rfl rfl (by decide +kernel)
set_option maxRecDepth 65536 in
theorem w_c9 : (Jvm.Cond.code ({ cls := "com/example/gleanwork/gleanwork/server/Job", name := "setOwnLimits", desc := "(Lcom/example/gleanwork/gleanwork/server/OwnLimits;)V" } : Jvm.MethodName) prog_136_method_6_code (2 : Nat) (Option.none : Option Jvm.ClassFile.FieldType)).before args0 about1 = true := code_word (m := ⟨2, 3⟩) (meth := k2m3) (c := k2c3) (by decide +kernel) rfl rfl rfl (by decide +kernel)
set_option maxRecDepth 65536 in
theorem w_c10 : (Jvm.Cond.code ({ cls := "com/example/gleanwork/gleanwork/server/OwnLimits", name := "maxRunSeconds", desc := "()Ljava/util/OptionalInt;" } : Jvm.MethodName) prog_171_method_13_code (1 : Nat) (Option.some (Jvm.ClassFile.FieldType.object "java/util/OptionalInt"))).before args0 about1 = true := code_word (m := ⟨10, 5⟩) (meth := k10m5) (c := k10c5) (by decide +kernel) rfl rfl rfl (by decide +kernel)
set_option maxRecDepth 65536 in
theorem w_c11 : (Jvm.Cond.code ({ cls := "java/util/OptionalInt", name := "orElse", desc := "(I)I" } : Jvm.MethodName) jdk_2649_method_11_code (2 : Nat) (Option.some Jvm.ClassFile.FieldType.int)).before args0 about1 = true := code_word (m := ⟨11, 6⟩) (meth := k11m6) (c := k11c6) (by decide +kernel) rfl rfl rfl (by decide +kernel)
set_option maxRecDepth 65536 in
theorem w_c12 : (Jvm.Cond.code ({ cls := "com/example/gleanwork/gleanwork/server/OwnLimits", name := "maxFailures", desc := "()Ljava/util/OptionalInt;" } : Jvm.MethodName) prog_171_method_14_code (1 : Nat) (Option.some (Jvm.ClassFile.FieldType.object "java/util/OptionalInt"))).before args0 about1 = true := code_word (m := ⟨10, 6⟩) (meth := k10m6) (c := k10c6) (by decide +kernel) rfl rfl rfl (by decide +kernel)
set_option maxRecDepth 65536 in
theorem w_c13 : (Jvm.Cond.code ({ cls := "com/example/gleanwork/gleanwork/server/Job", name := "ownLimits", desc := "()Lcom/example/gleanwork/gleanwork/server/OwnLimits;" } : Jvm.MethodName) prog_136_method_4_code (1 : Nat) (Option.some (Jvm.ClassFile.FieldType.object "com/example/gleanwork/gleanwork/server/OwnLimits"))).before args0 about1 = true := code_word (m := ⟨2, 1⟩) (meth := k2m1) (c := k2c1) (by decide +kernel) rfl rfl rfl (by decide +kernel)
set_option maxRecDepth 65536 in
theorem w_c14 : (Jvm.Cond.code ({ cls := "com/example/gleanwork/gleanwork/server/OwnLimits", name := "stored", desc := "(II)Lcom/example/gleanwork/gleanwork/server/OwnLimits;" } : Jvm.MethodName) prog_171_method_2_code (2 : Nat) (Option.some (Jvm.ClassFile.FieldType.object "com/example/gleanwork/gleanwork/server/OwnLimits"))).before args0 about1 = true := code_word (m := ⟨10, 1⟩) (meth := k10m1) (c := k10c1) (by decide +kernel) rfl rfl rfl (by decide +kernel)
set_option maxRecDepth 65536 in
theorem w_c15 : (Jvm.Cond.code ({ cls := "com/example/gleanwork/gleanwork/server/OwnLimits", name := "orNone", desc := "(I)Ljava/util/OptionalInt;" } : Jvm.MethodName) prog_171_method_3_code (1 : Nat) (Option.some (Jvm.ClassFile.FieldType.object "java/util/OptionalInt"))).before args0 about1 = true := code_word (m := ⟨10, 2⟩) (meth := k10m2) (c := k10c2) (by decide +kernel) rfl rfl rfl (by decide +kernel)
set_option maxRecDepth 65536 in
theorem w_c16 : (Jvm.Cond.code ({ cls := "com/example/gleanwork/gleanwork/server/OwnLimits", name := "any", desc := "()Z" } : Jvm.MethodName) prog_171_method_6_code (1 : Nat) (Option.some Jvm.ClassFile.FieldType.boolean)).before args0 about1 = true := code_word (m := ⟨10, 4⟩) (meth := k10m4) (c := k10c4) (by decide +kernel) rfl rfl rfl (by decide +kernel)
set_option maxRecDepth 65536 in
theorem w_c17 : (Jvm.Cond.code ({ cls := "java/lang/Integer", name := "valueOf", desc := "(I)Ljava/lang/Integer;" } : Jvm.MethodName) jdk_33_method_22_code (1 : Nat) (Option.some (Jvm.ClassFile.FieldType.object "java/lang/Integer"))).before args0 about1 = true := code_word (m := ⟨14, 0⟩) (meth := k14m0) (c := k14c0) (by decide +kernel) rfl rfl rfl (by decide +kernel)
set_option maxRecDepth 65536 in
theorem w_c18 : (Jvm.Cond.code ({ cls := "java/lang/Math", name := "max", desc := "(II)I" } : Jvm.MethodName) jdk_29_method_65_code (2 : Nat) (Option.some Jvm.ClassFile.FieldType.int)).before args0 about1 = true := code_word (m := ⟨16, 1⟩) (meth := k16m1) (c := k16c1) (by decide +kernel) rfl rfl rfl (by decide +kernel)
set_option maxRecDepth 65536 in
theorem w_c19 : (Jvm.Cond.code ({ cls := "java/lang/Integer", name := "intValue", desc := "()I" } : Jvm.MethodName) jdk_33_method_27_code (1 : Nat) (Option.some Jvm.ClassFile.FieldType.int)).before args0 about1 = true := code_word (m := ⟨14, 2⟩) (meth := k14m2) (c := k14c2) (by decide +kernel) rfl rfl rfl (by decide +kernel)
set_option maxRecDepth 65536 in
theorem w_c20 : (Jvm.Cond.code ({ cls := "java/util/OptionalInt", name := "of", desc := "(I)Ljava/util/OptionalInt;" } : Jvm.MethodName) jdk_2649_method_4_code (1 : Nat) (Option.some (Jvm.ClassFile.FieldType.object "java/util/OptionalInt"))).before args0 about1 = true := code_word (m := ⟨11, 3⟩) (meth := k11m3) (c := k11c3) (by decide +kernel) rfl rfl rfl (by decide +kernel)
set_option maxRecDepth 65536 in
theorem w_c21 : (Jvm.Cond.code ({ cls := "java/util/OptionalInt", name := "<init>", desc := "(I)V" } : Jvm.MethodName) jdk_2649_method_3_code (2 : Nat) (Option.none : Option Jvm.ClassFile.FieldType)).before args0 about1 = true := code_word (m := ⟨11, 2⟩) (meth := k11m2) (c := k11c2) (by decide +kernel) rfl rfl rfl (by decide +kernel)
set_option maxRecDepth 65536 in
theorem w_c22 : (Jvm.Cond.code ({ cls := "java/util/OptionalInt", name := "getAsInt", desc := "()I" } : Jvm.MethodName) jdk_2649_method_5_code (1 : Nat) (Option.some Jvm.ClassFile.FieldType.int)).before args0 about1 = true := code_word (m := ⟨11, 4⟩) (meth := k11m4) (c := k11c4) (by decide +kernel) rfl rfl rfl (by decide +kernel)
set_option maxRecDepth 65536 in
theorem w_c23 : (Jvm.Cond.code ({ cls := "java/lang/Integer", name := "<init>", desc := "(I)V" } : Jvm.MethodName) jdk_33_method_23_code (2 : Nat) (Option.none : Option Jvm.ClassFile.FieldType)).before args0 about1 = true := code_word (m := ⟨14, 1⟩) (meth := k14m1) (c := k14c1) (by decide +kernel) rfl rfl rfl (by decide +kernel)
set_option maxRecDepth 65536 in
theorem w_c24 : (Jvm.Cond.code ({ cls := "java/lang/Number", name := "<init>", desc := "()V" } : Jvm.MethodName) jdk_18_method_1_code (1 : Nat) (Option.none : Option Jvm.ClassFile.FieldType)).before args0 about1 = true := code_word (m := ⟨12, 0⟩) (meth := k12m0) (c := k12c0) (by decide +kernel) rfl rfl rfl (by decide +kernel)
def codes1 : List Jvm.Cond := [Jvm.Cond.code x code maxLocals ret, Jvm.Cond.code ({ cls := "com/example/gleanwork/gleanwork/server/Job", name := "<init>", desc := "(JLcom/example/gleanwork/gleanwork/job/JobSpec;)V" } : Jvm.MethodName) prog_136_method_1_code (4 : Nat) (Option.none : Option Jvm.ClassFile.FieldType), Jvm.Cond.code ({ cls := "java/lang/Object", name := "<init>", desc := "()V" } : Jvm.MethodName) object_method_1_code (1 : Nat) (Option.none : Option Jvm.ClassFile.FieldType), Jvm.Cond.code ({ cls := "com/example/gleanwork/gleanwork/server/Job", name := "limited", desc := "()Z" } : Jvm.MethodName) prog_136_method_5_code (1 : Nat) (Option.some Jvm.ClassFile.FieldType.boolean), Jvm.Cond.code ({ cls := "com/example/gleanwork/gleanwork/server/OwnLimits", name := "requested", desc := "(Ljava/lang/Integer;Ljava/lang/Integer;)Lcom/example/gleanwork/gleanwork/server/OwnLimits;" } : Jvm.MethodName) prog_171_method_4_code (2 : Nat) (Option.some (Jvm.ClassFile.FieldType.object "com/example/gleanwork/gleanwork/server/OwnLimits")), Jvm.Cond.code ({ cls := "java/util/OptionalInt", name := "empty", desc := "()Ljava/util/OptionalInt;" } : Jvm.MethodName) jdk_2649_method_2_code (0 : Nat) (Option.some (Jvm.ClassFile.FieldType.object "java/util/OptionalInt")), Jvm.Cond.code ({ cls := "com/example/gleanwork/gleanwork/server/OwnLimits", name := "<init>", desc := "(Ljava/util/OptionalInt;Ljava/util/OptionalInt;)V" } : Jvm.MethodName) prog_171_method_1_code (3 : Nat) (Option.none : Option Jvm.ClassFile.FieldType), Jvm.Cond.code ({ cls := "java/lang/Record", name := "<init>", desc := "()V" } : Jvm.MethodName) jdk_30_method_1_code (1 : Nat) (Option.none : Option Jvm.ClassFile.FieldType), Jvm.Cond.code ({ cls := "java/util/OptionalInt", name := "isPresent", desc := "()Z" } : Jvm.MethodName) jdk_2649_method_6_code (1 : Nat) (Option.some Jvm.ClassFile.FieldType.boolean), Jvm.Cond.code ({ cls := "com/example/gleanwork/gleanwork/server/Job", name := "setOwnLimits", desc := "(Lcom/example/gleanwork/gleanwork/server/OwnLimits;)V" } : Jvm.MethodName) prog_136_method_6_code (2 : Nat) (Option.none : Option Jvm.ClassFile.FieldType), Jvm.Cond.code ({ cls := "com/example/gleanwork/gleanwork/server/OwnLimits", name := "maxRunSeconds", desc := "()Ljava/util/OptionalInt;" } : Jvm.MethodName) prog_171_method_13_code (1 : Nat) (Option.some (Jvm.ClassFile.FieldType.object "java/util/OptionalInt")), Jvm.Cond.code ({ cls := "java/util/OptionalInt", name := "orElse", desc := "(I)I" } : Jvm.MethodName) jdk_2649_method_11_code (2 : Nat) (Option.some Jvm.ClassFile.FieldType.int), Jvm.Cond.code ({ cls := "com/example/gleanwork/gleanwork/server/OwnLimits", name := "maxFailures", desc := "()Ljava/util/OptionalInt;" } : Jvm.MethodName) prog_171_method_14_code (1 : Nat) (Option.some (Jvm.ClassFile.FieldType.object "java/util/OptionalInt")), Jvm.Cond.code ({ cls := "com/example/gleanwork/gleanwork/server/Job", name := "ownLimits", desc := "()Lcom/example/gleanwork/gleanwork/server/OwnLimits;" } : Jvm.MethodName) prog_136_method_4_code (1 : Nat) (Option.some (Jvm.ClassFile.FieldType.object "com/example/gleanwork/gleanwork/server/OwnLimits")), Jvm.Cond.code ({ cls := "com/example/gleanwork/gleanwork/server/OwnLimits", name := "stored", desc := "(II)Lcom/example/gleanwork/gleanwork/server/OwnLimits;" } : Jvm.MethodName) prog_171_method_2_code (2 : Nat) (Option.some (Jvm.ClassFile.FieldType.object "com/example/gleanwork/gleanwork/server/OwnLimits")), Jvm.Cond.code ({ cls := "com/example/gleanwork/gleanwork/server/OwnLimits", name := "orNone", desc := "(I)Ljava/util/OptionalInt;" } : Jvm.MethodName) prog_171_method_3_code (1 : Nat) (Option.some (Jvm.ClassFile.FieldType.object "java/util/OptionalInt")), Jvm.Cond.code ({ cls := "com/example/gleanwork/gleanwork/server/OwnLimits", name := "any", desc := "()Z" } : Jvm.MethodName) prog_171_method_6_code (1 : Nat) (Option.some Jvm.ClassFile.FieldType.boolean), Jvm.Cond.code ({ cls := "java/lang/Integer", name := "valueOf", desc := "(I)Ljava/lang/Integer;" } : Jvm.MethodName) jdk_33_method_22_code (1 : Nat) (Option.some (Jvm.ClassFile.FieldType.object "java/lang/Integer")), Jvm.Cond.code ({ cls := "java/lang/Math", name := "max", desc := "(II)I" } : Jvm.MethodName) jdk_29_method_65_code (2 : Nat) (Option.some Jvm.ClassFile.FieldType.int), Jvm.Cond.code ({ cls := "java/lang/Integer", name := "intValue", desc := "()I" } : Jvm.MethodName) jdk_33_method_27_code (1 : Nat) (Option.some Jvm.ClassFile.FieldType.int), Jvm.Cond.code ({ cls := "java/util/OptionalInt", name := "of", desc := "(I)Ljava/util/OptionalInt;" } : Jvm.MethodName) jdk_2649_method_4_code (1 : Nat) (Option.some (Jvm.ClassFile.FieldType.object "java/util/OptionalInt")), Jvm.Cond.code ({ cls := "java/util/OptionalInt", name := "<init>", desc := "(I)V" } : Jvm.MethodName) jdk_2649_method_3_code (2 : Nat) (Option.none : Option Jvm.ClassFile.FieldType), Jvm.Cond.code ({ cls := "java/util/OptionalInt", name := "getAsInt", desc := "()I" } : Jvm.MethodName) jdk_2649_method_5_code (1 : Nat) (Option.some Jvm.ClassFile.FieldType.int), Jvm.Cond.code ({ cls := "java/lang/Integer", name := "<init>", desc := "(I)V" } : Jvm.MethodName) jdk_33_method_23_code (2 : Nat) (Option.none : Option Jvm.ClassFile.FieldType), Jvm.Cond.code ({ cls := "java/lang/Number", name := "<init>", desc := "()V" } : Jvm.MethodName) jdk_18_method_1_code (1 : Nat) (Option.none : Option Jvm.ClassFile.FieldType)]
set_option maxRecDepth 65536 in
theorem codes_eq : words1.filter isCode = codes1 := rfl
theorem w_codes : ∀ c ∈ words1.filter isCode, c.before args0 about1 = true := by
  rw [codes_eq]
  intro c hc
  simp only [codes1, List.mem_cons, List.not_mem_nil, or_false] at hc
  rcases hc with rfl | rfl | rfl | rfl | rfl | rfl | rfl | rfl | rfl | rfl | rfl | rfl | rfl | rfl | rfl | rfl | rfl | rfl | rfl | rfl | rfl | rfl | rfl | rfl | rfl
  · exact w_c0
  · exact w_c1
  · exact w_c2
  · exact w_c3
  · exact w_c4
  · exact w_c5
  · exact w_c6
  · exact w_c7
  · exact w_c8
  · exact w_c9
  · exact w_c10
  · exact w_c11
  · exact w_c12
  · exact w_c13
  · exact w_c14
  · exact w_c15
  · exact w_c16
  · exact w_c17
  · exact w_c18
  · exact w_c19
  · exact w_c20
  · exact w_c21
  · exact w_c22
  · exact w_c23
  · exact w_c24
set_option maxRecDepth 65536 in
theorem w_t1 : (words1.take 24).all (fun c => isCode c || c.before args0 about1) = true := by decide +kernel
set_option maxRecDepth 65536 in
theorem w_t2 : ((words1.drop 24).take 24).all (fun c => isCode c || c.before args0 about1) = true := by decide +kernel
set_option maxRecDepth 65536 in
theorem w_t3 : (((words1.drop 24).drop 24).take 24).all (fun c => isCode c || c.before args0 about1) = true := by decide +kernel
set_option maxRecDepth 65536 in
theorem w_t4 : ((((words1.drop 24).drop 24).drop 24).take 24).all (fun c => isCode c || c.before args0 about1) = true := by decide +kernel
set_option maxRecDepth 65536 in
theorem w_t5 : (((((words1.drop 24).drop 24).drop 24).drop 24).take 24).all (fun c => isCode c || c.before args0 about1) = true := by decide +kernel
set_option maxRecDepth 65536 in
theorem w_t6 : ((((((words1.drop 24).drop 24).drop 24).drop 24).drop 24).take 24).all (fun c => isCode c || c.before args0 about1) = true := by decide +kernel
set_option maxRecDepth 65536 in
theorem w_t7 : ((((((words1.drop 24).drop 24).drop 24).drop 24).drop 24).drop 24).all (fun c => isCode c || c.before args0 about1) = true := by decide +kernel
theorem w_tables : (allAtoms (Jvm.Cond.code x code maxLocals ret :: tables_1)).before args0 about1 = true := by
  rw [allAtoms_all]
  show words1.all (fun c => c.before args0 about1) = true
  refine all_split ?_ w_codes
  rw [← List.take_append_drop 24 words1, List.all_append, w_t1, ← List.take_append_drop 24 (words1.drop 24), List.all_append, w_t2, ← List.take_append_drop 24 ((words1.drop 24).drop 24), List.all_append, w_t3, ← List.take_append_drop 24 (((words1.drop 24).drop 24).drop 24), List.all_append, w_t4, ← List.take_append_drop 24 ((((words1.drop 24).drop 24).drop 24).drop 24), List.all_append, w_t5, ← List.take_append_drop 24 (((((words1.drop 24).drop 24).drop 24).drop 24).drop 24), List.all_append, w_t6, w_t7]
  rfl
set_option maxRecDepth 65536 in
theorem w_rest : rest_1_c.before args0 about1 = true := by decide +kernel
set_option maxRecDepth 65536 in
theorem w_case : (Jvm.Cond.and given_1 narrow_1).before args0 about1 = true := by decide +kernel
theorem w_applies : (headSpec (Jvm.Cond.code x code maxLocals ret :: tables_1) room_1).applies x e0.platform about1 = true :=
  (Spec.applies_iff w_frames).mpr ⟨w_running, w_runnable, w_alone, w_named, w_hears, w_ripe, w_room, w_tables⟩
theorem atStart : AtStart classFile x code maxLocals ret World_1 tables_1 room_1 Calls_1 rest_1 Pre_1 launch0 p0 e0 about1 theMethod args0 below0 :=
  ⟨lists_1, trivial, launch0.admits_env _ _ _, launch0.least_env, fairChoices_fair.cas, fairChoices_fair.clock, w_frames, w_args, w_heap, w_applies, trivial, w_rest, w_case⟩
end start1
theorem witness_1 : WitnessClaimed_1 := ⟨start1.p0, start1.e0, start1.about1, start1.theMethod, start1.args0, start1.below0, start1.atStart⟩
end Jvm.Pilot.@@N@@
